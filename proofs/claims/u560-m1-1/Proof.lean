import JvmDerived
import JvmDerived.Pilot.@@N@@Statement
import JvmDerived.Pilot.@@N@@Code
set_option linter.unusedVariables false
set_option linter.unusedSimpArgs false
namespace Jvm.RoadKit
open Sem ClassFile Op Lib Jvm.Stand Jvm.Free Jvm.LawKit
section New
variable {p : Program} {l : Launch} {e : Env} {R : Room} {s : State} {m : MethodId} {args : Array Value} {below : List Frame} {meth : Method} {c : Code} {T : State} {locs : List Loc} {cells slots : Nat}
theorem retI (X : Stand p l e R s m args below meth c T locs cells slots) (hx : p.tables.exec = Jvm.exec) {pc : Nat} {Ls : Array Slot} {z : Int32} {rest : List Value} (hret : meth.sig.returnType = some .int) (hd : decode c.code pc = .ok (.ireturn, 1)) {fs : List Frame}
    (hl : ∀ (f : JFrame) (acts : List Action), f.method = m → f.locked = none → f.entered = [] → (doReturn e (T.setTop f) acts (some (.int z))).1 = T.setFrames fs) : Steps p.tables e below (T.setTop (mkF m pc Ls (.int z :: rest))) (T.setFrames fs) := by
  have hm' : T.vm.method? m = some meth := X.method'
  have hn : narrow .int (.int z) = .int z := rfl
  show Steps p.tables e below (T.setTop { method := m, pc := pc, locals := Ls, stack := _ :: rest, locked := none }) _
  jvm_step X.here [X.here.top, hx, hd, hm', hret, hn]
  first | (intro acts; rw [hl _ acts rfl rfl rfl]) | rw [hl _ _ rfl rfl rfl]
  exact Steps.refl _
end New
end Jvm.RoadKit
namespace Jvm.Pilot.@@N@@
open Jvm Jvm.ClassFile Sem Op Lib Jvm.Free Jvm.Stand Jvm.LawKit Jvm.RoadKit Bundle Jvm.Pilot.@@N@@.Jvm.D
def own_Q (r : Option Value) (h0 : Heap) (n0 : Nat) (v : Option Value) (h : Heap) (L : List Loc) : Prop := v = r ∧ Fr n0 L ∧ h = h0
theorem own_n1 {x a : Nat} (h : x ≠ a) : x ∉ [a] := fun q => h (List.mem_singleton.mp q)
theorem own_n2 {x a b : Nat} (h1 : x ≠ a) (h2 : x ≠ b) : x ∉ [a, b] := fun q => (List.mem_cons.mp q).elim h1 fun r => h2 (List.mem_singleton.mp r)
theorem own_m1 {x a n : Nat} (h : x ∈ [a]) (h1 : n ≤ a) : n ≤ x := (List.mem_singleton.mp h) ▸ h1
theorem own_m2 {x a b n : Nat} (h : x ∈ [a, b]) (h1 : n ≤ a) (h2 : n ≤ b) : n ≤ x := (List.mem_cons.mp h).elim (fun q => q ▸ h1) fun r => (List.mem_singleton.mp r) ▸ h2
theorem own_lt' {a b : Nat} (h : a < b) : a < b := h
theorem own_le' {a b : Nat} (h : a ≤ b) : a ≤ b := h
theorem own_ne' {a b : Nat} (h : a ≠ b) : a ≠ b := h
theorem own_sta {Z : State} {h h' : Heap} {C n d : String} {v : Value} (F : Sta Z h C n d v) (K : Keep h h' []) : Sta Z h' C n d v := by
  obtain ⟨cf, i, k, f, st, cell, h1, h2, h3, h4, h5, h6, h7⟩ := F
  exact ⟨cf, i, k, f, st, cell, h1, h2, h3, h4, K.2.1 _ _ h5 List.not_mem_nil, h6, h7⟩
theorem own_lc (x : Int64) : ¬ ((0 : Int32) < lcmpW x x) := by rw [(lw_eq x x).mpr rfl]; decide
def own_sp (vs xs : List Value) (p n : Nat) : List Value := vs.take p ++ xs ++ vs.drop (p + n)
theorem own_four (x : Int32) : (x &&& (3 : Int32)) = 0 ∨ (x &&& (3 : Int32)) = 1 ∨ (x &&& (3 : Int32)) = 2 ∨ (x &&& (3 : Int32)) = 3 := by
  have b : (x &&& (3 : Int32)).toBitVec.toNat < 4 := by
    rw [Int32.toBitVec_and, BitVec.toNat_and]
    exact Nat.lt_of_le_of_lt Nat.and_le_right (by decide)
  generalize (x &&& (3 : Int32)) = y at *
  have e (k : Nat) (z : Int32) (hz : z.toBitVec.toNat = k) (h : y.toBitVec.toNat = k) : y = z := Int32.toBitVec_inj.mp (BitVec.eq_of_toNat_eq (h.trans hz.symm))
  rcases (by omega : y.toBitVec.toNat = 0 ∨ y.toBitVec.toNat = 1 ∨ y.toBitVec.toNat = 2 ∨ y.toBitVec.toNat = 3) with h | h | h | h
  · exact Or.inl (e 0 0 (by decide) h)
  · exact Or.inr (Or.inl (e 1 1 (by decide) h))
  · exact Or.inr (Or.inr (Or.inl (e 2 2 (by decide) h)))
  · exact Or.inr (Or.inr (Or.inr (e 3 3 (by decide) h)))
theorem own_two (x : Int32) : ((1 : Int32) + (x &&& (1 : Int32))) = 1 ∨ ((1 : Int32) + (x &&& (1 : Int32))) = 2 := by
  have b : (x &&& (1 : Int32)).toBitVec.toNat < 2 := by
    rw [Int32.toBitVec_and, BitVec.toNat_and]
    exact Nat.lt_of_le_of_lt Nat.and_le_right (by decide)
  generalize (x &&& (1 : Int32)) = y at *
  have e (k : Nat) (z : Int32) (hz : z.toBitVec.toNat = k) (h : y.toBitVec.toNat = k) : y = z := Int32.toBitVec_inj.mp (BitVec.eq_of_toNat_eq (h.trans hz.symm))
  rcases (by omega : y.toBitVec.toNat = 0 ∨ y.toBitVec.toNat = 1) with h | h
  · rw [e 0 0 (by decide) h]; exact Or.inl (by decide)
  · rw [e 1 1 (by decide) h]; exact Or.inr (by decide)
section Own
variable {i j k : Int32} (hi : i = 0 ∨ i = 1 ∨ i = 2 ∨ i = 3) (hj : j = 0 ∨ j = 1 ∨ j = 2 ∨ j = 3) (hk : k = 0 ∨ k = 1 ∨ k = 2 ∨ k = 3) {A B C D d : Value}
theorem own_in4 {i : Int32} (hi : i = 0 ∨ i = 1 ∨ i = 2 ∨ i = 3) : ¬ i < 0 ∧ i < 4 := by rcases hi with rfl | rfl | rfl | rfl <;> decide
theorem own_in1_0 {i : Int32} (hi : i = 0 ∨ i = 1 ∨ i = 2 ∨ i = 3) : ¬ ((i * 1) + 0) < 0 ∧ ((i * 1) + 0) < (4 : Int32) * 1 := by rcases hi with rfl | rfl | rfl | rfl <;> decide
theorem own_in2_0 {i : Int32} (hi : i = 0 ∨ i = 1 ∨ i = 2 ∨ i = 3) : ¬ ((i * 2) + 0) < 0 ∧ ((i * 2) + 0) < (4 : Int32) * 2 := by rcases hi with rfl | rfl | rfl | rfl <;> decide
theorem own_in2_1 {i : Int32} (hi : i = 0 ∨ i = 1 ∨ i = 2 ∨ i = 3) : ¬ ((i * 2) + (0 + 1)) < 0 ∧ ((i * 2) + (0 + 1)) < (4 : Int32) * 2 := by rcases hi with rfl | rfl | rfl | rfl <;> decide
theorem own_lt4_a {i : Int32} (hi : i = 0 ∨ i = 1 ∨ i = 2 ∨ i = 3) : i.toNatClampNeg < (List.replicate 4 d).length := by rcases hi with rfl | rfl | rfl | rfl <;> exact Nat.le_of_ble_eq_true rfl
theorem own_lt4_b {j : Int32} (hj : j = 0 ∨ j = 1 ∨ j = 2 ∨ j = 3) {n : Nat} : j.toNatClampNeg < ((List.replicate 4 d).set n A).length := by rw [List.length_set]; exact own_lt4_a hj
theorem own_c2_1 {i : Int32} (hi : i = 0 ∨ i = 1 ∨ i = 2 ∨ i = 3) : ¬ (i * 1) < 0 := by rcases hi with rfl | rfl | rfl | rfl <;> decide
theorem own_c2_2 {i : Int32} (hi : i = 0 ∨ i = 1 ∨ i = 2 ∨ i = 3) : ¬ (i * 2) < 0 := by rcases hi with rfl | rfl | rfl | rfl <;> decide
theorem own_c5_1 {i : Int32} (hi : i = 0 ∨ i = 1 ∨ i = 2 ∨ i = 3) : (i * 1).toNatClampNeg + (1 : Int32).toNatClampNeg ≤ ((4 : Int32) * 1).toNatClampNeg := by rcases hi with rfl | rfl | rfl | rfl <;> decide
theorem own_c5_2 {i : Int32} (hi : i = 0 ∨ i = 1 ∨ i = 2 ∨ i = 3) : (i * 2).toNatClampNeg + (2 : Int32).toNatClampNeg ≤ ((4 : Int32) * 2).toNatClampNeg := by rcases hi with rfl | rfl | rfl | rfl <;> decide
theorem own_vl_1 {i : Int32} (hi : i = 0 ∨ i = 1 ∨ i = 2 ∨ i = 3) : (i * 1).toNatClampNeg + (1 : Int32).toNatClampNeg ≤ (List.replicate 4 d).length := by rcases hi with rfl | rfl | rfl | rfl <;> exact Nat.le_of_ble_eq_true rfl
theorem own_vl_2 {i : Int32} (hi : i = 0 ∨ i = 1 ∨ i = 2 ∨ i = 3) : (i * 2).toNatClampNeg + (2 : Int32).toNatClampNeg ≤ (List.replicate 8 d).length := by rcases hi with rfl | rfl | rfl | rfl <;> exact Nat.le_of_ble_eq_true rfl
theorem own_vl2_1 {i j : Int32} (hi : i = 0 ∨ i = 1 ∨ i = 2 ∨ i = 3) (hj : j = 0 ∨ j = 1 ∨ j = 2 ∨ j = 3) : (j * 1).toNatClampNeg + (1 : Int32).toNatClampNeg ≤ (own_sp (List.replicate 4 d) [A] (i * 1).toNatClampNeg (1 : Int32).toNatClampNeg).length := by
  rcases hi with rfl | rfl | rfl | rfl <;> rcases hj with rfl | rfl | rfl | rfl <;> exact Nat.le_of_ble_eq_true rfl
theorem own_vl2_2 {i j : Int32} (hi : i = 0 ∨ i = 1 ∨ i = 2 ∨ i = 3) (hj : j = 0 ∨ j = 1 ∨ j = 2 ∨ j = 3) : (j * 2).toNatClampNeg + (2 : Int32).toNatClampNeg ≤ (own_sp (List.replicate 8 d) [A, B] (i * 2).toNatClampNeg (2 : Int32).toNatClampNeg).length := by
  rcases hi with rfl | rfl | rfl | rfl <;> rcases hj with rfl | rfl | rfl | rfl <;> exact Nat.le_of_ble_eq_true rfl
theorem own_lj {i j : Int32} (hi : i = 0 ∨ i = 1 ∨ i = 2 ∨ i = 3) (hj : j = 0 ∨ j = 1 ∨ j = 2 ∨ j = 3) : (((List.replicate 4 d).set i.toNatClampNeg A).set j.toNatClampNeg B).getD j.toNatClampNeg d = B := by
  rcases hi with rfl | rfl | rfl | rfl <;> rcases hj with rfl | rfl | rfl | rfl <;> rfl
theorem own_li {i j : Int32} (hi : i = 0 ∨ i = 1 ∨ i = 2 ∨ i = 3) (hj : j = 0 ∨ j = 1 ∨ j = 2 ∨ j = 3) (h : ¬ i = j) : (((List.replicate 4 d).set i.toNatClampNeg A).set j.toNatClampNeg B).getD i.toNatClampNeg d = A := by
  rcases hi with rfl | rfl | rfl | rfl <;> rcases hj with rfl | rfl | rfl | rfl <;> first | exact absurd rfl h | rfl
theorem own_lk {i j k : Int32} (hi : i = 0 ∨ i = 1 ∨ i = 2 ∨ i = 3) (hj : j = 0 ∨ j = 1 ∨ j = 2 ∨ j = 3) (hk : k = 0 ∨ k = 1 ∨ k = 2 ∨ k = 3) (h1 : ¬ k = i) (h2 : ¬ k = j) : (((List.replicate 4 d).set i.toNatClampNeg A).set j.toNatClampNeg B).getD k.toNatClampNeg d = d := by
  rcases hi with rfl | rfl | rfl | rfl <;> rcases hj with rfl | rfl | rfl | rfl <;> rcases hk with rfl | rfl | rfl | rfl <;> first | exact absurd rfl h1 | exact absurd rfl h2 | rfl
theorem own_vj_1_0 {i j : Int32} (hi : i = 0 ∨ i = 1 ∨ i = 2 ∨ i = 3) (hj : j = 0 ∨ j = 1 ∨ j = 2 ∨ j = 3) : (own_sp (own_sp (List.replicate 4 d) [A] (i * 1).toNatClampNeg (1 : Int32).toNatClampNeg) [C] (j * 1).toNatClampNeg (1 : Int32).toNatClampNeg).getD ((j * 1) + 0).toNatClampNeg d = C := by
  rcases hi with rfl | rfl | rfl | rfl <;> rcases hj with rfl | rfl | rfl | rfl <;> rfl
theorem own_vi_1_0 {i j : Int32} (hi : i = 0 ∨ i = 1 ∨ i = 2 ∨ i = 3) (hj : j = 0 ∨ j = 1 ∨ j = 2 ∨ j = 3) (h : ¬ i = j) : (own_sp (own_sp (List.replicate 4 d) [A] (i * 1).toNatClampNeg (1 : Int32).toNatClampNeg) [C] (j * 1).toNatClampNeg (1 : Int32).toNatClampNeg).getD ((i * 1) + 0).toNatClampNeg d = A := by
  rcases hi with rfl | rfl | rfl | rfl <;> rcases hj with rfl | rfl | rfl | rfl <;> first | exact absurd rfl h | rfl
theorem own_vk_1_0 {i j k : Int32} (hi : i = 0 ∨ i = 1 ∨ i = 2 ∨ i = 3) (hj : j = 0 ∨ j = 1 ∨ j = 2 ∨ j = 3) (hk : k = 0 ∨ k = 1 ∨ k = 2 ∨ k = 3) (h1 : ¬ k = i) (h2 : ¬ k = j) : (own_sp (own_sp (List.replicate 4 d) [A] (i * 1).toNatClampNeg (1 : Int32).toNatClampNeg) [C] (j * 1).toNatClampNeg (1 : Int32).toNatClampNeg).getD ((k * 1) + 0).toNatClampNeg d = d := by
  rcases hi with rfl | rfl | rfl | rfl <;> rcases hj with rfl | rfl | rfl | rfl <;> rcases hk with rfl | rfl | rfl | rfl <;> first | exact absurd rfl h1 | exact absurd rfl h2 | rfl
theorem own_vj_2_0 {i j : Int32} (hi : i = 0 ∨ i = 1 ∨ i = 2 ∨ i = 3) (hj : j = 0 ∨ j = 1 ∨ j = 2 ∨ j = 3) : (own_sp (own_sp (List.replicate 8 d) [A, B] (i * 2).toNatClampNeg (2 : Int32).toNatClampNeg) [C, D] (j * 2).toNatClampNeg (2 : Int32).toNatClampNeg).getD ((j * 2) + 0).toNatClampNeg d = C := by
  rcases hi with rfl | rfl | rfl | rfl <;> rcases hj with rfl | rfl | rfl | rfl <;> rfl
theorem own_vi_2_0 {i j : Int32} (hi : i = 0 ∨ i = 1 ∨ i = 2 ∨ i = 3) (hj : j = 0 ∨ j = 1 ∨ j = 2 ∨ j = 3) (h : ¬ i = j) : (own_sp (own_sp (List.replicate 8 d) [A, B] (i * 2).toNatClampNeg (2 : Int32).toNatClampNeg) [C, D] (j * 2).toNatClampNeg (2 : Int32).toNatClampNeg).getD ((i * 2) + 0).toNatClampNeg d = A := by
  rcases hi with rfl | rfl | rfl | rfl <;> rcases hj with rfl | rfl | rfl | rfl <;> first | exact absurd rfl h | rfl
theorem own_vk_2_0 {i j k : Int32} (hi : i = 0 ∨ i = 1 ∨ i = 2 ∨ i = 3) (hj : j = 0 ∨ j = 1 ∨ j = 2 ∨ j = 3) (hk : k = 0 ∨ k = 1 ∨ k = 2 ∨ k = 3) (h1 : ¬ k = i) (h2 : ¬ k = j) : (own_sp (own_sp (List.replicate 8 d) [A, B] (i * 2).toNatClampNeg (2 : Int32).toNatClampNeg) [C, D] (j * 2).toNatClampNeg (2 : Int32).toNatClampNeg).getD ((k * 2) + 0).toNatClampNeg d = d := by
  rcases hi with rfl | rfl | rfl | rfl <;> rcases hj with rfl | rfl | rfl | rfl <;> rcases hk with rfl | rfl | rfl | rfl <;> first | exact absurd rfl h1 | exact absurd rfl h2 | rfl
theorem own_vj_2_1 {i j : Int32} (hi : i = 0 ∨ i = 1 ∨ i = 2 ∨ i = 3) (hj : j = 0 ∨ j = 1 ∨ j = 2 ∨ j = 3) : (own_sp (own_sp (List.replicate 8 d) [A, B] (i * 2).toNatClampNeg (2 : Int32).toNatClampNeg) [C, D] (j * 2).toNatClampNeg (2 : Int32).toNatClampNeg).getD ((j * 2) + (0 + 1)).toNatClampNeg d = D := by
  rcases hi with rfl | rfl | rfl | rfl <;> rcases hj with rfl | rfl | rfl | rfl <;> rfl
theorem own_vi_2_1 {i j : Int32} (hi : i = 0 ∨ i = 1 ∨ i = 2 ∨ i = 3) (hj : j = 0 ∨ j = 1 ∨ j = 2 ∨ j = 3) (h : ¬ i = j) : (own_sp (own_sp (List.replicate 8 d) [A, B] (i * 2).toNatClampNeg (2 : Int32).toNatClampNeg) [C, D] (j * 2).toNatClampNeg (2 : Int32).toNatClampNeg).getD ((i * 2) + (0 + 1)).toNatClampNeg d = B := by
  rcases hi with rfl | rfl | rfl | rfl <;> rcases hj with rfl | rfl | rfl | rfl <;> first | exact absurd rfl h | rfl
theorem own_vk_2_1 {i j k : Int32} (hi : i = 0 ∨ i = 1 ∨ i = 2 ∨ i = 3) (hj : j = 0 ∨ j = 1 ∨ j = 2 ∨ j = 3) (hk : k = 0 ∨ k = 1 ∨ k = 2 ∨ k = 3) (h1 : ¬ k = i) (h2 : ¬ k = j) : (own_sp (own_sp (List.replicate 8 d) [A, B] (i * 2).toNatClampNeg (2 : Int32).toNatClampNeg) [C, D] (j * 2).toNatClampNeg (2 : Int32).toNatClampNeg).getD ((k * 2) + (0 + 1)).toNatClampNeg d = d := by
  rcases hi with rfl | rfl | rfl | rfl <;> rcases hj with rfl | rfl | rfl | rfl <;> rcases hk with rfl | rfl | rfl | rfl <;> first | exact absurd rfl h1 | exact absurd rfl h2 | rfl
end Own
theorem d1_0 : decode method_2_code 0 = .ok (.iload_n 0, 1) := by decide +kernel
theorem d1_1 : decode method_2_code 1 = .ok (.iconst 1, 1) := by decide +kernel
theorem d1_2 : decode method_2_code 2 = .ok (.if_icmp .ne 11, 3) := by decide +kernel
theorem d1_5 : decode method_2_code 5 = .ok (.iconst 1, 1) := by decide +kernel
theorem d1_6 : decode method_2_code 6 = .ok (.newarray .long, 2) := by decide +kernel
theorem d1_8 : decode method_2_code 8 = .ok (.dup, 1) := by decide +kernel
theorem d1_9 : decode method_2_code 9 = .ok (.iconst 0, 1) := by decide +kernel
theorem d1_10 : decode method_2_code 10 = .ok (.lload_n 1, 1) := by decide +kernel
theorem d1_11 : decode method_2_code 11 = .ok (.lastore, 1) := by decide +kernel
theorem d1_12 : decode method_2_code 12 = .ok (.areturn, 1) := by decide +kernel
theorem d1_13 : decode method_2_code 13 = .ok (.iconst 2, 1) := by decide +kernel
theorem d1_14 : decode method_2_code 14 = .ok (.newarray .long, 2) := by decide +kernel
theorem d1_16 : decode method_2_code 16 = .ok (.dup, 1) := by decide +kernel
theorem d1_17 : decode method_2_code 17 = .ok (.iconst 0, 1) := by decide +kernel
theorem d1_18 : decode method_2_code 18 = .ok (.lload_n 1, 1) := by decide +kernel
theorem d1_19 : decode method_2_code 19 = .ok (.lastore, 1) := by decide +kernel
theorem d1_20 : decode method_2_code 20 = .ok (.dup, 1) := by decide +kernel
theorem d1_21 : decode method_2_code 21 = .ok (.iconst 1, 1) := by decide +kernel
theorem d1_22 : decode method_2_code 22 = .ok (.lload_n 3, 1) := by decide +kernel
theorem d1_23 : decode method_2_code 23 = .ok (.lastore, 1) := by decide +kernel
theorem d1_24 : decode method_2_code 24 = .ok (.areturn, 1) := by decide +kernel
theorem ef_1 (m : MethodId) (x0 : Int32) (x1 : Int64) (x2 : Int64) : entryFrame m #[(.int x0), (.long x1), (.long x2)] 5 = mkF m 0 #[.val (.int x0), .val (.long x1), .second, .val (.long x2), .second] [] := by first | (simp [entryFrame, mkF, argsToLocals, Value.category]; done) | rfl
theorem pn_1 : plainName "com/example/crossmode/crossmode/search/LabelSetSetPinLaw" = true := by first | (simp [plainName, overriddenIn]; done) | decide +kernel
def own_Q1 (Z : State) (z : Int32) (xs : List Value) (h0 : Heap) (n0 : Nat) (v : Option Value) (h : Heap) (L : List Loc) : Prop := v = some (.ref h0.size) ∧ Fr n0 L ∧ Keep h0 h [] ∧ ∃ k, Arv Z h h0.size k .long z xs (.long (0 : Int64))
set_option maxRecDepth 65536 in
set_option maxHeartbeats 40000000 in
theorem own_rm1_1 (l : Launch) (Z : State) (a0 : Array Value) (hw : ∀ d ∈ tables_1, d.before a0 Z = true) (ws : List Jvm.Cond) (p1 : Int32) (q2 : Int64) (q3 : Int64) (h0 : Heap) (n0 : Nat) (Z0 : n0 ≤ h0.size) (hc2 : p1 = (1 : Int32)) :
    MetFree l (⟨"com/example/crossmode/crossmode/search/LabelSetSetPinLaw", "weights", "(IJJ)[J"⟩ : MethodName) (head1 (Jvm.Cond.code (⟨"com/example/crossmode/crossmode/search/LabelSetSetPinLaw", "weights", "(IJJ)[J"⟩ : MethodName) method_2_code 5 (some (.array .long)) :: ws) ({ frames := 0, cells := 1, slots := 1, locals := 0 } : Room)) (fun a U => a = #[(.int p1), (.long q2), (.long q3)] ∧ Z.Warmed39 U.vm ∧ U.heap = h0) (fun _ _ _ _ _ => True) (fun _ U o U' => ∃ v L, o = .returned v ∧ own_Q1 Z (1 : Int32) [.long q2] h0 n0 v U'.heap L ∧ FrameEnd U o U' L ({ frames := 0, cells := 1, slots := 1, locals := 0 } : Room).cells ({ frames := 0, cells := 1, slots := 1, locals := 0 } : Room).slots) := by
  refine MetFree.of_bodySF (plainFor_of_name pn_1) hisR ?_
  intro p e s m args below meth c s₁ Bd hml0 hP hK
  obtain ⟨rfl, hZ, hh⟩ := hP
  have hx := Bd.exec
  have hby := Bd.bytes
  have hml : c.maxLocals = 5 := hml0
  have hown : s.vm.findClass "com/example/crossmode/crossmode/search/LabelSetSetPinLaw" = some m.cls := findClass_of_methodNamed Bd.named
  have hnm := (name_of_methodNamed Bd.named Bd.method).1
  have X0 : Stand p l e ({ frames := 0, cells := 1, slots := 1, locals := 0 } : Room) s m #[(.int p1), (.long q2), (.long q3)] below meth c s₁ [] 0 0 := Stand.of_body Bd
  have e0 : s₁.heap = h0 := by rw [← hh, Bd.state]; rfl
  have N0 := Fr.nil n0
  have pre0 : ∀ t, Steps p.tables e below (s₁.setTop (mkF m 0 #[.val (.int p1), .val (.long q2), .second, .val (.long q3), .second] [])) t → Steps p.tables e below (s₁.setTop (entryFrame m #[(.int p1), (.long q2), (.long q3)] 5)) t := fun t k => castTop (ef_1 m p1 q2 q3) k
  obtain ⟨T4, h4, k4, X4, e4, E4, A4, st4⟩ := newP X0 hx hZ (hw _ (List.mem_of_getElem? (i := 4) rfl)) e0 (g := (mkF m 6 #[.val (.int p1), .val (.long q2), .second, .val (.long q3), .second] [(.int (1 : Int32))])) rfl (hb hby d1_6) rfl (by decide) (cap := 1) (by decide) (by decide) (by decide) (by decide)
  obtain ⟨b4, g4⟩ : ∃ z, z = h0.size := ⟨_, rfl⟩
  rw [← g4] at A4 st4
  have V_b4 : Arv Z h4 b4 k4 .long (1 : Int32) [(.long (0 : Int64))] (.long (0 : Int64)) := (Arv.new A4 (by decide)).pad (pad_rep [] (.long (0 : Int64)) 1)
  have g_b4 : n0 ≤ b4 := Nat.le_trans Z0 (Nat.le_of_eq g4.symm)
  have sz_b4 : h0.size ≤ b4 := (Nat.le_trans (Keep.refl h0 []).1 (Nat.le_of_eq g4.symm))
  have K4 : Keep h0 h4 [] := (Keep.refl h0 []).ext E4
  obtain ⟨cl_b4_11, Ar_b4, q_b4, S_b4, N_b4, H_b4, G_b4⟩ := V_b4
  have hin11 : ¬ ((0 : Int32) < 0 ∨ cl_b4_11.slots.size ≤ ((0 : Int32)).toNatClampNeg) := inb_of S_b4 ⟨by decide, by decide⟩
  obtain ⟨T5, h5, X5, e5, W5, st5⟩ := stJ X4 hx hZ e4 Ar_b4 (j := (0 : Int32)) hin11 (g := (mkF m 11 #[.val (.int p1), .val (.long q2), .second, .val (.long q3), .second] [(.long q2), (.int (0 : Int32)), (.ref b4), (.ref b4)])) rfl rfl (hb hby d1_11)
  have V_b4_5 := Arv.set Ar_b4 q_b4 S_b4 N_b4 H_b4 G_b4 rfl W5 0 rfl (Nat.le_of_ble_eq_true rfl)
  have K5 : Keep h0 h5 [] := K4.wr W5 (Or.inr sz_b4)
  have N5 := Fr.snoc X5 N0 g_b4
  obtain ⟨fs, hr, hrun, hended, hW, hsame⟩ := X5.leave (v := some (.ref b4)) (fun h => by rw [Bd.returns] at h; cases h)
  refine ⟨_, _, pre0 _ ?_, hrun, hended, _, _, rfl, ?_, ⟨_, rfl⟩, hW, hsame.mono (by decide) (by decide)⟩
  · show Steps p.tables e below (s₁.setTop (mkF m 0 #[.val (.int p1), .val (.long q2), .second, .val (.long q3), .second] [])) _
    refine XS.iloadN X0.here hx rfl (hb hby d1_0) rfl ?_
    show Steps p.tables e below (s₁.setTop (mkF m 1 #[.val (.int p1), .val (.long q2), .second, .val (.long q3), .second] [(.int p1)])) _
    refine XS.iconst X0.here hx rfl (hb hby d1_1) ?_
    show Steps p.tables e below (s₁.setTop (mkF m 2 #[.val (.int p1), .val (.long q2), .second, .val (.long q3), .second] [(.int (1 : Int32)), (.int p1)])) _
    refine XS.icmpNo X0.here hx rfl (hb hby d1_2) rfl (teq hc2).2 ?_
    show Steps p.tables e below (s₁.setTop (mkF m 5 #[.val (.int p1), .val (.long q2), .second, .val (.long q3), .second] [])) _
    refine XS.iconst X0.here hx rfl (hb hby d1_5) ?_
    show Steps p.tables e below (s₁.setTop (mkF m 6 #[.val (.int p1), .val (.long q2), .second, .val (.long q3), .second] [(.int (1 : Int32))])) _
    refine st4 _ ?_
    show Steps p.tables e below (T4.setTop (mkF m 8 #[.val (.int p1), .val (.long q2), .second, .val (.long q3), .second] [(.ref b4)])) _
    refine XS.dup X4.here hx rfl (hb hby d1_8) rfl rfl ?_
    show Steps p.tables e below (T4.setTop (mkF m 9 #[.val (.int p1), .val (.long q2), .second, .val (.long q3), .second] [(.ref b4), (.ref b4)])) _
    refine XS.iconst X4.here hx rfl (hb hby d1_9) ?_
    show Steps p.tables e below (T4.setTop (mkF m 10 #[.val (.int p1), .val (.long q2), .second, .val (.long q3), .second] [(.int (0 : Int32)), (.ref b4), (.ref b4)])) _
    refine XS.lloadN X4.here hx rfl (hb hby d1_10) rfl ?_
    show Steps p.tables e below (T4.setTop (mkF m 11 #[.val (.int p1), .val (.long q2), .second, .val (.long q3), .second] [(.long q2), (.int (0 : Int32)), (.ref b4), (.ref b4)])) _
    refine st5 _ ?_
    show Steps p.tables e below (T5.setTop (mkF m 12 #[.val (.int p1), .val (.long q2), .second, .val (.long q3), .second] [(.ref b4)])) _
    jvm_step X5.here [X5.here.top, hx, (hb hby d1_12), X5.method', Bd.returns, Value.isRef, FieldType.isReference]
    first | (intro acts; rw [hr _ acts rfl rfl rfl]) | rw [hr _ _ rfl rfl rfl]
    exact Steps.refl _
  · show own_Q1 Z (1 : Int32) [.long q2] h0 n0 _ T5.heap _
    rw [e5]
    exact ⟨by rw [g4], N5, K5, k4, by rw [← g4]; exact V_b4_5⟩
set_option maxRecDepth 65536 in
set_option maxHeartbeats 40000000 in
theorem own_rm1_2 (l : Launch) (Z : State) (a0 : Array Value) (hw : ∀ d ∈ tables_1, d.before a0 Z = true) (ws : List Jvm.Cond) (p1 : Int32) (q2 : Int64) (q3 : Int64) (h0 : Heap) (n0 : Nat) (Z0 : n0 ≤ h0.size) (hc2 : ¬ (p1 = (1 : Int32))) :
    MetFree l (⟨"com/example/crossmode/crossmode/search/LabelSetSetPinLaw", "weights", "(IJJ)[J"⟩ : MethodName) (head1 (Jvm.Cond.code (⟨"com/example/crossmode/crossmode/search/LabelSetSetPinLaw", "weights", "(IJJ)[J"⟩ : MethodName) method_2_code 5 (some (.array .long)) :: ws) ({ frames := 0, cells := 1, slots := 2, locals := 0 } : Room)) (fun a U => a = #[(.int p1), (.long q2), (.long q3)] ∧ Z.Warmed39 U.vm ∧ U.heap = h0) (fun _ _ _ _ _ => True) (fun _ U o U' => ∃ v L, o = .returned v ∧ own_Q1 Z (2 : Int32) [.long q2, .long q3] h0 n0 v U'.heap L ∧ FrameEnd U o U' L ({ frames := 0, cells := 1, slots := 2, locals := 0 } : Room).cells ({ frames := 0, cells := 1, slots := 2, locals := 0 } : Room).slots) := by
  refine MetFree.of_bodySF (plainFor_of_name pn_1) hisR ?_
  intro p e s m args below meth c s₁ Bd hml0 hP hK
  obtain ⟨rfl, hZ, hh⟩ := hP
  have hx := Bd.exec
  have hby := Bd.bytes
  have hml : c.maxLocals = 5 := hml0
  have hown : s.vm.findClass "com/example/crossmode/crossmode/search/LabelSetSetPinLaw" = some m.cls := findClass_of_methodNamed Bd.named
  have hnm := (name_of_methodNamed Bd.named Bd.method).1
  have X0 : Stand p l e ({ frames := 0, cells := 1, slots := 2, locals := 0 } : Room) s m #[(.int p1), (.long q2), (.long q3)] below meth c s₁ [] 0 0 := Stand.of_body Bd
  have e0 : s₁.heap = h0 := by rw [← hh, Bd.state]; rfl
  have N0 := Fr.nil n0
  have pre0 : ∀ t, Steps p.tables e below (s₁.setTop (mkF m 0 #[.val (.int p1), .val (.long q2), .second, .val (.long q3), .second] [])) t → Steps p.tables e below (s₁.setTop (entryFrame m #[(.int p1), (.long q2), (.long q3)] 5)) t := fun t k => castTop (ef_1 m p1 q2 q3) k
  obtain ⟨T4, h4, k4, X4, e4, E4, A4, st4⟩ := newP X0 hx hZ (hw _ (List.mem_of_getElem? (i := 4) rfl)) e0 (g := (mkF m 14 #[.val (.int p1), .val (.long q2), .second, .val (.long q3), .second] [(.int (2 : Int32))])) rfl (hb hby d1_14) rfl (by decide) (cap := 2) (by decide) (by decide) (by decide) (by decide)
  obtain ⟨b4, g4⟩ : ∃ z, z = h0.size := ⟨_, rfl⟩
  rw [← g4] at A4 st4
  have V_b4 : Arv Z h4 b4 k4 .long (2 : Int32) [(.long (0 : Int64)), (.long (0 : Int64))] (.long (0 : Int64)) := (Arv.new A4 (by decide)).pad (pad_rep [] (.long (0 : Int64)) 2)
  have g_b4 : n0 ≤ b4 := Nat.le_trans Z0 (Nat.le_of_eq g4.symm)
  have sz_b4 : h0.size ≤ b4 := (Nat.le_trans (Keep.refl h0 []).1 (Nat.le_of_eq g4.symm))
  have K4 : Keep h0 h4 [] := (Keep.refl h0 []).ext E4
  obtain ⟨cl_b4_19, Ar_b4, q_b4, S_b4, N_b4, H_b4, G_b4⟩ := V_b4
  have hin19 : ¬ ((0 : Int32) < 0 ∨ cl_b4_19.slots.size ≤ ((0 : Int32)).toNatClampNeg) := inb_of S_b4 ⟨by decide, by decide⟩
  obtain ⟨T5, h5, X5, e5, W5, st5⟩ := stJ X4 hx hZ e4 Ar_b4 (j := (0 : Int32)) hin19 (g := (mkF m 19 #[.val (.int p1), .val (.long q2), .second, .val (.long q3), .second] [(.long q2), (.int (0 : Int32)), (.ref b4), (.ref b4)])) rfl rfl (hb hby d1_19)
  have V_b4_5 := Arv.set Ar_b4 q_b4 S_b4 N_b4 H_b4 G_b4 rfl W5 0 rfl (Nat.le_of_ble_eq_true rfl)
  have K5 : Keep h0 h5 [] := K4.wr W5 (Or.inr sz_b4)
  have N5 := Fr.snoc X5 N0 g_b4
  obtain ⟨cl_b4_23, Ar_b4, q_b4, S_b4, N_b4, H_b4, G_b4⟩ := V_b4_5
  have hin23 : ¬ ((1 : Int32) < 0 ∨ cl_b4_23.slots.size ≤ ((1 : Int32)).toNatClampNeg) := inb_of S_b4 ⟨by decide, by decide⟩
  obtain ⟨T6, h6, X6, e6, W6, st6⟩ := stJ X5 hx hZ e5 Ar_b4 (j := (1 : Int32)) hin23 (g := (mkF m 23 #[.val (.int p1), .val (.long q2), .second, .val (.long q3), .second] [(.long q3), (.int (1 : Int32)), (.ref b4), (.ref b4)])) rfl rfl (hb hby d1_23)
  have V_b4_6 := Arv.set Ar_b4 q_b4 S_b4 N_b4 H_b4 G_b4 rfl W6 1 rfl (Nat.le_of_ble_eq_true rfl)
  have K6 : Keep h0 h6 [] := K5.wr W6 (Or.inr sz_b4)
  have N6 := Fr.snoc X6 N5 g_b4
  obtain ⟨fs, hr, hrun, hended, hW, hsame⟩ := X6.leave (v := some (.ref b4)) (fun h => by rw [Bd.returns] at h; cases h)
  refine ⟨_, _, pre0 _ ?_, hrun, hended, _, _, rfl, ?_, ⟨_, rfl⟩, hW, hsame.mono (by decide) (by decide)⟩
  · show Steps p.tables e below (s₁.setTop (mkF m 0 #[.val (.int p1), .val (.long q2), .second, .val (.long q3), .second] [])) _
    refine XS.iloadN X0.here hx rfl (hb hby d1_0) rfl ?_
    show Steps p.tables e below (s₁.setTop (mkF m 1 #[.val (.int p1), .val (.long q2), .second, .val (.long q3), .second] [(.int p1)])) _
    refine XS.iconst X0.here hx rfl (hb hby d1_1) ?_
    show Steps p.tables e below (s₁.setTop (mkF m 2 #[.val (.int p1), .val (.long q2), .second, .val (.long q3), .second] [(.int (1 : Int32)), (.int p1)])) _
    refine XS.icmpYes X0.here hx rfl (pc0 := 2) (pc' := 13) rfl (hb hby d1_2) rfl (feq hc2).2 (by decide) (by decide) ?_
    show Steps p.tables e below (s₁.setTop (mkF m 13 #[.val (.int p1), .val (.long q2), .second, .val (.long q3), .second] [])) _
    refine XS.iconst X0.here hx rfl (hb hby d1_13) ?_
    show Steps p.tables e below (s₁.setTop (mkF m 14 #[.val (.int p1), .val (.long q2), .second, .val (.long q3), .second] [(.int (2 : Int32))])) _
    refine st4 _ ?_
    show Steps p.tables e below (T4.setTop (mkF m 16 #[.val (.int p1), .val (.long q2), .second, .val (.long q3), .second] [(.ref b4)])) _
    refine XS.dup X4.here hx rfl (hb hby d1_16) rfl rfl ?_
    show Steps p.tables e below (T4.setTop (mkF m 17 #[.val (.int p1), .val (.long q2), .second, .val (.long q3), .second] [(.ref b4), (.ref b4)])) _
    refine XS.iconst X4.here hx rfl (hb hby d1_17) ?_
    show Steps p.tables e below (T4.setTop (mkF m 18 #[.val (.int p1), .val (.long q2), .second, .val (.long q3), .second] [(.int (0 : Int32)), (.ref b4), (.ref b4)])) _
    refine XS.lloadN X4.here hx rfl (hb hby d1_18) rfl ?_
    show Steps p.tables e below (T4.setTop (mkF m 19 #[.val (.int p1), .val (.long q2), .second, .val (.long q3), .second] [(.long q2), (.int (0 : Int32)), (.ref b4), (.ref b4)])) _
    refine st5 _ ?_
    show Steps p.tables e below (T5.setTop (mkF m 20 #[.val (.int p1), .val (.long q2), .second, .val (.long q3), .second] [(.ref b4)])) _
    refine XS.dup X5.here hx rfl (hb hby d1_20) rfl rfl ?_
    show Steps p.tables e below (T5.setTop (mkF m 21 #[.val (.int p1), .val (.long q2), .second, .val (.long q3), .second] [(.ref b4), (.ref b4)])) _
    refine XS.iconst X5.here hx rfl (hb hby d1_21) ?_
    show Steps p.tables e below (T5.setTop (mkF m 22 #[.val (.int p1), .val (.long q2), .second, .val (.long q3), .second] [(.int (1 : Int32)), (.ref b4), (.ref b4)])) _
    refine XS.lloadN X5.here hx rfl (hb hby d1_22) rfl ?_
    show Steps p.tables e below (T5.setTop (mkF m 23 #[.val (.int p1), .val (.long q2), .second, .val (.long q3), .second] [(.long q3), (.int (1 : Int32)), (.ref b4), (.ref b4)])) _
    refine st6 _ ?_
    show Steps p.tables e below (T6.setTop (mkF m 24 #[.val (.int p1), .val (.long q2), .second, .val (.long q3), .second] [(.ref b4)])) _
    jvm_step X6.here [X6.here.top, hx, (hb hby d1_24), X6.method', Bd.returns, Value.isRef, FieldType.isReference]
    first | (intro acts; rw [hr _ acts rfl rfl rfl]) | rw [hr _ _ rfl rfl rfl]
    exact Steps.refl _
  · show own_Q1 Z (2 : Int32) [.long q2, .long q3] h0 n0 _ T6.heap _
    rw [e6]
    exact ⟨by rw [g4], N6, K6, k4, by rw [← g4]; exact V_b4_6⟩
theorem d2_0 : decode prog_15_method_1_code 0 = .ok (.aload_n 0, 1) := by decide +kernel
theorem d2_1 : decode prog_15_method_1_code 1 = .ok (.invokespecial 1, 3) := by decide +kernel
theorem d2_4 : decode prog_15_method_1_code 4 = .ok (.aload_n 0, 1) := by decide +kernel
theorem d2_5 : decode prog_15_method_1_code 5 = .ok (.iconst 4, 1) := by decide +kernel
theorem d2_6 : decode prog_15_method_1_code 6 = .ok (.anewarray 7, 3) := by decide +kernel
theorem d2_9 : decode prog_15_method_1_code 9 = .ok (.putfield 9, 3) := by decide +kernel
theorem d2_12 : decode prog_15_method_1_code 12 = .ok (.aload_n 0, 1) := by decide +kernel
theorem d2_13 : decode prog_15_method_1_code 13 = .ok (.iload_n 1, 1) := by decide +kernel
theorem d2_14 : decode prog_15_method_1_code 14 = .ok (.putfield 15, 3) := by decide +kernel
theorem d2_17 : decode prog_15_method_1_code 17 = .ok (.aload_n 0, 1) := by decide +kernel
theorem d2_18 : decode prog_15_method_1_code 18 = .ok (.aload_n 0, 1) := by decide +kernel
theorem d2_19 : decode prog_15_method_1_code 19 = .ok (.getfield 9, 3) := by decide +kernel
theorem d2_22 : decode prog_15_method_1_code 22 = .ok (.arraylength, 1) := by decide +kernel
theorem d2_23 : decode prog_15_method_1_code 23 = .ok (.iload_n 1, 1) := by decide +kernel
theorem d2_24 : decode prog_15_method_1_code 24 = .ok (.imul, 1) := by decide +kernel
theorem d2_25 : decode prog_15_method_1_code 25 = .ok (.newarray .long, 2) := by decide +kernel
theorem d2_27 : decode prog_15_method_1_code 27 = .ok (.putfield 19, 3) := by decide +kernel
theorem d2_30 : decode prog_15_method_1_code 30 = .ok (.return_, 1) := by decide +kernel
theorem ef_2 (m : MethodId) (x0 : Addr) (x1 : Int32) : entryFrame m #[(.ref x0), (.int x1)] 2 = mkF m 0 #[.val (.ref x0), .val (.int x1)] [] := by first | (simp [entryFrame, mkF, argsToLocals, Value.category]; done) | rfl
theorem pn_2 : plainName "com/example/crossmode/crossmode/search/LabelSet" = true := by first | (simp [plainName, overriddenIn]; done) | decide +kernel
def own_Q2 (Z : State) (a1 : Addr) (p2 : Int32) (h0 : Heap) (n0 : Nat) (v : Option Value) (h : Heap) (L : List Loc) : Prop := v = none ∧ Fr n0 L ∧ Keep h0 h [a1] ∧ Exa Z h a1 "com/example/crossmode/crossmode/search/LabelSet" ∧ Fld Z h a1 "com/example/crossmode/crossmode/search/LabelSet" "modeCount" "I" (.int p2) ∧ ∃ (bl bw : Nat) (kl kw : ClassId), h0.size ≤ bl ∧ bl < bw ∧ bw < h.size ∧ Fld Z h a1 "com/example/crossmode/crossmode/search/LabelSet" "labels" "[Lcom/example/crossmode/crossmode/search/Label;" (.ref bl) ∧ Fld Z h a1 "com/example/crossmode/crossmode/search/LabelSet" "weights" "[J" (.ref bw) ∧ Arv Z h bl kl (.object "com/example/crossmode/crossmode/search/Label") (4 : Int32) [] .null ∧ Arv Z h bw kw .long ((4 : Int32) * p2) [] (.long (0 : Int64)) ∧ Ovr Z kl "com/example/crossmode/crossmode/search/Label"
set_option maxRecDepth 65536 in
set_option maxHeartbeats 40000000 in
theorem own_rm2 (l : Launch) (Z : State) (a0 : Array Value) (hw : ∀ d ∈ tables_1, d.before a0 Z = true) (ws : List Jvm.Cond) (a1 : Addr) (p2 : Int32) (u_labels_a1 : Value) (u_modeCount_a1 : Value) (u_weights_a1 : Value) (h0 : Heap) (n0 : Nat) (Z0 : n0 ≤ h0.size) (E_a1 : Exa Z h0 a1 "com/example/crossmode/crossmode/search/LabelSet") (F_labels_a1 : Fld Z h0 a1 "com/example/crossmode/crossmode/search/LabelSet" "labels" "[Lcom/example/crossmode/crossmode/search/Label;" u_labels_a1) (g_a1 : n0 ≤ a1) (F_modeCount_a1 : Fld Z h0 a1 "com/example/crossmode/crossmode/search/LabelSet" "modeCount" "I" u_modeCount_a1) (F_weights_a1 : Fld Z h0 a1 "com/example/crossmode/crossmode/search/LabelSet" "weights" "[J" u_weights_a1) (hp0 : ¬ ((4 : Int32) * p2) < 0) (hp8 : ((4 : Int32) * p2).toNatClampNeg ≤ 8) :
    MetFree l (⟨"com/example/crossmode/crossmode/search/LabelSet", "<init>", "(I)V"⟩ : MethodName) (head1 (Jvm.Cond.code (⟨"com/example/crossmode/crossmode/search/LabelSet", "<init>", "(I)V"⟩ : MethodName) prog_15_method_1_code 2 none :: ws) ({ frames := 1, cells := 2, slots := 12, locals := 12 } : Room)) (fun a U => a = #[(.ref a1), (.int p2)] ∧ Z.Warmed39 U.vm ∧ U.heap = h0) (fun _ _ _ _ _ => True) (fun _ U o U' => ∃ v L, o = .returned v ∧ own_Q2 Z a1 p2 h0 n0 v U'.heap L ∧ FrameEnd U o U' L ({ frames := 1, cells := 2, slots := 12, locals := 12 } : Room).cells ({ frames := 1, cells := 2, slots := 12, locals := 12 } : Room).slots) := by
  refine MetFree.of_bodySF (plainFor_of_name pn_2) hisR ?_
  intro p e s m args below meth c s₁ Bd hml0 hP hK
  obtain ⟨rfl, hZ, hh⟩ := hP
  have hx := Bd.exec
  have hby := Bd.bytes
  have hml : c.maxLocals = 2 := hml0
  have hown : s.vm.findClass "com/example/crossmode/crossmode/search/LabelSet" = some m.cls := findClass_of_methodNamed Bd.named
  have hnm := (name_of_methodNamed Bd.named Bd.method).1
  have X0 : Stand p l e ({ frames := 1, cells := 2, slots := 12, locals := 12 } : Room) s m #[(.ref a1), (.int p2)] below meth c s₁ [] 0 0 := Stand.of_body Bd
  have e0 : s₁.heap = h0 := by rw [← hh, Bd.state]; rfl
  have N0 := Fr.nil n0
  have pre0 : ∀ t, Steps p.tables e below (s₁.setTop (mkF m 0 #[.val (.ref a1), .val (.int p2)] [])) t → Steps p.tables e below (s₁.setTop (entryFrame m #[(.ref a1), (.int p2)] 2)) t := fun t k => castTop (ef_2 m a1 p2) k
  obtain ⟨T3, X3, e3, st3⟩ := initO X0 hx hZ hown (hw _ (List.mem_of_getElem? (i := 11) rfl)) (hw _ (List.mem_of_getElem? (i := 12) rfl)) (hw _ (List.mem_of_getElem? (i := 13) rfl)) e0 (g := (mkF m 1 #[.val (.ref a1), .val (.int p2)] [(.ref a1)])) rfl (by rw [hml]; rfl) rfl (hb hby d2_1) (by decide) (W := 0) (by show 2 * 0 + _ ≤ _; exact Nat.le_of_eq rfl) (by decide)
  obtain ⟨T4, h4, k4, X4, e4, E4, A4, O4, st4⟩ := newR X3 hx hZ hown (hw _ (List.mem_of_getElem? (i := 14) rfl)) (hw _ (List.mem_of_getElem? (i := 15) rfl)) e3 (g := (mkF m 6 #[.val (.ref a1), .val (.int p2)] [(.int (4 : Int32)), (.ref a1)])) rfl (hb hby d2_6) rfl (by decide) (cap := 4) (by decide) (by decide) (by decide) (by decide)
  obtain ⟨b4, g4⟩ : ∃ z, z = h0.size := ⟨_, rfl⟩
  rw [← g4] at A4 st4
  have V_b4 := Arv.new A4 (by decide)
  have g_b4 : n0 ≤ b4 := Nat.le_trans Z0 (Nat.le_of_eq g4.symm)
  have sz_b4 : h0.size ≤ b4 := (Nat.le_trans (Keep.refl h0 [a1]).1 (Nat.le_of_eq g4.symm))
  have K4 : Keep h0 h4 [a1] := (Keep.refl h0 [a1]).ext E4
  obtain ⟨T5, h5, X5, e5, W5, st5⟩ := putF X4 hx hZ hown (host := "") (Or.inl (hw _ (List.mem_of_getElem? (i := 16) rfl))) Via.refl e4 (F_labels_a1.ext E4) (E_a1.ext E4) (Or.inl (hw _ (List.mem_of_getElem? (i := 17) rfl))) (hw _ (List.mem_of_getElem? (i := 6) rfl)) (ty := (.array (.object "com/example/crossmode/crossmode/search/Label"))) (by decide) rfl rfl (g := (mkF m 9 #[.val (.ref a1), .val (.int p2)] [(.ref b4), (.ref a1)])) rfl rfl (hb hby d2_9)
  have Fw5 := (F_labels_a1.ext E4).same W5
  have K5 : Keep h0 h5 [a1] := K4.wr W5 (Or.inl (List.mem_of_getElem? (i := 0) rfl))
  have N5 := Fr.snoc X5 N0 g_a1
  obtain ⟨T6, h6, X6, e6, W6, st6⟩ := putF X5 hx hZ hown (host := "") (Or.inl (hw _ (List.mem_of_getElem? (i := 18) rfl))) Via.refl e5 ((F_modeCount_a1.ext E4).other W5 (Or.inr (slot_ne (Or.inr (hw _ (List.mem_of_getElem? (i := 19) rfl))) (Or.inl (hw _ (List.mem_of_getElem? (i := 17) rfl))) (by decide) (t := .int) (t' := (.array (.object "com/example/crossmode/crossmode/search/Label"))) (by decide) (by decide)))) ((E_a1.ext E4).wr W5) (Or.inr ⟨(hw _ (List.mem_of_getElem? (i := 19) rfl)), rfl, hnm⟩) (hw _ (List.mem_of_getElem? (i := 6) rfl)) (ty := .int) (by decide) rfl rfl (g := (mkF m 14 #[.val (.ref a1), .val (.int p2)] [(.int p2), (.ref a1)])) rfl rfl (hb hby d2_14)
  have Fw6 := ((F_modeCount_a1.ext E4).other W5 (Or.inr (slot_ne (Or.inr (hw _ (List.mem_of_getElem? (i := 19) rfl))) (Or.inl (hw _ (List.mem_of_getElem? (i := 17) rfl))) (by decide) (t := .int) (t' := (.array (.object "com/example/crossmode/crossmode/search/Label"))) (by decide) (by decide)))).same W6
  have K6 : Keep h0 h6 [a1] := K5.wr W6 (Or.inl (List.mem_of_getElem? (i := 0) rfl))
  have N6 := Fr.snoc X6 N5 g_a1
  obtain ⟨T7, X7, e7, st7⟩ := getF X6 hx hZ hown (host := "") (Or.inl (hw _ (List.mem_of_getElem? (i := 16) rfl))) Via.refl e6 (Fw5.other W6 (Or.inr (slot_ne (Or.inl (hw _ (List.mem_of_getElem? (i := 17) rfl))) (Or.inr (hw _ (List.mem_of_getElem? (i := 19) rfl))) (by decide) (t := (.array (.object "com/example/crossmode/crossmode/search/Label"))) (t' := .int) (by decide) (by decide)))) (g := (mkF m 19 #[.val (.ref a1), .val (.int p2)] [(.ref a1), (.ref a1)])) rfl rfl (hb hby d2_19)
  obtain ⟨cl_b4_22, Ar_b4, -, S_b4, N_b4, -, -⟩ := ((V_b4.other W5 (Ne.symm (Nat.ne_of_lt (Nat.lt_of_lt_of_le E_a1.lt (Nat.le_of_eq g4.symm))))).other W6 (Ne.symm (Nat.ne_of_lt (Nat.lt_of_lt_of_le E_a1.lt (Nat.le_of_eq g4.symm)))))
  obtain ⟨T8, h8, k8, X8, e8, E8, A8, st8⟩ := newP X7 hx hZ (hw _ (List.mem_of_getElem? (i := 4) rfl)) e7 (g := (mkF m 25 #[.val (.ref a1), .val (.int p2)] [(.int ((4 : Int32) * p2)), (.ref a1)])) rfl (hb hby d2_25) rfl hp0 (cap := 8) hp8 (by decide) (by decide) (by decide)
  obtain ⟨b8, g8⟩ : ∃ z, z = h6.size := ⟨_, rfl⟩
  rw [← g8] at A8 st8
  have V_b8 := Arv.new A8 hp0
  have g_b8 : n0 ≤ b8 := Nat.le_trans (Nat.le_trans (Nat.le_trans (Nat.le_trans Z0 E4.1) (Keep.of_wr W5).1) (Keep.of_wr W6).1) (Nat.le_of_eq g8.symm)
  have sz_b8 : h0.size ≤ b8 := (Nat.le_trans K6.1 (Nat.le_of_eq g8.symm))
  have K8 : Keep h0 h8 [a1] := K6.ext E8
  obtain ⟨T9, h9, X9, e9, W9, st9⟩ := putF X8 hx hZ hown (host := "") (Or.inl (hw _ (List.mem_of_getElem? (i := 20) rfl))) Via.refl e8 ((((F_weights_a1.ext E4).other W5 (Or.inr (slot_ne (Or.inl (hw _ (List.mem_of_getElem? (i := 21) rfl))) (Or.inl (hw _ (List.mem_of_getElem? (i := 17) rfl))) (by decide) (t := (.array .long)) (t' := (.array (.object "com/example/crossmode/crossmode/search/Label"))) (by decide) (by decide)))).other W6 (Or.inr (slot_ne (Or.inl (hw _ (List.mem_of_getElem? (i := 21) rfl))) (Or.inr (hw _ (List.mem_of_getElem? (i := 19) rfl))) (by decide) (t := (.array .long)) (t' := .int) (by decide) (by decide)))).ext E8) ((((E_a1.ext E4).wr W5).wr W6).ext E8) (Or.inl (hw _ (List.mem_of_getElem? (i := 21) rfl))) (hw _ (List.mem_of_getElem? (i := 6) rfl)) (ty := (.array .long)) (by decide) rfl rfl (g := (mkF m 27 #[.val (.ref a1), .val (.int p2)] [(.ref b8), (.ref a1)])) rfl rfl (hb hby d2_27)
  have Fw9 := ((((F_weights_a1.ext E4).other W5 (Or.inr (slot_ne (Or.inl (hw _ (List.mem_of_getElem? (i := 21) rfl))) (Or.inl (hw _ (List.mem_of_getElem? (i := 17) rfl))) (by decide) (t := (.array .long)) (t' := (.array (.object "com/example/crossmode/crossmode/search/Label"))) (by decide) (by decide)))).other W6 (Or.inr (slot_ne (Or.inl (hw _ (List.mem_of_getElem? (i := 21) rfl))) (Or.inr (hw _ (List.mem_of_getElem? (i := 19) rfl))) (by decide) (t := (.array .long)) (t' := .int) (by decide) (by decide)))).ext E8).same W9
  have K9 : Keep h0 h9 [a1] := K8.wr W9 (Or.inl (List.mem_of_getElem? (i := 0) rfl))
  have N9 := Fr.snoc X9 N6 g_a1
  obtain ⟨fs, hr, hrun, hended, hW, hsame⟩ := X9.leave (v := none) (fun _ => rfl)
  refine ⟨_, _, pre0 _ ?_, hrun, hended, _, _, rfl, ?_, ⟨_, rfl⟩, hW, hsame.mono (by decide) (by decide)⟩
  · show Steps p.tables e below (s₁.setTop (mkF m 0 #[.val (.ref a1), .val (.int p2)] [])) _
    refine XS.aloadN X0.here hx rfl (hb hby d2_0) rfl rfl ?_
    show Steps p.tables e below (s₁.setTop (mkF m 1 #[.val (.ref a1), .val (.int p2)] [(.ref a1)])) _
    refine st3 _ ?_
    show Steps p.tables e below (T3.setTop (mkF m 4 #[.val (.ref a1), .val (.int p2)] [])) _
    refine XS.aloadN X3.here hx rfl (hb hby d2_4) rfl rfl ?_
    show Steps p.tables e below (T3.setTop (mkF m 5 #[.val (.ref a1), .val (.int p2)] [(.ref a1)])) _
    refine XS.iconst X3.here hx rfl (hb hby d2_5) ?_
    show Steps p.tables e below (T3.setTop (mkF m 6 #[.val (.ref a1), .val (.int p2)] [(.int (4 : Int32)), (.ref a1)])) _
    refine st4 _ ?_
    show Steps p.tables e below (T4.setTop (mkF m 9 #[.val (.ref a1), .val (.int p2)] [(.ref b4), (.ref a1)])) _
    refine st5 _ ?_
    show Steps p.tables e below (T5.setTop (mkF m 12 #[.val (.ref a1), .val (.int p2)] [])) _
    refine XS.aloadN X5.here hx rfl (hb hby d2_12) rfl rfl ?_
    show Steps p.tables e below (T5.setTop (mkF m 13 #[.val (.ref a1), .val (.int p2)] [(.ref a1)])) _
    refine XS.iloadN X5.here hx rfl (hb hby d2_13) rfl ?_
    show Steps p.tables e below (T5.setTop (mkF m 14 #[.val (.ref a1), .val (.int p2)] [(.int p2), (.ref a1)])) _
    refine st6 _ ?_
    show Steps p.tables e below (T6.setTop (mkF m 17 #[.val (.ref a1), .val (.int p2)] [])) _
    refine XS.aloadN X6.here hx rfl (hb hby d2_17) rfl rfl ?_
    show Steps p.tables e below (T6.setTop (mkF m 18 #[.val (.ref a1), .val (.int p2)] [(.ref a1)])) _
    refine XS.aloadN X6.here hx rfl (hb hby d2_18) rfl rfl ?_
    show Steps p.tables e below (T6.setTop (mkF m 19 #[.val (.ref a1), .val (.int p2)] [(.ref a1), (.ref a1)])) _
    refine st7 _ ?_
    show Steps p.tables e below (T7.setTop (mkF m 22 #[.val (.ref a1), .val (.int p2)] [(.ref b4), (.ref a1)])) _
    refine X7.arraylength hx (by rw [e7]; exact Ar_b4.1) (State.isArrayOf_alike hZ.alike Ar_b4.2.1) (g := (mkF m 22 #[.val (.ref a1), .val (.int p2)] [(.ref b4), (.ref a1)])) rfl rfl (hb hby d2_22) _ ?_
    rw [len_of S_b4 N_b4]
    show Steps p.tables e below (T7.setTop (mkF m 23 #[.val (.ref a1), .val (.int p2)] [(.int (4 : Int32)), (.ref a1)])) _
    refine XS.iloadN X7.here hx rfl (hb hby d2_23) rfl ?_
    show Steps p.tables e below (T7.setTop (mkF m 24 #[.val (.ref a1), .val (.int p2)] [(.int p2), (.int (4 : Int32)), (.ref a1)])) _
    refine XS.imul X7.here hx rfl (hb hby d2_24) rfl ?_
    show Steps p.tables e below (T7.setTop (mkF m 25 #[.val (.ref a1), .val (.int p2)] [(.int ((4 : Int32) * p2)), (.ref a1)])) _
    refine st8 _ ?_
    show Steps p.tables e below (T8.setTop (mkF m 27 #[.val (.ref a1), .val (.int p2)] [(.ref b8), (.ref a1)])) _
    refine st9 _ ?_
    show Steps p.tables e below (T9.setTop (mkF m 30 #[.val (.ref a1), .val (.int p2)] [])) _
    exact X9.returnOut hx Bd.returns (hb hby d2_30) hr
  · show own_Q2 Z a1 p2 h0 n0 _ T9.heap _
    rw [e9]
    have la := own_lt' E_a1.lt
    have na4 : b4 ≠ a1 := own_ne' (by omega)
    have na8 : b8 ≠ a1 := own_ne' (by omega)
    have l4 := own_lt' V_b4.lt
    have l8 := own_lt' V_b8.lt
    have w5 := W5.size
    have w6 := W6.size
    have w9 := W9.size
    exact ⟨rfl, N9, K9, (((((E_a1.ext E4).wr W5).wr W6).ext E8).wr W9), ((Fw6.ext E8).other W9 (Or.inr (slot_ne (Or.inr (hw _ (List.mem_of_getElem? (i := 19) rfl))) (Or.inl (hw _ (List.mem_of_getElem? (i := 21) rfl))) (by decide) (t := .int) (t' := (.array .long)) (by decide) (by decide)))), b4, b8, k4, k8, sz_b4, by omega, by omega, (((Fw5.other W6 (Or.inr (slot_ne (Or.inl (hw _ (List.mem_of_getElem? (i := 17) rfl))) (Or.inr (hw _ (List.mem_of_getElem? (i := 19) rfl))) (by decide) (t := (.array (.object "com/example/crossmode/crossmode/search/Label"))) (t' := .int) (by decide) (by decide)))).ext E8).other W9 (Or.inr (slot_ne (Or.inl (hw _ (List.mem_of_getElem? (i := 17) rfl))) (Or.inl (hw _ (List.mem_of_getElem? (i := 21) rfl))) (by decide) (t := (.array (.object "com/example/crossmode/crossmode/search/Label"))) (t' := (.array .long)) (by decide) (by decide)))), Fw9, (((V_b4.other W5 na4).other W6 na4).ext E8).other W9 na4, V_b8.other W9 na8, O4⟩
theorem d4_0 : decode prog_14_method_1_code 0 = .ok (.aload_n 0, 1) := by decide +kernel
theorem d4_1 : decode prog_14_method_1_code 1 = .ok (.invokespecial 1, 3) := by decide +kernel
theorem d4_4 : decode prog_14_method_1_code 4 = .ok (.aload_n 0, 1) := by decide +kernel
theorem d4_5 : decode prog_14_method_1_code 5 = .ok (.iconst (-1), 1) := by decide +kernel
theorem d4_6 : decode prog_14_method_1_code 6 = .ok (.putfield 9, 3) := by decide +kernel
theorem d4_9 : decode prog_14_method_1_code 9 = .ok (.aload_n 0, 1) := by decide +kernel
theorem d4_10 : decode prog_14_method_1_code 10 = .ok (.iconst (-1), 1) := by decide +kernel
theorem d4_11 : decode prog_14_method_1_code 11 = .ok (.putfield 13, 3) := by decide +kernel
theorem d4_14 : decode prog_14_method_1_code 14 = .ok (.aload_n 0, 1) := by decide +kernel
theorem d4_15 : decode prog_14_method_1_code 15 = .ok (.iload_n 1, 1) := by decide +kernel
theorem d4_16 : decode prog_14_method_1_code 16 = .ok (.putfield 16, 3) := by decide +kernel
theorem d4_19 : decode prog_14_method_1_code 19 = .ok (.aload_n 0, 1) := by decide +kernel
theorem d4_20 : decode prog_14_method_1_code 20 = .ok (.aload_n 2, 1) := by decide +kernel
theorem d4_21 : decode prog_14_method_1_code 21 = .ok (.putfield 19, 3) := by decide +kernel
theorem d4_24 : decode prog_14_method_1_code 24 = .ok (.return_, 1) := by decide +kernel
theorem ef_4 (m : MethodId) (x0 : Addr) (x1 : Int32) (x2 : Addr) : entryFrame m #[(.ref x0), (.int x1), (.ref x2)] 3 = mkF m 0 #[.val (.ref x0), .val (.int x1), .val (.ref x2)] [] := by first | (simp [entryFrame, mkF, argsToLocals, Value.category]; done) | rfl
theorem pn_4 : plainName "com/example/crossmode/crossmode/search/Label" = true := by first | (simp [plainName, overriddenIn]; done) | decide +kernel
def Q4 (Z : State) (a1 : Addr) (p2 : Int32) (a3 : Addr) (u_mode_a1 : Value) (u_stage_a1 : Value) (u_vertex_a1 : Value) (u_weights_a1 : Value) (h0 : Heap) (n0 : Nat) (v : Option Value) (h : Heap) (L : List Loc) : Prop := v = none ∧ Fr n0 L ∧ Keep h0 h [a1] ∧ Exa Z h a1 "com/example/crossmode/crossmode/search/Label" ∧ Fld Z h a1 "com/example/crossmode/crossmode/search/Label" "mode" "I" (.int (-1 : Int32)) ∧ Fld Z h a1 "com/example/crossmode/crossmode/search/Label" "stage" "I" (.int (-1 : Int32)) ∧ Fld Z h a1 "com/example/crossmode/crossmode/search/Label" "vertex" "I" (.int p2) ∧ Fld Z h a1 "com/example/crossmode/crossmode/search/Label" "weights" "[J" (.ref a3)
set_option maxRecDepth 65536 in
set_option maxHeartbeats 40000000 in
theorem own_rm4 (l : Launch) (Z : State) (a0 : Array Value) (hw : ∀ d ∈ tables_1, d.before a0 Z = true) (ws : List Jvm.Cond) (a1 : Addr) (p2 : Int32) (a3 : Addr) (u_mode_a1 : Value) (u_stage_a1 : Value) (u_vertex_a1 : Value) (u_weights_a1 : Value) (h0 : Heap) (n0 : Nat) (Z0 : n0 ≤ h0.size) (E_a1 : Exa Z h0 a1 "com/example/crossmode/crossmode/search/Label") (F_mode_a1 : Fld Z h0 a1 "com/example/crossmode/crossmode/search/Label" "mode" "I" u_mode_a1) (g_a1 : n0 ≤ a1) (F_stage_a1 : Fld Z h0 a1 "com/example/crossmode/crossmode/search/Label" "stage" "I" u_stage_a1) (F_vertex_a1 : Fld Z h0 a1 "com/example/crossmode/crossmode/search/Label" "vertex" "I" u_vertex_a1) (F_weights_a1 : Fld Z h0 a1 "com/example/crossmode/crossmode/search/Label" "weights" "[J" u_weights_a1) :
    MetFree l (⟨"com/example/crossmode/crossmode/search/Label", "<init>", "(I[J)V"⟩ : MethodName) (head1 (Jvm.Cond.code (⟨"com/example/crossmode/crossmode/search/Label", "<init>", "(I[J)V"⟩ : MethodName) prog_14_method_1_code 3 none :: ws) ({ frames := 1, cells := 0, slots := 0, locals := 12 } : Room)) (fun a U => a = #[(.ref a1), (.int p2), (.ref a3)] ∧ Z.Warmed39 U.vm ∧ U.heap = h0) (fun _ _ _ _ _ => True) (fun _ U o U' => ∃ v L, o = .returned v ∧ Q4 Z a1 p2 a3 u_mode_a1 u_stage_a1 u_vertex_a1 u_weights_a1 h0 n0 v U'.heap L ∧ FrameEnd U o U' L ({ frames := 1, cells := 0, slots := 0, locals := 12 } : Room).cells ({ frames := 1, cells := 0, slots := 0, locals := 12 } : Room).slots) := by
  refine MetFree.of_bodySF (plainFor_of_name pn_4) hisR ?_
  intro p e s m args below meth c s₁ Bd hml0 hP hK
  obtain ⟨rfl, hZ, hh⟩ := hP
  have hx := Bd.exec
  have hby := Bd.bytes
  have hml : c.maxLocals = 3 := hml0
  have hown : s.vm.findClass "com/example/crossmode/crossmode/search/Label" = some m.cls := findClass_of_methodNamed Bd.named
  have hnm := (name_of_methodNamed Bd.named Bd.method).1
  have X0 : Stand p l e ({ frames := 1, cells := 0, slots := 0, locals := 12 } : Room) s m #[(.ref a1), (.int p2), (.ref a3)] below meth c s₁ [] 0 0 := Stand.of_body Bd
  have e0 : s₁.heap = h0 := by rw [← hh, Bd.state]; rfl
  have N0 := Fr.nil n0
  have pre0 : ∀ t, Steps p.tables e below (s₁.setTop (mkF m 0 #[.val (.ref a1), .val (.int p2), .val (.ref a3)] [])) t → Steps p.tables e below (s₁.setTop (entryFrame m #[(.ref a1), (.int p2), (.ref a3)] 3)) t := fun t k => castTop (ef_4 m a1 p2 a3) k
  obtain ⟨T4, X4, e4, st4⟩ := initO X0 hx hZ hown (hw _ (List.mem_of_getElem? (i := 28) rfl)) (hw _ (List.mem_of_getElem? (i := 12) rfl)) (hw _ (List.mem_of_getElem? (i := 13) rfl)) e0 (g := (mkF m 1 #[.val (.ref a1), .val (.int p2), .val (.ref a3)] [(.ref a1)])) rfl (by rw [hml]; rfl) rfl (hb hby d4_1) (by decide) (W := 0) (by show 2 * 0 + _ ≤ _; exact Nat.le_of_eq rfl) (by decide)
  obtain ⟨T5, h5, X5, e5, W5, st5⟩ := putF X4 hx hZ hown (host := "") (Or.inl (hw _ (List.mem_of_getElem? (i := 29) rfl))) Via.refl e4 F_mode_a1 E_a1 (Or.inl (hw _ (List.mem_of_getElem? (i := 30) rfl))) (hw _ (List.mem_of_getElem? (i := 23) rfl)) (ty := .int) (by decide) rfl rfl (g := (mkF m 6 #[.val (.ref a1), .val (.int p2), .val (.ref a3)] [(.int (-1 : Int32)), (.ref a1)])) rfl rfl (hb hby d4_6)
  have Fw5 := F_mode_a1.same W5
  have K5 : Keep h0 h5 [a1] := (Keep.refl h0 [a1]).wr W5 (Or.inl (List.mem_of_getElem? (i := 0) rfl))
  have N5 := Fr.snoc X5 N0 g_a1
  obtain ⟨T6, h6, X6, e6, W6, st6⟩ := putF X5 hx hZ hown (host := "") (Or.inl (hw _ (List.mem_of_getElem? (i := 31) rfl))) Via.refl e5 (F_stage_a1.other W5 (Or.inr (slot_ne (Or.inl (hw _ (List.mem_of_getElem? (i := 32) rfl))) (Or.inl (hw _ (List.mem_of_getElem? (i := 30) rfl))) (by decide) (t := .int) (t' := .int) (by decide) (by decide)))) (E_a1.wr W5) (Or.inl (hw _ (List.mem_of_getElem? (i := 32) rfl))) (hw _ (List.mem_of_getElem? (i := 23) rfl)) (ty := .int) (by decide) rfl rfl (g := (mkF m 11 #[.val (.ref a1), .val (.int p2), .val (.ref a3)] [(.int (-1 : Int32)), (.ref a1)])) rfl rfl (hb hby d4_11)
  have Fw6 := (F_stage_a1.other W5 (Or.inr (slot_ne (Or.inl (hw _ (List.mem_of_getElem? (i := 32) rfl))) (Or.inl (hw _ (List.mem_of_getElem? (i := 30) rfl))) (by decide) (t := .int) (t' := .int) (by decide) (by decide)))).same W6
  have K6 : Keep h0 h6 [a1] := K5.wr W6 (Or.inl (List.mem_of_getElem? (i := 0) rfl))
  have N6 := Fr.snoc X6 N5 g_a1
  obtain ⟨T7, h7, X7, e7, W7, st7⟩ := putF X6 hx hZ hown (host := "") (Or.inl (hw _ (List.mem_of_getElem? (i := 33) rfl))) Via.refl e6 ((F_vertex_a1.other W5 (Or.inr (slot_ne (Or.inr (hw _ (List.mem_of_getElem? (i := 34) rfl))) (Or.inl (hw _ (List.mem_of_getElem? (i := 30) rfl))) (by decide) (t := .int) (t' := .int) (by decide) (by decide)))).other W6 (Or.inr (slot_ne (Or.inr (hw _ (List.mem_of_getElem? (i := 34) rfl))) (Or.inl (hw _ (List.mem_of_getElem? (i := 32) rfl))) (by decide) (t := .int) (t' := .int) (by decide) (by decide)))) ((E_a1.wr W5).wr W6) (Or.inr ⟨(hw _ (List.mem_of_getElem? (i := 34) rfl)), rfl, hnm⟩) (hw _ (List.mem_of_getElem? (i := 23) rfl)) (ty := .int) (by decide) rfl rfl (g := (mkF m 16 #[.val (.ref a1), .val (.int p2), .val (.ref a3)] [(.int p2), (.ref a1)])) rfl rfl (hb hby d4_16)
  have Fw7 := ((F_vertex_a1.other W5 (Or.inr (slot_ne (Or.inr (hw _ (List.mem_of_getElem? (i := 34) rfl))) (Or.inl (hw _ (List.mem_of_getElem? (i := 30) rfl))) (by decide) (t := .int) (t' := .int) (by decide) (by decide)))).other W6 (Or.inr (slot_ne (Or.inr (hw _ (List.mem_of_getElem? (i := 34) rfl))) (Or.inl (hw _ (List.mem_of_getElem? (i := 32) rfl))) (by decide) (t := .int) (t' := .int) (by decide) (by decide)))).same W7
  have K7 : Keep h0 h7 [a1] := K6.wr W7 (Or.inl (List.mem_of_getElem? (i := 0) rfl))
  have N7 := Fr.snoc X7 N6 g_a1
  obtain ⟨T8, h8, X8, e8, W8, st8⟩ := putF X7 hx hZ hown (host := "") (Or.inl (hw _ (List.mem_of_getElem? (i := 35) rfl))) Via.refl e7 (((F_weights_a1.other W5 (Or.inr (slot_ne (Or.inr (hw _ (List.mem_of_getElem? (i := 36) rfl))) (Or.inl (hw _ (List.mem_of_getElem? (i := 30) rfl))) (by decide) (t := (.array .long)) (t' := .int) (by decide) (by decide)))).other W6 (Or.inr (slot_ne (Or.inr (hw _ (List.mem_of_getElem? (i := 36) rfl))) (Or.inl (hw _ (List.mem_of_getElem? (i := 32) rfl))) (by decide) (t := (.array .long)) (t' := .int) (by decide) (by decide)))).other W7 (Or.inr (slot_ne (Or.inr (hw _ (List.mem_of_getElem? (i := 36) rfl))) (Or.inr (hw _ (List.mem_of_getElem? (i := 34) rfl))) (by decide) (t := (.array .long)) (t' := .int) (by decide) (by decide)))) (((E_a1.wr W5).wr W6).wr W7) (Or.inr ⟨(hw _ (List.mem_of_getElem? (i := 36) rfl)), rfl, hnm⟩) (hw _ (List.mem_of_getElem? (i := 23) rfl)) (ty := (.array .long)) (by decide) rfl rfl (g := (mkF m 21 #[.val (.ref a1), .val (.int p2), .val (.ref a3)] [(.ref a3), (.ref a1)])) rfl rfl (hb hby d4_21)
  have Fw8 := (((F_weights_a1.other W5 (Or.inr (slot_ne (Or.inr (hw _ (List.mem_of_getElem? (i := 36) rfl))) (Or.inl (hw _ (List.mem_of_getElem? (i := 30) rfl))) (by decide) (t := (.array .long)) (t' := .int) (by decide) (by decide)))).other W6 (Or.inr (slot_ne (Or.inr (hw _ (List.mem_of_getElem? (i := 36) rfl))) (Or.inl (hw _ (List.mem_of_getElem? (i := 32) rfl))) (by decide) (t := (.array .long)) (t' := .int) (by decide) (by decide)))).other W7 (Or.inr (slot_ne (Or.inr (hw _ (List.mem_of_getElem? (i := 36) rfl))) (Or.inr (hw _ (List.mem_of_getElem? (i := 34) rfl))) (by decide) (t := (.array .long)) (t' := .int) (by decide) (by decide)))).same W8
  have K8 : Keep h0 h8 [a1] := K7.wr W8 (Or.inl (List.mem_of_getElem? (i := 0) rfl))
  have N8 := Fr.snoc X8 N7 g_a1
  obtain ⟨fs, hr, hrun, hended, hW, hsame⟩ := X8.leave (v := none) (fun _ => rfl)
  refine ⟨_, _, pre0 _ ?_, hrun, hended, _, _, rfl, ?_, ⟨_, rfl⟩, hW, hsame.mono (by decide) (by decide)⟩
  · show Steps p.tables e below (s₁.setTop (mkF m 0 #[.val (.ref a1), .val (.int p2), .val (.ref a3)] [])) _
    refine XS.aloadN X0.here hx rfl (hb hby d4_0) rfl rfl ?_
    show Steps p.tables e below (s₁.setTop (mkF m 1 #[.val (.ref a1), .val (.int p2), .val (.ref a3)] [(.ref a1)])) _
    refine st4 _ ?_
    show Steps p.tables e below (T4.setTop (mkF m 4 #[.val (.ref a1), .val (.int p2), .val (.ref a3)] [])) _
    refine XS.aloadN X4.here hx rfl (hb hby d4_4) rfl rfl ?_
    show Steps p.tables e below (T4.setTop (mkF m 5 #[.val (.ref a1), .val (.int p2), .val (.ref a3)] [(.ref a1)])) _
    refine XS.iconst X4.here hx rfl (hb hby d4_5) ?_
    show Steps p.tables e below (T4.setTop (mkF m 6 #[.val (.ref a1), .val (.int p2), .val (.ref a3)] [(.int (-1 : Int32)), (.ref a1)])) _
    refine st5 _ ?_
    show Steps p.tables e below (T5.setTop (mkF m 9 #[.val (.ref a1), .val (.int p2), .val (.ref a3)] [])) _
    refine XS.aloadN X5.here hx rfl (hb hby d4_9) rfl rfl ?_
    show Steps p.tables e below (T5.setTop (mkF m 10 #[.val (.ref a1), .val (.int p2), .val (.ref a3)] [(.ref a1)])) _
    refine XS.iconst X5.here hx rfl (hb hby d4_10) ?_
    show Steps p.tables e below (T5.setTop (mkF m 11 #[.val (.ref a1), .val (.int p2), .val (.ref a3)] [(.int (-1 : Int32)), (.ref a1)])) _
    refine st6 _ ?_
    show Steps p.tables e below (T6.setTop (mkF m 14 #[.val (.ref a1), .val (.int p2), .val (.ref a3)] [])) _
    refine XS.aloadN X6.here hx rfl (hb hby d4_14) rfl rfl ?_
    show Steps p.tables e below (T6.setTop (mkF m 15 #[.val (.ref a1), .val (.int p2), .val (.ref a3)] [(.ref a1)])) _
    refine XS.iloadN X6.here hx rfl (hb hby d4_15) rfl ?_
    show Steps p.tables e below (T6.setTop (mkF m 16 #[.val (.ref a1), .val (.int p2), .val (.ref a3)] [(.int p2), (.ref a1)])) _
    refine st7 _ ?_
    show Steps p.tables e below (T7.setTop (mkF m 19 #[.val (.ref a1), .val (.int p2), .val (.ref a3)] [])) _
    refine XS.aloadN X7.here hx rfl (hb hby d4_19) rfl rfl ?_
    show Steps p.tables e below (T7.setTop (mkF m 20 #[.val (.ref a1), .val (.int p2), .val (.ref a3)] [(.ref a1)])) _
    refine XS.aloadN X7.here hx rfl (hb hby d4_20) rfl rfl ?_
    show Steps p.tables e below (T7.setTop (mkF m 21 #[.val (.ref a1), .val (.int p2), .val (.ref a3)] [(.ref a3), (.ref a1)])) _
    refine st8 _ ?_
    show Steps p.tables e below (T8.setTop (mkF m 24 #[.val (.ref a1), .val (.int p2), .val (.ref a3)] [])) _
    exact X8.returnOut hx Bd.returns (hb hby d4_24) hr
  · show Q4 Z a1 p2 a3 u_mode_a1 u_stage_a1 u_vertex_a1 u_weights_a1 h0 n0 _ T8.heap _
    rw [e8]
    exact ⟨rfl, N8, K8, ((((E_a1.wr W5).wr W6).wr W7).wr W8), (((Fw5.other W6 (Or.inr (slot_ne (Or.inl (hw _ (List.mem_of_getElem? (i := 30) rfl))) (Or.inl (hw _ (List.mem_of_getElem? (i := 32) rfl))) (by decide) (t := .int) (t' := .int) (by decide) (by decide)))).other W7 (Or.inr (slot_ne (Or.inl (hw _ (List.mem_of_getElem? (i := 30) rfl))) (Or.inr (hw _ (List.mem_of_getElem? (i := 34) rfl))) (by decide) (t := .int) (t' := .int) (by decide) (by decide)))).other W8 (Or.inr (slot_ne (Or.inl (hw _ (List.mem_of_getElem? (i := 30) rfl))) (Or.inr (hw _ (List.mem_of_getElem? (i := 36) rfl))) (by decide) (t := .int) (t' := (.array .long)) (by decide) (by decide)))), ((Fw6.other W7 (Or.inr (slot_ne (Or.inl (hw _ (List.mem_of_getElem? (i := 32) rfl))) (Or.inr (hw _ (List.mem_of_getElem? (i := 34) rfl))) (by decide) (t := .int) (t' := .int) (by decide) (by decide)))).other W8 (Or.inr (slot_ne (Or.inl (hw _ (List.mem_of_getElem? (i := 32) rfl))) (Or.inr (hw _ (List.mem_of_getElem? (i := 36) rfl))) (by decide) (t := .int) (t' := (.array .long)) (by decide) (by decide)))), (Fw7.other W8 (Or.inr (slot_ne (Or.inr (hw _ (List.mem_of_getElem? (i := 34) rfl))) (Or.inr (hw _ (List.mem_of_getElem? (i := 36) rfl))) (by decide) (t := .int) (t' := (.array .long)) (by decide) (by decide)))), Fw8⟩
theorem d5_0 : decode prog_15_method_6_code 0 = .ok (.aload_n 0, 1) := by decide +kernel
theorem d5_1 : decode prog_15_method_6_code 1 = .ok (.getfield 9, 3) := by decide +kernel
theorem d5_4 : decode prog_15_method_6_code 4 = .ok (.iload_n 1, 1) := by decide +kernel
theorem d5_5 : decode prog_15_method_6_code 5 = .ok (.aload_n 2, 1) := by decide +kernel
theorem d5_6 : decode prog_15_method_6_code 6 = .ok (.aastore, 1) := by decide +kernel
theorem d5_7 : decode prog_15_method_6_code 7 = .ok (.aload_n 2, 1) := by decide +kernel
theorem d5_8 : decode prog_15_method_6_code 8 = .ok (.getfield 55, 3) := by decide +kernel
theorem d5_11 : decode prog_15_method_6_code 11 = .ok (.iconst 0, 1) := by decide +kernel
theorem d5_12 : decode prog_15_method_6_code 12 = .ok (.aload_n 0, 1) := by decide +kernel
theorem d5_13 : decode prog_15_method_6_code 13 = .ok (.getfield 19, 3) := by decide +kernel
theorem d5_16 : decode prog_15_method_6_code 16 = .ok (.iload_n 1, 1) := by decide +kernel
theorem d5_17 : decode prog_15_method_6_code 17 = .ok (.aload_n 0, 1) := by decide +kernel
theorem d5_18 : decode prog_15_method_6_code 18 = .ok (.getfield 15, 3) := by decide +kernel
theorem d5_21 : decode prog_15_method_6_code 21 = .ok (.imul, 1) := by decide +kernel
theorem d5_22 : decode prog_15_method_6_code 22 = .ok (.aload_n 0, 1) := by decide +kernel
theorem d5_23 : decode prog_15_method_6_code 23 = .ok (.getfield 15, 3) := by decide +kernel
theorem d5_26 : decode prog_15_method_6_code 26 = .ok (.invokestatic 56, 3) := by decide +kernel
theorem d5_29 : decode prog_15_method_6_code 29 = .ok (.return_, 1) := by decide +kernel
theorem ef_5 (m : MethodId) (x0 : Addr) (x1 : Int32) (x2 : Addr) : entryFrame m #[(.ref x0), (.int x1), (.ref x2)] 3 = mkF m 0 #[.val (.ref x0), .val (.int x1), .val (.ref x2)] [] := by first | (simp [entryFrame, mkF, argsToLocals, Value.category]; done) | rfl
theorem pd_5_5 : parseMethodDescriptor "(Ljava/lang/Object;ILjava/lang/Object;II)V" = some ⟨[(.object "java/lang/Object"), .int, (.object "java/lang/Object"), .int, .int], none⟩ := by decide +kernel
theorem pn_5 : plainName "com/example/crossmode/crossmode/search/LabelSet" = true := by first | (simp [plainName, overriddenIn]; done) | decide +kernel
def own_Q5 (Z : State) (p2 : Int32) (a3 : Addr) (w4 w9 : Addr) (w11 : Int32) (kl kw : ClassId) (ls xs vs : List Value) (h0 : Heap) (n0 : Nat) (v : Option Value) (h : Heap) (L : List Loc) : Prop := v = none ∧ Fr n0 L ∧ Keep h0 h [w4, w9] ∧ Arv Z h w4 kl (.object "com/example/crossmode/crossmode/search/Label") (4 : Int32) (ls.set p2.toNatClampNeg (.ref a3)) .null ∧ Arv Z h w9 kw .long ((4 : Int32) * w11) (vs.take (p2 * w11).toNatClampNeg ++ xs ++ vs.drop ((p2 * w11).toNatClampNeg + w11.toNatClampNeg)) (.long (0 : Int64))
set_option maxRecDepth 65536 in
set_option maxHeartbeats 40000000 in
theorem own_rm5 (l : Launch) (Z : State) (a0 : Array Value) (hw : ∀ d ∈ tables_1, d.before a0 Z = true) (ws : List Jvm.Cond) (a1 : Addr) (p2 : Int32) (a3 : Addr) (w4 w7 w9 : Addr) (w11 : Int32) (kl kx kw : ClassId) (ls xs vs : List Value) (h0 : Heap) (n0 : Nat) (Z0 : n0 ≤ h0.size) (F_labels_a1 : Fld Z h0 a1 "com/example/crossmode/crossmode/search/LabelSet" "labels" "[Lcom/example/crossmode/crossmode/search/Label;" (.ref w4)) (F_weights_a1 : Fld Z h0 a1 "com/example/crossmode/crossmode/search/LabelSet" "weights" "[J" (.ref w9)) (F_modeCount_a1 : Fld Z h0 a1 "com/example/crossmode/crossmode/search/LabelSet" "modeCount" "I" (.int w11)) (F_weights_a3 : Fld Z h0 a3 "com/example/crossmode/crossmode/search/Label" "weights" "[J" (.ref w7)) (E_a3 : Exa Z h0 a3 "com/example/crossmode/crossmode/search/Label") (V_l : Arv Z h0 w4 kl (.object "com/example/crossmode/crossmode/search/Label") (4 : Int32) ls .null) (V_w : Arv Z h0 w9 kw .long ((4 : Int32) * w11) vs (.long (0 : Int64))) (V_x : Arv Z h0 w7 kx .long w11 xs (.long (0 : Int64))) (O_l : Ovr Z kl "com/example/crossmode/crossmode/search/Label") (g_w4 : n0 ≤ w4) (g_w9 : n0 ≤ w9) (n34 : a3 ≠ w4) (n14 : a1 ≠ w4) (n74 : w7 ≠ w4) (n94 : w9 ≠ w4) (hp : ¬ p2 < 0 ∧ p2 < 4) (hlen : p2.toNatClampNeg < ls.length) (c2 : ¬ (p2 * w11) < 0) (c3 : ¬ w11 < 0) (c5 : (p2 * w11).toNatClampNeg + w11.toNatClampNeg ≤ ((4 : Int32) * w11).toNatClampNeg) (hus : xs = (List.range w11.toNatClampNeg).map fun i => xs.getD ((0 : Int32).toNatClampNeg + i) (.long (0 : Int64))) (hvl : (p2 * w11).toNatClampNeg + w11.toNatClampNeg ≤ vs.length) :
    MetFree l (⟨"com/example/crossmode/crossmode/search/LabelSet", "set", "(ILcom/example/crossmode/crossmode/search/Label;)V"⟩ : MethodName) (head1 (Jvm.Cond.code (⟨"com/example/crossmode/crossmode/search/LabelSet", "set", "(ILcom/example/crossmode/crossmode/search/Label;)V"⟩ : MethodName) prog_15_method_6_code 3 none :: ws) ({ frames := 1, cells := 0, slots := 0, locals := 18 } : Room)) (fun a U => a = #[(.ref a1), (.int p2), (.ref a3)] ∧ Z.Warmed39 U.vm ∧ U.heap = h0) (fun _ _ _ _ _ => True) (fun _ U o U' => ∃ v L, o = .returned v ∧ own_Q5 Z p2 a3 w4 w9 w11 kl kw ls xs vs h0 n0 v U'.heap L ∧ FrameEnd U o U' L ({ frames := 1, cells := 0, slots := 0, locals := 18 } : Room).cells ({ frames := 1, cells := 0, slots := 0, locals := 18 } : Room).slots) := by
  refine MetFree.of_bodySF (plainFor_of_name pn_5) hisR ?_
  intro p e s m args below meth c s₁ Bd hml0 hP hK
  obtain ⟨rfl, hZ, hh⟩ := hP
  have hx := Bd.exec
  have hby := Bd.bytes
  have hml : c.maxLocals = 3 := hml0
  have hown : s.vm.findClass "com/example/crossmode/crossmode/search/LabelSet" = some m.cls := findClass_of_methodNamed Bd.named
  have hnm := (name_of_methodNamed Bd.named Bd.method).1
  have X0 : Stand p l e ({ frames := 1, cells := 0, slots := 0, locals := 18 } : Room) s m #[(.ref a1), (.int p2), (.ref a3)] below meth c s₁ [] 0 0 := Stand.of_body Bd
  have e0 : s₁.heap = h0 := by rw [← hh, Bd.state]; rfl
  have N0 := Fr.nil n0
  have pre0 : ∀ t, Steps p.tables e below (s₁.setTop (mkF m 0 #[.val (.ref a1), .val (.int p2), .val (.ref a3)] [])) t → Steps p.tables e below (s₁.setTop (entryFrame m #[(.ref a1), (.int p2), (.ref a3)] 3)) t := fun t k => castTop (ef_5 m a1 p2 a3) k
  obtain ⟨cl_w4, Ar_w4, q_l, S_l, M_l, H_l, G_l⟩ := V_l
  have hin6 : ¬ (p2 < 0 ∨ cl_w4.slots.size ≤ (p2).toNatClampNeg) := inb_of S_l hp
  have Sto6 : Sto Z h0 w4 (.ref a3) := Sto.ofV Ar_w4 q_l O_l (Ins.self E_a3)
  obtain ⟨T5, X5, e5, st5⟩ := getF X0 hx hZ hown (host := "") (Or.inl (hw _ (List.mem_of_getElem? (i := 16) rfl))) Via.refl e0 F_labels_a1 (g := (mkF m 1 #[.val (.ref a1), .val (.int p2), .val (.ref a3)] [(.ref a1)])) rfl rfl (hb hby d5_1)
  obtain ⟨T6, h6, X6, e6, W6, st6⟩ := stR X5 hx hZ e5 Ar_w4 (j := p2) hin6 rfl Sto6 (g := (mkF m 6 #[.val (.ref a1), .val (.int p2), .val (.ref a3)] [(.ref a3), (.int p2), (.ref w4)])) rfl rfl (hb hby d5_6)
  have N6 := Fr.snoc X6 N0 g_w4
  have V_l6 := Arv.set Ar_w4 q_l S_l M_l H_l G_l rfl W6 p2.toNatClampNeg rfl hlen
  obtain ⟨T8, X8, e8, st8⟩ := getF X6 hx hZ hown (host := "") (Or.inl (hw _ (List.mem_of_getElem? (i := 43) rfl))) Via.refl e6 (F_weights_a3.other W6 (Or.inl n34)) (g := (mkF m 8 #[.val (.ref a1), .val (.int p2), .val (.ref a3)] [(.ref a3)])) rfl rfl (hb hby d5_8)
  obtain ⟨T10, X10, e10, st10⟩ := getF X8 hx hZ hown (host := "") (Or.inl (hw _ (List.mem_of_getElem? (i := 20) rfl))) Via.refl e8 (F_weights_a1.other W6 (Or.inl n14)) (g := (mkF m 13 #[.val (.ref a1), .val (.int p2), .val (.ref a3)] [(.ref a1), (.int (0 : Int32)), (.ref w7)])) rfl rfl (hb hby d5_13)
  obtain ⟨T12, X12, e12, st12⟩ := getF X10 hx hZ hown (host := "") (Or.inl (hw _ (List.mem_of_getElem? (i := 18) rfl))) Via.refl e10 (F_modeCount_a1.other W6 (Or.inl n14)) (g := (mkF m 18 #[.val (.ref a1), .val (.int p2), .val (.ref a3)] [(.ref a1), (.int p2), (.ref w9), (.int (0 : Int32)), (.ref w7)])) rfl rfl (hb hby d5_18)
  obtain ⟨T13, X13, e13, st13⟩ := getF X12 hx hZ hown (host := "") (Or.inl (hw _ (List.mem_of_getElem? (i := 18) rfl))) Via.refl e12 (F_modeCount_a1.other W6 (Or.inl n14)) (g := (mkF m 23 #[.val (.ref a1), .val (.int p2), .val (.ref a3)] [(.ref a1), (.int (p2 * w11)), (.ref w9), (.int (0 : Int32)), (.ref w7)])) rfl rfl (hb hby d5_23)
  obtain ⟨T14, h14, L14, X14, e14, N14, K14, V14, st14⟩ := cpA X13 hx hZ hown (hw _ (List.mem_of_getElem? (i := 44) rfl)) (hw _ (List.mem_of_getElem? (i := 47) rfl)) (hw _ (List.mem_of_getElem? (i := 45) rfl)) (hw _ (List.mem_of_getElem? (i := 46) rfl)) e13 (V_x.other W6 n74) (V_w.other W6 n94) (Or.inl ⟨rfl, rfl⟩) (by decide) c2 c3 (Nat.le_of_eq (Nat.zero_add _)) c5 hus hvl N6 g_w9 (g := (mkF m 26 #[.val (.ref a1), .val (.int p2), .val (.ref a3)] [(.int w11), (.int (p2 * w11)), (.ref w9), (.int (0 : Int32)), (.ref w7)])) rfl (by rw [hml]; rfl) (rest := []) rfl (hb hby d5_26) (by decide) (W := 0) (by show 2 * 0 + _ ≤ _; exact Nat.le_of_eq rfl) (by decide)
  obtain ⟨fs, hr, hrun, hended, hW, hsame⟩ := X14.leave (v := none) (fun _ => rfl)
  refine ⟨_, _, pre0 _ ?_, hrun, hended, _, _, rfl, ?_, ⟨_, rfl⟩, hW, hsame.mono (by decide) (by decide)⟩
  · show Steps p.tables e below (s₁.setTop (mkF m 0 #[.val (.ref a1), .val (.int p2), .val (.ref a3)] [])) _
    refine XS.aloadN X0.here hx rfl (hb hby d5_0) rfl rfl ?_
    show Steps p.tables e below (s₁.setTop (mkF m 1 #[.val (.ref a1), .val (.int p2), .val (.ref a3)] [(.ref a1)])) _
    refine st5 _ ?_
    show Steps p.tables e below (T5.setTop (mkF m 4 #[.val (.ref a1), .val (.int p2), .val (.ref a3)] [(.ref w4)])) _
    refine XS.iloadN X5.here hx rfl (hb hby d5_4) rfl ?_
    show Steps p.tables e below (T5.setTop (mkF m 5 #[.val (.ref a1), .val (.int p2), .val (.ref a3)] [(.int p2), (.ref w4)])) _
    refine XS.aloadN X5.here hx rfl (hb hby d5_5) rfl rfl ?_
    show Steps p.tables e below (T5.setTop (mkF m 6 #[.val (.ref a1), .val (.int p2), .val (.ref a3)] [(.ref a3), (.int p2), (.ref w4)])) _
    refine st6 _ ?_
    show Steps p.tables e below (T6.setTop (mkF m 7 #[.val (.ref a1), .val (.int p2), .val (.ref a3)] [])) _
    refine XS.aloadN X6.here hx rfl (hb hby d5_7) rfl rfl ?_
    show Steps p.tables e below (T6.setTop (mkF m 8 #[.val (.ref a1), .val (.int p2), .val (.ref a3)] [(.ref a3)])) _
    refine st8 _ ?_
    show Steps p.tables e below (T8.setTop (mkF m 11 #[.val (.ref a1), .val (.int p2), .val (.ref a3)] [(.ref w7)])) _
    refine XS.iconst X8.here hx rfl (hb hby d5_11) ?_
    show Steps p.tables e below (T8.setTop (mkF m 12 #[.val (.ref a1), .val (.int p2), .val (.ref a3)] [(.int (0 : Int32)), (.ref w7)])) _
    refine XS.aloadN X8.here hx rfl (hb hby d5_12) rfl rfl ?_
    show Steps p.tables e below (T8.setTop (mkF m 13 #[.val (.ref a1), .val (.int p2), .val (.ref a3)] [(.ref a1), (.int (0 : Int32)), (.ref w7)])) _
    refine st10 _ ?_
    show Steps p.tables e below (T10.setTop (mkF m 16 #[.val (.ref a1), .val (.int p2), .val (.ref a3)] [(.ref w9), (.int (0 : Int32)), (.ref w7)])) _
    refine XS.iloadN X10.here hx rfl (hb hby d5_16) rfl ?_
    show Steps p.tables e below (T10.setTop (mkF m 17 #[.val (.ref a1), .val (.int p2), .val (.ref a3)] [(.int p2), (.ref w9), (.int (0 : Int32)), (.ref w7)])) _
    refine XS.aloadN X10.here hx rfl (hb hby d5_17) rfl rfl ?_
    show Steps p.tables e below (T10.setTop (mkF m 18 #[.val (.ref a1), .val (.int p2), .val (.ref a3)] [(.ref a1), (.int p2), (.ref w9), (.int (0 : Int32)), (.ref w7)])) _
    refine st12 _ ?_
    show Steps p.tables e below (T12.setTop (mkF m 21 #[.val (.ref a1), .val (.int p2), .val (.ref a3)] [(.int w11), (.int p2), (.ref w9), (.int (0 : Int32)), (.ref w7)])) _
    refine XS.imul X12.here hx rfl (hb hby d5_21) rfl ?_
    show Steps p.tables e below (T12.setTop (mkF m 22 #[.val (.ref a1), .val (.int p2), .val (.ref a3)] [(.int (p2 * w11)), (.ref w9), (.int (0 : Int32)), (.ref w7)])) _
    refine XS.aloadN X12.here hx rfl (hb hby d5_22) rfl rfl ?_
    show Steps p.tables e below (T12.setTop (mkF m 23 #[.val (.ref a1), .val (.int p2), .val (.ref a3)] [(.ref a1), (.int (p2 * w11)), (.ref w9), (.int (0 : Int32)), (.ref w7)])) _
    refine st13 _ ?_
    show Steps p.tables e below (T13.setTop (mkF m 26 #[.val (.ref a1), .val (.int p2), .val (.ref a3)] [(.int w11), (.int (p2 * w11)), (.ref w9), (.int (0 : Int32)), (.ref w7)])) _
    refine st14 _ ?_
    show Steps p.tables e below (T14.setTop (mkF m 29 #[.val (.ref a1), .val (.int p2), .val (.ref a3)] [])) _
    exact X14.returnOut hx Bd.returns (hb hby d5_29) hr
  · show own_Q5 Z p2 a3 w4 w9 w11 kl kw ls xs vs h0 n0 _ T14.heap _
    rw [e14]
    exact ⟨rfl, N14, ((Keep.refl h0 [w4, w9]).wr W6 (Or.inl (List.mem_of_getElem? (i := 0) rfl))).trans K14 (fun x hx => Or.inl (by cases List.mem_singleton.mp hx; exact List.mem_of_getElem? (i := 1) rfl)), V_l6.keep K14 (own_n1 (Ne.symm n94)), V14⟩
theorem d6_0 : decode prog_15_method_3_code 0 = .ok (.aload_n 0, 1) := by decide +kernel
theorem d6_1 : decode prog_15_method_3_code 1 = .ok (.getfield 9, 3) := by decide +kernel
theorem d6_4 : decode prog_15_method_3_code 4 = .ok (.iload_n 1, 1) := by decide +kernel
theorem d6_5 : decode prog_15_method_3_code 5 = .ok (.aaload, 1) := by decide +kernel
theorem d6_6 : decode prog_15_method_3_code 6 = .ok (.areturn, 1) := by decide +kernel
theorem ef_6 (m : MethodId) (x0 : Addr) (x1 : Int32) : entryFrame m #[(.ref x0), (.int x1)] 2 = mkF m 0 #[.val (.ref x0), .val (.int x1)] [] := by first | (simp [entryFrame, mkF, argsToLocals, Value.category]; done) | rfl
theorem pn_6 : plainName "com/example/crossmode/crossmode/search/LabelSet" = true := by first | (simp [plainName, overriddenIn]; done) | decide +kernel
set_option maxRecDepth 65536 in
set_option maxHeartbeats 40000000 in
theorem own_rm6_ref (l : Launch) (Z : State) (a0 : Array Value) (hw : ∀ d ∈ tables_1, d.before a0 Z = true) (ws : List Jvm.Cond) (a1 : Addr) (p2 : Int32) (w3 : Addr) (w5 : Addr) (kl : ClassId) (ls : List Value) (h0 : Heap) (n0 : Nat) (Z0 : n0 ≤ h0.size) (F_labels_a1 : Fld Z h0 a1 "com/example/crossmode/crossmode/search/LabelSet" "labels" "[Lcom/example/crossmode/crossmode/search/Label;" (.ref w3)) (V_l : Arv Z h0 w3 kl (.object "com/example/crossmode/crossmode/search/Label") (4 : Int32) ls .null) (hp : (p2 = 0 ∨ p2 = 1 ∨ p2 = 2 ∨ p2 = 3)) (hg : ls.getD p2.toNatClampNeg .null = (.ref w5)) :
    MetFree l (⟨"com/example/crossmode/crossmode/search/LabelSet", "get", "(I)Lcom/example/crossmode/crossmode/search/Label;"⟩ : MethodName) (head1 (Jvm.Cond.code (⟨"com/example/crossmode/crossmode/search/LabelSet", "get", "(I)Lcom/example/crossmode/crossmode/search/Label;"⟩ : MethodName) prog_15_method_3_code 2 (some (.object "com/example/crossmode/crossmode/search/Label")) :: ws) ({ frames := 0, cells := 0, slots := 0, locals := 0 } : Room)) (fun a U => a = #[(.ref a1), (.int p2)] ∧ Z.Warmed39 U.vm ∧ U.heap = h0) (fun _ _ _ _ _ => True) (fun _ U o U' => ∃ v L, o = .returned v ∧ own_Q (some (.ref w5)) h0 n0 v U'.heap L ∧ FrameEnd U o U' L ({ frames := 0, cells := 0, slots := 0, locals := 0 } : Room).cells ({ frames := 0, cells := 0, slots := 0, locals := 0 } : Room).slots) := by
  refine MetFree.of_bodySF (plainFor_of_name pn_6) hisR ?_
  intro p e s m args below meth c s₁ Bd hml0 hP hK
  obtain ⟨rfl, hZ, hh⟩ := hP
  have hx := Bd.exec
  have hby := Bd.bytes
  have hml : c.maxLocals = 2 := hml0
  have hown : s.vm.findClass "com/example/crossmode/crossmode/search/LabelSet" = some m.cls := findClass_of_methodNamed Bd.named
  have hnm := (name_of_methodNamed Bd.named Bd.method).1
  have X0 : Stand p l e ({ frames := 0, cells := 0, slots := 0, locals := 0 } : Room) s m #[(.ref a1), (.int p2)] below meth c s₁ [] 0 0 := Stand.of_body Bd
  have e0 : s₁.heap = h0 := by rw [← hh, Bd.state]; rfl
  have N0 := Fr.nil n0
  have pre0 : ∀ t, Steps p.tables e below (s₁.setTop (mkF m 0 #[.val (.ref a1), .val (.int p2)] [])) t → Steps p.tables e below (s₁.setTop (entryFrame m #[(.ref a1), (.int p2)] 2)) t := fun t k => castTop (ef_6 m a1 p2) k
  obtain ⟨cl_w3, Ar_w3, -, S_l, M_l, H_l, -⟩ := V_l
  have hin5 : ¬ (p2 < 0 ∨ cl_w3.slots.size ≤ (p2).toNatClampNeg) := inb_of S_l (own_in4 hp)
  have hat5 : cl_w3.slots[(p2).toNatClampNeg]? = some (.ref w5) := (H_l _ (Nat.lt_of_not_le fun q => hin5 (Or.inr q))).trans (congrArg some hg)
  obtain ⟨T4, X4, e4, st4⟩ := getF X0 hx hZ hown (host := "") (Or.inl (hw _ (List.mem_of_getElem? (i := 16) rfl))) Via.refl e0 F_labels_a1 (g := (mkF m 1 #[.val (.ref a1), .val (.int p2)] [(.ref a1)])) rfl rfl (hb hby d6_1)
  obtain ⟨fs, hr, hrun, hended, hW, hsame⟩ := X4.leave (v := some (.ref w5)) (fun h => by rw [Bd.returns] at h; cases h)
  refine ⟨_, _, pre0 _ ?_, hrun, hended, _, _, rfl, ?_, ⟨_, rfl⟩, hW, hsame.mono (by decide) (by decide)⟩
  · show Steps p.tables e below (s₁.setTop (mkF m 0 #[.val (.ref a1), .val (.int p2)] [])) _
    refine XS.aloadN X0.here hx rfl (hb hby d6_0) rfl rfl ?_
    show Steps p.tables e below (s₁.setTop (mkF m 1 #[.val (.ref a1), .val (.int p2)] [(.ref a1)])) _
    refine st4 _ ?_
    show Steps p.tables e below (T4.setTop (mkF m 4 #[.val (.ref a1), .val (.int p2)] [(.ref w3)])) _
    refine XS.iloadN X4.here hx rfl (hb hby d6_4) rfl ?_
    show Steps p.tables e below (T4.setTop (mkF m 5 #[.val (.ref a1), .val (.int p2)] [(.int p2), (.ref w3)])) _
    refine X4.aaload hx (j := p2) (v := (.ref w5)) (by rw [e4]; exact Ar_w3.1) (State.isArrayOf_alike hZ.alike Ar_w3.2.1) rfl Ar_w3.2.2 hin5 hat5 (g := (mkF m 5 #[.val (.ref a1), .val (.int p2)] [(.int p2), (.ref w3)])) rfl rfl (hb hby d6_5) _ ?_
    show Steps p.tables e below (T4.setTop (mkF m 6 #[.val (.ref a1), .val (.int p2)] [(.ref w5)])) _
    jvm_step X4.here [X4.here.top, hx, (hb hby d6_6), X4.method', Bd.returns, Value.isRef, FieldType.isReference]
    first | (intro acts; rw [hr _ acts rfl rfl rfl]) | rw [hr _ _ rfl rfl rfl]
    exact Steps.refl _
  · show own_Q (some (.ref w5)) h0 n0 _ T4.heap _
    rw [e4]
    exact ⟨rfl, N0, rfl⟩
set_option maxRecDepth 65536 in
set_option maxHeartbeats 40000000 in
theorem own_rm6_null (l : Launch) (Z : State) (a0 : Array Value) (hw : ∀ d ∈ tables_1, d.before a0 Z = true) (ws : List Jvm.Cond) (a1 : Addr) (p2 : Int32) (w3 : Addr) (kl : ClassId) (ls : List Value) (h0 : Heap) (n0 : Nat) (Z0 : n0 ≤ h0.size) (F_labels_a1 : Fld Z h0 a1 "com/example/crossmode/crossmode/search/LabelSet" "labels" "[Lcom/example/crossmode/crossmode/search/Label;" (.ref w3)) (V_l : Arv Z h0 w3 kl (.object "com/example/crossmode/crossmode/search/Label") (4 : Int32) ls .null) (hp : (p2 = 0 ∨ p2 = 1 ∨ p2 = 2 ∨ p2 = 3)) (hg : ls.getD p2.toNatClampNeg .null = .null) :
    MetFree l (⟨"com/example/crossmode/crossmode/search/LabelSet", "get", "(I)Lcom/example/crossmode/crossmode/search/Label;"⟩ : MethodName) (head1 (Jvm.Cond.code (⟨"com/example/crossmode/crossmode/search/LabelSet", "get", "(I)Lcom/example/crossmode/crossmode/search/Label;"⟩ : MethodName) prog_15_method_3_code 2 (some (.object "com/example/crossmode/crossmode/search/Label")) :: ws) ({ frames := 0, cells := 0, slots := 0, locals := 0 } : Room)) (fun a U => a = #[(.ref a1), (.int p2)] ∧ Z.Warmed39 U.vm ∧ U.heap = h0) (fun _ _ _ _ _ => True) (fun _ U o U' => ∃ v L, o = .returned v ∧ own_Q (some .null) h0 n0 v U'.heap L ∧ FrameEnd U o U' L ({ frames := 0, cells := 0, slots := 0, locals := 0 } : Room).cells ({ frames := 0, cells := 0, slots := 0, locals := 0 } : Room).slots) := by
  refine MetFree.of_bodySF (plainFor_of_name pn_6) hisR ?_
  intro p e s m args below meth c s₁ Bd hml0 hP hK
  obtain ⟨rfl, hZ, hh⟩ := hP
  have hx := Bd.exec
  have hby := Bd.bytes
  have hml : c.maxLocals = 2 := hml0
  have hown : s.vm.findClass "com/example/crossmode/crossmode/search/LabelSet" = some m.cls := findClass_of_methodNamed Bd.named
  have hnm := (name_of_methodNamed Bd.named Bd.method).1
  have X0 : Stand p l e ({ frames := 0, cells := 0, slots := 0, locals := 0 } : Room) s m #[(.ref a1), (.int p2)] below meth c s₁ [] 0 0 := Stand.of_body Bd
  have e0 : s₁.heap = h0 := by rw [← hh, Bd.state]; rfl
  have N0 := Fr.nil n0
  have pre0 : ∀ t, Steps p.tables e below (s₁.setTop (mkF m 0 #[.val (.ref a1), .val (.int p2)] [])) t → Steps p.tables e below (s₁.setTop (entryFrame m #[(.ref a1), (.int p2)] 2)) t := fun t k => castTop (ef_6 m a1 p2) k
  obtain ⟨cl_w3, Ar_w3, -, S_l, M_l, H_l, -⟩ := V_l
  have hin5 : ¬ (p2 < 0 ∨ cl_w3.slots.size ≤ (p2).toNatClampNeg) := inb_of S_l (own_in4 hp)
  have hat5 : cl_w3.slots[(p2).toNatClampNeg]? = some .null := (H_l _ (Nat.lt_of_not_le fun q => hin5 (Or.inr q))).trans (congrArg some hg)
  obtain ⟨T4, X4, e4, st4⟩ := getF X0 hx hZ hown (host := "") (Or.inl (hw _ (List.mem_of_getElem? (i := 16) rfl))) Via.refl e0 F_labels_a1 (g := (mkF m 1 #[.val (.ref a1), .val (.int p2)] [(.ref a1)])) rfl rfl (hb hby d6_1)
  obtain ⟨fs, hr, hrun, hended, hW, hsame⟩ := X4.leave (v := some .null) (fun h => by rw [Bd.returns] at h; cases h)
  refine ⟨_, _, pre0 _ ?_, hrun, hended, _, _, rfl, ?_, ⟨_, rfl⟩, hW, hsame.mono (by decide) (by decide)⟩
  · show Steps p.tables e below (s₁.setTop (mkF m 0 #[.val (.ref a1), .val (.int p2)] [])) _
    refine XS.aloadN X0.here hx rfl (hb hby d6_0) rfl rfl ?_
    show Steps p.tables e below (s₁.setTop (mkF m 1 #[.val (.ref a1), .val (.int p2)] [(.ref a1)])) _
    refine st4 _ ?_
    show Steps p.tables e below (T4.setTop (mkF m 4 #[.val (.ref a1), .val (.int p2)] [(.ref w3)])) _
    refine XS.iloadN X4.here hx rfl (hb hby d6_4) rfl ?_
    show Steps p.tables e below (T4.setTop (mkF m 5 #[.val (.ref a1), .val (.int p2)] [(.int p2), (.ref w3)])) _
    refine X4.aaload hx (j := p2) (v := .null) (by rw [e4]; exact Ar_w3.1) (State.isArrayOf_alike hZ.alike Ar_w3.2.1) rfl Ar_w3.2.2 hin5 hat5 (g := (mkF m 5 #[.val (.ref a1), .val (.int p2)] [(.int p2), (.ref w3)])) rfl rfl (hb hby d6_5) _ ?_
    show Steps p.tables e below (T4.setTop (mkF m 6 #[.val (.ref a1), .val (.int p2)] [.null])) _
    jvm_step X4.here [X4.here.top, hx, (hb hby d6_6), X4.method', Bd.returns, Value.isRef, FieldType.isReference]
    first | (intro acts; rw [hr _ acts rfl rfl rfl]) | rw [hr _ _ rfl rfl rfl]
    exact Steps.refl _
  · show own_Q (some .null) h0 n0 _ T4.heap _
    rw [e4]
    exact ⟨rfl, N0, rfl⟩
theorem d7_0 : decode prog_15_method_4_code 0 = .ok (.aload_n 0, 1) := by decide +kernel
theorem d7_1 : decode prog_15_method_4_code 1 = .ok (.getfield 19, 3) := by decide +kernel
theorem d7_4 : decode prog_15_method_4_code 4 = .ok (.astore_n 3, 1) := by decide +kernel
theorem d7_5 : decode prog_15_method_4_code 5 = .ok (.iload_n 1, 1) := by decide +kernel
theorem d7_6 : decode prog_15_method_4_code 6 = .ok (.aload_n 2, 1) := by decide +kernel
theorem d7_7 : decode prog_15_method_4_code 7 = .ok (.arraylength, 1) := by decide +kernel
theorem d7_8 : decode prog_15_method_4_code 8 = .ok (.imul, 1) := by decide +kernel
theorem d7_9 : decode prog_15_method_4_code 9 = .ok (.istore 4, 2) := by decide +kernel
theorem d7_11 : decode prog_15_method_4_code 11 = .ok (.iconst 1, 1) := by decide +kernel
theorem d7_12 : decode prog_15_method_4_code 12 = .ok (.istore 5, 2) := by decide +kernel
theorem d7_14 : decode prog_15_method_4_code 14 = .ok (.iconst 1, 1) := by decide +kernel
theorem d7_15 : decode prog_15_method_4_code 15 = .ok (.istore 6, 2) := by decide +kernel
theorem d7_17 : decode prog_15_method_4_code 17 = .ok (.iconst 0, 1) := by decide +kernel
theorem d7_18 : decode prog_15_method_4_code 18 = .ok (.istore 7, 2) := by decide +kernel
theorem d7_20 : decode prog_15_method_4_code 20 = .ok (.iload 7, 2) := by decide +kernel
theorem d7_22 : decode prog_15_method_4_code 22 = .ok (.aload_n 2, 1) := by decide +kernel
theorem d7_23 : decode prog_15_method_4_code 23 = .ok (.arraylength, 1) := by decide +kernel
theorem d7_24 : decode prog_15_method_4_code 24 = .ok (.if_icmp .ge 59, 3) := by decide +kernel
theorem d7_27 : decode prog_15_method_4_code 27 = .ok (.iload 5, 2) := by decide +kernel
theorem d7_29 : decode prog_15_method_4_code 29 = .ok (.aload_n 3, 1) := by decide +kernel
theorem d7_30 : decode prog_15_method_4_code 30 = .ok (.iload 4, 2) := by decide +kernel
theorem d7_32 : decode prog_15_method_4_code 32 = .ok (.iload 7, 2) := by decide +kernel
theorem d7_34 : decode prog_15_method_4_code 34 = .ok (.iadd, 1) := by decide +kernel
theorem d7_35 : decode prog_15_method_4_code 35 = .ok (.laload, 1) := by decide +kernel
theorem d7_36 : decode prog_15_method_4_code 36 = .ok (.aload_n 2, 1) := by decide +kernel
theorem d7_37 : decode prog_15_method_4_code 37 = .ok (.iload 7, 2) := by decide +kernel
theorem d7_39 : decode prog_15_method_4_code 39 = .ok (.laload, 1) := by decide +kernel
theorem d7_40 : decode prog_15_method_4_code 40 = .ok (.lcmp, 1) := by decide +kernel
theorem d7_41 : decode prog_15_method_4_code 41 = .ok (.ifCond .gt 7, 3) := by decide +kernel
theorem d7_44 : decode prog_15_method_4_code 44 = .ok (.iconst 1, 1) := by decide +kernel
theorem d7_45 : decode prog_15_method_4_code 45 = .ok (.goto 4, 3) := by decide +kernel
theorem d7_49 : decode prog_15_method_4_code 49 = .ok (.iand, 1) := by decide +kernel
theorem d7_50 : decode prog_15_method_4_code 50 = .ok (.istore 5, 2) := by decide +kernel
theorem d7_52 : decode prog_15_method_4_code 52 = .ok (.iload 6, 2) := by decide +kernel
theorem d7_54 : decode prog_15_method_4_code 54 = .ok (.aload_n 2, 1) := by decide +kernel
theorem d7_55 : decode prog_15_method_4_code 55 = .ok (.iload 7, 2) := by decide +kernel
theorem d7_57 : decode prog_15_method_4_code 57 = .ok (.laload, 1) := by decide +kernel
theorem d7_58 : decode prog_15_method_4_code 58 = .ok (.aload_n 3, 1) := by decide +kernel
theorem d7_59 : decode prog_15_method_4_code 59 = .ok (.iload 4, 2) := by decide +kernel
theorem d7_61 : decode prog_15_method_4_code 61 = .ok (.iload 7, 2) := by decide +kernel
theorem d7_63 : decode prog_15_method_4_code 63 = .ok (.iadd, 1) := by decide +kernel
theorem d7_64 : decode prog_15_method_4_code 64 = .ok (.laload, 1) := by decide +kernel
theorem d7_65 : decode prog_15_method_4_code 65 = .ok (.lcmp, 1) := by decide +kernel
theorem d7_66 : decode prog_15_method_4_code 66 = .ok (.ifCond .gt 7, 3) := by decide +kernel
theorem d7_69 : decode prog_15_method_4_code 69 = .ok (.iconst 1, 1) := by decide +kernel
theorem d7_70 : decode prog_15_method_4_code 70 = .ok (.goto 4, 3) := by decide +kernel
theorem d7_74 : decode prog_15_method_4_code 74 = .ok (.iand, 1) := by decide +kernel
theorem d7_75 : decode prog_15_method_4_code 75 = .ok (.istore 6, 2) := by decide +kernel
theorem d7_77 : decode prog_15_method_4_code 77 = .ok (.iinc 7 1, 3) := by decide +kernel
theorem d7_80 : decode prog_15_method_4_code 80 = .ok (.goto (-60), 3) := by decide +kernel
theorem d7_83 : decode prog_15_method_4_code 83 = .ok (.iload 5, 2) := by decide +kernel
theorem d7_85 : decode prog_15_method_4_code 85 = .ok (.ifCond .eq 18, 3) := by decide +kernel
theorem d7_88 : decode prog_15_method_4_code 88 = .ok (.iload 6, 2) := by decide +kernel
theorem d7_90 : decode prog_15_method_4_code 90 = .ok (.ifCond .eq 9, 3) := by decide +kernel
theorem d7_93 : decode prog_15_method_4_code 93 = .ok (.getstatic 26, 3) := by decide +kernel
theorem d7_96 : decode prog_15_method_4_code 96 = .ok (.goto 6, 3) := by decide +kernel
theorem d7_102 : decode prog_15_method_4_code 102 = .ok (.areturn, 1) := by decide +kernel
theorem ef_7 (m : MethodId) (x0 : Addr) (x1 : Int32) (x2 : Addr) : entryFrame m #[(.ref x0), (.int x1), (.ref x2)] 8 = mkF m 0 #[.val (.ref x0), .val (.int x1), .val (.ref x2), .unset, .unset, .unset, .unset, .unset] [] := by first | (simp [entryFrame, mkF, argsToLocals, Value.category]; done) | rfl
theorem pn_7 : plainName "com/example/crossmode/crossmode/search/LabelSet" = true := by first | (simp [plainName, overriddenIn]; done) | decide +kernel
set_option maxRecDepth 65536 in
set_option maxHeartbeats 40000000 in
theorem tn7_20_20 {p : Program} {l : Launch} {e : Env} {R : Room} {s : State} {m : MethodId} {args : Array Value} {below : List Frame} {meth : Method} {c : Code} {T0 : State} {locs : List Loc} {cells slots : Nat} {Z : State} {a0 : Array Value} {h0 : Heap} (s0 : Slot) (s1 : Slot) (o2 : Addr) (o3 : Addr) (i4 : Int32) (i5 : Int32) (i6 : Int32) (i7 : Int32) (cl_o2 : Cell) (z_o2 : Int32) (w4 : Int64) (cl_o3 : Cell) (w5 : Int64) (w6 : Int64) (w7 : Int64)
    (X0 : Stand p l e R s m args below meth c T0 locs cells slots) (hx : p.tables.exec = Jvm.exec) (hZ : Z.Warmed39 s.vm) (hw : ∀ d ∈ tables_1, d.before a0 Z = true) (hby : c.code = prog_15_method_4_code) (hml : c.maxLocals = 8) (hown : s.vm.findClass "com/example/crossmode/crossmode/search/LabelSet" = some m.cls) (e0 : T0.heap = h0) (Ar_o2 : Arr Z h0 o2 cl_o2 .long) (S_o2 : cl_o2.slots.size = z_o2.toNatClampNeg) (N_o2 : ¬ z_o2 < 0) (Ar_o3 : Arr Z h0 o3 cl_o3 .long) (hin35 : ¬ ((i4 + i7) < 0 ∨ cl_o3.slots.size ≤ ((i4 + i7)).toNatClampNeg)) (hat35 : cl_o3.slots[((i4 + i7)).toNatClampNeg]? = some (.long w4)) (hin39 : ¬ (i7 < 0 ∨ cl_o2.slots.size ≤ (i7).toNatClampNeg)) (hat39 : cl_o2.slots[(i7).toNatClampNeg]? = some (.long w5)) (hin57 : ¬ (i7 < 0 ∨ cl_o2.slots.size ≤ (i7).toNatClampNeg)) (hat57 : cl_o2.slots[(i7).toNatClampNeg]? = some (.long w6)) (hin64 : ¬ ((i4 + i7) < 0 ∨ cl_o3.slots.size ≤ ((i4 + i7)).toNatClampNeg)) (hat64 : cl_o3.slots[((i4 + i7)).toNatClampNeg]? = some (.long w7)) (hc24 : i7 < z_o2) (hc41 : ¬ ((0 : Int32) < (lcmpW w4 w5))) (hc66 : ¬ ((0 : Int32) < (lcmpW w6 w7))) :
    ∃ (T' : State), Stand p l e R s m args below meth c T' locs cells slots ∧ T'.heap = h0 ∧
      ∀ target, Steps p.tables e below (T'.setTop (mkF m 20 #[s0, s1, .val (.ref o2), .val (.ref o3), .val (.int i4), .val (.int (i5 &&& (1 : Int32))), .val (.int (i6 &&& (1 : Int32))), .val (.int (i7 + (1 : Int32)))] [])) target → Steps p.tables e below (T0.setTop (mkF m 20 #[s0, s1, .val (.ref o2), .val (.ref o3), .val (.int i4), .val (.int i5), .val (.int i6), .val (.int i7)] [])) target := by

  refine ⟨T0, X0, e0, fun target kt => ?_⟩
  show Steps p.tables e below (T0.setTop (mkF m 20 #[s0, s1, .val (.ref o2), .val (.ref o3), .val (.int i4), .val (.int i5), .val (.int i6), .val (.int i7)] [])) _
  refine XS.iload X0.here hx rfl (hb hby d7_20) rfl ?_
  show Steps p.tables e below (T0.setTop (mkF m 22 #[s0, s1, .val (.ref o2), .val (.ref o3), .val (.int i4), .val (.int i5), .val (.int i6), .val (.int i7)] [(.int i7)])) _
  refine XS.aloadN X0.here hx rfl (hb hby d7_22) rfl rfl ?_
  show Steps p.tables e below (T0.setTop (mkF m 23 #[s0, s1, .val (.ref o2), .val (.ref o3), .val (.int i4), .val (.int i5), .val (.int i6), .val (.int i7)] [(.ref o2), (.int i7)])) _
  refine X0.arraylength hx (by rw [e0]; exact Ar_o2.1) (State.isArrayOf_alike hZ.alike Ar_o2.2.1) (g := (mkF m 23 #[s0, s1, .val (.ref o2), .val (.ref o3), .val (.int i4), .val (.int i5), .val (.int i6), .val (.int i7)] [(.ref o2), (.int i7)])) rfl rfl (hb hby d7_23) _ ?_
  rw [len_of S_o2 N_o2]
  show Steps p.tables e below (T0.setTop (mkF m 24 #[s0, s1, .val (.ref o2), .val (.ref o3), .val (.int i4), .val (.int i5), .val (.int i6), .val (.int i7)] [(.int z_o2), (.int i7)])) _
  refine XS.icmpNo X0.here hx rfl (hb hby d7_24) rfl (tlt hc24).2.1 ?_
  show Steps p.tables e below (T0.setTop (mkF m 27 #[s0, s1, .val (.ref o2), .val (.ref o3), .val (.int i4), .val (.int i5), .val (.int i6), .val (.int i7)] [])) _
  refine XS.iload X0.here hx rfl (hb hby d7_27) rfl ?_
  show Steps p.tables e below (T0.setTop (mkF m 29 #[s0, s1, .val (.ref o2), .val (.ref o3), .val (.int i4), .val (.int i5), .val (.int i6), .val (.int i7)] [(.int i5)])) _
  refine XS.aloadN X0.here hx rfl (hb hby d7_29) rfl rfl ?_
  show Steps p.tables e below (T0.setTop (mkF m 30 #[s0, s1, .val (.ref o2), .val (.ref o3), .val (.int i4), .val (.int i5), .val (.int i6), .val (.int i7)] [(.ref o3), (.int i5)])) _
  refine XS.iload X0.here hx rfl (hb hby d7_30) rfl ?_
  show Steps p.tables e below (T0.setTop (mkF m 32 #[s0, s1, .val (.ref o2), .val (.ref o3), .val (.int i4), .val (.int i5), .val (.int i6), .val (.int i7)] [(.int i4), (.ref o3), (.int i5)])) _
  refine XS.iload X0.here hx rfl (hb hby d7_32) rfl ?_
  show Steps p.tables e below (T0.setTop (mkF m 34 #[s0, s1, .val (.ref o2), .val (.ref o3), .val (.int i4), .val (.int i5), .val (.int i6), .val (.int i7)] [(.int i7), (.int i4), (.ref o3), (.int i5)])) _
  refine XS.iadd X0.here hx rfl (hb hby d7_34) rfl ?_
  show Steps p.tables e below (T0.setTop (mkF m 35 #[s0, s1, .val (.ref o2), .val (.ref o3), .val (.int i4), .val (.int i5), .val (.int i6), .val (.int i7)] [(.int (i4 + i7)), (.ref o3), (.int i5)])) _
  refine X0.laload hx (j := (i4 + i7)) (v := (.long w4)) (by rw [e0]; exact Ar_o3.1) (State.isArrayOf_alike hZ.alike Ar_o3.2.1) Ar_o3.2.2 hin35 hat35 (g := (mkF m 35 #[s0, s1, .val (.ref o2), .val (.ref o3), .val (.int i4), .val (.int i5), .val (.int i6), .val (.int i7)] [(.int (i4 + i7)), (.ref o3), (.int i5)])) rfl rfl (hb hby d7_35) _ ?_
  show Steps p.tables e below (T0.setTop (mkF m 36 #[s0, s1, .val (.ref o2), .val (.ref o3), .val (.int i4), .val (.int i5), .val (.int i6), .val (.int i7)] [(.long w4), (.int i5)])) _
  refine XS.aloadN X0.here hx rfl (hb hby d7_36) rfl rfl ?_
  show Steps p.tables e below (T0.setTop (mkF m 37 #[s0, s1, .val (.ref o2), .val (.ref o3), .val (.int i4), .val (.int i5), .val (.int i6), .val (.int i7)] [(.ref o2), (.long w4), (.int i5)])) _
  refine XS.iload X0.here hx rfl (hb hby d7_37) rfl ?_
  show Steps p.tables e below (T0.setTop (mkF m 39 #[s0, s1, .val (.ref o2), .val (.ref o3), .val (.int i4), .val (.int i5), .val (.int i6), .val (.int i7)] [(.int i7), (.ref o2), (.long w4), (.int i5)])) _
  refine X0.laload hx (j := i7) (v := (.long w5)) (by rw [e0]; exact Ar_o2.1) (State.isArrayOf_alike hZ.alike Ar_o2.2.1) Ar_o2.2.2 hin39 hat39 (g := (mkF m 39 #[s0, s1, .val (.ref o2), .val (.ref o3), .val (.int i4), .val (.int i5), .val (.int i6), .val (.int i7)] [(.int i7), (.ref o2), (.long w4), (.int i5)])) rfl rfl (hb hby d7_39) _ ?_
  show Steps p.tables e below (T0.setTop (mkF m 40 #[s0, s1, .val (.ref o2), .val (.ref o3), .val (.int i4), .val (.int i5), .val (.int i6), .val (.int i7)] [(.long w5), (.long w4), (.int i5)])) _
  refine XS.lcmp X0.here hx rfl (hb hby d7_40) rfl ?_
  show Steps p.tables e below (T0.setTop (mkF m 41 #[s0, s1, .val (.ref o2), .val (.ref o3), .val (.int i4), .val (.int i5), .val (.int i6), .val (.int i7)] [(.int (lcmpW w4 w5)), (.int i5)])) _
  refine XS.ifNo X0.here hx rfl (hb hby d7_41) rfl ((if0 _ _).trans (flt hc41).2.2.1) ?_
  show Steps p.tables e below (T0.setTop (mkF m 44 #[s0, s1, .val (.ref o2), .val (.ref o3), .val (.int i4), .val (.int i5), .val (.int i6), .val (.int i7)] [(.int i5)])) _
  refine XS.iconst X0.here hx rfl (hb hby d7_44) ?_
  show Steps p.tables e below (T0.setTop (mkF m 45 #[s0, s1, .val (.ref o2), .val (.ref o3), .val (.int i4), .val (.int i5), .val (.int i6), .val (.int i7)] [(.int (1 : Int32)), (.int i5)])) _
  refine XS.goto X0.here hx rfl (pc0 := 45) (pc' := 49) rfl (hb hby d7_45) (by decide) (by decide) ?_
  show Steps p.tables e below (T0.setTop (mkF m 49 #[s0, s1, .val (.ref o2), .val (.ref o3), .val (.int i4), .val (.int i5), .val (.int i6), .val (.int i7)] [(.int (1 : Int32)), (.int i5)])) _
  refine XS.iand X0.here hx rfl (hb hby d7_49) rfl ?_
  show Steps p.tables e below (T0.setTop (mkF m 50 #[s0, s1, .val (.ref o2), .val (.ref o3), .val (.int i4), .val (.int i5), .val (.int i6), .val (.int i7)] [(.int (i5 &&& (1 : Int32)))])) _
  refine XS.istore X0.here hx rfl (hb hby d7_50) rfl (l' := #[s0, s1, .val (.ref o2), .val (.ref o3), .val (.int i4), .val (.int (i5 &&& (1 : Int32))), .val (.int i6), .val (.int i7)]) rfl ?_
  show Steps p.tables e below (T0.setTop (mkF m 52 #[s0, s1, .val (.ref o2), .val (.ref o3), .val (.int i4), .val (.int (i5 &&& (1 : Int32))), .val (.int i6), .val (.int i7)] [])) _
  refine XS.iload X0.here hx rfl (hb hby d7_52) rfl ?_
  show Steps p.tables e below (T0.setTop (mkF m 54 #[s0, s1, .val (.ref o2), .val (.ref o3), .val (.int i4), .val (.int (i5 &&& (1 : Int32))), .val (.int i6), .val (.int i7)] [(.int i6)])) _
  refine XS.aloadN X0.here hx rfl (hb hby d7_54) rfl rfl ?_
  show Steps p.tables e below (T0.setTop (mkF m 55 #[s0, s1, .val (.ref o2), .val (.ref o3), .val (.int i4), .val (.int (i5 &&& (1 : Int32))), .val (.int i6), .val (.int i7)] [(.ref o2), (.int i6)])) _
  refine XS.iload X0.here hx rfl (hb hby d7_55) rfl ?_
  show Steps p.tables e below (T0.setTop (mkF m 57 #[s0, s1, .val (.ref o2), .val (.ref o3), .val (.int i4), .val (.int (i5 &&& (1 : Int32))), .val (.int i6), .val (.int i7)] [(.int i7), (.ref o2), (.int i6)])) _
  refine X0.laload hx (j := i7) (v := (.long w6)) (by rw [e0]; exact Ar_o2.1) (State.isArrayOf_alike hZ.alike Ar_o2.2.1) Ar_o2.2.2 hin57 hat57 (g := (mkF m 57 #[s0, s1, .val (.ref o2), .val (.ref o3), .val (.int i4), .val (.int (i5 &&& (1 : Int32))), .val (.int i6), .val (.int i7)] [(.int i7), (.ref o2), (.int i6)])) rfl rfl (hb hby d7_57) _ ?_
  show Steps p.tables e below (T0.setTop (mkF m 58 #[s0, s1, .val (.ref o2), .val (.ref o3), .val (.int i4), .val (.int (i5 &&& (1 : Int32))), .val (.int i6), .val (.int i7)] [(.long w6), (.int i6)])) _
  refine XS.aloadN X0.here hx rfl (hb hby d7_58) rfl rfl ?_
  show Steps p.tables e below (T0.setTop (mkF m 59 #[s0, s1, .val (.ref o2), .val (.ref o3), .val (.int i4), .val (.int (i5 &&& (1 : Int32))), .val (.int i6), .val (.int i7)] [(.ref o3), (.long w6), (.int i6)])) _
  refine XS.iload X0.here hx rfl (hb hby d7_59) rfl ?_
  show Steps p.tables e below (T0.setTop (mkF m 61 #[s0, s1, .val (.ref o2), .val (.ref o3), .val (.int i4), .val (.int (i5 &&& (1 : Int32))), .val (.int i6), .val (.int i7)] [(.int i4), (.ref o3), (.long w6), (.int i6)])) _
  refine XS.iload X0.here hx rfl (hb hby d7_61) rfl ?_
  show Steps p.tables e below (T0.setTop (mkF m 63 #[s0, s1, .val (.ref o2), .val (.ref o3), .val (.int i4), .val (.int (i5 &&& (1 : Int32))), .val (.int i6), .val (.int i7)] [(.int i7), (.int i4), (.ref o3), (.long w6), (.int i6)])) _
  refine XS.iadd X0.here hx rfl (hb hby d7_63) rfl ?_
  show Steps p.tables e below (T0.setTop (mkF m 64 #[s0, s1, .val (.ref o2), .val (.ref o3), .val (.int i4), .val (.int (i5 &&& (1 : Int32))), .val (.int i6), .val (.int i7)] [(.int (i4 + i7)), (.ref o3), (.long w6), (.int i6)])) _
  refine X0.laload hx (j := (i4 + i7)) (v := (.long w7)) (by rw [e0]; exact Ar_o3.1) (State.isArrayOf_alike hZ.alike Ar_o3.2.1) Ar_o3.2.2 hin64 hat64 (g := (mkF m 64 #[s0, s1, .val (.ref o2), .val (.ref o3), .val (.int i4), .val (.int (i5 &&& (1 : Int32))), .val (.int i6), .val (.int i7)] [(.int (i4 + i7)), (.ref o3), (.long w6), (.int i6)])) rfl rfl (hb hby d7_64) _ ?_
  show Steps p.tables e below (T0.setTop (mkF m 65 #[s0, s1, .val (.ref o2), .val (.ref o3), .val (.int i4), .val (.int (i5 &&& (1 : Int32))), .val (.int i6), .val (.int i7)] [(.long w7), (.long w6), (.int i6)])) _
  refine XS.lcmp X0.here hx rfl (hb hby d7_65) rfl ?_
  show Steps p.tables e below (T0.setTop (mkF m 66 #[s0, s1, .val (.ref o2), .val (.ref o3), .val (.int i4), .val (.int (i5 &&& (1 : Int32))), .val (.int i6), .val (.int i7)] [(.int (lcmpW w6 w7)), (.int i6)])) _
  refine XS.ifNo X0.here hx rfl (hb hby d7_66) rfl ((if0 _ _).trans (flt hc66).2.2.1) ?_
  show Steps p.tables e below (T0.setTop (mkF m 69 #[s0, s1, .val (.ref o2), .val (.ref o3), .val (.int i4), .val (.int (i5 &&& (1 : Int32))), .val (.int i6), .val (.int i7)] [(.int i6)])) _
  refine XS.iconst X0.here hx rfl (hb hby d7_69) ?_
  show Steps p.tables e below (T0.setTop (mkF m 70 #[s0, s1, .val (.ref o2), .val (.ref o3), .val (.int i4), .val (.int (i5 &&& (1 : Int32))), .val (.int i6), .val (.int i7)] [(.int (1 : Int32)), (.int i6)])) _
  refine XS.goto X0.here hx rfl (pc0 := 70) (pc' := 74) rfl (hb hby d7_70) (by decide) (by decide) ?_
  show Steps p.tables e below (T0.setTop (mkF m 74 #[s0, s1, .val (.ref o2), .val (.ref o3), .val (.int i4), .val (.int (i5 &&& (1 : Int32))), .val (.int i6), .val (.int i7)] [(.int (1 : Int32)), (.int i6)])) _
  refine XS.iand X0.here hx rfl (hb hby d7_74) rfl ?_
  show Steps p.tables e below (T0.setTop (mkF m 75 #[s0, s1, .val (.ref o2), .val (.ref o3), .val (.int i4), .val (.int (i5 &&& (1 : Int32))), .val (.int i6), .val (.int i7)] [(.int (i6 &&& (1 : Int32)))])) _
  refine XS.istore X0.here hx rfl (hb hby d7_75) rfl (l' := #[s0, s1, .val (.ref o2), .val (.ref o3), .val (.int i4), .val (.int (i5 &&& (1 : Int32))), .val (.int (i6 &&& (1 : Int32))), .val (.int i7)]) rfl ?_
  show Steps p.tables e below (T0.setTop (mkF m 77 #[s0, s1, .val (.ref o2), .val (.ref o3), .val (.int i4), .val (.int (i5 &&& (1 : Int32))), .val (.int (i6 &&& (1 : Int32))), .val (.int i7)] [])) _
  refine XS.iinc X0.here hx rfl (hb hby d7_77) rfl (l' := #[s0, s1, .val (.ref o2), .val (.ref o3), .val (.int i4), .val (.int (i5 &&& (1 : Int32))), .val (.int (i6 &&& (1 : Int32))), .val (.int (i7 + (1 : Int32)))]) rfl ?_
  show Steps p.tables e below (T0.setTop (mkF m 80 #[s0, s1, .val (.ref o2), .val (.ref o3), .val (.int i4), .val (.int (i5 &&& (1 : Int32))), .val (.int (i6 &&& (1 : Int32))), .val (.int (i7 + (1 : Int32)))] [])) _
  refine XS.goto X0.here hx rfl (pc0 := 80) (pc' := 20) rfl (hb hby d7_80) (by decide) (by decide) ?_
  exact kt
set_option maxRecDepth 65536 in
set_option maxHeartbeats 40000000 in
theorem tn7_20_83 {p : Program} {l : Launch} {e : Env} {R : Room} {s : State} {m : MethodId} {args : Array Value} {below : List Frame} {meth : Method} {c : Code} {T0 : State} {locs : List Loc} {cells slots : Nat} {Z : State} {a0 : Array Value} {h0 : Heap} (s0 : Slot) (s1 : Slot) (o2 : Addr) (s3 : Slot) (s4 : Slot) (s5 : Slot) (s6 : Slot) (i7 : Int32) (cl_o2 : Cell) (z_o2 : Int32)
    (X0 : Stand p l e R s m args below meth c T0 locs cells slots) (hx : p.tables.exec = Jvm.exec) (hZ : Z.Warmed39 s.vm) (hw : ∀ d ∈ tables_1, d.before a0 Z = true) (hby : c.code = prog_15_method_4_code) (hml : c.maxLocals = 8) (hown : s.vm.findClass "com/example/crossmode/crossmode/search/LabelSet" = some m.cls) (e0 : T0.heap = h0) (Ar_o2 : Arr Z h0 o2 cl_o2 .long) (S_o2 : cl_o2.slots.size = z_o2.toNatClampNeg) (N_o2 : ¬ z_o2 < 0) (hc24 : ¬ (i7 < z_o2)) :
    ∃ (T' : State), Stand p l e R s m args below meth c T' locs cells slots ∧ T'.heap = h0 ∧
      ∀ target, Steps p.tables e below (T'.setTop (mkF m 83 #[s0, s1, .val (.ref o2), s3, s4, s5, s6, .val (.int i7)] [])) target → Steps p.tables e below (T0.setTop (mkF m 20 #[s0, s1, .val (.ref o2), s3, s4, s5, s6, .val (.int i7)] [])) target := by

  refine ⟨T0, X0, e0, fun target kt => ?_⟩
  show Steps p.tables e below (T0.setTop (mkF m 20 #[s0, s1, .val (.ref o2), s3, s4, s5, s6, .val (.int i7)] [])) _
  refine XS.iload X0.here hx rfl (hb hby d7_20) rfl ?_
  show Steps p.tables e below (T0.setTop (mkF m 22 #[s0, s1, .val (.ref o2), s3, s4, s5, s6, .val (.int i7)] [(.int i7)])) _
  refine XS.aloadN X0.here hx rfl (hb hby d7_22) rfl rfl ?_
  show Steps p.tables e below (T0.setTop (mkF m 23 #[s0, s1, .val (.ref o2), s3, s4, s5, s6, .val (.int i7)] [(.ref o2), (.int i7)])) _
  refine X0.arraylength hx (by rw [e0]; exact Ar_o2.1) (State.isArrayOf_alike hZ.alike Ar_o2.2.1) (g := (mkF m 23 #[s0, s1, .val (.ref o2), s3, s4, s5, s6, .val (.int i7)] [(.ref o2), (.int i7)])) rfl rfl (hb hby d7_23) _ ?_
  rw [len_of S_o2 N_o2]
  show Steps p.tables e below (T0.setTop (mkF m 24 #[s0, s1, .val (.ref o2), s3, s4, s5, s6, .val (.int i7)] [(.int z_o2), (.int i7)])) _
  refine XS.icmpYes X0.here hx rfl (pc0 := 24) (pc' := 83) rfl (hb hby d7_24) rfl (flt hc24).2.1 (by decide) (by decide) ?_
  exact kt
set_option maxRecDepth 65536 in
set_option maxHeartbeats 40000000 in
theorem own_rm7_1 (l : Launch) (Z : State) (a0 : Array Value) (hw : ∀ d ∈ tables_1, d.before a0 Z = true) (ws : List Jvm.Cond) (a1 : Addr) (p2 : Int32) (a3 : Addr) (w4 : Addr) (kw kq : ClassId) (vs : List Value) (x0 : Int64) (w6 : Addr) (h0 : Heap) (n0 : Nat) (Z0 : n0 ≤ h0.size) (F_weights_a1 : Fld Z h0 a1 "com/example/crossmode/crossmode/search/LabelSet" "weights" "[J" (.ref w4)) (V_w : Arv Z h0 w4 kw .long ((4 : Int32) * (1 : Int32)) vs (.long (0 : Int64))) (V_q : Arv Z h0 a3 kq .long (1 : Int32) [.long x0] (.long (0 : Int64))) (S_SAME : Sta Z h0 "com/example/crossmode/crossmode/search/Dominance" "SAME" "Lcom/example/crossmode/crossmode/search/Dominance;" (.ref w6)) (hp : (p2 = 0 ∨ p2 = 1 ∨ p2 = 2 ∨ p2 = 3)) (v0 : vs.getD ((p2 * (1 : Int32)) + (0 : Int32)).toNatClampNeg (.long (0 : Int64)) = .long x0) :
    MetFree l (⟨"com/example/crossmode/crossmode/search/LabelSet", "compare", "(I[J)Lcom/example/crossmode/crossmode/search/Dominance;"⟩ : MethodName) (head1 (Jvm.Cond.code (⟨"com/example/crossmode/crossmode/search/LabelSet", "compare", "(I[J)Lcom/example/crossmode/crossmode/search/Dominance;"⟩ : MethodName) prog_15_method_4_code 8 (some (.object "com/example/crossmode/crossmode/search/Dominance")) :: ws) ({ frames := 0, cells := 0, slots := 0, locals := 0 } : Room)) (fun a U => a = #[(.ref a1), (.int p2), (.ref a3)] ∧ Z.Warmed39 U.vm ∧ U.heap = h0) (fun _ _ _ _ _ => True) (fun _ U o U' => ∃ v L, o = .returned v ∧ own_Q (some (.ref w6)) h0 n0 v U'.heap L ∧ FrameEnd U o U' L ({ frames := 0, cells := 0, slots := 0, locals := 0 } : Room).cells ({ frames := 0, cells := 0, slots := 0, locals := 0 } : Room).slots) := by
  refine MetFree.of_bodySF (plainFor_of_name pn_7) hisR ?_
  intro p e s m args below meth c s₁ Bd hml0 hP hK
  obtain ⟨rfl, hZ, hh⟩ := hP
  have hx := Bd.exec
  have hby := Bd.bytes
  have hml : c.maxLocals = 8 := hml0
  have hown : s.vm.findClass "com/example/crossmode/crossmode/search/LabelSet" = some m.cls := findClass_of_methodNamed Bd.named
  have hnm := (name_of_methodNamed Bd.named Bd.method).1
  have X0 : Stand p l e ({ frames := 0, cells := 0, slots := 0, locals := 0 } : Room) s m #[(.ref a1), (.int p2), (.ref a3)] below meth c s₁ [] 0 0 := Stand.of_body Bd
  have e0 : s₁.heap = h0 := by rw [← hh, Bd.state]; rfl
  have N0 := Fr.nil n0
  have pre0 : ∀ t, Steps p.tables e below (s₁.setTop (mkF m 0 #[.val (.ref a1), .val (.int p2), .val (.ref a3), .unset, .unset, .unset, .unset, .unset] [])) t → Steps p.tables e below (s₁.setTop (entryFrame m #[(.ref a1), (.int p2), (.ref a3)] 8)) t := fun t k => castTop (ef_7 m a1 p2 a3) k
  obtain ⟨T5, X5, e5, st5⟩ := getF X0 hx hZ hown (host := "") (Or.inl (hw _ (List.mem_of_getElem? (i := 20) rfl))) Via.refl e0 F_weights_a1 (g := (mkF m 1 #[.val (.ref a1), .val (.int p2), .val (.ref a3), .unset, .unset, .unset, .unset, .unset] [(.ref a1)])) rfl rfl (hb hby d7_1)
  obtain ⟨cl_w, Ar_w, -, S_w, M_w, H_w, -⟩ := V_w
  obtain ⟨cl_a3, Ar_a3, -, S_a3, N_a3, H_a3, -⟩ := V_q
  have iw0 : ¬ (((p2 * (1 : Int32)) + (0 : Int32)) < 0 ∨ cl_w.slots.size ≤ (((p2 * (1 : Int32)) + (0 : Int32))).toNatClampNeg) := inb_of S_w (own_in1_0 hp)
  have aw0 : cl_w.slots[(((p2 * (1 : Int32)) + (0 : Int32))).toNatClampNeg]? = some (.long x0) := (H_w _ (Nat.lt_of_not_le fun q => iw0 (Or.inr q))).trans (congrArg some v0)
  have iq0 : ¬ ((0 : Int32) < 0 ∨ cl_a3.slots.size ≤ ((0 : Int32)).toNatClampNeg) := inb_of S_a3 ⟨by decide, by decide⟩
  have aq0 : cl_a3.slots[((0 : Int32)).toNatClampNeg]? = some (.long x0) := (H_a3 _ (Nat.lt_of_not_le fun q => iq0 (Or.inr q))).trans rfl
  obtain ⟨U1, Y1, f1, s1⟩ := tn7_20_20 (.val (.ref a1)) (.val (.int p2)) a3 w4 (p2 * (1 : Int32)) (1 : Int32) (1 : Int32) (0 : Int32) cl_a3 (1 : Int32) x0 cl_w x0 x0 x0 X5 hx hZ hw hby hml hown e5 Ar_a3 S_a3 N_a3 Ar_w iw0 aw0 iq0 aq0 iq0 aq0 iw0 aw0 (by decide) (own_lc x0) (own_lc x0)
  obtain ⟨U9, Y9, f9, s9⟩ := tn7_20_83 (.val (.ref a1)) (.val (.int p2)) a3 (.val (.ref w4)) (.val (.int (p2 * (1 : Int32)))) (.val (.int ((1 : Int32) &&& (1 : Int32)))) (.val (.int ((1 : Int32) &&& (1 : Int32)))) ((0 : Int32) + (1 : Int32)) cl_a3 (1 : Int32) Y1 hx hZ hw hby hml hown f1 Ar_a3 S_a3 N_a3 (by decide)
  obtain ⟨T7, X7, e7, st7⟩ := getS2 Y9 hx hZ hown (host := "") (Or.inl (hw _ (List.mem_of_getElem? (i := 58) rfl))) Via.refl f9 S_SAME (g := (mkF m 93 #[.val (.ref a1), .val (.int p2), .val (.ref a3), .val (.ref w4), .val (.int (p2 * (1 : Int32))), .val (.int ((1 : Int32) &&& (1 : Int32))), .val (.int ((1 : Int32) &&& (1 : Int32))), .val (.int ((0 : Int32) + (1 : Int32)))] [])) rfl (hb hby d7_93)
  obtain ⟨fs, hr, hrun, hended, hW, hsame⟩ := X7.leave (v := some (.ref w6)) (fun h => by rw [Bd.returns] at h; cases h)
  refine ⟨_, _, pre0 _ ?_, hrun, hended, _, _, rfl, ?_, ⟨_, rfl⟩, hW, hsame.mono (by decide) (by decide)⟩
  · show Steps p.tables e below (s₁.setTop (mkF m 0 #[.val (.ref a1), .val (.int p2), .val (.ref a3), .unset, .unset, .unset, .unset, .unset] [])) _
    refine XS.aloadN X0.here hx rfl (hb hby d7_0) rfl rfl ?_
    show Steps p.tables e below (s₁.setTop (mkF m 1 #[.val (.ref a1), .val (.int p2), .val (.ref a3), .unset, .unset, .unset, .unset, .unset] [(.ref a1)])) _
    refine st5 _ ?_
    show Steps p.tables e below (T5.setTop (mkF m 4 #[.val (.ref a1), .val (.int p2), .val (.ref a3), .unset, .unset, .unset, .unset, .unset] [(.ref w4)])) _
    refine XS.astoreN X5.here hx rfl (hb hby d7_4) rfl rfl (l' := #[.val (.ref a1), .val (.int p2), .val (.ref a3), .val (.ref w4), .unset, .unset, .unset, .unset]) rfl ?_
    show Steps p.tables e below (T5.setTop (mkF m 5 #[.val (.ref a1), .val (.int p2), .val (.ref a3), .val (.ref w4), .unset, .unset, .unset, .unset] [])) _
    refine XS.iloadN X5.here hx rfl (hb hby d7_5) rfl ?_
    show Steps p.tables e below (T5.setTop (mkF m 6 #[.val (.ref a1), .val (.int p2), .val (.ref a3), .val (.ref w4), .unset, .unset, .unset, .unset] [(.int p2)])) _
    refine XS.aloadN X5.here hx rfl (hb hby d7_6) rfl rfl ?_
    show Steps p.tables e below (T5.setTop (mkF m 7 #[.val (.ref a1), .val (.int p2), .val (.ref a3), .val (.ref w4), .unset, .unset, .unset, .unset] [(.ref a3), (.int p2)])) _
    refine X5.arraylength hx (by rw [e5]; exact Ar_a3.1) (State.isArrayOf_alike hZ.alike Ar_a3.2.1) (g := (mkF m 7 #[.val (.ref a1), .val (.int p2), .val (.ref a3), .val (.ref w4), .unset, .unset, .unset, .unset] [(.ref a3), (.int p2)])) rfl rfl (hb hby d7_7) _ ?_
    rw [len_of S_a3 N_a3]
    show Steps p.tables e below (T5.setTop (mkF m 8 #[.val (.ref a1), .val (.int p2), .val (.ref a3), .val (.ref w4), .unset, .unset, .unset, .unset] [(.int (1 : Int32)), (.int p2)])) _
    refine XS.imul X5.here hx rfl (hb hby d7_8) rfl ?_
    show Steps p.tables e below (T5.setTop (mkF m 9 #[.val (.ref a1), .val (.int p2), .val (.ref a3), .val (.ref w4), .unset, .unset, .unset, .unset] [(.int (p2 * (1 : Int32)))])) _
    refine XS.istore X5.here hx rfl (hb hby d7_9) rfl (l' := #[.val (.ref a1), .val (.int p2), .val (.ref a3), .val (.ref w4), .val (.int (p2 * (1 : Int32))), .unset, .unset, .unset]) rfl ?_
    show Steps p.tables e below (T5.setTop (mkF m 11 #[.val (.ref a1), .val (.int p2), .val (.ref a3), .val (.ref w4), .val (.int (p2 * (1 : Int32))), .unset, .unset, .unset] [])) _
    refine XS.iconst X5.here hx rfl (hb hby d7_11) ?_
    show Steps p.tables e below (T5.setTop (mkF m 12 #[.val (.ref a1), .val (.int p2), .val (.ref a3), .val (.ref w4), .val (.int (p2 * (1 : Int32))), .unset, .unset, .unset] [(.int (1 : Int32))])) _
    refine XS.istore X5.here hx rfl (hb hby d7_12) rfl (l' := #[.val (.ref a1), .val (.int p2), .val (.ref a3), .val (.ref w4), .val (.int (p2 * (1 : Int32))), .val (.int (1 : Int32)), .unset, .unset]) rfl ?_
    show Steps p.tables e below (T5.setTop (mkF m 14 #[.val (.ref a1), .val (.int p2), .val (.ref a3), .val (.ref w4), .val (.int (p2 * (1 : Int32))), .val (.int (1 : Int32)), .unset, .unset] [])) _
    refine XS.iconst X5.here hx rfl (hb hby d7_14) ?_
    show Steps p.tables e below (T5.setTop (mkF m 15 #[.val (.ref a1), .val (.int p2), .val (.ref a3), .val (.ref w4), .val (.int (p2 * (1 : Int32))), .val (.int (1 : Int32)), .unset, .unset] [(.int (1 : Int32))])) _
    refine XS.istore X5.here hx rfl (hb hby d7_15) rfl (l' := #[.val (.ref a1), .val (.int p2), .val (.ref a3), .val (.ref w4), .val (.int (p2 * (1 : Int32))), .val (.int (1 : Int32)), .val (.int (1 : Int32)), .unset]) rfl ?_
    show Steps p.tables e below (T5.setTop (mkF m 17 #[.val (.ref a1), .val (.int p2), .val (.ref a3), .val (.ref w4), .val (.int (p2 * (1 : Int32))), .val (.int (1 : Int32)), .val (.int (1 : Int32)), .unset] [])) _
    refine XS.iconst X5.here hx rfl (hb hby d7_17) ?_
    show Steps p.tables e below (T5.setTop (mkF m 18 #[.val (.ref a1), .val (.int p2), .val (.ref a3), .val (.ref w4), .val (.int (p2 * (1 : Int32))), .val (.int (1 : Int32)), .val (.int (1 : Int32)), .unset] [(.int (0 : Int32))])) _
    refine XS.istore X5.here hx rfl (hb hby d7_18) rfl (l' := #[.val (.ref a1), .val (.int p2), .val (.ref a3), .val (.ref w4), .val (.int (p2 * (1 : Int32))), .val (.int (1 : Int32)), .val (.int (1 : Int32)), .val (.int (0 : Int32))]) rfl ?_
    show Steps p.tables e below (T5.setTop (mkF m 20 #[.val (.ref a1), .val (.int p2), .val (.ref a3), .val (.ref w4), .val (.int (p2 * (1 : Int32))), .val (.int (1 : Int32)), .val (.int (1 : Int32)), .val (.int (0 : Int32))] [])) _
    refine s1 _ ?_
    refine s9 _ ?_
    show Steps p.tables e below (U9.setTop (mkF m 83 #[.val (.ref a1), .val (.int p2), .val (.ref a3), .val (.ref w4), .val (.int (p2 * (1 : Int32))), .val (.int ((1 : Int32) &&& (1 : Int32))), .val (.int ((1 : Int32) &&& (1 : Int32))), .val (.int ((0 : Int32) + (1 : Int32)))] [])) _
    refine XS.iload Y9.here hx rfl (hb hby d7_83) rfl ?_
    show Steps p.tables e below (U9.setTop (mkF m 85 #[.val (.ref a1), .val (.int p2), .val (.ref a3), .val (.ref w4), .val (.int (p2 * (1 : Int32))), .val (.int ((1 : Int32) &&& (1 : Int32))), .val (.int ((1 : Int32) &&& (1 : Int32))), .val (.int ((0 : Int32) + (1 : Int32)))] [(.int ((1 : Int32) &&& (1 : Int32)))])) _
    refine XS.ifNo Y9.here hx rfl (hb hby d7_85) rfl ((if0 _ _).trans (feq (by decide : ¬ (((1 : Int32) &&& (1 : Int32)) = (0 : Int32)))).1) ?_
    show Steps p.tables e below (U9.setTop (mkF m 88 #[.val (.ref a1), .val (.int p2), .val (.ref a3), .val (.ref w4), .val (.int (p2 * (1 : Int32))), .val (.int ((1 : Int32) &&& (1 : Int32))), .val (.int ((1 : Int32) &&& (1 : Int32))), .val (.int ((0 : Int32) + (1 : Int32)))] [])) _
    refine XS.iload Y9.here hx rfl (hb hby d7_88) rfl ?_
    show Steps p.tables e below (U9.setTop (mkF m 90 #[.val (.ref a1), .val (.int p2), .val (.ref a3), .val (.ref w4), .val (.int (p2 * (1 : Int32))), .val (.int ((1 : Int32) &&& (1 : Int32))), .val (.int ((1 : Int32) &&& (1 : Int32))), .val (.int ((0 : Int32) + (1 : Int32)))] [(.int ((1 : Int32) &&& (1 : Int32)))])) _
    refine XS.ifNo Y9.here hx rfl (hb hby d7_90) rfl ((if0 _ _).trans (feq (by decide : ¬ (((1 : Int32) &&& (1 : Int32)) = (0 : Int32)))).1) ?_
    show Steps p.tables e below (U9.setTop (mkF m 93 #[.val (.ref a1), .val (.int p2), .val (.ref a3), .val (.ref w4), .val (.int (p2 * (1 : Int32))), .val (.int ((1 : Int32) &&& (1 : Int32))), .val (.int ((1 : Int32) &&& (1 : Int32))), .val (.int ((0 : Int32) + (1 : Int32)))] [])) _
    refine st7 _ ?_
    show Steps p.tables e below (T7.setTop (mkF m 96 #[.val (.ref a1), .val (.int p2), .val (.ref a3), .val (.ref w4), .val (.int (p2 * (1 : Int32))), .val (.int ((1 : Int32) &&& (1 : Int32))), .val (.int ((1 : Int32) &&& (1 : Int32))), .val (.int ((0 : Int32) + (1 : Int32)))] [(.ref w6)])) _
    refine XS.goto X7.here hx rfl (pc0 := 96) (pc' := 102) rfl (hb hby d7_96) (by decide) (by decide) ?_
    show Steps p.tables e below (T7.setTop (mkF m 102 #[.val (.ref a1), .val (.int p2), .val (.ref a3), .val (.ref w4), .val (.int (p2 * (1 : Int32))), .val (.int ((1 : Int32) &&& (1 : Int32))), .val (.int ((1 : Int32) &&& (1 : Int32))), .val (.int ((0 : Int32) + (1 : Int32)))] [(.ref w6)])) _
    jvm_step X7.here [X7.here.top, hx, (hb hby d7_102), X7.method', Bd.returns, Value.isRef, FieldType.isReference]
    first | (intro acts; rw [hr _ acts rfl rfl rfl]) | rw [hr _ _ rfl rfl rfl]
    exact Steps.refl _
  · show own_Q (some (.ref w6)) h0 n0 _ T7.heap _
    rw [e7]
    exact ⟨rfl, N0, rfl⟩
set_option maxRecDepth 65536 in
set_option maxHeartbeats 40000000 in
theorem own_rm7_2 (l : Launch) (Z : State) (a0 : Array Value) (hw : ∀ d ∈ tables_1, d.before a0 Z = true) (ws : List Jvm.Cond) (a1 : Addr) (p2 : Int32) (a3 : Addr) (w4 : Addr) (kw kq : ClassId) (vs : List Value) (x0 : Int64) (x1 : Int64) (w6 : Addr) (h0 : Heap) (n0 : Nat) (Z0 : n0 ≤ h0.size) (F_weights_a1 : Fld Z h0 a1 "com/example/crossmode/crossmode/search/LabelSet" "weights" "[J" (.ref w4)) (V_w : Arv Z h0 w4 kw .long ((4 : Int32) * (2 : Int32)) vs (.long (0 : Int64))) (V_q : Arv Z h0 a3 kq .long (2 : Int32) [.long x0, .long x1] (.long (0 : Int64))) (S_SAME : Sta Z h0 "com/example/crossmode/crossmode/search/Dominance" "SAME" "Lcom/example/crossmode/crossmode/search/Dominance;" (.ref w6)) (hp : (p2 = 0 ∨ p2 = 1 ∨ p2 = 2 ∨ p2 = 3)) (v0 : vs.getD ((p2 * (2 : Int32)) + (0 : Int32)).toNatClampNeg (.long (0 : Int64)) = .long x0) (v1 : vs.getD ((p2 * (2 : Int32)) + ((0 : Int32) + (1 : Int32))).toNatClampNeg (.long (0 : Int64)) = .long x1) :
    MetFree l (⟨"com/example/crossmode/crossmode/search/LabelSet", "compare", "(I[J)Lcom/example/crossmode/crossmode/search/Dominance;"⟩ : MethodName) (head1 (Jvm.Cond.code (⟨"com/example/crossmode/crossmode/search/LabelSet", "compare", "(I[J)Lcom/example/crossmode/crossmode/search/Dominance;"⟩ : MethodName) prog_15_method_4_code 8 (some (.object "com/example/crossmode/crossmode/search/Dominance")) :: ws) ({ frames := 0, cells := 0, slots := 0, locals := 0 } : Room)) (fun a U => a = #[(.ref a1), (.int p2), (.ref a3)] ∧ Z.Warmed39 U.vm ∧ U.heap = h0) (fun _ _ _ _ _ => True) (fun _ U o U' => ∃ v L, o = .returned v ∧ own_Q (some (.ref w6)) h0 n0 v U'.heap L ∧ FrameEnd U o U' L ({ frames := 0, cells := 0, slots := 0, locals := 0 } : Room).cells ({ frames := 0, cells := 0, slots := 0, locals := 0 } : Room).slots) := by
  refine MetFree.of_bodySF (plainFor_of_name pn_7) hisR ?_
  intro p e s m args below meth c s₁ Bd hml0 hP hK
  obtain ⟨rfl, hZ, hh⟩ := hP
  have hx := Bd.exec
  have hby := Bd.bytes
  have hml : c.maxLocals = 8 := hml0
  have hown : s.vm.findClass "com/example/crossmode/crossmode/search/LabelSet" = some m.cls := findClass_of_methodNamed Bd.named
  have hnm := (name_of_methodNamed Bd.named Bd.method).1
  have X0 : Stand p l e ({ frames := 0, cells := 0, slots := 0, locals := 0 } : Room) s m #[(.ref a1), (.int p2), (.ref a3)] below meth c s₁ [] 0 0 := Stand.of_body Bd
  have e0 : s₁.heap = h0 := by rw [← hh, Bd.state]; rfl
  have N0 := Fr.nil n0
  have pre0 : ∀ t, Steps p.tables e below (s₁.setTop (mkF m 0 #[.val (.ref a1), .val (.int p2), .val (.ref a3), .unset, .unset, .unset, .unset, .unset] [])) t → Steps p.tables e below (s₁.setTop (entryFrame m #[(.ref a1), (.int p2), (.ref a3)] 8)) t := fun t k => castTop (ef_7 m a1 p2 a3) k
  obtain ⟨T5, X5, e5, st5⟩ := getF X0 hx hZ hown (host := "") (Or.inl (hw _ (List.mem_of_getElem? (i := 20) rfl))) Via.refl e0 F_weights_a1 (g := (mkF m 1 #[.val (.ref a1), .val (.int p2), .val (.ref a3), .unset, .unset, .unset, .unset, .unset] [(.ref a1)])) rfl rfl (hb hby d7_1)
  obtain ⟨cl_w, Ar_w, -, S_w, M_w, H_w, -⟩ := V_w
  obtain ⟨cl_a3, Ar_a3, -, S_a3, N_a3, H_a3, -⟩ := V_q
  have iw0 : ¬ (((p2 * (2 : Int32)) + (0 : Int32)) < 0 ∨ cl_w.slots.size ≤ (((p2 * (2 : Int32)) + (0 : Int32))).toNatClampNeg) := inb_of S_w (own_in2_0 hp)
  have aw0 : cl_w.slots[(((p2 * (2 : Int32)) + (0 : Int32))).toNatClampNeg]? = some (.long x0) := (H_w _ (Nat.lt_of_not_le fun q => iw0 (Or.inr q))).trans (congrArg some v0)
  have iq0 : ¬ ((0 : Int32) < 0 ∨ cl_a3.slots.size ≤ ((0 : Int32)).toNatClampNeg) := inb_of S_a3 ⟨by decide, by decide⟩
  have aq0 : cl_a3.slots[((0 : Int32)).toNatClampNeg]? = some (.long x0) := (H_a3 _ (Nat.lt_of_not_le fun q => iq0 (Or.inr q))).trans rfl
  obtain ⟨U1, Y1, f1, s1⟩ := tn7_20_20 (.val (.ref a1)) (.val (.int p2)) a3 w4 (p2 * (2 : Int32)) (1 : Int32) (1 : Int32) (0 : Int32) cl_a3 (2 : Int32) x0 cl_w x0 x0 x0 X5 hx hZ hw hby hml hown e5 Ar_a3 S_a3 N_a3 Ar_w iw0 aw0 iq0 aq0 iq0 aq0 iw0 aw0 (by decide) (own_lc x0) (own_lc x0)
  have iw1 : ¬ (((p2 * (2 : Int32)) + ((0 : Int32) + (1 : Int32))) < 0 ∨ cl_w.slots.size ≤ (((p2 * (2 : Int32)) + ((0 : Int32) + (1 : Int32)))).toNatClampNeg) := inb_of S_w (own_in2_1 hp)
  have aw1 : cl_w.slots[(((p2 * (2 : Int32)) + ((0 : Int32) + (1 : Int32)))).toNatClampNeg]? = some (.long x1) := (H_w _ (Nat.lt_of_not_le fun q => iw1 (Or.inr q))).trans (congrArg some v1)
  have iq1 : ¬ (((0 : Int32) + (1 : Int32)) < 0 ∨ cl_a3.slots.size ≤ (((0 : Int32) + (1 : Int32))).toNatClampNeg) := inb_of S_a3 ⟨by decide, by decide⟩
  have aq1 : cl_a3.slots[(((0 : Int32) + (1 : Int32))).toNatClampNeg]? = some (.long x1) := (H_a3 _ (Nat.lt_of_not_le fun q => iq1 (Or.inr q))).trans rfl
  obtain ⟨U2, Y2, f2, s2⟩ := tn7_20_20 (.val (.ref a1)) (.val (.int p2)) a3 w4 (p2 * (2 : Int32)) ((1 : Int32) &&& (1 : Int32)) ((1 : Int32) &&& (1 : Int32)) ((0 : Int32) + (1 : Int32)) cl_a3 (2 : Int32) x1 cl_w x1 x1 x1 Y1 hx hZ hw hby hml hown f1 Ar_a3 S_a3 N_a3 Ar_w iw1 aw1 iq1 aq1 iq1 aq1 iw1 aw1 (by decide) (own_lc x1) (own_lc x1)
  obtain ⟨U9, Y9, f9, s9⟩ := tn7_20_83 (.val (.ref a1)) (.val (.int p2)) a3 (.val (.ref w4)) (.val (.int (p2 * (2 : Int32)))) (.val (.int (((1 : Int32) &&& (1 : Int32)) &&& (1 : Int32)))) (.val (.int (((1 : Int32) &&& (1 : Int32)) &&& (1 : Int32)))) (((0 : Int32) + (1 : Int32)) + (1 : Int32)) cl_a3 (2 : Int32) Y2 hx hZ hw hby hml hown f2 Ar_a3 S_a3 N_a3 (by decide)
  obtain ⟨T7, X7, e7, st7⟩ := getS2 Y9 hx hZ hown (host := "") (Or.inl (hw _ (List.mem_of_getElem? (i := 58) rfl))) Via.refl f9 S_SAME (g := (mkF m 93 #[.val (.ref a1), .val (.int p2), .val (.ref a3), .val (.ref w4), .val (.int (p2 * (2 : Int32))), .val (.int (((1 : Int32) &&& (1 : Int32)) &&& (1 : Int32))), .val (.int (((1 : Int32) &&& (1 : Int32)) &&& (1 : Int32))), .val (.int (((0 : Int32) + (1 : Int32)) + (1 : Int32)))] [])) rfl (hb hby d7_93)
  obtain ⟨fs, hr, hrun, hended, hW, hsame⟩ := X7.leave (v := some (.ref w6)) (fun h => by rw [Bd.returns] at h; cases h)
  refine ⟨_, _, pre0 _ ?_, hrun, hended, _, _, rfl, ?_, ⟨_, rfl⟩, hW, hsame.mono (by decide) (by decide)⟩
  · show Steps p.tables e below (s₁.setTop (mkF m 0 #[.val (.ref a1), .val (.int p2), .val (.ref a3), .unset, .unset, .unset, .unset, .unset] [])) _
    refine XS.aloadN X0.here hx rfl (hb hby d7_0) rfl rfl ?_
    show Steps p.tables e below (s₁.setTop (mkF m 1 #[.val (.ref a1), .val (.int p2), .val (.ref a3), .unset, .unset, .unset, .unset, .unset] [(.ref a1)])) _
    refine st5 _ ?_
    show Steps p.tables e below (T5.setTop (mkF m 4 #[.val (.ref a1), .val (.int p2), .val (.ref a3), .unset, .unset, .unset, .unset, .unset] [(.ref w4)])) _
    refine XS.astoreN X5.here hx rfl (hb hby d7_4) rfl rfl (l' := #[.val (.ref a1), .val (.int p2), .val (.ref a3), .val (.ref w4), .unset, .unset, .unset, .unset]) rfl ?_
    show Steps p.tables e below (T5.setTop (mkF m 5 #[.val (.ref a1), .val (.int p2), .val (.ref a3), .val (.ref w4), .unset, .unset, .unset, .unset] [])) _
    refine XS.iloadN X5.here hx rfl (hb hby d7_5) rfl ?_
    show Steps p.tables e below (T5.setTop (mkF m 6 #[.val (.ref a1), .val (.int p2), .val (.ref a3), .val (.ref w4), .unset, .unset, .unset, .unset] [(.int p2)])) _
    refine XS.aloadN X5.here hx rfl (hb hby d7_6) rfl rfl ?_
    show Steps p.tables e below (T5.setTop (mkF m 7 #[.val (.ref a1), .val (.int p2), .val (.ref a3), .val (.ref w4), .unset, .unset, .unset, .unset] [(.ref a3), (.int p2)])) _
    refine X5.arraylength hx (by rw [e5]; exact Ar_a3.1) (State.isArrayOf_alike hZ.alike Ar_a3.2.1) (g := (mkF m 7 #[.val (.ref a1), .val (.int p2), .val (.ref a3), .val (.ref w4), .unset, .unset, .unset, .unset] [(.ref a3), (.int p2)])) rfl rfl (hb hby d7_7) _ ?_
    rw [len_of S_a3 N_a3]
    show Steps p.tables e below (T5.setTop (mkF m 8 #[.val (.ref a1), .val (.int p2), .val (.ref a3), .val (.ref w4), .unset, .unset, .unset, .unset] [(.int (2 : Int32)), (.int p2)])) _
    refine XS.imul X5.here hx rfl (hb hby d7_8) rfl ?_
    show Steps p.tables e below (T5.setTop (mkF m 9 #[.val (.ref a1), .val (.int p2), .val (.ref a3), .val (.ref w4), .unset, .unset, .unset, .unset] [(.int (p2 * (2 : Int32)))])) _
    refine XS.istore X5.here hx rfl (hb hby d7_9) rfl (l' := #[.val (.ref a1), .val (.int p2), .val (.ref a3), .val (.ref w4), .val (.int (p2 * (2 : Int32))), .unset, .unset, .unset]) rfl ?_
    show Steps p.tables e below (T5.setTop (mkF m 11 #[.val (.ref a1), .val (.int p2), .val (.ref a3), .val (.ref w4), .val (.int (p2 * (2 : Int32))), .unset, .unset, .unset] [])) _
    refine XS.iconst X5.here hx rfl (hb hby d7_11) ?_
    show Steps p.tables e below (T5.setTop (mkF m 12 #[.val (.ref a1), .val (.int p2), .val (.ref a3), .val (.ref w4), .val (.int (p2 * (2 : Int32))), .unset, .unset, .unset] [(.int (1 : Int32))])) _
    refine XS.istore X5.here hx rfl (hb hby d7_12) rfl (l' := #[.val (.ref a1), .val (.int p2), .val (.ref a3), .val (.ref w4), .val (.int (p2 * (2 : Int32))), .val (.int (1 : Int32)), .unset, .unset]) rfl ?_
    show Steps p.tables e below (T5.setTop (mkF m 14 #[.val (.ref a1), .val (.int p2), .val (.ref a3), .val (.ref w4), .val (.int (p2 * (2 : Int32))), .val (.int (1 : Int32)), .unset, .unset] [])) _
    refine XS.iconst X5.here hx rfl (hb hby d7_14) ?_
    show Steps p.tables e below (T5.setTop (mkF m 15 #[.val (.ref a1), .val (.int p2), .val (.ref a3), .val (.ref w4), .val (.int (p2 * (2 : Int32))), .val (.int (1 : Int32)), .unset, .unset] [(.int (1 : Int32))])) _
    refine XS.istore X5.here hx rfl (hb hby d7_15) rfl (l' := #[.val (.ref a1), .val (.int p2), .val (.ref a3), .val (.ref w4), .val (.int (p2 * (2 : Int32))), .val (.int (1 : Int32)), .val (.int (1 : Int32)), .unset]) rfl ?_
    show Steps p.tables e below (T5.setTop (mkF m 17 #[.val (.ref a1), .val (.int p2), .val (.ref a3), .val (.ref w4), .val (.int (p2 * (2 : Int32))), .val (.int (1 : Int32)), .val (.int (1 : Int32)), .unset] [])) _
    refine XS.iconst X5.here hx rfl (hb hby d7_17) ?_
    show Steps p.tables e below (T5.setTop (mkF m 18 #[.val (.ref a1), .val (.int p2), .val (.ref a3), .val (.ref w4), .val (.int (p2 * (2 : Int32))), .val (.int (1 : Int32)), .val (.int (1 : Int32)), .unset] [(.int (0 : Int32))])) _
    refine XS.istore X5.here hx rfl (hb hby d7_18) rfl (l' := #[.val (.ref a1), .val (.int p2), .val (.ref a3), .val (.ref w4), .val (.int (p2 * (2 : Int32))), .val (.int (1 : Int32)), .val (.int (1 : Int32)), .val (.int (0 : Int32))]) rfl ?_
    show Steps p.tables e below (T5.setTop (mkF m 20 #[.val (.ref a1), .val (.int p2), .val (.ref a3), .val (.ref w4), .val (.int (p2 * (2 : Int32))), .val (.int (1 : Int32)), .val (.int (1 : Int32)), .val (.int (0 : Int32))] [])) _
    refine s1 _ ?_
    refine s2 _ ?_
    refine s9 _ ?_
    show Steps p.tables e below (U9.setTop (mkF m 83 #[.val (.ref a1), .val (.int p2), .val (.ref a3), .val (.ref w4), .val (.int (p2 * (2 : Int32))), .val (.int (((1 : Int32) &&& (1 : Int32)) &&& (1 : Int32))), .val (.int (((1 : Int32) &&& (1 : Int32)) &&& (1 : Int32))), .val (.int (((0 : Int32) + (1 : Int32)) + (1 : Int32)))] [])) _
    refine XS.iload Y9.here hx rfl (hb hby d7_83) rfl ?_
    show Steps p.tables e below (U9.setTop (mkF m 85 #[.val (.ref a1), .val (.int p2), .val (.ref a3), .val (.ref w4), .val (.int (p2 * (2 : Int32))), .val (.int (((1 : Int32) &&& (1 : Int32)) &&& (1 : Int32))), .val (.int (((1 : Int32) &&& (1 : Int32)) &&& (1 : Int32))), .val (.int (((0 : Int32) + (1 : Int32)) + (1 : Int32)))] [(.int (((1 : Int32) &&& (1 : Int32)) &&& (1 : Int32)))])) _
    refine XS.ifNo Y9.here hx rfl (hb hby d7_85) rfl ((if0 _ _).trans (feq (by decide : ¬ ((((1 : Int32) &&& (1 : Int32)) &&& (1 : Int32)) = (0 : Int32)))).1) ?_
    show Steps p.tables e below (U9.setTop (mkF m 88 #[.val (.ref a1), .val (.int p2), .val (.ref a3), .val (.ref w4), .val (.int (p2 * (2 : Int32))), .val (.int (((1 : Int32) &&& (1 : Int32)) &&& (1 : Int32))), .val (.int (((1 : Int32) &&& (1 : Int32)) &&& (1 : Int32))), .val (.int (((0 : Int32) + (1 : Int32)) + (1 : Int32)))] [])) _
    refine XS.iload Y9.here hx rfl (hb hby d7_88) rfl ?_
    show Steps p.tables e below (U9.setTop (mkF m 90 #[.val (.ref a1), .val (.int p2), .val (.ref a3), .val (.ref w4), .val (.int (p2 * (2 : Int32))), .val (.int (((1 : Int32) &&& (1 : Int32)) &&& (1 : Int32))), .val (.int (((1 : Int32) &&& (1 : Int32)) &&& (1 : Int32))), .val (.int (((0 : Int32) + (1 : Int32)) + (1 : Int32)))] [(.int (((1 : Int32) &&& (1 : Int32)) &&& (1 : Int32)))])) _
    refine XS.ifNo Y9.here hx rfl (hb hby d7_90) rfl ((if0 _ _).trans (feq (by decide : ¬ ((((1 : Int32) &&& (1 : Int32)) &&& (1 : Int32)) = (0 : Int32)))).1) ?_
    show Steps p.tables e below (U9.setTop (mkF m 93 #[.val (.ref a1), .val (.int p2), .val (.ref a3), .val (.ref w4), .val (.int (p2 * (2 : Int32))), .val (.int (((1 : Int32) &&& (1 : Int32)) &&& (1 : Int32))), .val (.int (((1 : Int32) &&& (1 : Int32)) &&& (1 : Int32))), .val (.int (((0 : Int32) + (1 : Int32)) + (1 : Int32)))] [])) _
    refine st7 _ ?_
    show Steps p.tables e below (T7.setTop (mkF m 96 #[.val (.ref a1), .val (.int p2), .val (.ref a3), .val (.ref w4), .val (.int (p2 * (2 : Int32))), .val (.int (((1 : Int32) &&& (1 : Int32)) &&& (1 : Int32))), .val (.int (((1 : Int32) &&& (1 : Int32)) &&& (1 : Int32))), .val (.int (((0 : Int32) + (1 : Int32)) + (1 : Int32)))] [(.ref w6)])) _
    refine XS.goto X7.here hx rfl (pc0 := 96) (pc' := 102) rfl (hb hby d7_96) (by decide) (by decide) ?_
    show Steps p.tables e below (T7.setTop (mkF m 102 #[.val (.ref a1), .val (.int p2), .val (.ref a3), .val (.ref w4), .val (.int (p2 * (2 : Int32))), .val (.int (((1 : Int32) &&& (1 : Int32)) &&& (1 : Int32))), .val (.int (((1 : Int32) &&& (1 : Int32)) &&& (1 : Int32))), .val (.int (((0 : Int32) + (1 : Int32)) + (1 : Int32)))] [(.ref w6)])) _
    jvm_step X7.here [X7.here.top, hx, (hb hby d7_102), X7.method', Bd.returns, Value.isRef, FieldType.isReference]
    first | (intro acts; rw [hr _ acts rfl rfl rfl]) | rw [hr _ _ rfl rfl rfl]
    exact Steps.refl _
  · show own_Q (some (.ref w6)) h0 n0 _ T7.heap _
    rw [e7]
    exact ⟨rfl, N0, rfl⟩
theorem pd_0_6 : parseMethodDescriptor "(I)Lcom/example/crossmode/crossmode/search/Label;" = some ⟨[.int], some (.object "com/example/crossmode/crossmode/search/Label")⟩ := by decide +kernel
theorem pd_0_7 : parseMethodDescriptor "(I[J)Lcom/example/crossmode/crossmode/search/Dominance;" = some ⟨[.int, (.array .long)], some (.object "com/example/crossmode/crossmode/search/Dominance")⟩ := by decide +kernel
set_option maxRecDepth 65536 in
set_option maxHeartbeats 40000000 in
theorem own_b1f_1 {p : Program} {l : Launch} {e : Env} {s : State} {m : MethodId} {args : Array Value} {below : List Frame} {meth : Method} {c : Code} {T0 : State} {locs : List Loc} {cells slots : Nat} {Z : State} {a0 : Array Value} {h0 : Heap} (s0 : Slot) (s1 : Slot) (s2 : Slot) (s3 : Slot) (s4 : Slot) (s5 : Slot) (s6 : Slot) (s7 : Slot) (s8 : Slot) (s9 : Slot) (i10 : Int32) (i11 : Int32) (s12 : Slot) (s13 : Slot) (s14 : Slot) (o15 : Addr) (s16 : Slot) (s17 : Slot) (o18 : Addr) (o19 : Addr) (s20 : Slot) (i21 : Int32)
    (n0 : Nat) (bl bw : Addr) (kl kw kq : ClassId) (ls vs : List Value) (x0 : Int64) (wS : Addr) (X0 : Stand p l e room_1 s m args below meth c T0 locs cells slots) (hx : p.tables.exec = Jvm.exec) (hZ : Z.Warmed39 s.vm) (hw : ∀ d ∈ tables_1, d.before a0 Z = true) (hby : c.code = code) (hml : c.maxLocals = 22) (hown : s.vm.findClass "com/example/crossmode/crossmode/search/LabelSetSetPinLaw" = some m.cls) (e0 : T0.heap = h0) (N0 : Fr n0 locs) (Z0 : n0 ≤ h0.size) (hcl : cells ≤ room_1.cells) (hsl : slots ≤ room_1.slots) (Fl : Fld Z h0 o18 "com/example/crossmode/crossmode/search/LabelSet" "labels" "[Lcom/example/crossmode/crossmode/search/Label;" (.ref bl)) (Fw : Fld Z h0 o18 "com/example/crossmode/crossmode/search/LabelSet" "weights" "[J" (.ref bw)) (Vl : Arv Z h0 bl kl (.object "com/example/crossmode/crossmode/search/Label") (4 : Int32) ls .null) (Vw : Arv Z h0 bw kw .long ((4 : Int32) * (1 : Int32)) vs (.long (0 : Int64))) (Vq : Arv Z h0 o15 kq .long (1 : Int32) [.long x0] (.long (0 : Int64))) (hp : (i10 = 0 ∨ i10 = 1 ∨ i10 = 2 ∨ i10 = 3)) (hg : ls.getD i10.toNatClampNeg .null = .ref o19) (v0 : vs.getD ((i10 * (1 : Int32)) + (0 : Int32)).toNatClampNeg (.long (0 : Int64)) = .long x0) (E_o18 : Exa Z h0 o18 "com/example/crossmode/crossmode/search/LabelSet") (S_SAME : Sta Z h0 "com/example/crossmode/crossmode/search/Dominance" "SAME" "Lcom/example/crossmode/crossmode/search/Dominance;" (.ref wS)) (hc165 : ¬ (i10 = i11)) (hc170 : ¬ (i21 = (0 : Int32))) :
    ∃ (T' : State) (L' : List Loc), Stand p l e room_1 s m args below meth c T' L' cells slots ∧ T'.heap = h0 ∧ Fr n0 L' ∧
      ∀ target, Steps p.tables e below (T'.setTop (mkF m 207 #[s0, s1, s2, s3, s4, s5, s6, s7, s8, s9, .val (.int i10), .val (.int i11), s12, s13, s14, .val (.ref o15), s16, s17, .val (.ref o18), .val (.ref o19), s20, .val (.int (1 : Int32))] [])) target → Steps p.tables e below (T0.setTop (mkF m 161 #[s0, s1, s2, s3, s4, s5, s6, s7, s8, s9, .val (.int i10), .val (.int i11), s12, s13, s14, .val (.ref o15), s16, s17, .val (.ref o18), .val (.ref o19), s20, .val (.int i21)] [])) target := by
  obtain ⟨cq6, kq6, q6a, q6b, q6c⟩ := isOf hZ e0 E_o18
  obtain ⟨_, _, ⟨T6, L6, k6, n6⟩, -, X6, ⟨Lc6, hQ6, l6, y6, z6⟩, st6⟩ := X0.virtualBack hx (y := (⟨"com/example/crossmode/crossmode/search/LabelSet", "get", "(I)Lcom/example/crossmode/crossmode/search/Label;"⟩ : MethodName)) (z := (⟨"com/example/crossmode/crossmode/search/LabelSet", "get", "(I)Lcom/example/crossmode/crossmode/search/Label;"⟩ : MethodName)) hown (mvT hZ (hw _ (List.mem_of_getElem? (i := 48) rfl))) (mvT hZ (hw _ (List.mem_of_getElem? (i := 49) rfl))) (notFace_of_selects (args := #[]) (mvT hZ (hw _ (List.mem_of_getElem? (i := 51) rfl)))) (mvT hZ (hw _ (List.mem_of_getElem? (i := 51) rfl))) (mvT hZ (hw _ (List.mem_of_getElem? (i := 50) rfl))) (by decide) (backOf (W := 0) (own_rm6_ref l Z a0 hw [] o18 i10 bl o19 kl ls h0 n0 Z0 Fl Vl hp hg) hZ (hw _ (List.mem_of_getElem? (i := 52) rfl)) (hw _ (List.mem_of_getElem? (i := 7) rfl)) (by decide) (by decide)) q6a q6c (g := (mkF m 177 #[s0, s1, s2, s3, s4, s5, s6, s7, s8, s9, .val (.int i10), .val (.int i11), s12, s13, s14, .val (.ref o15), s16, s17, .val (.ref o18), .val (.ref o19), s20, .val (.int i21)] [(.int i10), (.ref o18)])) rfl (by rw [hml]; rfl) (Steps.refl _) (argsL := [(.int i10)]) (rest := []) (lenOf pd_0_6 rfl) rfl (by show 2 * 0 + _ ≤ _; exact Nat.le_of_eq rfl) (hb hby at_177) (fun _ _ => ⟨rfl, e0, hcl, hsl⟩)
  dsimp only [Pt.U, Pt.locs, Pt.cells, Pt.slots] at X6 l6 y6 z6 st6 hQ6
  subst l6 y6 z6
  obtain ⟨rfl, N6q, e6⟩ := hQ6
  have N6 := Fr.app N0 N6q
  obtain ⟨cq7, kq7, q7a, q7b, q7c⟩ := isOf hZ e6 E_o18
  obtain ⟨_, _, ⟨T7, L7, k7, n7⟩, -, X7, ⟨Lc7, hQ7, l7, y7, z7⟩, st7⟩ := X6.virtualBack hx (y := (⟨"com/example/crossmode/crossmode/search/LabelSet", "compare", "(I[J)Lcom/example/crossmode/crossmode/search/Dominance;"⟩ : MethodName)) (z := (⟨"com/example/crossmode/crossmode/search/LabelSet", "compare", "(I[J)Lcom/example/crossmode/crossmode/search/Dominance;"⟩ : MethodName)) hown (mvT hZ (hw _ (List.mem_of_getElem? (i := 53) rfl))) (mvT hZ (hw _ (List.mem_of_getElem? (i := 54) rfl))) (notFace_of_selects (args := #[]) (mvT hZ (hw _ (List.mem_of_getElem? (i := 56) rfl)))) (mvT hZ (hw _ (List.mem_of_getElem? (i := 56) rfl))) (mvT hZ (hw _ (List.mem_of_getElem? (i := 55) rfl))) (by decide) (backOf (W := 0) (own_rm7_1 l Z a0 hw [] o18 i10 o15 bw kw kq vs x0 wS h0 n0 Z0 Fw Vw Vq S_SAME hp v0) hZ (hw _ (List.mem_of_getElem? (i := 57) rfl)) (hw _ (List.mem_of_getElem? (i := 7) rfl)) (by decide) (by decide)) q7a q7c (g := (mkF m 191 #[s0, s1, s2, s3, s4, s5, s6, s7, s8, s9, .val (.int i10), .val (.int i11), s12, s13, s14, .val (.ref o15), s16, s17, .val (.ref o18), .val (.ref o19), s20, .val (.int i21)] [(.ref o15), (.int i10), (.ref o18)])) rfl (by rw [hml]; rfl) (Steps.refl _) (argsL := [(.int i10), (.ref o15)]) (rest := []) (lenOf pd_0_7 rfl) rfl (by show 2 * 0 + _ ≤ _; exact Nat.le_of_eq rfl) (hb hby at_191) (fun _ _ => ⟨rfl, e6, hcl, hsl⟩)
  dsimp only [Pt.U, Pt.locs, Pt.cells, Pt.slots] at X7 l7 y7 z7 st7 hQ7
  subst l7 y7 z7
  obtain ⟨rfl, N7q, e7⟩ := hQ7
  have N7 := Fr.app N6 N7q
  obtain ⟨T9, X9, e9, st9⟩ := getS2 X7 hx hZ hown (host := "") (Or.inl (hw _ (List.mem_of_getElem? (i := 61) rfl))) Via.refl e7 S_SAME (g := (mkF m 194 #[s0, s1, s2, s3, s4, s5, s6, s7, s8, s9, .val (.int i10), .val (.int i11), s12, s13, s14, .val (.ref o15), s16, s17, .val (.ref o18), .val (.ref o19), s20, .val (.int i21)] [(.ref wS)])) rfl (hb hby at_194)
  refine ⟨T9, _, X9, e9, N7, fun target kt => ?_⟩
  show Steps p.tables e below (T0.setTop (mkF m 161 #[s0, s1, s2, s3, s4, s5, s6, s7, s8, s9, .val (.int i10), .val (.int i11), s12, s13, s14, .val (.ref o15), s16, s17, .val (.ref o18), .val (.ref o19), s20, .val (.int i21)] [])) _
  refine XS.iload X0.here hx rfl (hb hby at_161) rfl ?_
  show Steps p.tables e below (T0.setTop (mkF m 163 #[s0, s1, s2, s3, s4, s5, s6, s7, s8, s9, .val (.int i10), .val (.int i11), s12, s13, s14, .val (.ref o15), s16, s17, .val (.ref o18), .val (.ref o19), s20, .val (.int i21)] [(.int i10)])) _
  refine XS.iload X0.here hx rfl (hb hby at_163) rfl ?_
  show Steps p.tables e below (T0.setTop (mkF m 165 #[s0, s1, s2, s3, s4, s5, s6, s7, s8, s9, .val (.int i10), .val (.int i11), s12, s13, s14, .val (.ref o15), s16, s17, .val (.ref o18), .val (.ref o19), s20, .val (.int i21)] [(.int i11), (.int i10)])) _
  refine XS.icmpNo X0.here hx rfl (hb hby at_165) rfl (feq hc165).1 ?_
  show Steps p.tables e below (T0.setTop (mkF m 168 #[s0, s1, s2, s3, s4, s5, s6, s7, s8, s9, .val (.int i10), .val (.int i11), s12, s13, s14, .val (.ref o15), s16, s17, .val (.ref o18), .val (.ref o19), s20, .val (.int i21)] [])) _
  refine XS.iload X0.here hx rfl (hb hby at_168) rfl ?_
  show Steps p.tables e below (T0.setTop (mkF m 170 #[s0, s1, s2, s3, s4, s5, s6, s7, s8, s9, .val (.int i10), .val (.int i11), s12, s13, s14, .val (.ref o15), s16, s17, .val (.ref o18), .val (.ref o19), s20, .val (.int i21)] [(.int i21)])) _
  refine XS.ifNo X0.here hx rfl (hb hby at_170) rfl ((if0 _ _).trans (feq hc170).1) ?_
  show Steps p.tables e below (T0.setTop (mkF m 173 #[s0, s1, s2, s3, s4, s5, s6, s7, s8, s9, .val (.int i10), .val (.int i11), s12, s13, s14, .val (.ref o15), s16, s17, .val (.ref o18), .val (.ref o19), s20, .val (.int i21)] [])) _
  refine XS.aload X0.here hx rfl (hb hby at_173) rfl rfl ?_
  show Steps p.tables e below (T0.setTop (mkF m 175 #[s0, s1, s2, s3, s4, s5, s6, s7, s8, s9, .val (.int i10), .val (.int i11), s12, s13, s14, .val (.ref o15), s16, s17, .val (.ref o18), .val (.ref o19), s20, .val (.int i21)] [(.ref o18)])) _
  refine XS.iload X0.here hx rfl (hb hby at_175) rfl ?_
  show Steps p.tables e below (T0.setTop (mkF m 177 #[s0, s1, s2, s3, s4, s5, s6, s7, s8, s9, .val (.int i10), .val (.int i11), s12, s13, s14, .val (.ref o15), s16, s17, .val (.ref o18), .val (.ref o19), s20, .val (.int i21)] [(.int i10), (.ref o18)])) _
  refine st6.trans ?_
  show Steps p.tables e below (T6.setTop (mkF m 180 #[s0, s1, s2, s3, s4, s5, s6, s7, s8, s9, .val (.int i10), .val (.int i11), s12, s13, s14, .val (.ref o15), s16, s17, .val (.ref o18), .val (.ref o19), s20, .val (.int i21)] [(.ref o19)])) _
  refine XS.aload X6.here hx rfl (hb hby at_180) rfl rfl ?_
  show Steps p.tables e below (T6.setTop (mkF m 182 #[s0, s1, s2, s3, s4, s5, s6, s7, s8, s9, .val (.int i10), .val (.int i11), s12, s13, s14, .val (.ref o15), s16, s17, .val (.ref o18), .val (.ref o19), s20, .val (.int i21)] [(.ref o19), (.ref o19)])) _
  refine Jvm.RoadKit.acmp (g := (mkF m 182 #[s0, s1, s2, s3, s4, s5, s6, s7, s8, s9, .val (.int i10), .val (.int i11), s12, s13, s14, .val (.ref o15), s16, s17, .val (.ref o18), .val (.ref o19), s20, .val (.int i21)] [(.ref o19), (.ref o19)])) X6 hx rfl rfl rfl (pc0 := 182) (pc' := 185) (same := true) rfl (hb hby at_182) rfl (decide_eq_true rfl) (by decide) (by decide) ?_
  show Steps p.tables e below (T6.setTop (mkF m 185 #[s0, s1, s2, s3, s4, s5, s6, s7, s8, s9, .val (.int i10), .val (.int i11), s12, s13, s14, .val (.ref o15), s16, s17, .val (.ref o18), .val (.ref o19), s20, .val (.int i21)] [])) _
  refine XS.aload X6.here hx rfl (hb hby at_185) rfl rfl ?_
  show Steps p.tables e below (T6.setTop (mkF m 187 #[s0, s1, s2, s3, s4, s5, s6, s7, s8, s9, .val (.int i10), .val (.int i11), s12, s13, s14, .val (.ref o15), s16, s17, .val (.ref o18), .val (.ref o19), s20, .val (.int i21)] [(.ref o18)])) _
  refine XS.iload X6.here hx rfl (hb hby at_187) rfl ?_
  show Steps p.tables e below (T6.setTop (mkF m 189 #[s0, s1, s2, s3, s4, s5, s6, s7, s8, s9, .val (.int i10), .val (.int i11), s12, s13, s14, .val (.ref o15), s16, s17, .val (.ref o18), .val (.ref o19), s20, .val (.int i21)] [(.int i10), (.ref o18)])) _
  refine XS.aload X6.here hx rfl (hb hby at_189) rfl rfl ?_
  show Steps p.tables e below (T6.setTop (mkF m 191 #[s0, s1, s2, s3, s4, s5, s6, s7, s8, s9, .val (.int i10), .val (.int i11), s12, s13, s14, .val (.ref o15), s16, s17, .val (.ref o18), .val (.ref o19), s20, .val (.int i21)] [(.ref o15), (.int i10), (.ref o18)])) _
  refine st7.trans ?_
  show Steps p.tables e below (T7.setTop (mkF m 194 #[s0, s1, s2, s3, s4, s5, s6, s7, s8, s9, .val (.int i10), .val (.int i11), s12, s13, s14, .val (.ref o15), s16, s17, .val (.ref o18), .val (.ref o19), s20, .val (.int i21)] [(.ref wS)])) _
  refine st9 _ ?_
  show Steps p.tables e below (T9.setTop (mkF m 197 #[s0, s1, s2, s3, s4, s5, s6, s7, s8, s9, .val (.int i10), .val (.int i11), s12, s13, s14, .val (.ref o15), s16, s17, .val (.ref o18), .val (.ref o19), s20, .val (.int i21)] [(.ref wS), (.ref wS)])) _
  refine Jvm.RoadKit.acmp (g := (mkF m 197 #[s0, s1, s2, s3, s4, s5, s6, s7, s8, s9, .val (.int i10), .val (.int i11), s12, s13, s14, .val (.ref o15), s16, s17, .val (.ref o18), .val (.ref o19), s20, .val (.int i21)] [(.ref wS), (.ref wS)])) X9 hx rfl rfl rfl (pc0 := 197) (pc' := 200) (same := true) rfl (hb hby at_197) rfl (decide_eq_true (rfl)) (by decide) (by decide) ?_
  show Steps p.tables e below (T9.setTop (mkF m 200 #[s0, s1, s2, s3, s4, s5, s6, s7, s8, s9, .val (.int i10), .val (.int i11), s12, s13, s14, .val (.ref o15), s16, s17, .val (.ref o18), .val (.ref o19), s20, .val (.int i21)] [])) _
  refine XS.iconst X9.here hx rfl (hb hby at_200) ?_
  show Steps p.tables e below (T9.setTop (mkF m 201 #[s0, s1, s2, s3, s4, s5, s6, s7, s8, s9, .val (.int i10), .val (.int i11), s12, s13, s14, .val (.ref o15), s16, s17, .val (.ref o18), .val (.ref o19), s20, .val (.int i21)] [(.int (1 : Int32))])) _
  refine XS.goto X9.here hx rfl (pc0 := 201) (pc' := 205) rfl (hb hby at_201) (by decide) (by decide) ?_
  show Steps p.tables e below (T9.setTop (mkF m 205 #[s0, s1, s2, s3, s4, s5, s6, s7, s8, s9, .val (.int i10), .val (.int i11), s12, s13, s14, .val (.ref o15), s16, s17, .val (.ref o18), .val (.ref o19), s20, .val (.int i21)] [(.int (1 : Int32))])) _
  refine XS.istore X9.here hx rfl (hb hby at_205) rfl (l' := #[s0, s1, s2, s3, s4, s5, s6, s7, s8, s9, .val (.int i10), .val (.int i11), s12, s13, s14, .val (.ref o15), s16, s17, .val (.ref o18), .val (.ref o19), s20, .val (.int (1 : Int32))]) rfl ?_
  exact kt
set_option maxRecDepth 65536 in
set_option maxHeartbeats 40000000 in
theorem own_b1t_1 {p : Program} {l : Launch} {e : Env} {s : State} {m : MethodId} {args : Array Value} {below : List Frame} {meth : Method} {c : Code} {T0 : State} {locs : List Loc} {cells slots : Nat} {Z : State} {a0 : Array Value} {h0 : Heap} (s0 : Slot) (s1 : Slot) (s2 : Slot) (s3 : Slot) (s4 : Slot) (s5 : Slot) (s6 : Slot) (s7 : Slot) (s8 : Slot) (s9 : Slot) (i10 : Int32) (i11 : Int32) (s12 : Slot) (s13 : Slot) (s14 : Slot) (s15 : Slot) (s16 : Slot) (s17 : Slot) (s18 : Slot) (s19 : Slot) (s20 : Slot) (s21 : Slot)
    (n0 : Nat) (X0 : Stand p l e room_1 s m args below meth c T0 locs cells slots) (hx : p.tables.exec = Jvm.exec) (hZ : Z.Warmed39 s.vm) (hw : ∀ d ∈ tables_1, d.before a0 Z = true) (hby : c.code = code) (hml : c.maxLocals = 22) (hown : s.vm.findClass "com/example/crossmode/crossmode/search/LabelSetSetPinLaw" = some m.cls) (e0 : T0.heap = h0) (N0 : Fr n0 locs) (Z0 : n0 ≤ h0.size) (hcl : cells ≤ room_1.cells) (hsl : slots ≤ room_1.slots) (hc165 : i10 = i11) :
    ∃ (T' : State) (L' : List Loc), Stand p l e room_1 s m args below meth c T' L' cells slots ∧ T'.heap = h0 ∧ Fr n0 L' ∧
      ∀ target, Steps p.tables e below (T'.setTop (mkF m 207 #[s0, s1, s2, s3, s4, s5, s6, s7, s8, s9, .val (.int i10), .val (.int i11), s12, s13, s14, s15, s16, s17, s18, s19, s20, s21] [])) target → Steps p.tables e below (T0.setTop (mkF m 161 #[s0, s1, s2, s3, s4, s5, s6, s7, s8, s9, .val (.int i10), .val (.int i11), s12, s13, s14, s15, s16, s17, s18, s19, s20, s21] [])) target := by

  refine ⟨T0, _, X0, e0, N0, fun target kt => ?_⟩
  show Steps p.tables e below (T0.setTop (mkF m 161 #[s0, s1, s2, s3, s4, s5, s6, s7, s8, s9, .val (.int i10), .val (.int i11), s12, s13, s14, s15, s16, s17, s18, s19, s20, s21] [])) _
  refine XS.iload X0.here hx rfl (hb hby at_161) rfl ?_
  show Steps p.tables e below (T0.setTop (mkF m 163 #[s0, s1, s2, s3, s4, s5, s6, s7, s8, s9, .val (.int i10), .val (.int i11), s12, s13, s14, s15, s16, s17, s18, s19, s20, s21] [(.int i10)])) _
  refine XS.iload X0.here hx rfl (hb hby at_163) rfl ?_
  show Steps p.tables e below (T0.setTop (mkF m 165 #[s0, s1, s2, s3, s4, s5, s6, s7, s8, s9, .val (.int i10), .val (.int i11), s12, s13, s14, s15, s16, s17, s18, s19, s20, s21] [(.int i11), (.int i10)])) _
  refine XS.icmpYes X0.here hx rfl (pc0 := 165) (pc' := 207) rfl (hb hby at_165) rfl (teq hc165).1 (by decide) (by decide) ?_
  exact kt
theorem own_B1_1 {p : Program} {l : Launch} {e : Env} {s : State} {m : MethodId} {args : Array Value} {below : List Frame} {meth : Method} {c : Code} {T0 : State} {locs : List Loc} {cells slots : Nat} {Z : State} {a0 : Array Value} {h0 : Heap} (s0 : Slot) (s1 : Slot) (s2 : Slot) (s3 : Slot) (s4 : Slot) (s5 : Slot) (s6 : Slot) (s7 : Slot) (s8 : Slot) (s9 : Slot) (s12 : Slot) (s13 : Slot) (s14 : Slot) (s16 : Slot) (s17 : Slot) (s20 : Slot) (i10 i11 : Int32) (o15 o18 o19 : Addr) (n0 : Nat) (bl bw : Addr) (kl kw kq : ClassId) (ls vs : List Value) (x0 : Int64) (wS : Addr) (X0 : Stand p l e room_1 s m args below meth c T0 locs cells slots) (hx : p.tables.exec = Jvm.exec) (hZ : Z.Warmed39 s.vm) (hw : ∀ d ∈ tables_1, d.before a0 Z = true) (hby : c.code = code) (hml : c.maxLocals = 22) (hown : s.vm.findClass "com/example/crossmode/crossmode/search/LabelSetSetPinLaw" = some m.cls) (e0 : T0.heap = h0) (N0 : Fr n0 locs) (Z0 : n0 ≤ h0.size) (hcl : cells ≤ room_1.cells) (hsl : slots ≤ room_1.slots) (Fl : Fld Z h0 o18 "com/example/crossmode/crossmode/search/LabelSet" "labels" "[Lcom/example/crossmode/crossmode/search/Label;" (.ref bl)) (Fw : Fld Z h0 o18 "com/example/crossmode/crossmode/search/LabelSet" "weights" "[J" (.ref bw)) (Vl : Arv Z h0 bl kl (.object "com/example/crossmode/crossmode/search/Label") (4 : Int32) ls .null) (Vw : Arv Z h0 bw kw .long ((4 : Int32) * (1 : Int32)) vs (.long (0 : Int64))) (Vq : Arv Z h0 o15 kq .long (1 : Int32) [.long x0] (.long (0 : Int64))) (hp : (i10 = 0 ∨ i10 = 1 ∨ i10 = 2 ∨ i10 = 3)) (hg : ¬ i10 = i11 → ls.getD i10.toNatClampNeg .null = .ref o19) (v0 : ¬ i10 = i11 → vs.getD ((i10 * (1 : Int32)) + (0 : Int32)).toNatClampNeg (.long (0 : Int64)) = .long x0) (E_o18 : Exa Z h0 o18 "com/example/crossmode/crossmode/search/LabelSet") (S_SAME : Sta Z h0 "com/example/crossmode/crossmode/search/Dominance" "SAME" "Lcom/example/crossmode/crossmode/search/Dominance;" (.ref wS)) :
    ∃ (T' : State) (L' : List Loc), Stand p l e room_1 s m args below meth c T' L' cells slots ∧ T'.heap = h0 ∧ Fr n0 L' ∧
      ∀ target, Steps p.tables e below (T'.setTop (mkF m 207 #[s0, s1, s2, s3, s4, s5, s6, s7, s8, s9, .val (.int i10), .val (.int i11), s12, s13, s14, .val (.ref o15), s16, s17, .val (.ref o18), .val (.ref o19), s20, .val (.int (1 : Int32))] [])) target → Steps p.tables e below (T0.setTop (mkF m 161 #[s0, s1, s2, s3, s4, s5, s6, s7, s8, s9, .val (.int i10), .val (.int i11), s12, s13, s14, .val (.ref o15), s16, s17, .val (.ref o18), .val (.ref o19), s20, .val (.int (1 : Int32))] [])) target := by
  by_cases hij : i10 = i11
  · exact own_b1t_1 (s0) (s1) (s2) (s3) (s4) (s5) (s6) (s7) (s8) (s9) i10 i11 (s12) (s13) (s14) (.val (.ref o15)) (s16) (s17) (.val (.ref o18)) (.val (.ref o19)) (s20) (.val (.int (1 : Int32))) n0 X0 hx hZ hw hby hml hown e0 N0 Z0 hcl hsl hij
  · exact own_b1f_1 (s0) (s1) (s2) (s3) (s4) (s5) (s6) (s7) (s8) (s9) i10 i11 (s12) (s13) (s14) o15 (s16) (s17) o18 o19 (s20) (1 : Int32) n0 bl bw kl kw kq ls vs x0 wS X0 hx hZ hw hby hml hown e0 N0 Z0 hcl hsl Fl Fw Vl Vw Vq hp (hg hij) (v0 hij) E_o18 S_SAME hij (by decide)
set_option maxRecDepth 65536 in
set_option maxHeartbeats 40000000 in
theorem own_b2f_1 {p : Program} {l : Launch} {e : Env} {s : State} {m : MethodId} {args : Array Value} {below : List Frame} {meth : Method} {c : Code} {T0 : State} {locs : List Loc} {cells slots : Nat} {Z : State} {a0 : Array Value} {h0 : Heap} (s0 : Slot) (s1 : Slot) (s2 : Slot) (s3 : Slot) (s4 : Slot) (s5 : Slot) (s6 : Slot) (s7 : Slot) (s8 : Slot) (s9 : Slot) (i10 : Int32) (i11 : Int32) (i12 : Int32) (s13 : Slot) (s14 : Slot) (s15 : Slot) (s16 : Slot) (o17 : Addr) (o18 : Addr) (s19 : Slot) (s20 : Slot) (i21 : Int32)
    (n0 : Nat) (bl bw : Addr) (kl kw kq : ClassId) (ls vs : List Value) (x0 : Int64) (wS : Addr) (X0 : Stand p l e room_1 s m args below meth c T0 locs cells slots) (hx : p.tables.exec = Jvm.exec) (hZ : Z.Warmed39 s.vm) (hw : ∀ d ∈ tables_1, d.before a0 Z = true) (hby : c.code = code) (hml : c.maxLocals = 22) (hown : s.vm.findClass "com/example/crossmode/crossmode/search/LabelSetSetPinLaw" = some m.cls) (e0 : T0.heap = h0) (N0 : Fr n0 locs) (Z0 : n0 ≤ h0.size) (hcl : cells ≤ room_1.cells) (hsl : slots ≤ room_1.slots) (Fl : Fld Z h0 o18 "com/example/crossmode/crossmode/search/LabelSet" "labels" "[Lcom/example/crossmode/crossmode/search/Label;" (.ref bl)) (Fw : Fld Z h0 o18 "com/example/crossmode/crossmode/search/LabelSet" "weights" "[J" (.ref bw)) (Vl : Arv Z h0 bl kl (.object "com/example/crossmode/crossmode/search/Label") (4 : Int32) ls .null) (Vw : Arv Z h0 bw kw .long ((4 : Int32) * (1 : Int32)) vs (.long (0 : Int64))) (Vq : Arv Z h0 o17 kq .long (1 : Int32) [.long x0] (.long (0 : Int64))) (hp : (i12 = 0 ∨ i12 = 1 ∨ i12 = 2 ∨ i12 = 3)) (hg : ls.getD i12.toNatClampNeg .null = .null) (v0 : vs.getD ((i12 * (1 : Int32)) + (0 : Int32)).toNatClampNeg (.long (0 : Int64)) = .long x0) (E_o18 : Exa Z h0 o18 "com/example/crossmode/crossmode/search/LabelSet") (S_SAME : Sta Z h0 "com/example/crossmode/crossmode/search/Dominance" "SAME" "Lcom/example/crossmode/crossmode/search/Dominance;" (.ref wS)) (hc211 : ¬ (i12 = i10)) (hc218 : ¬ (i12 = i11)) (hc223 : ¬ (i21 = (0 : Int32))) :
    ∃ (T' : State) (L' : List Loc), Stand p l e room_1 s m args below meth c T' L' cells slots ∧ T'.heap = h0 ∧ Fr n0 L' ∧
      ∀ target, Steps p.tables e below (T'.setTop (mkF m 258 #[s0, s1, s2, s3, s4, s5, s6, s7, s8, s9, .val (.int i10), .val (.int i11), .val (.int i12), s13, s14, s15, s16, .val (.ref o17), .val (.ref o18), s19, s20, .val (.int (1 : Int32))] [])) target → Steps p.tables e below (T0.setTop (mkF m 207 #[s0, s1, s2, s3, s4, s5, s6, s7, s8, s9, .val (.int i10), .val (.int i11), .val (.int i12), s13, s14, s15, s16, .val (.ref o17), .val (.ref o18), s19, s20, .val (.int i21)] [])) target := by
  obtain ⟨cq6, kq6, q6a, q6b, q6c⟩ := isOf hZ e0 E_o18
  obtain ⟨_, _, ⟨T6, L6, k6, n6⟩, -, X6, ⟨Lc6, hQ6, l6, y6, z6⟩, st6⟩ := X0.virtualBack hx (y := (⟨"com/example/crossmode/crossmode/search/LabelSet", "get", "(I)Lcom/example/crossmode/crossmode/search/Label;"⟩ : MethodName)) (z := (⟨"com/example/crossmode/crossmode/search/LabelSet", "get", "(I)Lcom/example/crossmode/crossmode/search/Label;"⟩ : MethodName)) hown (mvT hZ (hw _ (List.mem_of_getElem? (i := 48) rfl))) (mvT hZ (hw _ (List.mem_of_getElem? (i := 49) rfl))) (notFace_of_selects (args := #[]) (mvT hZ (hw _ (List.mem_of_getElem? (i := 51) rfl)))) (mvT hZ (hw _ (List.mem_of_getElem? (i := 51) rfl))) (mvT hZ (hw _ (List.mem_of_getElem? (i := 50) rfl))) (by decide) (backOf (W := 0) (own_rm6_null l Z a0 hw [] o18 i12 bl kl ls h0 n0 Z0 Fl Vl hp hg) hZ (hw _ (List.mem_of_getElem? (i := 52) rfl)) (hw _ (List.mem_of_getElem? (i := 7) rfl)) (by decide) (by decide)) q6a q6c (g := (mkF m 230 #[s0, s1, s2, s3, s4, s5, s6, s7, s8, s9, .val (.int i10), .val (.int i11), .val (.int i12), s13, s14, s15, s16, .val (.ref o17), .val (.ref o18), s19, s20, .val (.int i21)] [(.int i12), (.ref o18)])) rfl (by rw [hml]; rfl) (Steps.refl _) (argsL := [(.int i12)]) (rest := []) (lenOf pd_0_6 rfl) rfl (by show 2 * 0 + _ ≤ _; exact Nat.le_of_eq rfl) (hb hby at_230) (fun _ _ => ⟨rfl, e0, hcl, hsl⟩)
  dsimp only [Pt.U, Pt.locs, Pt.cells, Pt.slots] at X6 l6 y6 z6 st6 hQ6
  subst l6 y6 z6
  obtain ⟨rfl, N6q, e6⟩ := hQ6
  have N6 := Fr.app N0 N6q
  obtain ⟨cq7, kq7, q7a, q7b, q7c⟩ := isOf hZ e6 E_o18
  obtain ⟨_, _, ⟨T7, L7, k7, n7⟩, -, X7, ⟨Lc7, hQ7, l7, y7, z7⟩, st7⟩ := X6.virtualBack hx (y := (⟨"com/example/crossmode/crossmode/search/LabelSet", "compare", "(I[J)Lcom/example/crossmode/crossmode/search/Dominance;"⟩ : MethodName)) (z := (⟨"com/example/crossmode/crossmode/search/LabelSet", "compare", "(I[J)Lcom/example/crossmode/crossmode/search/Dominance;"⟩ : MethodName)) hown (mvT hZ (hw _ (List.mem_of_getElem? (i := 53) rfl))) (mvT hZ (hw _ (List.mem_of_getElem? (i := 54) rfl))) (notFace_of_selects (args := #[]) (mvT hZ (hw _ (List.mem_of_getElem? (i := 56) rfl)))) (mvT hZ (hw _ (List.mem_of_getElem? (i := 56) rfl))) (mvT hZ (hw _ (List.mem_of_getElem? (i := 55) rfl))) (by decide) (backOf (W := 0) (own_rm7_1 l Z a0 hw [] o18 i12 o17 bw kw kq vs x0 wS h0 n0 Z0 Fw Vw Vq S_SAME hp v0) hZ (hw _ (List.mem_of_getElem? (i := 57) rfl)) (hw _ (List.mem_of_getElem? (i := 7) rfl)) (by decide) (by decide)) q7a q7c (g := (mkF m 242 #[s0, s1, s2, s3, s4, s5, s6, s7, s8, s9, .val (.int i10), .val (.int i11), .val (.int i12), s13, s14, s15, s16, .val (.ref o17), .val (.ref o18), s19, s20, .val (.int i21)] [(.ref o17), (.int i12), (.ref o18)])) rfl (by rw [hml]; rfl) (Steps.refl _) (argsL := [(.int i12), (.ref o17)]) (rest := []) (lenOf pd_0_7 rfl) rfl (by show 2 * 0 + _ ≤ _; exact Nat.le_of_eq rfl) (hb hby at_242) (fun _ _ => ⟨rfl, e6, hcl, hsl⟩)
  dsimp only [Pt.U, Pt.locs, Pt.cells, Pt.slots] at X7 l7 y7 z7 st7 hQ7
  subst l7 y7 z7
  obtain ⟨rfl, N7q, e7⟩ := hQ7
  have N7 := Fr.app N6 N7q
  obtain ⟨T9, X9, e9, st9⟩ := getS2 X7 hx hZ hown (host := "") (Or.inl (hw _ (List.mem_of_getElem? (i := 61) rfl))) Via.refl e7 S_SAME (g := (mkF m 245 #[s0, s1, s2, s3, s4, s5, s6, s7, s8, s9, .val (.int i10), .val (.int i11), .val (.int i12), s13, s14, s15, s16, .val (.ref o17), .val (.ref o18), s19, s20, .val (.int i21)] [(.ref wS)])) rfl (hb hby at_245)
  refine ⟨T9, _, X9, e9, N7, fun target kt => ?_⟩
  show Steps p.tables e below (T0.setTop (mkF m 207 #[s0, s1, s2, s3, s4, s5, s6, s7, s8, s9, .val (.int i10), .val (.int i11), .val (.int i12), s13, s14, s15, s16, .val (.ref o17), .val (.ref o18), s19, s20, .val (.int i21)] [])) _
  refine XS.iload X0.here hx rfl (hb hby at_207) rfl ?_
  show Steps p.tables e below (T0.setTop (mkF m 209 #[s0, s1, s2, s3, s4, s5, s6, s7, s8, s9, .val (.int i10), .val (.int i11), .val (.int i12), s13, s14, s15, s16, .val (.ref o17), .val (.ref o18), s19, s20, .val (.int i21)] [(.int i12)])) _
  refine XS.iload X0.here hx rfl (hb hby at_209) rfl ?_
  show Steps p.tables e below (T0.setTop (mkF m 211 #[s0, s1, s2, s3, s4, s5, s6, s7, s8, s9, .val (.int i10), .val (.int i11), .val (.int i12), s13, s14, s15, s16, .val (.ref o17), .val (.ref o18), s19, s20, .val (.int i21)] [(.int i10), (.int i12)])) _
  refine XS.icmpNo X0.here hx rfl (hb hby at_211) rfl (feq hc211).1 ?_
  show Steps p.tables e below (T0.setTop (mkF m 214 #[s0, s1, s2, s3, s4, s5, s6, s7, s8, s9, .val (.int i10), .val (.int i11), .val (.int i12), s13, s14, s15, s16, .val (.ref o17), .val (.ref o18), s19, s20, .val (.int i21)] [])) _
  refine XS.iload X0.here hx rfl (hb hby at_214) rfl ?_
  show Steps p.tables e below (T0.setTop (mkF m 216 #[s0, s1, s2, s3, s4, s5, s6, s7, s8, s9, .val (.int i10), .val (.int i11), .val (.int i12), s13, s14, s15, s16, .val (.ref o17), .val (.ref o18), s19, s20, .val (.int i21)] [(.int i12)])) _
  refine XS.iload X0.here hx rfl (hb hby at_216) rfl ?_
  show Steps p.tables e below (T0.setTop (mkF m 218 #[s0, s1, s2, s3, s4, s5, s6, s7, s8, s9, .val (.int i10), .val (.int i11), .val (.int i12), s13, s14, s15, s16, .val (.ref o17), .val (.ref o18), s19, s20, .val (.int i21)] [(.int i11), (.int i12)])) _
  refine XS.icmpNo X0.here hx rfl (hb hby at_218) rfl (feq hc218).1 ?_
  show Steps p.tables e below (T0.setTop (mkF m 221 #[s0, s1, s2, s3, s4, s5, s6, s7, s8, s9, .val (.int i10), .val (.int i11), .val (.int i12), s13, s14, s15, s16, .val (.ref o17), .val (.ref o18), s19, s20, .val (.int i21)] [])) _
  refine XS.iload X0.here hx rfl (hb hby at_221) rfl ?_
  show Steps p.tables e below (T0.setTop (mkF m 223 #[s0, s1, s2, s3, s4, s5, s6, s7, s8, s9, .val (.int i10), .val (.int i11), .val (.int i12), s13, s14, s15, s16, .val (.ref o17), .val (.ref o18), s19, s20, .val (.int i21)] [(.int i21)])) _
  refine XS.ifNo X0.here hx rfl (hb hby at_223) rfl ((if0 _ _).trans (feq hc223).1) ?_
  show Steps p.tables e below (T0.setTop (mkF m 226 #[s0, s1, s2, s3, s4, s5, s6, s7, s8, s9, .val (.int i10), .val (.int i11), .val (.int i12), s13, s14, s15, s16, .val (.ref o17), .val (.ref o18), s19, s20, .val (.int i21)] [])) _
  refine XS.aload X0.here hx rfl (hb hby at_226) rfl rfl ?_
  show Steps p.tables e below (T0.setTop (mkF m 228 #[s0, s1, s2, s3, s4, s5, s6, s7, s8, s9, .val (.int i10), .val (.int i11), .val (.int i12), s13, s14, s15, s16, .val (.ref o17), .val (.ref o18), s19, s20, .val (.int i21)] [(.ref o18)])) _
  refine XS.iload X0.here hx rfl (hb hby at_228) rfl ?_
  show Steps p.tables e below (T0.setTop (mkF m 230 #[s0, s1, s2, s3, s4, s5, s6, s7, s8, s9, .val (.int i10), .val (.int i11), .val (.int i12), s13, s14, s15, s16, .val (.ref o17), .val (.ref o18), s19, s20, .val (.int i21)] [(.int i12), (.ref o18)])) _
  refine st6.trans ?_
  show Steps p.tables e below (T6.setTop (mkF m 233 #[s0, s1, s2, s3, s4, s5, s6, s7, s8, s9, .val (.int i10), .val (.int i11), .val (.int i12), s13, s14, s15, s16, .val (.ref o17), .val (.ref o18), s19, s20, .val (.int i21)] [.null])) _
  refine XS.ifnonnullNo X6.here hx rfl (hb hby at_233) rfl ?_
  show Steps p.tables e below (T6.setTop (mkF m 236 #[s0, s1, s2, s3, s4, s5, s6, s7, s8, s9, .val (.int i10), .val (.int i11), .val (.int i12), s13, s14, s15, s16, .val (.ref o17), .val (.ref o18), s19, s20, .val (.int i21)] [])) _
  refine XS.aload X6.here hx rfl (hb hby at_236) rfl rfl ?_
  show Steps p.tables e below (T6.setTop (mkF m 238 #[s0, s1, s2, s3, s4, s5, s6, s7, s8, s9, .val (.int i10), .val (.int i11), .val (.int i12), s13, s14, s15, s16, .val (.ref o17), .val (.ref o18), s19, s20, .val (.int i21)] [(.ref o18)])) _
  refine XS.iload X6.here hx rfl (hb hby at_238) rfl ?_
  show Steps p.tables e below (T6.setTop (mkF m 240 #[s0, s1, s2, s3, s4, s5, s6, s7, s8, s9, .val (.int i10), .val (.int i11), .val (.int i12), s13, s14, s15, s16, .val (.ref o17), .val (.ref o18), s19, s20, .val (.int i21)] [(.int i12), (.ref o18)])) _
  refine XS.aload X6.here hx rfl (hb hby at_240) rfl rfl ?_
  show Steps p.tables e below (T6.setTop (mkF m 242 #[s0, s1, s2, s3, s4, s5, s6, s7, s8, s9, .val (.int i10), .val (.int i11), .val (.int i12), s13, s14, s15, s16, .val (.ref o17), .val (.ref o18), s19, s20, .val (.int i21)] [(.ref o17), (.int i12), (.ref o18)])) _
  refine st7.trans ?_
  show Steps p.tables e below (T7.setTop (mkF m 245 #[s0, s1, s2, s3, s4, s5, s6, s7, s8, s9, .val (.int i10), .val (.int i11), .val (.int i12), s13, s14, s15, s16, .val (.ref o17), .val (.ref o18), s19, s20, .val (.int i21)] [(.ref wS)])) _
  refine st9 _ ?_
  show Steps p.tables e below (T9.setTop (mkF m 248 #[s0, s1, s2, s3, s4, s5, s6, s7, s8, s9, .val (.int i10), .val (.int i11), .val (.int i12), s13, s14, s15, s16, .val (.ref o17), .val (.ref o18), s19, s20, .val (.int i21)] [(.ref wS), (.ref wS)])) _
  refine Jvm.RoadKit.acmp (g := (mkF m 248 #[s0, s1, s2, s3, s4, s5, s6, s7, s8, s9, .val (.int i10), .val (.int i11), .val (.int i12), s13, s14, s15, s16, .val (.ref o17), .val (.ref o18), s19, s20, .val (.int i21)] [(.ref wS), (.ref wS)])) X9 hx rfl rfl rfl (pc0 := 248) (pc' := 251) (same := true) rfl (hb hby at_248) rfl (decide_eq_true (rfl)) (by decide) (by decide) ?_
  show Steps p.tables e below (T9.setTop (mkF m 251 #[s0, s1, s2, s3, s4, s5, s6, s7, s8, s9, .val (.int i10), .val (.int i11), .val (.int i12), s13, s14, s15, s16, .val (.ref o17), .val (.ref o18), s19, s20, .val (.int i21)] [])) _
  refine XS.iconst X9.here hx rfl (hb hby at_251) ?_
  show Steps p.tables e below (T9.setTop (mkF m 252 #[s0, s1, s2, s3, s4, s5, s6, s7, s8, s9, .val (.int i10), .val (.int i11), .val (.int i12), s13, s14, s15, s16, .val (.ref o17), .val (.ref o18), s19, s20, .val (.int i21)] [(.int (1 : Int32))])) _
  refine XS.goto X9.here hx rfl (pc0 := 252) (pc' := 256) rfl (hb hby at_252) (by decide) (by decide) ?_
  show Steps p.tables e below (T9.setTop (mkF m 256 #[s0, s1, s2, s3, s4, s5, s6, s7, s8, s9, .val (.int i10), .val (.int i11), .val (.int i12), s13, s14, s15, s16, .val (.ref o17), .val (.ref o18), s19, s20, .val (.int i21)] [(.int (1 : Int32))])) _
  refine XS.istore X9.here hx rfl (hb hby at_256) rfl (l' := #[s0, s1, s2, s3, s4, s5, s6, s7, s8, s9, .val (.int i10), .val (.int i11), .val (.int i12), s13, s14, s15, s16, .val (.ref o17), .val (.ref o18), s19, s20, .val (.int (1 : Int32))]) rfl ?_
  exact kt
set_option maxRecDepth 65536 in
set_option maxHeartbeats 40000000 in
theorem own_b2t_1 {p : Program} {l : Launch} {e : Env} {s : State} {m : MethodId} {args : Array Value} {below : List Frame} {meth : Method} {c : Code} {T0 : State} {locs : List Loc} {cells slots : Nat} {Z : State} {a0 : Array Value} {h0 : Heap} (s0 : Slot) (s1 : Slot) (s2 : Slot) (s3 : Slot) (s4 : Slot) (s5 : Slot) (s6 : Slot) (s7 : Slot) (s8 : Slot) (s9 : Slot) (i10 : Int32) (s11 : Slot) (i12 : Int32) (s13 : Slot) (s14 : Slot) (s15 : Slot) (s16 : Slot) (s17 : Slot) (s18 : Slot) (s19 : Slot) (s20 : Slot) (s21 : Slot)
    (n0 : Nat) (X0 : Stand p l e room_1 s m args below meth c T0 locs cells slots) (hx : p.tables.exec = Jvm.exec) (hZ : Z.Warmed39 s.vm) (hw : ∀ d ∈ tables_1, d.before a0 Z = true) (hby : c.code = code) (hml : c.maxLocals = 22) (hown : s.vm.findClass "com/example/crossmode/crossmode/search/LabelSetSetPinLaw" = some m.cls) (e0 : T0.heap = h0) (N0 : Fr n0 locs) (Z0 : n0 ≤ h0.size) (hcl : cells ≤ room_1.cells) (hsl : slots ≤ room_1.slots) (hc211 : i12 = i10) :
    ∃ (T' : State) (L' : List Loc), Stand p l e room_1 s m args below meth c T' L' cells slots ∧ T'.heap = h0 ∧ Fr n0 L' ∧
      ∀ target, Steps p.tables e below (T'.setTop (mkF m 258 #[s0, s1, s2, s3, s4, s5, s6, s7, s8, s9, .val (.int i10), s11, .val (.int i12), s13, s14, s15, s16, s17, s18, s19, s20, s21] [])) target → Steps p.tables e below (T0.setTop (mkF m 207 #[s0, s1, s2, s3, s4, s5, s6, s7, s8, s9, .val (.int i10), s11, .val (.int i12), s13, s14, s15, s16, s17, s18, s19, s20, s21] [])) target := by

  refine ⟨T0, _, X0, e0, N0, fun target kt => ?_⟩
  show Steps p.tables e below (T0.setTop (mkF m 207 #[s0, s1, s2, s3, s4, s5, s6, s7, s8, s9, .val (.int i10), s11, .val (.int i12), s13, s14, s15, s16, s17, s18, s19, s20, s21] [])) _
  refine XS.iload X0.here hx rfl (hb hby at_207) rfl ?_
  show Steps p.tables e below (T0.setTop (mkF m 209 #[s0, s1, s2, s3, s4, s5, s6, s7, s8, s9, .val (.int i10), s11, .val (.int i12), s13, s14, s15, s16, s17, s18, s19, s20, s21] [(.int i12)])) _
  refine XS.iload X0.here hx rfl (hb hby at_209) rfl ?_
  show Steps p.tables e below (T0.setTop (mkF m 211 #[s0, s1, s2, s3, s4, s5, s6, s7, s8, s9, .val (.int i10), s11, .val (.int i12), s13, s14, s15, s16, s17, s18, s19, s20, s21] [(.int i10), (.int i12)])) _
  refine XS.icmpYes X0.here hx rfl (pc0 := 211) (pc' := 258) rfl (hb hby at_211) rfl (teq hc211).1 (by decide) (by decide) ?_
  exact kt
set_option maxRecDepth 65536 in
set_option maxHeartbeats 40000000 in
theorem own_b2g_1 {p : Program} {l : Launch} {e : Env} {s : State} {m : MethodId} {args : Array Value} {below : List Frame} {meth : Method} {c : Code} {T0 : State} {locs : List Loc} {cells slots : Nat} {Z : State} {a0 : Array Value} {h0 : Heap} (s0 : Slot) (s1 : Slot) (s2 : Slot) (s3 : Slot) (s4 : Slot) (s5 : Slot) (s6 : Slot) (s7 : Slot) (s8 : Slot) (s9 : Slot) (i10 : Int32) (i11 : Int32) (i12 : Int32) (s13 : Slot) (s14 : Slot) (s15 : Slot) (s16 : Slot) (s17 : Slot) (s18 : Slot) (s19 : Slot) (s20 : Slot) (s21 : Slot)
    (n0 : Nat) (X0 : Stand p l e room_1 s m args below meth c T0 locs cells slots) (hx : p.tables.exec = Jvm.exec) (hZ : Z.Warmed39 s.vm) (hw : ∀ d ∈ tables_1, d.before a0 Z = true) (hby : c.code = code) (hml : c.maxLocals = 22) (hown : s.vm.findClass "com/example/crossmode/crossmode/search/LabelSetSetPinLaw" = some m.cls) (e0 : T0.heap = h0) (N0 : Fr n0 locs) (Z0 : n0 ≤ h0.size) (hcl : cells ≤ room_1.cells) (hsl : slots ≤ room_1.slots) (hc211 : ¬ (i12 = i10)) (hc218 : i12 = i11) :
    ∃ (T' : State) (L' : List Loc), Stand p l e room_1 s m args below meth c T' L' cells slots ∧ T'.heap = h0 ∧ Fr n0 L' ∧
      ∀ target, Steps p.tables e below (T'.setTop (mkF m 258 #[s0, s1, s2, s3, s4, s5, s6, s7, s8, s9, .val (.int i10), .val (.int i11), .val (.int i12), s13, s14, s15, s16, s17, s18, s19, s20, s21] [])) target → Steps p.tables e below (T0.setTop (mkF m 207 #[s0, s1, s2, s3, s4, s5, s6, s7, s8, s9, .val (.int i10), .val (.int i11), .val (.int i12), s13, s14, s15, s16, s17, s18, s19, s20, s21] [])) target := by

  refine ⟨T0, _, X0, e0, N0, fun target kt => ?_⟩
  show Steps p.tables e below (T0.setTop (mkF m 207 #[s0, s1, s2, s3, s4, s5, s6, s7, s8, s9, .val (.int i10), .val (.int i11), .val (.int i12), s13, s14, s15, s16, s17, s18, s19, s20, s21] [])) _
  refine XS.iload X0.here hx rfl (hb hby at_207) rfl ?_
  show Steps p.tables e below (T0.setTop (mkF m 209 #[s0, s1, s2, s3, s4, s5, s6, s7, s8, s9, .val (.int i10), .val (.int i11), .val (.int i12), s13, s14, s15, s16, s17, s18, s19, s20, s21] [(.int i12)])) _
  refine XS.iload X0.here hx rfl (hb hby at_209) rfl ?_
  show Steps p.tables e below (T0.setTop (mkF m 211 #[s0, s1, s2, s3, s4, s5, s6, s7, s8, s9, .val (.int i10), .val (.int i11), .val (.int i12), s13, s14, s15, s16, s17, s18, s19, s20, s21] [(.int i10), (.int i12)])) _
  refine XS.icmpNo X0.here hx rfl (hb hby at_211) rfl (feq hc211).1 ?_
  show Steps p.tables e below (T0.setTop (mkF m 214 #[s0, s1, s2, s3, s4, s5, s6, s7, s8, s9, .val (.int i10), .val (.int i11), .val (.int i12), s13, s14, s15, s16, s17, s18, s19, s20, s21] [])) _
  refine XS.iload X0.here hx rfl (hb hby at_214) rfl ?_
  show Steps p.tables e below (T0.setTop (mkF m 216 #[s0, s1, s2, s3, s4, s5, s6, s7, s8, s9, .val (.int i10), .val (.int i11), .val (.int i12), s13, s14, s15, s16, s17, s18, s19, s20, s21] [(.int i12)])) _
  refine XS.iload X0.here hx rfl (hb hby at_216) rfl ?_
  show Steps p.tables e below (T0.setTop (mkF m 218 #[s0, s1, s2, s3, s4, s5, s6, s7, s8, s9, .val (.int i10), .val (.int i11), .val (.int i12), s13, s14, s15, s16, s17, s18, s19, s20, s21] [(.int i11), (.int i12)])) _
  refine XS.icmpYes X0.here hx rfl (pc0 := 218) (pc' := 258) rfl (hb hby at_218) rfl (teq hc218).1 (by decide) (by decide) ?_
  exact kt
theorem own_B2_1 {p : Program} {l : Launch} {e : Env} {s : State} {m : MethodId} {args : Array Value} {below : List Frame} {meth : Method} {c : Code} {T0 : State} {locs : List Loc} {cells slots : Nat} {Z : State} {a0 : Array Value} {h0 : Heap} (s0 : Slot) (s1 : Slot) (s2 : Slot) (s3 : Slot) (s4 : Slot) (s5 : Slot) (s6 : Slot) (s7 : Slot) (s8 : Slot) (s9 : Slot) (s13 : Slot) (s14 : Slot) (s15 : Slot) (s16 : Slot) (s19 : Slot) (s20 : Slot) (i10 i11 i12 : Int32) (o17 o18 : Addr) (n0 : Nat) (bl bw : Addr) (kl kw kq : ClassId) (ls vs : List Value) (x0 : Int64) (wS : Addr) (X0 : Stand p l e room_1 s m args below meth c T0 locs cells slots) (hx : p.tables.exec = Jvm.exec) (hZ : Z.Warmed39 s.vm) (hw : ∀ d ∈ tables_1, d.before a0 Z = true) (hby : c.code = code) (hml : c.maxLocals = 22) (hown : s.vm.findClass "com/example/crossmode/crossmode/search/LabelSetSetPinLaw" = some m.cls) (e0 : T0.heap = h0) (N0 : Fr n0 locs) (Z0 : n0 ≤ h0.size) (hcl : cells ≤ room_1.cells) (hsl : slots ≤ room_1.slots) (Fl : Fld Z h0 o18 "com/example/crossmode/crossmode/search/LabelSet" "labels" "[Lcom/example/crossmode/crossmode/search/Label;" (.ref bl)) (Fw : Fld Z h0 o18 "com/example/crossmode/crossmode/search/LabelSet" "weights" "[J" (.ref bw)) (Vl : Arv Z h0 bl kl (.object "com/example/crossmode/crossmode/search/Label") (4 : Int32) ls .null) (Vw : Arv Z h0 bw kw .long ((4 : Int32) * (1 : Int32)) vs (.long (0 : Int64))) (Vq : Arv Z h0 o17 kq .long (1 : Int32) [.long x0] (.long (0 : Int64))) (hp : (i12 = 0 ∨ i12 = 1 ∨ i12 = 2 ∨ i12 = 3)) (hg : ¬ i12 = i10 → ¬ i12 = i11 → ls.getD i12.toNatClampNeg .null = .null) (v0 : ¬ i12 = i10 → ¬ i12 = i11 → vs.getD ((i12 * (1 : Int32)) + (0 : Int32)).toNatClampNeg (.long (0 : Int64)) = .long x0) (E_o18 : Exa Z h0 o18 "com/example/crossmode/crossmode/search/LabelSet") (S_SAME : Sta Z h0 "com/example/crossmode/crossmode/search/Dominance" "SAME" "Lcom/example/crossmode/crossmode/search/Dominance;" (.ref wS)) :
    ∃ (T' : State) (L' : List Loc), Stand p l e room_1 s m args below meth c T' L' cells slots ∧ T'.heap = h0 ∧ Fr n0 L' ∧
      ∀ target, Steps p.tables e below (T'.setTop (mkF m 258 #[s0, s1, s2, s3, s4, s5, s6, s7, s8, s9, .val (.int i10), .val (.int i11), .val (.int i12), s13, s14, s15, s16, .val (.ref o17), .val (.ref o18), s19, s20, .val (.int (1 : Int32))] [])) target → Steps p.tables e below (T0.setTop (mkF m 207 #[s0, s1, s2, s3, s4, s5, s6, s7, s8, s9, .val (.int i10), .val (.int i11), .val (.int i12), s13, s14, s15, s16, .val (.ref o17), .val (.ref o18), s19, s20, .val (.int (1 : Int32))] [])) target := by
  by_cases hki : i12 = i10
  · exact own_b2t_1 (s0) (s1) (s2) (s3) (s4) (s5) (s6) (s7) (s8) (s9) i10 (.val (.int i11)) i12 (s13) (s14) (s15) (s16) (.val (.ref o17)) (.val (.ref o18)) (s19) (s20) (.val (.int (1 : Int32))) n0 X0 hx hZ hw hby hml hown e0 N0 Z0 hcl hsl hki
  by_cases hkj : i12 = i11
  · exact own_b2g_1 (s0) (s1) (s2) (s3) (s4) (s5) (s6) (s7) (s8) (s9) i10 i11 i12 (s13) (s14) (s15) (s16) (.val (.ref o17)) (.val (.ref o18)) (s19) (s20) (.val (.int (1 : Int32))) n0 X0 hx hZ hw hby hml hown e0 N0 Z0 hcl hsl hki hkj
  · exact own_b2f_1 (s0) (s1) (s2) (s3) (s4) (s5) (s6) (s7) (s8) (s9) i10 i11 i12 (s13) (s14) (s15) (s16) o17 o18 (s19) (s20) (1 : Int32) n0 bl bw kl kw kq ls vs x0 wS X0 hx hZ hw hby hml hown e0 N0 Z0 hcl hsl Fl Fw Vl Vw Vq hp (hg hki hkj) (v0 hki hkj) E_o18 S_SAME hki hkj (by decide)
set_option maxRecDepth 65536 in
set_option maxHeartbeats 40000000 in
theorem own_b1f_2 {p : Program} {l : Launch} {e : Env} {s : State} {m : MethodId} {args : Array Value} {below : List Frame} {meth : Method} {c : Code} {T0 : State} {locs : List Loc} {cells slots : Nat} {Z : State} {a0 : Array Value} {h0 : Heap} (s0 : Slot) (s1 : Slot) (s2 : Slot) (s3 : Slot) (s4 : Slot) (s5 : Slot) (s6 : Slot) (s7 : Slot) (s8 : Slot) (s9 : Slot) (i10 : Int32) (i11 : Int32) (s12 : Slot) (s13 : Slot) (s14 : Slot) (o15 : Addr) (s16 : Slot) (s17 : Slot) (o18 : Addr) (o19 : Addr) (s20 : Slot) (i21 : Int32)
    (n0 : Nat) (bl bw : Addr) (kl kw kq : ClassId) (ls vs : List Value) (x0 : Int64) (x1 : Int64) (wS : Addr) (X0 : Stand p l e room_1 s m args below meth c T0 locs cells slots) (hx : p.tables.exec = Jvm.exec) (hZ : Z.Warmed39 s.vm) (hw : ∀ d ∈ tables_1, d.before a0 Z = true) (hby : c.code = code) (hml : c.maxLocals = 22) (hown : s.vm.findClass "com/example/crossmode/crossmode/search/LabelSetSetPinLaw" = some m.cls) (e0 : T0.heap = h0) (N0 : Fr n0 locs) (Z0 : n0 ≤ h0.size) (hcl : cells ≤ room_1.cells) (hsl : slots ≤ room_1.slots) (Fl : Fld Z h0 o18 "com/example/crossmode/crossmode/search/LabelSet" "labels" "[Lcom/example/crossmode/crossmode/search/Label;" (.ref bl)) (Fw : Fld Z h0 o18 "com/example/crossmode/crossmode/search/LabelSet" "weights" "[J" (.ref bw)) (Vl : Arv Z h0 bl kl (.object "com/example/crossmode/crossmode/search/Label") (4 : Int32) ls .null) (Vw : Arv Z h0 bw kw .long ((4 : Int32) * (2 : Int32)) vs (.long (0 : Int64))) (Vq : Arv Z h0 o15 kq .long (2 : Int32) [.long x0, .long x1] (.long (0 : Int64))) (hp : (i10 = 0 ∨ i10 = 1 ∨ i10 = 2 ∨ i10 = 3)) (hg : ls.getD i10.toNatClampNeg .null = .ref o19) (v0 : vs.getD ((i10 * (2 : Int32)) + (0 : Int32)).toNatClampNeg (.long (0 : Int64)) = .long x0) (v1 : vs.getD ((i10 * (2 : Int32)) + ((0 : Int32) + (1 : Int32))).toNatClampNeg (.long (0 : Int64)) = .long x1) (E_o18 : Exa Z h0 o18 "com/example/crossmode/crossmode/search/LabelSet") (S_SAME : Sta Z h0 "com/example/crossmode/crossmode/search/Dominance" "SAME" "Lcom/example/crossmode/crossmode/search/Dominance;" (.ref wS)) (hc165 : ¬ (i10 = i11)) (hc170 : ¬ (i21 = (0 : Int32))) :
    ∃ (T' : State) (L' : List Loc), Stand p l e room_1 s m args below meth c T' L' cells slots ∧ T'.heap = h0 ∧ Fr n0 L' ∧
      ∀ target, Steps p.tables e below (T'.setTop (mkF m 207 #[s0, s1, s2, s3, s4, s5, s6, s7, s8, s9, .val (.int i10), .val (.int i11), s12, s13, s14, .val (.ref o15), s16, s17, .val (.ref o18), .val (.ref o19), s20, .val (.int (1 : Int32))] [])) target → Steps p.tables e below (T0.setTop (mkF m 161 #[s0, s1, s2, s3, s4, s5, s6, s7, s8, s9, .val (.int i10), .val (.int i11), s12, s13, s14, .val (.ref o15), s16, s17, .val (.ref o18), .val (.ref o19), s20, .val (.int i21)] [])) target := by
  obtain ⟨cq6, kq6, q6a, q6b, q6c⟩ := isOf hZ e0 E_o18
  obtain ⟨_, _, ⟨T6, L6, k6, n6⟩, -, X6, ⟨Lc6, hQ6, l6, y6, z6⟩, st6⟩ := X0.virtualBack hx (y := (⟨"com/example/crossmode/crossmode/search/LabelSet", "get", "(I)Lcom/example/crossmode/crossmode/search/Label;"⟩ : MethodName)) (z := (⟨"com/example/crossmode/crossmode/search/LabelSet", "get", "(I)Lcom/example/crossmode/crossmode/search/Label;"⟩ : MethodName)) hown (mvT hZ (hw _ (List.mem_of_getElem? (i := 48) rfl))) (mvT hZ (hw _ (List.mem_of_getElem? (i := 49) rfl))) (notFace_of_selects (args := #[]) (mvT hZ (hw _ (List.mem_of_getElem? (i := 51) rfl)))) (mvT hZ (hw _ (List.mem_of_getElem? (i := 51) rfl))) (mvT hZ (hw _ (List.mem_of_getElem? (i := 50) rfl))) (by decide) (backOf (W := 0) (own_rm6_ref l Z a0 hw [] o18 i10 bl o19 kl ls h0 n0 Z0 Fl Vl hp hg) hZ (hw _ (List.mem_of_getElem? (i := 52) rfl)) (hw _ (List.mem_of_getElem? (i := 7) rfl)) (by decide) (by decide)) q6a q6c (g := (mkF m 177 #[s0, s1, s2, s3, s4, s5, s6, s7, s8, s9, .val (.int i10), .val (.int i11), s12, s13, s14, .val (.ref o15), s16, s17, .val (.ref o18), .val (.ref o19), s20, .val (.int i21)] [(.int i10), (.ref o18)])) rfl (by rw [hml]; rfl) (Steps.refl _) (argsL := [(.int i10)]) (rest := []) (lenOf pd_0_6 rfl) rfl (by show 2 * 0 + _ ≤ _; exact Nat.le_of_eq rfl) (hb hby at_177) (fun _ _ => ⟨rfl, e0, hcl, hsl⟩)
  dsimp only [Pt.U, Pt.locs, Pt.cells, Pt.slots] at X6 l6 y6 z6 st6 hQ6
  subst l6 y6 z6
  obtain ⟨rfl, N6q, e6⟩ := hQ6
  have N6 := Fr.app N0 N6q
  obtain ⟨cq7, kq7, q7a, q7b, q7c⟩ := isOf hZ e6 E_o18
  obtain ⟨_, _, ⟨T7, L7, k7, n7⟩, -, X7, ⟨Lc7, hQ7, l7, y7, z7⟩, st7⟩ := X6.virtualBack hx (y := (⟨"com/example/crossmode/crossmode/search/LabelSet", "compare", "(I[J)Lcom/example/crossmode/crossmode/search/Dominance;"⟩ : MethodName)) (z := (⟨"com/example/crossmode/crossmode/search/LabelSet", "compare", "(I[J)Lcom/example/crossmode/crossmode/search/Dominance;"⟩ : MethodName)) hown (mvT hZ (hw _ (List.mem_of_getElem? (i := 53) rfl))) (mvT hZ (hw _ (List.mem_of_getElem? (i := 54) rfl))) (notFace_of_selects (args := #[]) (mvT hZ (hw _ (List.mem_of_getElem? (i := 56) rfl)))) (mvT hZ (hw _ (List.mem_of_getElem? (i := 56) rfl))) (mvT hZ (hw _ (List.mem_of_getElem? (i := 55) rfl))) (by decide) (backOf (W := 0) (own_rm7_2 l Z a0 hw [] o18 i10 o15 bw kw kq vs x0 x1 wS h0 n0 Z0 Fw Vw Vq S_SAME hp v0 v1) hZ (hw _ (List.mem_of_getElem? (i := 57) rfl)) (hw _ (List.mem_of_getElem? (i := 7) rfl)) (by decide) (by decide)) q7a q7c (g := (mkF m 191 #[s0, s1, s2, s3, s4, s5, s6, s7, s8, s9, .val (.int i10), .val (.int i11), s12, s13, s14, .val (.ref o15), s16, s17, .val (.ref o18), .val (.ref o19), s20, .val (.int i21)] [(.ref o15), (.int i10), (.ref o18)])) rfl (by rw [hml]; rfl) (Steps.refl _) (argsL := [(.int i10), (.ref o15)]) (rest := []) (lenOf pd_0_7 rfl) rfl (by show 2 * 0 + _ ≤ _; exact Nat.le_of_eq rfl) (hb hby at_191) (fun _ _ => ⟨rfl, e6, hcl, hsl⟩)
  dsimp only [Pt.U, Pt.locs, Pt.cells, Pt.slots] at X7 l7 y7 z7 st7 hQ7
  subst l7 y7 z7
  obtain ⟨rfl, N7q, e7⟩ := hQ7
  have N7 := Fr.app N6 N7q
  obtain ⟨T9, X9, e9, st9⟩ := getS2 X7 hx hZ hown (host := "") (Or.inl (hw _ (List.mem_of_getElem? (i := 61) rfl))) Via.refl e7 S_SAME (g := (mkF m 194 #[s0, s1, s2, s3, s4, s5, s6, s7, s8, s9, .val (.int i10), .val (.int i11), s12, s13, s14, .val (.ref o15), s16, s17, .val (.ref o18), .val (.ref o19), s20, .val (.int i21)] [(.ref wS)])) rfl (hb hby at_194)
  refine ⟨T9, _, X9, e9, N7, fun target kt => ?_⟩
  show Steps p.tables e below (T0.setTop (mkF m 161 #[s0, s1, s2, s3, s4, s5, s6, s7, s8, s9, .val (.int i10), .val (.int i11), s12, s13, s14, .val (.ref o15), s16, s17, .val (.ref o18), .val (.ref o19), s20, .val (.int i21)] [])) _
  refine XS.iload X0.here hx rfl (hb hby at_161) rfl ?_
  show Steps p.tables e below (T0.setTop (mkF m 163 #[s0, s1, s2, s3, s4, s5, s6, s7, s8, s9, .val (.int i10), .val (.int i11), s12, s13, s14, .val (.ref o15), s16, s17, .val (.ref o18), .val (.ref o19), s20, .val (.int i21)] [(.int i10)])) _
  refine XS.iload X0.here hx rfl (hb hby at_163) rfl ?_
  show Steps p.tables e below (T0.setTop (mkF m 165 #[s0, s1, s2, s3, s4, s5, s6, s7, s8, s9, .val (.int i10), .val (.int i11), s12, s13, s14, .val (.ref o15), s16, s17, .val (.ref o18), .val (.ref o19), s20, .val (.int i21)] [(.int i11), (.int i10)])) _
  refine XS.icmpNo X0.here hx rfl (hb hby at_165) rfl (feq hc165).1 ?_
  show Steps p.tables e below (T0.setTop (mkF m 168 #[s0, s1, s2, s3, s4, s5, s6, s7, s8, s9, .val (.int i10), .val (.int i11), s12, s13, s14, .val (.ref o15), s16, s17, .val (.ref o18), .val (.ref o19), s20, .val (.int i21)] [])) _
  refine XS.iload X0.here hx rfl (hb hby at_168) rfl ?_
  show Steps p.tables e below (T0.setTop (mkF m 170 #[s0, s1, s2, s3, s4, s5, s6, s7, s8, s9, .val (.int i10), .val (.int i11), s12, s13, s14, .val (.ref o15), s16, s17, .val (.ref o18), .val (.ref o19), s20, .val (.int i21)] [(.int i21)])) _
  refine XS.ifNo X0.here hx rfl (hb hby at_170) rfl ((if0 _ _).trans (feq hc170).1) ?_
  show Steps p.tables e below (T0.setTop (mkF m 173 #[s0, s1, s2, s3, s4, s5, s6, s7, s8, s9, .val (.int i10), .val (.int i11), s12, s13, s14, .val (.ref o15), s16, s17, .val (.ref o18), .val (.ref o19), s20, .val (.int i21)] [])) _
  refine XS.aload X0.here hx rfl (hb hby at_173) rfl rfl ?_
  show Steps p.tables e below (T0.setTop (mkF m 175 #[s0, s1, s2, s3, s4, s5, s6, s7, s8, s9, .val (.int i10), .val (.int i11), s12, s13, s14, .val (.ref o15), s16, s17, .val (.ref o18), .val (.ref o19), s20, .val (.int i21)] [(.ref o18)])) _
  refine XS.iload X0.here hx rfl (hb hby at_175) rfl ?_
  show Steps p.tables e below (T0.setTop (mkF m 177 #[s0, s1, s2, s3, s4, s5, s6, s7, s8, s9, .val (.int i10), .val (.int i11), s12, s13, s14, .val (.ref o15), s16, s17, .val (.ref o18), .val (.ref o19), s20, .val (.int i21)] [(.int i10), (.ref o18)])) _
  refine st6.trans ?_
  show Steps p.tables e below (T6.setTop (mkF m 180 #[s0, s1, s2, s3, s4, s5, s6, s7, s8, s9, .val (.int i10), .val (.int i11), s12, s13, s14, .val (.ref o15), s16, s17, .val (.ref o18), .val (.ref o19), s20, .val (.int i21)] [(.ref o19)])) _
  refine XS.aload X6.here hx rfl (hb hby at_180) rfl rfl ?_
  show Steps p.tables e below (T6.setTop (mkF m 182 #[s0, s1, s2, s3, s4, s5, s6, s7, s8, s9, .val (.int i10), .val (.int i11), s12, s13, s14, .val (.ref o15), s16, s17, .val (.ref o18), .val (.ref o19), s20, .val (.int i21)] [(.ref o19), (.ref o19)])) _
  refine Jvm.RoadKit.acmp (g := (mkF m 182 #[s0, s1, s2, s3, s4, s5, s6, s7, s8, s9, .val (.int i10), .val (.int i11), s12, s13, s14, .val (.ref o15), s16, s17, .val (.ref o18), .val (.ref o19), s20, .val (.int i21)] [(.ref o19), (.ref o19)])) X6 hx rfl rfl rfl (pc0 := 182) (pc' := 185) (same := true) rfl (hb hby at_182) rfl (decide_eq_true rfl) (by decide) (by decide) ?_
  show Steps p.tables e below (T6.setTop (mkF m 185 #[s0, s1, s2, s3, s4, s5, s6, s7, s8, s9, .val (.int i10), .val (.int i11), s12, s13, s14, .val (.ref o15), s16, s17, .val (.ref o18), .val (.ref o19), s20, .val (.int i21)] [])) _
  refine XS.aload X6.here hx rfl (hb hby at_185) rfl rfl ?_
  show Steps p.tables e below (T6.setTop (mkF m 187 #[s0, s1, s2, s3, s4, s5, s6, s7, s8, s9, .val (.int i10), .val (.int i11), s12, s13, s14, .val (.ref o15), s16, s17, .val (.ref o18), .val (.ref o19), s20, .val (.int i21)] [(.ref o18)])) _
  refine XS.iload X6.here hx rfl (hb hby at_187) rfl ?_
  show Steps p.tables e below (T6.setTop (mkF m 189 #[s0, s1, s2, s3, s4, s5, s6, s7, s8, s9, .val (.int i10), .val (.int i11), s12, s13, s14, .val (.ref o15), s16, s17, .val (.ref o18), .val (.ref o19), s20, .val (.int i21)] [(.int i10), (.ref o18)])) _
  refine XS.aload X6.here hx rfl (hb hby at_189) rfl rfl ?_
  show Steps p.tables e below (T6.setTop (mkF m 191 #[s0, s1, s2, s3, s4, s5, s6, s7, s8, s9, .val (.int i10), .val (.int i11), s12, s13, s14, .val (.ref o15), s16, s17, .val (.ref o18), .val (.ref o19), s20, .val (.int i21)] [(.ref o15), (.int i10), (.ref o18)])) _
  refine st7.trans ?_
  show Steps p.tables e below (T7.setTop (mkF m 194 #[s0, s1, s2, s3, s4, s5, s6, s7, s8, s9, .val (.int i10), .val (.int i11), s12, s13, s14, .val (.ref o15), s16, s17, .val (.ref o18), .val (.ref o19), s20, .val (.int i21)] [(.ref wS)])) _
  refine st9 _ ?_
  show Steps p.tables e below (T9.setTop (mkF m 197 #[s0, s1, s2, s3, s4, s5, s6, s7, s8, s9, .val (.int i10), .val (.int i11), s12, s13, s14, .val (.ref o15), s16, s17, .val (.ref o18), .val (.ref o19), s20, .val (.int i21)] [(.ref wS), (.ref wS)])) _
  refine Jvm.RoadKit.acmp (g := (mkF m 197 #[s0, s1, s2, s3, s4, s5, s6, s7, s8, s9, .val (.int i10), .val (.int i11), s12, s13, s14, .val (.ref o15), s16, s17, .val (.ref o18), .val (.ref o19), s20, .val (.int i21)] [(.ref wS), (.ref wS)])) X9 hx rfl rfl rfl (pc0 := 197) (pc' := 200) (same := true) rfl (hb hby at_197) rfl (decide_eq_true (rfl)) (by decide) (by decide) ?_
  show Steps p.tables e below (T9.setTop (mkF m 200 #[s0, s1, s2, s3, s4, s5, s6, s7, s8, s9, .val (.int i10), .val (.int i11), s12, s13, s14, .val (.ref o15), s16, s17, .val (.ref o18), .val (.ref o19), s20, .val (.int i21)] [])) _
  refine XS.iconst X9.here hx rfl (hb hby at_200) ?_
  show Steps p.tables e below (T9.setTop (mkF m 201 #[s0, s1, s2, s3, s4, s5, s6, s7, s8, s9, .val (.int i10), .val (.int i11), s12, s13, s14, .val (.ref o15), s16, s17, .val (.ref o18), .val (.ref o19), s20, .val (.int i21)] [(.int (1 : Int32))])) _
  refine XS.goto X9.here hx rfl (pc0 := 201) (pc' := 205) rfl (hb hby at_201) (by decide) (by decide) ?_
  show Steps p.tables e below (T9.setTop (mkF m 205 #[s0, s1, s2, s3, s4, s5, s6, s7, s8, s9, .val (.int i10), .val (.int i11), s12, s13, s14, .val (.ref o15), s16, s17, .val (.ref o18), .val (.ref o19), s20, .val (.int i21)] [(.int (1 : Int32))])) _
  refine XS.istore X9.here hx rfl (hb hby at_205) rfl (l' := #[s0, s1, s2, s3, s4, s5, s6, s7, s8, s9, .val (.int i10), .val (.int i11), s12, s13, s14, .val (.ref o15), s16, s17, .val (.ref o18), .val (.ref o19), s20, .val (.int (1 : Int32))]) rfl ?_
  exact kt
set_option maxRecDepth 65536 in
set_option maxHeartbeats 40000000 in
theorem own_b1t_2 {p : Program} {l : Launch} {e : Env} {s : State} {m : MethodId} {args : Array Value} {below : List Frame} {meth : Method} {c : Code} {T0 : State} {locs : List Loc} {cells slots : Nat} {Z : State} {a0 : Array Value} {h0 : Heap} (s0 : Slot) (s1 : Slot) (s2 : Slot) (s3 : Slot) (s4 : Slot) (s5 : Slot) (s6 : Slot) (s7 : Slot) (s8 : Slot) (s9 : Slot) (i10 : Int32) (i11 : Int32) (s12 : Slot) (s13 : Slot) (s14 : Slot) (s15 : Slot) (s16 : Slot) (s17 : Slot) (s18 : Slot) (s19 : Slot) (s20 : Slot) (s21 : Slot)
    (n0 : Nat) (X0 : Stand p l e room_1 s m args below meth c T0 locs cells slots) (hx : p.tables.exec = Jvm.exec) (hZ : Z.Warmed39 s.vm) (hw : ∀ d ∈ tables_1, d.before a0 Z = true) (hby : c.code = code) (hml : c.maxLocals = 22) (hown : s.vm.findClass "com/example/crossmode/crossmode/search/LabelSetSetPinLaw" = some m.cls) (e0 : T0.heap = h0) (N0 : Fr n0 locs) (Z0 : n0 ≤ h0.size) (hcl : cells ≤ room_1.cells) (hsl : slots ≤ room_1.slots) (hc165 : i10 = i11) :
    ∃ (T' : State) (L' : List Loc), Stand p l e room_1 s m args below meth c T' L' cells slots ∧ T'.heap = h0 ∧ Fr n0 L' ∧
      ∀ target, Steps p.tables e below (T'.setTop (mkF m 207 #[s0, s1, s2, s3, s4, s5, s6, s7, s8, s9, .val (.int i10), .val (.int i11), s12, s13, s14, s15, s16, s17, s18, s19, s20, s21] [])) target → Steps p.tables e below (T0.setTop (mkF m 161 #[s0, s1, s2, s3, s4, s5, s6, s7, s8, s9, .val (.int i10), .val (.int i11), s12, s13, s14, s15, s16, s17, s18, s19, s20, s21] [])) target := by

  refine ⟨T0, _, X0, e0, N0, fun target kt => ?_⟩
  show Steps p.tables e below (T0.setTop (mkF m 161 #[s0, s1, s2, s3, s4, s5, s6, s7, s8, s9, .val (.int i10), .val (.int i11), s12, s13, s14, s15, s16, s17, s18, s19, s20, s21] [])) _
  refine XS.iload X0.here hx rfl (hb hby at_161) rfl ?_
  show Steps p.tables e below (T0.setTop (mkF m 163 #[s0, s1, s2, s3, s4, s5, s6, s7, s8, s9, .val (.int i10), .val (.int i11), s12, s13, s14, s15, s16, s17, s18, s19, s20, s21] [(.int i10)])) _
  refine XS.iload X0.here hx rfl (hb hby at_163) rfl ?_
  show Steps p.tables e below (T0.setTop (mkF m 165 #[s0, s1, s2, s3, s4, s5, s6, s7, s8, s9, .val (.int i10), .val (.int i11), s12, s13, s14, s15, s16, s17, s18, s19, s20, s21] [(.int i11), (.int i10)])) _
  refine XS.icmpYes X0.here hx rfl (pc0 := 165) (pc' := 207) rfl (hb hby at_165) rfl (teq hc165).1 (by decide) (by decide) ?_
  exact kt
theorem own_B1_2 {p : Program} {l : Launch} {e : Env} {s : State} {m : MethodId} {args : Array Value} {below : List Frame} {meth : Method} {c : Code} {T0 : State} {locs : List Loc} {cells slots : Nat} {Z : State} {a0 : Array Value} {h0 : Heap} (s0 : Slot) (s1 : Slot) (s2 : Slot) (s3 : Slot) (s4 : Slot) (s5 : Slot) (s6 : Slot) (s7 : Slot) (s8 : Slot) (s9 : Slot) (s12 : Slot) (s13 : Slot) (s14 : Slot) (s16 : Slot) (s17 : Slot) (s20 : Slot) (i10 i11 : Int32) (o15 o18 o19 : Addr) (n0 : Nat) (bl bw : Addr) (kl kw kq : ClassId) (ls vs : List Value) (x0 : Int64) (x1 : Int64) (wS : Addr) (X0 : Stand p l e room_1 s m args below meth c T0 locs cells slots) (hx : p.tables.exec = Jvm.exec) (hZ : Z.Warmed39 s.vm) (hw : ∀ d ∈ tables_1, d.before a0 Z = true) (hby : c.code = code) (hml : c.maxLocals = 22) (hown : s.vm.findClass "com/example/crossmode/crossmode/search/LabelSetSetPinLaw" = some m.cls) (e0 : T0.heap = h0) (N0 : Fr n0 locs) (Z0 : n0 ≤ h0.size) (hcl : cells ≤ room_1.cells) (hsl : slots ≤ room_1.slots) (Fl : Fld Z h0 o18 "com/example/crossmode/crossmode/search/LabelSet" "labels" "[Lcom/example/crossmode/crossmode/search/Label;" (.ref bl)) (Fw : Fld Z h0 o18 "com/example/crossmode/crossmode/search/LabelSet" "weights" "[J" (.ref bw)) (Vl : Arv Z h0 bl kl (.object "com/example/crossmode/crossmode/search/Label") (4 : Int32) ls .null) (Vw : Arv Z h0 bw kw .long ((4 : Int32) * (2 : Int32)) vs (.long (0 : Int64))) (Vq : Arv Z h0 o15 kq .long (2 : Int32) [.long x0, .long x1] (.long (0 : Int64))) (hp : (i10 = 0 ∨ i10 = 1 ∨ i10 = 2 ∨ i10 = 3)) (hg : ¬ i10 = i11 → ls.getD i10.toNatClampNeg .null = .ref o19) (v0 : ¬ i10 = i11 → vs.getD ((i10 * (2 : Int32)) + (0 : Int32)).toNatClampNeg (.long (0 : Int64)) = .long x0) (v1 : ¬ i10 = i11 → vs.getD ((i10 * (2 : Int32)) + ((0 : Int32) + (1 : Int32))).toNatClampNeg (.long (0 : Int64)) = .long x1) (E_o18 : Exa Z h0 o18 "com/example/crossmode/crossmode/search/LabelSet") (S_SAME : Sta Z h0 "com/example/crossmode/crossmode/search/Dominance" "SAME" "Lcom/example/crossmode/crossmode/search/Dominance;" (.ref wS)) :
    ∃ (T' : State) (L' : List Loc), Stand p l e room_1 s m args below meth c T' L' cells slots ∧ T'.heap = h0 ∧ Fr n0 L' ∧
      ∀ target, Steps p.tables e below (T'.setTop (mkF m 207 #[s0, s1, s2, s3, s4, s5, s6, s7, s8, s9, .val (.int i10), .val (.int i11), s12, s13, s14, .val (.ref o15), s16, s17, .val (.ref o18), .val (.ref o19), s20, .val (.int (1 : Int32))] [])) target → Steps p.tables e below (T0.setTop (mkF m 161 #[s0, s1, s2, s3, s4, s5, s6, s7, s8, s9, .val (.int i10), .val (.int i11), s12, s13, s14, .val (.ref o15), s16, s17, .val (.ref o18), .val (.ref o19), s20, .val (.int (1 : Int32))] [])) target := by
  by_cases hij : i10 = i11
  · exact own_b1t_2 (s0) (s1) (s2) (s3) (s4) (s5) (s6) (s7) (s8) (s9) i10 i11 (s12) (s13) (s14) (.val (.ref o15)) (s16) (s17) (.val (.ref o18)) (.val (.ref o19)) (s20) (.val (.int (1 : Int32))) n0 X0 hx hZ hw hby hml hown e0 N0 Z0 hcl hsl hij
  · exact own_b1f_2 (s0) (s1) (s2) (s3) (s4) (s5) (s6) (s7) (s8) (s9) i10 i11 (s12) (s13) (s14) o15 (s16) (s17) o18 o19 (s20) (1 : Int32) n0 bl bw kl kw kq ls vs x0 x1 wS X0 hx hZ hw hby hml hown e0 N0 Z0 hcl hsl Fl Fw Vl Vw Vq hp (hg hij) (v0 hij) (v1 hij) E_o18 S_SAME hij (by decide)
set_option maxRecDepth 65536 in
set_option maxHeartbeats 40000000 in
theorem own_b2f_2 {p : Program} {l : Launch} {e : Env} {s : State} {m : MethodId} {args : Array Value} {below : List Frame} {meth : Method} {c : Code} {T0 : State} {locs : List Loc} {cells slots : Nat} {Z : State} {a0 : Array Value} {h0 : Heap} (s0 : Slot) (s1 : Slot) (s2 : Slot) (s3 : Slot) (s4 : Slot) (s5 : Slot) (s6 : Slot) (s7 : Slot) (s8 : Slot) (s9 : Slot) (i10 : Int32) (i11 : Int32) (i12 : Int32) (s13 : Slot) (s14 : Slot) (s15 : Slot) (s16 : Slot) (o17 : Addr) (o18 : Addr) (s19 : Slot) (s20 : Slot) (i21 : Int32)
    (n0 : Nat) (bl bw : Addr) (kl kw kq : ClassId) (ls vs : List Value) (x0 : Int64) (x1 : Int64) (wS : Addr) (X0 : Stand p l e room_1 s m args below meth c T0 locs cells slots) (hx : p.tables.exec = Jvm.exec) (hZ : Z.Warmed39 s.vm) (hw : ∀ d ∈ tables_1, d.before a0 Z = true) (hby : c.code = code) (hml : c.maxLocals = 22) (hown : s.vm.findClass "com/example/crossmode/crossmode/search/LabelSetSetPinLaw" = some m.cls) (e0 : T0.heap = h0) (N0 : Fr n0 locs) (Z0 : n0 ≤ h0.size) (hcl : cells ≤ room_1.cells) (hsl : slots ≤ room_1.slots) (Fl : Fld Z h0 o18 "com/example/crossmode/crossmode/search/LabelSet" "labels" "[Lcom/example/crossmode/crossmode/search/Label;" (.ref bl)) (Fw : Fld Z h0 o18 "com/example/crossmode/crossmode/search/LabelSet" "weights" "[J" (.ref bw)) (Vl : Arv Z h0 bl kl (.object "com/example/crossmode/crossmode/search/Label") (4 : Int32) ls .null) (Vw : Arv Z h0 bw kw .long ((4 : Int32) * (2 : Int32)) vs (.long (0 : Int64))) (Vq : Arv Z h0 o17 kq .long (2 : Int32) [.long x0, .long x1] (.long (0 : Int64))) (hp : (i12 = 0 ∨ i12 = 1 ∨ i12 = 2 ∨ i12 = 3)) (hg : ls.getD i12.toNatClampNeg .null = .null) (v0 : vs.getD ((i12 * (2 : Int32)) + (0 : Int32)).toNatClampNeg (.long (0 : Int64)) = .long x0) (v1 : vs.getD ((i12 * (2 : Int32)) + ((0 : Int32) + (1 : Int32))).toNatClampNeg (.long (0 : Int64)) = .long x1) (E_o18 : Exa Z h0 o18 "com/example/crossmode/crossmode/search/LabelSet") (S_SAME : Sta Z h0 "com/example/crossmode/crossmode/search/Dominance" "SAME" "Lcom/example/crossmode/crossmode/search/Dominance;" (.ref wS)) (hc211 : ¬ (i12 = i10)) (hc218 : ¬ (i12 = i11)) (hc223 : ¬ (i21 = (0 : Int32))) :
    ∃ (T' : State) (L' : List Loc), Stand p l e room_1 s m args below meth c T' L' cells slots ∧ T'.heap = h0 ∧ Fr n0 L' ∧
      ∀ target, Steps p.tables e below (T'.setTop (mkF m 258 #[s0, s1, s2, s3, s4, s5, s6, s7, s8, s9, .val (.int i10), .val (.int i11), .val (.int i12), s13, s14, s15, s16, .val (.ref o17), .val (.ref o18), s19, s20, .val (.int (1 : Int32))] [])) target → Steps p.tables e below (T0.setTop (mkF m 207 #[s0, s1, s2, s3, s4, s5, s6, s7, s8, s9, .val (.int i10), .val (.int i11), .val (.int i12), s13, s14, s15, s16, .val (.ref o17), .val (.ref o18), s19, s20, .val (.int i21)] [])) target := by
  obtain ⟨cq6, kq6, q6a, q6b, q6c⟩ := isOf hZ e0 E_o18
  obtain ⟨_, _, ⟨T6, L6, k6, n6⟩, -, X6, ⟨Lc6, hQ6, l6, y6, z6⟩, st6⟩ := X0.virtualBack hx (y := (⟨"com/example/crossmode/crossmode/search/LabelSet", "get", "(I)Lcom/example/crossmode/crossmode/search/Label;"⟩ : MethodName)) (z := (⟨"com/example/crossmode/crossmode/search/LabelSet", "get", "(I)Lcom/example/crossmode/crossmode/search/Label;"⟩ : MethodName)) hown (mvT hZ (hw _ (List.mem_of_getElem? (i := 48) rfl))) (mvT hZ (hw _ (List.mem_of_getElem? (i := 49) rfl))) (notFace_of_selects (args := #[]) (mvT hZ (hw _ (List.mem_of_getElem? (i := 51) rfl)))) (mvT hZ (hw _ (List.mem_of_getElem? (i := 51) rfl))) (mvT hZ (hw _ (List.mem_of_getElem? (i := 50) rfl))) (by decide) (backOf (W := 0) (own_rm6_null l Z a0 hw [] o18 i12 bl kl ls h0 n0 Z0 Fl Vl hp hg) hZ (hw _ (List.mem_of_getElem? (i := 52) rfl)) (hw _ (List.mem_of_getElem? (i := 7) rfl)) (by decide) (by decide)) q6a q6c (g := (mkF m 230 #[s0, s1, s2, s3, s4, s5, s6, s7, s8, s9, .val (.int i10), .val (.int i11), .val (.int i12), s13, s14, s15, s16, .val (.ref o17), .val (.ref o18), s19, s20, .val (.int i21)] [(.int i12), (.ref o18)])) rfl (by rw [hml]; rfl) (Steps.refl _) (argsL := [(.int i12)]) (rest := []) (lenOf pd_0_6 rfl) rfl (by show 2 * 0 + _ ≤ _; exact Nat.le_of_eq rfl) (hb hby at_230) (fun _ _ => ⟨rfl, e0, hcl, hsl⟩)
  dsimp only [Pt.U, Pt.locs, Pt.cells, Pt.slots] at X6 l6 y6 z6 st6 hQ6
  subst l6 y6 z6
  obtain ⟨rfl, N6q, e6⟩ := hQ6
  have N6 := Fr.app N0 N6q
  obtain ⟨cq7, kq7, q7a, q7b, q7c⟩ := isOf hZ e6 E_o18
  obtain ⟨_, _, ⟨T7, L7, k7, n7⟩, -, X7, ⟨Lc7, hQ7, l7, y7, z7⟩, st7⟩ := X6.virtualBack hx (y := (⟨"com/example/crossmode/crossmode/search/LabelSet", "compare", "(I[J)Lcom/example/crossmode/crossmode/search/Dominance;"⟩ : MethodName)) (z := (⟨"com/example/crossmode/crossmode/search/LabelSet", "compare", "(I[J)Lcom/example/crossmode/crossmode/search/Dominance;"⟩ : MethodName)) hown (mvT hZ (hw _ (List.mem_of_getElem? (i := 53) rfl))) (mvT hZ (hw _ (List.mem_of_getElem? (i := 54) rfl))) (notFace_of_selects (args := #[]) (mvT hZ (hw _ (List.mem_of_getElem? (i := 56) rfl)))) (mvT hZ (hw _ (List.mem_of_getElem? (i := 56) rfl))) (mvT hZ (hw _ (List.mem_of_getElem? (i := 55) rfl))) (by decide) (backOf (W := 0) (own_rm7_2 l Z a0 hw [] o18 i12 o17 bw kw kq vs x0 x1 wS h0 n0 Z0 Fw Vw Vq S_SAME hp v0 v1) hZ (hw _ (List.mem_of_getElem? (i := 57) rfl)) (hw _ (List.mem_of_getElem? (i := 7) rfl)) (by decide) (by decide)) q7a q7c (g := (mkF m 242 #[s0, s1, s2, s3, s4, s5, s6, s7, s8, s9, .val (.int i10), .val (.int i11), .val (.int i12), s13, s14, s15, s16, .val (.ref o17), .val (.ref o18), s19, s20, .val (.int i21)] [(.ref o17), (.int i12), (.ref o18)])) rfl (by rw [hml]; rfl) (Steps.refl _) (argsL := [(.int i12), (.ref o17)]) (rest := []) (lenOf pd_0_7 rfl) rfl (by show 2 * 0 + _ ≤ _; exact Nat.le_of_eq rfl) (hb hby at_242) (fun _ _ => ⟨rfl, e6, hcl, hsl⟩)
  dsimp only [Pt.U, Pt.locs, Pt.cells, Pt.slots] at X7 l7 y7 z7 st7 hQ7
  subst l7 y7 z7
  obtain ⟨rfl, N7q, e7⟩ := hQ7
  have N7 := Fr.app N6 N7q
  obtain ⟨T9, X9, e9, st9⟩ := getS2 X7 hx hZ hown (host := "") (Or.inl (hw _ (List.mem_of_getElem? (i := 61) rfl))) Via.refl e7 S_SAME (g := (mkF m 245 #[s0, s1, s2, s3, s4, s5, s6, s7, s8, s9, .val (.int i10), .val (.int i11), .val (.int i12), s13, s14, s15, s16, .val (.ref o17), .val (.ref o18), s19, s20, .val (.int i21)] [(.ref wS)])) rfl (hb hby at_245)
  refine ⟨T9, _, X9, e9, N7, fun target kt => ?_⟩
  show Steps p.tables e below (T0.setTop (mkF m 207 #[s0, s1, s2, s3, s4, s5, s6, s7, s8, s9, .val (.int i10), .val (.int i11), .val (.int i12), s13, s14, s15, s16, .val (.ref o17), .val (.ref o18), s19, s20, .val (.int i21)] [])) _
  refine XS.iload X0.here hx rfl (hb hby at_207) rfl ?_
  show Steps p.tables e below (T0.setTop (mkF m 209 #[s0, s1, s2, s3, s4, s5, s6, s7, s8, s9, .val (.int i10), .val (.int i11), .val (.int i12), s13, s14, s15, s16, .val (.ref o17), .val (.ref o18), s19, s20, .val (.int i21)] [(.int i12)])) _
  refine XS.iload X0.here hx rfl (hb hby at_209) rfl ?_
  show Steps p.tables e below (T0.setTop (mkF m 211 #[s0, s1, s2, s3, s4, s5, s6, s7, s8, s9, .val (.int i10), .val (.int i11), .val (.int i12), s13, s14, s15, s16, .val (.ref o17), .val (.ref o18), s19, s20, .val (.int i21)] [(.int i10), (.int i12)])) _
  refine XS.icmpNo X0.here hx rfl (hb hby at_211) rfl (feq hc211).1 ?_
  show Steps p.tables e below (T0.setTop (mkF m 214 #[s0, s1, s2, s3, s4, s5, s6, s7, s8, s9, .val (.int i10), .val (.int i11), .val (.int i12), s13, s14, s15, s16, .val (.ref o17), .val (.ref o18), s19, s20, .val (.int i21)] [])) _
  refine XS.iload X0.here hx rfl (hb hby at_214) rfl ?_
  show Steps p.tables e below (T0.setTop (mkF m 216 #[s0, s1, s2, s3, s4, s5, s6, s7, s8, s9, .val (.int i10), .val (.int i11), .val (.int i12), s13, s14, s15, s16, .val (.ref o17), .val (.ref o18), s19, s20, .val (.int i21)] [(.int i12)])) _
  refine XS.iload X0.here hx rfl (hb hby at_216) rfl ?_
  show Steps p.tables e below (T0.setTop (mkF m 218 #[s0, s1, s2, s3, s4, s5, s6, s7, s8, s9, .val (.int i10), .val (.int i11), .val (.int i12), s13, s14, s15, s16, .val (.ref o17), .val (.ref o18), s19, s20, .val (.int i21)] [(.int i11), (.int i12)])) _
  refine XS.icmpNo X0.here hx rfl (hb hby at_218) rfl (feq hc218).1 ?_
  show Steps p.tables e below (T0.setTop (mkF m 221 #[s0, s1, s2, s3, s4, s5, s6, s7, s8, s9, .val (.int i10), .val (.int i11), .val (.int i12), s13, s14, s15, s16, .val (.ref o17), .val (.ref o18), s19, s20, .val (.int i21)] [])) _
  refine XS.iload X0.here hx rfl (hb hby at_221) rfl ?_
  show Steps p.tables e below (T0.setTop (mkF m 223 #[s0, s1, s2, s3, s4, s5, s6, s7, s8, s9, .val (.int i10), .val (.int i11), .val (.int i12), s13, s14, s15, s16, .val (.ref o17), .val (.ref o18), s19, s20, .val (.int i21)] [(.int i21)])) _
  refine XS.ifNo X0.here hx rfl (hb hby at_223) rfl ((if0 _ _).trans (feq hc223).1) ?_
  show Steps p.tables e below (T0.setTop (mkF m 226 #[s0, s1, s2, s3, s4, s5, s6, s7, s8, s9, .val (.int i10), .val (.int i11), .val (.int i12), s13, s14, s15, s16, .val (.ref o17), .val (.ref o18), s19, s20, .val (.int i21)] [])) _
  refine XS.aload X0.here hx rfl (hb hby at_226) rfl rfl ?_
  show Steps p.tables e below (T0.setTop (mkF m 228 #[s0, s1, s2, s3, s4, s5, s6, s7, s8, s9, .val (.int i10), .val (.int i11), .val (.int i12), s13, s14, s15, s16, .val (.ref o17), .val (.ref o18), s19, s20, .val (.int i21)] [(.ref o18)])) _
  refine XS.iload X0.here hx rfl (hb hby at_228) rfl ?_
  show Steps p.tables e below (T0.setTop (mkF m 230 #[s0, s1, s2, s3, s4, s5, s6, s7, s8, s9, .val (.int i10), .val (.int i11), .val (.int i12), s13, s14, s15, s16, .val (.ref o17), .val (.ref o18), s19, s20, .val (.int i21)] [(.int i12), (.ref o18)])) _
  refine st6.trans ?_
  show Steps p.tables e below (T6.setTop (mkF m 233 #[s0, s1, s2, s3, s4, s5, s6, s7, s8, s9, .val (.int i10), .val (.int i11), .val (.int i12), s13, s14, s15, s16, .val (.ref o17), .val (.ref o18), s19, s20, .val (.int i21)] [.null])) _
  refine XS.ifnonnullNo X6.here hx rfl (hb hby at_233) rfl ?_
  show Steps p.tables e below (T6.setTop (mkF m 236 #[s0, s1, s2, s3, s4, s5, s6, s7, s8, s9, .val (.int i10), .val (.int i11), .val (.int i12), s13, s14, s15, s16, .val (.ref o17), .val (.ref o18), s19, s20, .val (.int i21)] [])) _
  refine XS.aload X6.here hx rfl (hb hby at_236) rfl rfl ?_
  show Steps p.tables e below (T6.setTop (mkF m 238 #[s0, s1, s2, s3, s4, s5, s6, s7, s8, s9, .val (.int i10), .val (.int i11), .val (.int i12), s13, s14, s15, s16, .val (.ref o17), .val (.ref o18), s19, s20, .val (.int i21)] [(.ref o18)])) _
  refine XS.iload X6.here hx rfl (hb hby at_238) rfl ?_
  show Steps p.tables e below (T6.setTop (mkF m 240 #[s0, s1, s2, s3, s4, s5, s6, s7, s8, s9, .val (.int i10), .val (.int i11), .val (.int i12), s13, s14, s15, s16, .val (.ref o17), .val (.ref o18), s19, s20, .val (.int i21)] [(.int i12), (.ref o18)])) _
  refine XS.aload X6.here hx rfl (hb hby at_240) rfl rfl ?_
  show Steps p.tables e below (T6.setTop (mkF m 242 #[s0, s1, s2, s3, s4, s5, s6, s7, s8, s9, .val (.int i10), .val (.int i11), .val (.int i12), s13, s14, s15, s16, .val (.ref o17), .val (.ref o18), s19, s20, .val (.int i21)] [(.ref o17), (.int i12), (.ref o18)])) _
  refine st7.trans ?_
  show Steps p.tables e below (T7.setTop (mkF m 245 #[s0, s1, s2, s3, s4, s5, s6, s7, s8, s9, .val (.int i10), .val (.int i11), .val (.int i12), s13, s14, s15, s16, .val (.ref o17), .val (.ref o18), s19, s20, .val (.int i21)] [(.ref wS)])) _
  refine st9 _ ?_
  show Steps p.tables e below (T9.setTop (mkF m 248 #[s0, s1, s2, s3, s4, s5, s6, s7, s8, s9, .val (.int i10), .val (.int i11), .val (.int i12), s13, s14, s15, s16, .val (.ref o17), .val (.ref o18), s19, s20, .val (.int i21)] [(.ref wS), (.ref wS)])) _
  refine Jvm.RoadKit.acmp (g := (mkF m 248 #[s0, s1, s2, s3, s4, s5, s6, s7, s8, s9, .val (.int i10), .val (.int i11), .val (.int i12), s13, s14, s15, s16, .val (.ref o17), .val (.ref o18), s19, s20, .val (.int i21)] [(.ref wS), (.ref wS)])) X9 hx rfl rfl rfl (pc0 := 248) (pc' := 251) (same := true) rfl (hb hby at_248) rfl (decide_eq_true (rfl)) (by decide) (by decide) ?_
  show Steps p.tables e below (T9.setTop (mkF m 251 #[s0, s1, s2, s3, s4, s5, s6, s7, s8, s9, .val (.int i10), .val (.int i11), .val (.int i12), s13, s14, s15, s16, .val (.ref o17), .val (.ref o18), s19, s20, .val (.int i21)] [])) _
  refine XS.iconst X9.here hx rfl (hb hby at_251) ?_
  show Steps p.tables e below (T9.setTop (mkF m 252 #[s0, s1, s2, s3, s4, s5, s6, s7, s8, s9, .val (.int i10), .val (.int i11), .val (.int i12), s13, s14, s15, s16, .val (.ref o17), .val (.ref o18), s19, s20, .val (.int i21)] [(.int (1 : Int32))])) _
  refine XS.goto X9.here hx rfl (pc0 := 252) (pc' := 256) rfl (hb hby at_252) (by decide) (by decide) ?_
  show Steps p.tables e below (T9.setTop (mkF m 256 #[s0, s1, s2, s3, s4, s5, s6, s7, s8, s9, .val (.int i10), .val (.int i11), .val (.int i12), s13, s14, s15, s16, .val (.ref o17), .val (.ref o18), s19, s20, .val (.int i21)] [(.int (1 : Int32))])) _
  refine XS.istore X9.here hx rfl (hb hby at_256) rfl (l' := #[s0, s1, s2, s3, s4, s5, s6, s7, s8, s9, .val (.int i10), .val (.int i11), .val (.int i12), s13, s14, s15, s16, .val (.ref o17), .val (.ref o18), s19, s20, .val (.int (1 : Int32))]) rfl ?_
  exact kt
set_option maxRecDepth 65536 in
set_option maxHeartbeats 40000000 in
theorem own_b2t_2 {p : Program} {l : Launch} {e : Env} {s : State} {m : MethodId} {args : Array Value} {below : List Frame} {meth : Method} {c : Code} {T0 : State} {locs : List Loc} {cells slots : Nat} {Z : State} {a0 : Array Value} {h0 : Heap} (s0 : Slot) (s1 : Slot) (s2 : Slot) (s3 : Slot) (s4 : Slot) (s5 : Slot) (s6 : Slot) (s7 : Slot) (s8 : Slot) (s9 : Slot) (i10 : Int32) (s11 : Slot) (i12 : Int32) (s13 : Slot) (s14 : Slot) (s15 : Slot) (s16 : Slot) (s17 : Slot) (s18 : Slot) (s19 : Slot) (s20 : Slot) (s21 : Slot)
    (n0 : Nat) (X0 : Stand p l e room_1 s m args below meth c T0 locs cells slots) (hx : p.tables.exec = Jvm.exec) (hZ : Z.Warmed39 s.vm) (hw : ∀ d ∈ tables_1, d.before a0 Z = true) (hby : c.code = code) (hml : c.maxLocals = 22) (hown : s.vm.findClass "com/example/crossmode/crossmode/search/LabelSetSetPinLaw" = some m.cls) (e0 : T0.heap = h0) (N0 : Fr n0 locs) (Z0 : n0 ≤ h0.size) (hcl : cells ≤ room_1.cells) (hsl : slots ≤ room_1.slots) (hc211 : i12 = i10) :
    ∃ (T' : State) (L' : List Loc), Stand p l e room_1 s m args below meth c T' L' cells slots ∧ T'.heap = h0 ∧ Fr n0 L' ∧
      ∀ target, Steps p.tables e below (T'.setTop (mkF m 258 #[s0, s1, s2, s3, s4, s5, s6, s7, s8, s9, .val (.int i10), s11, .val (.int i12), s13, s14, s15, s16, s17, s18, s19, s20, s21] [])) target → Steps p.tables e below (T0.setTop (mkF m 207 #[s0, s1, s2, s3, s4, s5, s6, s7, s8, s9, .val (.int i10), s11, .val (.int i12), s13, s14, s15, s16, s17, s18, s19, s20, s21] [])) target := by

  refine ⟨T0, _, X0, e0, N0, fun target kt => ?_⟩
  show Steps p.tables e below (T0.setTop (mkF m 207 #[s0, s1, s2, s3, s4, s5, s6, s7, s8, s9, .val (.int i10), s11, .val (.int i12), s13, s14, s15, s16, s17, s18, s19, s20, s21] [])) _
  refine XS.iload X0.here hx rfl (hb hby at_207) rfl ?_
  show Steps p.tables e below (T0.setTop (mkF m 209 #[s0, s1, s2, s3, s4, s5, s6, s7, s8, s9, .val (.int i10), s11, .val (.int i12), s13, s14, s15, s16, s17, s18, s19, s20, s21] [(.int i12)])) _
  refine XS.iload X0.here hx rfl (hb hby at_209) rfl ?_
  show Steps p.tables e below (T0.setTop (mkF m 211 #[s0, s1, s2, s3, s4, s5, s6, s7, s8, s9, .val (.int i10), s11, .val (.int i12), s13, s14, s15, s16, s17, s18, s19, s20, s21] [(.int i10), (.int i12)])) _
  refine XS.icmpYes X0.here hx rfl (pc0 := 211) (pc' := 258) rfl (hb hby at_211) rfl (teq hc211).1 (by decide) (by decide) ?_
  exact kt
set_option maxRecDepth 65536 in
set_option maxHeartbeats 40000000 in
theorem own_b2g_2 {p : Program} {l : Launch} {e : Env} {s : State} {m : MethodId} {args : Array Value} {below : List Frame} {meth : Method} {c : Code} {T0 : State} {locs : List Loc} {cells slots : Nat} {Z : State} {a0 : Array Value} {h0 : Heap} (s0 : Slot) (s1 : Slot) (s2 : Slot) (s3 : Slot) (s4 : Slot) (s5 : Slot) (s6 : Slot) (s7 : Slot) (s8 : Slot) (s9 : Slot) (i10 : Int32) (i11 : Int32) (i12 : Int32) (s13 : Slot) (s14 : Slot) (s15 : Slot) (s16 : Slot) (s17 : Slot) (s18 : Slot) (s19 : Slot) (s20 : Slot) (s21 : Slot)
    (n0 : Nat) (X0 : Stand p l e room_1 s m args below meth c T0 locs cells slots) (hx : p.tables.exec = Jvm.exec) (hZ : Z.Warmed39 s.vm) (hw : ∀ d ∈ tables_1, d.before a0 Z = true) (hby : c.code = code) (hml : c.maxLocals = 22) (hown : s.vm.findClass "com/example/crossmode/crossmode/search/LabelSetSetPinLaw" = some m.cls) (e0 : T0.heap = h0) (N0 : Fr n0 locs) (Z0 : n0 ≤ h0.size) (hcl : cells ≤ room_1.cells) (hsl : slots ≤ room_1.slots) (hc211 : ¬ (i12 = i10)) (hc218 : i12 = i11) :
    ∃ (T' : State) (L' : List Loc), Stand p l e room_1 s m args below meth c T' L' cells slots ∧ T'.heap = h0 ∧ Fr n0 L' ∧
      ∀ target, Steps p.tables e below (T'.setTop (mkF m 258 #[s0, s1, s2, s3, s4, s5, s6, s7, s8, s9, .val (.int i10), .val (.int i11), .val (.int i12), s13, s14, s15, s16, s17, s18, s19, s20, s21] [])) target → Steps p.tables e below (T0.setTop (mkF m 207 #[s0, s1, s2, s3, s4, s5, s6, s7, s8, s9, .val (.int i10), .val (.int i11), .val (.int i12), s13, s14, s15, s16, s17, s18, s19, s20, s21] [])) target := by

  refine ⟨T0, _, X0, e0, N0, fun target kt => ?_⟩
  show Steps p.tables e below (T0.setTop (mkF m 207 #[s0, s1, s2, s3, s4, s5, s6, s7, s8, s9, .val (.int i10), .val (.int i11), .val (.int i12), s13, s14, s15, s16, s17, s18, s19, s20, s21] [])) _
  refine XS.iload X0.here hx rfl (hb hby at_207) rfl ?_
  show Steps p.tables e below (T0.setTop (mkF m 209 #[s0, s1, s2, s3, s4, s5, s6, s7, s8, s9, .val (.int i10), .val (.int i11), .val (.int i12), s13, s14, s15, s16, s17, s18, s19, s20, s21] [(.int i12)])) _
  refine XS.iload X0.here hx rfl (hb hby at_209) rfl ?_
  show Steps p.tables e below (T0.setTop (mkF m 211 #[s0, s1, s2, s3, s4, s5, s6, s7, s8, s9, .val (.int i10), .val (.int i11), .val (.int i12), s13, s14, s15, s16, s17, s18, s19, s20, s21] [(.int i10), (.int i12)])) _
  refine XS.icmpNo X0.here hx rfl (hb hby at_211) rfl (feq hc211).1 ?_
  show Steps p.tables e below (T0.setTop (mkF m 214 #[s0, s1, s2, s3, s4, s5, s6, s7, s8, s9, .val (.int i10), .val (.int i11), .val (.int i12), s13, s14, s15, s16, s17, s18, s19, s20, s21] [])) _
  refine XS.iload X0.here hx rfl (hb hby at_214) rfl ?_
  show Steps p.tables e below (T0.setTop (mkF m 216 #[s0, s1, s2, s3, s4, s5, s6, s7, s8, s9, .val (.int i10), .val (.int i11), .val (.int i12), s13, s14, s15, s16, s17, s18, s19, s20, s21] [(.int i12)])) _
  refine XS.iload X0.here hx rfl (hb hby at_216) rfl ?_
  show Steps p.tables e below (T0.setTop (mkF m 218 #[s0, s1, s2, s3, s4, s5, s6, s7, s8, s9, .val (.int i10), .val (.int i11), .val (.int i12), s13, s14, s15, s16, s17, s18, s19, s20, s21] [(.int i11), (.int i12)])) _
  refine XS.icmpYes X0.here hx rfl (pc0 := 218) (pc' := 258) rfl (hb hby at_218) rfl (teq hc218).1 (by decide) (by decide) ?_
  exact kt
theorem own_B2_2 {p : Program} {l : Launch} {e : Env} {s : State} {m : MethodId} {args : Array Value} {below : List Frame} {meth : Method} {c : Code} {T0 : State} {locs : List Loc} {cells slots : Nat} {Z : State} {a0 : Array Value} {h0 : Heap} (s0 : Slot) (s1 : Slot) (s2 : Slot) (s3 : Slot) (s4 : Slot) (s5 : Slot) (s6 : Slot) (s7 : Slot) (s8 : Slot) (s9 : Slot) (s13 : Slot) (s14 : Slot) (s15 : Slot) (s16 : Slot) (s19 : Slot) (s20 : Slot) (i10 i11 i12 : Int32) (o17 o18 : Addr) (n0 : Nat) (bl bw : Addr) (kl kw kq : ClassId) (ls vs : List Value) (x0 : Int64) (x1 : Int64) (wS : Addr) (X0 : Stand p l e room_1 s m args below meth c T0 locs cells slots) (hx : p.tables.exec = Jvm.exec) (hZ : Z.Warmed39 s.vm) (hw : ∀ d ∈ tables_1, d.before a0 Z = true) (hby : c.code = code) (hml : c.maxLocals = 22) (hown : s.vm.findClass "com/example/crossmode/crossmode/search/LabelSetSetPinLaw" = some m.cls) (e0 : T0.heap = h0) (N0 : Fr n0 locs) (Z0 : n0 ≤ h0.size) (hcl : cells ≤ room_1.cells) (hsl : slots ≤ room_1.slots) (Fl : Fld Z h0 o18 "com/example/crossmode/crossmode/search/LabelSet" "labels" "[Lcom/example/crossmode/crossmode/search/Label;" (.ref bl)) (Fw : Fld Z h0 o18 "com/example/crossmode/crossmode/search/LabelSet" "weights" "[J" (.ref bw)) (Vl : Arv Z h0 bl kl (.object "com/example/crossmode/crossmode/search/Label") (4 : Int32) ls .null) (Vw : Arv Z h0 bw kw .long ((4 : Int32) * (2 : Int32)) vs (.long (0 : Int64))) (Vq : Arv Z h0 o17 kq .long (2 : Int32) [.long x0, .long x1] (.long (0 : Int64))) (hp : (i12 = 0 ∨ i12 = 1 ∨ i12 = 2 ∨ i12 = 3)) (hg : ¬ i12 = i10 → ¬ i12 = i11 → ls.getD i12.toNatClampNeg .null = .null) (v0 : ¬ i12 = i10 → ¬ i12 = i11 → vs.getD ((i12 * (2 : Int32)) + (0 : Int32)).toNatClampNeg (.long (0 : Int64)) = .long x0) (v1 : ¬ i12 = i10 → ¬ i12 = i11 → vs.getD ((i12 * (2 : Int32)) + ((0 : Int32) + (1 : Int32))).toNatClampNeg (.long (0 : Int64)) = .long x1) (E_o18 : Exa Z h0 o18 "com/example/crossmode/crossmode/search/LabelSet") (S_SAME : Sta Z h0 "com/example/crossmode/crossmode/search/Dominance" "SAME" "Lcom/example/crossmode/crossmode/search/Dominance;" (.ref wS)) :
    ∃ (T' : State) (L' : List Loc), Stand p l e room_1 s m args below meth c T' L' cells slots ∧ T'.heap = h0 ∧ Fr n0 L' ∧
      ∀ target, Steps p.tables e below (T'.setTop (mkF m 258 #[s0, s1, s2, s3, s4, s5, s6, s7, s8, s9, .val (.int i10), .val (.int i11), .val (.int i12), s13, s14, s15, s16, .val (.ref o17), .val (.ref o18), s19, s20, .val (.int (1 : Int32))] [])) target → Steps p.tables e below (T0.setTop (mkF m 207 #[s0, s1, s2, s3, s4, s5, s6, s7, s8, s9, .val (.int i10), .val (.int i11), .val (.int i12), s13, s14, s15, s16, .val (.ref o17), .val (.ref o18), s19, s20, .val (.int (1 : Int32))] [])) target := by
  by_cases hki : i12 = i10
  · exact own_b2t_2 (s0) (s1) (s2) (s3) (s4) (s5) (s6) (s7) (s8) (s9) i10 (.val (.int i11)) i12 (s13) (s14) (s15) (s16) (.val (.ref o17)) (.val (.ref o18)) (s19) (s20) (.val (.int (1 : Int32))) n0 X0 hx hZ hw hby hml hown e0 N0 Z0 hcl hsl hki
  by_cases hkj : i12 = i11
  · exact own_b2g_2 (s0) (s1) (s2) (s3) (s4) (s5) (s6) (s7) (s8) (s9) i10 i11 i12 (s13) (s14) (s15) (s16) (.val (.ref o17)) (.val (.ref o18)) (s19) (s20) (.val (.int (1 : Int32))) n0 X0 hx hZ hw hby hml hown e0 N0 Z0 hcl hsl hki hkj
  · exact own_b2f_2 (s0) (s1) (s2) (s3) (s4) (s5) (s6) (s7) (s8) (s9) i10 i11 i12 (s13) (s14) (s15) (s16) o17 o18 (s19) (s20) (1 : Int32) n0 bl bw kl kw kq ls vs x0 x1 wS X0 hx hZ hw hby hml hown e0 N0 Z0 hcl hsl Fl Fw Vl Vw Vq hp (hg hki hkj) (v0 hki hkj) (v1 hki hkj) E_o18 S_SAME hki hkj (by decide)
theorem ef_0 (m : MethodId) (x0 : Int32) (x1 : Int64) (x2 : Int64) (x3 : Int64) (x4 : Int64) : entryFrame m #[(.int x0), (.long x1), (.long x2), (.long x3), (.long x4)] maxLocals = mkF m 0 #[.val (.int x0), .val (.long x1), .second, .val (.long x2), .second, .val (.long x3), .second, .val (.long x4), .second, .unset, .unset, .unset, .unset, .unset, .unset, .unset, .unset, .unset, .unset, .unset, .unset, .unset] [] := by first | (simp [entryFrame, mkF, argsToLocals, Value.category, maxLocals]; done) | rfl
theorem pd_0_0 : parseMethodDescriptor "(IJJ)[J" = some ⟨[.int, .long, .long], some (.array .long)⟩ := by decide +kernel
theorem pd_0_1 : parseMethodDescriptor "(I)V" = some ⟨[.int], none⟩ := by decide +kernel
theorem pd_0_3 : parseMethodDescriptor "(I[J)V" = some ⟨[.int, (.array .long)], none⟩ := by decide +kernel
theorem pd_0_4 : parseMethodDescriptor "(ILcom/example/crossmode/crossmode/search/Label;)V" = some ⟨[.int, (.object "com/example/crossmode/crossmode/search/Label")], none⟩ := by decide +kernel
theorem pn_0 : plainName "com/example/crossmode/crossmode/search/LabelSetSetPinLaw" = true := by first | (simp [plainName, overriddenIn]; done) | decide +kernel
def own_Q0 (h0 : Heap) (n0 : Nat) (v : Option Value) (h : Heap) (L : List Loc) : Prop := v = some (.int (1 : Int32)) ∧ Fr n0 L
set_option maxRecDepth 65536 in
set_option maxHeartbeats 40000000 in
theorem own_rm0_1 (l : Launch) (Z : State) (a0 : Array Value) (hw : ∀ d ∈ tables_1, d.before a0 Z = true) (ws : List Jvm.Cond) (p1 : Int32) (q2 : Int64) (q3 : Int64) (q4 : Int64) (q5 : Int64) (i j k : Int32) (w21 : Addr) (h0 : Heap) (n0 : Nat) (Z0 : n0 ≤ h0.size) (S_SAME : Sta Z h0 "com/example/crossmode/crossmode/search/Dominance" "SAME" "Lcom/example/crossmode/crossmode/search/Dominance;" (.ref w21)) (hm : ((1 : Int32) + (p1 &&& (1 : Int32))) = (1 : Int32)) (ei : (((p1.toUInt32 >>> ((1 : Int32) &&& 31).toUInt32).toInt32) &&& (3 : Int32)) = i) (ej : (((p1.toUInt32 >>> ((3 : Int32) &&& 31).toUInt32).toInt32) &&& (3 : Int32)) = j) (ek : (((p1.toUInt32 >>> ((5 : Int32) &&& 31).toUInt32).toInt32) &&& (3 : Int32)) = k) (hi : (i = 0 ∨ i = 1 ∨ i = 2 ∨ i = 3)) (hj : (j = 0 ∨ j = 1 ∨ j = 2 ∨ j = 3)) (hk : (k = 0 ∨ k = 1 ∨ k = 2 ∨ k = 3)) :
    MetFree l x (head1 (Jvm.Cond.code x code maxLocals ret :: ws) room_1) (fun a U => a = #[(.int p1), (.long q2), (.long q3), (.long q4), (.long q5)] ∧ Z.Warmed39 U.vm ∧ U.heap = h0) (fun _ _ _ _ _ => True) (fun _ U o U' => ∃ v L, o = .returned v ∧ own_Q0 h0 n0 v U'.heap L ∧ FrameEnd U o U' L room_1.cells room_1.slots) := by
  refine MetFree.of_bodySF (plainFor_of_name pn_0) hisR ?_
  intro p e s m args below meth c s₁ Bd hml0 hP hK
  obtain ⟨rfl, hZ, hh⟩ := hP
  have hx := Bd.exec
  have hby := Bd.bytes
  have hml : c.maxLocals = 22 := hml0
  have hown : s.vm.findClass "com/example/crossmode/crossmode/search/LabelSetSetPinLaw" = some m.cls := findClass_of_methodNamed Bd.named
  have hnm := (name_of_methodNamed Bd.named Bd.method).1
  have X0 : Stand p l e room_1 s m #[(.int p1), (.long q2), (.long q3), (.long q4), (.long q5)] below meth c s₁ [] 0 0 := Stand.of_body Bd
  have e0 : s₁.heap = h0 := by rw [← hh, Bd.state]; rfl
  have N0 := Fr.nil n0
  have pre0 : ∀ t, Steps p.tables e below (s₁.setTop (mkF m 0 #[.val (.int p1), .val (.long q2), .second, .val (.long q3), .second, .val (.long q4), .second, .val (.long q5), .second, .unset, .unset, .unset, .unset, .unset, .unset, .unset, .unset, .unset, .unset, .unset, .unset, .unset] [])) t → Steps p.tables e below (s₁.setTop (entryFrame m #[(.int p1), (.long q2), (.long q3), (.long q4), (.long q5)] maxLocals)) t := fun t k => castTop (ef_0 m p1 q2 q3 q4 q5) k
  obtain ⟨_, _, ⟨T6, L6, k6, n6⟩, -, X6, ⟨Lc6, hQ6, l6, y6, z6⟩, st6⟩ := Jvm.LawKit.callS X0 hx (y := (⟨"com/example/crossmode/crossmode/search/LabelSetSetPinLaw", "weights", "(IJJ)[J"⟩ : MethodName)) hown (mvT hZ (hw _ (List.mem_of_getElem? (i := 0) rfl))) (mvT hZ (hw _ (List.mem_of_getElem? (i := 1) rfl))) (mvT hZ (hw _ (List.mem_of_getElem? (i := 2) rfl))) (mvT hZ (hw _ (List.mem_of_getElem? (i := 3) rfl))) (by decide) (backOf (W := 0) (own_rm1_1 l Z a0 hw [] (1 : Int32) q2 q3 h0 n0 Z0 rfl) hZ (hw _ (List.mem_of_getElem? (i := 3) rfl)) (hw _ (List.mem_of_getElem? (i := 2) rfl)) (by decide) (by decide)) (g := (mkF m 32 #[.val (.int p1), .val (.long q2), .second, .val (.long q3), .second, .val (.long q4), .second, .val (.long q5), .second, .val (.int (1 : Int32)), .val (.int i), .val (.int j), .val (.int k), .unset, .unset, .unset, .unset, .unset, .unset, .unset, .unset, .unset] [(.long q3), (.long q2), (.int (1 : Int32))])) rfl (by rw [hml]; rfl) (argsL := [(.int (1 : Int32)), (.long q2), (.long q3)]) (rest := []) (lenOf pd_0_0 rfl) rfl (by show 2 * 0 + _ ≤ _; exact Nat.le_of_eq rfl) (hb hby at_32) (fun _ _ => ⟨rfl, e0, (by decide : 0 + 1 ≤ _), (by decide : 0 + 1 ≤ _)⟩)
  dsimp only [Pt.U, Pt.locs, Pt.cells, Pt.slots] at X6 l6 y6 z6 st6 hQ6
  subst l6 y6 z6
  obtain ⟨rfl, N6q, K6, kc6, V6⟩ := hQ6
  have N6 := Fr.app N0 N6q
  obtain ⟨b6, g6⟩ : ∃ z, z = h0.size := ⟨_, rfl⟩
  rw [← g6] at V6 st6
  have KK6 : Keep h0 T6.heap [] := (Keep.refl h0 []).trans K6 (fun x hx => nomatch hx)
  have z6 := K6.1
  have y6 := own_lt' V6.lt
  obtain ⟨_, _, ⟨T7, L7, k7, n7⟩, -, X7, ⟨Lc7, hQ7, l7, y7, z7⟩, st7⟩ := Jvm.LawKit.callS X6 hx (y := (⟨"com/example/crossmode/crossmode/search/LabelSetSetPinLaw", "weights", "(IJJ)[J"⟩ : MethodName)) hown (mvT hZ (hw _ (List.mem_of_getElem? (i := 0) rfl))) (mvT hZ (hw _ (List.mem_of_getElem? (i := 1) rfl))) (mvT hZ (hw _ (List.mem_of_getElem? (i := 2) rfl))) (mvT hZ (hw _ (List.mem_of_getElem? (i := 3) rfl))) (by decide) (backOf (W := 0) (own_rm1_1 l Z a0 hw [] (1 : Int32) q4 q5 T6.heap n0 (Nat.le_trans Z0 K6.1) rfl) hZ (hw _ (List.mem_of_getElem? (i := 3) rfl)) (hw _ (List.mem_of_getElem? (i := 2) rfl)) (by decide) (by decide)) (g := (mkF m 43 #[.val (.int p1), .val (.long q2), .second, .val (.long q3), .second, .val (.long q4), .second, .val (.long q5), .second, .val (.int (1 : Int32)), .val (.int i), .val (.int j), .val (.int k), .val (.ref b6), .unset, .unset, .unset, .unset, .unset, .unset, .unset, .unset] [(.long q5), (.long q4), (.int (1 : Int32))])) rfl (by rw [hml]; rfl) (argsL := [(.int (1 : Int32)), (.long q4), (.long q5)]) (rest := []) (lenOf pd_0_0 rfl) rfl (by show 2 * 0 + _ ≤ _; exact Nat.le_of_eq rfl) (hb hby at_43) (fun _ _ => ⟨rfl, rfl, (by decide : 1 + 1 ≤ _), (by decide : 1 + 1 ≤ _)⟩)
  dsimp only [Pt.U, Pt.locs, Pt.cells, Pt.slots] at X7 l7 y7 z7 st7 hQ7
  subst l7 y7 z7
  obtain ⟨rfl, N7q, K7, kc7, V7⟩ := hQ7
  have N7 := Fr.app N6 N7q
  obtain ⟨b7, g7⟩ : ∃ z, z = T6.heap.size := ⟨_, rfl⟩
  rw [← g7] at V7 st7
  have KK7 : Keep h0 T7.heap [] := KK6.trans K7 (fun x hx => nomatch hx)
  have z7 := K7.1
  have y7 := own_lt' V7.lt
  obtain ⟨_, _, ⟨T8, L8, k8, n8⟩, -, X8, ⟨Lc8, hQ8, l8, y8, z8⟩, st8⟩ := Jvm.LawKit.callS X7 hx (y := (⟨"com/example/crossmode/crossmode/search/LabelSetSetPinLaw", "weights", "(IJJ)[J"⟩ : MethodName)) hown (mvT hZ (hw _ (List.mem_of_getElem? (i := 0) rfl))) (mvT hZ (hw _ (List.mem_of_getElem? (i := 1) rfl))) (mvT hZ (hw _ (List.mem_of_getElem? (i := 2) rfl))) (mvT hZ (hw _ (List.mem_of_getElem? (i := 3) rfl))) (by decide) (backOf (W := 0) (own_rm1_1 l Z a0 hw [] (1 : Int32) q2 q3 T7.heap n0 (Nat.le_trans (Nat.le_trans Z0 K6.1) K7.1) rfl) hZ (hw _ (List.mem_of_getElem? (i := 3) rfl)) (hw _ (List.mem_of_getElem? (i := 2) rfl)) (by decide) (by decide)) (g := (mkF m 52 #[.val (.int p1), .val (.long q2), .second, .val (.long q3), .second, .val (.long q4), .second, .val (.long q5), .second, .val (.int (1 : Int32)), .val (.int i), .val (.int j), .val (.int k), .val (.ref b6), .val (.ref b7), .unset, .unset, .unset, .unset, .unset, .unset, .unset] [(.long q3), (.long q2), (.int (1 : Int32))])) rfl (by rw [hml]; rfl) (argsL := [(.int (1 : Int32)), (.long q2), (.long q3)]) (rest := []) (lenOf pd_0_0 rfl) rfl (by show 2 * 0 + _ ≤ _; exact Nat.le_of_eq rfl) (hb hby at_52) (fun _ _ => ⟨rfl, rfl, (by decide : 2 + 1 ≤ _), (by decide : 2 + 1 ≤ _)⟩)
  dsimp only [Pt.U, Pt.locs, Pt.cells, Pt.slots] at X8 l8 y8 z8 st8 hQ8
  subst l8 y8 z8
  obtain ⟨rfl, N8q, K8, kc8, V8⟩ := hQ8
  have N8 := Fr.app N7 N8q
  obtain ⟨b8, g8⟩ : ∃ z, z = T7.heap.size := ⟨_, rfl⟩
  rw [← g8] at V8 st8
  have KK8 : Keep h0 T8.heap [] := KK7.trans K8 (fun x hx => nomatch hx)
  have z8 := K8.1
  have y8 := own_lt' V8.lt
  obtain ⟨_, _, ⟨T9, L9, k9, n9⟩, -, X9, ⟨Lc9, hQ9, l9, y9, z9⟩, st9⟩ := Jvm.LawKit.callS X8 hx (y := (⟨"com/example/crossmode/crossmode/search/LabelSetSetPinLaw", "weights", "(IJJ)[J"⟩ : MethodName)) hown (mvT hZ (hw _ (List.mem_of_getElem? (i := 0) rfl))) (mvT hZ (hw _ (List.mem_of_getElem? (i := 1) rfl))) (mvT hZ (hw _ (List.mem_of_getElem? (i := 2) rfl))) (mvT hZ (hw _ (List.mem_of_getElem? (i := 3) rfl))) (by decide) (backOf (W := 0) (own_rm1_1 l Z a0 hw [] (1 : Int32) q4 q5 T8.heap n0 (Nat.le_trans (Nat.le_trans (Nat.le_trans Z0 K6.1) K7.1) K8.1) rfl) hZ (hw _ (List.mem_of_getElem? (i := 3) rfl)) (hw _ (List.mem_of_getElem? (i := 2) rfl)) (by decide) (by decide)) (g := (mkF m 63 #[.val (.int p1), .val (.long q2), .second, .val (.long q3), .second, .val (.long q4), .second, .val (.long q5), .second, .val (.int (1 : Int32)), .val (.int i), .val (.int j), .val (.int k), .val (.ref b6), .val (.ref b7), .val (.ref b8), .unset, .unset, .unset, .unset, .unset, .unset] [(.long q5), (.long q4), (.int (1 : Int32))])) rfl (by rw [hml]; rfl) (argsL := [(.int (1 : Int32)), (.long q4), (.long q5)]) (rest := []) (lenOf pd_0_0 rfl) rfl (by show 2 * 0 + _ ≤ _; exact Nat.le_of_eq rfl) (hb hby at_63) (fun _ _ => ⟨rfl, rfl, (by decide : 3 + 1 ≤ _), (by decide : 3 + 1 ≤ _)⟩)
  dsimp only [Pt.U, Pt.locs, Pt.cells, Pt.slots] at X9 l9 y9 z9 st9 hQ9
  subst l9 y9 z9
  obtain ⟨rfl, N9q, K9, kc9, V9⟩ := hQ9
  have N9 := Fr.app N8 N9q
  obtain ⟨b9, g9⟩ : ∃ z, z = T8.heap.size := ⟨_, rfl⟩
  rw [← g9] at V9 st9
  have KK9 : Keep h0 T9.heap [] := KK8.trans K9 (fun x hx => nomatch hx)
  have z9 := K9.1
  have y9 := own_lt' V9.lt
  obtain ⟨T10, h10, k10, X10, e10, E10, A10, st10⟩ := newP X9 hx hZ (hw _ (List.mem_of_getElem? (i := 4) rfl)) rfl (g := (mkF m 70 #[.val (.int p1), .val (.long q2), .second, .val (.long q3), .second, .val (.long q4), .second, .val (.long q5), .second, .val (.int (1 : Int32)), .val (.int i), .val (.int j), .val (.int k), .val (.ref b6), .val (.ref b7), .val (.ref b8), .val (.ref b9), .unset, .unset, .unset, .unset, .unset] [(.int (1 : Int32))])) rfl (hb hby at_70) rfl (by decide) (cap := 1) (by decide) (by decide) (by decide) (by decide)
  obtain ⟨b10, g10⟩ : ∃ z, z = T9.heap.size := ⟨_, rfl⟩
  rw [← g10] at A10 st10
  have V_b10 : Arv Z h10 b10 k10 .long (1 : Int32) [(.long (0 : Int64))] (.long (0 : Int64)) := (Arv.new A10 (by decide)).pad (pad_rep [] (.long (0 : Int64)) 1)
  have g_b10 : n0 ≤ b10 := Nat.le_trans (Nat.le_trans (Nat.le_trans (Nat.le_trans (Nat.le_trans Z0 K6.1) K7.1) K8.1) K9.1) (Nat.le_of_eq g10.symm)
  have sz_b10 : h0.size ≤ b10 := (Nat.le_trans KK9.1 (Nat.le_of_eq g10.symm))
  have K10 : Keep h0 h10 [] := KK9.ext E10
  obtain ⟨T11, h11, X11, e11, E11, A11, D11, -, st11⟩ := newO X10 hx hZ hown (hw _ (List.mem_of_getElem? (i := 5) rfl)) (hw _ (List.mem_of_getElem? (i := 6) rfl)) (hw _ (List.mem_of_getElem? (i := 7) rfl)) e10 (g := (mkF m 74 #[.val (.int p1), .val (.long q2), .second, .val (.long q3), .second, .val (.long q4), .second, .val (.long q5), .second, .val (.int (1 : Int32)), .val (.int i), .val (.int j), .val (.int k), .val (.ref b6), .val (.ref b7), .val (.ref b8), .val (.ref b9), .val (.ref b10), .unset, .unset, .unset, .unset] [])) rfl (hb hby at_74) (by decide) (by decide)
  obtain ⟨b11, g11⟩ : ∃ z, z = h10.size := ⟨_, rfl⟩
  rw [← g11] at A11 D11 st11
  have F_labels_b11 : Fld Z h11 b11 "com/example/crossmode/crossmode/search/LabelSet" "labels" "[Lcom/example/crossmode/crossmode/search/Label;" .null := D11 (Or.inl (hw _ (List.mem_of_getElem? (i := 17) rfl))) (ty := (.array (.object "com/example/crossmode/crossmode/search/Label"))) (by decide)
  have F_modeCount_b11 : Fld Z h11 b11 "com/example/crossmode/crossmode/search/LabelSet" "modeCount" "I" (.int (0 : Int32)) := D11 (Or.inr (hw _ (List.mem_of_getElem? (i := 19) rfl))) (ty := .int) (by decide)
  have F_weights_b11 : Fld Z h11 b11 "com/example/crossmode/crossmode/search/LabelSet" "weights" "[J" .null := D11 (Or.inl (hw _ (List.mem_of_getElem? (i := 21) rfl))) (ty := (.array .long)) (by decide)
  have E_b11 := A11
  have g_b11 : n0 ≤ b11 := Nat.le_trans (Nat.le_trans (Nat.le_trans (Nat.le_trans (Nat.le_trans (Nat.le_trans Z0 K6.1) K7.1) K8.1) K9.1) E10.1) (Nat.le_of_eq g11.symm)
  have sz_b11 : h0.size ≤ b11 := (Nat.le_trans K10.1 (Nat.le_of_eq g11.symm))
  have K11 : Keep h0 h11 [] := K10.ext E11
  obtain ⟨_, _, ⟨T12, L12, k12, n12⟩, -, X12, ⟨Lc12, hQ12, l12, y12, z12⟩, st12⟩ := X11.specialBack hx (y := (⟨"com/example/crossmode/crossmode/search/LabelSet", "<init>", "(I)V"⟩ : MethodName)) rfl hown (mvT hZ (hw _ (List.mem_of_getElem? (i := 8) rfl))) (mvT hZ (hw _ (List.mem_of_getElem? (i := 9) rfl))) (mvT hZ (hw _ (List.mem_of_getElem? (i := 10) rfl))) (by decide) (backOf (W := 1) (own_rm2 l Z a0 hw [] b11 (1 : Int32) _ _ _ h11 n0 (Nat.le_trans (Nat.le_trans (Nat.le_trans (Nat.le_trans (Nat.le_trans (Nat.le_trans Z0 K6.1) K7.1) K8.1) K9.1) E10.1) E11.1) E_b11 F_labels_b11 g_b11 F_modeCount_b11 F_weights_b11 (by decide) (by decide)) hZ (hw _ (List.mem_of_getElem? (i := 10) rfl)) (hw _ (List.mem_of_getElem? (i := 7) rfl)) (by decide) (by decide)) (g := (mkF m 80 #[.val (.int p1), .val (.long q2), .second, .val (.long q3), .second, .val (.long q4), .second, .val (.long q5), .second, .val (.int (1 : Int32)), .val (.int i), .val (.int j), .val (.int k), .val (.ref b6), .val (.ref b7), .val (.ref b8), .val (.ref b9), .val (.ref b10), .unset, .unset, .unset, .unset] [(.int (1 : Int32)), (.ref b11), (.ref b11)])) rfl (by rw [hml]; rfl) (Steps.refl _) (a := b11) (argsL := [(.int (1 : Int32))]) (rest := [(.ref b11)]) (lenOf pd_0_1 rfl) rfl (by show 2 * 0 + _ ≤ _; exact Nat.le_of_eq rfl) (hb hby at_80) (fun _ _ => ⟨rfl, e11, (by decide : 6 + 2 ≤ _), (by decide : 9 + 12 ≤ _)⟩)
  dsimp only [Pt.U, Pt.locs, Pt.cells, Pt.slots] at X12 l12 y12 z12 st12 hQ12
  subst l12 y12 z12
  obtain ⟨rfl, N12q, K12, Ex12, Fm12, bl, bw, kl, kw, o1, o2, o3, Fl12, Fw12, Vl12, Vw12, Ov12⟩ := hQ12
  have N12 := Fr.app N9 N12q
  have KK12 : Keep h0 T12.heap [] := K11.trans K12 (fun x hx => Or.inr (own_m1 hx sz_b11))
  obtain ⟨T13, h13, X13, e13, E13, A13, D13, -, st13⟩ := newO X12 hx hZ hown (hw _ (List.mem_of_getElem? (i := 22) rfl)) (hw _ (List.mem_of_getElem? (i := 23) rfl)) (hw _ (List.mem_of_getElem? (i := 24) rfl)) rfl (g := (mkF m 85 #[.val (.int p1), .val (.long q2), .second, .val (.long q3), .second, .val (.long q4), .second, .val (.long q5), .second, .val (.int (1 : Int32)), .val (.int i), .val (.int j), .val (.int k), .val (.ref b6), .val (.ref b7), .val (.ref b8), .val (.ref b9), .val (.ref b10), .val (.ref b11), .unset, .unset, .unset] [])) rfl (hb hby at_85) (by decide) (by decide)
  obtain ⟨b13, g13⟩ : ∃ z, z = T12.heap.size := ⟨_, rfl⟩
  rw [← g13] at A13 D13 st13
  have F_mode_b13 : Fld Z h13 b13 "com/example/crossmode/crossmode/search/Label" "mode" "I" (.int (0 : Int32)) := D13 (Or.inl (hw _ (List.mem_of_getElem? (i := 30) rfl))) (ty := .int) (by decide)
  have F_stage_b13 : Fld Z h13 b13 "com/example/crossmode/crossmode/search/Label" "stage" "I" (.int (0 : Int32)) := D13 (Or.inl (hw _ (List.mem_of_getElem? (i := 32) rfl))) (ty := .int) (by decide)
  have F_vertex_b13 : Fld Z h13 b13 "com/example/crossmode/crossmode/search/Label" "vertex" "I" (.int (0 : Int32)) := D13 (Or.inr (hw _ (List.mem_of_getElem? (i := 34) rfl))) (ty := .int) (by decide)
  have F_weights_b13 : Fld Z h13 b13 "com/example/crossmode/crossmode/search/Label" "weights" "[J" .null := D13 (Or.inr (hw _ (List.mem_of_getElem? (i := 36) rfl))) (ty := (.array .long)) (by decide)
  have E_b13 := A13
  have g_b13 : n0 ≤ b13 := Nat.le_trans (Nat.le_trans (Nat.le_trans (Nat.le_trans (Nat.le_trans (Nat.le_trans (Nat.le_trans (Nat.le_trans Z0 K6.1) K7.1) K8.1) K9.1) E10.1) E11.1) K12.1) (Nat.le_of_eq g13.symm)
  have sz_b13 : h0.size ≤ b13 := (Nat.le_trans KK12.1 (Nat.le_of_eq g13.symm))
  have K13 : Keep h0 h13 [] := KK12.ext E13
  obtain ⟨_, _, ⟨T14, L14, k14, n14⟩, -, X14, ⟨Lc14, hQ14, l14, y14, z14⟩, st14⟩ := X13.specialBack hx (y := (⟨"com/example/crossmode/crossmode/search/Label", "<init>", "(I[J)V"⟩ : MethodName)) rfl hown (mvT hZ (hw _ (List.mem_of_getElem? (i := 25) rfl))) (mvT hZ (hw _ (List.mem_of_getElem? (i := 26) rfl))) (mvT hZ (hw _ (List.mem_of_getElem? (i := 27) rfl))) (by decide) (backOf (W := 1) (own_rm4 l Z a0 hw [] b13 (1 : Int32) b6 _ _ _ _ h13 n0 (Nat.le_trans (Nat.le_trans (Nat.le_trans (Nat.le_trans (Nat.le_trans (Nat.le_trans (Nat.le_trans (Nat.le_trans Z0 K6.1) K7.1) K8.1) K9.1) E10.1) E11.1) K12.1) E13.1) E_b13 F_mode_b13 g_b13 F_stage_b13 F_vertex_b13 F_weights_b13) hZ (hw _ (List.mem_of_getElem? (i := 27) rfl)) (hw _ (List.mem_of_getElem? (i := 24) rfl)) (by decide) (by decide)) (g := (mkF m 92 #[.val (.int p1), .val (.long q2), .second, .val (.long q3), .second, .val (.long q4), .second, .val (.long q5), .second, .val (.int (1 : Int32)), .val (.int i), .val (.int j), .val (.int k), .val (.ref b6), .val (.ref b7), .val (.ref b8), .val (.ref b9), .val (.ref b10), .val (.ref b11), .unset, .unset, .unset] [(.ref b6), (.int (1 : Int32)), (.ref b13), (.ref b13)])) rfl (by rw [hml]; rfl) (Steps.refl _) (a := b13) (argsL := [(.int (1 : Int32)), (.ref b6)]) (rest := [(.ref b13)]) (lenOf pd_0_3 rfl) rfl (by show 2 * 0 + _ ≤ _; exact Nat.le_of_eq rfl) (hb hby at_92) (fun _ _ => ⟨rfl, e13, (by decide : 9 + 0 ≤ _), (by decide : 30 + 0 ≤ _)⟩)
  dsimp only [Pt.U, Pt.locs, Pt.cells, Pt.slots] at X14 l14 y14 z14 st14 hQ14
  subst l14 y14 z14
  obtain ⟨rfl, N14q, K14, Ex14, -, -, -, Fx14⟩ := hQ14
  have N14 := Fr.app N12 N14q
  have KK14 : Keep h0 T14.heap [] := K13.trans K14 (fun x hx => Or.inr (own_m1 hx sz_b13))
  obtain ⟨T15, h15, X15, e15, E15, A15, D15, -, st15⟩ := newO X14 hx hZ hown (hw _ (List.mem_of_getElem? (i := 22) rfl)) (hw _ (List.mem_of_getElem? (i := 23) rfl)) (hw _ (List.mem_of_getElem? (i := 24) rfl)) rfl (g := (mkF m 97 #[.val (.int p1), .val (.long q2), .second, .val (.long q3), .second, .val (.long q4), .second, .val (.long q5), .second, .val (.int (1 : Int32)), .val (.int i), .val (.int j), .val (.int k), .val (.ref b6), .val (.ref b7), .val (.ref b8), .val (.ref b9), .val (.ref b10), .val (.ref b11), .val (.ref b13), .unset, .unset] [])) rfl (hb hby at_97) (by decide) (by decide)
  obtain ⟨b15, g15⟩ : ∃ z, z = T14.heap.size := ⟨_, rfl⟩
  rw [← g15] at A15 D15 st15
  have F_mode_b15 : Fld Z h15 b15 "com/example/crossmode/crossmode/search/Label" "mode" "I" (.int (0 : Int32)) := D15 (Or.inl (hw _ (List.mem_of_getElem? (i := 30) rfl))) (ty := .int) (by decide)
  have F_stage_b15 : Fld Z h15 b15 "com/example/crossmode/crossmode/search/Label" "stage" "I" (.int (0 : Int32)) := D15 (Or.inl (hw _ (List.mem_of_getElem? (i := 32) rfl))) (ty := .int) (by decide)
  have F_vertex_b15 : Fld Z h15 b15 "com/example/crossmode/crossmode/search/Label" "vertex" "I" (.int (0 : Int32)) := D15 (Or.inr (hw _ (List.mem_of_getElem? (i := 34) rfl))) (ty := .int) (by decide)
  have F_weights_b15 : Fld Z h15 b15 "com/example/crossmode/crossmode/search/Label" "weights" "[J" .null := D15 (Or.inr (hw _ (List.mem_of_getElem? (i := 36) rfl))) (ty := (.array .long)) (by decide)
  have E_b15 := A15
  have g_b15 : n0 ≤ b15 := Nat.le_trans (Nat.le_trans (Nat.le_trans (Nat.le_trans (Nat.le_trans (Nat.le_trans (Nat.le_trans (Nat.le_trans (Nat.le_trans (Nat.le_trans Z0 K6.1) K7.1) K8.1) K9.1) E10.1) E11.1) K12.1) E13.1) K14.1) (Nat.le_of_eq g15.symm)
  have sz_b15 : h0.size ≤ b15 := (Nat.le_trans KK14.1 (Nat.le_of_eq g15.symm))
  have K15 : Keep h0 h15 [] := KK14.ext E15
  obtain ⟨_, _, ⟨T16, L16, k16, n16⟩, -, X16, ⟨Lc16, hQ16, l16, y16, z16⟩, st16⟩ := X15.specialBack hx (y := (⟨"com/example/crossmode/crossmode/search/Label", "<init>", "(I[J)V"⟩ : MethodName)) rfl hown (mvT hZ (hw _ (List.mem_of_getElem? (i := 25) rfl))) (mvT hZ (hw _ (List.mem_of_getElem? (i := 26) rfl))) (mvT hZ (hw _ (List.mem_of_getElem? (i := 27) rfl))) (by decide) (backOf (W := 1) (own_rm4 l Z a0 hw [] b15 (2 : Int32) b7 _ _ _ _ h15 n0 (Nat.le_trans (Nat.le_trans (Nat.le_trans (Nat.le_trans (Nat.le_trans (Nat.le_trans (Nat.le_trans (Nat.le_trans (Nat.le_trans (Nat.le_trans Z0 K6.1) K7.1) K8.1) K9.1) E10.1) E11.1) K12.1) E13.1) K14.1) E15.1) E_b15 F_mode_b15 g_b15 F_stage_b15 F_vertex_b15 F_weights_b15) hZ (hw _ (List.mem_of_getElem? (i := 27) rfl)) (hw _ (List.mem_of_getElem? (i := 24) rfl)) (by decide) (by decide)) (g := (mkF m 104 #[.val (.int p1), .val (.long q2), .second, .val (.long q3), .second, .val (.long q4), .second, .val (.long q5), .second, .val (.int (1 : Int32)), .val (.int i), .val (.int j), .val (.int k), .val (.ref b6), .val (.ref b7), .val (.ref b8), .val (.ref b9), .val (.ref b10), .val (.ref b11), .val (.ref b13), .unset, .unset] [(.ref b7), (.int (2 : Int32)), (.ref b15), (.ref b15)])) rfl (by rw [hml]; rfl) (Steps.refl _) (a := b15) (argsL := [(.int (2 : Int32)), (.ref b7)]) (rest := [(.ref b15)]) (lenOf pd_0_3 rfl) rfl (by show 2 * 0 + _ ≤ _; exact Nat.le_of_eq rfl) (hb hby at_104) (fun _ _ => ⟨rfl, e15, (by decide : 10 + 0 ≤ _), (by decide : 39 + 0 ≤ _)⟩)
  dsimp only [Pt.U, Pt.locs, Pt.cells, Pt.slots] at X16 l16 y16 z16 st16 hQ16
  subst l16 y16 z16
  obtain ⟨rfl, N16q, K16, Ex16, -, -, -, Fx16⟩ := hQ16
  have N16 := Fr.app N14 N16q
  have KK16 : Keep h0 T16.heap [] := K15.trans K16 (fun x hx => Or.inr (own_m1 hx sz_b15))
  have a11 := own_lt' A11.lt
  have a13 := own_lt' A13.lt
  have a15 := own_lt' A15.lt
  have zE10 := E10.1
  have zE11 := E11.1
  have zE13 := E13.1
  have zE15 := E15.1
  have z12 := K12.1
  have z14 := K14.1
  have z16 := K16.1
  have KA9 : Keep T9.heap T12.heap [] := (((Keep.refl T9.heap []).ext E10).ext E11).trans K12 (fun x hx => Or.inr (own_m1 hx (by omega)))
  have KA12 : Keep T12.heap T16.heap [] := ((((Keep.refl T12.heap []).ext E13).trans K14 (fun x hx => Or.inr (own_m1 hx (by omega)))).ext E15).trans K16 (fun x hx => Or.inr (own_m1 hx (by omega)))
  have KA : Keep T9.heap T16.heap [] := KA9.trans KA12 (fun x hx => nomatch hx)
  have Fl16 := Fl12.keep KA12 List.not_mem_nil
  have Fw16 := Fw12.keep KA12 List.not_mem_nil
  have Fm16 := Fm12.keep KA12 List.not_mem_nil
  have Vl16 : Arv Z T16.heap bl kl (.object "com/example/crossmode/crossmode/search/Label") (4 : Int32) (List.replicate 4 .null) .null := (Vl12.pad (pad_rep [] .null 4)).keep KA12 List.not_mem_nil
  have Vw16 : Arv Z T16.heap bw kw .long ((4 : Int32) * (1 : Int32)) (List.replicate 4 (.long (0 : Int64))) (.long (0 : Int64)) := (Vw12.pad (pad_rep [] (.long (0 : Int64)) 4)).keep KA12 List.not_mem_nil
  have FxA := (Fx14.ext E15).keep K16 (own_n1 (by omega))
  have ExA := (Ex14.ext E15).keep K16
  have Vwa : Arv Z T16.heap b6 kc6 .long (1 : Int32) [.long q2] (.long (0 : Int64)) := ((((V6.keep K7 List.not_mem_nil).keep K8 List.not_mem_nil).keep K9 List.not_mem_nil).keep KA List.not_mem_nil)
  have Vwb : Arv Z T16.heap b7 kc7 .long (1 : Int32) [.long q4] (.long (0 : Int64)) := (((V7.keep K8 List.not_mem_nil).keep K9 List.not_mem_nil).keep KA List.not_mem_nil)
  have Vqa : Arv Z T16.heap b8 kc8 .long (1 : Int32) [.long q2] (.long (0 : Int64)) := ((V8.keep K9 List.not_mem_nil).keep KA List.not_mem_nil)
  have Vqb : Arv Z T16.heap b9 kc9 .long (1 : Int32) [.long q4] (.long (0 : Int64)) := (V9.keep KA List.not_mem_nil)
  have ly10 := own_lt' V_b10.lt
  have Vz : Arv Z T16.heap b10 k10 .long (1 : Int32) [.long (0 : Int64)] (.long (0 : Int64)) := (((V_b10.ext E11).keep K12 (own_n1 (by omega))).keep KA12 List.not_mem_nil)
  obtain ⟨cq17, kq17, q17a, q17b, q17c⟩ := isOf hZ rfl (((((E_b11.keep K12).ext E13).keep K14).ext E15).keep K16)
  obtain ⟨_, _, ⟨T17, L17, k17, n17⟩, -, X17, ⟨Lc17, hQ17, l17, y17, z17⟩, st17⟩ := X16.virtualBack hx (y := (⟨"com/example/crossmode/crossmode/search/LabelSet", "set", "(ILcom/example/crossmode/crossmode/search/Label;)V"⟩ : MethodName)) (z := (⟨"com/example/crossmode/crossmode/search/LabelSet", "set", "(ILcom/example/crossmode/crossmode/search/Label;)V"⟩ : MethodName)) hown (mvT hZ (hw _ (List.mem_of_getElem? (i := 37) rfl))) (mvT hZ (hw _ (List.mem_of_getElem? (i := 38) rfl))) (notFace_of_selects (args := #[]) (mvT hZ (hw _ (List.mem_of_getElem? (i := 40) rfl)))) (mvT hZ (hw _ (List.mem_of_getElem? (i := 40) rfl))) (mvT hZ (hw _ (List.mem_of_getElem? (i := 39) rfl))) (by decide) (backOf (W := 0) (own_rm5 l Z a0 hw [] b11 i b13 bl b6 bw (1 : Int32) kl kc6 kw (List.replicate 4 .null) [.long q2] (List.replicate 4 (.long (0 : Int64))) T16.heap n0 (Nat.le_trans (Nat.le_trans (Nat.le_trans (Nat.le_trans (Nat.le_trans (Nat.le_trans (Nat.le_trans (Nat.le_trans (Nat.le_trans (Nat.le_trans (Nat.le_trans Z0 K6.1) K7.1) K8.1) K9.1) E10.1) E11.1) K12.1) E13.1) K14.1) E15.1) K16.1) Fl16 Fw16 Fm16 FxA ExA Vl16 Vw16 Vwa Ov12 (own_le' (by omega)) (own_le' (by omega)) (own_ne' (by omega)) (own_ne' (by omega)) (own_ne' (by omega)) (own_ne' (by omega)) (own_in4 hi) (own_lt4_a hi) (own_c2_1 hi) (by decide) (own_c5_1 hi) rfl (own_vl_1 hi)) hZ (hw _ (List.mem_of_getElem? (i := 41) rfl)) (hw _ (List.mem_of_getElem? (i := 7) rfl)) (by decide) (by decide)) q17a q17c (g := (mkF m 115 #[.val (.int p1), .val (.long q2), .second, .val (.long q3), .second, .val (.long q4), .second, .val (.long q5), .second, .val (.int (1 : Int32)), .val (.int i), .val (.int j), .val (.int k), .val (.ref b6), .val (.ref b7), .val (.ref b8), .val (.ref b9), .val (.ref b10), .val (.ref b11), .val (.ref b13), .val (.ref b15), .unset] [(.ref b13), (.int i), (.ref b11)])) rfl (by rw [hml]; rfl) (Steps.refl _) (argsL := [(.int i), (.ref b13)]) (rest := []) (lenOf pd_0_4 rfl) rfl (by show 2 * 0 + _ ≤ _; exact Nat.le_of_eq rfl) (hb hby at_115) (fun _ _ => ⟨rfl, rfl, (by decide : 10 + 0 ≤ _), (by decide : 39 + 0 ≤ _)⟩)
  dsimp only [Pt.U, Pt.locs, Pt.cells, Pt.slots] at X17 l17 y17 z17 st17 hQ17
  subst l17 y17 z17
  obtain ⟨rfl, N17q, K17, Vl17, Vw17⟩ := hQ17
  have N17 := Fr.app N16 N17q
  have KK17 : Keep h0 T17.heap [] := KK16.trans K17 (fun x hx => Or.inr (own_m2 hx (by omega) (by omega)))
  have z17 := K17.1
  have Fl17 := Fl16.keep K17 (own_n2 (by omega) (by omega))
  have Fw17 := Fw16.keep K17 (own_n2 (by omega) (by omega))
  have Fm17 := Fm16.keep K17 (own_n2 (by omega) (by omega))
  have FxB := Fx16.keep K17 (own_n2 (by omega) (by omega))
  have ExB := Ex16.keep K17
  have Vwb7 := Vwb.keep K17 (own_n2 (by omega) (by omega))
  obtain ⟨cq18, kq18, q18a, q18b, q18c⟩ := isOf hZ rfl ((((((E_b11.keep K12).ext E13).keep K14).ext E15).keep K16).keep K17)
  obtain ⟨_, _, ⟨T18, L18, k18, n18⟩, -, X18, ⟨Lc18, hQ18, l18, y18, z18⟩, st18⟩ := X17.virtualBack hx (y := (⟨"com/example/crossmode/crossmode/search/LabelSet", "set", "(ILcom/example/crossmode/crossmode/search/Label;)V"⟩ : MethodName)) (z := (⟨"com/example/crossmode/crossmode/search/LabelSet", "set", "(ILcom/example/crossmode/crossmode/search/Label;)V"⟩ : MethodName)) hown (mvT hZ (hw _ (List.mem_of_getElem? (i := 37) rfl))) (mvT hZ (hw _ (List.mem_of_getElem? (i := 38) rfl))) (notFace_of_selects (args := #[]) (mvT hZ (hw _ (List.mem_of_getElem? (i := 40) rfl)))) (mvT hZ (hw _ (List.mem_of_getElem? (i := 40) rfl))) (mvT hZ (hw _ (List.mem_of_getElem? (i := 39) rfl))) (by decide) (backOf (W := 0) (own_rm5 l Z a0 hw [] b11 j b15 bl b7 bw (1 : Int32) kl kc7 kw ((List.replicate 4 .null).set i.toNatClampNeg (.ref b13)) [.long q4] (own_sp (List.replicate 4 (.long (0 : Int64))) [.long q2] (i * (1 : Int32)).toNatClampNeg (1 : Int32).toNatClampNeg) T17.heap n0 (Nat.le_trans (Nat.le_trans (Nat.le_trans (Nat.le_trans (Nat.le_trans (Nat.le_trans (Nat.le_trans (Nat.le_trans (Nat.le_trans (Nat.le_trans (Nat.le_trans (Nat.le_trans Z0 K6.1) K7.1) K8.1) K9.1) E10.1) E11.1) K12.1) E13.1) K14.1) E15.1) K16.1) K17.1) Fl17 Fw17 Fm17 FxB ExB Vl17 Vw17 Vwb7 Ov12 (own_le' (by omega)) (own_le' (by omega)) (own_ne' (by omega)) (own_ne' (by omega)) (own_ne' (by omega)) (own_ne' (by omega)) (own_in4 hj) (own_lt4_b hj) (own_c2_1 hj) (by decide) (own_c5_1 hj) rfl (own_vl2_1 hi hj)) hZ (hw _ (List.mem_of_getElem? (i := 41) rfl)) (hw _ (List.mem_of_getElem? (i := 7) rfl)) (by decide) (by decide)) q18a q18c (g := (mkF m 124 #[.val (.int p1), .val (.long q2), .second, .val (.long q3), .second, .val (.long q4), .second, .val (.long q5), .second, .val (.int (1 : Int32)), .val (.int i), .val (.int j), .val (.int k), .val (.ref b6), .val (.ref b7), .val (.ref b8), .val (.ref b9), .val (.ref b10), .val (.ref b11), .val (.ref b13), .val (.ref b15), .unset] [(.ref b15), (.int j), (.ref b11)])) rfl (by rw [hml]; rfl) (Steps.refl _) (argsL := [(.int j), (.ref b15)]) (rest := []) (lenOf pd_0_4 rfl) rfl (by show 2 * 0 + _ ≤ _; exact Nat.le_of_eq rfl) (hb hby at_124) (fun _ _ => ⟨rfl, rfl, (by decide : 10 + 0 ≤ _), (by decide : 39 + 0 ≤ _)⟩)
  dsimp only [Pt.U, Pt.locs, Pt.cells, Pt.slots] at X18 l18 y18 z18 st18 hQ18
  subst l18 y18 z18
  obtain ⟨rfl, N18q, K18, Vl18, Vw18⟩ := hQ18
  have N18 := Fr.app N17 N18q
  have KK18 : Keep h0 T18.heap [] := KK17.trans K18 (fun x hx => Or.inr (own_m2 hx (by omega) (by omega)))
  have z18 := K18.1
  have Fl18 := Fl17.keep K18 (own_n2 (by omega) (by omega))
  have Fw18 := Fw17.keep K18 (own_n2 (by omega) (by omega))
  have Vqa8 := (Vqa.keep K17 (own_n2 (by omega) (by omega))).keep K18 (own_n2 (by omega) (by omega))
  have Vqb8 := (Vqb.keep K17 (own_n2 (by omega) (by omega))).keep K18 (own_n2 (by omega) (by omega))
  have Vz8 := (Vz.keep K17 (own_n2 (by omega) (by omega))).keep K18 (own_n2 (by omega) (by omega))
  have S18 := own_sta S_SAME KK18
  obtain ⟨cq19, kq19, q19a, q19b, q19c⟩ := isOf hZ rfl (((((((E_b11.keep K12).ext E13).keep K14).ext E15).keep K16).keep K17).keep K18)
  obtain ⟨_, _, ⟨T19, L19, k19, n19⟩, -, X19, ⟨Lc19, hQ19, l19, y19, z19⟩, st19⟩ := X18.virtualBack hx (y := (⟨"com/example/crossmode/crossmode/search/LabelSet", "get", "(I)Lcom/example/crossmode/crossmode/search/Label;"⟩ : MethodName)) (z := (⟨"com/example/crossmode/crossmode/search/LabelSet", "get", "(I)Lcom/example/crossmode/crossmode/search/Label;"⟩ : MethodName)) hown (mvT hZ (hw _ (List.mem_of_getElem? (i := 48) rfl))) (mvT hZ (hw _ (List.mem_of_getElem? (i := 49) rfl))) (notFace_of_selects (args := #[]) (mvT hZ (hw _ (List.mem_of_getElem? (i := 51) rfl)))) (mvT hZ (hw _ (List.mem_of_getElem? (i := 51) rfl))) (mvT hZ (hw _ (List.mem_of_getElem? (i := 50) rfl))) (by decide) (backOf (W := 0) (own_rm6_ref l Z a0 hw [] b11 j bl b15 kl (((List.replicate 4 .null).set i.toNatClampNeg (.ref b13)).set j.toNatClampNeg (.ref b15)) T18.heap n0 (Nat.le_trans (Nat.le_trans (Nat.le_trans (Nat.le_trans (Nat.le_trans (Nat.le_trans (Nat.le_trans (Nat.le_trans (Nat.le_trans (Nat.le_trans (Nat.le_trans (Nat.le_trans (Nat.le_trans Z0 K6.1) K7.1) K8.1) K9.1) E10.1) E11.1) K12.1) E13.1) K14.1) E15.1) K16.1) K17.1) K18.1) Fl18 Vl18 hj (own_lj hi hj)) hZ (hw _ (List.mem_of_getElem? (i := 52) rfl)) (hw _ (List.mem_of_getElem? (i := 7) rfl)) (by decide) (by decide)) q19a q19c (g := (mkF m 131 #[.val (.int p1), .val (.long q2), .second, .val (.long q3), .second, .val (.long q4), .second, .val (.long q5), .second, .val (.int (1 : Int32)), .val (.int i), .val (.int j), .val (.int k), .val (.ref b6), .val (.ref b7), .val (.ref b8), .val (.ref b9), .val (.ref b10), .val (.ref b11), .val (.ref b13), .val (.ref b15), .unset] [(.int j), (.ref b11)])) rfl (by rw [hml]; rfl) (Steps.refl _) (argsL := [(.int j)]) (rest := []) (lenOf pd_0_6 rfl) rfl (by show 2 * 0 + _ ≤ _; exact Nat.le_of_eq rfl) (hb hby at_131) (fun _ _ => ⟨rfl, rfl, (by decide : 10 + 0 ≤ _), (by decide : 39 + 0 ≤ _)⟩)
  dsimp only [Pt.U, Pt.locs, Pt.cells, Pt.slots] at X19 l19 y19 z19 st19 hQ19
  subst l19 y19 z19
  obtain ⟨rfl, N19q, e19⟩ := hQ19
  have N19 := Fr.app N18 N19q
  obtain ⟨cq20, kq20, q20a, q20b, q20c⟩ := isOf hZ e19 (((((((E_b11.keep K12).ext E13).keep K14).ext E15).keep K16).keep K17).keep K18)
  obtain ⟨_, _, ⟨T20, L20, k20, n20⟩, -, X20, ⟨Lc20, hQ20, l20, y20, z20⟩, st20⟩ := X19.virtualBack hx (y := (⟨"com/example/crossmode/crossmode/search/LabelSet", "compare", "(I[J)Lcom/example/crossmode/crossmode/search/Dominance;"⟩ : MethodName)) (z := (⟨"com/example/crossmode/crossmode/search/LabelSet", "compare", "(I[J)Lcom/example/crossmode/crossmode/search/Dominance;"⟩ : MethodName)) hown (mvT hZ (hw _ (List.mem_of_getElem? (i := 53) rfl))) (mvT hZ (hw _ (List.mem_of_getElem? (i := 54) rfl))) (notFace_of_selects (args := #[]) (mvT hZ (hw _ (List.mem_of_getElem? (i := 56) rfl)))) (mvT hZ (hw _ (List.mem_of_getElem? (i := 56) rfl))) (mvT hZ (hw _ (List.mem_of_getElem? (i := 55) rfl))) (by decide) (backOf (W := 0) (own_rm7_1 l Z a0 hw [] b11 j b9 bw kw kc9 (own_sp (own_sp (List.replicate 4 (.long (0 : Int64))) [.long q2] (i * (1 : Int32)).toNatClampNeg (1 : Int32).toNatClampNeg) [.long q4] (j * (1 : Int32)).toNatClampNeg (1 : Int32).toNatClampNeg) q4 w21 T18.heap n0 (Nat.le_trans (Nat.le_trans (Nat.le_trans (Nat.le_trans (Nat.le_trans (Nat.le_trans (Nat.le_trans (Nat.le_trans (Nat.le_trans (Nat.le_trans (Nat.le_trans (Nat.le_trans (Nat.le_trans Z0 K6.1) K7.1) K8.1) K9.1) E10.1) E11.1) K12.1) E13.1) K14.1) E15.1) K16.1) K17.1) K18.1) Fw18 Vw18 Vqb8 S18 hj (own_vj_1_0 hi hj)) hZ (hw _ (List.mem_of_getElem? (i := 57) rfl)) (hw _ (List.mem_of_getElem? (i := 7) rfl)) (by decide) (by decide)) q20a q20c (g := (mkF m 145 #[.val (.int p1), .val (.long q2), .second, .val (.long q3), .second, .val (.long q4), .second, .val (.long q5), .second, .val (.int (1 : Int32)), .val (.int i), .val (.int j), .val (.int k), .val (.ref b6), .val (.ref b7), .val (.ref b8), .val (.ref b9), .val (.ref b10), .val (.ref b11), .val (.ref b13), .val (.ref b15), .unset] [(.ref b9), (.int j), (.ref b11)])) rfl (by rw [hml]; rfl) (Steps.refl _) (argsL := [(.int j), (.ref b9)]) (rest := []) (lenOf pd_0_7 rfl) rfl (by show 2 * 0 + _ ≤ _; exact Nat.le_of_eq rfl) (hb hby at_145) (fun _ _ => ⟨rfl, e19, (by decide : 10 + 0 ≤ _), (by decide : 39 + 0 ≤ _)⟩)
  dsimp only [Pt.U, Pt.locs, Pt.cells, Pt.slots] at X20 l20 y20 z20 st20 hQ20
  subst l20 y20 z20
  obtain ⟨rfl, N20q, e20⟩ := hQ20
  have N20 := Fr.app N19 N20q
  obtain ⟨T22, X22, e22, st22⟩ := getS2 X20 hx hZ hown (host := "") (Or.inl (hw _ (List.mem_of_getElem? (i := 61) rfl))) Via.refl e20 S18 (g := (mkF m 148 #[.val (.int p1), .val (.long q2), .second, .val (.long q3), .second, .val (.long q4), .second, .val (.long q5), .second, .val (.int (1 : Int32)), .val (.int i), .val (.int j), .val (.int k), .val (.ref b6), .val (.ref b7), .val (.ref b8), .val (.ref b9), .val (.ref b10), .val (.ref b11), .val (.ref b13), .val (.ref b15), .unset] [(.ref w21)])) rfl (hb hby at_148)
  have E18 := (((((((E_b11.keep K12).ext E13).keep K14).ext E15).keep K16).keep K17).keep K18)
  have Z18 : n0 ≤ T18.heap.size := (Nat.le_trans (Nat.le_trans (Nat.le_trans (Nat.le_trans (Nat.le_trans (Nat.le_trans (Nat.le_trans (Nat.le_trans (Nat.le_trans (Nat.le_trans (Nat.le_trans (Nat.le_trans (Nat.le_trans Z0 K6.1) K7.1) K8.1) K9.1) E10.1) E11.1) K12.1) E13.1) K14.1) E15.1) K16.1) K17.1) K18.1)
  obtain ⟨T23, L23, X23, e23, N23, s23⟩ := own_B1_1 (.val (.int p1)) (.val (.long q2)) (.second) (.val (.long q3)) (.second) (.val (.long q4)) (.second) (.val (.long q5)) (.second) (.val (.int (1 : Int32))) (.val (.int k)) (.val (.ref b6)) (.val (.ref b7)) (.val (.ref b9)) (.val (.ref b10)) (.val (.ref b15)) i j b8 b11 b13 n0 bl bw kl kw kc8 (((List.replicate 4 .null).set i.toNatClampNeg (.ref b13)).set j.toNatClampNeg (.ref b15)) (own_sp (own_sp (List.replicate 4 (.long (0 : Int64))) [.long q2] (i * (1 : Int32)).toNatClampNeg (1 : Int32).toNatClampNeg) [.long q4] (j * (1 : Int32)).toNatClampNeg (1 : Int32).toNatClampNeg) q2 w21 X22 hx hZ hw hby hml hown e22 N20 Z18 (by decide) (by decide) Fl18 Fw18 Vl18 Vw18 Vqa8 hi (own_li hi hj) (own_vi_1_0 hi hj) E18 S18
  obtain ⟨T24, L24, X24, e24, N24, s24⟩ := own_B2_1 (.val (.int p1)) (.val (.long q2)) (.second) (.val (.long q3)) (.second) (.val (.long q4)) (.second) (.val (.long q5)) (.second) (.val (.int (1 : Int32))) (.val (.ref b6)) (.val (.ref b7)) (.val (.ref b8)) (.val (.ref b9)) (.val (.ref b13)) (.val (.ref b15)) i j k b10 b11 n0 bl bw kl kw k10 (((List.replicate 4 .null).set i.toNatClampNeg (.ref b13)).set j.toNatClampNeg (.ref b15)) (own_sp (own_sp (List.replicate 4 (.long (0 : Int64))) [.long q2] (i * (1 : Int32)).toNatClampNeg (1 : Int32).toNatClampNeg) [.long q4] (j * (1 : Int32)).toNatClampNeg (1 : Int32).toNatClampNeg) (0 : Int64) w21 X23 hx hZ hw hby hml hown e23 N23 Z18 (by decide) (by decide) Fl18 Fw18 Vl18 Vw18 Vz8 hk (own_lk hi hj hk) (own_vk_1_0 hi hj hk) E18 S18
  obtain ⟨fs, hr, hrun, hended, hW, hsame⟩ := X24.leave (v := some (.int (1 : Int32))) (fun h => by rw [Bd.returns] at h; cases h)
  refine ⟨_, _, pre0 _ ?_, hrun, hended, _, _, rfl, ?_, ⟨_, rfl⟩, hW, hsame.mono (by decide) (by decide)⟩
  · show Steps p.tables e below (s₁.setTop (mkF m 0 #[.val (.int p1), .val (.long q2), .second, .val (.long q3), .second, .val (.long q4), .second, .val (.long q5), .second, .unset, .unset, .unset, .unset, .unset, .unset, .unset, .unset, .unset, .unset, .unset, .unset, .unset] [])) _
    refine XS.iconst X0.here hx rfl (hb hby at_0) ?_
    show Steps p.tables e below (s₁.setTop (mkF m 1 #[.val (.int p1), .val (.long q2), .second, .val (.long q3), .second, .val (.long q4), .second, .val (.long q5), .second, .unset, .unset, .unset, .unset, .unset, .unset, .unset, .unset, .unset, .unset, .unset, .unset, .unset] [(.int (1 : Int32))])) _
    refine XS.iloadN X0.here hx rfl (hb hby at_1) rfl ?_
    show Steps p.tables e below (s₁.setTop (mkF m 2 #[.val (.int p1), .val (.long q2), .second, .val (.long q3), .second, .val (.long q4), .second, .val (.long q5), .second, .unset, .unset, .unset, .unset, .unset, .unset, .unset, .unset, .unset, .unset, .unset, .unset, .unset] [(.int p1), (.int (1 : Int32))])) _
    refine XS.iconst X0.here hx rfl (hb hby at_2) ?_
    show Steps p.tables e below (s₁.setTop (mkF m 3 #[.val (.int p1), .val (.long q2), .second, .val (.long q3), .second, .val (.long q4), .second, .val (.long q5), .second, .unset, .unset, .unset, .unset, .unset, .unset, .unset, .unset, .unset, .unset, .unset, .unset, .unset] [(.int (1 : Int32)), (.int p1), (.int (1 : Int32))])) _
    refine XS.iand X0.here hx rfl (hb hby at_3) rfl ?_
    show Steps p.tables e below (s₁.setTop (mkF m 4 #[.val (.int p1), .val (.long q2), .second, .val (.long q3), .second, .val (.long q4), .second, .val (.long q5), .second, .unset, .unset, .unset, .unset, .unset, .unset, .unset, .unset, .unset, .unset, .unset, .unset, .unset] [(.int (p1 &&& (1 : Int32))), (.int (1 : Int32))])) _
    refine XS.iadd X0.here hx rfl (hb hby at_4) rfl ?_
    show Steps p.tables e below (s₁.setTop (mkF m 5 #[.val (.int p1), .val (.long q2), .second, .val (.long q3), .second, .val (.long q4), .second, .val (.long q5), .second, .unset, .unset, .unset, .unset, .unset, .unset, .unset, .unset, .unset, .unset, .unset, .unset, .unset] [(.int ((1 : Int32) + (p1 &&& (1 : Int32))))])) _
    rw [hm]
    show Steps p.tables e below (s₁.setTop (mkF m 5 #[.val (.int p1), .val (.long q2), .second, .val (.long q3), .second, .val (.long q4), .second, .val (.long q5), .second, .unset, .unset, .unset, .unset, .unset, .unset, .unset, .unset, .unset, .unset, .unset, .unset, .unset] [(.int (1 : Int32))])) _
    refine XS.istore X0.here hx rfl (hb hby at_5) rfl (l' := #[.val (.int p1), .val (.long q2), .second, .val (.long q3), .second, .val (.long q4), .second, .val (.long q5), .second, .val (.int (1 : Int32)), .unset, .unset, .unset, .unset, .unset, .unset, .unset, .unset, .unset, .unset, .unset, .unset]) rfl ?_
    show Steps p.tables e below (s₁.setTop (mkF m 7 #[.val (.int p1), .val (.long q2), .second, .val (.long q3), .second, .val (.long q4), .second, .val (.long q5), .second, .val (.int (1 : Int32)), .unset, .unset, .unset, .unset, .unset, .unset, .unset, .unset, .unset, .unset, .unset, .unset] [])) _
    refine XS.iloadN X0.here hx rfl (hb hby at_7) rfl ?_
    show Steps p.tables e below (s₁.setTop (mkF m 8 #[.val (.int p1), .val (.long q2), .second, .val (.long q3), .second, .val (.long q4), .second, .val (.long q5), .second, .val (.int (1 : Int32)), .unset, .unset, .unset, .unset, .unset, .unset, .unset, .unset, .unset, .unset, .unset, .unset] [(.int p1)])) _
    refine XS.iconst X0.here hx rfl (hb hby at_8) ?_
    show Steps p.tables e below (s₁.setTop (mkF m 9 #[.val (.int p1), .val (.long q2), .second, .val (.long q3), .second, .val (.long q4), .second, .val (.long q5), .second, .val (.int (1 : Int32)), .unset, .unset, .unset, .unset, .unset, .unset, .unset, .unset, .unset, .unset, .unset, .unset] [(.int (1 : Int32)), (.int p1)])) _
    refine XS.iushr X0.here hx rfl (hb hby at_9) rfl ?_
    show Steps p.tables e below (s₁.setTop (mkF m 10 #[.val (.int p1), .val (.long q2), .second, .val (.long q3), .second, .val (.long q4), .second, .val (.long q5), .second, .val (.int (1 : Int32)), .unset, .unset, .unset, .unset, .unset, .unset, .unset, .unset, .unset, .unset, .unset, .unset] [(.int ((p1.toUInt32 >>> ((1 : Int32) &&& 31).toUInt32).toInt32))])) _
    refine XS.iconst X0.here hx rfl (hb hby at_10) ?_
    show Steps p.tables e below (s₁.setTop (mkF m 11 #[.val (.int p1), .val (.long q2), .second, .val (.long q3), .second, .val (.long q4), .second, .val (.long q5), .second, .val (.int (1 : Int32)), .unset, .unset, .unset, .unset, .unset, .unset, .unset, .unset, .unset, .unset, .unset, .unset] [(.int (3 : Int32)), (.int ((p1.toUInt32 >>> ((1 : Int32) &&& 31).toUInt32).toInt32))])) _
    refine XS.iand X0.here hx rfl (hb hby at_11) rfl ?_
    show Steps p.tables e below (s₁.setTop (mkF m 12 #[.val (.int p1), .val (.long q2), .second, .val (.long q3), .second, .val (.long q4), .second, .val (.long q5), .second, .val (.int (1 : Int32)), .unset, .unset, .unset, .unset, .unset, .unset, .unset, .unset, .unset, .unset, .unset, .unset] [(.int (((p1.toUInt32 >>> ((1 : Int32) &&& 31).toUInt32).toInt32) &&& (3 : Int32)))])) _
    rw [ei]
    show Steps p.tables e below (s₁.setTop (mkF m 12 #[.val (.int p1), .val (.long q2), .second, .val (.long q3), .second, .val (.long q4), .second, .val (.long q5), .second, .val (.int (1 : Int32)), .unset, .unset, .unset, .unset, .unset, .unset, .unset, .unset, .unset, .unset, .unset, .unset] [(.int i)])) _
    refine XS.istore X0.here hx rfl (hb hby at_12) rfl (l' := #[.val (.int p1), .val (.long q2), .second, .val (.long q3), .second, .val (.long q4), .second, .val (.long q5), .second, .val (.int (1 : Int32)), .val (.int i), .unset, .unset, .unset, .unset, .unset, .unset, .unset, .unset, .unset, .unset, .unset]) rfl ?_
    show Steps p.tables e below (s₁.setTop (mkF m 14 #[.val (.int p1), .val (.long q2), .second, .val (.long q3), .second, .val (.long q4), .second, .val (.long q5), .second, .val (.int (1 : Int32)), .val (.int i), .unset, .unset, .unset, .unset, .unset, .unset, .unset, .unset, .unset, .unset, .unset] [])) _
    refine XS.iloadN X0.here hx rfl (hb hby at_14) rfl ?_
    show Steps p.tables e below (s₁.setTop (mkF m 15 #[.val (.int p1), .val (.long q2), .second, .val (.long q3), .second, .val (.long q4), .second, .val (.long q5), .second, .val (.int (1 : Int32)), .val (.int i), .unset, .unset, .unset, .unset, .unset, .unset, .unset, .unset, .unset, .unset, .unset] [(.int p1)])) _
    refine XS.iconst X0.here hx rfl (hb hby at_15) ?_
    show Steps p.tables e below (s₁.setTop (mkF m 16 #[.val (.int p1), .val (.long q2), .second, .val (.long q3), .second, .val (.long q4), .second, .val (.long q5), .second, .val (.int (1 : Int32)), .val (.int i), .unset, .unset, .unset, .unset, .unset, .unset, .unset, .unset, .unset, .unset, .unset] [(.int (3 : Int32)), (.int p1)])) _
    refine XS.iushr X0.here hx rfl (hb hby at_16) rfl ?_
    show Steps p.tables e below (s₁.setTop (mkF m 17 #[.val (.int p1), .val (.long q2), .second, .val (.long q3), .second, .val (.long q4), .second, .val (.long q5), .second, .val (.int (1 : Int32)), .val (.int i), .unset, .unset, .unset, .unset, .unset, .unset, .unset, .unset, .unset, .unset, .unset] [(.int ((p1.toUInt32 >>> ((3 : Int32) &&& 31).toUInt32).toInt32))])) _
    refine XS.iconst X0.here hx rfl (hb hby at_17) ?_
    show Steps p.tables e below (s₁.setTop (mkF m 18 #[.val (.int p1), .val (.long q2), .second, .val (.long q3), .second, .val (.long q4), .second, .val (.long q5), .second, .val (.int (1 : Int32)), .val (.int i), .unset, .unset, .unset, .unset, .unset, .unset, .unset, .unset, .unset, .unset, .unset] [(.int (3 : Int32)), (.int ((p1.toUInt32 >>> ((3 : Int32) &&& 31).toUInt32).toInt32))])) _
    refine XS.iand X0.here hx rfl (hb hby at_18) rfl ?_
    show Steps p.tables e below (s₁.setTop (mkF m 19 #[.val (.int p1), .val (.long q2), .second, .val (.long q3), .second, .val (.long q4), .second, .val (.long q5), .second, .val (.int (1 : Int32)), .val (.int i), .unset, .unset, .unset, .unset, .unset, .unset, .unset, .unset, .unset, .unset, .unset] [(.int (((p1.toUInt32 >>> ((3 : Int32) &&& 31).toUInt32).toInt32) &&& (3 : Int32)))])) _
    rw [ej]
    show Steps p.tables e below (s₁.setTop (mkF m 19 #[.val (.int p1), .val (.long q2), .second, .val (.long q3), .second, .val (.long q4), .second, .val (.long q5), .second, .val (.int (1 : Int32)), .val (.int i), .unset, .unset, .unset, .unset, .unset, .unset, .unset, .unset, .unset, .unset, .unset] [(.int j)])) _
    refine XS.istore X0.here hx rfl (hb hby at_19) rfl (l' := #[.val (.int p1), .val (.long q2), .second, .val (.long q3), .second, .val (.long q4), .second, .val (.long q5), .second, .val (.int (1 : Int32)), .val (.int i), .val (.int j), .unset, .unset, .unset, .unset, .unset, .unset, .unset, .unset, .unset, .unset]) rfl ?_
    show Steps p.tables e below (s₁.setTop (mkF m 21 #[.val (.int p1), .val (.long q2), .second, .val (.long q3), .second, .val (.long q4), .second, .val (.long q5), .second, .val (.int (1 : Int32)), .val (.int i), .val (.int j), .unset, .unset, .unset, .unset, .unset, .unset, .unset, .unset, .unset, .unset] [])) _
    refine XS.iloadN X0.here hx rfl (hb hby at_21) rfl ?_
    show Steps p.tables e below (s₁.setTop (mkF m 22 #[.val (.int p1), .val (.long q2), .second, .val (.long q3), .second, .val (.long q4), .second, .val (.long q5), .second, .val (.int (1 : Int32)), .val (.int i), .val (.int j), .unset, .unset, .unset, .unset, .unset, .unset, .unset, .unset, .unset, .unset] [(.int p1)])) _
    refine XS.iconst X0.here hx rfl (hb hby at_22) ?_
    show Steps p.tables e below (s₁.setTop (mkF m 23 #[.val (.int p1), .val (.long q2), .second, .val (.long q3), .second, .val (.long q4), .second, .val (.long q5), .second, .val (.int (1 : Int32)), .val (.int i), .val (.int j), .unset, .unset, .unset, .unset, .unset, .unset, .unset, .unset, .unset, .unset] [(.int (5 : Int32)), (.int p1)])) _
    refine XS.iushr X0.here hx rfl (hb hby at_23) rfl ?_
    show Steps p.tables e below (s₁.setTop (mkF m 24 #[.val (.int p1), .val (.long q2), .second, .val (.long q3), .second, .val (.long q4), .second, .val (.long q5), .second, .val (.int (1 : Int32)), .val (.int i), .val (.int j), .unset, .unset, .unset, .unset, .unset, .unset, .unset, .unset, .unset, .unset] [(.int ((p1.toUInt32 >>> ((5 : Int32) &&& 31).toUInt32).toInt32))])) _
    refine XS.iconst X0.here hx rfl (hb hby at_24) ?_
    show Steps p.tables e below (s₁.setTop (mkF m 25 #[.val (.int p1), .val (.long q2), .second, .val (.long q3), .second, .val (.long q4), .second, .val (.long q5), .second, .val (.int (1 : Int32)), .val (.int i), .val (.int j), .unset, .unset, .unset, .unset, .unset, .unset, .unset, .unset, .unset, .unset] [(.int (3 : Int32)), (.int ((p1.toUInt32 >>> ((5 : Int32) &&& 31).toUInt32).toInt32))])) _
    refine XS.iand X0.here hx rfl (hb hby at_25) rfl ?_
    show Steps p.tables e below (s₁.setTop (mkF m 26 #[.val (.int p1), .val (.long q2), .second, .val (.long q3), .second, .val (.long q4), .second, .val (.long q5), .second, .val (.int (1 : Int32)), .val (.int i), .val (.int j), .unset, .unset, .unset, .unset, .unset, .unset, .unset, .unset, .unset, .unset] [(.int (((p1.toUInt32 >>> ((5 : Int32) &&& 31).toUInt32).toInt32) &&& (3 : Int32)))])) _
    rw [ek]
    show Steps p.tables e below (s₁.setTop (mkF m 26 #[.val (.int p1), .val (.long q2), .second, .val (.long q3), .second, .val (.long q4), .second, .val (.long q5), .second, .val (.int (1 : Int32)), .val (.int i), .val (.int j), .unset, .unset, .unset, .unset, .unset, .unset, .unset, .unset, .unset, .unset] [(.int k)])) _
    refine XS.istore X0.here hx rfl (hb hby at_26) rfl (l' := #[.val (.int p1), .val (.long q2), .second, .val (.long q3), .second, .val (.long q4), .second, .val (.long q5), .second, .val (.int (1 : Int32)), .val (.int i), .val (.int j), .val (.int k), .unset, .unset, .unset, .unset, .unset, .unset, .unset, .unset, .unset]) rfl ?_
    show Steps p.tables e below (s₁.setTop (mkF m 28 #[.val (.int p1), .val (.long q2), .second, .val (.long q3), .second, .val (.long q4), .second, .val (.long q5), .second, .val (.int (1 : Int32)), .val (.int i), .val (.int j), .val (.int k), .unset, .unset, .unset, .unset, .unset, .unset, .unset, .unset, .unset] [])) _
    refine XS.iload X0.here hx rfl (hb hby at_28) rfl ?_
    show Steps p.tables e below (s₁.setTop (mkF m 30 #[.val (.int p1), .val (.long q2), .second, .val (.long q3), .second, .val (.long q4), .second, .val (.long q5), .second, .val (.int (1 : Int32)), .val (.int i), .val (.int j), .val (.int k), .unset, .unset, .unset, .unset, .unset, .unset, .unset, .unset, .unset] [(.int (1 : Int32))])) _
    refine XS.lloadN X0.here hx rfl (hb hby at_30) rfl ?_
    show Steps p.tables e below (s₁.setTop (mkF m 31 #[.val (.int p1), .val (.long q2), .second, .val (.long q3), .second, .val (.long q4), .second, .val (.long q5), .second, .val (.int (1 : Int32)), .val (.int i), .val (.int j), .val (.int k), .unset, .unset, .unset, .unset, .unset, .unset, .unset, .unset, .unset] [(.long q2), (.int (1 : Int32))])) _
    refine XS.lloadN X0.here hx rfl (hb hby at_31) rfl ?_
    show Steps p.tables e below (s₁.setTop (mkF m 32 #[.val (.int p1), .val (.long q2), .second, .val (.long q3), .second, .val (.long q4), .second, .val (.long q5), .second, .val (.int (1 : Int32)), .val (.int i), .val (.int j), .val (.int k), .unset, .unset, .unset, .unset, .unset, .unset, .unset, .unset, .unset] [(.long q3), (.long q2), (.int (1 : Int32))])) _
    refine st6 _ ?_
    show Steps p.tables e below (T6.setTop (mkF m 35 #[.val (.int p1), .val (.long q2), .second, .val (.long q3), .second, .val (.long q4), .second, .val (.long q5), .second, .val (.int (1 : Int32)), .val (.int i), .val (.int j), .val (.int k), .unset, .unset, .unset, .unset, .unset, .unset, .unset, .unset, .unset] [(.ref b6)])) _
    refine XS.astore X6.here hx rfl (hb hby at_35) rfl rfl (l' := #[.val (.int p1), .val (.long q2), .second, .val (.long q3), .second, .val (.long q4), .second, .val (.long q5), .second, .val (.int (1 : Int32)), .val (.int i), .val (.int j), .val (.int k), .val (.ref b6), .unset, .unset, .unset, .unset, .unset, .unset, .unset, .unset]) rfl ?_
    show Steps p.tables e below (T6.setTop (mkF m 37 #[.val (.int p1), .val (.long q2), .second, .val (.long q3), .second, .val (.long q4), .second, .val (.long q5), .second, .val (.int (1 : Int32)), .val (.int i), .val (.int j), .val (.int k), .val (.ref b6), .unset, .unset, .unset, .unset, .unset, .unset, .unset, .unset] [])) _
    refine XS.iload X6.here hx rfl (hb hby at_37) rfl ?_
    show Steps p.tables e below (T6.setTop (mkF m 39 #[.val (.int p1), .val (.long q2), .second, .val (.long q3), .second, .val (.long q4), .second, .val (.long q5), .second, .val (.int (1 : Int32)), .val (.int i), .val (.int j), .val (.int k), .val (.ref b6), .unset, .unset, .unset, .unset, .unset, .unset, .unset, .unset] [(.int (1 : Int32))])) _
    refine XS.lload X6.here hx rfl (hb hby at_39) rfl ?_
    show Steps p.tables e below (T6.setTop (mkF m 41 #[.val (.int p1), .val (.long q2), .second, .val (.long q3), .second, .val (.long q4), .second, .val (.long q5), .second, .val (.int (1 : Int32)), .val (.int i), .val (.int j), .val (.int k), .val (.ref b6), .unset, .unset, .unset, .unset, .unset, .unset, .unset, .unset] [(.long q4), (.int (1 : Int32))])) _
    refine XS.lload X6.here hx rfl (hb hby at_41) rfl ?_
    show Steps p.tables e below (T6.setTop (mkF m 43 #[.val (.int p1), .val (.long q2), .second, .val (.long q3), .second, .val (.long q4), .second, .val (.long q5), .second, .val (.int (1 : Int32)), .val (.int i), .val (.int j), .val (.int k), .val (.ref b6), .unset, .unset, .unset, .unset, .unset, .unset, .unset, .unset] [(.long q5), (.long q4), (.int (1 : Int32))])) _
    refine st7 _ ?_
    show Steps p.tables e below (T7.setTop (mkF m 46 #[.val (.int p1), .val (.long q2), .second, .val (.long q3), .second, .val (.long q4), .second, .val (.long q5), .second, .val (.int (1 : Int32)), .val (.int i), .val (.int j), .val (.int k), .val (.ref b6), .unset, .unset, .unset, .unset, .unset, .unset, .unset, .unset] [(.ref b7)])) _
    refine XS.astore X7.here hx rfl (hb hby at_46) rfl rfl (l' := #[.val (.int p1), .val (.long q2), .second, .val (.long q3), .second, .val (.long q4), .second, .val (.long q5), .second, .val (.int (1 : Int32)), .val (.int i), .val (.int j), .val (.int k), .val (.ref b6), .val (.ref b7), .unset, .unset, .unset, .unset, .unset, .unset, .unset]) rfl ?_
    show Steps p.tables e below (T7.setTop (mkF m 48 #[.val (.int p1), .val (.long q2), .second, .val (.long q3), .second, .val (.long q4), .second, .val (.long q5), .second, .val (.int (1 : Int32)), .val (.int i), .val (.int j), .val (.int k), .val (.ref b6), .val (.ref b7), .unset, .unset, .unset, .unset, .unset, .unset, .unset] [])) _
    refine XS.iload X7.here hx rfl (hb hby at_48) rfl ?_
    show Steps p.tables e below (T7.setTop (mkF m 50 #[.val (.int p1), .val (.long q2), .second, .val (.long q3), .second, .val (.long q4), .second, .val (.long q5), .second, .val (.int (1 : Int32)), .val (.int i), .val (.int j), .val (.int k), .val (.ref b6), .val (.ref b7), .unset, .unset, .unset, .unset, .unset, .unset, .unset] [(.int (1 : Int32))])) _
    refine XS.lloadN X7.here hx rfl (hb hby at_50) rfl ?_
    show Steps p.tables e below (T7.setTop (mkF m 51 #[.val (.int p1), .val (.long q2), .second, .val (.long q3), .second, .val (.long q4), .second, .val (.long q5), .second, .val (.int (1 : Int32)), .val (.int i), .val (.int j), .val (.int k), .val (.ref b6), .val (.ref b7), .unset, .unset, .unset, .unset, .unset, .unset, .unset] [(.long q2), (.int (1 : Int32))])) _
    refine XS.lloadN X7.here hx rfl (hb hby at_51) rfl ?_
    show Steps p.tables e below (T7.setTop (mkF m 52 #[.val (.int p1), .val (.long q2), .second, .val (.long q3), .second, .val (.long q4), .second, .val (.long q5), .second, .val (.int (1 : Int32)), .val (.int i), .val (.int j), .val (.int k), .val (.ref b6), .val (.ref b7), .unset, .unset, .unset, .unset, .unset, .unset, .unset] [(.long q3), (.long q2), (.int (1 : Int32))])) _
    refine st8 _ ?_
    show Steps p.tables e below (T8.setTop (mkF m 55 #[.val (.int p1), .val (.long q2), .second, .val (.long q3), .second, .val (.long q4), .second, .val (.long q5), .second, .val (.int (1 : Int32)), .val (.int i), .val (.int j), .val (.int k), .val (.ref b6), .val (.ref b7), .unset, .unset, .unset, .unset, .unset, .unset, .unset] [(.ref b8)])) _
    refine XS.astore X8.here hx rfl (hb hby at_55) rfl rfl (l' := #[.val (.int p1), .val (.long q2), .second, .val (.long q3), .second, .val (.long q4), .second, .val (.long q5), .second, .val (.int (1 : Int32)), .val (.int i), .val (.int j), .val (.int k), .val (.ref b6), .val (.ref b7), .val (.ref b8), .unset, .unset, .unset, .unset, .unset, .unset]) rfl ?_
    show Steps p.tables e below (T8.setTop (mkF m 57 #[.val (.int p1), .val (.long q2), .second, .val (.long q3), .second, .val (.long q4), .second, .val (.long q5), .second, .val (.int (1 : Int32)), .val (.int i), .val (.int j), .val (.int k), .val (.ref b6), .val (.ref b7), .val (.ref b8), .unset, .unset, .unset, .unset, .unset, .unset] [])) _
    refine XS.iload X8.here hx rfl (hb hby at_57) rfl ?_
    show Steps p.tables e below (T8.setTop (mkF m 59 #[.val (.int p1), .val (.long q2), .second, .val (.long q3), .second, .val (.long q4), .second, .val (.long q5), .second, .val (.int (1 : Int32)), .val (.int i), .val (.int j), .val (.int k), .val (.ref b6), .val (.ref b7), .val (.ref b8), .unset, .unset, .unset, .unset, .unset, .unset] [(.int (1 : Int32))])) _
    refine XS.lload X8.here hx rfl (hb hby at_59) rfl ?_
    show Steps p.tables e below (T8.setTop (mkF m 61 #[.val (.int p1), .val (.long q2), .second, .val (.long q3), .second, .val (.long q4), .second, .val (.long q5), .second, .val (.int (1 : Int32)), .val (.int i), .val (.int j), .val (.int k), .val (.ref b6), .val (.ref b7), .val (.ref b8), .unset, .unset, .unset, .unset, .unset, .unset] [(.long q4), (.int (1 : Int32))])) _
    refine XS.lload X8.here hx rfl (hb hby at_61) rfl ?_
    show Steps p.tables e below (T8.setTop (mkF m 63 #[.val (.int p1), .val (.long q2), .second, .val (.long q3), .second, .val (.long q4), .second, .val (.long q5), .second, .val (.int (1 : Int32)), .val (.int i), .val (.int j), .val (.int k), .val (.ref b6), .val (.ref b7), .val (.ref b8), .unset, .unset, .unset, .unset, .unset, .unset] [(.long q5), (.long q4), (.int (1 : Int32))])) _
    refine st9 _ ?_
    show Steps p.tables e below (T9.setTop (mkF m 66 #[.val (.int p1), .val (.long q2), .second, .val (.long q3), .second, .val (.long q4), .second, .val (.long q5), .second, .val (.int (1 : Int32)), .val (.int i), .val (.int j), .val (.int k), .val (.ref b6), .val (.ref b7), .val (.ref b8), .unset, .unset, .unset, .unset, .unset, .unset] [(.ref b9)])) _
    refine XS.astore X9.here hx rfl (hb hby at_66) rfl rfl (l' := #[.val (.int p1), .val (.long q2), .second, .val (.long q3), .second, .val (.long q4), .second, .val (.long q5), .second, .val (.int (1 : Int32)), .val (.int i), .val (.int j), .val (.int k), .val (.ref b6), .val (.ref b7), .val (.ref b8), .val (.ref b9), .unset, .unset, .unset, .unset, .unset]) rfl ?_
    show Steps p.tables e below (T9.setTop (mkF m 68 #[.val (.int p1), .val (.long q2), .second, .val (.long q3), .second, .val (.long q4), .second, .val (.long q5), .second, .val (.int (1 : Int32)), .val (.int i), .val (.int j), .val (.int k), .val (.ref b6), .val (.ref b7), .val (.ref b8), .val (.ref b9), .unset, .unset, .unset, .unset, .unset] [])) _
    refine XS.iload X9.here hx rfl (hb hby at_68) rfl ?_
    show Steps p.tables e below (T9.setTop (mkF m 70 #[.val (.int p1), .val (.long q2), .second, .val (.long q3), .second, .val (.long q4), .second, .val (.long q5), .second, .val (.int (1 : Int32)), .val (.int i), .val (.int j), .val (.int k), .val (.ref b6), .val (.ref b7), .val (.ref b8), .val (.ref b9), .unset, .unset, .unset, .unset, .unset] [(.int (1 : Int32))])) _
    refine st10 _ ?_
    show Steps p.tables e below (T10.setTop (mkF m 72 #[.val (.int p1), .val (.long q2), .second, .val (.long q3), .second, .val (.long q4), .second, .val (.long q5), .second, .val (.int (1 : Int32)), .val (.int i), .val (.int j), .val (.int k), .val (.ref b6), .val (.ref b7), .val (.ref b8), .val (.ref b9), .unset, .unset, .unset, .unset, .unset] [(.ref b10)])) _
    refine XS.astore X10.here hx rfl (hb hby at_72) rfl rfl (l' := #[.val (.int p1), .val (.long q2), .second, .val (.long q3), .second, .val (.long q4), .second, .val (.long q5), .second, .val (.int (1 : Int32)), .val (.int i), .val (.int j), .val (.int k), .val (.ref b6), .val (.ref b7), .val (.ref b8), .val (.ref b9), .val (.ref b10), .unset, .unset, .unset, .unset]) rfl ?_
    show Steps p.tables e below (T10.setTop (mkF m 74 #[.val (.int p1), .val (.long q2), .second, .val (.long q3), .second, .val (.long q4), .second, .val (.long q5), .second, .val (.int (1 : Int32)), .val (.int i), .val (.int j), .val (.int k), .val (.ref b6), .val (.ref b7), .val (.ref b8), .val (.ref b9), .val (.ref b10), .unset, .unset, .unset, .unset] [])) _
    refine st11 _ ?_
    show Steps p.tables e below (T11.setTop (mkF m 77 #[.val (.int p1), .val (.long q2), .second, .val (.long q3), .second, .val (.long q4), .second, .val (.long q5), .second, .val (.int (1 : Int32)), .val (.int i), .val (.int j), .val (.int k), .val (.ref b6), .val (.ref b7), .val (.ref b8), .val (.ref b9), .val (.ref b10), .unset, .unset, .unset, .unset] [(.ref b11)])) _
    refine XS.dup X11.here hx rfl (hb hby at_77) rfl rfl ?_
    show Steps p.tables e below (T11.setTop (mkF m 78 #[.val (.int p1), .val (.long q2), .second, .val (.long q3), .second, .val (.long q4), .second, .val (.long q5), .second, .val (.int (1 : Int32)), .val (.int i), .val (.int j), .val (.int k), .val (.ref b6), .val (.ref b7), .val (.ref b8), .val (.ref b9), .val (.ref b10), .unset, .unset, .unset, .unset] [(.ref b11), (.ref b11)])) _
    refine XS.iload X11.here hx rfl (hb hby at_78) rfl ?_
    show Steps p.tables e below (T11.setTop (mkF m 80 #[.val (.int p1), .val (.long q2), .second, .val (.long q3), .second, .val (.long q4), .second, .val (.long q5), .second, .val (.int (1 : Int32)), .val (.int i), .val (.int j), .val (.int k), .val (.ref b6), .val (.ref b7), .val (.ref b8), .val (.ref b9), .val (.ref b10), .unset, .unset, .unset, .unset] [(.int (1 : Int32)), (.ref b11), (.ref b11)])) _
    refine st12.trans ?_
    show Steps p.tables e below (T12.setTop (mkF m 83 #[.val (.int p1), .val (.long q2), .second, .val (.long q3), .second, .val (.long q4), .second, .val (.long q5), .second, .val (.int (1 : Int32)), .val (.int i), .val (.int j), .val (.int k), .val (.ref b6), .val (.ref b7), .val (.ref b8), .val (.ref b9), .val (.ref b10), .unset, .unset, .unset, .unset] [(.ref b11)])) _
    refine XS.astore X12.here hx rfl (hb hby at_83) rfl rfl (l' := #[.val (.int p1), .val (.long q2), .second, .val (.long q3), .second, .val (.long q4), .second, .val (.long q5), .second, .val (.int (1 : Int32)), .val (.int i), .val (.int j), .val (.int k), .val (.ref b6), .val (.ref b7), .val (.ref b8), .val (.ref b9), .val (.ref b10), .val (.ref b11), .unset, .unset, .unset]) rfl ?_
    show Steps p.tables e below (T12.setTop (mkF m 85 #[.val (.int p1), .val (.long q2), .second, .val (.long q3), .second, .val (.long q4), .second, .val (.long q5), .second, .val (.int (1 : Int32)), .val (.int i), .val (.int j), .val (.int k), .val (.ref b6), .val (.ref b7), .val (.ref b8), .val (.ref b9), .val (.ref b10), .val (.ref b11), .unset, .unset, .unset] [])) _
    refine st13 _ ?_
    show Steps p.tables e below (T13.setTop (mkF m 88 #[.val (.int p1), .val (.long q2), .second, .val (.long q3), .second, .val (.long q4), .second, .val (.long q5), .second, .val (.int (1 : Int32)), .val (.int i), .val (.int j), .val (.int k), .val (.ref b6), .val (.ref b7), .val (.ref b8), .val (.ref b9), .val (.ref b10), .val (.ref b11), .unset, .unset, .unset] [(.ref b13)])) _
    refine XS.dup X13.here hx rfl (hb hby at_88) rfl rfl ?_
    show Steps p.tables e below (T13.setTop (mkF m 89 #[.val (.int p1), .val (.long q2), .second, .val (.long q3), .second, .val (.long q4), .second, .val (.long q5), .second, .val (.int (1 : Int32)), .val (.int i), .val (.int j), .val (.int k), .val (.ref b6), .val (.ref b7), .val (.ref b8), .val (.ref b9), .val (.ref b10), .val (.ref b11), .unset, .unset, .unset] [(.ref b13), (.ref b13)])) _
    refine XS.iconst X13.here hx rfl (hb hby at_89) ?_
    show Steps p.tables e below (T13.setTop (mkF m 90 #[.val (.int p1), .val (.long q2), .second, .val (.long q3), .second, .val (.long q4), .second, .val (.long q5), .second, .val (.int (1 : Int32)), .val (.int i), .val (.int j), .val (.int k), .val (.ref b6), .val (.ref b7), .val (.ref b8), .val (.ref b9), .val (.ref b10), .val (.ref b11), .unset, .unset, .unset] [(.int (1 : Int32)), (.ref b13), (.ref b13)])) _
    refine XS.aload X13.here hx rfl (hb hby at_90) rfl rfl ?_
    show Steps p.tables e below (T13.setTop (mkF m 92 #[.val (.int p1), .val (.long q2), .second, .val (.long q3), .second, .val (.long q4), .second, .val (.long q5), .second, .val (.int (1 : Int32)), .val (.int i), .val (.int j), .val (.int k), .val (.ref b6), .val (.ref b7), .val (.ref b8), .val (.ref b9), .val (.ref b10), .val (.ref b11), .unset, .unset, .unset] [(.ref b6), (.int (1 : Int32)), (.ref b13), (.ref b13)])) _
    refine st14.trans ?_
    show Steps p.tables e below (T14.setTop (mkF m 95 #[.val (.int p1), .val (.long q2), .second, .val (.long q3), .second, .val (.long q4), .second, .val (.long q5), .second, .val (.int (1 : Int32)), .val (.int i), .val (.int j), .val (.int k), .val (.ref b6), .val (.ref b7), .val (.ref b8), .val (.ref b9), .val (.ref b10), .val (.ref b11), .unset, .unset, .unset] [(.ref b13)])) _
    refine XS.astore X14.here hx rfl (hb hby at_95) rfl rfl (l' := #[.val (.int p1), .val (.long q2), .second, .val (.long q3), .second, .val (.long q4), .second, .val (.long q5), .second, .val (.int (1 : Int32)), .val (.int i), .val (.int j), .val (.int k), .val (.ref b6), .val (.ref b7), .val (.ref b8), .val (.ref b9), .val (.ref b10), .val (.ref b11), .val (.ref b13), .unset, .unset]) rfl ?_
    show Steps p.tables e below (T14.setTop (mkF m 97 #[.val (.int p1), .val (.long q2), .second, .val (.long q3), .second, .val (.long q4), .second, .val (.long q5), .second, .val (.int (1 : Int32)), .val (.int i), .val (.int j), .val (.int k), .val (.ref b6), .val (.ref b7), .val (.ref b8), .val (.ref b9), .val (.ref b10), .val (.ref b11), .val (.ref b13), .unset, .unset] [])) _
    refine st15 _ ?_
    show Steps p.tables e below (T15.setTop (mkF m 100 #[.val (.int p1), .val (.long q2), .second, .val (.long q3), .second, .val (.long q4), .second, .val (.long q5), .second, .val (.int (1 : Int32)), .val (.int i), .val (.int j), .val (.int k), .val (.ref b6), .val (.ref b7), .val (.ref b8), .val (.ref b9), .val (.ref b10), .val (.ref b11), .val (.ref b13), .unset, .unset] [(.ref b15)])) _
    refine XS.dup X15.here hx rfl (hb hby at_100) rfl rfl ?_
    show Steps p.tables e below (T15.setTop (mkF m 101 #[.val (.int p1), .val (.long q2), .second, .val (.long q3), .second, .val (.long q4), .second, .val (.long q5), .second, .val (.int (1 : Int32)), .val (.int i), .val (.int j), .val (.int k), .val (.ref b6), .val (.ref b7), .val (.ref b8), .val (.ref b9), .val (.ref b10), .val (.ref b11), .val (.ref b13), .unset, .unset] [(.ref b15), (.ref b15)])) _
    refine XS.iconst X15.here hx rfl (hb hby at_101) ?_
    show Steps p.tables e below (T15.setTop (mkF m 102 #[.val (.int p1), .val (.long q2), .second, .val (.long q3), .second, .val (.long q4), .second, .val (.long q5), .second, .val (.int (1 : Int32)), .val (.int i), .val (.int j), .val (.int k), .val (.ref b6), .val (.ref b7), .val (.ref b8), .val (.ref b9), .val (.ref b10), .val (.ref b11), .val (.ref b13), .unset, .unset] [(.int (2 : Int32)), (.ref b15), (.ref b15)])) _
    refine XS.aload X15.here hx rfl (hb hby at_102) rfl rfl ?_
    show Steps p.tables e below (T15.setTop (mkF m 104 #[.val (.int p1), .val (.long q2), .second, .val (.long q3), .second, .val (.long q4), .second, .val (.long q5), .second, .val (.int (1 : Int32)), .val (.int i), .val (.int j), .val (.int k), .val (.ref b6), .val (.ref b7), .val (.ref b8), .val (.ref b9), .val (.ref b10), .val (.ref b11), .val (.ref b13), .unset, .unset] [(.ref b7), (.int (2 : Int32)), (.ref b15), (.ref b15)])) _
    refine st16.trans ?_
    show Steps p.tables e below (T16.setTop (mkF m 107 #[.val (.int p1), .val (.long q2), .second, .val (.long q3), .second, .val (.long q4), .second, .val (.long q5), .second, .val (.int (1 : Int32)), .val (.int i), .val (.int j), .val (.int k), .val (.ref b6), .val (.ref b7), .val (.ref b8), .val (.ref b9), .val (.ref b10), .val (.ref b11), .val (.ref b13), .unset, .unset] [(.ref b15)])) _
    refine XS.astore X16.here hx rfl (hb hby at_107) rfl rfl (l' := #[.val (.int p1), .val (.long q2), .second, .val (.long q3), .second, .val (.long q4), .second, .val (.long q5), .second, .val (.int (1 : Int32)), .val (.int i), .val (.int j), .val (.int k), .val (.ref b6), .val (.ref b7), .val (.ref b8), .val (.ref b9), .val (.ref b10), .val (.ref b11), .val (.ref b13), .val (.ref b15), .unset]) rfl ?_
    show Steps p.tables e below (T16.setTop (mkF m 109 #[.val (.int p1), .val (.long q2), .second, .val (.long q3), .second, .val (.long q4), .second, .val (.long q5), .second, .val (.int (1 : Int32)), .val (.int i), .val (.int j), .val (.int k), .val (.ref b6), .val (.ref b7), .val (.ref b8), .val (.ref b9), .val (.ref b10), .val (.ref b11), .val (.ref b13), .val (.ref b15), .unset] [])) _
    refine XS.aload X16.here hx rfl (hb hby at_109) rfl rfl ?_
    show Steps p.tables e below (T16.setTop (mkF m 111 #[.val (.int p1), .val (.long q2), .second, .val (.long q3), .second, .val (.long q4), .second, .val (.long q5), .second, .val (.int (1 : Int32)), .val (.int i), .val (.int j), .val (.int k), .val (.ref b6), .val (.ref b7), .val (.ref b8), .val (.ref b9), .val (.ref b10), .val (.ref b11), .val (.ref b13), .val (.ref b15), .unset] [(.ref b11)])) _
    refine XS.iload X16.here hx rfl (hb hby at_111) rfl ?_
    show Steps p.tables e below (T16.setTop (mkF m 113 #[.val (.int p1), .val (.long q2), .second, .val (.long q3), .second, .val (.long q4), .second, .val (.long q5), .second, .val (.int (1 : Int32)), .val (.int i), .val (.int j), .val (.int k), .val (.ref b6), .val (.ref b7), .val (.ref b8), .val (.ref b9), .val (.ref b10), .val (.ref b11), .val (.ref b13), .val (.ref b15), .unset] [(.int i), (.ref b11)])) _
    refine XS.aload X16.here hx rfl (hb hby at_113) rfl rfl ?_
    show Steps p.tables e below (T16.setTop (mkF m 115 #[.val (.int p1), .val (.long q2), .second, .val (.long q3), .second, .val (.long q4), .second, .val (.long q5), .second, .val (.int (1 : Int32)), .val (.int i), .val (.int j), .val (.int k), .val (.ref b6), .val (.ref b7), .val (.ref b8), .val (.ref b9), .val (.ref b10), .val (.ref b11), .val (.ref b13), .val (.ref b15), .unset] [(.ref b13), (.int i), (.ref b11)])) _
    refine st17.trans ?_
    show Steps p.tables e below (T17.setTop (mkF m 118 #[.val (.int p1), .val (.long q2), .second, .val (.long q3), .second, .val (.long q4), .second, .val (.long q5), .second, .val (.int (1 : Int32)), .val (.int i), .val (.int j), .val (.int k), .val (.ref b6), .val (.ref b7), .val (.ref b8), .val (.ref b9), .val (.ref b10), .val (.ref b11), .val (.ref b13), .val (.ref b15), .unset] [])) _
    refine XS.aload X17.here hx rfl (hb hby at_118) rfl rfl ?_
    show Steps p.tables e below (T17.setTop (mkF m 120 #[.val (.int p1), .val (.long q2), .second, .val (.long q3), .second, .val (.long q4), .second, .val (.long q5), .second, .val (.int (1 : Int32)), .val (.int i), .val (.int j), .val (.int k), .val (.ref b6), .val (.ref b7), .val (.ref b8), .val (.ref b9), .val (.ref b10), .val (.ref b11), .val (.ref b13), .val (.ref b15), .unset] [(.ref b11)])) _
    refine XS.iload X17.here hx rfl (hb hby at_120) rfl ?_
    show Steps p.tables e below (T17.setTop (mkF m 122 #[.val (.int p1), .val (.long q2), .second, .val (.long q3), .second, .val (.long q4), .second, .val (.long q5), .second, .val (.int (1 : Int32)), .val (.int i), .val (.int j), .val (.int k), .val (.ref b6), .val (.ref b7), .val (.ref b8), .val (.ref b9), .val (.ref b10), .val (.ref b11), .val (.ref b13), .val (.ref b15), .unset] [(.int j), (.ref b11)])) _
    refine XS.aload X17.here hx rfl (hb hby at_122) rfl rfl ?_
    show Steps p.tables e below (T17.setTop (mkF m 124 #[.val (.int p1), .val (.long q2), .second, .val (.long q3), .second, .val (.long q4), .second, .val (.long q5), .second, .val (.int (1 : Int32)), .val (.int i), .val (.int j), .val (.int k), .val (.ref b6), .val (.ref b7), .val (.ref b8), .val (.ref b9), .val (.ref b10), .val (.ref b11), .val (.ref b13), .val (.ref b15), .unset] [(.ref b15), (.int j), (.ref b11)])) _
    refine st18.trans ?_
    show Steps p.tables e below (T18.setTop (mkF m 127 #[.val (.int p1), .val (.long q2), .second, .val (.long q3), .second, .val (.long q4), .second, .val (.long q5), .second, .val (.int (1 : Int32)), .val (.int i), .val (.int j), .val (.int k), .val (.ref b6), .val (.ref b7), .val (.ref b8), .val (.ref b9), .val (.ref b10), .val (.ref b11), .val (.ref b13), .val (.ref b15), .unset] [])) _
    refine XS.aload X18.here hx rfl (hb hby at_127) rfl rfl ?_
    show Steps p.tables e below (T18.setTop (mkF m 129 #[.val (.int p1), .val (.long q2), .second, .val (.long q3), .second, .val (.long q4), .second, .val (.long q5), .second, .val (.int (1 : Int32)), .val (.int i), .val (.int j), .val (.int k), .val (.ref b6), .val (.ref b7), .val (.ref b8), .val (.ref b9), .val (.ref b10), .val (.ref b11), .val (.ref b13), .val (.ref b15), .unset] [(.ref b11)])) _
    refine XS.iload X18.here hx rfl (hb hby at_129) rfl ?_
    show Steps p.tables e below (T18.setTop (mkF m 131 #[.val (.int p1), .val (.long q2), .second, .val (.long q3), .second, .val (.long q4), .second, .val (.long q5), .second, .val (.int (1 : Int32)), .val (.int i), .val (.int j), .val (.int k), .val (.ref b6), .val (.ref b7), .val (.ref b8), .val (.ref b9), .val (.ref b10), .val (.ref b11), .val (.ref b13), .val (.ref b15), .unset] [(.int j), (.ref b11)])) _
    refine st19.trans ?_
    show Steps p.tables e below (T19.setTop (mkF m 134 #[.val (.int p1), .val (.long q2), .second, .val (.long q3), .second, .val (.long q4), .second, .val (.long q5), .second, .val (.int (1 : Int32)), .val (.int i), .val (.int j), .val (.int k), .val (.ref b6), .val (.ref b7), .val (.ref b8), .val (.ref b9), .val (.ref b10), .val (.ref b11), .val (.ref b13), .val (.ref b15), .unset] [(.ref b15)])) _
    refine XS.aload X19.here hx rfl (hb hby at_134) rfl rfl ?_
    show Steps p.tables e below (T19.setTop (mkF m 136 #[.val (.int p1), .val (.long q2), .second, .val (.long q3), .second, .val (.long q4), .second, .val (.long q5), .second, .val (.int (1 : Int32)), .val (.int i), .val (.int j), .val (.int k), .val (.ref b6), .val (.ref b7), .val (.ref b8), .val (.ref b9), .val (.ref b10), .val (.ref b11), .val (.ref b13), .val (.ref b15), .unset] [(.ref b15), (.ref b15)])) _
    refine Jvm.RoadKit.acmp (g := (mkF m 136 #[.val (.int p1), .val (.long q2), .second, .val (.long q3), .second, .val (.long q4), .second, .val (.long q5), .second, .val (.int (1 : Int32)), .val (.int i), .val (.int j), .val (.int k), .val (.ref b6), .val (.ref b7), .val (.ref b8), .val (.ref b9), .val (.ref b10), .val (.ref b11), .val (.ref b13), .val (.ref b15), .unset] [(.ref b15), (.ref b15)])) X19 hx rfl rfl rfl (pc0 := 136) (pc' := 139) (same := true) rfl (hb hby at_136) rfl (decide_eq_true rfl) (by decide) (by decide) ?_
    show Steps p.tables e below (T19.setTop (mkF m 139 #[.val (.int p1), .val (.long q2), .second, .val (.long q3), .second, .val (.long q4), .second, .val (.long q5), .second, .val (.int (1 : Int32)), .val (.int i), .val (.int j), .val (.int k), .val (.ref b6), .val (.ref b7), .val (.ref b8), .val (.ref b9), .val (.ref b10), .val (.ref b11), .val (.ref b13), .val (.ref b15), .unset] [])) _
    refine XS.aload X19.here hx rfl (hb hby at_139) rfl rfl ?_
    show Steps p.tables e below (T19.setTop (mkF m 141 #[.val (.int p1), .val (.long q2), .second, .val (.long q3), .second, .val (.long q4), .second, .val (.long q5), .second, .val (.int (1 : Int32)), .val (.int i), .val (.int j), .val (.int k), .val (.ref b6), .val (.ref b7), .val (.ref b8), .val (.ref b9), .val (.ref b10), .val (.ref b11), .val (.ref b13), .val (.ref b15), .unset] [(.ref b11)])) _
    refine XS.iload X19.here hx rfl (hb hby at_141) rfl ?_
    show Steps p.tables e below (T19.setTop (mkF m 143 #[.val (.int p1), .val (.long q2), .second, .val (.long q3), .second, .val (.long q4), .second, .val (.long q5), .second, .val (.int (1 : Int32)), .val (.int i), .val (.int j), .val (.int k), .val (.ref b6), .val (.ref b7), .val (.ref b8), .val (.ref b9), .val (.ref b10), .val (.ref b11), .val (.ref b13), .val (.ref b15), .unset] [(.int j), (.ref b11)])) _
    refine XS.aload X19.here hx rfl (hb hby at_143) rfl rfl ?_
    show Steps p.tables e below (T19.setTop (mkF m 145 #[.val (.int p1), .val (.long q2), .second, .val (.long q3), .second, .val (.long q4), .second, .val (.long q5), .second, .val (.int (1 : Int32)), .val (.int i), .val (.int j), .val (.int k), .val (.ref b6), .val (.ref b7), .val (.ref b8), .val (.ref b9), .val (.ref b10), .val (.ref b11), .val (.ref b13), .val (.ref b15), .unset] [(.ref b9), (.int j), (.ref b11)])) _
    refine st20.trans ?_
    show Steps p.tables e below (T20.setTop (mkF m 148 #[.val (.int p1), .val (.long q2), .second, .val (.long q3), .second, .val (.long q4), .second, .val (.long q5), .second, .val (.int (1 : Int32)), .val (.int i), .val (.int j), .val (.int k), .val (.ref b6), .val (.ref b7), .val (.ref b8), .val (.ref b9), .val (.ref b10), .val (.ref b11), .val (.ref b13), .val (.ref b15), .unset] [(.ref w21)])) _
    refine st22 _ ?_
    show Steps p.tables e below (T22.setTop (mkF m 151 #[.val (.int p1), .val (.long q2), .second, .val (.long q3), .second, .val (.long q4), .second, .val (.long q5), .second, .val (.int (1 : Int32)), .val (.int i), .val (.int j), .val (.int k), .val (.ref b6), .val (.ref b7), .val (.ref b8), .val (.ref b9), .val (.ref b10), .val (.ref b11), .val (.ref b13), .val (.ref b15), .unset] [(.ref w21), (.ref w21)])) _
    refine Jvm.RoadKit.acmp (g := (mkF m 151 #[.val (.int p1), .val (.long q2), .second, .val (.long q3), .second, .val (.long q4), .second, .val (.long q5), .second, .val (.int (1 : Int32)), .val (.int i), .val (.int j), .val (.int k), .val (.ref b6), .val (.ref b7), .val (.ref b8), .val (.ref b9), .val (.ref b10), .val (.ref b11), .val (.ref b13), .val (.ref b15), .unset] [(.ref w21), (.ref w21)])) X22 hx rfl rfl rfl (pc0 := 151) (pc' := 154) (same := true) rfl (hb hby at_151) rfl (decide_eq_true rfl) (by decide) (by decide) ?_
    show Steps p.tables e below (T22.setTop (mkF m 154 #[.val (.int p1), .val (.long q2), .second, .val (.long q3), .second, .val (.long q4), .second, .val (.long q5), .second, .val (.int (1 : Int32)), .val (.int i), .val (.int j), .val (.int k), .val (.ref b6), .val (.ref b7), .val (.ref b8), .val (.ref b9), .val (.ref b10), .val (.ref b11), .val (.ref b13), .val (.ref b15), .unset] [])) _
    refine XS.iconst X22.here hx rfl (hb hby at_154) ?_
    show Steps p.tables e below (T22.setTop (mkF m 155 #[.val (.int p1), .val (.long q2), .second, .val (.long q3), .second, .val (.long q4), .second, .val (.long q5), .second, .val (.int (1 : Int32)), .val (.int i), .val (.int j), .val (.int k), .val (.ref b6), .val (.ref b7), .val (.ref b8), .val (.ref b9), .val (.ref b10), .val (.ref b11), .val (.ref b13), .val (.ref b15), .unset] [(.int (1 : Int32))])) _
    refine XS.goto X22.here hx rfl (pc0 := 155) (pc' := 159) rfl (hb hby at_155) (by decide) (by decide) ?_
    show Steps p.tables e below (T22.setTop (mkF m 159 #[.val (.int p1), .val (.long q2), .second, .val (.long q3), .second, .val (.long q4), .second, .val (.long q5), .second, .val (.int (1 : Int32)), .val (.int i), .val (.int j), .val (.int k), .val (.ref b6), .val (.ref b7), .val (.ref b8), .val (.ref b9), .val (.ref b10), .val (.ref b11), .val (.ref b13), .val (.ref b15), .unset] [(.int (1 : Int32))])) _
    refine XS.istore X22.here hx rfl (hb hby at_159) rfl (l' := #[.val (.int p1), .val (.long q2), .second, .val (.long q3), .second, .val (.long q4), .second, .val (.long q5), .second, .val (.int (1 : Int32)), .val (.int i), .val (.int j), .val (.int k), .val (.ref b6), .val (.ref b7), .val (.ref b8), .val (.ref b9), .val (.ref b10), .val (.ref b11), .val (.ref b13), .val (.ref b15), .val (.int (1 : Int32))]) rfl ?_
    show Steps p.tables e below (T22.setTop (mkF m 161 #[.val (.int p1), .val (.long q2), .second, .val (.long q3), .second, .val (.long q4), .second, .val (.long q5), .second, .val (.int (1 : Int32)), .val (.int i), .val (.int j), .val (.int k), .val (.ref b6), .val (.ref b7), .val (.ref b8), .val (.ref b9), .val (.ref b10), .val (.ref b11), .val (.ref b13), .val (.ref b15), .val (.int (1 : Int32))] [])) _
    refine s23 _ ?_
    refine s24 _ ?_
    show Steps p.tables e below (T24.setTop (mkF m 258 #[.val (.int p1), .val (.long q2), .second, .val (.long q3), .second, .val (.long q4), .second, .val (.long q5), .second, .val (.int (1 : Int32)), .val (.int i), .val (.int j), .val (.int k), .val (.ref b6), .val (.ref b7), .val (.ref b8), .val (.ref b9), .val (.ref b10), .val (.ref b11), .val (.ref b13), .val (.ref b15), .val (.int (1 : Int32))] [])) _
    refine XS.iload X24.here hx rfl (hb hby at_258) rfl ?_
    show Steps p.tables e below (T24.setTop (mkF m 260 #[.val (.int p1), .val (.long q2), .second, .val (.long q3), .second, .val (.long q4), .second, .val (.long q5), .second, .val (.int (1 : Int32)), .val (.int i), .val (.int j), .val (.int k), .val (.ref b6), .val (.ref b7), .val (.ref b8), .val (.ref b9), .val (.ref b10), .val (.ref b11), .val (.ref b13), .val (.ref b15), .val (.int (1 : Int32))] [(.int (1 : Int32))])) _
    exact retN X24 hx (t := .boolean) Bd.returns (by simp) (hb hby at_260) hr
  · show own_Q0 h0 n0 _ T24.heap _
    rw [e24]
    exact ⟨rfl, N24⟩
set_option maxRecDepth 65536 in
set_option maxHeartbeats 40000000 in
theorem own_rm0_2 (l : Launch) (Z : State) (a0 : Array Value) (hw : ∀ d ∈ tables_1, d.before a0 Z = true) (ws : List Jvm.Cond) (p1 : Int32) (q2 : Int64) (q3 : Int64) (q4 : Int64) (q5 : Int64) (i j k : Int32) (w21 : Addr) (h0 : Heap) (n0 : Nat) (Z0 : n0 ≤ h0.size) (S_SAME : Sta Z h0 "com/example/crossmode/crossmode/search/Dominance" "SAME" "Lcom/example/crossmode/crossmode/search/Dominance;" (.ref w21)) (hm : ((1 : Int32) + (p1 &&& (1 : Int32))) = (2 : Int32)) (ei : (((p1.toUInt32 >>> ((1 : Int32) &&& 31).toUInt32).toInt32) &&& (3 : Int32)) = i) (ej : (((p1.toUInt32 >>> ((3 : Int32) &&& 31).toUInt32).toInt32) &&& (3 : Int32)) = j) (ek : (((p1.toUInt32 >>> ((5 : Int32) &&& 31).toUInt32).toInt32) &&& (3 : Int32)) = k) (hi : (i = 0 ∨ i = 1 ∨ i = 2 ∨ i = 3)) (hj : (j = 0 ∨ j = 1 ∨ j = 2 ∨ j = 3)) (hk : (k = 0 ∨ k = 1 ∨ k = 2 ∨ k = 3)) :
    MetFree l x (head1 (Jvm.Cond.code x code maxLocals ret :: ws) room_1) (fun a U => a = #[(.int p1), (.long q2), (.long q3), (.long q4), (.long q5)] ∧ Z.Warmed39 U.vm ∧ U.heap = h0) (fun _ _ _ _ _ => True) (fun _ U o U' => ∃ v L, o = .returned v ∧ own_Q0 h0 n0 v U'.heap L ∧ FrameEnd U o U' L room_1.cells room_1.slots) := by
  refine MetFree.of_bodySF (plainFor_of_name pn_0) hisR ?_
  intro p e s m args below meth c s₁ Bd hml0 hP hK
  obtain ⟨rfl, hZ, hh⟩ := hP
  have hx := Bd.exec
  have hby := Bd.bytes
  have hml : c.maxLocals = 22 := hml0
  have hown : s.vm.findClass "com/example/crossmode/crossmode/search/LabelSetSetPinLaw" = some m.cls := findClass_of_methodNamed Bd.named
  have hnm := (name_of_methodNamed Bd.named Bd.method).1
  have X0 : Stand p l e room_1 s m #[(.int p1), (.long q2), (.long q3), (.long q4), (.long q5)] below meth c s₁ [] 0 0 := Stand.of_body Bd
  have e0 : s₁.heap = h0 := by rw [← hh, Bd.state]; rfl
  have N0 := Fr.nil n0
  have pre0 : ∀ t, Steps p.tables e below (s₁.setTop (mkF m 0 #[.val (.int p1), .val (.long q2), .second, .val (.long q3), .second, .val (.long q4), .second, .val (.long q5), .second, .unset, .unset, .unset, .unset, .unset, .unset, .unset, .unset, .unset, .unset, .unset, .unset, .unset] [])) t → Steps p.tables e below (s₁.setTop (entryFrame m #[(.int p1), (.long q2), (.long q3), (.long q4), (.long q5)] maxLocals)) t := fun t k => castTop (ef_0 m p1 q2 q3 q4 q5) k
  obtain ⟨_, _, ⟨T6, L6, k6, n6⟩, -, X6, ⟨Lc6, hQ6, l6, y6, z6⟩, st6⟩ := Jvm.LawKit.callS X0 hx (y := (⟨"com/example/crossmode/crossmode/search/LabelSetSetPinLaw", "weights", "(IJJ)[J"⟩ : MethodName)) hown (mvT hZ (hw _ (List.mem_of_getElem? (i := 0) rfl))) (mvT hZ (hw _ (List.mem_of_getElem? (i := 1) rfl))) (mvT hZ (hw _ (List.mem_of_getElem? (i := 2) rfl))) (mvT hZ (hw _ (List.mem_of_getElem? (i := 3) rfl))) (by decide) (backOf (W := 0) (own_rm1_2 l Z a0 hw [] (2 : Int32) q2 q3 h0 n0 Z0 (by decide)) hZ (hw _ (List.mem_of_getElem? (i := 3) rfl)) (hw _ (List.mem_of_getElem? (i := 2) rfl)) (by decide) (by decide)) (g := (mkF m 32 #[.val (.int p1), .val (.long q2), .second, .val (.long q3), .second, .val (.long q4), .second, .val (.long q5), .second, .val (.int (2 : Int32)), .val (.int i), .val (.int j), .val (.int k), .unset, .unset, .unset, .unset, .unset, .unset, .unset, .unset, .unset] [(.long q3), (.long q2), (.int (2 : Int32))])) rfl (by rw [hml]; rfl) (argsL := [(.int (2 : Int32)), (.long q2), (.long q3)]) (rest := []) (lenOf pd_0_0 rfl) rfl (by show 2 * 0 + _ ≤ _; exact Nat.le_of_eq rfl) (hb hby at_32) (fun _ _ => ⟨rfl, e0, (by decide : 0 + 1 ≤ _), (by decide : 0 + 2 ≤ _)⟩)
  dsimp only [Pt.U, Pt.locs, Pt.cells, Pt.slots] at X6 l6 y6 z6 st6 hQ6
  subst l6 y6 z6
  obtain ⟨rfl, N6q, K6, kc6, V6⟩ := hQ6
  have N6 := Fr.app N0 N6q
  obtain ⟨b6, g6⟩ : ∃ z, z = h0.size := ⟨_, rfl⟩
  rw [← g6] at V6 st6
  have KK6 : Keep h0 T6.heap [] := (Keep.refl h0 []).trans K6 (fun x hx => nomatch hx)
  have z6 := K6.1
  have y6 := own_lt' V6.lt
  obtain ⟨_, _, ⟨T7, L7, k7, n7⟩, -, X7, ⟨Lc7, hQ7, l7, y7, z7⟩, st7⟩ := Jvm.LawKit.callS X6 hx (y := (⟨"com/example/crossmode/crossmode/search/LabelSetSetPinLaw", "weights", "(IJJ)[J"⟩ : MethodName)) hown (mvT hZ (hw _ (List.mem_of_getElem? (i := 0) rfl))) (mvT hZ (hw _ (List.mem_of_getElem? (i := 1) rfl))) (mvT hZ (hw _ (List.mem_of_getElem? (i := 2) rfl))) (mvT hZ (hw _ (List.mem_of_getElem? (i := 3) rfl))) (by decide) (backOf (W := 0) (own_rm1_2 l Z a0 hw [] (2 : Int32) q4 q5 T6.heap n0 (Nat.le_trans Z0 K6.1) (by decide)) hZ (hw _ (List.mem_of_getElem? (i := 3) rfl)) (hw _ (List.mem_of_getElem? (i := 2) rfl)) (by decide) (by decide)) (g := (mkF m 43 #[.val (.int p1), .val (.long q2), .second, .val (.long q3), .second, .val (.long q4), .second, .val (.long q5), .second, .val (.int (2 : Int32)), .val (.int i), .val (.int j), .val (.int k), .val (.ref b6), .unset, .unset, .unset, .unset, .unset, .unset, .unset, .unset] [(.long q5), (.long q4), (.int (2 : Int32))])) rfl (by rw [hml]; rfl) (argsL := [(.int (2 : Int32)), (.long q4), (.long q5)]) (rest := []) (lenOf pd_0_0 rfl) rfl (by show 2 * 0 + _ ≤ _; exact Nat.le_of_eq rfl) (hb hby at_43) (fun _ _ => ⟨rfl, rfl, (by decide : 1 + 1 ≤ _), (by decide : 2 + 2 ≤ _)⟩)
  dsimp only [Pt.U, Pt.locs, Pt.cells, Pt.slots] at X7 l7 y7 z7 st7 hQ7
  subst l7 y7 z7
  obtain ⟨rfl, N7q, K7, kc7, V7⟩ := hQ7
  have N7 := Fr.app N6 N7q
  obtain ⟨b7, g7⟩ : ∃ z, z = T6.heap.size := ⟨_, rfl⟩
  rw [← g7] at V7 st7
  have KK7 : Keep h0 T7.heap [] := KK6.trans K7 (fun x hx => nomatch hx)
  have z7 := K7.1
  have y7 := own_lt' V7.lt
  obtain ⟨_, _, ⟨T8, L8, k8, n8⟩, -, X8, ⟨Lc8, hQ8, l8, y8, z8⟩, st8⟩ := Jvm.LawKit.callS X7 hx (y := (⟨"com/example/crossmode/crossmode/search/LabelSetSetPinLaw", "weights", "(IJJ)[J"⟩ : MethodName)) hown (mvT hZ (hw _ (List.mem_of_getElem? (i := 0) rfl))) (mvT hZ (hw _ (List.mem_of_getElem? (i := 1) rfl))) (mvT hZ (hw _ (List.mem_of_getElem? (i := 2) rfl))) (mvT hZ (hw _ (List.mem_of_getElem? (i := 3) rfl))) (by decide) (backOf (W := 0) (own_rm1_2 l Z a0 hw [] (2 : Int32) q2 q3 T7.heap n0 (Nat.le_trans (Nat.le_trans Z0 K6.1) K7.1) (by decide)) hZ (hw _ (List.mem_of_getElem? (i := 3) rfl)) (hw _ (List.mem_of_getElem? (i := 2) rfl)) (by decide) (by decide)) (g := (mkF m 52 #[.val (.int p1), .val (.long q2), .second, .val (.long q3), .second, .val (.long q4), .second, .val (.long q5), .second, .val (.int (2 : Int32)), .val (.int i), .val (.int j), .val (.int k), .val (.ref b6), .val (.ref b7), .unset, .unset, .unset, .unset, .unset, .unset, .unset] [(.long q3), (.long q2), (.int (2 : Int32))])) rfl (by rw [hml]; rfl) (argsL := [(.int (2 : Int32)), (.long q2), (.long q3)]) (rest := []) (lenOf pd_0_0 rfl) rfl (by show 2 * 0 + _ ≤ _; exact Nat.le_of_eq rfl) (hb hby at_52) (fun _ _ => ⟨rfl, rfl, (by decide : 2 + 1 ≤ _), (by decide : 4 + 2 ≤ _)⟩)
  dsimp only [Pt.U, Pt.locs, Pt.cells, Pt.slots] at X8 l8 y8 z8 st8 hQ8
  subst l8 y8 z8
  obtain ⟨rfl, N8q, K8, kc8, V8⟩ := hQ8
  have N8 := Fr.app N7 N8q
  obtain ⟨b8, g8⟩ : ∃ z, z = T7.heap.size := ⟨_, rfl⟩
  rw [← g8] at V8 st8
  have KK8 : Keep h0 T8.heap [] := KK7.trans K8 (fun x hx => nomatch hx)
  have z8 := K8.1
  have y8 := own_lt' V8.lt
  obtain ⟨_, _, ⟨T9, L9, k9, n9⟩, -, X9, ⟨Lc9, hQ9, l9, y9, z9⟩, st9⟩ := Jvm.LawKit.callS X8 hx (y := (⟨"com/example/crossmode/crossmode/search/LabelSetSetPinLaw", "weights", "(IJJ)[J"⟩ : MethodName)) hown (mvT hZ (hw _ (List.mem_of_getElem? (i := 0) rfl))) (mvT hZ (hw _ (List.mem_of_getElem? (i := 1) rfl))) (mvT hZ (hw _ (List.mem_of_getElem? (i := 2) rfl))) (mvT hZ (hw _ (List.mem_of_getElem? (i := 3) rfl))) (by decide) (backOf (W := 0) (own_rm1_2 l Z a0 hw [] (2 : Int32) q4 q5 T8.heap n0 (Nat.le_trans (Nat.le_trans (Nat.le_trans Z0 K6.1) K7.1) K8.1) (by decide)) hZ (hw _ (List.mem_of_getElem? (i := 3) rfl)) (hw _ (List.mem_of_getElem? (i := 2) rfl)) (by decide) (by decide)) (g := (mkF m 63 #[.val (.int p1), .val (.long q2), .second, .val (.long q3), .second, .val (.long q4), .second, .val (.long q5), .second, .val (.int (2 : Int32)), .val (.int i), .val (.int j), .val (.int k), .val (.ref b6), .val (.ref b7), .val (.ref b8), .unset, .unset, .unset, .unset, .unset, .unset] [(.long q5), (.long q4), (.int (2 : Int32))])) rfl (by rw [hml]; rfl) (argsL := [(.int (2 : Int32)), (.long q4), (.long q5)]) (rest := []) (lenOf pd_0_0 rfl) rfl (by show 2 * 0 + _ ≤ _; exact Nat.le_of_eq rfl) (hb hby at_63) (fun _ _ => ⟨rfl, rfl, (by decide : 3 + 1 ≤ _), (by decide : 6 + 2 ≤ _)⟩)
  dsimp only [Pt.U, Pt.locs, Pt.cells, Pt.slots] at X9 l9 y9 z9 st9 hQ9
  subst l9 y9 z9
  obtain ⟨rfl, N9q, K9, kc9, V9⟩ := hQ9
  have N9 := Fr.app N8 N9q
  obtain ⟨b9, g9⟩ : ∃ z, z = T8.heap.size := ⟨_, rfl⟩
  rw [← g9] at V9 st9
  have KK9 : Keep h0 T9.heap [] := KK8.trans K9 (fun x hx => nomatch hx)
  have z9 := K9.1
  have y9 := own_lt' V9.lt
  obtain ⟨T10, h10, k10, X10, e10, E10, A10, st10⟩ := newP X9 hx hZ (hw _ (List.mem_of_getElem? (i := 4) rfl)) rfl (g := (mkF m 70 #[.val (.int p1), .val (.long q2), .second, .val (.long q3), .second, .val (.long q4), .second, .val (.long q5), .second, .val (.int (2 : Int32)), .val (.int i), .val (.int j), .val (.int k), .val (.ref b6), .val (.ref b7), .val (.ref b8), .val (.ref b9), .unset, .unset, .unset, .unset, .unset] [(.int (2 : Int32))])) rfl (hb hby at_70) rfl (by decide) (cap := 2) (by decide) (by decide) (by decide) (by decide)
  obtain ⟨b10, g10⟩ : ∃ z, z = T9.heap.size := ⟨_, rfl⟩
  rw [← g10] at A10 st10
  have V_b10 : Arv Z h10 b10 k10 .long (2 : Int32) [(.long (0 : Int64)), (.long (0 : Int64))] (.long (0 : Int64)) := (Arv.new A10 (by decide)).pad (pad_rep [] (.long (0 : Int64)) 2)
  have g_b10 : n0 ≤ b10 := Nat.le_trans (Nat.le_trans (Nat.le_trans (Nat.le_trans (Nat.le_trans Z0 K6.1) K7.1) K8.1) K9.1) (Nat.le_of_eq g10.symm)
  have sz_b10 : h0.size ≤ b10 := (Nat.le_trans KK9.1 (Nat.le_of_eq g10.symm))
  have K10 : Keep h0 h10 [] := KK9.ext E10
  obtain ⟨T11, h11, X11, e11, E11, A11, D11, -, st11⟩ := newO X10 hx hZ hown (hw _ (List.mem_of_getElem? (i := 5) rfl)) (hw _ (List.mem_of_getElem? (i := 6) rfl)) (hw _ (List.mem_of_getElem? (i := 7) rfl)) e10 (g := (mkF m 74 #[.val (.int p1), .val (.long q2), .second, .val (.long q3), .second, .val (.long q4), .second, .val (.long q5), .second, .val (.int (2 : Int32)), .val (.int i), .val (.int j), .val (.int k), .val (.ref b6), .val (.ref b7), .val (.ref b8), .val (.ref b9), .val (.ref b10), .unset, .unset, .unset, .unset] [])) rfl (hb hby at_74) (by decide) (by decide)
  obtain ⟨b11, g11⟩ : ∃ z, z = h10.size := ⟨_, rfl⟩
  rw [← g11] at A11 D11 st11
  have F_labels_b11 : Fld Z h11 b11 "com/example/crossmode/crossmode/search/LabelSet" "labels" "[Lcom/example/crossmode/crossmode/search/Label;" .null := D11 (Or.inl (hw _ (List.mem_of_getElem? (i := 17) rfl))) (ty := (.array (.object "com/example/crossmode/crossmode/search/Label"))) (by decide)
  have F_modeCount_b11 : Fld Z h11 b11 "com/example/crossmode/crossmode/search/LabelSet" "modeCount" "I" (.int (0 : Int32)) := D11 (Or.inr (hw _ (List.mem_of_getElem? (i := 19) rfl))) (ty := .int) (by decide)
  have F_weights_b11 : Fld Z h11 b11 "com/example/crossmode/crossmode/search/LabelSet" "weights" "[J" .null := D11 (Or.inl (hw _ (List.mem_of_getElem? (i := 21) rfl))) (ty := (.array .long)) (by decide)
  have E_b11 := A11
  have g_b11 : n0 ≤ b11 := Nat.le_trans (Nat.le_trans (Nat.le_trans (Nat.le_trans (Nat.le_trans (Nat.le_trans Z0 K6.1) K7.1) K8.1) K9.1) E10.1) (Nat.le_of_eq g11.symm)
  have sz_b11 : h0.size ≤ b11 := (Nat.le_trans K10.1 (Nat.le_of_eq g11.symm))
  have K11 : Keep h0 h11 [] := K10.ext E11
  obtain ⟨_, _, ⟨T12, L12, k12, n12⟩, -, X12, ⟨Lc12, hQ12, l12, y12, z12⟩, st12⟩ := X11.specialBack hx (y := (⟨"com/example/crossmode/crossmode/search/LabelSet", "<init>", "(I)V"⟩ : MethodName)) rfl hown (mvT hZ (hw _ (List.mem_of_getElem? (i := 8) rfl))) (mvT hZ (hw _ (List.mem_of_getElem? (i := 9) rfl))) (mvT hZ (hw _ (List.mem_of_getElem? (i := 10) rfl))) (by decide) (backOf (W := 1) (own_rm2 l Z a0 hw [] b11 (2 : Int32) _ _ _ h11 n0 (Nat.le_trans (Nat.le_trans (Nat.le_trans (Nat.le_trans (Nat.le_trans (Nat.le_trans Z0 K6.1) K7.1) K8.1) K9.1) E10.1) E11.1) E_b11 F_labels_b11 g_b11 F_modeCount_b11 F_weights_b11 (by decide) (by decide)) hZ (hw _ (List.mem_of_getElem? (i := 10) rfl)) (hw _ (List.mem_of_getElem? (i := 7) rfl)) (by decide) (by decide)) (g := (mkF m 80 #[.val (.int p1), .val (.long q2), .second, .val (.long q3), .second, .val (.long q4), .second, .val (.long q5), .second, .val (.int (2 : Int32)), .val (.int i), .val (.int j), .val (.int k), .val (.ref b6), .val (.ref b7), .val (.ref b8), .val (.ref b9), .val (.ref b10), .unset, .unset, .unset, .unset] [(.int (2 : Int32)), (.ref b11), (.ref b11)])) rfl (by rw [hml]; rfl) (Steps.refl _) (a := b11) (argsL := [(.int (2 : Int32))]) (rest := [(.ref b11)]) (lenOf pd_0_1 rfl) rfl (by show 2 * 0 + _ ≤ _; exact Nat.le_of_eq rfl) (hb hby at_80) (fun _ _ => ⟨rfl, e11, (by decide : 6 + 2 ≤ _), (by decide : 14 + 12 ≤ _)⟩)
  dsimp only [Pt.U, Pt.locs, Pt.cells, Pt.slots] at X12 l12 y12 z12 st12 hQ12
  subst l12 y12 z12
  obtain ⟨rfl, N12q, K12, Ex12, Fm12, bl, bw, kl, kw, o1, o2, o3, Fl12, Fw12, Vl12, Vw12, Ov12⟩ := hQ12
  have N12 := Fr.app N9 N12q
  have KK12 : Keep h0 T12.heap [] := K11.trans K12 (fun x hx => Or.inr (own_m1 hx sz_b11))
  obtain ⟨T13, h13, X13, e13, E13, A13, D13, -, st13⟩ := newO X12 hx hZ hown (hw _ (List.mem_of_getElem? (i := 22) rfl)) (hw _ (List.mem_of_getElem? (i := 23) rfl)) (hw _ (List.mem_of_getElem? (i := 24) rfl)) rfl (g := (mkF m 85 #[.val (.int p1), .val (.long q2), .second, .val (.long q3), .second, .val (.long q4), .second, .val (.long q5), .second, .val (.int (2 : Int32)), .val (.int i), .val (.int j), .val (.int k), .val (.ref b6), .val (.ref b7), .val (.ref b8), .val (.ref b9), .val (.ref b10), .val (.ref b11), .unset, .unset, .unset] [])) rfl (hb hby at_85) (by decide) (by decide)
  obtain ⟨b13, g13⟩ : ∃ z, z = T12.heap.size := ⟨_, rfl⟩
  rw [← g13] at A13 D13 st13
  have F_mode_b13 : Fld Z h13 b13 "com/example/crossmode/crossmode/search/Label" "mode" "I" (.int (0 : Int32)) := D13 (Or.inl (hw _ (List.mem_of_getElem? (i := 30) rfl))) (ty := .int) (by decide)
  have F_stage_b13 : Fld Z h13 b13 "com/example/crossmode/crossmode/search/Label" "stage" "I" (.int (0 : Int32)) := D13 (Or.inl (hw _ (List.mem_of_getElem? (i := 32) rfl))) (ty := .int) (by decide)
  have F_vertex_b13 : Fld Z h13 b13 "com/example/crossmode/crossmode/search/Label" "vertex" "I" (.int (0 : Int32)) := D13 (Or.inr (hw _ (List.mem_of_getElem? (i := 34) rfl))) (ty := .int) (by decide)
  have F_weights_b13 : Fld Z h13 b13 "com/example/crossmode/crossmode/search/Label" "weights" "[J" .null := D13 (Or.inr (hw _ (List.mem_of_getElem? (i := 36) rfl))) (ty := (.array .long)) (by decide)
  have E_b13 := A13
  have g_b13 : n0 ≤ b13 := Nat.le_trans (Nat.le_trans (Nat.le_trans (Nat.le_trans (Nat.le_trans (Nat.le_trans (Nat.le_trans (Nat.le_trans Z0 K6.1) K7.1) K8.1) K9.1) E10.1) E11.1) K12.1) (Nat.le_of_eq g13.symm)
  have sz_b13 : h0.size ≤ b13 := (Nat.le_trans KK12.1 (Nat.le_of_eq g13.symm))
  have K13 : Keep h0 h13 [] := KK12.ext E13
  obtain ⟨_, _, ⟨T14, L14, k14, n14⟩, -, X14, ⟨Lc14, hQ14, l14, y14, z14⟩, st14⟩ := X13.specialBack hx (y := (⟨"com/example/crossmode/crossmode/search/Label", "<init>", "(I[J)V"⟩ : MethodName)) rfl hown (mvT hZ (hw _ (List.mem_of_getElem? (i := 25) rfl))) (mvT hZ (hw _ (List.mem_of_getElem? (i := 26) rfl))) (mvT hZ (hw _ (List.mem_of_getElem? (i := 27) rfl))) (by decide) (backOf (W := 1) (own_rm4 l Z a0 hw [] b13 (1 : Int32) b6 _ _ _ _ h13 n0 (Nat.le_trans (Nat.le_trans (Nat.le_trans (Nat.le_trans (Nat.le_trans (Nat.le_trans (Nat.le_trans (Nat.le_trans Z0 K6.1) K7.1) K8.1) K9.1) E10.1) E11.1) K12.1) E13.1) E_b13 F_mode_b13 g_b13 F_stage_b13 F_vertex_b13 F_weights_b13) hZ (hw _ (List.mem_of_getElem? (i := 27) rfl)) (hw _ (List.mem_of_getElem? (i := 24) rfl)) (by decide) (by decide)) (g := (mkF m 92 #[.val (.int p1), .val (.long q2), .second, .val (.long q3), .second, .val (.long q4), .second, .val (.long q5), .second, .val (.int (2 : Int32)), .val (.int i), .val (.int j), .val (.int k), .val (.ref b6), .val (.ref b7), .val (.ref b8), .val (.ref b9), .val (.ref b10), .val (.ref b11), .unset, .unset, .unset] [(.ref b6), (.int (1 : Int32)), (.ref b13), (.ref b13)])) rfl (by rw [hml]; rfl) (Steps.refl _) (a := b13) (argsL := [(.int (1 : Int32)), (.ref b6)]) (rest := [(.ref b13)]) (lenOf pd_0_3 rfl) rfl (by show 2 * 0 + _ ≤ _; exact Nat.le_of_eq rfl) (hb hby at_92) (fun _ _ => ⟨rfl, e13, (by decide : 9 + 0 ≤ _), (by decide : 35 + 0 ≤ _)⟩)
  dsimp only [Pt.U, Pt.locs, Pt.cells, Pt.slots] at X14 l14 y14 z14 st14 hQ14
  subst l14 y14 z14
  obtain ⟨rfl, N14q, K14, Ex14, -, -, -, Fx14⟩ := hQ14
  have N14 := Fr.app N12 N14q
  have KK14 : Keep h0 T14.heap [] := K13.trans K14 (fun x hx => Or.inr (own_m1 hx sz_b13))
  obtain ⟨T15, h15, X15, e15, E15, A15, D15, -, st15⟩ := newO X14 hx hZ hown (hw _ (List.mem_of_getElem? (i := 22) rfl)) (hw _ (List.mem_of_getElem? (i := 23) rfl)) (hw _ (List.mem_of_getElem? (i := 24) rfl)) rfl (g := (mkF m 97 #[.val (.int p1), .val (.long q2), .second, .val (.long q3), .second, .val (.long q4), .second, .val (.long q5), .second, .val (.int (2 : Int32)), .val (.int i), .val (.int j), .val (.int k), .val (.ref b6), .val (.ref b7), .val (.ref b8), .val (.ref b9), .val (.ref b10), .val (.ref b11), .val (.ref b13), .unset, .unset] [])) rfl (hb hby at_97) (by decide) (by decide)
  obtain ⟨b15, g15⟩ : ∃ z, z = T14.heap.size := ⟨_, rfl⟩
  rw [← g15] at A15 D15 st15
  have F_mode_b15 : Fld Z h15 b15 "com/example/crossmode/crossmode/search/Label" "mode" "I" (.int (0 : Int32)) := D15 (Or.inl (hw _ (List.mem_of_getElem? (i := 30) rfl))) (ty := .int) (by decide)
  have F_stage_b15 : Fld Z h15 b15 "com/example/crossmode/crossmode/search/Label" "stage" "I" (.int (0 : Int32)) := D15 (Or.inl (hw _ (List.mem_of_getElem? (i := 32) rfl))) (ty := .int) (by decide)
  have F_vertex_b15 : Fld Z h15 b15 "com/example/crossmode/crossmode/search/Label" "vertex" "I" (.int (0 : Int32)) := D15 (Or.inr (hw _ (List.mem_of_getElem? (i := 34) rfl))) (ty := .int) (by decide)
  have F_weights_b15 : Fld Z h15 b15 "com/example/crossmode/crossmode/search/Label" "weights" "[J" .null := D15 (Or.inr (hw _ (List.mem_of_getElem? (i := 36) rfl))) (ty := (.array .long)) (by decide)
  have E_b15 := A15
  have g_b15 : n0 ≤ b15 := Nat.le_trans (Nat.le_trans (Nat.le_trans (Nat.le_trans (Nat.le_trans (Nat.le_trans (Nat.le_trans (Nat.le_trans (Nat.le_trans (Nat.le_trans Z0 K6.1) K7.1) K8.1) K9.1) E10.1) E11.1) K12.1) E13.1) K14.1) (Nat.le_of_eq g15.symm)
  have sz_b15 : h0.size ≤ b15 := (Nat.le_trans KK14.1 (Nat.le_of_eq g15.symm))
  have K15 : Keep h0 h15 [] := KK14.ext E15
  obtain ⟨_, _, ⟨T16, L16, k16, n16⟩, -, X16, ⟨Lc16, hQ16, l16, y16, z16⟩, st16⟩ := X15.specialBack hx (y := (⟨"com/example/crossmode/crossmode/search/Label", "<init>", "(I[J)V"⟩ : MethodName)) rfl hown (mvT hZ (hw _ (List.mem_of_getElem? (i := 25) rfl))) (mvT hZ (hw _ (List.mem_of_getElem? (i := 26) rfl))) (mvT hZ (hw _ (List.mem_of_getElem? (i := 27) rfl))) (by decide) (backOf (W := 1) (own_rm4 l Z a0 hw [] b15 (2 : Int32) b7 _ _ _ _ h15 n0 (Nat.le_trans (Nat.le_trans (Nat.le_trans (Nat.le_trans (Nat.le_trans (Nat.le_trans (Nat.le_trans (Nat.le_trans (Nat.le_trans (Nat.le_trans Z0 K6.1) K7.1) K8.1) K9.1) E10.1) E11.1) K12.1) E13.1) K14.1) E15.1) E_b15 F_mode_b15 g_b15 F_stage_b15 F_vertex_b15 F_weights_b15) hZ (hw _ (List.mem_of_getElem? (i := 27) rfl)) (hw _ (List.mem_of_getElem? (i := 24) rfl)) (by decide) (by decide)) (g := (mkF m 104 #[.val (.int p1), .val (.long q2), .second, .val (.long q3), .second, .val (.long q4), .second, .val (.long q5), .second, .val (.int (2 : Int32)), .val (.int i), .val (.int j), .val (.int k), .val (.ref b6), .val (.ref b7), .val (.ref b8), .val (.ref b9), .val (.ref b10), .val (.ref b11), .val (.ref b13), .unset, .unset] [(.ref b7), (.int (2 : Int32)), (.ref b15), (.ref b15)])) rfl (by rw [hml]; rfl) (Steps.refl _) (a := b15) (argsL := [(.int (2 : Int32)), (.ref b7)]) (rest := [(.ref b15)]) (lenOf pd_0_3 rfl) rfl (by show 2 * 0 + _ ≤ _; exact Nat.le_of_eq rfl) (hb hby at_104) (fun _ _ => ⟨rfl, e15, (by decide : 10 + 0 ≤ _), (by decide : 44 + 0 ≤ _)⟩)
  dsimp only [Pt.U, Pt.locs, Pt.cells, Pt.slots] at X16 l16 y16 z16 st16 hQ16
  subst l16 y16 z16
  obtain ⟨rfl, N16q, K16, Ex16, -, -, -, Fx16⟩ := hQ16
  have N16 := Fr.app N14 N16q
  have KK16 : Keep h0 T16.heap [] := K15.trans K16 (fun x hx => Or.inr (own_m1 hx sz_b15))
  have a11 := own_lt' A11.lt
  have a13 := own_lt' A13.lt
  have a15 := own_lt' A15.lt
  have zE10 := E10.1
  have zE11 := E11.1
  have zE13 := E13.1
  have zE15 := E15.1
  have z12 := K12.1
  have z14 := K14.1
  have z16 := K16.1
  have KA9 : Keep T9.heap T12.heap [] := (((Keep.refl T9.heap []).ext E10).ext E11).trans K12 (fun x hx => Or.inr (own_m1 hx (by omega)))
  have KA12 : Keep T12.heap T16.heap [] := ((((Keep.refl T12.heap []).ext E13).trans K14 (fun x hx => Or.inr (own_m1 hx (by omega)))).ext E15).trans K16 (fun x hx => Or.inr (own_m1 hx (by omega)))
  have KA : Keep T9.heap T16.heap [] := KA9.trans KA12 (fun x hx => nomatch hx)
  have Fl16 := Fl12.keep KA12 List.not_mem_nil
  have Fw16 := Fw12.keep KA12 List.not_mem_nil
  have Fm16 := Fm12.keep KA12 List.not_mem_nil
  have Vl16 : Arv Z T16.heap bl kl (.object "com/example/crossmode/crossmode/search/Label") (4 : Int32) (List.replicate 4 .null) .null := (Vl12.pad (pad_rep [] .null 4)).keep KA12 List.not_mem_nil
  have Vw16 : Arv Z T16.heap bw kw .long ((4 : Int32) * (2 : Int32)) (List.replicate 8 (.long (0 : Int64))) (.long (0 : Int64)) := (Vw12.pad (pad_rep [] (.long (0 : Int64)) 8)).keep KA12 List.not_mem_nil
  have FxA := (Fx14.ext E15).keep K16 (own_n1 (by omega))
  have ExA := (Ex14.ext E15).keep K16
  have Vwa : Arv Z T16.heap b6 kc6 .long (2 : Int32) [.long q2, .long q3] (.long (0 : Int64)) := ((((V6.keep K7 List.not_mem_nil).keep K8 List.not_mem_nil).keep K9 List.not_mem_nil).keep KA List.not_mem_nil)
  have Vwb : Arv Z T16.heap b7 kc7 .long (2 : Int32) [.long q4, .long q5] (.long (0 : Int64)) := (((V7.keep K8 List.not_mem_nil).keep K9 List.not_mem_nil).keep KA List.not_mem_nil)
  have Vqa : Arv Z T16.heap b8 kc8 .long (2 : Int32) [.long q2, .long q3] (.long (0 : Int64)) := ((V8.keep K9 List.not_mem_nil).keep KA List.not_mem_nil)
  have Vqb : Arv Z T16.heap b9 kc9 .long (2 : Int32) [.long q4, .long q5] (.long (0 : Int64)) := (V9.keep KA List.not_mem_nil)
  have ly10 := own_lt' V_b10.lt
  have Vz : Arv Z T16.heap b10 k10 .long (2 : Int32) [.long (0 : Int64), .long (0 : Int64)] (.long (0 : Int64)) := (((V_b10.ext E11).keep K12 (own_n1 (by omega))).keep KA12 List.not_mem_nil)
  obtain ⟨cq17, kq17, q17a, q17b, q17c⟩ := isOf hZ rfl (((((E_b11.keep K12).ext E13).keep K14).ext E15).keep K16)
  obtain ⟨_, _, ⟨T17, L17, k17, n17⟩, -, X17, ⟨Lc17, hQ17, l17, y17, z17⟩, st17⟩ := X16.virtualBack hx (y := (⟨"com/example/crossmode/crossmode/search/LabelSet", "set", "(ILcom/example/crossmode/crossmode/search/Label;)V"⟩ : MethodName)) (z := (⟨"com/example/crossmode/crossmode/search/LabelSet", "set", "(ILcom/example/crossmode/crossmode/search/Label;)V"⟩ : MethodName)) hown (mvT hZ (hw _ (List.mem_of_getElem? (i := 37) rfl))) (mvT hZ (hw _ (List.mem_of_getElem? (i := 38) rfl))) (notFace_of_selects (args := #[]) (mvT hZ (hw _ (List.mem_of_getElem? (i := 40) rfl)))) (mvT hZ (hw _ (List.mem_of_getElem? (i := 40) rfl))) (mvT hZ (hw _ (List.mem_of_getElem? (i := 39) rfl))) (by decide) (backOf (W := 0) (own_rm5 l Z a0 hw [] b11 i b13 bl b6 bw (2 : Int32) kl kc6 kw (List.replicate 4 .null) [.long q2, .long q3] (List.replicate 8 (.long (0 : Int64))) T16.heap n0 (Nat.le_trans (Nat.le_trans (Nat.le_trans (Nat.le_trans (Nat.le_trans (Nat.le_trans (Nat.le_trans (Nat.le_trans (Nat.le_trans (Nat.le_trans (Nat.le_trans Z0 K6.1) K7.1) K8.1) K9.1) E10.1) E11.1) K12.1) E13.1) K14.1) E15.1) K16.1) Fl16 Fw16 Fm16 FxA ExA Vl16 Vw16 Vwa Ov12 (own_le' (by omega)) (own_le' (by omega)) (own_ne' (by omega)) (own_ne' (by omega)) (own_ne' (by omega)) (own_ne' (by omega)) (own_in4 hi) (own_lt4_a hi) (own_c2_2 hi) (by decide) (own_c5_2 hi) rfl (own_vl_2 hi)) hZ (hw _ (List.mem_of_getElem? (i := 41) rfl)) (hw _ (List.mem_of_getElem? (i := 7) rfl)) (by decide) (by decide)) q17a q17c (g := (mkF m 115 #[.val (.int p1), .val (.long q2), .second, .val (.long q3), .second, .val (.long q4), .second, .val (.long q5), .second, .val (.int (2 : Int32)), .val (.int i), .val (.int j), .val (.int k), .val (.ref b6), .val (.ref b7), .val (.ref b8), .val (.ref b9), .val (.ref b10), .val (.ref b11), .val (.ref b13), .val (.ref b15), .unset] [(.ref b13), (.int i), (.ref b11)])) rfl (by rw [hml]; rfl) (Steps.refl _) (argsL := [(.int i), (.ref b13)]) (rest := []) (lenOf pd_0_4 rfl) rfl (by show 2 * 0 + _ ≤ _; exact Nat.le_of_eq rfl) (hb hby at_115) (fun _ _ => ⟨rfl, rfl, (by decide : 10 + 0 ≤ _), (by decide : 44 + 0 ≤ _)⟩)
  dsimp only [Pt.U, Pt.locs, Pt.cells, Pt.slots] at X17 l17 y17 z17 st17 hQ17
  subst l17 y17 z17
  obtain ⟨rfl, N17q, K17, Vl17, Vw17⟩ := hQ17
  have N17 := Fr.app N16 N17q
  have KK17 : Keep h0 T17.heap [] := KK16.trans K17 (fun x hx => Or.inr (own_m2 hx (by omega) (by omega)))
  have z17 := K17.1
  have Fl17 := Fl16.keep K17 (own_n2 (by omega) (by omega))
  have Fw17 := Fw16.keep K17 (own_n2 (by omega) (by omega))
  have Fm17 := Fm16.keep K17 (own_n2 (by omega) (by omega))
  have FxB := Fx16.keep K17 (own_n2 (by omega) (by omega))
  have ExB := Ex16.keep K17
  have Vwb7 := Vwb.keep K17 (own_n2 (by omega) (by omega))
  obtain ⟨cq18, kq18, q18a, q18b, q18c⟩ := isOf hZ rfl ((((((E_b11.keep K12).ext E13).keep K14).ext E15).keep K16).keep K17)
  obtain ⟨_, _, ⟨T18, L18, k18, n18⟩, -, X18, ⟨Lc18, hQ18, l18, y18, z18⟩, st18⟩ := X17.virtualBack hx (y := (⟨"com/example/crossmode/crossmode/search/LabelSet", "set", "(ILcom/example/crossmode/crossmode/search/Label;)V"⟩ : MethodName)) (z := (⟨"com/example/crossmode/crossmode/search/LabelSet", "set", "(ILcom/example/crossmode/crossmode/search/Label;)V"⟩ : MethodName)) hown (mvT hZ (hw _ (List.mem_of_getElem? (i := 37) rfl))) (mvT hZ (hw _ (List.mem_of_getElem? (i := 38) rfl))) (notFace_of_selects (args := #[]) (mvT hZ (hw _ (List.mem_of_getElem? (i := 40) rfl)))) (mvT hZ (hw _ (List.mem_of_getElem? (i := 40) rfl))) (mvT hZ (hw _ (List.mem_of_getElem? (i := 39) rfl))) (by decide) (backOf (W := 0) (own_rm5 l Z a0 hw [] b11 j b15 bl b7 bw (2 : Int32) kl kc7 kw ((List.replicate 4 .null).set i.toNatClampNeg (.ref b13)) [.long q4, .long q5] (own_sp (List.replicate 8 (.long (0 : Int64))) [.long q2, .long q3] (i * (2 : Int32)).toNatClampNeg (2 : Int32).toNatClampNeg) T17.heap n0 (Nat.le_trans (Nat.le_trans (Nat.le_trans (Nat.le_trans (Nat.le_trans (Nat.le_trans (Nat.le_trans (Nat.le_trans (Nat.le_trans (Nat.le_trans (Nat.le_trans (Nat.le_trans Z0 K6.1) K7.1) K8.1) K9.1) E10.1) E11.1) K12.1) E13.1) K14.1) E15.1) K16.1) K17.1) Fl17 Fw17 Fm17 FxB ExB Vl17 Vw17 Vwb7 Ov12 (own_le' (by omega)) (own_le' (by omega)) (own_ne' (by omega)) (own_ne' (by omega)) (own_ne' (by omega)) (own_ne' (by omega)) (own_in4 hj) (own_lt4_b hj) (own_c2_2 hj) (by decide) (own_c5_2 hj) rfl (own_vl2_2 hi hj)) hZ (hw _ (List.mem_of_getElem? (i := 41) rfl)) (hw _ (List.mem_of_getElem? (i := 7) rfl)) (by decide) (by decide)) q18a q18c (g := (mkF m 124 #[.val (.int p1), .val (.long q2), .second, .val (.long q3), .second, .val (.long q4), .second, .val (.long q5), .second, .val (.int (2 : Int32)), .val (.int i), .val (.int j), .val (.int k), .val (.ref b6), .val (.ref b7), .val (.ref b8), .val (.ref b9), .val (.ref b10), .val (.ref b11), .val (.ref b13), .val (.ref b15), .unset] [(.ref b15), (.int j), (.ref b11)])) rfl (by rw [hml]; rfl) (Steps.refl _) (argsL := [(.int j), (.ref b15)]) (rest := []) (lenOf pd_0_4 rfl) rfl (by show 2 * 0 + _ ≤ _; exact Nat.le_of_eq rfl) (hb hby at_124) (fun _ _ => ⟨rfl, rfl, (by decide : 10 + 0 ≤ _), (by decide : 44 + 0 ≤ _)⟩)
  dsimp only [Pt.U, Pt.locs, Pt.cells, Pt.slots] at X18 l18 y18 z18 st18 hQ18
  subst l18 y18 z18
  obtain ⟨rfl, N18q, K18, Vl18, Vw18⟩ := hQ18
  have N18 := Fr.app N17 N18q
  have KK18 : Keep h0 T18.heap [] := KK17.trans K18 (fun x hx => Or.inr (own_m2 hx (by omega) (by omega)))
  have z18 := K18.1
  have Fl18 := Fl17.keep K18 (own_n2 (by omega) (by omega))
  have Fw18 := Fw17.keep K18 (own_n2 (by omega) (by omega))
  have Vqa8 := (Vqa.keep K17 (own_n2 (by omega) (by omega))).keep K18 (own_n2 (by omega) (by omega))
  have Vqb8 := (Vqb.keep K17 (own_n2 (by omega) (by omega))).keep K18 (own_n2 (by omega) (by omega))
  have Vz8 := (Vz.keep K17 (own_n2 (by omega) (by omega))).keep K18 (own_n2 (by omega) (by omega))
  have S18 := own_sta S_SAME KK18
  obtain ⟨cq19, kq19, q19a, q19b, q19c⟩ := isOf hZ rfl (((((((E_b11.keep K12).ext E13).keep K14).ext E15).keep K16).keep K17).keep K18)
  obtain ⟨_, _, ⟨T19, L19, k19, n19⟩, -, X19, ⟨Lc19, hQ19, l19, y19, z19⟩, st19⟩ := X18.virtualBack hx (y := (⟨"com/example/crossmode/crossmode/search/LabelSet", "get", "(I)Lcom/example/crossmode/crossmode/search/Label;"⟩ : MethodName)) (z := (⟨"com/example/crossmode/crossmode/search/LabelSet", "get", "(I)Lcom/example/crossmode/crossmode/search/Label;"⟩ : MethodName)) hown (mvT hZ (hw _ (List.mem_of_getElem? (i := 48) rfl))) (mvT hZ (hw _ (List.mem_of_getElem? (i := 49) rfl))) (notFace_of_selects (args := #[]) (mvT hZ (hw _ (List.mem_of_getElem? (i := 51) rfl)))) (mvT hZ (hw _ (List.mem_of_getElem? (i := 51) rfl))) (mvT hZ (hw _ (List.mem_of_getElem? (i := 50) rfl))) (by decide) (backOf (W := 0) (own_rm6_ref l Z a0 hw [] b11 j bl b15 kl (((List.replicate 4 .null).set i.toNatClampNeg (.ref b13)).set j.toNatClampNeg (.ref b15)) T18.heap n0 (Nat.le_trans (Nat.le_trans (Nat.le_trans (Nat.le_trans (Nat.le_trans (Nat.le_trans (Nat.le_trans (Nat.le_trans (Nat.le_trans (Nat.le_trans (Nat.le_trans (Nat.le_trans (Nat.le_trans Z0 K6.1) K7.1) K8.1) K9.1) E10.1) E11.1) K12.1) E13.1) K14.1) E15.1) K16.1) K17.1) K18.1) Fl18 Vl18 hj (own_lj hi hj)) hZ (hw _ (List.mem_of_getElem? (i := 52) rfl)) (hw _ (List.mem_of_getElem? (i := 7) rfl)) (by decide) (by decide)) q19a q19c (g := (mkF m 131 #[.val (.int p1), .val (.long q2), .second, .val (.long q3), .second, .val (.long q4), .second, .val (.long q5), .second, .val (.int (2 : Int32)), .val (.int i), .val (.int j), .val (.int k), .val (.ref b6), .val (.ref b7), .val (.ref b8), .val (.ref b9), .val (.ref b10), .val (.ref b11), .val (.ref b13), .val (.ref b15), .unset] [(.int j), (.ref b11)])) rfl (by rw [hml]; rfl) (Steps.refl _) (argsL := [(.int j)]) (rest := []) (lenOf pd_0_6 rfl) rfl (by show 2 * 0 + _ ≤ _; exact Nat.le_of_eq rfl) (hb hby at_131) (fun _ _ => ⟨rfl, rfl, (by decide : 10 + 0 ≤ _), (by decide : 44 + 0 ≤ _)⟩)
  dsimp only [Pt.U, Pt.locs, Pt.cells, Pt.slots] at X19 l19 y19 z19 st19 hQ19
  subst l19 y19 z19
  obtain ⟨rfl, N19q, e19⟩ := hQ19
  have N19 := Fr.app N18 N19q
  obtain ⟨cq20, kq20, q20a, q20b, q20c⟩ := isOf hZ e19 (((((((E_b11.keep K12).ext E13).keep K14).ext E15).keep K16).keep K17).keep K18)
  obtain ⟨_, _, ⟨T20, L20, k20, n20⟩, -, X20, ⟨Lc20, hQ20, l20, y20, z20⟩, st20⟩ := X19.virtualBack hx (y := (⟨"com/example/crossmode/crossmode/search/LabelSet", "compare", "(I[J)Lcom/example/crossmode/crossmode/search/Dominance;"⟩ : MethodName)) (z := (⟨"com/example/crossmode/crossmode/search/LabelSet", "compare", "(I[J)Lcom/example/crossmode/crossmode/search/Dominance;"⟩ : MethodName)) hown (mvT hZ (hw _ (List.mem_of_getElem? (i := 53) rfl))) (mvT hZ (hw _ (List.mem_of_getElem? (i := 54) rfl))) (notFace_of_selects (args := #[]) (mvT hZ (hw _ (List.mem_of_getElem? (i := 56) rfl)))) (mvT hZ (hw _ (List.mem_of_getElem? (i := 56) rfl))) (mvT hZ (hw _ (List.mem_of_getElem? (i := 55) rfl))) (by decide) (backOf (W := 0) (own_rm7_2 l Z a0 hw [] b11 j b9 bw kw kc9 (own_sp (own_sp (List.replicate 8 (.long (0 : Int64))) [.long q2, .long q3] (i * (2 : Int32)).toNatClampNeg (2 : Int32).toNatClampNeg) [.long q4, .long q5] (j * (2 : Int32)).toNatClampNeg (2 : Int32).toNatClampNeg) q4 q5 w21 T18.heap n0 (Nat.le_trans (Nat.le_trans (Nat.le_trans (Nat.le_trans (Nat.le_trans (Nat.le_trans (Nat.le_trans (Nat.le_trans (Nat.le_trans (Nat.le_trans (Nat.le_trans (Nat.le_trans (Nat.le_trans Z0 K6.1) K7.1) K8.1) K9.1) E10.1) E11.1) K12.1) E13.1) K14.1) E15.1) K16.1) K17.1) K18.1) Fw18 Vw18 Vqb8 S18 hj (own_vj_2_0 hi hj) (own_vj_2_1 hi hj)) hZ (hw _ (List.mem_of_getElem? (i := 57) rfl)) (hw _ (List.mem_of_getElem? (i := 7) rfl)) (by decide) (by decide)) q20a q20c (g := (mkF m 145 #[.val (.int p1), .val (.long q2), .second, .val (.long q3), .second, .val (.long q4), .second, .val (.long q5), .second, .val (.int (2 : Int32)), .val (.int i), .val (.int j), .val (.int k), .val (.ref b6), .val (.ref b7), .val (.ref b8), .val (.ref b9), .val (.ref b10), .val (.ref b11), .val (.ref b13), .val (.ref b15), .unset] [(.ref b9), (.int j), (.ref b11)])) rfl (by rw [hml]; rfl) (Steps.refl _) (argsL := [(.int j), (.ref b9)]) (rest := []) (lenOf pd_0_7 rfl) rfl (by show 2 * 0 + _ ≤ _; exact Nat.le_of_eq rfl) (hb hby at_145) (fun _ _ => ⟨rfl, e19, (by decide : 10 + 0 ≤ _), (by decide : 44 + 0 ≤ _)⟩)
  dsimp only [Pt.U, Pt.locs, Pt.cells, Pt.slots] at X20 l20 y20 z20 st20 hQ20
  subst l20 y20 z20
  obtain ⟨rfl, N20q, e20⟩ := hQ20
  have N20 := Fr.app N19 N20q
  obtain ⟨T22, X22, e22, st22⟩ := getS2 X20 hx hZ hown (host := "") (Or.inl (hw _ (List.mem_of_getElem? (i := 61) rfl))) Via.refl e20 S18 (g := (mkF m 148 #[.val (.int p1), .val (.long q2), .second, .val (.long q3), .second, .val (.long q4), .second, .val (.long q5), .second, .val (.int (2 : Int32)), .val (.int i), .val (.int j), .val (.int k), .val (.ref b6), .val (.ref b7), .val (.ref b8), .val (.ref b9), .val (.ref b10), .val (.ref b11), .val (.ref b13), .val (.ref b15), .unset] [(.ref w21)])) rfl (hb hby at_148)
  have E18 := (((((((E_b11.keep K12).ext E13).keep K14).ext E15).keep K16).keep K17).keep K18)
  have Z18 : n0 ≤ T18.heap.size := (Nat.le_trans (Nat.le_trans (Nat.le_trans (Nat.le_trans (Nat.le_trans (Nat.le_trans (Nat.le_trans (Nat.le_trans (Nat.le_trans (Nat.le_trans (Nat.le_trans (Nat.le_trans (Nat.le_trans Z0 K6.1) K7.1) K8.1) K9.1) E10.1) E11.1) K12.1) E13.1) K14.1) E15.1) K16.1) K17.1) K18.1)
  obtain ⟨T23, L23, X23, e23, N23, s23⟩ := own_B1_2 (.val (.int p1)) (.val (.long q2)) (.second) (.val (.long q3)) (.second) (.val (.long q4)) (.second) (.val (.long q5)) (.second) (.val (.int (2 : Int32))) (.val (.int k)) (.val (.ref b6)) (.val (.ref b7)) (.val (.ref b9)) (.val (.ref b10)) (.val (.ref b15)) i j b8 b11 b13 n0 bl bw kl kw kc8 (((List.replicate 4 .null).set i.toNatClampNeg (.ref b13)).set j.toNatClampNeg (.ref b15)) (own_sp (own_sp (List.replicate 8 (.long (0 : Int64))) [.long q2, .long q3] (i * (2 : Int32)).toNatClampNeg (2 : Int32).toNatClampNeg) [.long q4, .long q5] (j * (2 : Int32)).toNatClampNeg (2 : Int32).toNatClampNeg) q2 q3 w21 X22 hx hZ hw hby hml hown e22 N20 Z18 (by decide) (by decide) Fl18 Fw18 Vl18 Vw18 Vqa8 hi (own_li hi hj) (own_vi_2_0 hi hj) (own_vi_2_1 hi hj) E18 S18
  obtain ⟨T24, L24, X24, e24, N24, s24⟩ := own_B2_2 (.val (.int p1)) (.val (.long q2)) (.second) (.val (.long q3)) (.second) (.val (.long q4)) (.second) (.val (.long q5)) (.second) (.val (.int (2 : Int32))) (.val (.ref b6)) (.val (.ref b7)) (.val (.ref b8)) (.val (.ref b9)) (.val (.ref b13)) (.val (.ref b15)) i j k b10 b11 n0 bl bw kl kw k10 (((List.replicate 4 .null).set i.toNatClampNeg (.ref b13)).set j.toNatClampNeg (.ref b15)) (own_sp (own_sp (List.replicate 8 (.long (0 : Int64))) [.long q2, .long q3] (i * (2 : Int32)).toNatClampNeg (2 : Int32).toNatClampNeg) [.long q4, .long q5] (j * (2 : Int32)).toNatClampNeg (2 : Int32).toNatClampNeg) (0 : Int64) (0 : Int64) w21 X23 hx hZ hw hby hml hown e23 N23 Z18 (by decide) (by decide) Fl18 Fw18 Vl18 Vw18 Vz8 hk (own_lk hi hj hk) (own_vk_2_0 hi hj hk) (own_vk_2_1 hi hj hk) E18 S18
  obtain ⟨fs, hr, hrun, hended, hW, hsame⟩ := X24.leave (v := some (.int (1 : Int32))) (fun h => by rw [Bd.returns] at h; cases h)
  refine ⟨_, _, pre0 _ ?_, hrun, hended, _, _, rfl, ?_, ⟨_, rfl⟩, hW, hsame.mono (by decide) (by decide)⟩
  · show Steps p.tables e below (s₁.setTop (mkF m 0 #[.val (.int p1), .val (.long q2), .second, .val (.long q3), .second, .val (.long q4), .second, .val (.long q5), .second, .unset, .unset, .unset, .unset, .unset, .unset, .unset, .unset, .unset, .unset, .unset, .unset, .unset] [])) _
    refine XS.iconst X0.here hx rfl (hb hby at_0) ?_
    show Steps p.tables e below (s₁.setTop (mkF m 1 #[.val (.int p1), .val (.long q2), .second, .val (.long q3), .second, .val (.long q4), .second, .val (.long q5), .second, .unset, .unset, .unset, .unset, .unset, .unset, .unset, .unset, .unset, .unset, .unset, .unset, .unset] [(.int (1 : Int32))])) _
    refine XS.iloadN X0.here hx rfl (hb hby at_1) rfl ?_
    show Steps p.tables e below (s₁.setTop (mkF m 2 #[.val (.int p1), .val (.long q2), .second, .val (.long q3), .second, .val (.long q4), .second, .val (.long q5), .second, .unset, .unset, .unset, .unset, .unset, .unset, .unset, .unset, .unset, .unset, .unset, .unset, .unset] [(.int p1), (.int (1 : Int32))])) _
    refine XS.iconst X0.here hx rfl (hb hby at_2) ?_
    show Steps p.tables e below (s₁.setTop (mkF m 3 #[.val (.int p1), .val (.long q2), .second, .val (.long q3), .second, .val (.long q4), .second, .val (.long q5), .second, .unset, .unset, .unset, .unset, .unset, .unset, .unset, .unset, .unset, .unset, .unset, .unset, .unset] [(.int (1 : Int32)), (.int p1), (.int (1 : Int32))])) _
    refine XS.iand X0.here hx rfl (hb hby at_3) rfl ?_
    show Steps p.tables e below (s₁.setTop (mkF m 4 #[.val (.int p1), .val (.long q2), .second, .val (.long q3), .second, .val (.long q4), .second, .val (.long q5), .second, .unset, .unset, .unset, .unset, .unset, .unset, .unset, .unset, .unset, .unset, .unset, .unset, .unset] [(.int (p1 &&& (1 : Int32))), (.int (1 : Int32))])) _
    refine XS.iadd X0.here hx rfl (hb hby at_4) rfl ?_
    show Steps p.tables e below (s₁.setTop (mkF m 5 #[.val (.int p1), .val (.long q2), .second, .val (.long q3), .second, .val (.long q4), .second, .val (.long q5), .second, .unset, .unset, .unset, .unset, .unset, .unset, .unset, .unset, .unset, .unset, .unset, .unset, .unset] [(.int ((1 : Int32) + (p1 &&& (1 : Int32))))])) _
    rw [hm]
    show Steps p.tables e below (s₁.setTop (mkF m 5 #[.val (.int p1), .val (.long q2), .second, .val (.long q3), .second, .val (.long q4), .second, .val (.long q5), .second, .unset, .unset, .unset, .unset, .unset, .unset, .unset, .unset, .unset, .unset, .unset, .unset, .unset] [(.int (2 : Int32))])) _
    refine XS.istore X0.here hx rfl (hb hby at_5) rfl (l' := #[.val (.int p1), .val (.long q2), .second, .val (.long q3), .second, .val (.long q4), .second, .val (.long q5), .second, .val (.int (2 : Int32)), .unset, .unset, .unset, .unset, .unset, .unset, .unset, .unset, .unset, .unset, .unset, .unset]) rfl ?_
    show Steps p.tables e below (s₁.setTop (mkF m 7 #[.val (.int p1), .val (.long q2), .second, .val (.long q3), .second, .val (.long q4), .second, .val (.long q5), .second, .val (.int (2 : Int32)), .unset, .unset, .unset, .unset, .unset, .unset, .unset, .unset, .unset, .unset, .unset, .unset] [])) _
    refine XS.iloadN X0.here hx rfl (hb hby at_7) rfl ?_
    show Steps p.tables e below (s₁.setTop (mkF m 8 #[.val (.int p1), .val (.long q2), .second, .val (.long q3), .second, .val (.long q4), .second, .val (.long q5), .second, .val (.int (2 : Int32)), .unset, .unset, .unset, .unset, .unset, .unset, .unset, .unset, .unset, .unset, .unset, .unset] [(.int p1)])) _
    refine XS.iconst X0.here hx rfl (hb hby at_8) ?_
    show Steps p.tables e below (s₁.setTop (mkF m 9 #[.val (.int p1), .val (.long q2), .second, .val (.long q3), .second, .val (.long q4), .second, .val (.long q5), .second, .val (.int (2 : Int32)), .unset, .unset, .unset, .unset, .unset, .unset, .unset, .unset, .unset, .unset, .unset, .unset] [(.int (1 : Int32)), (.int p1)])) _
    refine XS.iushr X0.here hx rfl (hb hby at_9) rfl ?_
    show Steps p.tables e below (s₁.setTop (mkF m 10 #[.val (.int p1), .val (.long q2), .second, .val (.long q3), .second, .val (.long q4), .second, .val (.long q5), .second, .val (.int (2 : Int32)), .unset, .unset, .unset, .unset, .unset, .unset, .unset, .unset, .unset, .unset, .unset, .unset] [(.int ((p1.toUInt32 >>> ((1 : Int32) &&& 31).toUInt32).toInt32))])) _
    refine XS.iconst X0.here hx rfl (hb hby at_10) ?_
    show Steps p.tables e below (s₁.setTop (mkF m 11 #[.val (.int p1), .val (.long q2), .second, .val (.long q3), .second, .val (.long q4), .second, .val (.long q5), .second, .val (.int (2 : Int32)), .unset, .unset, .unset, .unset, .unset, .unset, .unset, .unset, .unset, .unset, .unset, .unset] [(.int (3 : Int32)), (.int ((p1.toUInt32 >>> ((1 : Int32) &&& 31).toUInt32).toInt32))])) _
    refine XS.iand X0.here hx rfl (hb hby at_11) rfl ?_
    show Steps p.tables e below (s₁.setTop (mkF m 12 #[.val (.int p1), .val (.long q2), .second, .val (.long q3), .second, .val (.long q4), .second, .val (.long q5), .second, .val (.int (2 : Int32)), .unset, .unset, .unset, .unset, .unset, .unset, .unset, .unset, .unset, .unset, .unset, .unset] [(.int (((p1.toUInt32 >>> ((1 : Int32) &&& 31).toUInt32).toInt32) &&& (3 : Int32)))])) _
    rw [ei]
    show Steps p.tables e below (s₁.setTop (mkF m 12 #[.val (.int p1), .val (.long q2), .second, .val (.long q3), .second, .val (.long q4), .second, .val (.long q5), .second, .val (.int (2 : Int32)), .unset, .unset, .unset, .unset, .unset, .unset, .unset, .unset, .unset, .unset, .unset, .unset] [(.int i)])) _
    refine XS.istore X0.here hx rfl (hb hby at_12) rfl (l' := #[.val (.int p1), .val (.long q2), .second, .val (.long q3), .second, .val (.long q4), .second, .val (.long q5), .second, .val (.int (2 : Int32)), .val (.int i), .unset, .unset, .unset, .unset, .unset, .unset, .unset, .unset, .unset, .unset, .unset]) rfl ?_
    show Steps p.tables e below (s₁.setTop (mkF m 14 #[.val (.int p1), .val (.long q2), .second, .val (.long q3), .second, .val (.long q4), .second, .val (.long q5), .second, .val (.int (2 : Int32)), .val (.int i), .unset, .unset, .unset, .unset, .unset, .unset, .unset, .unset, .unset, .unset, .unset] [])) _
    refine XS.iloadN X0.here hx rfl (hb hby at_14) rfl ?_
    show Steps p.tables e below (s₁.setTop (mkF m 15 #[.val (.int p1), .val (.long q2), .second, .val (.long q3), .second, .val (.long q4), .second, .val (.long q5), .second, .val (.int (2 : Int32)), .val (.int i), .unset, .unset, .unset, .unset, .unset, .unset, .unset, .unset, .unset, .unset, .unset] [(.int p1)])) _
    refine XS.iconst X0.here hx rfl (hb hby at_15) ?_
    show Steps p.tables e below (s₁.setTop (mkF m 16 #[.val (.int p1), .val (.long q2), .second, .val (.long q3), .second, .val (.long q4), .second, .val (.long q5), .second, .val (.int (2 : Int32)), .val (.int i), .unset, .unset, .unset, .unset, .unset, .unset, .unset, .unset, .unset, .unset, .unset] [(.int (3 : Int32)), (.int p1)])) _
    refine XS.iushr X0.here hx rfl (hb hby at_16) rfl ?_
    show Steps p.tables e below (s₁.setTop (mkF m 17 #[.val (.int p1), .val (.long q2), .second, .val (.long q3), .second, .val (.long q4), .second, .val (.long q5), .second, .val (.int (2 : Int32)), .val (.int i), .unset, .unset, .unset, .unset, .unset, .unset, .unset, .unset, .unset, .unset, .unset] [(.int ((p1.toUInt32 >>> ((3 : Int32) &&& 31).toUInt32).toInt32))])) _
    refine XS.iconst X0.here hx rfl (hb hby at_17) ?_
    show Steps p.tables e below (s₁.setTop (mkF m 18 #[.val (.int p1), .val (.long q2), .second, .val (.long q3), .second, .val (.long q4), .second, .val (.long q5), .second, .val (.int (2 : Int32)), .val (.int i), .unset, .unset, .unset, .unset, .unset, .unset, .unset, .unset, .unset, .unset, .unset] [(.int (3 : Int32)), (.int ((p1.toUInt32 >>> ((3 : Int32) &&& 31).toUInt32).toInt32))])) _
    refine XS.iand X0.here hx rfl (hb hby at_18) rfl ?_
    show Steps p.tables e below (s₁.setTop (mkF m 19 #[.val (.int p1), .val (.long q2), .second, .val (.long q3), .second, .val (.long q4), .second, .val (.long q5), .second, .val (.int (2 : Int32)), .val (.int i), .unset, .unset, .unset, .unset, .unset, .unset, .unset, .unset, .unset, .unset, .unset] [(.int (((p1.toUInt32 >>> ((3 : Int32) &&& 31).toUInt32).toInt32) &&& (3 : Int32)))])) _
    rw [ej]
    show Steps p.tables e below (s₁.setTop (mkF m 19 #[.val (.int p1), .val (.long q2), .second, .val (.long q3), .second, .val (.long q4), .second, .val (.long q5), .second, .val (.int (2 : Int32)), .val (.int i), .unset, .unset, .unset, .unset, .unset, .unset, .unset, .unset, .unset, .unset, .unset] [(.int j)])) _
    refine XS.istore X0.here hx rfl (hb hby at_19) rfl (l' := #[.val (.int p1), .val (.long q2), .second, .val (.long q3), .second, .val (.long q4), .second, .val (.long q5), .second, .val (.int (2 : Int32)), .val (.int i), .val (.int j), .unset, .unset, .unset, .unset, .unset, .unset, .unset, .unset, .unset, .unset]) rfl ?_
    show Steps p.tables e below (s₁.setTop (mkF m 21 #[.val (.int p1), .val (.long q2), .second, .val (.long q3), .second, .val (.long q4), .second, .val (.long q5), .second, .val (.int (2 : Int32)), .val (.int i), .val (.int j), .unset, .unset, .unset, .unset, .unset, .unset, .unset, .unset, .unset, .unset] [])) _
    refine XS.iloadN X0.here hx rfl (hb hby at_21) rfl ?_
    show Steps p.tables e below (s₁.setTop (mkF m 22 #[.val (.int p1), .val (.long q2), .second, .val (.long q3), .second, .val (.long q4), .second, .val (.long q5), .second, .val (.int (2 : Int32)), .val (.int i), .val (.int j), .unset, .unset, .unset, .unset, .unset, .unset, .unset, .unset, .unset, .unset] [(.int p1)])) _
    refine XS.iconst X0.here hx rfl (hb hby at_22) ?_
    show Steps p.tables e below (s₁.setTop (mkF m 23 #[.val (.int p1), .val (.long q2), .second, .val (.long q3), .second, .val (.long q4), .second, .val (.long q5), .second, .val (.int (2 : Int32)), .val (.int i), .val (.int j), .unset, .unset, .unset, .unset, .unset, .unset, .unset, .unset, .unset, .unset] [(.int (5 : Int32)), (.int p1)])) _
    refine XS.iushr X0.here hx rfl (hb hby at_23) rfl ?_
    show Steps p.tables e below (s₁.setTop (mkF m 24 #[.val (.int p1), .val (.long q2), .second, .val (.long q3), .second, .val (.long q4), .second, .val (.long q5), .second, .val (.int (2 : Int32)), .val (.int i), .val (.int j), .unset, .unset, .unset, .unset, .unset, .unset, .unset, .unset, .unset, .unset] [(.int ((p1.toUInt32 >>> ((5 : Int32) &&& 31).toUInt32).toInt32))])) _
    refine XS.iconst X0.here hx rfl (hb hby at_24) ?_
    show Steps p.tables e below (s₁.setTop (mkF m 25 #[.val (.int p1), .val (.long q2), .second, .val (.long q3), .second, .val (.long q4), .second, .val (.long q5), .second, .val (.int (2 : Int32)), .val (.int i), .val (.int j), .unset, .unset, .unset, .unset, .unset, .unset, .unset, .unset, .unset, .unset] [(.int (3 : Int32)), (.int ((p1.toUInt32 >>> ((5 : Int32) &&& 31).toUInt32).toInt32))])) _
    refine XS.iand X0.here hx rfl (hb hby at_25) rfl ?_
    show Steps p.tables e below (s₁.setTop (mkF m 26 #[.val (.int p1), .val (.long q2), .second, .val (.long q3), .second, .val (.long q4), .second, .val (.long q5), .second, .val (.int (2 : Int32)), .val (.int i), .val (.int j), .unset, .unset, .unset, .unset, .unset, .unset, .unset, .unset, .unset, .unset] [(.int (((p1.toUInt32 >>> ((5 : Int32) &&& 31).toUInt32).toInt32) &&& (3 : Int32)))])) _
    rw [ek]
    show Steps p.tables e below (s₁.setTop (mkF m 26 #[.val (.int p1), .val (.long q2), .second, .val (.long q3), .second, .val (.long q4), .second, .val (.long q5), .second, .val (.int (2 : Int32)), .val (.int i), .val (.int j), .unset, .unset, .unset, .unset, .unset, .unset, .unset, .unset, .unset, .unset] [(.int k)])) _
    refine XS.istore X0.here hx rfl (hb hby at_26) rfl (l' := #[.val (.int p1), .val (.long q2), .second, .val (.long q3), .second, .val (.long q4), .second, .val (.long q5), .second, .val (.int (2 : Int32)), .val (.int i), .val (.int j), .val (.int k), .unset, .unset, .unset, .unset, .unset, .unset, .unset, .unset, .unset]) rfl ?_
    show Steps p.tables e below (s₁.setTop (mkF m 28 #[.val (.int p1), .val (.long q2), .second, .val (.long q3), .second, .val (.long q4), .second, .val (.long q5), .second, .val (.int (2 : Int32)), .val (.int i), .val (.int j), .val (.int k), .unset, .unset, .unset, .unset, .unset, .unset, .unset, .unset, .unset] [])) _
    refine XS.iload X0.here hx rfl (hb hby at_28) rfl ?_
    show Steps p.tables e below (s₁.setTop (mkF m 30 #[.val (.int p1), .val (.long q2), .second, .val (.long q3), .second, .val (.long q4), .second, .val (.long q5), .second, .val (.int (2 : Int32)), .val (.int i), .val (.int j), .val (.int k), .unset, .unset, .unset, .unset, .unset, .unset, .unset, .unset, .unset] [(.int (2 : Int32))])) _
    refine XS.lloadN X0.here hx rfl (hb hby at_30) rfl ?_
    show Steps p.tables e below (s₁.setTop (mkF m 31 #[.val (.int p1), .val (.long q2), .second, .val (.long q3), .second, .val (.long q4), .second, .val (.long q5), .second, .val (.int (2 : Int32)), .val (.int i), .val (.int j), .val (.int k), .unset, .unset, .unset, .unset, .unset, .unset, .unset, .unset, .unset] [(.long q2), (.int (2 : Int32))])) _
    refine XS.lloadN X0.here hx rfl (hb hby at_31) rfl ?_
    show Steps p.tables e below (s₁.setTop (mkF m 32 #[.val (.int p1), .val (.long q2), .second, .val (.long q3), .second, .val (.long q4), .second, .val (.long q5), .second, .val (.int (2 : Int32)), .val (.int i), .val (.int j), .val (.int k), .unset, .unset, .unset, .unset, .unset, .unset, .unset, .unset, .unset] [(.long q3), (.long q2), (.int (2 : Int32))])) _
    refine st6 _ ?_
    show Steps p.tables e below (T6.setTop (mkF m 35 #[.val (.int p1), .val (.long q2), .second, .val (.long q3), .second, .val (.long q4), .second, .val (.long q5), .second, .val (.int (2 : Int32)), .val (.int i), .val (.int j), .val (.int k), .unset, .unset, .unset, .unset, .unset, .unset, .unset, .unset, .unset] [(.ref b6)])) _
    refine XS.astore X6.here hx rfl (hb hby at_35) rfl rfl (l' := #[.val (.int p1), .val (.long q2), .second, .val (.long q3), .second, .val (.long q4), .second, .val (.long q5), .second, .val (.int (2 : Int32)), .val (.int i), .val (.int j), .val (.int k), .val (.ref b6), .unset, .unset, .unset, .unset, .unset, .unset, .unset, .unset]) rfl ?_
    show Steps p.tables e below (T6.setTop (mkF m 37 #[.val (.int p1), .val (.long q2), .second, .val (.long q3), .second, .val (.long q4), .second, .val (.long q5), .second, .val (.int (2 : Int32)), .val (.int i), .val (.int j), .val (.int k), .val (.ref b6), .unset, .unset, .unset, .unset, .unset, .unset, .unset, .unset] [])) _
    refine XS.iload X6.here hx rfl (hb hby at_37) rfl ?_
    show Steps p.tables e below (T6.setTop (mkF m 39 #[.val (.int p1), .val (.long q2), .second, .val (.long q3), .second, .val (.long q4), .second, .val (.long q5), .second, .val (.int (2 : Int32)), .val (.int i), .val (.int j), .val (.int k), .val (.ref b6), .unset, .unset, .unset, .unset, .unset, .unset, .unset, .unset] [(.int (2 : Int32))])) _
    refine XS.lload X6.here hx rfl (hb hby at_39) rfl ?_
    show Steps p.tables e below (T6.setTop (mkF m 41 #[.val (.int p1), .val (.long q2), .second, .val (.long q3), .second, .val (.long q4), .second, .val (.long q5), .second, .val (.int (2 : Int32)), .val (.int i), .val (.int j), .val (.int k), .val (.ref b6), .unset, .unset, .unset, .unset, .unset, .unset, .unset, .unset] [(.long q4), (.int (2 : Int32))])) _
    refine XS.lload X6.here hx rfl (hb hby at_41) rfl ?_
    show Steps p.tables e below (T6.setTop (mkF m 43 #[.val (.int p1), .val (.long q2), .second, .val (.long q3), .second, .val (.long q4), .second, .val (.long q5), .second, .val (.int (2 : Int32)), .val (.int i), .val (.int j), .val (.int k), .val (.ref b6), .unset, .unset, .unset, .unset, .unset, .unset, .unset, .unset] [(.long q5), (.long q4), (.int (2 : Int32))])) _
    refine st7 _ ?_
    show Steps p.tables e below (T7.setTop (mkF m 46 #[.val (.int p1), .val (.long q2), .second, .val (.long q3), .second, .val (.long q4), .second, .val (.long q5), .second, .val (.int (2 : Int32)), .val (.int i), .val (.int j), .val (.int k), .val (.ref b6), .unset, .unset, .unset, .unset, .unset, .unset, .unset, .unset] [(.ref b7)])) _
    refine XS.astore X7.here hx rfl (hb hby at_46) rfl rfl (l' := #[.val (.int p1), .val (.long q2), .second, .val (.long q3), .second, .val (.long q4), .second, .val (.long q5), .second, .val (.int (2 : Int32)), .val (.int i), .val (.int j), .val (.int k), .val (.ref b6), .val (.ref b7), .unset, .unset, .unset, .unset, .unset, .unset, .unset]) rfl ?_
    show Steps p.tables e below (T7.setTop (mkF m 48 #[.val (.int p1), .val (.long q2), .second, .val (.long q3), .second, .val (.long q4), .second, .val (.long q5), .second, .val (.int (2 : Int32)), .val (.int i), .val (.int j), .val (.int k), .val (.ref b6), .val (.ref b7), .unset, .unset, .unset, .unset, .unset, .unset, .unset] [])) _
    refine XS.iload X7.here hx rfl (hb hby at_48) rfl ?_
    show Steps p.tables e below (T7.setTop (mkF m 50 #[.val (.int p1), .val (.long q2), .second, .val (.long q3), .second, .val (.long q4), .second, .val (.long q5), .second, .val (.int (2 : Int32)), .val (.int i), .val (.int j), .val (.int k), .val (.ref b6), .val (.ref b7), .unset, .unset, .unset, .unset, .unset, .unset, .unset] [(.int (2 : Int32))])) _
    refine XS.lloadN X7.here hx rfl (hb hby at_50) rfl ?_
    show Steps p.tables e below (T7.setTop (mkF m 51 #[.val (.int p1), .val (.long q2), .second, .val (.long q3), .second, .val (.long q4), .second, .val (.long q5), .second, .val (.int (2 : Int32)), .val (.int i), .val (.int j), .val (.int k), .val (.ref b6), .val (.ref b7), .unset, .unset, .unset, .unset, .unset, .unset, .unset] [(.long q2), (.int (2 : Int32))])) _
    refine XS.lloadN X7.here hx rfl (hb hby at_51) rfl ?_
    show Steps p.tables e below (T7.setTop (mkF m 52 #[.val (.int p1), .val (.long q2), .second, .val (.long q3), .second, .val (.long q4), .second, .val (.long q5), .second, .val (.int (2 : Int32)), .val (.int i), .val (.int j), .val (.int k), .val (.ref b6), .val (.ref b7), .unset, .unset, .unset, .unset, .unset, .unset, .unset] [(.long q3), (.long q2), (.int (2 : Int32))])) _
    refine st8 _ ?_
    show Steps p.tables e below (T8.setTop (mkF m 55 #[.val (.int p1), .val (.long q2), .second, .val (.long q3), .second, .val (.long q4), .second, .val (.long q5), .second, .val (.int (2 : Int32)), .val (.int i), .val (.int j), .val (.int k), .val (.ref b6), .val (.ref b7), .unset, .unset, .unset, .unset, .unset, .unset, .unset] [(.ref b8)])) _
    refine XS.astore X8.here hx rfl (hb hby at_55) rfl rfl (l' := #[.val (.int p1), .val (.long q2), .second, .val (.long q3), .second, .val (.long q4), .second, .val (.long q5), .second, .val (.int (2 : Int32)), .val (.int i), .val (.int j), .val (.int k), .val (.ref b6), .val (.ref b7), .val (.ref b8), .unset, .unset, .unset, .unset, .unset, .unset]) rfl ?_
    show Steps p.tables e below (T8.setTop (mkF m 57 #[.val (.int p1), .val (.long q2), .second, .val (.long q3), .second, .val (.long q4), .second, .val (.long q5), .second, .val (.int (2 : Int32)), .val (.int i), .val (.int j), .val (.int k), .val (.ref b6), .val (.ref b7), .val (.ref b8), .unset, .unset, .unset, .unset, .unset, .unset] [])) _
    refine XS.iload X8.here hx rfl (hb hby at_57) rfl ?_
    show Steps p.tables e below (T8.setTop (mkF m 59 #[.val (.int p1), .val (.long q2), .second, .val (.long q3), .second, .val (.long q4), .second, .val (.long q5), .second, .val (.int (2 : Int32)), .val (.int i), .val (.int j), .val (.int k), .val (.ref b6), .val (.ref b7), .val (.ref b8), .unset, .unset, .unset, .unset, .unset, .unset] [(.int (2 : Int32))])) _
    refine XS.lload X8.here hx rfl (hb hby at_59) rfl ?_
    show Steps p.tables e below (T8.setTop (mkF m 61 #[.val (.int p1), .val (.long q2), .second, .val (.long q3), .second, .val (.long q4), .second, .val (.long q5), .second, .val (.int (2 : Int32)), .val (.int i), .val (.int j), .val (.int k), .val (.ref b6), .val (.ref b7), .val (.ref b8), .unset, .unset, .unset, .unset, .unset, .unset] [(.long q4), (.int (2 : Int32))])) _
    refine XS.lload X8.here hx rfl (hb hby at_61) rfl ?_
    show Steps p.tables e below (T8.setTop (mkF m 63 #[.val (.int p1), .val (.long q2), .second, .val (.long q3), .second, .val (.long q4), .second, .val (.long q5), .second, .val (.int (2 : Int32)), .val (.int i), .val (.int j), .val (.int k), .val (.ref b6), .val (.ref b7), .val (.ref b8), .unset, .unset, .unset, .unset, .unset, .unset] [(.long q5), (.long q4), (.int (2 : Int32))])) _
    refine st9 _ ?_
    show Steps p.tables e below (T9.setTop (mkF m 66 #[.val (.int p1), .val (.long q2), .second, .val (.long q3), .second, .val (.long q4), .second, .val (.long q5), .second, .val (.int (2 : Int32)), .val (.int i), .val (.int j), .val (.int k), .val (.ref b6), .val (.ref b7), .val (.ref b8), .unset, .unset, .unset, .unset, .unset, .unset] [(.ref b9)])) _
    refine XS.astore X9.here hx rfl (hb hby at_66) rfl rfl (l' := #[.val (.int p1), .val (.long q2), .second, .val (.long q3), .second, .val (.long q4), .second, .val (.long q5), .second, .val (.int (2 : Int32)), .val (.int i), .val (.int j), .val (.int k), .val (.ref b6), .val (.ref b7), .val (.ref b8), .val (.ref b9), .unset, .unset, .unset, .unset, .unset]) rfl ?_
    show Steps p.tables e below (T9.setTop (mkF m 68 #[.val (.int p1), .val (.long q2), .second, .val (.long q3), .second, .val (.long q4), .second, .val (.long q5), .second, .val (.int (2 : Int32)), .val (.int i), .val (.int j), .val (.int k), .val (.ref b6), .val (.ref b7), .val (.ref b8), .val (.ref b9), .unset, .unset, .unset, .unset, .unset] [])) _
    refine XS.iload X9.here hx rfl (hb hby at_68) rfl ?_
    show Steps p.tables e below (T9.setTop (mkF m 70 #[.val (.int p1), .val (.long q2), .second, .val (.long q3), .second, .val (.long q4), .second, .val (.long q5), .second, .val (.int (2 : Int32)), .val (.int i), .val (.int j), .val (.int k), .val (.ref b6), .val (.ref b7), .val (.ref b8), .val (.ref b9), .unset, .unset, .unset, .unset, .unset] [(.int (2 : Int32))])) _
    refine st10 _ ?_
    show Steps p.tables e below (T10.setTop (mkF m 72 #[.val (.int p1), .val (.long q2), .second, .val (.long q3), .second, .val (.long q4), .second, .val (.long q5), .second, .val (.int (2 : Int32)), .val (.int i), .val (.int j), .val (.int k), .val (.ref b6), .val (.ref b7), .val (.ref b8), .val (.ref b9), .unset, .unset, .unset, .unset, .unset] [(.ref b10)])) _
    refine XS.astore X10.here hx rfl (hb hby at_72) rfl rfl (l' := #[.val (.int p1), .val (.long q2), .second, .val (.long q3), .second, .val (.long q4), .second, .val (.long q5), .second, .val (.int (2 : Int32)), .val (.int i), .val (.int j), .val (.int k), .val (.ref b6), .val (.ref b7), .val (.ref b8), .val (.ref b9), .val (.ref b10), .unset, .unset, .unset, .unset]) rfl ?_
    show Steps p.tables e below (T10.setTop (mkF m 74 #[.val (.int p1), .val (.long q2), .second, .val (.long q3), .second, .val (.long q4), .second, .val (.long q5), .second, .val (.int (2 : Int32)), .val (.int i), .val (.int j), .val (.int k), .val (.ref b6), .val (.ref b7), .val (.ref b8), .val (.ref b9), .val (.ref b10), .unset, .unset, .unset, .unset] [])) _
    refine st11 _ ?_
    show Steps p.tables e below (T11.setTop (mkF m 77 #[.val (.int p1), .val (.long q2), .second, .val (.long q3), .second, .val (.long q4), .second, .val (.long q5), .second, .val (.int (2 : Int32)), .val (.int i), .val (.int j), .val (.int k), .val (.ref b6), .val (.ref b7), .val (.ref b8), .val (.ref b9), .val (.ref b10), .unset, .unset, .unset, .unset] [(.ref b11)])) _
    refine XS.dup X11.here hx rfl (hb hby at_77) rfl rfl ?_
    show Steps p.tables e below (T11.setTop (mkF m 78 #[.val (.int p1), .val (.long q2), .second, .val (.long q3), .second, .val (.long q4), .second, .val (.long q5), .second, .val (.int (2 : Int32)), .val (.int i), .val (.int j), .val (.int k), .val (.ref b6), .val (.ref b7), .val (.ref b8), .val (.ref b9), .val (.ref b10), .unset, .unset, .unset, .unset] [(.ref b11), (.ref b11)])) _
    refine XS.iload X11.here hx rfl (hb hby at_78) rfl ?_
    show Steps p.tables e below (T11.setTop (mkF m 80 #[.val (.int p1), .val (.long q2), .second, .val (.long q3), .second, .val (.long q4), .second, .val (.long q5), .second, .val (.int (2 : Int32)), .val (.int i), .val (.int j), .val (.int k), .val (.ref b6), .val (.ref b7), .val (.ref b8), .val (.ref b9), .val (.ref b10), .unset, .unset, .unset, .unset] [(.int (2 : Int32)), (.ref b11), (.ref b11)])) _
    refine st12.trans ?_
    show Steps p.tables e below (T12.setTop (mkF m 83 #[.val (.int p1), .val (.long q2), .second, .val (.long q3), .second, .val (.long q4), .second, .val (.long q5), .second, .val (.int (2 : Int32)), .val (.int i), .val (.int j), .val (.int k), .val (.ref b6), .val (.ref b7), .val (.ref b8), .val (.ref b9), .val (.ref b10), .unset, .unset, .unset, .unset] [(.ref b11)])) _
    refine XS.astore X12.here hx rfl (hb hby at_83) rfl rfl (l' := #[.val (.int p1), .val (.long q2), .second, .val (.long q3), .second, .val (.long q4), .second, .val (.long q5), .second, .val (.int (2 : Int32)), .val (.int i), .val (.int j), .val (.int k), .val (.ref b6), .val (.ref b7), .val (.ref b8), .val (.ref b9), .val (.ref b10), .val (.ref b11), .unset, .unset, .unset]) rfl ?_
    show Steps p.tables e below (T12.setTop (mkF m 85 #[.val (.int p1), .val (.long q2), .second, .val (.long q3), .second, .val (.long q4), .second, .val (.long q5), .second, .val (.int (2 : Int32)), .val (.int i), .val (.int j), .val (.int k), .val (.ref b6), .val (.ref b7), .val (.ref b8), .val (.ref b9), .val (.ref b10), .val (.ref b11), .unset, .unset, .unset] [])) _
    refine st13 _ ?_
    show Steps p.tables e below (T13.setTop (mkF m 88 #[.val (.int p1), .val (.long q2), .second, .val (.long q3), .second, .val (.long q4), .second, .val (.long q5), .second, .val (.int (2 : Int32)), .val (.int i), .val (.int j), .val (.int k), .val (.ref b6), .val (.ref b7), .val (.ref b8), .val (.ref b9), .val (.ref b10), .val (.ref b11), .unset, .unset, .unset] [(.ref b13)])) _
    refine XS.dup X13.here hx rfl (hb hby at_88) rfl rfl ?_
    show Steps p.tables e below (T13.setTop (mkF m 89 #[.val (.int p1), .val (.long q2), .second, .val (.long q3), .second, .val (.long q4), .second, .val (.long q5), .second, .val (.int (2 : Int32)), .val (.int i), .val (.int j), .val (.int k), .val (.ref b6), .val (.ref b7), .val (.ref b8), .val (.ref b9), .val (.ref b10), .val (.ref b11), .unset, .unset, .unset] [(.ref b13), (.ref b13)])) _
    refine XS.iconst X13.here hx rfl (hb hby at_89) ?_
    show Steps p.tables e below (T13.setTop (mkF m 90 #[.val (.int p1), .val (.long q2), .second, .val (.long q3), .second, .val (.long q4), .second, .val (.long q5), .second, .val (.int (2 : Int32)), .val (.int i), .val (.int j), .val (.int k), .val (.ref b6), .val (.ref b7), .val (.ref b8), .val (.ref b9), .val (.ref b10), .val (.ref b11), .unset, .unset, .unset] [(.int (1 : Int32)), (.ref b13), (.ref b13)])) _
    refine XS.aload X13.here hx rfl (hb hby at_90) rfl rfl ?_
    show Steps p.tables e below (T13.setTop (mkF m 92 #[.val (.int p1), .val (.long q2), .second, .val (.long q3), .second, .val (.long q4), .second, .val (.long q5), .second, .val (.int (2 : Int32)), .val (.int i), .val (.int j), .val (.int k), .val (.ref b6), .val (.ref b7), .val (.ref b8), .val (.ref b9), .val (.ref b10), .val (.ref b11), .unset, .unset, .unset] [(.ref b6), (.int (1 : Int32)), (.ref b13), (.ref b13)])) _
    refine st14.trans ?_
    show Steps p.tables e below (T14.setTop (mkF m 95 #[.val (.int p1), .val (.long q2), .second, .val (.long q3), .second, .val (.long q4), .second, .val (.long q5), .second, .val (.int (2 : Int32)), .val (.int i), .val (.int j), .val (.int k), .val (.ref b6), .val (.ref b7), .val (.ref b8), .val (.ref b9), .val (.ref b10), .val (.ref b11), .unset, .unset, .unset] [(.ref b13)])) _
    refine XS.astore X14.here hx rfl (hb hby at_95) rfl rfl (l' := #[.val (.int p1), .val (.long q2), .second, .val (.long q3), .second, .val (.long q4), .second, .val (.long q5), .second, .val (.int (2 : Int32)), .val (.int i), .val (.int j), .val (.int k), .val (.ref b6), .val (.ref b7), .val (.ref b8), .val (.ref b9), .val (.ref b10), .val (.ref b11), .val (.ref b13), .unset, .unset]) rfl ?_
    show Steps p.tables e below (T14.setTop (mkF m 97 #[.val (.int p1), .val (.long q2), .second, .val (.long q3), .second, .val (.long q4), .second, .val (.long q5), .second, .val (.int (2 : Int32)), .val (.int i), .val (.int j), .val (.int k), .val (.ref b6), .val (.ref b7), .val (.ref b8), .val (.ref b9), .val (.ref b10), .val (.ref b11), .val (.ref b13), .unset, .unset] [])) _
    refine st15 _ ?_
    show Steps p.tables e below (T15.setTop (mkF m 100 #[.val (.int p1), .val (.long q2), .second, .val (.long q3), .second, .val (.long q4), .second, .val (.long q5), .second, .val (.int (2 : Int32)), .val (.int i), .val (.int j), .val (.int k), .val (.ref b6), .val (.ref b7), .val (.ref b8), .val (.ref b9), .val (.ref b10), .val (.ref b11), .val (.ref b13), .unset, .unset] [(.ref b15)])) _
    refine XS.dup X15.here hx rfl (hb hby at_100) rfl rfl ?_
    show Steps p.tables e below (T15.setTop (mkF m 101 #[.val (.int p1), .val (.long q2), .second, .val (.long q3), .second, .val (.long q4), .second, .val (.long q5), .second, .val (.int (2 : Int32)), .val (.int i), .val (.int j), .val (.int k), .val (.ref b6), .val (.ref b7), .val (.ref b8), .val (.ref b9), .val (.ref b10), .val (.ref b11), .val (.ref b13), .unset, .unset] [(.ref b15), (.ref b15)])) _
    refine XS.iconst X15.here hx rfl (hb hby at_101) ?_
    show Steps p.tables e below (T15.setTop (mkF m 102 #[.val (.int p1), .val (.long q2), .second, .val (.long q3), .second, .val (.long q4), .second, .val (.long q5), .second, .val (.int (2 : Int32)), .val (.int i), .val (.int j), .val (.int k), .val (.ref b6), .val (.ref b7), .val (.ref b8), .val (.ref b9), .val (.ref b10), .val (.ref b11), .val (.ref b13), .unset, .unset] [(.int (2 : Int32)), (.ref b15), (.ref b15)])) _
    refine XS.aload X15.here hx rfl (hb hby at_102) rfl rfl ?_
    show Steps p.tables e below (T15.setTop (mkF m 104 #[.val (.int p1), .val (.long q2), .second, .val (.long q3), .second, .val (.long q4), .second, .val (.long q5), .second, .val (.int (2 : Int32)), .val (.int i), .val (.int j), .val (.int k), .val (.ref b6), .val (.ref b7), .val (.ref b8), .val (.ref b9), .val (.ref b10), .val (.ref b11), .val (.ref b13), .unset, .unset] [(.ref b7), (.int (2 : Int32)), (.ref b15), (.ref b15)])) _
    refine st16.trans ?_
    show Steps p.tables e below (T16.setTop (mkF m 107 #[.val (.int p1), .val (.long q2), .second, .val (.long q3), .second, .val (.long q4), .second, .val (.long q5), .second, .val (.int (2 : Int32)), .val (.int i), .val (.int j), .val (.int k), .val (.ref b6), .val (.ref b7), .val (.ref b8), .val (.ref b9), .val (.ref b10), .val (.ref b11), .val (.ref b13), .unset, .unset] [(.ref b15)])) _
    refine XS.astore X16.here hx rfl (hb hby at_107) rfl rfl (l' := #[.val (.int p1), .val (.long q2), .second, .val (.long q3), .second, .val (.long q4), .second, .val (.long q5), .second, .val (.int (2 : Int32)), .val (.int i), .val (.int j), .val (.int k), .val (.ref b6), .val (.ref b7), .val (.ref b8), .val (.ref b9), .val (.ref b10), .val (.ref b11), .val (.ref b13), .val (.ref b15), .unset]) rfl ?_
    show Steps p.tables e below (T16.setTop (mkF m 109 #[.val (.int p1), .val (.long q2), .second, .val (.long q3), .second, .val (.long q4), .second, .val (.long q5), .second, .val (.int (2 : Int32)), .val (.int i), .val (.int j), .val (.int k), .val (.ref b6), .val (.ref b7), .val (.ref b8), .val (.ref b9), .val (.ref b10), .val (.ref b11), .val (.ref b13), .val (.ref b15), .unset] [])) _
    refine XS.aload X16.here hx rfl (hb hby at_109) rfl rfl ?_
    show Steps p.tables e below (T16.setTop (mkF m 111 #[.val (.int p1), .val (.long q2), .second, .val (.long q3), .second, .val (.long q4), .second, .val (.long q5), .second, .val (.int (2 : Int32)), .val (.int i), .val (.int j), .val (.int k), .val (.ref b6), .val (.ref b7), .val (.ref b8), .val (.ref b9), .val (.ref b10), .val (.ref b11), .val (.ref b13), .val (.ref b15), .unset] [(.ref b11)])) _
    refine XS.iload X16.here hx rfl (hb hby at_111) rfl ?_
    show Steps p.tables e below (T16.setTop (mkF m 113 #[.val (.int p1), .val (.long q2), .second, .val (.long q3), .second, .val (.long q4), .second, .val (.long q5), .second, .val (.int (2 : Int32)), .val (.int i), .val (.int j), .val (.int k), .val (.ref b6), .val (.ref b7), .val (.ref b8), .val (.ref b9), .val (.ref b10), .val (.ref b11), .val (.ref b13), .val (.ref b15), .unset] [(.int i), (.ref b11)])) _
    refine XS.aload X16.here hx rfl (hb hby at_113) rfl rfl ?_
    show Steps p.tables e below (T16.setTop (mkF m 115 #[.val (.int p1), .val (.long q2), .second, .val (.long q3), .second, .val (.long q4), .second, .val (.long q5), .second, .val (.int (2 : Int32)), .val (.int i), .val (.int j), .val (.int k), .val (.ref b6), .val (.ref b7), .val (.ref b8), .val (.ref b9), .val (.ref b10), .val (.ref b11), .val (.ref b13), .val (.ref b15), .unset] [(.ref b13), (.int i), (.ref b11)])) _
    refine st17.trans ?_
    show Steps p.tables e below (T17.setTop (mkF m 118 #[.val (.int p1), .val (.long q2), .second, .val (.long q3), .second, .val (.long q4), .second, .val (.long q5), .second, .val (.int (2 : Int32)), .val (.int i), .val (.int j), .val (.int k), .val (.ref b6), .val (.ref b7), .val (.ref b8), .val (.ref b9), .val (.ref b10), .val (.ref b11), .val (.ref b13), .val (.ref b15), .unset] [])) _
    refine XS.aload X17.here hx rfl (hb hby at_118) rfl rfl ?_
    show Steps p.tables e below (T17.setTop (mkF m 120 #[.val (.int p1), .val (.long q2), .second, .val (.long q3), .second, .val (.long q4), .second, .val (.long q5), .second, .val (.int (2 : Int32)), .val (.int i), .val (.int j), .val (.int k), .val (.ref b6), .val (.ref b7), .val (.ref b8), .val (.ref b9), .val (.ref b10), .val (.ref b11), .val (.ref b13), .val (.ref b15), .unset] [(.ref b11)])) _
    refine XS.iload X17.here hx rfl (hb hby at_120) rfl ?_
    show Steps p.tables e below (T17.setTop (mkF m 122 #[.val (.int p1), .val (.long q2), .second, .val (.long q3), .second, .val (.long q4), .second, .val (.long q5), .second, .val (.int (2 : Int32)), .val (.int i), .val (.int j), .val (.int k), .val (.ref b6), .val (.ref b7), .val (.ref b8), .val (.ref b9), .val (.ref b10), .val (.ref b11), .val (.ref b13), .val (.ref b15), .unset] [(.int j), (.ref b11)])) _
    refine XS.aload X17.here hx rfl (hb hby at_122) rfl rfl ?_
    show Steps p.tables e below (T17.setTop (mkF m 124 #[.val (.int p1), .val (.long q2), .second, .val (.long q3), .second, .val (.long q4), .second, .val (.long q5), .second, .val (.int (2 : Int32)), .val (.int i), .val (.int j), .val (.int k), .val (.ref b6), .val (.ref b7), .val (.ref b8), .val (.ref b9), .val (.ref b10), .val (.ref b11), .val (.ref b13), .val (.ref b15), .unset] [(.ref b15), (.int j), (.ref b11)])) _
    refine st18.trans ?_
    show Steps p.tables e below (T18.setTop (mkF m 127 #[.val (.int p1), .val (.long q2), .second, .val (.long q3), .second, .val (.long q4), .second, .val (.long q5), .second, .val (.int (2 : Int32)), .val (.int i), .val (.int j), .val (.int k), .val (.ref b6), .val (.ref b7), .val (.ref b8), .val (.ref b9), .val (.ref b10), .val (.ref b11), .val (.ref b13), .val (.ref b15), .unset] [])) _
    refine XS.aload X18.here hx rfl (hb hby at_127) rfl rfl ?_
    show Steps p.tables e below (T18.setTop (mkF m 129 #[.val (.int p1), .val (.long q2), .second, .val (.long q3), .second, .val (.long q4), .second, .val (.long q5), .second, .val (.int (2 : Int32)), .val (.int i), .val (.int j), .val (.int k), .val (.ref b6), .val (.ref b7), .val (.ref b8), .val (.ref b9), .val (.ref b10), .val (.ref b11), .val (.ref b13), .val (.ref b15), .unset] [(.ref b11)])) _
    refine XS.iload X18.here hx rfl (hb hby at_129) rfl ?_
    show Steps p.tables e below (T18.setTop (mkF m 131 #[.val (.int p1), .val (.long q2), .second, .val (.long q3), .second, .val (.long q4), .second, .val (.long q5), .second, .val (.int (2 : Int32)), .val (.int i), .val (.int j), .val (.int k), .val (.ref b6), .val (.ref b7), .val (.ref b8), .val (.ref b9), .val (.ref b10), .val (.ref b11), .val (.ref b13), .val (.ref b15), .unset] [(.int j), (.ref b11)])) _
    refine st19.trans ?_
    show Steps p.tables e below (T19.setTop (mkF m 134 #[.val (.int p1), .val (.long q2), .second, .val (.long q3), .second, .val (.long q4), .second, .val (.long q5), .second, .val (.int (2 : Int32)), .val (.int i), .val (.int j), .val (.int k), .val (.ref b6), .val (.ref b7), .val (.ref b8), .val (.ref b9), .val (.ref b10), .val (.ref b11), .val (.ref b13), .val (.ref b15), .unset] [(.ref b15)])) _
    refine XS.aload X19.here hx rfl (hb hby at_134) rfl rfl ?_
    show Steps p.tables e below (T19.setTop (mkF m 136 #[.val (.int p1), .val (.long q2), .second, .val (.long q3), .second, .val (.long q4), .second, .val (.long q5), .second, .val (.int (2 : Int32)), .val (.int i), .val (.int j), .val (.int k), .val (.ref b6), .val (.ref b7), .val (.ref b8), .val (.ref b9), .val (.ref b10), .val (.ref b11), .val (.ref b13), .val (.ref b15), .unset] [(.ref b15), (.ref b15)])) _
    refine Jvm.RoadKit.acmp (g := (mkF m 136 #[.val (.int p1), .val (.long q2), .second, .val (.long q3), .second, .val (.long q4), .second, .val (.long q5), .second, .val (.int (2 : Int32)), .val (.int i), .val (.int j), .val (.int k), .val (.ref b6), .val (.ref b7), .val (.ref b8), .val (.ref b9), .val (.ref b10), .val (.ref b11), .val (.ref b13), .val (.ref b15), .unset] [(.ref b15), (.ref b15)])) X19 hx rfl rfl rfl (pc0 := 136) (pc' := 139) (same := true) rfl (hb hby at_136) rfl (decide_eq_true rfl) (by decide) (by decide) ?_
    show Steps p.tables e below (T19.setTop (mkF m 139 #[.val (.int p1), .val (.long q2), .second, .val (.long q3), .second, .val (.long q4), .second, .val (.long q5), .second, .val (.int (2 : Int32)), .val (.int i), .val (.int j), .val (.int k), .val (.ref b6), .val (.ref b7), .val (.ref b8), .val (.ref b9), .val (.ref b10), .val (.ref b11), .val (.ref b13), .val (.ref b15), .unset] [])) _
    refine XS.aload X19.here hx rfl (hb hby at_139) rfl rfl ?_
    show Steps p.tables e below (T19.setTop (mkF m 141 #[.val (.int p1), .val (.long q2), .second, .val (.long q3), .second, .val (.long q4), .second, .val (.long q5), .second, .val (.int (2 : Int32)), .val (.int i), .val (.int j), .val (.int k), .val (.ref b6), .val (.ref b7), .val (.ref b8), .val (.ref b9), .val (.ref b10), .val (.ref b11), .val (.ref b13), .val (.ref b15), .unset] [(.ref b11)])) _
    refine XS.iload X19.here hx rfl (hb hby at_141) rfl ?_
    show Steps p.tables e below (T19.setTop (mkF m 143 #[.val (.int p1), .val (.long q2), .second, .val (.long q3), .second, .val (.long q4), .second, .val (.long q5), .second, .val (.int (2 : Int32)), .val (.int i), .val (.int j), .val (.int k), .val (.ref b6), .val (.ref b7), .val (.ref b8), .val (.ref b9), .val (.ref b10), .val (.ref b11), .val (.ref b13), .val (.ref b15), .unset] [(.int j), (.ref b11)])) _
    refine XS.aload X19.here hx rfl (hb hby at_143) rfl rfl ?_
    show Steps p.tables e below (T19.setTop (mkF m 145 #[.val (.int p1), .val (.long q2), .second, .val (.long q3), .second, .val (.long q4), .second, .val (.long q5), .second, .val (.int (2 : Int32)), .val (.int i), .val (.int j), .val (.int k), .val (.ref b6), .val (.ref b7), .val (.ref b8), .val (.ref b9), .val (.ref b10), .val (.ref b11), .val (.ref b13), .val (.ref b15), .unset] [(.ref b9), (.int j), (.ref b11)])) _
    refine st20.trans ?_
    show Steps p.tables e below (T20.setTop (mkF m 148 #[.val (.int p1), .val (.long q2), .second, .val (.long q3), .second, .val (.long q4), .second, .val (.long q5), .second, .val (.int (2 : Int32)), .val (.int i), .val (.int j), .val (.int k), .val (.ref b6), .val (.ref b7), .val (.ref b8), .val (.ref b9), .val (.ref b10), .val (.ref b11), .val (.ref b13), .val (.ref b15), .unset] [(.ref w21)])) _
    refine st22 _ ?_
    show Steps p.tables e below (T22.setTop (mkF m 151 #[.val (.int p1), .val (.long q2), .second, .val (.long q3), .second, .val (.long q4), .second, .val (.long q5), .second, .val (.int (2 : Int32)), .val (.int i), .val (.int j), .val (.int k), .val (.ref b6), .val (.ref b7), .val (.ref b8), .val (.ref b9), .val (.ref b10), .val (.ref b11), .val (.ref b13), .val (.ref b15), .unset] [(.ref w21), (.ref w21)])) _
    refine Jvm.RoadKit.acmp (g := (mkF m 151 #[.val (.int p1), .val (.long q2), .second, .val (.long q3), .second, .val (.long q4), .second, .val (.long q5), .second, .val (.int (2 : Int32)), .val (.int i), .val (.int j), .val (.int k), .val (.ref b6), .val (.ref b7), .val (.ref b8), .val (.ref b9), .val (.ref b10), .val (.ref b11), .val (.ref b13), .val (.ref b15), .unset] [(.ref w21), (.ref w21)])) X22 hx rfl rfl rfl (pc0 := 151) (pc' := 154) (same := true) rfl (hb hby at_151) rfl (decide_eq_true rfl) (by decide) (by decide) ?_
    show Steps p.tables e below (T22.setTop (mkF m 154 #[.val (.int p1), .val (.long q2), .second, .val (.long q3), .second, .val (.long q4), .second, .val (.long q5), .second, .val (.int (2 : Int32)), .val (.int i), .val (.int j), .val (.int k), .val (.ref b6), .val (.ref b7), .val (.ref b8), .val (.ref b9), .val (.ref b10), .val (.ref b11), .val (.ref b13), .val (.ref b15), .unset] [])) _
    refine XS.iconst X22.here hx rfl (hb hby at_154) ?_
    show Steps p.tables e below (T22.setTop (mkF m 155 #[.val (.int p1), .val (.long q2), .second, .val (.long q3), .second, .val (.long q4), .second, .val (.long q5), .second, .val (.int (2 : Int32)), .val (.int i), .val (.int j), .val (.int k), .val (.ref b6), .val (.ref b7), .val (.ref b8), .val (.ref b9), .val (.ref b10), .val (.ref b11), .val (.ref b13), .val (.ref b15), .unset] [(.int (1 : Int32))])) _
    refine XS.goto X22.here hx rfl (pc0 := 155) (pc' := 159) rfl (hb hby at_155) (by decide) (by decide) ?_
    show Steps p.tables e below (T22.setTop (mkF m 159 #[.val (.int p1), .val (.long q2), .second, .val (.long q3), .second, .val (.long q4), .second, .val (.long q5), .second, .val (.int (2 : Int32)), .val (.int i), .val (.int j), .val (.int k), .val (.ref b6), .val (.ref b7), .val (.ref b8), .val (.ref b9), .val (.ref b10), .val (.ref b11), .val (.ref b13), .val (.ref b15), .unset] [(.int (1 : Int32))])) _
    refine XS.istore X22.here hx rfl (hb hby at_159) rfl (l' := #[.val (.int p1), .val (.long q2), .second, .val (.long q3), .second, .val (.long q4), .second, .val (.long q5), .second, .val (.int (2 : Int32)), .val (.int i), .val (.int j), .val (.int k), .val (.ref b6), .val (.ref b7), .val (.ref b8), .val (.ref b9), .val (.ref b10), .val (.ref b11), .val (.ref b13), .val (.ref b15), .val (.int (1 : Int32))]) rfl ?_
    show Steps p.tables e below (T22.setTop (mkF m 161 #[.val (.int p1), .val (.long q2), .second, .val (.long q3), .second, .val (.long q4), .second, .val (.long q5), .second, .val (.int (2 : Int32)), .val (.int i), .val (.int j), .val (.int k), .val (.ref b6), .val (.ref b7), .val (.ref b8), .val (.ref b9), .val (.ref b10), .val (.ref b11), .val (.ref b13), .val (.ref b15), .val (.int (1 : Int32))] [])) _
    refine s23 _ ?_
    refine s24 _ ?_
    show Steps p.tables e below (T24.setTop (mkF m 258 #[.val (.int p1), .val (.long q2), .second, .val (.long q3), .second, .val (.long q4), .second, .val (.long q5), .second, .val (.int (2 : Int32)), .val (.int i), .val (.int j), .val (.int k), .val (.ref b6), .val (.ref b7), .val (.ref b8), .val (.ref b9), .val (.ref b10), .val (.ref b11), .val (.ref b13), .val (.ref b15), .val (.int (1 : Int32))] [])) _
    refine XS.iload X24.here hx rfl (hb hby at_258) rfl ?_
    show Steps p.tables e below (T24.setTop (mkF m 260 #[.val (.int p1), .val (.long q2), .second, .val (.long q3), .second, .val (.long q4), .second, .val (.long q5), .second, .val (.int (2 : Int32)), .val (.int i), .val (.int j), .val (.int k), .val (.ref b6), .val (.ref b7), .val (.ref b8), .val (.ref b9), .val (.ref b10), .val (.ref b11), .val (.ref b13), .val (.ref b15), .val (.int (1 : Int32))] [(.int (1 : Int32))])) _
    exact retN X24 hx (t := .boolean) Bd.returns (by simp) (hb hby at_260) hr
  · show own_Q0 h0 n0 _ T24.heap _
    rw [e24]
    exact ⟨rfl, N24⟩
theorem rm0 (l : Launch) (Z : State) (a0 : Array Value) (hw : ∀ d ∈ tables_1, d.before a0 Z = true) (ws : List Jvm.Cond) (p1 : Int32) (q2 : Int64) (q3 : Int64) (q4 : Int64) (q5 : Int64) (w21 : Addr) (h0 : Heap) (n0 : Nat) (Z0 : n0 ≤ h0.size) (S_SAME : Sta Z h0 "com/example/crossmode/crossmode/search/Dominance" "SAME" "Lcom/example/crossmode/crossmode/search/Dominance;" (.ref w21)) :
    MetFree l x (head1 (Jvm.Cond.code x code maxLocals ret :: ws) room_1) (fun a U => a = #[(.int p1), (.long q2), (.long q3), (.long q4), (.long q5)] ∧ Z.Warmed39 U.vm ∧ U.heap = h0) (fun _ _ _ _ _ => True) (fun _ U o U' => ∃ v L, o = .returned v ∧ own_Q0 h0 n0 v U'.heap L ∧ FrameEnd U o U' L room_1.cells room_1.slots) := by
  rcases own_two p1 with hm | hm
  · exact own_rm0_1 l Z a0 hw ws p1 q2 q3 q4 q5 _ _ _ w21 h0 n0 Z0 S_SAME hm rfl rfl rfl (own_four _) (own_four _) (own_four _)
  · exact own_rm0_2 l Z a0 hw ws p1 q2 q3 q4 q5 _ _ _ w21 h0 n0 Z0 S_SAME hm rfl rfl rfl (own_four _) (own_four _) (own_four _)
set_option maxRecDepth 65536 in
set_option maxHeartbeats 40000000 in
theorem comes_1 {Post : Tables → Env → Array Value → State → Outcome → State → Prop} (hpost : ∀ tb e args s v u, (limb_1_1.after args s (.returned v) u = true ∧ limb_1_2.after args s (.returned v) u = true ∧ True) → FrameEnd s (.returned v) u (Jvm.fieldLocs frame_1_writes args s ++ Jvm.arrayLocs frame_1_arrays args s ++ Jvm.staticLocs frame_1_statics s) 32 192 → Post tb e args s (.returned v) u) :
    ArmFor flags0 classFile x code maxLocals ret World_1 tables_1 room_1 Calls_1 rest_1 Pre_1 Post := by
  intro l hfl _ _ p e ha hc hk s m args below hf hA hF happ hP
  obtain ⟨hcalls, hrest, hpre⟩ := hP
  obtain ⟨-, -, -, hnamed, -, -, -, hat⟩ := (Spec.applies_iff hf).mp happ
  obtain ⟨hg, hn⟩ := and_e (Cond.before_iff.mp (show (Jvm.Cond.and given_1 narrow_1).before args s = true from hpre))
  obtain ⟨g23, g24⟩ := and_e hg
  obtain ⟨g25, g26⟩ := and_e g24
  obtain ⟨g27, g28⟩ := and_e g26
  obtain ⟨g29, g30⟩ := and_e g28
  obtain ⟨g31, g32⟩ := and_e g30
  obtain ⟨w0, w1, w2, w3, w4, rfl⟩ : ∃ w0 w1 w2 w3 w4 : Value, args = #[w0, w1, w2, w3, w4] := by
    have hs : args.size = 5 := by simpa [Cond.value, given_1] using g23
    obtain ⟨L⟩ := args
    match L, hs with
    | [w0, w1, w2, w3, w4], _ => exact ⟨w0, w1, w2, w3, w4, rfl⟩
  have hw := fun d (hd : d ∈ tables_1) => atoms_spec (ws := Jvm.Cond.code x code maxLocals ret :: tables_1) hat d (List.mem_cons_of_mem _ hd)
  have hfit : Fit s := fun {y c} hc i hi => by
    obtain ⟨ha, rfl⟩ := Array.getElem?_eq_some_iff.mp hc
    have q := List.all_eq_true.mp ((Array.all_eq_true_iff_forall_mem.mp hF) _ (Array.getElem_mem ha)) i (List.mem_range.mpr hi)
    simpa [Array.getElem?_eq_getElem hi] using q
  obtain ⟨i0, ei0⟩ := is_v g25
  obtain rfl : w0 = (.int i0) := Option.some.inj ei0
  obtain ⟨i1, ei1⟩ := isL_v g27
  obtain rfl : w1 = (.long i1) := Option.some.inj ei1
  obtain ⟨i2, ei2⟩ := isL_v g29
  obtain rfl : w2 = (.long i2) := Option.some.inj ei2
  obtain ⟨i3, ei3⟩ := isL_v g31
  obtain rfl : w3 = (.long i3) := Option.some.inj ei3
  obtain ⟨i4, ei4⟩ := isL_v g32
  obtain rfl : w4 = (.long i4) := Option.some.inj ei4
  obtain ⟨w21, vS⟩ := exa_v hn
  have S_SAME := Sta.start vS (Or.inr ⟨hw _ (List.mem_of_getElem? (i := 59) rfl), hw _ (List.mem_of_getElem? (i := 60) rfl)⟩)
  obtain ⟨n, o, h1, h2, h3, _, L, rfl, ⟨rfl, N⟩, hq⟩ := rm0 l s _ hw tables_1 i0 i1 i2 i3 i4 w21 s.heap s.heap.size (Nat.le_refl _) S_SAME p e ha hc hk s m _ below hf ((Spec.applies_iff_loose hf).mp happ).1 ⟨rfl, State.Warmed39.refl s, rfl⟩ trivial
  refine ⟨n, _, h1, h2, h3, hpost _ _ _ _ _ _ ⟨Cond.after_iff.mpr rfl, Cond.after_iff.mpr (eq_i res_at (Term.int_eval (1)) rfl), trivial⟩ ⟨hq.1, hq.2.1, (hq.2.2.sift fun y hy => Or.inr (N y hy)).mono (by decide) (by decide)⟩⟩
theorem main_1_1 : Claimed_1_1 := comes_1 fun _ _ _ _ _ _ h hF => ⟨h.1, hF⟩
theorem main_1_2 : Claimed_1_2 := comes_1 fun _ _ _ _ _ _ h hF => ⟨h.2.1, hF⟩
end Jvm.Pilot.@@N@@
namespace Jvm.Pilot.@@N@@
open Jvm Jvm.ClassFile Sem Op Lib Jvm.Free Jvm.Stand Jvm.Pilot.@@N@@.Jvm.D
/-! MADE BY PROGRAM (witnessworld.py) out of the Statement's table words and the real class files: 18 classes; the members and pool entries that the words name. The judged class is class 1, her method 2. -/
namespace start1
open Jvm.ClassFile
def u (s : String) : CpInfo := .utf8 (stringToUtf16 s)
/-- a pool by its gaps: so many unusable entries, then the entry; so many at the end -/
def gap : Nat → List CpInfo → List CpInfo
  | 0, r => r
  | n + 1, r => .unusable :: gap n r
def poolList (es : List (Nat × CpInfo)) (last : Nat) : List CpInfo := es.foldr (fun e r => gap e.1 (e.2 :: r)) (gap last [])
def pool (es : List (Nat × CpInfo)) (last : Nat) : Array CpInfo := ⟨poolList es last⟩
def fileOf (pool : Array CpInfo) (this : Nat) (attrs : Array Attribute := #[]) (ms : Array MethodInfo := #[]) (fl : Nat := 33) (sup : Nat := 0) (ifs : Array Nat := #[]) (fds : Array FieldInfo := #[]) : ClassFile where
  minorVersion := 0
  majorVersion := 65
  constantPool := pool
  accessFlags := fl
  thisClass := this
  superClass := sup
  interfaces := ifs
  fields := fds
  methods := ms
  attributes := attrs
def plain (name : String) (sup : Option ClassId) : Class where
  name := name
  kind := .ordinary
  loader := none
  accessFlags := 33
  super := sup
  interfaces := #[]
  cf := none
  fields := #[]
  methods := #[]
  instanceTypes := #[]
  staticTypes := #[]
  resolved := #[]
  callSites := []
  init := .initialized
  statics := none
  mirror := none

def pool0 : Array CpInfo := pool [(5, u "<init>"), (0, u "()V"), (1, .class_ 10), (1, u "java/lang/Object")] 113

def k0c0 : Code := { maxStack := 0, maxLocals := 1, code := object_method_1_code, exceptionTable := #[], attributes := #[] }
def k0m0 : Method := { name := "<init>", desc := "()V", sig := { parameters := [], returnType := none }, accessFlags := 1, code := some k0c0 }
/-- java/lang/Object -/
def k0 : Class := { plain "java/lang/Object" none with
  accessFlags := 33
  interfaces := #[]
  cf := some (fileOf pool0 8 #[] #[{ accessFlags := 1, nameIndex := 5, descriptorIndex := 6, attributes := #[] }] 33 0 #[] #[])
  fields := #[]
  methods := #[k0m0]
  instanceTypes := #[]
  staticTypes := #[]
  resolved := Array.replicate 124 none
  statics := none }

def pool1 : Array CpInfo := pool [(2, .class_ 4), (1, u "java/lang/Object"), (0, u "<init>"), (0, u "()V"), (0, .methodref 8 9), (0, .class_ 10), (0, .nameAndType 11 12), (0, u "com/example/crossmode/crossmode/search/LabelSetSetPinLaw"), (0, u "weights"), (0, u "(IJJ)[J"), (0, .class_ 14), (0, u "com/example/crossmode/crossmode/search/LabelSet"), (0, .methodref 13 16), (0, .nameAndType 5 17), (0, u "(I)V"), (0, .class_ 19), (0, u "com/example/crossmode/crossmode/search/Label"), (0, .methodref 18 21), (0, .nameAndType 5 22), (0, u "(I[J)V"), (0, .methodref 13 24), (0, .nameAndType 25 26), (0, u "set"), (0, u "(ILcom/example/crossmode/crossmode/search/Label;)V"), (0, .methodref 13 28), (0, .nameAndType 29 30), (0, u "get"), (0, u "(I)Lcom/example/crossmode/crossmode/search/Label;"), (0, .methodref 13 32), (0, .nameAndType 33 34), (0, u "compare"), (0, u "(I[J)Lcom/example/crossmode/crossmode/search/Dominance;"), (0, .fieldref 36 37), (0, .class_ 38), (0, .nameAndType 39 40), (0, u "com/example/crossmode/crossmode/search/Dominance"), (0, u "SAME"), (0, u "Lcom/example/crossmode/crossmode/search/Dominance;"), (3, u "law"), (0, u "(IJJJJ)Z")] 4

def k1m0 : Method := { name := "<init>", desc := "()V", sig := { parameters := [], returnType := none }, accessFlags := 1, code := none }
def k1c1 : Code := { maxStack := 5, maxLocals := 5, code := method_2_code, exceptionTable := #[], attributes := #[] }
def k1m1 : Method := { name := "weights", desc := "(IJJ)[J", sig := { parameters := [.int, .long, .long], returnType := some (.array .long) }, accessFlags := 10, code := some k1c1 }
def k1c2 : Code := { maxStack := 5, maxLocals := 22, code := code, exceptionTable := #[], attributes := #[] }
def k1m2 : Method := { name := "law", desc := "(IJJJJ)Z", sig := { parameters := [.int, .long, .long, .long, .long], returnType := some .boolean }, accessFlags := 9, code := some k1c2 }
/-- com/example/crossmode/crossmode/search/LabelSetSetPinLaw -/
def k1 : Class := { plain "com/example/crossmode/crossmode/search/LabelSetSetPinLaw" (some 0) with
  accessFlags := 49
  interfaces := #[]
  cf := some (fileOf pool1 8 #[] #[{ accessFlags := 1, nameIndex := 5, descriptorIndex := 6, attributes := #[] }, { accessFlags := 10, nameIndex := 11, descriptorIndex := 12, attributes := #[] }, { accessFlags := 9, nameIndex := 44, descriptorIndex := 45, attributes := #[] }] 49 2 #[] #[])
  fields := #[]
  methods := #[k1m0, k1m1, k1m2]
  instanceTypes := #[]
  staticTypes := #[]
  resolved := Array.replicate 50 none
  statics := none }

def pool2 : Array CpInfo := pool [(1, .methodref 2 3), (0, .class_ 4), (0, .nameAndType 5 6), (0, u "java/lang/Object"), (0, u "<init>"), (0, u "()V"), (0, .class_ 8), (0, u "com/example/crossmode/crossmode/search/Label"), (0, .fieldref 10 11), (0, .class_ 12), (0, .nameAndType 13 14), (0, u "com/example/crossmode/crossmode/search/LabelSet"), (0, u "labels"), (0, u "[Lcom/example/crossmode/crossmode/search/Label;"), (0, .fieldref 10 16), (0, .nameAndType 17 18), (0, u "modeCount"), (0, u "I"), (0, .fieldref 10 20), (0, .nameAndType 21 22), (0, u "weights"), (0, u "[J"), (2, u "size"), (0, .fieldref 27 28), (0, .class_ 29), (0, .nameAndType 30 31), (0, u "com/example/crossmode/crossmode/search/Dominance"), (0, u "SAME"), (0, u "Lcom/example/crossmode/crossmode/search/Dominance;"), (21, u "set"), (0, u "(ILcom/example/crossmode/crossmode/search/Label;)V"), (0, .fieldref 7 20), (0, .methodref 57 58), (0, .class_ 59), (0, .nameAndType 60 61), (0, u "java/lang/System"), (0, u "arraycopy"), (0, u "(Ljava/lang/Object;ILjava/lang/Object;II)V"), (4, u "(I)V"), (3, u "get"), (0, u "(I)Lcom/example/crossmode/crossmode/search/Label;"), (0, u "compare"), (0, u "(I[J)Lcom/example/crossmode/crossmode/search/Dominance;")] 12

def k2c0 : Code := { maxStack := 3, maxLocals := 2, code := prog_15_method_1_code, exceptionTable := #[], attributes := #[] }
def k2m0 : Method := { name := "<init>", desc := "(I)V", sig := { parameters := [.int], returnType := none }, accessFlags := 0, code := some k2c0 }
def k2c1 : Code := { maxStack := 2, maxLocals := 2, code := prog_15_method_3_code, exceptionTable := #[], attributes := #[] }
def k2m1 : Method := { name := "get", desc := "(I)Lcom/example/crossmode/crossmode/search/Label;", sig := { parameters := [.int], returnType := some (.object "com/example/crossmode/crossmode/search/Label") }, accessFlags := 0, code := some k2c1 }
def k2c2 : Code := { maxStack := 6, maxLocals := 8, code := prog_15_method_4_code, exceptionTable := #[], attributes := #[] }
def k2m2 : Method := { name := "compare", desc := "(I[J)Lcom/example/crossmode/crossmode/search/Dominance;", sig := { parameters := [.int, (.array .long)], returnType := some (.object "com/example/crossmode/crossmode/search/Dominance") }, accessFlags := 0, code := some k2c2 }
def k2c3 : Code := { maxStack := 5, maxLocals := 3, code := prog_15_method_6_code, exceptionTable := #[], attributes := #[] }
def k2m3 : Method := { name := "set", desc := "(ILcom/example/crossmode/crossmode/search/Label;)V", sig := { parameters := [.int, (.object "com/example/crossmode/crossmode/search/Label")], returnType := none }, accessFlags := 0, code := some k2c3 }
/-- com/example/crossmode/crossmode/search/LabelSet -/
def k2 : Class := { plain "com/example/crossmode/crossmode/search/LabelSet" (some 0) with
  accessFlags := 48
  interfaces := #[]
  cf := some (fileOf pool2 10 #[] #[{ accessFlags := 0, nameIndex := 5, descriptorIndex := 66, attributes := #[] }, { accessFlags := 0, nameIndex := 70, descriptorIndex := 71, attributes := #[] }, { accessFlags := 0, nameIndex := 72, descriptorIndex := 73, attributes := #[] }, { accessFlags := 0, nameIndex := 53, descriptorIndex := 54, attributes := #[] }] 48 2 #[] #[{ accessFlags := 18, nameIndex := 17, descriptorIndex := 18, attributes := #[] }, { accessFlags := 2, nameIndex := 13, descriptorIndex := 14, attributes := #[] }, { accessFlags := 2, nameIndex := 21, descriptorIndex := 22, attributes := #[] }, { accessFlags := 2, nameIndex := 25, descriptorIndex := 18, attributes := #[] }])
  fields := #[{ name := "modeCount", type := .int, accessFlags := 18, slot := 0, constantValue := 0 }, { name := "labels", type := (.array (.object "com/example/crossmode/crossmode/search/Label")), accessFlags := 2, slot := 1, constantValue := 0 }, { name := "weights", type := (.array .long), accessFlags := 2, slot := 2, constantValue := 0 }, { name := "size", type := .int, accessFlags := 2, slot := 3, constantValue := 0 }]
  methods := #[k2m0, k2m1, k2m2, k2m3]
  instanceTypes := #[.int, (.array (.object "com/example/crossmode/crossmode/search/Label")), (.array .long), .int]
  staticTypes := #[]
  resolved := Array.replicate 86 none
  statics := none }

def pool3 : Array CpInfo := pool [(1, .methodref 2 3), (0, .class_ 4), (0, .nameAndType 5 6), (0, u "java/lang/Object"), (0, u "<init>"), (0, u "()V"), (0, .class_ 8), (0, u "com/example/crossmode/crossmode/search/Label"), (0, .fieldref 7 10), (0, .nameAndType 11 12), (0, u "mode"), (0, u "I"), (0, .fieldref 7 14), (0, .nameAndType 15 12), (0, u "stage"), (0, .fieldref 7 17), (0, .nameAndType 18 12), (0, u "vertex"), (0, .fieldref 7 20), (0, .nameAndType 21 22), (0, u "weights"), (0, u "[J"), (2, u "total"), (0, u "J"), (16, u "ORDER"), (0, u "Ljava/util/Comparator;"), (2, u "NO_MODE"), (2, u "NO_STAGE"), (0, u "previous"), (0, u "Lcom/example/crossmode/crossmode/search/Label;"), (0, u "links"), (0, u "changes"), (0, u "beaten"), (0, u "Z"), (0, u "(I[J)V")] 28

def k3c0 : Code := { maxStack := 2, maxLocals := 3, code := prog_14_method_1_code, exceptionTable := #[], attributes := #[] }
def k3m0 : Method := { name := "<init>", desc := "(I[J)V", sig := { parameters := [.int, (.array .long)], returnType := none }, accessFlags := 0, code := some k3c0 }
/-- com/example/crossmode/crossmode/search/Label -/
def k3 : Class := { plain "com/example/crossmode/crossmode/search/Label" (some 0) with
  accessFlags := 48
  interfaces := #[]
  cf := some (fileOf pool3 7 #[] #[{ accessFlags := 0, nameIndex := 5, descriptorIndex := 57, attributes := #[] }] 48 2 #[] #[{ accessFlags := 24, nameIndex := 43, descriptorIndex := 44, attributes := #[] }, { accessFlags := 24, nameIndex := 47, descriptorIndex := 12, attributes := #[] }, { accessFlags := 24, nameIndex := 50, descriptorIndex := 12, attributes := #[] }, { accessFlags := 16, nameIndex := 18, descriptorIndex := 12, attributes := #[] }, { accessFlags := 16, nameIndex := 21, descriptorIndex := 22, attributes := #[] }, { accessFlags := 0, nameIndex := 25, descriptorIndex := 26, attributes := #[] }, { accessFlags := 0, nameIndex := 51, descriptorIndex := 52, attributes := #[] }, { accessFlags := 0, nameIndex := 11, descriptorIndex := 12, attributes := #[] }, { accessFlags := 0, nameIndex := 53, descriptorIndex := 12, attributes := #[] }, { accessFlags := 0, nameIndex := 54, descriptorIndex := 12, attributes := #[] }, { accessFlags := 0, nameIndex := 15, descriptorIndex := 12, attributes := #[] }, { accessFlags := 0, nameIndex := 55, descriptorIndex := 56, attributes := #[] }])
  fields := #[{ name := "ORDER", type := (.object "java/util/Comparator"), accessFlags := 24, slot := 0, constantValue := 0 }, { name := "NO_MODE", type := .int, accessFlags := 24, slot := 1, constantValue := 0 }, { name := "NO_STAGE", type := .int, accessFlags := 24, slot := 2, constantValue := 0 }, { name := "vertex", type := .int, accessFlags := 16, slot := 0, constantValue := 0 }, { name := "weights", type := (.array .long), accessFlags := 16, slot := 1, constantValue := 0 }, { name := "total", type := .long, accessFlags := 0, slot := 2, constantValue := 0 }, { name := "previous", type := (.object "com/example/crossmode/crossmode/search/Label"), accessFlags := 0, slot := 3, constantValue := 0 }, { name := "mode", type := .int, accessFlags := 0, slot := 4, constantValue := 0 }, { name := "links", type := .int, accessFlags := 0, slot := 5, constantValue := 0 }, { name := "changes", type := .int, accessFlags := 0, slot := 6, constantValue := 0 }, { name := "stage", type := .int, accessFlags := 0, slot := 7, constantValue := 0 }, { name := "beaten", type := .boolean, accessFlags := 0, slot := 8, constantValue := 0 }]
  methods := #[k3m0]
  instanceTypes := #[.int, (.array .long), .long, (.object "com/example/crossmode/crossmode/search/Label"), .int, .int, .int, .int, .boolean]
  staticTypes := #[(.object "java/util/Comparator"), .int, .int]
  resolved := Array.replicate 86 none
  statics := none }

def pool4 : Array CpInfo := pool [(2, .class_ 4), (1, u "java/lang/Object"), (0, u "<init>"), (0, u "()V"), (1, .class_ 10), (1, u "java/lang/System"), (0, u "allowSecurityManager"), (0, u "I"), (16, u "cons"), (0, u "Ljava/io/Console;"), (77, .class_ 110), (1, u "java/lang/System$CallersHolder"), (43, u "initialErrStream"), (0, u "Ljava/io/PrintStream;"), (19, u "security"), (0, u "Ljava/lang/SecurityManager;"), (31, .class_ 209), (0, u "java/lang/System$1"), (7, u "props"), (0, u "Ljava/util/Properties;"), (2, u "lineSeparator"), (0, u "Ljava/lang/String;"), (96, .class_ 321), (1, u "java/lang/System$LoggerFinder"), (5, .class_ 328), (0, u "java/lang/System$Logger"), (67, u "err"), (2, u "out"), (91, u "notSupportedJnuEncoding"), (15, u "in"), (17, u "initialIn"), (0, u "Ljava/io/InputStream;"), (35, u "bootLayer"), (0, u "Ljava/lang/ModuleLayer;"), (99, .class_ 664), (0, u "java/lang/System$2"), (9, u "NEVER"), (2, u "MAYBE"), (49, u "arraycopy"), (0, u "(Ljava/lang/Object;ILjava/lang/Object;II)V"), (72, .class_ 802), (0, u "java/lang/System$Logger$Level")] 31

def k4m0 : Method := { name := "<init>", desc := "()V", sig := { parameters := [], returnType := none }, accessFlags := 2, code := none }
def k4m1 : Method := { name := "arraycopy", desc := "(Ljava/lang/Object;ILjava/lang/Object;II)V", sig := { parameters := [(.object "java/lang/Object"), .int, (.object "java/lang/Object"), .int, .int], returnType := none }, accessFlags := 265, code := none }
/-- java/lang/System -/
def k4 : Class := { plain "java/lang/System" (some 0) with
  accessFlags := 49
  interfaces := #[]
  cf := some (fileOf pool4 8 #[.nestMembers #[319, 327, 801, 108, 663, 208]] #[{ accessFlags := 2, nameIndex := 5, descriptorIndex := 6, attributes := #[] }, { accessFlags := 265, nameIndex := 727, descriptorIndex := 728, attributes := #[] }] 49 2 #[] #[{ accessFlags := 25, nameIndex := 507, descriptorIndex := 526, attributes := #[] }, { accessFlags := 25, nameIndex := 399, descriptorIndex := 155, attributes := #[] }, { accessFlags := 25, nameIndex := 396, descriptorIndex := 155, attributes := #[] }, { accessFlags := 10, nameIndex := 525, descriptorIndex := 526, attributes := #[] }, { accessFlags := 26, nameIndex := 674, descriptorIndex := 12, attributes := #[] }, { accessFlags := 26, nameIndex := 677, descriptorIndex := 12, attributes := #[] }, { accessFlags := 10, nameIndex := 11, descriptorIndex := 12, attributes := #[] }, { accessFlags := 74, nameIndex := 175, descriptorIndex := 176, attributes := #[] }, { accessFlags := 10, nameIndex := 491, descriptorIndex := 222, attributes := #[] }, { accessFlags := 74, nameIndex := 29, descriptorIndex := 30, attributes := #[] }, { accessFlags := 74, nameIndex := 154, descriptorIndex := 155, attributes := #[] }, { accessFlags := 10, nameIndex := 217, descriptorIndex := 218, attributes := #[] }, { accessFlags := 10, nameIndex := 221, descriptorIndex := 222, attributes := #[] }, { accessFlags := 8, nameIndex := 562, descriptorIndex := 563, attributes := #[] }])
  fields := #[{ name := "in", type := (.object "java/io/InputStream"), accessFlags := 25, slot := 0, constantValue := 0 }, { name := "out", type := (.object "java/io/PrintStream"), accessFlags := 25, slot := 1, constantValue := 0 }, { name := "err", type := (.object "java/io/PrintStream"), accessFlags := 25, slot := 2, constantValue := 0 }, { name := "initialIn", type := (.object "java/io/InputStream"), accessFlags := 10, slot := 3, constantValue := 0 }, { name := "NEVER", type := .int, accessFlags := 26, slot := 4, constantValue := 0 }, { name := "MAYBE", type := .int, accessFlags := 26, slot := 5, constantValue := 0 }, { name := "allowSecurityManager", type := .int, accessFlags := 10, slot := 6, constantValue := 0 }, { name := "security", type := (.object "java/lang/SecurityManager"), accessFlags := 74, slot := 7, constantValue := 0 }, { name := "notSupportedJnuEncoding", type := (.object "java/lang/String"), accessFlags := 10, slot := 8, constantValue := 0 }, { name := "cons", type := (.object "java/io/Console"), accessFlags := 74, slot := 9, constantValue := 0 }, { name := "initialErrStream", type := (.object "java/io/PrintStream"), accessFlags := 74, slot := 10, constantValue := 0 }, { name := "props", type := (.object "java/util/Properties"), accessFlags := 10, slot := 11, constantValue := 0 }, { name := "lineSeparator", type := (.object "java/lang/String"), accessFlags := 10, slot := 12, constantValue := 0 }, { name := "bootLayer", type := (.object "java/lang/ModuleLayer"), accessFlags := 8, slot := 13, constantValue := 0 }]
  methods := #[k4m0, k4m1]
  instanceTypes := #[]
  staticTypes := #[(.object "java/io/InputStream"), (.object "java/io/PrintStream"), (.object "java/io/PrintStream"), (.object "java/io/InputStream"), .int, .int, .int, (.object "java/lang/SecurityManager"), (.object "java/lang/String"), (.object "java/io/Console"), (.object "java/io/PrintStream"), (.object "java/util/Properties"), (.object "java/lang/String"), (.object "java/lang/ModuleLayer")]
  resolved := Array.replicate 834 none
  statics := none }

def pool5 : Array CpInfo := pool [(1, .class_ 2), (0, u "java/lang/constant/Constable"), (0, .class_ 4), (0, u "java/lang/Object")] 6

/-- java/lang/constant/Constable -/
def k5 : Class := { plain "java/lang/constant/Constable" (some 0) with
  accessFlags := 1537
  interfaces := #[]
  cf := some (fileOf pool5 1 #[] #[] 1537 3 #[] #[])
  fields := #[]
  methods := #[]
  instanceTypes := #[]
  staticTypes := #[]
  resolved := Array.replicate 11 none
  statics := none }

def pool6 : Array CpInfo := pool [(1, .class_ 2), (0, u "java/lang/Comparable"), (0, .class_ 4), (0, u "java/lang/Object")] 7

/-- java/lang/Comparable -/
def k6 : Class := { plain "java/lang/Comparable" (some 0) with
  accessFlags := 1537
  interfaces := #[]
  cf := some (fileOf pool6 1 #[] #[] 1537 3 #[] #[])
  fields := #[]
  methods := #[]
  instanceTypes := #[]
  staticTypes := #[]
  resolved := Array.replicate 12 none
  statics := none }

def pool7 : Array CpInfo := pool [(1, .class_ 2), (0, u "java/io/Serializable"), (0, .class_ 4), (0, u "java/lang/Object")] 2

/-- java/io/Serializable -/
def k7 : Class := { plain "java/io/Serializable" (some 0) with
  accessFlags := 1537
  interfaces := #[]
  cf := some (fileOf pool7 1 #[] #[] 1537 3 #[] #[])
  fields := #[]
  methods := #[]
  instanceTypes := #[]
  staticTypes := #[]
  resolved := Array.replicate 7 none
  statics := none }

def pool8 : Array CpInfo := pool [(2, .class_ 4), (1, u "java/lang/Enum"), (0, u "name"), (0, u "Ljava/lang/String;"), (2, u "ordinal"), (0, u "I"), (1, .class_ 14), (1, u "java/lang/Object"), (4, u "hash"), (86, .class_ 108), (1, u "java/lang/Enum$EnumDesc"), (2, .class_ 112), (0, u "java/lang/constant/Constable"), (0, .class_ 114), (0, u "java/lang/Comparable"), (0, .class_ 116), (0, u "java/io/Serializable")] 87

/-- java/lang/Enum -/
def k8 : Class := { plain "java/lang/Enum" (some 0) with
  accessFlags := 1057
  interfaces := #[5, 6, 7]
  cf := some (fileOf pool8 2 #[.nestMembers #[106]] #[] 1057 12 #[111, 113, 115] #[{ accessFlags := 18, nameIndex := 5, descriptorIndex := 6, attributes := #[] }, { accessFlags := 18, nameIndex := 9, descriptorIndex := 10, attributes := #[] }, { accessFlags := 2, nameIndex := 19, descriptorIndex := 10, attributes := #[] }])
  fields := #[{ name := "name", type := (.object "java/lang/String"), accessFlags := 18, slot := 0, constantValue := 0 }, { name := "ordinal", type := .int, accessFlags := 18, slot := 1, constantValue := 0 }, { name := "hash", type := .int, accessFlags := 2, slot := 2, constantValue := 0 }]
  methods := #[]
  instanceTypes := #[(.object "java/lang/String"), .int, .int]
  staticTypes := #[]
  resolved := Array.replicate 204 none
  statics := none }

def pool9 : Array CpInfo := pool [(1, .class_ 2), (0, u "com/example/crossmode/crossmode/search/Dominance"), (2, u "SAME"), (0, u "Lcom/example/crossmode/crossmode/search/Dominance;"), (2, u "KEPT"), (2, u "CANDIDATE"), (2, u "NEITHER"), (2, u "$VALUES"), (0, u "[Lcom/example/crossmode/crossmode/search/Dominance;"), (6, .class_ 28), (1, u "java/lang/Enum")] 26

/-- com/example/crossmode/crossmode/search/Dominance -/
def k9 : Class := { plain "com/example/crossmode/crossmode/search/Dominance" (some 8) with
  accessFlags := 16432
  interfaces := #[]
  cf := some (fileOf pool9 1 #[] #[] 16432 26 #[] #[{ accessFlags := 16409, nameIndex := 5, descriptorIndex := 6, attributes := #[] }, { accessFlags := 16409, nameIndex := 9, descriptorIndex := 6, attributes := #[] }, { accessFlags := 16409, nameIndex := 12, descriptorIndex := 6, attributes := #[] }, { accessFlags := 16409, nameIndex := 15, descriptorIndex := 6, attributes := #[] }, { accessFlags := 4122, nameIndex := 18, descriptorIndex := 19, attributes := #[] }])
  fields := #[{ name := "SAME", type := (.object "com/example/crossmode/crossmode/search/Dominance"), accessFlags := 16409, slot := 0, constantValue := 0 }, { name := "KEPT", type := (.object "com/example/crossmode/crossmode/search/Dominance"), accessFlags := 16409, slot := 1, constantValue := 0 }, { name := "CANDIDATE", type := (.object "com/example/crossmode/crossmode/search/Dominance"), accessFlags := 16409, slot := 2, constantValue := 0 }, { name := "NEITHER", type := (.object "com/example/crossmode/crossmode/search/Dominance"), accessFlags := 16409, slot := 3, constantValue := 0 }, { name := "$VALUES", type := (.array (.object "com/example/crossmode/crossmode/search/Dominance")), accessFlags := 4122, slot := 4, constantValue := 0 }]
  methods := #[]
  instanceTypes := #[(.object "java/lang/String"), .int, .int]
  staticTypes := #[(.object "com/example/crossmode/crossmode/search/Dominance"), (.object "com/example/crossmode/crossmode/search/Dominance"), (.object "com/example/crossmode/crossmode/search/Dominance"), (.object "com/example/crossmode/crossmode/search/Dominance"), (.array (.object "com/example/crossmode/crossmode/search/Dominance"))]
  resolved := Array.replicate 55 none
  statics := some 0 }

def pool10 : Array CpInfo := pool [(1, u "java/lang/Cloneable"), (0, .class_ 1), (0, u "java/lang/Object"), (0, .class_ 3)] 3

/-- java/lang/Cloneable -/
def k10 : Class := { plain "java/lang/Cloneable" (some 0) with
  accessFlags := 1537
  interfaces := #[]
  cf := some (fileOf pool10 2 #[] #[] 1537 4 #[] #[])
  fields := #[]
  methods := #[]
  instanceTypes := #[]
  staticTypes := #[]
  resolved := Array.replicate 8 none
  statics := none }

/-- the primitive byte -/
def k11 : Class := { plain "byte" none with kind := .primitive 'B', accessFlags := 0x411 }
/-- [B -/
def k12 : Class := { plain "[B" (some 0) with kind := .array 11 .byte, interfaces := #[10, 7], accessFlags := 1041 }

/-- the primitive int -/
def k13 : Class := { plain "int" none with kind := .primitive 'I', accessFlags := 0x411 }
/-- [I -/
def k14 : Class := { plain "[I" (some 0) with kind := .array 13 .int, interfaces := #[10, 7], accessFlags := 1041 }

/-- the primitive long -/
def k15 : Class := { plain "long" none with kind := .primitive 'J', accessFlags := 0x411 }
/-- [J -/
def k16 : Class := { plain "[J" (some 0) with kind := .array 15 .long, interfaces := #[10, 7], accessFlags := 1041 }

/-- [Lcom/example/crossmode/crossmode/search/Label; -/
def k17 : Class := { plain "[Lcom/example/crossmode/crossmode/search/Label;" (some 0) with kind := .array 3 (.object "com/example/crossmode/crossmode/search/Label"), interfaces := #[10, 7], accessFlags := 1041 }

def heap : Heap := #[{ cls := 9, slots := #[.ref 1, .null, .null, .null, .null], vm := .statics 9 },
  { cls := 9, slots := #[.null, .int 0, .int 0], vm := .none }]
def classes : Array Class := #[k0, k1, k2, k3, k4, k5, k6, k7, k8, k9, k10, k11, k12, k13, k14, k15, k16, k17]
def interned : List (Array UInt16 × Addr) := []
def slotsUsed : Nat := 8
def theMethod : MethodId := ⟨1, 2⟩
def args0 : Array Value := #[.int 13, .long 1, .long 2, .long 3, .long 4]
def aboutOver (below : List Frame) : State where
  vm := { classes := classes, interned := interned.toArray }
  heap := heap
  slotsUsed := slotsUsed
  threads := #[{ frames := .invoking theMethod args0 :: below }]
def below0 : List Frame := [.native { method := ⟨0, 0⟩, args := #[] }]
def about1 : State := aboutOver below0
def p0 : Program := .bare "" "" ""
def e0 : Env := launch0.env 0 0 0
theorem w_frames : about1.frames = Frame.invoking theMethod args0 :: below0 := rfl
set_option maxRecDepth 65536 in
theorem w_args : argsFit about1.vm theMethod args0 = true := by decide +kernel
set_option maxRecDepth 65536 in
theorem w_heap : heapFits about1 = true := by decide +kernel
set_option maxRecDepth 65536 in
theorem w_runnable : about1.curStatus? = some .runnable := by decide +kernel
set_option maxRecDepth 65536 in
theorem w_alone : about1.alone = true := by decide +kernel
set_option maxRecDepth 65536 in
theorem w_named : about1.methodNamed? x = some theMethod := by decide +kernel
set_option maxRecDepth 65536 in
theorem w_hears : about1.hears theMethod below0 = true := by decide +kernel
set_option maxRecDepth 65536 in
theorem w_ripe : about1.ripe theMethod args0 below0 = true := by decide +kernel
theorem w_running : about1.status = .running := rfl
set_option maxRecDepth 65536 in
theorem w_room : about1.hasRoom e0.platform room_1 = true :=
  launch0.hasRoom_least _ room_1 (by decide +kernel) (by decide +kernel) (by decide +kernel) (by decide +kernel) (by decide +kernel) (by decide +kernel)
theorem allAtoms_all (ts : List Jvm.Cond) (a : Array Jvm.Value) (st : Jvm.State) : (allAtoms ts).before a st = ts.all (fun c => c.before a st) := by
  induction ts with
  | nil => rfl
  | cons c t ih =>
    show (Jvm.Cond.and c (allAtoms t)).before a st = _
    rw [Jvm.Cond.before_and, ih, List.all_cons]
def words1 : List Jvm.Cond := Jvm.Cond.code x code maxLocals ret :: tables_1
/-- a 'code' word, met by the world's own term for the bytes: nothing is compared byte by byte -/
theorem code_word {y : MethodName} {bytes : ByteArray} {mx : Nat} {rt : Option FieldType} {a : Array Value} {s : State} {m : MethodId} {meth : Method} {c : Code} (h1 : s.methodNamed? y = some m) (h2 : s.vm.method? m = some meth) (h3 : meth.code = some c) (h4 : c.code = bytes)
    (h5 : (c.maxLocals == mx && c.exceptionTable.isEmpty && decide (c.maxStack ≤ mostOperands) && decide (meth.sig.returnType = rt) && !meth.locks && decide (parseMethodDescriptor y.desc = some meth.sig)) = true) : (Jvm.Cond.code y bytes mx rt).before a s = true := by
  simp only [Bool.and_eq_true, beq_iff_eq, Bool.not_eq_true', decide_eq_true_eq] at h5
  obtain ⟨⟨⟨⟨⟨g1, g2⟩, g3⟩, g4⟩, g5⟩, g6⟩ := h5
  simp [Cond.before, Cond.holds, Cond.value, h1, h2, h3, h4, g1, g2, g3, g4, g5, g6]
def isCode : Jvm.Cond → Bool
  | .code _ _ _ _ => true
  | _ => false
theorem all_split {L : List Jvm.Cond} {P : Jvm.Cond → Bool} (h1 : L.all (fun c => isCode c || P c) = true) (h2 : ∀ c ∈ L.filter isCode, P c = true) : L.all P = true := by
  refine List.all_eq_true.mpr fun c hc => ?_
  have h := List.all_eq_true.mp h1 c hc
  rcases Bool.eq_false_or_eq_true (isCode c) with hi | hi
  · exact h2 c (List.mem_filter.mpr ⟨hc, hi⟩)
  · simpa [hi] using h
set_option maxRecDepth 65536 in
theorem w_c0 : (Jvm.Cond.code x code maxLocals ret).before args0 about1 = true := code_word (m := ⟨1, 2⟩) (meth := k1m2) (c := k1c2) (by decide +kernel) rfl rfl rfl (by decide +kernel)
set_option maxRecDepth 65536 in
theorem w_c1 : (Jvm.Cond.code ({ cls := "com/example/crossmode/crossmode/search/LabelSetSetPinLaw", name := "weights", desc := "(IJJ)[J" } : Jvm.MethodName) method_2_code (5 : Nat) (Option.some (Jvm.ClassFile.FieldType.array Jvm.ClassFile.FieldType.long))).before args0 about1 = true := code_word (m := ⟨1, 1⟩) (meth := k1m1) (c := k1c1) (by decide +kernel) rfl rfl rfl (by decide +kernel)
set_option maxRecDepth 65536 in
theorem w_c2 : (Jvm.Cond.code ({ cls := "com/example/crossmode/crossmode/search/LabelSet", name := "<init>", desc := "(I)V" } : Jvm.MethodName) prog_15_method_1_code (2 : Nat) (Option.none : Option Jvm.ClassFile.FieldType)).before args0 about1 = true := code_word (m := ⟨2, 0⟩) (meth := k2m0) (c := k2c0) (by decide +kernel) rfl rfl rfl (by decide +kernel)
set_option maxRecDepth 65536 in
theorem w_c3 : (Jvm.Cond.code ({ cls := "java/lang/Object", name := "<init>", desc := "()V" } : Jvm.MethodName) object_method_1_code (1 : Nat) (Option.none : Option Jvm.ClassFile.FieldType)).before args0 about1 = true := code_word (m := ⟨0, 0⟩) (meth := k0m0) (c := k0c0) (by decide +kernel) rfl rfl rfl (by decide +kernel)
set_option maxRecDepth 65536 in
theorem w_c4 : (Jvm.Cond.code ({ cls := "com/example/crossmode/crossmode/search/Label", name := "<init>", desc := "(I[J)V" } : Jvm.MethodName) prog_14_method_1_code (3 : Nat) (Option.none : Option Jvm.ClassFile.FieldType)).before args0 about1 = true := code_word (m := ⟨3, 0⟩) (meth := k3m0) (c := k3c0) (by decide +kernel) rfl rfl rfl (by decide +kernel)
set_option maxRecDepth 65536 in
theorem w_c5 : (Jvm.Cond.code ({ cls := "com/example/crossmode/crossmode/search/LabelSet", name := "set", desc := "(ILcom/example/crossmode/crossmode/search/Label;)V" } : Jvm.MethodName) prog_15_method_6_code (3 : Nat) (Option.none : Option Jvm.ClassFile.FieldType)).before args0 about1 = true := code_word (m := ⟨2, 3⟩) (meth := k2m3) (c := k2c3) (by decide +kernel) rfl rfl rfl (by decide +kernel)
set_option maxRecDepth 65536 in
theorem w_c6 : (Jvm.Cond.code ({ cls := "com/example/crossmode/crossmode/search/LabelSet", name := "get", desc := "(I)Lcom/example/crossmode/crossmode/search/Label;" } : Jvm.MethodName) prog_15_method_3_code (2 : Nat) (Option.some (Jvm.ClassFile.FieldType.object "com/example/crossmode/crossmode/search/Label"))).before args0 about1 = true := code_word (m := ⟨2, 1⟩) (meth := k2m1) (c := k2c1) (by decide +kernel) rfl rfl rfl (by decide +kernel)
set_option maxRecDepth 65536 in
theorem w_c7 : (Jvm.Cond.code ({ cls := "com/example/crossmode/crossmode/search/LabelSet", name := "compare", desc := "(I[J)Lcom/example/crossmode/crossmode/search/Dominance;" } : Jvm.MethodName) prog_15_method_4_code (8 : Nat) (Option.some (Jvm.ClassFile.FieldType.object "com/example/crossmode/crossmode/search/Dominance"))).before args0 about1 = true := code_word (m := ⟨2, 2⟩) (meth := k2m2) (c := k2c2) (by decide +kernel) rfl rfl rfl (by decide +kernel)
def codes1 : List Jvm.Cond := [Jvm.Cond.code x code maxLocals ret, Jvm.Cond.code ({ cls := "com/example/crossmode/crossmode/search/LabelSetSetPinLaw", name := "weights", desc := "(IJJ)[J" } : Jvm.MethodName) method_2_code (5 : Nat) (Option.some (Jvm.ClassFile.FieldType.array Jvm.ClassFile.FieldType.long)), Jvm.Cond.code ({ cls := "com/example/crossmode/crossmode/search/LabelSet", name := "<init>", desc := "(I)V" } : Jvm.MethodName) prog_15_method_1_code (2 : Nat) (Option.none : Option Jvm.ClassFile.FieldType), Jvm.Cond.code ({ cls := "java/lang/Object", name := "<init>", desc := "()V" } : Jvm.MethodName) object_method_1_code (1 : Nat) (Option.none : Option Jvm.ClassFile.FieldType), Jvm.Cond.code ({ cls := "com/example/crossmode/crossmode/search/Label", name := "<init>", desc := "(I[J)V" } : Jvm.MethodName) prog_14_method_1_code (3 : Nat) (Option.none : Option Jvm.ClassFile.FieldType), Jvm.Cond.code ({ cls := "com/example/crossmode/crossmode/search/LabelSet", name := "set", desc := "(ILcom/example/crossmode/crossmode/search/Label;)V" } : Jvm.MethodName) prog_15_method_6_code (3 : Nat) (Option.none : Option Jvm.ClassFile.FieldType), Jvm.Cond.code ({ cls := "com/example/crossmode/crossmode/search/LabelSet", name := "get", desc := "(I)Lcom/example/crossmode/crossmode/search/Label;" } : Jvm.MethodName) prog_15_method_3_code (2 : Nat) (Option.some (Jvm.ClassFile.FieldType.object "com/example/crossmode/crossmode/search/Label")), Jvm.Cond.code ({ cls := "com/example/crossmode/crossmode/search/LabelSet", name := "compare", desc := "(I[J)Lcom/example/crossmode/crossmode/search/Dominance;" } : Jvm.MethodName) prog_15_method_4_code (8 : Nat) (Option.some (Jvm.ClassFile.FieldType.object "com/example/crossmode/crossmode/search/Dominance"))]
set_option maxRecDepth 65536 in
theorem codes_eq : words1.filter isCode = codes1 := rfl
theorem w_codes : ∀ c ∈ words1.filter isCode, c.before args0 about1 = true := by
  rw [codes_eq]
  intro c hc
  simp only [codes1, List.mem_cons, List.not_mem_nil, or_false] at hc
  rcases hc with rfl | rfl | rfl | rfl | rfl | rfl | rfl | rfl
  · exact w_c0
  · exact w_c1
  · exact w_c2
  · exact w_c3
  · exact w_c4
  · exact w_c5
  · exact w_c6
  · exact w_c7
set_option maxRecDepth 65536 in
theorem w_t1 : (words1.take 24).all (fun c => isCode c || c.before args0 about1) = true := by decide +kernel
set_option maxRecDepth 65536 in
theorem w_t2 : ((words1.drop 24).take 24).all (fun c => isCode c || c.before args0 about1) = true := by decide +kernel
set_option maxRecDepth 65536 in
theorem w_t3 : ((words1.drop 24).drop 24).all (fun c => isCode c || c.before args0 about1) = true := by decide +kernel
theorem w_tables : (allAtoms (Jvm.Cond.code x code maxLocals ret :: tables_1)).before args0 about1 = true := by
  rw [allAtoms_all]
  show words1.all (fun c => c.before args0 about1) = true
  refine all_split ?_ w_codes
  rw [← List.take_append_drop 24 words1, List.all_append, w_t1, ← List.take_append_drop 24 (words1.drop 24), List.all_append, w_t2, w_t3]
  rfl
set_option maxRecDepth 65536 in
theorem w_case : (Jvm.Cond.and given_1 narrow_1).before args0 about1 = true := by decide +kernel
theorem w_applies : (headSpec (Jvm.Cond.code x code maxLocals ret :: tables_1) room_1).applies x e0.platform about1 = true :=
  (Spec.applies_iff w_frames).mpr ⟨w_running, w_runnable, w_alone, w_named, w_hears, w_ripe, w_room, w_tables⟩
theorem atStart : AtStart classFile x code maxLocals ret World_1 tables_1 room_1 Calls_1 rest_1 Pre_1 launch0 p0 e0 about1 theMethod args0 below0 :=
  ⟨lists_1, trivial, launch0.admits_env _ _ _, launch0.least_env, fairChoices_fair.cas, fairChoices_fair.clock, w_frames, w_args, w_heap, w_applies, trivial, trivial, w_case⟩
end start1
theorem witness_1 : WitnessClaimed_1 := ⟨start1.p0, start1.e0, start1.about1, start1.theMethod, start1.args0, start1.below0, start1.atStart⟩
end Jvm.Pilot.@@N@@
