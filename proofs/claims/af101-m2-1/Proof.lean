import JvmDerived
import JvmDerived.Pilot.@@N@@Statement
import JvmDerived.Pilot.@@N@@Code
set_option linter.unusedVariables false
set_option linter.unusedSimpArgs false
@@BLOCK:NumsL.lean.txt@@
namespace Jvm.Pilot.@@N@@
open Jvm Jvm.ClassFile Sem Op Lib Jvm.Free Jvm.Stand Jvm.LawKit Jvm.RoadKit Bundle Jvm.Pilot.@@N@@.Jvm.D

/-! the plain law -/
def own_t (x : Int64) (k : Int32) : Int64 :=
  if (k &&& (3 : Int32)) = (0 : Int32) then x
  else if (k &&& (3 : Int32)) = (1 : Int32) then ((112 : Int64) + (x &&& (63 : Int64)))
  else if (k &&& (3 : Int32)) = (2 : Int32) then ((-9223372036854775808 : Int64) ||| ((128 : Int64) + (x &&& (15 : Int64))))
  else ((128 : Int64) + (x &&& (15 : Int64)))
def own_is (t : Int64) : Int32 := if t < (128 : Int64) then (0 : Int32) else if (143 : Int64) < t then (0 : Int32) else (1 : Int32)
theorem own_and (n : Nat) (h : n < 2 ^ 64) : n &&& (2 ^ 64 - (15 + 1)) = n / 2 ^ 4 * 2 ^ 4 := by
  apply Nat.eq_of_testBit_eq
  intro i
  rw [Nat.testBit_and, Nat.testBit_two_pow_sub_succ (by decide), Nat.testBit_mul_two_pow, Nat.testBit_div_two_pow, show (15 : Nat) = 2 ^ 4 - 1 from rfl, Nat.testBit_two_pow_sub_one]
  by_cases h4 : 4 ≤ i
  · have e : i - 4 + 4 = i := by omega
    by_cases h6 : i < 64
    · simp [h4, h6, Nat.not_lt.mpr h4, e]
    · have hz : n.testBit i = false := Nat.testBit_lt_two_pow (Nat.lt_of_lt_of_le h (Nat.pow_le_pow_right (by decide) (by omega)))
      simp [h4, h6, hz, e]
  · simp [h4, Nat.lt_of_not_le h4]
theorem own_m (t : Int64) : (t &&& (-16 : Int64)) = (128 : Int64) ↔ 128 ≤ t.toBitVec.toNat ∧ t.toBitVec.toNat ≤ 143 := by
  have h := t.toBitVec.isLt
  have e : (t &&& (-16 : Int64)).toBitVec.toNat = t.toBitVec.toNat / 2 ^ 4 * 2 ^ 4 := by
    rw [Int64.toBitVec_and, BitVec.toNat_and, ← own_and _ h]; rfl
  rw [← Int64.toBitVec_inj, ← BitVec.toNat_inj, e]
  have e2 : (128 : Int64).toBitVec.toNat = 128 := by decide
  rw [e2]; omega
theorem own_in (t : Int64) : (¬ t < (128 : Int64) ∧ ¬ (143 : Int64) < t) ↔ 128 ≤ t.toBitVec.toNat ∧ t.toBitVec.toNat ≤ 143 := by
  have h := t.toBitVec.isLt
  have e : t.toInt = Int.bmod t.toBitVec.toNat (2 ^ 64) := BitVec.toInt_eq_toNat_bmod _
  have e1 : (128 : Int64).toInt = 128 := by decide
  have e2 : (143 : Int64).toInt = 143 := by decide
  rw [Int64.lt_iff_toInt_lt, Int64.lt_iff_toInt_lt, e1, e2, e, Int.bmod_def]
  omega
theorem own_y {t : Int64} (h : (t &&& (-16 : Int64)) = (128 : Int64)) : own_is t = (1 : Int32) := by
  obtain ⟨a, b⟩ := (own_in t).mpr ((own_m t).mp h)
  rw [own_is, if_neg a, if_neg b]
theorem own_n {t : Int64} (h : ¬ (t &&& (-16 : Int64)) = (128 : Int64)) : own_is t = (0 : Int32) := by
  by_cases a : t < (128 : Int64)
  · rw [own_is, if_pos a]
  · by_cases b : (143 : Int64) < t
    · rw [own_is, if_neg a, if_pos b]
    · exact absurd ((own_m t).mpr ((own_in t).mp ⟨a, b⟩)) h

theorem ef_1 (m : MethodId) (x0 : Int64) : entryFrame m #[(.long x0)] 2 = mkF m 0 #[.val (.long x0), .second] [] := by first | (simp [entryFrame, mkF, argsToLocals, Value.category]; done) | rfl
theorem pn_com_example_tagstream_tagstream_packed_PackedSyntax : plainName "com/example/tagstream/tagstream/packed/PackedSyntax" = true := by first | (simp [plainName, overriddenIn]; done) | decide +kernel
theorem d1_0 : decode prog_56_method_2_code 0 = .ok (.lload_n 0, 1) := by decide +kernel
theorem d1_1 : decode prog_56_method_2_code 1 = .ok (.ldc2_w 9, 3) := by decide +kernel
theorem d1_4 : decode prog_56_method_2_code 4 = .ok (.lcmp, 1) := by decide +kernel
theorem d1_5 : decode prog_56_method_2_code 5 = .ok (.ifCond .lt 15, 3) := by decide +kernel
theorem d1_20 : decode prog_56_method_2_code 20 = .ok (.iconst 0, 1) := by decide +kernel
theorem d1_21 : decode prog_56_method_2_code 21 = .ok (.ireturn, 1) := by decide +kernel
theorem d1_8 : decode prog_56_method_2_code 8 = .ok (.lload_n 0, 1) := by decide +kernel
theorem d1_9 : decode prog_56_method_2_code 9 = .ok (.ldc2_w 11, 3) := by decide +kernel
theorem d1_12 : decode prog_56_method_2_code 12 = .ok (.lcmp, 1) := by decide +kernel
theorem d1_13 : decode prog_56_method_2_code 13 = .ok (.ifCond .gt 7, 3) := by decide +kernel
theorem d1_16 : decode prog_56_method_2_code 16 = .ok (.iconst 1, 1) := by decide +kernel
theorem d1_17 : decode prog_56_method_2_code 17 = .ok (.goto 4, 3) := by decide +kernel
def Q1 (Z : State) (q0 : Int64) (h0 : Heap) (n0 : Nat) (v : Option Value) (h : Heap) (L : List Loc) : Prop := v = some (.int (own_is q0)) ∧ Fr n0 L ∧ h = h0
set_option maxRecDepth 65536 in
set_option maxHeartbeats 40000000 in
theorem rm1 (l : Launch) (Z : State) (a0 : Array Value) (hw : ∀ d ∈ tables_1, d.before a0 Z = true) (ws : List Jvm.Cond) (q0 : Int64) (h0 : Heap) (n0 : Nat) (Z0 : n0 ≤ h0.size)  :
    MetFree l (⟨"com/example/tagstream/tagstream/packed/PackedSyntax", "isArgumentReference", "(J)Z"⟩ : MethodName) (head1 (Jvm.Cond.code (⟨"com/example/tagstream/tagstream/packed/PackedSyntax", "isArgumentReference", "(J)Z"⟩ : MethodName) prog_56_method_2_code 2 (some .boolean) :: ws) ({ frames := 0, cells := 0, slots := 0, locals := 0 } : Room)) (fun a U => a = #[(.long q0)] ∧ Z.Warmed39 U.vm ∧ U.heap = h0) (fun _ _ _ _ _ => True) (fun _ U o U' => ∃ v L, o = .returned v ∧ Q1 Z q0 h0 n0 v U'.heap L ∧ FrameEnd U o U' L ({ frames := 0, cells := 0, slots := 0, locals := 0 } : Room).cells ({ frames := 0, cells := 0, slots := 0, locals := 0 } : Room).slots) := by
  refine MetFree.of_bodySF (plainFor_of_name pn_com_example_tagstream_tagstream_packed_PackedSyntax) hisR ?_
  intro p e s m args below meth c s₁ Bd hml0 hP hK
  obtain ⟨rfl, hZ, hh⟩ := hP
  have hx := Bd.exec
  have hby := Bd.bytes
  have hml : c.maxLocals = 2 := hml0
  have hown : s.vm.findClass "com/example/tagstream/tagstream/packed/PackedSyntax" = some m.cls := findClass_of_methodNamed Bd.named
  have hnm := (name_of_methodNamed Bd.named Bd.method).1
  have X0 : Stand p l e ({ frames := 0, cells := 0, slots := 0, locals := 0 } : Room) s m #[(.long q0)] below meth c s₁ [] 0 0 := Stand.of_body Bd
  have e0 : s₁.heap = h0 := by rw [← hh, Bd.state]; rfl
  have N0 := Fr.nil n0
  have pre0 : ∀ t, Steps p.tables e below (s₁.setTop (mkF m 0 #[.val (.long q0), .second] [])) t → Steps p.tables e below (s₁.setTop (entryFrame m #[(.long q0)] 2)) t := fun t k => castTop (ef_1 m q0) k
  by_cases hc5 : q0 < (128 : Int64)
  · obtain ⟨fs, hr, hrun, hended, hW, hsame⟩ := X0.leave (v := some (.int (0 : Int32))) (fun h => by rw [Bd.returns] at h; cases h)
    refine ⟨_, _, pre0 _ ?_, hrun, hended, _, _, rfl, ?_, ⟨_, rfl⟩, hW, hsame.mono (by decide) (by decide)⟩
    · show Steps p.tables e below (s₁.setTop (mkF m 0 #[.val (.long q0), .second] [])) _
      refine XS.lloadN X0.here hx rfl (hb hby d1_0) rfl ?_
      show Steps p.tables e below (s₁.setTop (mkF m 1 #[.val (.long q0), .second] [(.long q0)])) _
      refine X0.ldc2Long hx hown (mvT hZ (hw _ (List.mem_of_getElem? (i := 8) rfl))) (g := (mkF m 1 #[.val (.long q0), .second] [(.long q0)])) rfl (hb hby d1_1) _ ?_
      show Steps p.tables e below (s₁.setTop (mkF m 4 #[.val (.long q0), .second] [(.long (128 : Int64)), (.long q0)])) _
      refine XS.lcmp X0.here hx rfl (hb hby d1_4) rfl ?_
      show Steps p.tables e below (s₁.setTop (mkF m 5 #[.val (.long q0), .second] [(.int (lcmpW q0 (128 : Int64)))])) _
      refine XS.ifYes X0.here hx rfl (pc0 := 5) (pc' := 20) rfl (hb hby d1_5) rfl ((if0 _ _).trans (tlt ((lw_lt _ _).mpr hc5)).1) (by decide) (by decide) ?_
      show Steps p.tables e below (s₁.setTop (mkF m 20 #[.val (.long q0), .second] [])) _
      refine XS.iconst X0.here hx rfl (hb hby d1_20) ?_
      show Steps p.tables e below (s₁.setTop (mkF m 21 #[.val (.long q0), .second] [(.int (0 : Int32))])) _
      exact retN X0 hx (t := .boolean) Bd.returns (by simp) (hb hby d1_21) hr
    · show Q1 Z q0 h0 n0 _ s₁.heap _
      rw [e0]
      exact ⟨by rw [own_is, if_pos hc5], N0, rfl⟩
  · by_cases hc13 : (143 : Int64) < q0
    · obtain ⟨fs, hr, hrun, hended, hW, hsame⟩ := X0.leave (v := some (.int (0 : Int32))) (fun h => by rw [Bd.returns] at h; cases h)
      refine ⟨_, _, pre0 _ ?_, hrun, hended, _, _, rfl, ?_, ⟨_, rfl⟩, hW, hsame.mono (by decide) (by decide)⟩
      · show Steps p.tables e below (s₁.setTop (mkF m 0 #[.val (.long q0), .second] [])) _
        refine XS.lloadN X0.here hx rfl (hb hby d1_0) rfl ?_
        show Steps p.tables e below (s₁.setTop (mkF m 1 #[.val (.long q0), .second] [(.long q0)])) _
        refine X0.ldc2Long hx hown (mvT hZ (hw _ (List.mem_of_getElem? (i := 8) rfl))) (g := (mkF m 1 #[.val (.long q0), .second] [(.long q0)])) rfl (hb hby d1_1) _ ?_
        show Steps p.tables e below (s₁.setTop (mkF m 4 #[.val (.long q0), .second] [(.long (128 : Int64)), (.long q0)])) _
        refine XS.lcmp X0.here hx rfl (hb hby d1_4) rfl ?_
        show Steps p.tables e below (s₁.setTop (mkF m 5 #[.val (.long q0), .second] [(.int (lcmpW q0 (128 : Int64)))])) _
        refine XS.ifNo X0.here hx rfl (hb hby d1_5) rfl ((if0 _ _).trans (flt (fun q => hc5 ((lw_lt _ _).mp q))).1) ?_
        show Steps p.tables e below (s₁.setTop (mkF m 8 #[.val (.long q0), .second] [])) _
        refine XS.lloadN X0.here hx rfl (hb hby d1_8) rfl ?_
        show Steps p.tables e below (s₁.setTop (mkF m 9 #[.val (.long q0), .second] [(.long q0)])) _
        refine X0.ldc2Long hx hown (mvT hZ (hw _ (List.mem_of_getElem? (i := 9) rfl))) (g := (mkF m 9 #[.val (.long q0), .second] [(.long q0)])) rfl (hb hby d1_9) _ ?_
        show Steps p.tables e below (s₁.setTop (mkF m 12 #[.val (.long q0), .second] [(.long (143 : Int64)), (.long q0)])) _
        refine XS.lcmp X0.here hx rfl (hb hby d1_12) rfl ?_
        show Steps p.tables e below (s₁.setTop (mkF m 13 #[.val (.long q0), .second] [(.int (lcmpW q0 (143 : Int64)))])) _
        refine XS.ifYes X0.here hx rfl (pc0 := 13) (pc' := 20) rfl (hb hby d1_13) rfl ((if0 _ _).trans (tlt ((lw_gt _ _).mpr hc13)).2.2.1) (by decide) (by decide) ?_
        show Steps p.tables e below (s₁.setTop (mkF m 20 #[.val (.long q0), .second] [])) _
        refine XS.iconst X0.here hx rfl (hb hby d1_20) ?_
        show Steps p.tables e below (s₁.setTop (mkF m 21 #[.val (.long q0), .second] [(.int (0 : Int32))])) _
        exact retN X0 hx (t := .boolean) Bd.returns (by simp) (hb hby d1_21) hr
      · show Q1 Z q0 h0 n0 _ s₁.heap _
        rw [e0]
        exact ⟨by rw [own_is, if_neg hc5, if_pos hc13], N0, rfl⟩
    · obtain ⟨fs, hr, hrun, hended, hW, hsame⟩ := X0.leave (v := some (.int (1 : Int32))) (fun h => by rw [Bd.returns] at h; cases h)
      refine ⟨_, _, pre0 _ ?_, hrun, hended, _, _, rfl, ?_, ⟨_, rfl⟩, hW, hsame.mono (by decide) (by decide)⟩
      · show Steps p.tables e below (s₁.setTop (mkF m 0 #[.val (.long q0), .second] [])) _
        refine XS.lloadN X0.here hx rfl (hb hby d1_0) rfl ?_
        show Steps p.tables e below (s₁.setTop (mkF m 1 #[.val (.long q0), .second] [(.long q0)])) _
        refine X0.ldc2Long hx hown (mvT hZ (hw _ (List.mem_of_getElem? (i := 8) rfl))) (g := (mkF m 1 #[.val (.long q0), .second] [(.long q0)])) rfl (hb hby d1_1) _ ?_
        show Steps p.tables e below (s₁.setTop (mkF m 4 #[.val (.long q0), .second] [(.long (128 : Int64)), (.long q0)])) _
        refine XS.lcmp X0.here hx rfl (hb hby d1_4) rfl ?_
        show Steps p.tables e below (s₁.setTop (mkF m 5 #[.val (.long q0), .second] [(.int (lcmpW q0 (128 : Int64)))])) _
        refine XS.ifNo X0.here hx rfl (hb hby d1_5) rfl ((if0 _ _).trans (flt (fun q => hc5 ((lw_lt _ _).mp q))).1) ?_
        show Steps p.tables e below (s₁.setTop (mkF m 8 #[.val (.long q0), .second] [])) _
        refine XS.lloadN X0.here hx rfl (hb hby d1_8) rfl ?_
        show Steps p.tables e below (s₁.setTop (mkF m 9 #[.val (.long q0), .second] [(.long q0)])) _
        refine X0.ldc2Long hx hown (mvT hZ (hw _ (List.mem_of_getElem? (i := 9) rfl))) (g := (mkF m 9 #[.val (.long q0), .second] [(.long q0)])) rfl (hb hby d1_9) _ ?_
        show Steps p.tables e below (s₁.setTop (mkF m 12 #[.val (.long q0), .second] [(.long (143 : Int64)), (.long q0)])) _
        refine XS.lcmp X0.here hx rfl (hb hby d1_12) rfl ?_
        show Steps p.tables e below (s₁.setTop (mkF m 13 #[.val (.long q0), .second] [(.int (lcmpW q0 (143 : Int64)))])) _
        refine XS.ifNo X0.here hx rfl (hb hby d1_13) rfl ((if0 _ _).trans (flt (fun q => hc13 ((lw_gt _ _).mp q))).2.2.1) ?_
        show Steps p.tables e below (s₁.setTop (mkF m 16 #[.val (.long q0), .second] [])) _
        refine XS.iconst X0.here hx rfl (hb hby d1_16) ?_
        show Steps p.tables e below (s₁.setTop (mkF m 17 #[.val (.long q0), .second] [(.int (1 : Int32))])) _
        refine XS.goto X0.here hx rfl (pc0 := 17) (pc' := 21) rfl (hb hby d1_17) (by decide) (by decide) ?_
        show Steps p.tables e below (s₁.setTop (mkF m 21 #[.val (.long q0), .second] [(.int (1 : Int32))])) _
        exact retN X0 hx (t := .boolean) Bd.returns (by simp) (hb hby d1_21) hr
      · show Q1 Z q0 h0 n0 _ s₁.heap _
        rw [e0]
        exact ⟨by rw [own_is, if_neg hc5, if_neg hc13], N0, rfl⟩
set_option maxRecDepth 65536 in
set_option maxHeartbeats 40000000 in
theorem pc_67 {p : Program} {l : Launch} {e : Env} {R : Room} {s : State} {m : MethodId} {args : Array Value} {below : List Frame} {meth : Method} {c : Code} {T0 : State} {locs : List Loc} {cells slots : Nat} {Z : State} {a0 : Array Value} (q0 : Int64) (p1 : Int32)
    (X0 : Stand p l e R s m args below meth c T0 locs cells slots) (hx : p.tables.exec = Jvm.exec) (hZ : Z.Warmed39 s.vm) (hw : ∀ d ∈ tables_1, d.before a0 Z = true) (hby : c.code = code) (hown : s.vm.findClass "com/example/tagstream/tagstream/packed/PackedSyntaxIsArgumentReferencePinLaw" = some m.cls)  :
    ∀ target, Steps p.tables e below (T0.setTop (mkF m 67 #[.val (.long q0), .second, .val (.int p1), .val (.int (p1 &&& (3 : Int32))), .val (.long (own_t q0 p1)), .second, .unset] [])) target → Steps p.tables e below (T0.setTop (mkF m 0 #[.val (.long q0), .second, .val (.int p1), .unset, .unset, .unset, .unset] [])) target := by
  intro target kt
  by_cases hc5 : (p1 &&& (3 : Int32)) = (0 : Int32)
  · show Steps p.tables e below (T0.setTop (mkF m 0 #[.val (.long q0), .second, .val (.int p1), .unset, .unset, .unset, .unset] [])) _
    refine XS.iloadN X0.here hx rfl (hb hby at_0) rfl ?_
    show Steps p.tables e below (T0.setTop (mkF m 1 #[.val (.long q0), .second, .val (.int p1), .unset, .unset, .unset, .unset] [(.int p1)])) _
    refine XS.iconst X0.here hx rfl (hb hby at_1) ?_
    show Steps p.tables e below (T0.setTop (mkF m 2 #[.val (.long q0), .second, .val (.int p1), .unset, .unset, .unset, .unset] [(.int (3 : Int32)), (.int p1)])) _
    refine XS.iand X0.here hx rfl (hb hby at_2) rfl ?_
    show Steps p.tables e below (T0.setTop (mkF m 3 #[.val (.long q0), .second, .val (.int p1), .unset, .unset, .unset, .unset] [(.int (p1 &&& (3 : Int32)))])) _
    refine XS.istoreN X0.here hx rfl (hb hby at_3) rfl (l' := #[.val (.long q0), .second, .val (.int p1), .val (.int (p1 &&& (3 : Int32))), .unset, .unset, .unset]) rfl ?_
    show Steps p.tables e below (T0.setTop (mkF m 4 #[.val (.long q0), .second, .val (.int p1), .val (.int (p1 &&& (3 : Int32))), .unset, .unset, .unset] [])) _
    refine XS.iloadN X0.here hx rfl (hb hby at_4) rfl ?_
    show Steps p.tables e below (T0.setTop (mkF m 5 #[.val (.long q0), .second, .val (.int p1), .val (.int (p1 &&& (3 : Int32))), .unset, .unset, .unset] [(.int (p1 &&& (3 : Int32)))])) _
    refine XS.ifNo X0.here hx rfl (hb hby at_5) rfl ((if0 _ _).trans (teq hc5).2) ?_
    show Steps p.tables e below (T0.setTop (mkF m 8 #[.val (.long q0), .second, .val (.int p1), .val (.int (p1 &&& (3 : Int32))), .unset, .unset, .unset] [])) _
    refine XS.lloadN X0.here hx rfl (hb hby at_8) rfl ?_
    show Steps p.tables e below (T0.setTop (mkF m 9 #[.val (.long q0), .second, .val (.int p1), .val (.int (p1 &&& (3 : Int32))), .unset, .unset, .unset] [(.long q0)])) _
    refine XS.lstore X0.here hx rfl (hb hby at_9) rfl (l' := #[.val (.long q0), .second, .val (.int p1), .val (.int (p1 &&& (3 : Int32))), .val (.long q0), .second, .unset]) rfl ?_
    show Steps p.tables e below (T0.setTop (mkF m 11 #[.val (.long q0), .second, .val (.int p1), .val (.int (p1 &&& (3 : Int32))), .val (.long q0), .second, .unset] [])) _
    refine XS.goto X0.here hx rfl (pc0 := 11) (pc' := 67) rfl (hb hby at_11) (by decide) (by decide) ?_
    show Steps p.tables e below (T0.setTop (mkF m 67 #[.val (.long q0), .second, .val (.int p1), .val (.int (p1 &&& (3 : Int32))), .val (.long q0), .second, .unset] [])) _
    have et : own_t q0 p1 = q0 := by rw [own_t, if_pos hc5]
    rw [et] at kt
    exact kt
  · by_cases hc16 : (p1 &&& (3 : Int32)) = (1 : Int32)
    · show Steps p.tables e below (T0.setTop (mkF m 0 #[.val (.long q0), .second, .val (.int p1), .unset, .unset, .unset, .unset] [])) _
      refine XS.iloadN X0.here hx rfl (hb hby at_0) rfl ?_
      show Steps p.tables e below (T0.setTop (mkF m 1 #[.val (.long q0), .second, .val (.int p1), .unset, .unset, .unset, .unset] [(.int p1)])) _
      refine XS.iconst X0.here hx rfl (hb hby at_1) ?_
      show Steps p.tables e below (T0.setTop (mkF m 2 #[.val (.long q0), .second, .val (.int p1), .unset, .unset, .unset, .unset] [(.int (3 : Int32)), (.int p1)])) _
      refine XS.iand X0.here hx rfl (hb hby at_2) rfl ?_
      show Steps p.tables e below (T0.setTop (mkF m 3 #[.val (.long q0), .second, .val (.int p1), .unset, .unset, .unset, .unset] [(.int (p1 &&& (3 : Int32)))])) _
      refine XS.istoreN X0.here hx rfl (hb hby at_3) rfl (l' := #[.val (.long q0), .second, .val (.int p1), .val (.int (p1 &&& (3 : Int32))), .unset, .unset, .unset]) rfl ?_
      show Steps p.tables e below (T0.setTop (mkF m 4 #[.val (.long q0), .second, .val (.int p1), .val (.int (p1 &&& (3 : Int32))), .unset, .unset, .unset] [])) _
      refine XS.iloadN X0.here hx rfl (hb hby at_4) rfl ?_
      show Steps p.tables e below (T0.setTop (mkF m 5 #[.val (.long q0), .second, .val (.int p1), .val (.int (p1 &&& (3 : Int32))), .unset, .unset, .unset] [(.int (p1 &&& (3 : Int32)))])) _
      refine XS.ifYes X0.here hx rfl (pc0 := 5) (pc' := 14) rfl (hb hby at_5) rfl ((if0 _ _).trans (feq hc5).2) (by decide) (by decide) ?_
      show Steps p.tables e below (T0.setTop (mkF m 14 #[.val (.long q0), .second, .val (.int p1), .val (.int (p1 &&& (3 : Int32))), .unset, .unset, .unset] [])) _
      refine XS.iloadN X0.here hx rfl (hb hby at_14) rfl ?_
      show Steps p.tables e below (T0.setTop (mkF m 15 #[.val (.long q0), .second, .val (.int p1), .val (.int (p1 &&& (3 : Int32))), .unset, .unset, .unset] [(.int (p1 &&& (3 : Int32)))])) _
      refine XS.iconst X0.here hx rfl (hb hby at_15) ?_
      show Steps p.tables e below (T0.setTop (mkF m 16 #[.val (.long q0), .second, .val (.int p1), .val (.int (p1 &&& (3 : Int32))), .unset, .unset, .unset] [(.int (1 : Int32)), (.int (p1 &&& (3 : Int32)))])) _
      refine XS.icmpNo X0.here hx rfl (hb hby at_16) rfl (teq hc16).2 ?_
      show Steps p.tables e below (T0.setTop (mkF m 19 #[.val (.long q0), .second, .val (.int p1), .val (.int (p1 &&& (3 : Int32))), .unset, .unset, .unset] [])) _
      refine X0.ldc2Long hx hown (mvT hZ (hw _ (List.mem_of_getElem? (i := 10) rfl))) (g := (mkF m 19 #[.val (.long q0), .second, .val (.int p1), .val (.int (p1 &&& (3 : Int32))), .unset, .unset, .unset] [])) rfl (hb hby at_19) _ ?_
      show Steps p.tables e below (T0.setTop (mkF m 22 #[.val (.long q0), .second, .val (.int p1), .val (.int (p1 &&& (3 : Int32))), .unset, .unset, .unset] [(.long (112 : Int64))])) _
      refine XS.lloadN X0.here hx rfl (hb hby at_22) rfl ?_
      show Steps p.tables e below (T0.setTop (mkF m 23 #[.val (.long q0), .second, .val (.int p1), .val (.int (p1 &&& (3 : Int32))), .unset, .unset, .unset] [(.long q0), (.long (112 : Int64))])) _
      refine X0.ldc2Long hx hown (mvT hZ (hw _ (List.mem_of_getElem? (i := 11) rfl))) (g := (mkF m 23 #[.val (.long q0), .second, .val (.int p1), .val (.int (p1 &&& (3 : Int32))), .unset, .unset, .unset] [(.long q0), (.long (112 : Int64))])) rfl (hb hby at_23) _ ?_
      show Steps p.tables e below (T0.setTop (mkF m 26 #[.val (.long q0), .second, .val (.int p1), .val (.int (p1 &&& (3 : Int32))), .unset, .unset, .unset] [(.long (63 : Int64)), (.long q0), (.long (112 : Int64))])) _
      refine XS.land X0.here hx rfl (hb hby at_26) rfl ?_
      show Steps p.tables e below (T0.setTop (mkF m 27 #[.val (.long q0), .second, .val (.int p1), .val (.int (p1 &&& (3 : Int32))), .unset, .unset, .unset] [(.long (q0 &&& (63 : Int64))), (.long (112 : Int64))])) _
      refine XS.ladd X0.here hx rfl (hb hby at_27) rfl ?_
      show Steps p.tables e below (T0.setTop (mkF m 28 #[.val (.long q0), .second, .val (.int p1), .val (.int (p1 &&& (3 : Int32))), .unset, .unset, .unset] [(.long ((112 : Int64) + (q0 &&& (63 : Int64))))])) _
      refine XS.lstore X0.here hx rfl (hb hby at_28) rfl (l' := #[.val (.long q0), .second, .val (.int p1), .val (.int (p1 &&& (3 : Int32))), .val (.long ((112 : Int64) + (q0 &&& (63 : Int64)))), .second, .unset]) rfl ?_
      show Steps p.tables e below (T0.setTop (mkF m 30 #[.val (.long q0), .second, .val (.int p1), .val (.int (p1 &&& (3 : Int32))), .val (.long ((112 : Int64) + (q0 &&& (63 : Int64)))), .second, .unset] [])) _
      refine XS.goto X0.here hx rfl (pc0 := 30) (pc' := 67) rfl (hb hby at_30) (by decide) (by decide) ?_
      show Steps p.tables e below (T0.setTop (mkF m 67 #[.val (.long q0), .second, .val (.int p1), .val (.int (p1 &&& (3 : Int32))), .val (.long ((112 : Int64) + (q0 &&& (63 : Int64)))), .second, .unset] [])) _
      have et : own_t q0 p1 = ((112 : Int64) + (q0 &&& (63 : Int64))) := by rw [own_t, if_neg hc5, if_pos hc16]
      rw [et] at kt
      exact kt
    · by_cases hc35 : (p1 &&& (3 : Int32)) = (2 : Int32)
      · show Steps p.tables e below (T0.setTop (mkF m 0 #[.val (.long q0), .second, .val (.int p1), .unset, .unset, .unset, .unset] [])) _
        refine XS.iloadN X0.here hx rfl (hb hby at_0) rfl ?_
        show Steps p.tables e below (T0.setTop (mkF m 1 #[.val (.long q0), .second, .val (.int p1), .unset, .unset, .unset, .unset] [(.int p1)])) _
        refine XS.iconst X0.here hx rfl (hb hby at_1) ?_
        show Steps p.tables e below (T0.setTop (mkF m 2 #[.val (.long q0), .second, .val (.int p1), .unset, .unset, .unset, .unset] [(.int (3 : Int32)), (.int p1)])) _
        refine XS.iand X0.here hx rfl (hb hby at_2) rfl ?_
        show Steps p.tables e below (T0.setTop (mkF m 3 #[.val (.long q0), .second, .val (.int p1), .unset, .unset, .unset, .unset] [(.int (p1 &&& (3 : Int32)))])) _
        refine XS.istoreN X0.here hx rfl (hb hby at_3) rfl (l' := #[.val (.long q0), .second, .val (.int p1), .val (.int (p1 &&& (3 : Int32))), .unset, .unset, .unset]) rfl ?_
        show Steps p.tables e below (T0.setTop (mkF m 4 #[.val (.long q0), .second, .val (.int p1), .val (.int (p1 &&& (3 : Int32))), .unset, .unset, .unset] [])) _
        refine XS.iloadN X0.here hx rfl (hb hby at_4) rfl ?_
        show Steps p.tables e below (T0.setTop (mkF m 5 #[.val (.long q0), .second, .val (.int p1), .val (.int (p1 &&& (3 : Int32))), .unset, .unset, .unset] [(.int (p1 &&& (3 : Int32)))])) _
        refine XS.ifYes X0.here hx rfl (pc0 := 5) (pc' := 14) rfl (hb hby at_5) rfl ((if0 _ _).trans (feq hc5).2) (by decide) (by decide) ?_
        show Steps p.tables e below (T0.setTop (mkF m 14 #[.val (.long q0), .second, .val (.int p1), .val (.int (p1 &&& (3 : Int32))), .unset, .unset, .unset] [])) _
        refine XS.iloadN X0.here hx rfl (hb hby at_14) rfl ?_
        show Steps p.tables e below (T0.setTop (mkF m 15 #[.val (.long q0), .second, .val (.int p1), .val (.int (p1 &&& (3 : Int32))), .unset, .unset, .unset] [(.int (p1 &&& (3 : Int32)))])) _
        refine XS.iconst X0.here hx rfl (hb hby at_15) ?_
        show Steps p.tables e below (T0.setTop (mkF m 16 #[.val (.long q0), .second, .val (.int p1), .val (.int (p1 &&& (3 : Int32))), .unset, .unset, .unset] [(.int (1 : Int32)), (.int (p1 &&& (3 : Int32)))])) _
        refine XS.icmpYes X0.here hx rfl (pc0 := 16) (pc' := 33) rfl (hb hby at_16) rfl (feq hc16).2 (by decide) (by decide) ?_
        show Steps p.tables e below (T0.setTop (mkF m 33 #[.val (.long q0), .second, .val (.int p1), .val (.int (p1 &&& (3 : Int32))), .unset, .unset, .unset] [])) _
        refine XS.iloadN X0.here hx rfl (hb hby at_33) rfl ?_
        show Steps p.tables e below (T0.setTop (mkF m 34 #[.val (.long q0), .second, .val (.int p1), .val (.int (p1 &&& (3 : Int32))), .unset, .unset, .unset] [(.int (p1 &&& (3 : Int32)))])) _
        refine XS.iconst X0.here hx rfl (hb hby at_34) ?_
        show Steps p.tables e below (T0.setTop (mkF m 35 #[.val (.long q0), .second, .val (.int p1), .val (.int (p1 &&& (3 : Int32))), .unset, .unset, .unset] [(.int (2 : Int32)), (.int (p1 &&& (3 : Int32)))])) _
        refine XS.icmpNo X0.here hx rfl (hb hby at_35) rfl (teq hc35).2 ?_
        show Steps p.tables e below (T0.setTop (mkF m 38 #[.val (.long q0), .second, .val (.int p1), .val (.int (p1 &&& (3 : Int32))), .unset, .unset, .unset] [])) _
        refine X0.ldc2Long hx hown (mvT hZ (hw _ (List.mem_of_getElem? (i := 0) rfl))) (g := (mkF m 38 #[.val (.long q0), .second, .val (.int p1), .val (.int (p1 &&& (3 : Int32))), .unset, .unset, .unset] [])) rfl (hb hby at_38) _ ?_
        show Steps p.tables e below (T0.setTop (mkF m 41 #[.val (.long q0), .second, .val (.int p1), .val (.int (p1 &&& (3 : Int32))), .unset, .unset, .unset] [(.long (-9223372036854775808 : Int64))])) _
        refine X0.ldc2Long hx hown (mvT hZ (hw _ (List.mem_of_getElem? (i := 1) rfl))) (g := (mkF m 41 #[.val (.long q0), .second, .val (.int p1), .val (.int (p1 &&& (3 : Int32))), .unset, .unset, .unset] [(.long (-9223372036854775808 : Int64))])) rfl (hb hby at_41) _ ?_
        show Steps p.tables e below (T0.setTop (mkF m 44 #[.val (.long q0), .second, .val (.int p1), .val (.int (p1 &&& (3 : Int32))), .unset, .unset, .unset] [(.long (128 : Int64)), (.long (-9223372036854775808 : Int64))])) _
        refine XS.lloadN X0.here hx rfl (hb hby at_44) rfl ?_
        show Steps p.tables e below (T0.setTop (mkF m 45 #[.val (.long q0), .second, .val (.int p1), .val (.int (p1 &&& (3 : Int32))), .unset, .unset, .unset] [(.long q0), (.long (128 : Int64)), (.long (-9223372036854775808 : Int64))])) _
        refine X0.ldc2Long hx hown (mvT hZ (hw _ (List.mem_of_getElem? (i := 2) rfl))) (g := (mkF m 45 #[.val (.long q0), .second, .val (.int p1), .val (.int (p1 &&& (3 : Int32))), .unset, .unset, .unset] [(.long q0), (.long (128 : Int64)), (.long (-9223372036854775808 : Int64))])) rfl (hb hby at_45) _ ?_
        show Steps p.tables e below (T0.setTop (mkF m 48 #[.val (.long q0), .second, .val (.int p1), .val (.int (p1 &&& (3 : Int32))), .unset, .unset, .unset] [(.long (15 : Int64)), (.long q0), (.long (128 : Int64)), (.long (-9223372036854775808 : Int64))])) _
        refine XS.land X0.here hx rfl (hb hby at_48) rfl ?_
        show Steps p.tables e below (T0.setTop (mkF m 49 #[.val (.long q0), .second, .val (.int p1), .val (.int (p1 &&& (3 : Int32))), .unset, .unset, .unset] [(.long (q0 &&& (15 : Int64))), (.long (128 : Int64)), (.long (-9223372036854775808 : Int64))])) _
        refine XS.ladd X0.here hx rfl (hb hby at_49) rfl ?_
        show Steps p.tables e below (T0.setTop (mkF m 50 #[.val (.long q0), .second, .val (.int p1), .val (.int (p1 &&& (3 : Int32))), .unset, .unset, .unset] [(.long ((128 : Int64) + (q0 &&& (15 : Int64)))), (.long (-9223372036854775808 : Int64))])) _
        refine XS.lor X0.here hx rfl (hb hby at_50) rfl ?_
        show Steps p.tables e below (T0.setTop (mkF m 51 #[.val (.long q0), .second, .val (.int p1), .val (.int (p1 &&& (3 : Int32))), .unset, .unset, .unset] [(.long ((-9223372036854775808 : Int64) ||| ((128 : Int64) + (q0 &&& (15 : Int64)))))])) _
        refine XS.lstore X0.here hx rfl (hb hby at_51) rfl (l' := #[.val (.long q0), .second, .val (.int p1), .val (.int (p1 &&& (3 : Int32))), .val (.long ((-9223372036854775808 : Int64) ||| ((128 : Int64) + (q0 &&& (15 : Int64))))), .second, .unset]) rfl ?_
        show Steps p.tables e below (T0.setTop (mkF m 53 #[.val (.long q0), .second, .val (.int p1), .val (.int (p1 &&& (3 : Int32))), .val (.long ((-9223372036854775808 : Int64) ||| ((128 : Int64) + (q0 &&& (15 : Int64))))), .second, .unset] [])) _
        refine XS.goto X0.here hx rfl (pc0 := 53) (pc' := 67) rfl (hb hby at_53) (by decide) (by decide) ?_
        show Steps p.tables e below (T0.setTop (mkF m 67 #[.val (.long q0), .second, .val (.int p1), .val (.int (p1 &&& (3 : Int32))), .val (.long ((-9223372036854775808 : Int64) ||| ((128 : Int64) + (q0 &&& (15 : Int64))))), .second, .unset] [])) _
        have et : own_t q0 p1 = ((-9223372036854775808 : Int64) ||| ((128 : Int64) + (q0 &&& (15 : Int64)))) := by rw [own_t, if_neg hc5, if_neg hc16, if_pos hc35]
        rw [et] at kt
        exact kt
      · show Steps p.tables e below (T0.setTop (mkF m 0 #[.val (.long q0), .second, .val (.int p1), .unset, .unset, .unset, .unset] [])) _
        refine XS.iloadN X0.here hx rfl (hb hby at_0) rfl ?_
        show Steps p.tables e below (T0.setTop (mkF m 1 #[.val (.long q0), .second, .val (.int p1), .unset, .unset, .unset, .unset] [(.int p1)])) _
        refine XS.iconst X0.here hx rfl (hb hby at_1) ?_
        show Steps p.tables e below (T0.setTop (mkF m 2 #[.val (.long q0), .second, .val (.int p1), .unset, .unset, .unset, .unset] [(.int (3 : Int32)), (.int p1)])) _
        refine XS.iand X0.here hx rfl (hb hby at_2) rfl ?_
        show Steps p.tables e below (T0.setTop (mkF m 3 #[.val (.long q0), .second, .val (.int p1), .unset, .unset, .unset, .unset] [(.int (p1 &&& (3 : Int32)))])) _
        refine XS.istoreN X0.here hx rfl (hb hby at_3) rfl (l' := #[.val (.long q0), .second, .val (.int p1), .val (.int (p1 &&& (3 : Int32))), .unset, .unset, .unset]) rfl ?_
        show Steps p.tables e below (T0.setTop (mkF m 4 #[.val (.long q0), .second, .val (.int p1), .val (.int (p1 &&& (3 : Int32))), .unset, .unset, .unset] [])) _
        refine XS.iloadN X0.here hx rfl (hb hby at_4) rfl ?_
        show Steps p.tables e below (T0.setTop (mkF m 5 #[.val (.long q0), .second, .val (.int p1), .val (.int (p1 &&& (3 : Int32))), .unset, .unset, .unset] [(.int (p1 &&& (3 : Int32)))])) _
        refine XS.ifYes X0.here hx rfl (pc0 := 5) (pc' := 14) rfl (hb hby at_5) rfl ((if0 _ _).trans (feq hc5).2) (by decide) (by decide) ?_
        show Steps p.tables e below (T0.setTop (mkF m 14 #[.val (.long q0), .second, .val (.int p1), .val (.int (p1 &&& (3 : Int32))), .unset, .unset, .unset] [])) _
        refine XS.iloadN X0.here hx rfl (hb hby at_14) rfl ?_
        show Steps p.tables e below (T0.setTop (mkF m 15 #[.val (.long q0), .second, .val (.int p1), .val (.int (p1 &&& (3 : Int32))), .unset, .unset, .unset] [(.int (p1 &&& (3 : Int32)))])) _
        refine XS.iconst X0.here hx rfl (hb hby at_15) ?_
        show Steps p.tables e below (T0.setTop (mkF m 16 #[.val (.long q0), .second, .val (.int p1), .val (.int (p1 &&& (3 : Int32))), .unset, .unset, .unset] [(.int (1 : Int32)), (.int (p1 &&& (3 : Int32)))])) _
        refine XS.icmpYes X0.here hx rfl (pc0 := 16) (pc' := 33) rfl (hb hby at_16) rfl (feq hc16).2 (by decide) (by decide) ?_
        show Steps p.tables e below (T0.setTop (mkF m 33 #[.val (.long q0), .second, .val (.int p1), .val (.int (p1 &&& (3 : Int32))), .unset, .unset, .unset] [])) _
        refine XS.iloadN X0.here hx rfl (hb hby at_33) rfl ?_
        show Steps p.tables e below (T0.setTop (mkF m 34 #[.val (.long q0), .second, .val (.int p1), .val (.int (p1 &&& (3 : Int32))), .unset, .unset, .unset] [(.int (p1 &&& (3 : Int32)))])) _
        refine XS.iconst X0.here hx rfl (hb hby at_34) ?_
        show Steps p.tables e below (T0.setTop (mkF m 35 #[.val (.long q0), .second, .val (.int p1), .val (.int (p1 &&& (3 : Int32))), .unset, .unset, .unset] [(.int (2 : Int32)), (.int (p1 &&& (3 : Int32)))])) _
        refine XS.icmpYes X0.here hx rfl (pc0 := 35) (pc' := 56) rfl (hb hby at_35) rfl (feq hc35).2 (by decide) (by decide) ?_
        show Steps p.tables e below (T0.setTop (mkF m 56 #[.val (.long q0), .second, .val (.int p1), .val (.int (p1 &&& (3 : Int32))), .unset, .unset, .unset] [])) _
        refine X0.ldc2Long hx hown (mvT hZ (hw _ (List.mem_of_getElem? (i := 1) rfl))) (g := (mkF m 56 #[.val (.long q0), .second, .val (.int p1), .val (.int (p1 &&& (3 : Int32))), .unset, .unset, .unset] [])) rfl (hb hby at_56) _ ?_
        show Steps p.tables e below (T0.setTop (mkF m 59 #[.val (.long q0), .second, .val (.int p1), .val (.int (p1 &&& (3 : Int32))), .unset, .unset, .unset] [(.long (128 : Int64))])) _
        refine XS.lloadN X0.here hx rfl (hb hby at_59) rfl ?_
        show Steps p.tables e below (T0.setTop (mkF m 60 #[.val (.long q0), .second, .val (.int p1), .val (.int (p1 &&& (3 : Int32))), .unset, .unset, .unset] [(.long q0), (.long (128 : Int64))])) _
        refine X0.ldc2Long hx hown (mvT hZ (hw _ (List.mem_of_getElem? (i := 2) rfl))) (g := (mkF m 60 #[.val (.long q0), .second, .val (.int p1), .val (.int (p1 &&& (3 : Int32))), .unset, .unset, .unset] [(.long q0), (.long (128 : Int64))])) rfl (hb hby at_60) _ ?_
        show Steps p.tables e below (T0.setTop (mkF m 63 #[.val (.long q0), .second, .val (.int p1), .val (.int (p1 &&& (3 : Int32))), .unset, .unset, .unset] [(.long (15 : Int64)), (.long q0), (.long (128 : Int64))])) _
        refine XS.land X0.here hx rfl (hb hby at_63) rfl ?_
        show Steps p.tables e below (T0.setTop (mkF m 64 #[.val (.long q0), .second, .val (.int p1), .val (.int (p1 &&& (3 : Int32))), .unset, .unset, .unset] [(.long (q0 &&& (15 : Int64))), (.long (128 : Int64))])) _
        refine XS.ladd X0.here hx rfl (hb hby at_64) rfl ?_
        show Steps p.tables e below (T0.setTop (mkF m 65 #[.val (.long q0), .second, .val (.int p1), .val (.int (p1 &&& (3 : Int32))), .unset, .unset, .unset] [(.long ((128 : Int64) + (q0 &&& (15 : Int64))))])) _
        refine XS.lstore X0.here hx rfl (hb hby at_65) rfl (l' := #[.val (.long q0), .second, .val (.int p1), .val (.int (p1 &&& (3 : Int32))), .val (.long ((128 : Int64) + (q0 &&& (15 : Int64)))), .second, .unset]) rfl ?_
        show Steps p.tables e below (T0.setTop (mkF m 67 #[.val (.long q0), .second, .val (.int p1), .val (.int (p1 &&& (3 : Int32))), .val (.long ((128 : Int64) + (q0 &&& (15 : Int64)))), .second, .unset] [])) _
        have et : own_t q0 p1 = ((128 : Int64) + (q0 &&& (15 : Int64))) := by rw [own_t, if_neg hc5, if_neg hc16, if_neg hc35]
        rw [et] at kt
        exact kt
theorem ef_0 (m : MethodId) (x0 : Int64) (x1 : Int32) : entryFrame m #[(.long x0), (.int x1)] maxLocals = mkF m 0 #[.val (.long x0), .second, .val (.int x1), .unset, .unset, .unset, .unset] [] := by first | (simp [entryFrame, mkF, argsToLocals, Value.category, maxLocals]; done) | rfl
theorem pn_com_example_tagstream_tagstream_packed_PackedSyntaxIsArgumentReferencePinLaw : plainName "com/example/tagstream/tagstream/packed/PackedSyntaxIsArgumentReferencePinLaw" = true := by first | (simp [plainName, overriddenIn]; done) | decide +kernel
theorem pd_28J29Z : parseMethodDescriptor "(J)Z" = some ⟨[.long], some .boolean⟩ := by decide +kernel
def Q0 (Z : State) (q0 : Int64) (p1 : Int32) (h0 : Heap) (n0 : Nat) (v : Option Value) (h : Heap) (L : List Loc) : Prop := v = some (.int 1) ∧ Fr n0 L
set_option maxRecDepth 65536 in
set_option maxHeartbeats 40000000 in
theorem rm0 (l : Launch) (Z : State) (a0 : Array Value) (hw : ∀ d ∈ tables_1, d.before a0 Z = true) (ws : List Jvm.Cond) (q0 : Int64) (p1 : Int32) (h0 : Heap) (n0 : Nat) (Z0 : n0 ≤ h0.size)  :
    MetFree l x (head1 (Jvm.Cond.code x code maxLocals ret :: ws) room_1) (fun a U => a = #[(.long q0), (.int p1)] ∧ Z.Warmed39 U.vm ∧ U.heap = h0) (fun _ _ _ _ _ => True) (fun _ U o U' => ∃ v L, o = .returned v ∧ Q0 Z q0 p1 h0 n0 v U'.heap L ∧ FrameEnd U o U' L room_1.cells room_1.slots) := by
  refine MetFree.of_bodySF (plainFor_of_name pn_com_example_tagstream_tagstream_packed_PackedSyntaxIsArgumentReferencePinLaw) hisR ?_
  intro p e s m args below meth c s₁ Bd hml0 hP hK
  obtain ⟨rfl, hZ, hh⟩ := hP
  have hx := Bd.exec
  have hby := Bd.bytes
  have hml : c.maxLocals = 7 := hml0
  have hown : s.vm.findClass "com/example/tagstream/tagstream/packed/PackedSyntaxIsArgumentReferencePinLaw" = some m.cls := findClass_of_methodNamed Bd.named
  have hnm := (name_of_methodNamed Bd.named Bd.method).1
  have X0 : Stand p l e room_1 s m #[(.long q0), (.int p1)] below meth c s₁ [] 0 0 := Stand.of_body Bd
  have e0 : s₁.heap = h0 := by rw [← hh, Bd.state]; rfl
  have N0 := Fr.nil n0
  have pre0 : ∀ t, Steps p.tables e below (s₁.setTop (mkF m 0 #[.val (.long q0), .second, .val (.int p1), .unset, .unset, .unset, .unset] [])) t → Steps p.tables e below (s₁.setTop (entryFrame m #[(.long q0), (.int p1)] maxLocals)) t := fun t k => castTop (ef_0 m q0 p1) k
  have st0 := pc_67 q0 p1 X0 hx hZ hw hby hown
  by_cases hc77 : ((own_t q0 p1) &&& (-16 : Int64)) = (128 : Int64)
  · obtain ⟨_, _, ⟨T1, L1, k1, n1⟩, -, X1, ⟨Lc1, hQ1, l1, y1, z1⟩, st1⟩ := Jvm.LawKit.callS X0 hx (y := (⟨"com/example/tagstream/tagstream/packed/PackedSyntax", "isArgumentReference", "(J)Z"⟩ : MethodName)) hown (mvT hZ (hw _ (List.mem_of_getElem? (i := 4) rfl))) (mvT hZ (hw _ (List.mem_of_getElem? (i := 5) rfl))) (mvT hZ (hw _ (List.mem_of_getElem? (i := 6) rfl))) (mvT hZ (hw _ (List.mem_of_getElem? (i := 7) rfl))) (by decide) (backOf (W := 0) (rm1 l Z a0 hw [] (own_t q0 p1) h0 n0 Z0) hZ (hw _ (List.mem_of_getElem? (i := 7) rfl)) (hw _ (List.mem_of_getElem? (i := 6) rfl)) (by decide) (by decide)) (g := (mkF m 89 #[.val (.long q0), .second, .val (.int p1), .val (.int (p1 &&& (3 : Int32))), .val (.long (own_t q0 p1)), .second, .val (.int (1 : Int32))] [(.long (own_t q0 p1))])) rfl (by rw [hml]; rfl) (argsL := [(.long (own_t q0 p1))]) (rest := []) (lenOf pd_28J29Z rfl) rfl (by show 2 * 0 + _ ≤ _; exact Nat.le_of_eq rfl) (hb hby at_89) (fun _ _ => ⟨rfl, e0, (by decide : 0 + 0 ≤ _), (by decide : 0 + 0 ≤ _)⟩)
    dsimp only [Pt.U, Pt.locs, Pt.cells, Pt.slots] at X1 l1 y1 z1 st1 hQ1
    subst l1 y1 z1
    obtain ⟨rfl, N1q, e1⟩ := hQ1
    have N1 := Fr.app N0 N1q
    obtain ⟨fs, hr, hrun, hended, hW, hsame⟩ := X1.leave (v := some (.int (1 : Int32))) (fun h => by rw [Bd.returns] at h; cases h)
    refine ⟨_, _, pre0 _ ?_, hrun, hended, _, _, rfl, ?_, ⟨_, rfl⟩, hW, hsame.mono (by decide) (by decide)⟩
    · show Steps p.tables e below (s₁.setTop (mkF m 0 #[.val (.long q0), .second, .val (.int p1), .unset, .unset, .unset, .unset] [])) _
      refine st0 _ ?_
      show Steps p.tables e below (s₁.setTop (mkF m 67 #[.val (.long q0), .second, .val (.int p1), .val (.int (p1 &&& (3 : Int32))), .val (.long (own_t q0 p1)), .second, .unset] [])) _
      refine XS.lload X0.here hx rfl (hb hby at_67) rfl ?_
      show Steps p.tables e below (s₁.setTop (mkF m 69 #[.val (.long q0), .second, .val (.int p1), .val (.int (p1 &&& (3 : Int32))), .val (.long (own_t q0 p1)), .second, .unset] [(.long (own_t q0 p1))])) _
      refine X0.ldc2Long hx hown (mvT hZ (hw _ (List.mem_of_getElem? (i := 3) rfl))) (g := (mkF m 69 #[.val (.long q0), .second, .val (.int p1), .val (.int (p1 &&& (3 : Int32))), .val (.long (own_t q0 p1)), .second, .unset] [(.long (own_t q0 p1))])) rfl (hb hby at_69) _ ?_
      show Steps p.tables e below (s₁.setTop (mkF m 72 #[.val (.long q0), .second, .val (.int p1), .val (.int (p1 &&& (3 : Int32))), .val (.long (own_t q0 p1)), .second, .unset] [(.long (-16 : Int64)), (.long (own_t q0 p1))])) _
      refine XS.land X0.here hx rfl (hb hby at_72) rfl ?_
      show Steps p.tables e below (s₁.setTop (mkF m 73 #[.val (.long q0), .second, .val (.int p1), .val (.int (p1 &&& (3 : Int32))), .val (.long (own_t q0 p1)), .second, .unset] [(.long ((own_t q0 p1) &&& (-16 : Int64)))])) _
      refine X0.ldc2Long hx hown (mvT hZ (hw _ (List.mem_of_getElem? (i := 1) rfl))) (g := (mkF m 73 #[.val (.long q0), .second, .val (.int p1), .val (.int (p1 &&& (3 : Int32))), .val (.long (own_t q0 p1)), .second, .unset] [(.long ((own_t q0 p1) &&& (-16 : Int64)))])) rfl (hb hby at_73) _ ?_
      show Steps p.tables e below (s₁.setTop (mkF m 76 #[.val (.long q0), .second, .val (.int p1), .val (.int (p1 &&& (3 : Int32))), .val (.long (own_t q0 p1)), .second, .unset] [(.long (128 : Int64)), (.long ((own_t q0 p1) &&& (-16 : Int64)))])) _
      refine XS.lcmp X0.here hx rfl (hb hby at_76) rfl ?_
      show Steps p.tables e below (s₁.setTop (mkF m 77 #[.val (.long q0), .second, .val (.int p1), .val (.int (p1 &&& (3 : Int32))), .val (.long (own_t q0 p1)), .second, .unset] [(.int (lcmpW ((own_t q0 p1) &&& (-16 : Int64)) (128 : Int64)))])) _
      refine XS.ifNo X0.here hx rfl (hb hby at_77) rfl ((if0 _ _).trans (teq ((lw_eq _ _).mpr hc77)).2) ?_
      show Steps p.tables e below (s₁.setTop (mkF m 80 #[.val (.long q0), .second, .val (.int p1), .val (.int (p1 &&& (3 : Int32))), .val (.long (own_t q0 p1)), .second, .unset] [])) _
      refine XS.iconst X0.here hx rfl (hb hby at_80) ?_
      show Steps p.tables e below (s₁.setTop (mkF m 81 #[.val (.long q0), .second, .val (.int p1), .val (.int (p1 &&& (3 : Int32))), .val (.long (own_t q0 p1)), .second, .unset] [(.int (1 : Int32))])) _
      refine XS.goto X0.here hx rfl (pc0 := 81) (pc' := 85) rfl (hb hby at_81) (by decide) (by decide) ?_
      show Steps p.tables e below (s₁.setTop (mkF m 85 #[.val (.long q0), .second, .val (.int p1), .val (.int (p1 &&& (3 : Int32))), .val (.long (own_t q0 p1)), .second, .unset] [(.int (1 : Int32))])) _
      refine XS.istore X0.here hx rfl (hb hby at_85) rfl (l' := #[.val (.long q0), .second, .val (.int p1), .val (.int (p1 &&& (3 : Int32))), .val (.long (own_t q0 p1)), .second, .val (.int (1 : Int32))]) rfl ?_
      show Steps p.tables e below (s₁.setTop (mkF m 87 #[.val (.long q0), .second, .val (.int p1), .val (.int (p1 &&& (3 : Int32))), .val (.long (own_t q0 p1)), .second, .val (.int (1 : Int32))] [])) _
      refine XS.lload X0.here hx rfl (hb hby at_87) rfl ?_
      show Steps p.tables e below (s₁.setTop (mkF m 89 #[.val (.long q0), .second, .val (.int p1), .val (.int (p1 &&& (3 : Int32))), .val (.long (own_t q0 p1)), .second, .val (.int (1 : Int32))] [(.long (own_t q0 p1))])) _
      refine st1 _ ?_
      show Steps p.tables e below (T1.setTop (mkF m 92 #[.val (.long q0), .second, .val (.int p1), .val (.int (p1 &&& (3 : Int32))), .val (.long (own_t q0 p1)), .second, .val (.int (1 : Int32))] [(.int (own_is (own_t q0 p1)))])) _
      refine XS.iload X1.here hx rfl (hb hby at_92) rfl ?_
      show Steps p.tables e below (T1.setTop (mkF m 94 #[.val (.long q0), .second, .val (.int p1), .val (.int (p1 &&& (3 : Int32))), .val (.long (own_t q0 p1)), .second, .val (.int (1 : Int32))] [(.int (1 : Int32)), (.int (own_is (own_t q0 p1)))])) _
      refine XS.icmpNo X1.here hx rfl (hb hby at_94) rfl (teq (own_y hc77)).2 ?_
      show Steps p.tables e below (T1.setTop (mkF m 97 #[.val (.long q0), .second, .val (.int p1), .val (.int (p1 &&& (3 : Int32))), .val (.long (own_t q0 p1)), .second, .val (.int (1 : Int32))] [])) _
      refine XS.iconst X1.here hx rfl (hb hby at_97) ?_
      show Steps p.tables e below (T1.setTop (mkF m 98 #[.val (.long q0), .second, .val (.int p1), .val (.int (p1 &&& (3 : Int32))), .val (.long (own_t q0 p1)), .second, .val (.int (1 : Int32))] [(.int (1 : Int32))])) _
      refine XS.goto X1.here hx rfl (pc0 := 98) (pc' := 102) rfl (hb hby at_98) (by decide) (by decide) ?_
      show Steps p.tables e below (T1.setTop (mkF m 102 #[.val (.long q0), .second, .val (.int p1), .val (.int (p1 &&& (3 : Int32))), .val (.long (own_t q0 p1)), .second, .val (.int (1 : Int32))] [(.int (1 : Int32))])) _
      exact retN X1 hx (t := .boolean) Bd.returns (by simp) (hb hby at_102) hr
    · show Q0 Z q0 p1 h0 n0 _ T1.heap _
      rw [e1]
      exact ⟨rfl, N1⟩
  · obtain ⟨_, _, ⟨T2, L2, k2, n2⟩, -, X2, ⟨Lc2, hQ2, l2, y2, z2⟩, st2⟩ := Jvm.LawKit.callS X0 hx (y := (⟨"com/example/tagstream/tagstream/packed/PackedSyntax", "isArgumentReference", "(J)Z"⟩ : MethodName)) hown (mvT hZ (hw _ (List.mem_of_getElem? (i := 4) rfl))) (mvT hZ (hw _ (List.mem_of_getElem? (i := 5) rfl))) (mvT hZ (hw _ (List.mem_of_getElem? (i := 6) rfl))) (mvT hZ (hw _ (List.mem_of_getElem? (i := 7) rfl))) (by decide) (backOf (W := 0) (rm1 l Z a0 hw [] (own_t q0 p1) h0 n0 Z0) hZ (hw _ (List.mem_of_getElem? (i := 7) rfl)) (hw _ (List.mem_of_getElem? (i := 6) rfl)) (by decide) (by decide)) (g := (mkF m 89 #[.val (.long q0), .second, .val (.int p1), .val (.int (p1 &&& (3 : Int32))), .val (.long (own_t q0 p1)), .second, .val (.int (0 : Int32))] [(.long (own_t q0 p1))])) rfl (by rw [hml]; rfl) (argsL := [(.long (own_t q0 p1))]) (rest := []) (lenOf pd_28J29Z rfl) rfl (by show 2 * 0 + _ ≤ _; exact Nat.le_of_eq rfl) (hb hby at_89) (fun _ _ => ⟨rfl, e0, (by decide : 0 + 0 ≤ _), (by decide : 0 + 0 ≤ _)⟩)
    dsimp only [Pt.U, Pt.locs, Pt.cells, Pt.slots] at X2 l2 y2 z2 st2 hQ2
    subst l2 y2 z2
    obtain ⟨rfl, N2q, e2⟩ := hQ2
    have N2 := Fr.app N0 N2q
    obtain ⟨fs, hr, hrun, hended, hW, hsame⟩ := X2.leave (v := some (.int (1 : Int32))) (fun h => by rw [Bd.returns] at h; cases h)
    refine ⟨_, _, pre0 _ ?_, hrun, hended, _, _, rfl, ?_, ⟨_, rfl⟩, hW, hsame.mono (by decide) (by decide)⟩
    · show Steps p.tables e below (s₁.setTop (mkF m 0 #[.val (.long q0), .second, .val (.int p1), .unset, .unset, .unset, .unset] [])) _
      refine st0 _ ?_
      show Steps p.tables e below (s₁.setTop (mkF m 67 #[.val (.long q0), .second, .val (.int p1), .val (.int (p1 &&& (3 : Int32))), .val (.long (own_t q0 p1)), .second, .unset] [])) _
      refine XS.lload X0.here hx rfl (hb hby at_67) rfl ?_
      show Steps p.tables e below (s₁.setTop (mkF m 69 #[.val (.long q0), .second, .val (.int p1), .val (.int (p1 &&& (3 : Int32))), .val (.long (own_t q0 p1)), .second, .unset] [(.long (own_t q0 p1))])) _
      refine X0.ldc2Long hx hown (mvT hZ (hw _ (List.mem_of_getElem? (i := 3) rfl))) (g := (mkF m 69 #[.val (.long q0), .second, .val (.int p1), .val (.int (p1 &&& (3 : Int32))), .val (.long (own_t q0 p1)), .second, .unset] [(.long (own_t q0 p1))])) rfl (hb hby at_69) _ ?_
      show Steps p.tables e below (s₁.setTop (mkF m 72 #[.val (.long q0), .second, .val (.int p1), .val (.int (p1 &&& (3 : Int32))), .val (.long (own_t q0 p1)), .second, .unset] [(.long (-16 : Int64)), (.long (own_t q0 p1))])) _
      refine XS.land X0.here hx rfl (hb hby at_72) rfl ?_
      show Steps p.tables e below (s₁.setTop (mkF m 73 #[.val (.long q0), .second, .val (.int p1), .val (.int (p1 &&& (3 : Int32))), .val (.long (own_t q0 p1)), .second, .unset] [(.long ((own_t q0 p1) &&& (-16 : Int64)))])) _
      refine X0.ldc2Long hx hown (mvT hZ (hw _ (List.mem_of_getElem? (i := 1) rfl))) (g := (mkF m 73 #[.val (.long q0), .second, .val (.int p1), .val (.int (p1 &&& (3 : Int32))), .val (.long (own_t q0 p1)), .second, .unset] [(.long ((own_t q0 p1) &&& (-16 : Int64)))])) rfl (hb hby at_73) _ ?_
      show Steps p.tables e below (s₁.setTop (mkF m 76 #[.val (.long q0), .second, .val (.int p1), .val (.int (p1 &&& (3 : Int32))), .val (.long (own_t q0 p1)), .second, .unset] [(.long (128 : Int64)), (.long ((own_t q0 p1) &&& (-16 : Int64)))])) _
      refine XS.lcmp X0.here hx rfl (hb hby at_76) rfl ?_
      show Steps p.tables e below (s₁.setTop (mkF m 77 #[.val (.long q0), .second, .val (.int p1), .val (.int (p1 &&& (3 : Int32))), .val (.long (own_t q0 p1)), .second, .unset] [(.int (lcmpW ((own_t q0 p1) &&& (-16 : Int64)) (128 : Int64)))])) _
      refine XS.ifYes X0.here hx rfl (pc0 := 77) (pc' := 84) rfl (hb hby at_77) rfl ((if0 _ _).trans (feq (fun q => hc77 ((lw_eq _ _).mp q))).2) (by decide) (by decide) ?_
      show Steps p.tables e below (s₁.setTop (mkF m 84 #[.val (.long q0), .second, .val (.int p1), .val (.int (p1 &&& (3 : Int32))), .val (.long (own_t q0 p1)), .second, .unset] [])) _
      refine XS.iconst X0.here hx rfl (hb hby at_84) ?_
      show Steps p.tables e below (s₁.setTop (mkF m 85 #[.val (.long q0), .second, .val (.int p1), .val (.int (p1 &&& (3 : Int32))), .val (.long (own_t q0 p1)), .second, .unset] [(.int (0 : Int32))])) _
      refine XS.istore X0.here hx rfl (hb hby at_85) rfl (l' := #[.val (.long q0), .second, .val (.int p1), .val (.int (p1 &&& (3 : Int32))), .val (.long (own_t q0 p1)), .second, .val (.int (0 : Int32))]) rfl ?_
      show Steps p.tables e below (s₁.setTop (mkF m 87 #[.val (.long q0), .second, .val (.int p1), .val (.int (p1 &&& (3 : Int32))), .val (.long (own_t q0 p1)), .second, .val (.int (0 : Int32))] [])) _
      refine XS.lload X0.here hx rfl (hb hby at_87) rfl ?_
      show Steps p.tables e below (s₁.setTop (mkF m 89 #[.val (.long q0), .second, .val (.int p1), .val (.int (p1 &&& (3 : Int32))), .val (.long (own_t q0 p1)), .second, .val (.int (0 : Int32))] [(.long (own_t q0 p1))])) _
      refine st2 _ ?_
      show Steps p.tables e below (T2.setTop (mkF m 92 #[.val (.long q0), .second, .val (.int p1), .val (.int (p1 &&& (3 : Int32))), .val (.long (own_t q0 p1)), .second, .val (.int (0 : Int32))] [(.int (own_is (own_t q0 p1)))])) _
      refine XS.iload X2.here hx rfl (hb hby at_92) rfl ?_
      show Steps p.tables e below (T2.setTop (mkF m 94 #[.val (.long q0), .second, .val (.int p1), .val (.int (p1 &&& (3 : Int32))), .val (.long (own_t q0 p1)), .second, .val (.int (0 : Int32))] [(.int (0 : Int32)), (.int (own_is (own_t q0 p1)))])) _
      refine XS.icmpNo X2.here hx rfl (hb hby at_94) rfl (teq (own_n hc77)).2 ?_
      show Steps p.tables e below (T2.setTop (mkF m 97 #[.val (.long q0), .second, .val (.int p1), .val (.int (p1 &&& (3 : Int32))), .val (.long (own_t q0 p1)), .second, .val (.int (0 : Int32))] [])) _
      refine XS.iconst X2.here hx rfl (hb hby at_97) ?_
      show Steps p.tables e below (T2.setTop (mkF m 98 #[.val (.long q0), .second, .val (.int p1), .val (.int (p1 &&& (3 : Int32))), .val (.long (own_t q0 p1)), .second, .val (.int (0 : Int32))] [(.int (1 : Int32))])) _
      refine XS.goto X2.here hx rfl (pc0 := 98) (pc' := 102) rfl (hb hby at_98) (by decide) (by decide) ?_
      show Steps p.tables e below (T2.setTop (mkF m 102 #[.val (.long q0), .second, .val (.int p1), .val (.int (p1 &&& (3 : Int32))), .val (.long (own_t q0 p1)), .second, .val (.int (0 : Int32))] [(.int (1 : Int32))])) _
      exact retN X2 hx (t := .boolean) Bd.returns (by simp) (hb hby at_102) hr
    · show Q0 Z q0 p1 h0 n0 _ T2.heap _
      rw [e2]
      exact ⟨rfl, N2⟩
set_option maxRecDepth 65536 in
set_option maxHeartbeats 40000000 in
theorem comes_1 {Post : Tables → Env → Array Value → State → Outcome → State → Prop} (hpost : ∀ tb e args s v u, (limb_1_1.after args s (.returned v) u = true ∧ limb_1_2.after args s (.returned v) u = true ∧ True) → FrameEnd s (.returned v) u (Jvm.fieldLocs frame_1_writes args s ++ Jvm.arrayLocs frame_1_arrays args s ++ Jvm.staticLocs frame_1_statics s) 0 0 → Post tb e args s (.returned v) u) :
    ArmFor flags0 classFile x code maxLocals ret World_1 tables_1 room_1 Calls_1 rest_1 Pre_1 Post := by
  intro l hfl _ _ p e ha hc hk s m args below hf hA hF happ hP
  obtain ⟨hcalls, hrest, hpre⟩ := hP
  obtain ⟨-, -, -, hnamed, -, -, -, hat⟩ := (Spec.applies_iff hf).mp happ
  obtain ⟨hg, hn⟩ := and_e (Cond.before_iff.mp (show (Jvm.Cond.and given_1 narrow_1).before args s = true from hpre))
  obtain ⟨gc, g0⟩ := and_e hg
  obtain ⟨ga0, g1⟩ := and_e g0
  obtain ⟨w0, w1, rfl⟩ : ∃ w0 w1 : Value, args = #[w0, w1] := by
    have hs : args.size = 2 := by simpa [Cond.value, given_1] using gc
    obtain ⟨L⟩ := args
    match L, hs with
    | [w0, w1], _ => exact ⟨w0, w1, rfl⟩
  have hw := fun d (hd : d ∈ tables_1) => atoms_spec (ws := Jvm.Cond.code x code maxLocals ret :: tables_1) hat d (List.mem_cons_of_mem _ hd)
  obtain ⟨i0, ei0⟩ := isL_v ga0
  obtain rfl : w0 = (.long i0) := Option.some.inj ei0
  obtain ⟨i1, ei1⟩ := is_v g1
  obtain rfl : w1 = (.int i1) := Option.some.inj ei1
  obtain ⟨n, o, h1, h2, h3, _, L, rfl, ⟨rfl, N⟩, hq⟩ := rm0 l s _ hw tables_1 i0 i1  s.heap s.heap.size (Nat.le_refl _)  p e ha hc hk s m _ below hf ((Spec.applies_iff_loose hf).mp happ).1 ⟨rfl, State.Warmed39.refl s, rfl⟩ trivial
  refine ⟨n, _, h1, h2, h3, hpost _ _ _ _ _ _ ⟨Cond.after_iff.mpr rfl, Cond.after_iff.mpr (eq_i res_at (Term.int_eval (1)) rfl), trivial⟩ ⟨hq.1, hq.2.1, (hq.2.2.sift fun y hy => Or.inr (N y hy)).mono (by decide) (by decide)⟩⟩
theorem main_1_1 : Claimed_1_1 := comes_1 fun _ _ _ _ _ _ h hF => ⟨h.1, hF⟩
theorem main_1_2 : Claimed_1_2 := comes_1 fun _ _ _ _ _ _ h hF => ⟨h.2.1, hF⟩
end Jvm.Pilot.@@N@@
namespace Jvm.Pilot.@@N@@
open Jvm Jvm.ClassFile Sem Op Lib Jvm.Free Jvm.Stand Jvm.Pilot.@@N@@.Jvm.D
/-! MADE BY PROGRAM (witnessworld.py) out of the Statement's table words and the real class files: 9 classes; the members and pool entries that the words name. The judged class is class 1, her method 1. -/
namespace start1
open Jvm.ClassFile
def u (s : String) : CpInfo := .utf8 (stringToUtf16 s)
/-- a pool by its gaps: so many unusable entries, then the entry; so many at the end -/
def gap : Nat → List CpInfo → List CpInfo
  | 0, r => r
  | n + 1, r => .unusable :: gap n r
def poolList (es : List (Nat × CpInfo)) (last : Nat) : List CpInfo := es.foldr (fun e r => gap e.1 (e.2 :: r)) (gap last [])
def pool (es : List (Nat × CpInfo)) (last : Nat) : Array CpInfo := ⟨poolList es last⟩
def fileOf (pool : Array CpInfo) (this : Nat) (attrs : Array Attribute := #[]) (ms : Array MethodInfo := #[]) (fl : Nat := 33) (sup : Nat := 0) (ifs : Array Nat := #[]) (fds : Array FieldInfo := #[]) : ClassFile where
  minorVersion := 0
  majorVersion := 65
  constantPool := pool
  accessFlags := fl
  thisClass := this
  superClass := sup
  interfaces := ifs
  fields := fds
  methods := ms
  attributes := attrs
def plain (name : String) (sup : Option ClassId) : Class where
  name := name
  kind := .ordinary
  loader := none
  accessFlags := 33
  super := sup
  interfaces := #[]
  cf := none
  fields := #[]
  methods := #[]
  instanceTypes := #[]
  staticTypes := #[]
  resolved := #[]
  callSites := []
  init := .initialized
  statics := none
  mirror := none

def pool0 : Array CpInfo := pool [(5, u "<init>"), (0, u "()V"), (1, .class_ 10), (1, u "java/lang/Object")] 113

def k0m0 : Method := { name := "<init>", desc := "()V", sig := { parameters := [], returnType := none }, accessFlags := 1, code := none }
/-- java/lang/Object -/
def k0 : Class := { plain "java/lang/Object" none with
  accessFlags := 33
  interfaces := #[]
  cf := some (fileOf pool0 8 #[] #[{ accessFlags := 1, nameIndex := 5, descriptorIndex := 6, attributes := #[] }] 33 0 #[] #[])
  fields := #[]
  methods := #[k0m0]
  instanceTypes := #[]
  staticTypes := #[]
  resolved := Array.replicate 124 none
  statics := none }

def pool1 : Array CpInfo := pool [(2, .class_ 4), (1, u "java/lang/Object"), (0, u "<init>"), (0, u "()V"), (0, .long 112), (1, .long 63), (3, .long 9223372036854775808), (1, .long 128), (1, .long 15), (1, .long 18446744073709551600), (1, .methodref 22 23), (0, .class_ 24), (0, .nameAndType 25 26), (0, u "com/example/tagstream/tagstream/packed/PackedSyntax"), (0, u "isArgumentReference"), (0, u "(J)Z"), (0, .class_ 28), (0, u "com/example/tagstream/tagstream/packed/PackedSyntaxIsArgumentReferencePinLaw"), (2, u "law"), (0, u "(JI)Z")] 3

def k1m0 : Method := { name := "<init>", desc := "()V", sig := { parameters := [], returnType := none }, accessFlags := 2, code := none }
def k1c1 : Code := { maxStack := 8, maxLocals := 7, code := code, exceptionTable := #[], attributes := #[] }
def k1m1 : Method := { name := "law", desc := "(JI)Z", sig := { parameters := [.long, .int], returnType := some .boolean }, accessFlags := 9, code := some k1c1 }
/-- com/example/tagstream/tagstream/packed/PackedSyntaxIsArgumentReferencePinLaw -/
def k1 : Class := { plain "com/example/tagstream/tagstream/packed/PackedSyntaxIsArgumentReferencePinLaw" (some 0) with
  accessFlags := 49
  interfaces := #[]
  cf := some (fileOf pool1 27 #[] #[{ accessFlags := 2, nameIndex := 5, descriptorIndex := 6, attributes := #[] }, { accessFlags := 9, nameIndex := 31, descriptorIndex := 32, attributes := #[] }] 49 2 #[] #[])
  fields := #[]
  methods := #[k1m0, k1m1]
  instanceTypes := #[]
  staticTypes := #[]
  resolved := Array.replicate 36 none
  statics := none }

def pool2 : Array CpInfo := pool [(2, .class_ 4), (1, u "java/lang/Object"), (0, u "<init>"), (0, u "()V"), (0, .class_ 8), (0, u "com/example/tagstream/tagstream/packed/PackedSyntax"), (0, .long 128), (1, .long 143), (13, u "FIRST_TAG_INDEX"), (0, u "Ljava/math/BigInteger;"), (45, u "isArgumentReference"), (0, u "(J)Z"), (12, u "TABLE_SETUP"), (0, u "J"), (1, u "REFERENCE"), (0, u "SIMPLE_REFERENCES"), (0, u "I"), (1, u "SPLIT_TABLE_SETUP"), (0, u "FIRST_ARGUMENT_TAG"), (0, u "LAST_ARGUMENT_TAG")] 13

def k2m0 : Method := { name := "<init>", desc := "()V", sig := { parameters := [], returnType := none }, accessFlags := 2, code := none }
def k2c1 : Code := { maxStack := 4, maxLocals := 2, code := prog_56_method_2_code, exceptionTable := #[], attributes := #[] }
def k2m1 : Method := { name := "isArgumentReference", desc := "(J)Z", sig := { parameters := [.long], returnType := some .boolean }, accessFlags := 8, code := some k2c1 }
/-- com/example/tagstream/tagstream/packed/PackedSyntax -/
def k2 : Class := { plain "com/example/tagstream/tagstream/packed/PackedSyntax" (some 0) with
  accessFlags := 48
  interfaces := #[]
  cf := some (fileOf pool2 7 #[] #[{ accessFlags := 2, nameIndex := 5, descriptorIndex := 6, attributes := #[] }, { accessFlags := 8, nameIndex := 72, descriptorIndex := 73, attributes := #[] }] 48 2 #[] #[{ accessFlags := 24, nameIndex := 86, descriptorIndex := 87, attributes := #[] }, { accessFlags := 24, nameIndex := 89, descriptorIndex := 87, attributes := #[] }, { accessFlags := 24, nameIndex := 90, descriptorIndex := 91, attributes := #[] }, { accessFlags := 24, nameIndex := 93, descriptorIndex := 87, attributes := #[] }, { accessFlags := 26, nameIndex := 94, descriptorIndex := 87, attributes := #[] }, { accessFlags := 26, nameIndex := 95, descriptorIndex := 87, attributes := #[] }, { accessFlags := 26, nameIndex := 25, descriptorIndex := 26, attributes := #[] }])
  fields := #[{ name := "TABLE_SETUP", type := .long, accessFlags := 24, slot := 0, constantValue := 0 }, { name := "REFERENCE", type := .long, accessFlags := 24, slot := 1, constantValue := 0 }, { name := "SIMPLE_REFERENCES", type := .int, accessFlags := 24, slot := 2, constantValue := 0 }, { name := "SPLIT_TABLE_SETUP", type := .long, accessFlags := 24, slot := 3, constantValue := 0 }, { name := "FIRST_ARGUMENT_TAG", type := .long, accessFlags := 26, slot := 4, constantValue := 0 }, { name := "LAST_ARGUMENT_TAG", type := .long, accessFlags := 26, slot := 5, constantValue := 0 }, { name := "FIRST_TAG_INDEX", type := (.object "java/math/BigInteger"), accessFlags := 26, slot := 6, constantValue := 0 }]
  methods := #[k2m0, k2m1]
  instanceTypes := #[]
  staticTypes := #[.long, .long, .int, .long, .long, .long, (.object "java/math/BigInteger")]
  resolved := Array.replicate 109 none
  statics := none }

def pool3 : Array CpInfo := pool [(1, u "java/lang/Cloneable"), (0, .class_ 1), (0, u "java/lang/Object"), (0, .class_ 3)] 3

/-- java/lang/Cloneable -/
def k3 : Class := { plain "java/lang/Cloneable" (some 0) with
  accessFlags := 1537
  interfaces := #[]
  cf := some (fileOf pool3 2 #[] #[] 1537 4 #[] #[])
  fields := #[]
  methods := #[]
  instanceTypes := #[]
  staticTypes := #[]
  resolved := Array.replicate 8 none
  statics := none }

def pool4 : Array CpInfo := pool [(1, u "java/io/Serializable"), (0, .class_ 1), (0, u "java/lang/Object"), (0, .class_ 3)] 3

/-- java/io/Serializable -/
def k4 : Class := { plain "java/io/Serializable" (some 0) with
  accessFlags := 1537
  interfaces := #[]
  cf := some (fileOf pool4 2 #[] #[] 1537 4 #[] #[])
  fields := #[]
  methods := #[]
  instanceTypes := #[]
  staticTypes := #[]
  resolved := Array.replicate 8 none
  statics := none }

/-- the primitive byte -/
def k5 : Class := { plain "byte" none with kind := .primitive 'B', accessFlags := 0x411 }
/-- [B -/
def k6 : Class := { plain "[B" (some 0) with kind := .array 5 .byte, interfaces := #[3, 4], accessFlags := 1041 }

/-- the primitive int -/
def k7 : Class := { plain "int" none with kind := .primitive 'I', accessFlags := 0x411 }
/-- [I -/
def k8 : Class := { plain "[I" (some 0) with kind := .array 7 .int, interfaces := #[3, 4], accessFlags := 1041 }

def heap : Heap := #[]
def classes : Array Class := #[k0, k1, k2, k3, k4, k5, k6, k7, k8]
def interned : List (Array UInt16 × Addr) := []
def slotsUsed : Nat := 0
def theMethod : MethodId := ⟨1, 1⟩
def args0 : Array Value := #[.long 5, .int 7]
def aboutOver (below : List Frame) : State where
  vm := { classes := classes, interned := interned.toArray }
  heap := heap
  slotsUsed := slotsUsed
  threads := #[{ frames := .invoking theMethod args0 :: below }]
def below0 : List Frame := [.native { method := ⟨0, 0⟩, args := #[] }]
def about1 : State := aboutOver below0
def p0 : Program := .bare "" "" ""
def e0 : Env := launch0.env 0 0 0
theorem w_frames : about1.frames = Frame.invoking theMethod args0 :: below0 := rfl
set_option maxRecDepth 65536 in
theorem w_args : argsFit about1.vm theMethod args0 = true := by decide +kernel
set_option maxRecDepth 65536 in
theorem w_heap : heapFits about1 = true := by decide +kernel
set_option maxRecDepth 65536 in
theorem w_runnable : about1.curStatus? = some .runnable := by decide +kernel
set_option maxRecDepth 65536 in
theorem w_alone : about1.alone = true := by decide +kernel
set_option maxRecDepth 65536 in
theorem w_named : about1.methodNamed? x = some theMethod := by decide +kernel
set_option maxRecDepth 65536 in
theorem w_hears : about1.hears theMethod below0 = true := by decide +kernel
set_option maxRecDepth 65536 in
theorem w_ripe : about1.ripe theMethod args0 below0 = true := by decide +kernel
theorem w_running : about1.status = .running := rfl
set_option maxRecDepth 65536 in
theorem w_room : about1.hasRoom e0.platform room_1 = true :=
  launch0.hasRoom_least _ room_1 (by decide +kernel) (by decide +kernel) (by decide +kernel) (by decide +kernel) (by decide +kernel) (by decide +kernel)
theorem allAtoms_all (ts : List Jvm.Cond) (a : Array Jvm.Value) (st : Jvm.State) : (allAtoms ts).before a st = ts.all (fun c => c.before a st) := by
  induction ts with
  | nil => rfl
  | cons c t ih =>
    show (Jvm.Cond.and c (allAtoms t)).before a st = _
    rw [Jvm.Cond.before_and, ih, List.all_cons]
def words1 : List Jvm.Cond := Jvm.Cond.code x code maxLocals ret :: tables_1
/-- a 'code' word, met by the world's own term for the bytes: nothing is compared byte by byte -/
theorem code_word {y : MethodName} {bytes : ByteArray} {mx : Nat} {rt : Option FieldType} {a : Array Value} {s : State} {m : MethodId} {meth : Method} {c : Code} (h1 : s.methodNamed? y = some m) (h2 : s.vm.method? m = some meth) (h3 : meth.code = some c) (h4 : c.code = bytes)
    (h5 : (c.maxLocals == mx && c.exceptionTable.isEmpty && decide (c.maxStack ≤ mostOperands) && decide (meth.sig.returnType = rt) && !meth.locks && decide (parseMethodDescriptor y.desc = some meth.sig)) = true) : (Jvm.Cond.code y bytes mx rt).before a s = true := by
  simp only [Bool.and_eq_true, beq_iff_eq, Bool.not_eq_true', decide_eq_true_eq] at h5
  obtain ⟨⟨⟨⟨⟨g1, g2⟩, g3⟩, g4⟩, g5⟩, g6⟩ := h5
  simp [Cond.before, Cond.holds, Cond.value, h1, h2, h3, h4, g1, g2, g3, g4, g5, g6]
def isCode : Jvm.Cond → Bool
  | .code _ _ _ _ => true
  | _ => false
theorem all_split {L : List Jvm.Cond} {P : Jvm.Cond → Bool} (h1 : L.all (fun c => isCode c || P c) = true) (h2 : ∀ c ∈ L.filter isCode, P c = true) : L.all P = true := by
  refine List.all_eq_true.mpr fun c hc => ?_
  have h := List.all_eq_true.mp h1 c hc
  rcases Bool.eq_false_or_eq_true (isCode c) with hi | hi
  · exact h2 c (List.mem_filter.mpr ⟨hc, hi⟩)
  · simpa [hi] using h
set_option maxRecDepth 65536 in
theorem w_c0 : (Jvm.Cond.code x code maxLocals ret).before args0 about1 = true := code_word (m := ⟨1, 1⟩) (meth := k1m1) (c := k1c1) (by decide +kernel) rfl rfl rfl (by decide +kernel)
set_option maxRecDepth 65536 in
theorem w_c1 : (Jvm.Cond.code ({ cls := "com/example/tagstream/tagstream/packed/PackedSyntax", name := "isArgumentReference", desc := "(J)Z" } : Jvm.MethodName) prog_56_method_2_code (2 : Nat) (Option.some Jvm.ClassFile.FieldType.boolean)).before args0 about1 = true := code_word (m := ⟨2, 1⟩) (meth := k2m1) (c := k2c1) (by decide +kernel) rfl rfl rfl (by decide +kernel)
def codes1 : List Jvm.Cond := [Jvm.Cond.code x code maxLocals ret, Jvm.Cond.code ({ cls := "com/example/tagstream/tagstream/packed/PackedSyntax", name := "isArgumentReference", desc := "(J)Z" } : Jvm.MethodName) prog_56_method_2_code (2 : Nat) (Option.some Jvm.ClassFile.FieldType.boolean)]
set_option maxRecDepth 65536 in
theorem codes_eq : words1.filter isCode = codes1 := rfl
theorem w_codes : ∀ c ∈ words1.filter isCode, c.before args0 about1 = true := by
  rw [codes_eq]
  intro c hc
  simp only [codes1, List.mem_cons, List.not_mem_nil, or_false] at hc
  rcases hc with rfl | rfl
  · exact w_c0
  · exact w_c1
set_option maxRecDepth 65536 in
theorem w_t1 : words1.all (fun c => isCode c || c.before args0 about1) = true := by decide +kernel
theorem w_tables : (allAtoms (Jvm.Cond.code x code maxLocals ret :: tables_1)).before args0 about1 = true := by
  rw [allAtoms_all]
  show words1.all (fun c => c.before args0 about1) = true
  refine all_split ?_ w_codes
  rw [w_t1]
set_option maxRecDepth 65536 in
theorem w_case : (Jvm.Cond.and given_1 narrow_1).before args0 about1 = true := by decide +kernel
theorem w_applies : (headSpec (Jvm.Cond.code x code maxLocals ret :: tables_1) room_1).applies x e0.platform about1 = true :=
  (Spec.applies_iff w_frames).mpr ⟨w_running, w_runnable, w_alone, w_named, w_hears, w_ripe, w_room, w_tables⟩
theorem atStart : AtStart classFile x code maxLocals ret World_1 tables_1 room_1 Calls_1 rest_1 Pre_1 launch0 p0 e0 about1 theMethod args0 below0 :=
  ⟨lists_1, trivial, launch0.admits_env _ _ _, launch0.least_env, fairChoices_fair.cas, fairChoices_fair.clock, w_frames, w_args, w_heap, w_applies, trivial, trivial, w_case⟩
end start1
theorem witness_1 : WitnessClaimed_1 := ⟨start1.p0, start1.e0, start1.about1, start1.theMethod, start1.args0, start1.below0, start1.atStart⟩
end Jvm.Pilot.@@N@@
