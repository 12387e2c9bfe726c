import JvmDerived
import JvmDerived.Pilot.@@N@@Statement
import JvmDerived.Pilot.@@N@@Code
set_option linter.unusedVariables false
set_option linter.unusedSimpArgs false
@@BLOCK:NumsL.lean.txt@@
namespace Jvm.Pilot.@@N@@
open Jvm Jvm.ClassFile Sem Op Lib Jvm.Free Jvm.Stand Jvm.LawKit Jvm.RoadKit Bundle Jvm.Pilot.@@N@@.Jvm.D

/-! the plain law -/
def own_base (b : Int64) : Int64 := ((1 : Int64) + ((b &&& (9223372036854775807 : Int64)) - ((b &&& (9223372036854775807 : Int64)) / (9223372036854775807 : Int64)) * (9223372036854775807 : Int64)))
def own_span (b : Int64) : Int64 := (((9223372036854775807 : Int64) - (own_base b)) + (1 : Int64))
def own_cap (b c : Int64) : Int64 := ((own_base b) + ((c &&& (9223372036854775807 : Int64)) - ((c &&& (9223372036854775807 : Int64)) / (own_span b)) * (own_span b)))
def own_try (x k : Int32) : Int32 := if (k &&& (1 : Int32)) = (0 : Int32) then (x &&& (127 : Int32)) else (x &&& (2147483647 : Int32))
def own_min (a b : Int64) : Int64 := if b < a then b else a
def own_ref (b c : Int64) (r : Int32) : Int64 :=
  if r < (63 : Int32) then (if ((b <<< (r &&& 0x3f).toInt64) >>> (r &&& 0x3f).toInt64) = b then own_min (b <<< (r &&& 0x3f).toInt64) c else c) else c
def own_ln (b c : Int64) (r : Int32) : Int64 :=
  if r < (63 : Int32) then (if (c >>> (r &&& 0x3f).toInt64) < b then c else (b <<< (r &&& 0x3f).toInt64)) else c
theorem own_baseI (b : Int64) : 1 ≤ (own_base b).toInt ∧ (own_base b).toInt ≤ 9223372036854775807 := by
  have e1 : (1 : Int64).toInt = 1 := by decide
  have e2 : (9223372036854775807 : Int64).toInt = 9223372036854775807 := by decide
  have m : (b &&& (9223372036854775807 : Int64)).toInt = b.toInt % 2 ^ 63 := Jvm.Kit.i64_mask b _ (k := 63) (by decide) (by decide)
  have r : ((b &&& (9223372036854775807 : Int64)) - ((b &&& (9223372036854775807 : Int64)) / (9223372036854775807 : Int64)) * (9223372036854775807 : Int64)).toInt = b.toInt % 2 ^ 63 % 9223372036854775807 := by rw [Jvm.Kit.i64_rem_nonneg (by rw [m]; omega), m, e2]
  have a : (own_base b).toInt = 1 + b.toInt % 2 ^ 63 % 9223372036854775807 := by rw [own_base, Jvm.Kit.i64_add (by rw [r, e1]; omega) (by rw [r, e1]; omega), r, e1]
  rw [a]; omega
theorem own_spanI (b : Int64) : (own_span b).toInt = 9223372036854775808 - (own_base b).toInt := by
  have e1 : (1 : Int64).toInt = 1 := by decide
  have e2 : (9223372036854775807 : Int64).toInt = 9223372036854775807 := by decide
  obtain ⟨h1, h2⟩ := own_baseI b
  have s1 : ((9223372036854775807 : Int64) - (own_base b)).toInt = 9223372036854775807 - (own_base b).toInt := by rw [Jvm.Kit.i64_sub (by rw [e2]; omega) (by rw [e2]; omega), e2]
  rw [own_span, Jvm.Kit.i64_add (by rw [s1, e1]; omega) (by rw [s1, e1]; omega), s1, e1]; omega
theorem own_span0 (b : Int64) : own_span b ≠ 0 := by
  intro h
  have := own_spanI b
  obtain ⟨h1, h2⟩ := own_baseI b
  rw [h, Int64.toInt_zero] at this; omega
theorem own_capI (b c : Int64) : (own_base b).toInt ≤ (own_cap b c).toInt := by
  obtain ⟨h1, h2⟩ := own_baseI b
  have m : (c &&& (9223372036854775807 : Int64)).toInt = c.toInt % 2 ^ 63 := Jvm.Kit.i64_mask c _ (k := 63) (by decide) (by decide)
  have r : ((c &&& (9223372036854775807 : Int64)) - ((c &&& (9223372036854775807 : Int64)) / (own_span b)) * (own_span b)).toInt = c.toInt % 2 ^ 63 % (own_span b).toInt := by rw [Jvm.Kit.i64_rem_nonneg (by rw [m]; omega), m]
  have hs := own_spanI b
  have r1 : 0 ≤ c.toInt % 2 ^ 63 % (own_span b).toInt := Int.emod_nonneg _ (by omega)
  have r2 : c.toInt % 2 ^ 63 % (own_span b).toInt < (own_span b).toInt := Int.emod_lt_of_pos _ (by omega)
  rw [own_cap, Jvm.Kit.i64_add (by rw [r]; omega) (by rw [r]; omega), r]; omega
theorem own_tryI (x k : Int32) : 0 ≤ (own_try x k).toInt := by
  have m1 : (x &&& (127 : Int32)).toInt = x.toInt % 2 ^ 7 := Jvm.Kit.i32_mask x _ (k := 7) (by decide) (by decide)
  have m2 : (x &&& (2147483647 : Int32)).toInt = x.toInt % 2 ^ 31 := Jvm.Kit.i32_mask x _ (k := 31) (by decide) (by decide)
  rw [own_try]
  split
  · rw [m1]; omega
  · rw [m2]; omega
theorem own_sh : ∀ k : Fin 63, ((((Int32.ofNat k.val) &&& 0x3f).toInt64).toBitVec.smod 64).toNat = k.val := by decide +kernel
theorem own_main {b c : Int64} {r : Int32} (h1 : 1 ≤ b.toInt) (h2 : b.toInt ≤ c.toInt) (hr : 0 ≤ r.toInt) : own_ln b c r = own_ref b c r := by
  by_cases h : r < (63 : Int32)
  · rw [own_ln, own_ref, if_pos h, if_pos h]
    have e63 : (63 : Int32).toInt = 63 := by decide
    rw [Int32.lt_iff_toInt_lt, e63] at h
    obtain ⟨k, hk, rfl⟩ : ∃ k : Nat, k < 63 ∧ r = Int32.ofNat k := by
      refine ⟨r.toInt.toNat, by omega, ?_⟩
      rw [← Int32.toInt_inj, Int32.toInt_ofNat_of_lt (by omega)]; omega
    have hs := own_sh ⟨k, hk⟩
    simp only at hs
    have hp : (0 : Int) < 2 ^ k := Int.pow_pos (by decide)
    have sc := Jvm.Kit.i64_shr c (((Int32.ofNat k) &&& 0x3f).toInt64) hs
    have sp := Jvm.Kit.i64_shr (b <<< ((Int32.ofNat k) &&& 0x3f).toInt64) (((Int32.ofNat k) &&& 0x3f).toInt64) hs
    have cl := c.toInt_lt
    have sl := fun a1 a2 => Jvm.Kit.i64_shl b (((Int32.ofNat k) &&& 0x3f).toInt64) hs a1 a2
    generalize ((Int32.ofNat k) &&& 0x3f).toInt64 = sh at *
    by_cases g : (c >>> sh) < b
    · rw [if_pos g]
      rw [Int64.lt_iff_toInt_lt, sc] at g
      by_cases x : ((b <<< sh) >>> sh) = b
      · rw [if_pos x, own_min, if_pos]
        rw [x] at sp
        rw [Int64.lt_iff_toInt_lt]
        have q1 : ¬ b.toInt ≤ c.toInt / 2 ^ k := by omega
        rw [Int.le_ediv_iff_mul_le hp] at q1
        have q2 : b.toInt ≤ (b <<< sh).toInt / 2 ^ k := by omega
        rw [Int.le_ediv_iff_mul_le hp] at q2
        omega
      · rw [if_neg x]
    · rw [if_neg g]
      rw [Int64.lt_iff_toInt_lt, sc] at g
      have q1 : b.toInt ≤ c.toInt / 2 ^ k := by omega
      rw [Int.le_ediv_iff_mul_le hp] at q1
      have q0 : 0 ≤ b.toInt * 2 ^ k := Int.mul_nonneg (by omega) (by omega)
      have s1 := sl (by omega) (by omega)
      have x : ((b <<< sh) >>> sh) = b := by
        rw [← Int64.toInt_inj, sp, s1, Int.mul_ediv_cancel _ (by omega)]
      rw [if_pos x, own_min, if_neg]
      rw [Int64.lt_iff_toInt_lt]; omega
  · rw [own_ln, own_ref, if_neg h, if_neg h]

theorem ef_2 (m : MethodId) (x0 : Int64) (x1 : Int64) : entryFrame m #[(.long x0), (.long x1)] 4 = mkF m 0 #[.val (.long x0), .second, .val (.long x1), .second] [] := by first | (simp [entryFrame, mkF, argsToLocals, Value.category]; done) | rfl
theorem d2_0 : decode jdk_29_method_70_code 0 = .ok (.lload_n 0, 1) := by decide +kernel
theorem d2_1 : decode jdk_29_method_70_code 1 = .ok (.lload_n 2, 1) := by decide +kernel
theorem d2_2 : decode jdk_29_method_70_code 2 = .ok (.lcmp, 1) := by decide +kernel
theorem d2_3 : decode jdk_29_method_70_code 3 = .ok (.ifCond .gt 7, 3) := by decide +kernel
theorem d2_10 : decode jdk_29_method_70_code 10 = .ok (.lload_n 2, 1) := by decide +kernel
theorem d2_11 : decode jdk_29_method_70_code 11 = .ok (.lreturn, 1) := by decide +kernel
theorem d2_6 : decode jdk_29_method_70_code 6 = .ok (.lload_n 0, 1) := by decide +kernel
theorem d2_7 : decode jdk_29_method_70_code 7 = .ok (.goto 4, 3) := by decide +kernel
def Q2 (Z : State) (q0 : Int64) (q1 : Int64) (h0 : Heap) (n0 : Nat) (v : Option Value) (h : Heap) (L : List Loc) : Prop := v = some (.long (own_min q0 q1)) ∧ Fr n0 L ∧ h = h0
set_option maxRecDepth 65536 in
set_option maxHeartbeats 40000000 in
theorem rm2 (l : Launch) (Z : State) (a0 : Array Value) (hw : ∀ d ∈ tables_1, d.before a0 Z = true) (ws : List Jvm.Cond) (q0 : Int64) (q1 : Int64) (h0 : Heap) (n0 : Nat) (Z0 : n0 ≤ h0.size)  :
    MetFree l (⟨"java/lang/Math", "min", "(JJ)J"⟩ : MethodName) (head1 (Jvm.Cond.code (⟨"java/lang/Math", "min", "(JJ)J"⟩ : MethodName) jdk_29_method_70_code 4 (some .long) :: ws) ({ frames := 0, cells := 0, slots := 0, locals := 0 } : Room)) (fun a U => a = #[(.long q0), (.long q1)] ∧ Z.Warmed39 U.vm ∧ U.heap = h0) (fun _ _ _ _ _ => True) (fun _ U o U' => ∃ v L, o = .returned v ∧ Q2 Z q0 q1 h0 n0 v U'.heap L ∧ FrameEnd U o U' L ({ frames := 0, cells := 0, slots := 0, locals := 0 } : Room).cells ({ frames := 0, cells := 0, slots := 0, locals := 0 } : Room).slots) := by
  refine MetFree.of_bodySF (Jvm.Free.JP.mathPlain rfl (by decide +kernel)) hisR ?_
  intro p e s m args below meth c s₁ Bd hml0 hP hK
  obtain ⟨rfl, hZ, hh⟩ := hP
  have hx := Bd.exec
  have hby := Bd.bytes
  have hml : c.maxLocals = 4 := hml0
  have hown : s.vm.findClass "java/lang/Math" = some m.cls := findClass_of_methodNamed Bd.named
  have hnm := (name_of_methodNamed Bd.named Bd.method).1
  have X0 : Stand p l e ({ frames := 0, cells := 0, slots := 0, locals := 0 } : Room) s m #[(.long q0), (.long q1)] below meth c s₁ [] 0 0 := Stand.of_body Bd
  have e0 : s₁.heap = h0 := by rw [← hh, Bd.state]; rfl
  have N0 := Fr.nil n0
  have pre0 : ∀ t, Steps p.tables e below (s₁.setTop (mkF m 0 #[.val (.long q0), .second, .val (.long q1), .second] [])) t → Steps p.tables e below (s₁.setTop (entryFrame m #[(.long q0), (.long q1)] 4)) t := fun t k => castTop (ef_2 m q0 q1) k
  by_cases hc3 : q1 < q0
  · obtain ⟨fs, hr, hrun, hended, hW, hsame⟩ := X0.leave (v := some (.long q1)) (fun h => by rw [Bd.returns] at h; cases h)
    refine ⟨_, _, pre0 _ ?_, hrun, hended, _, _, rfl, ?_, ⟨_, rfl⟩, hW, hsame.mono (by decide) (by decide)⟩
    · show Steps p.tables e below (s₁.setTop (mkF m 0 #[.val (.long q0), .second, .val (.long q1), .second] [])) _
      refine XS.lloadN X0.here hx rfl (hb hby d2_0) rfl ?_
      show Steps p.tables e below (s₁.setTop (mkF m 1 #[.val (.long q0), .second, .val (.long q1), .second] [(.long q0)])) _
      refine XS.lloadN X0.here hx rfl (hb hby d2_1) rfl ?_
      show Steps p.tables e below (s₁.setTop (mkF m 2 #[.val (.long q0), .second, .val (.long q1), .second] [(.long q1), (.long q0)])) _
      refine XS.lcmp X0.here hx rfl (hb hby d2_2) rfl ?_
      show Steps p.tables e below (s₁.setTop (mkF m 3 #[.val (.long q0), .second, .val (.long q1), .second] [(.int (lcmpW q0 q1))])) _
      refine XS.ifYes X0.here hx rfl (pc0 := 3) (pc' := 10) rfl (hb hby d2_3) rfl ((if0 _ _).trans (tlt ((lw_gt _ _).mpr hc3)).2.2.1) (by decide) (by decide) ?_
      show Steps p.tables e below (s₁.setTop (mkF m 10 #[.val (.long q0), .second, .val (.long q1), .second] [])) _
      refine XS.lloadN X0.here hx rfl (hb hby d2_10) rfl ?_
      show Steps p.tables e below (s₁.setTop (mkF m 11 #[.val (.long q0), .second, .val (.long q1), .second] [(.long q1)])) _
      exact X0.lreturnOut hx Bd.returns (hb hby d2_11) hr
    · show Q2 Z q0 q1 h0 n0 _ s₁.heap _
      rw [e0]
      exact ⟨by rw [own_min, if_pos hc3], N0, rfl⟩
  · obtain ⟨fs, hr, hrun, hended, hW, hsame⟩ := X0.leave (v := some (.long q0)) (fun h => by rw [Bd.returns] at h; cases h)
    refine ⟨_, _, pre0 _ ?_, hrun, hended, _, _, rfl, ?_, ⟨_, rfl⟩, hW, hsame.mono (by decide) (by decide)⟩
    · show Steps p.tables e below (s₁.setTop (mkF m 0 #[.val (.long q0), .second, .val (.long q1), .second] [])) _
      refine XS.lloadN X0.here hx rfl (hb hby d2_0) rfl ?_
      show Steps p.tables e below (s₁.setTop (mkF m 1 #[.val (.long q0), .second, .val (.long q1), .second] [(.long q0)])) _
      refine XS.lloadN X0.here hx rfl (hb hby d2_1) rfl ?_
      show Steps p.tables e below (s₁.setTop (mkF m 2 #[.val (.long q0), .second, .val (.long q1), .second] [(.long q1), (.long q0)])) _
      refine XS.lcmp X0.here hx rfl (hb hby d2_2) rfl ?_
      show Steps p.tables e below (s₁.setTop (mkF m 3 #[.val (.long q0), .second, .val (.long q1), .second] [(.int (lcmpW q0 q1))])) _
      refine XS.ifNo X0.here hx rfl (hb hby d2_3) rfl ((if0 _ _).trans (flt (fun q => hc3 ((lw_gt _ _).mp q))).2.2.1) ?_
      show Steps p.tables e below (s₁.setTop (mkF m 6 #[.val (.long q0), .second, .val (.long q1), .second] [])) _
      refine XS.lloadN X0.here hx rfl (hb hby d2_6) rfl ?_
      show Steps p.tables e below (s₁.setTop (mkF m 7 #[.val (.long q0), .second, .val (.long q1), .second] [(.long q0)])) _
      refine XS.goto X0.here hx rfl (pc0 := 7) (pc' := 11) rfl (hb hby d2_7) (by decide) (by decide) ?_
      show Steps p.tables e below (s₁.setTop (mkF m 11 #[.val (.long q0), .second, .val (.long q1), .second] [(.long q0)])) _
      exact X0.lreturnOut hx Bd.returns (hb hby d2_11) hr
    · show Q2 Z q0 q1 h0 n0 _ s₁.heap _
      rw [e0]
      exact ⟨by rw [own_min, if_neg hc3], N0, rfl⟩
theorem ef_1 (m : MethodId) (x0 : Int64) (x1 : Int64) (x2 : Int32) : entryFrame m #[(.long x0), (.long x1), (.int x2)] 8 = mkF m 0 #[.val (.long x0), .second, .val (.long x1), .second, .val (.int x2), .unset, .unset, .unset] [] := by first | (simp [entryFrame, mkF, argsToLocals, Value.category]; done) | rfl
theorem pn_com_example_commitwright_commitwright_driver_BackoffLongestNanosPinLaw : plainName "com/example/commitwright/commitwright/driver/BackoffLongestNanosPinLaw" = true := by first | (simp [plainName, overriddenIn]; done) | decide +kernel
theorem d1_0 : decode method_3_code 0 = .ok (.iload 4, 2) := by decide +kernel
theorem d1_2 : decode method_3_code 2 = .ok (.bipush 63, 2) := by decide +kernel
theorem d1_4 : decode method_3_code 4 = .ok (.if_icmp .lt 5, 3) := by decide +kernel
theorem d1_9 : decode method_3_code 9 = .ok (.lload_n 0, 1) := by decide +kernel
theorem d1_10 : decode method_3_code 10 = .ok (.iload 4, 2) := by decide +kernel
theorem d1_12 : decode method_3_code 12 = .ok (.lshl, 1) := by decide +kernel
theorem d1_13 : decode method_3_code 13 = .ok (.lstore 5, 2) := by decide +kernel
theorem d1_15 : decode method_3_code 15 = .ok (.lload 5, 2) := by decide +kernel
theorem d1_17 : decode method_3_code 17 = .ok (.iload 4, 2) := by decide +kernel
theorem d1_19 : decode method_3_code 19 = .ok (.lshr, 1) := by decide +kernel
theorem d1_20 : decode method_3_code 20 = .ok (.lload_n 0, 1) := by decide +kernel
theorem d1_21 : decode method_3_code 21 = .ok (.lcmp, 1) := by decide +kernel
theorem d1_22 : decode method_3_code 22 = .ok (.ifCond .ne 7, 3) := by decide +kernel
theorem d1_25 : decode method_3_code 25 = .ok (.iconst 1, 1) := by decide +kernel
theorem d1_26 : decode method_3_code 26 = .ok (.goto 4, 3) := by decide +kernel
theorem d1_30 : decode method_3_code 30 = .ok (.istore 7, 2) := by decide +kernel
theorem d1_32 : decode method_3_code 32 = .ok (.iload 7, 2) := by decide +kernel
theorem d1_34 : decode method_3_code 34 = .ok (.ifCond .ne 5, 3) := by decide +kernel
theorem d1_39 : decode method_3_code 39 = .ok (.lload 5, 2) := by decide +kernel
theorem d1_41 : decode method_3_code 41 = .ok (.lload_n 2, 1) := by decide +kernel
theorem d1_42 : decode method_3_code 42 = .ok (.invokestatic 27, 3) := by decide +kernel
theorem pd_28JJ29J : parseMethodDescriptor "(JJ)J" = some ⟨[.long, .long], some .long⟩ := by decide +kernel
theorem d1_45 : decode method_3_code 45 = .ok (.lreturn, 1) := by decide +kernel
theorem d1_29 : decode method_3_code 29 = .ok (.iconst 0, 1) := by decide +kernel
theorem d1_37 : decode method_3_code 37 = .ok (.lload_n 2, 1) := by decide +kernel
theorem d1_38 : decode method_3_code 38 = .ok (.lreturn, 1) := by decide +kernel
theorem d1_7 : decode method_3_code 7 = .ok (.lload_n 2, 1) := by decide +kernel
theorem d1_8 : decode method_3_code 8 = .ok (.lreturn, 1) := by decide +kernel
def Q1 (Z : State) (q0 : Int64) (q1 : Int64) (p2 : Int32) (h0 : Heap) (n0 : Nat) (v : Option Value) (h : Heap) (L : List Loc) : Prop := v = some (.long (own_ref q0 q1 p2)) ∧ Fr n0 L ∧ h = h0
set_option maxRecDepth 65536 in
set_option maxHeartbeats 40000000 in
theorem rm1 (l : Launch) (Z : State) (a0 : Array Value) (hw : ∀ d ∈ tables_1, d.before a0 Z = true) (ws : List Jvm.Cond) (q0 : Int64) (q1 : Int64) (p2 : Int32) (h0 : Heap) (n0 : Nat) (Z0 : n0 ≤ h0.size)  :
    MetFree l (⟨"com/example/commitwright/commitwright/driver/BackoffLongestNanosPinLaw", "reference", "(JJI)J"⟩ : MethodName) (head1 (Jvm.Cond.code (⟨"com/example/commitwright/commitwright/driver/BackoffLongestNanosPinLaw", "reference", "(JJI)J"⟩ : MethodName) method_3_code 8 (some .long) :: ws) ({ frames := 1, cells := 0, slots := 0, locals := 15 } : Room)) (fun a U => a = #[(.long q0), (.long q1), (.int p2)] ∧ Z.Warmed39 U.vm ∧ U.heap = h0) (fun _ _ _ _ _ => True) (fun _ U o U' => ∃ v L, o = .returned v ∧ Q1 Z q0 q1 p2 h0 n0 v U'.heap L ∧ FrameEnd U o U' L ({ frames := 1, cells := 0, slots := 0, locals := 15 } : Room).cells ({ frames := 1, cells := 0, slots := 0, locals := 15 } : Room).slots) := by
  refine MetFree.of_bodySF (plainFor_of_name pn_com_example_commitwright_commitwright_driver_BackoffLongestNanosPinLaw) hisR ?_
  intro p e s m args below meth c s₁ Bd hml0 hP hK
  obtain ⟨rfl, hZ, hh⟩ := hP
  have hx := Bd.exec
  have hby := Bd.bytes
  have hml : c.maxLocals = 8 := hml0
  have hown : s.vm.findClass "com/example/commitwright/commitwright/driver/BackoffLongestNanosPinLaw" = some m.cls := findClass_of_methodNamed Bd.named
  have hnm := (name_of_methodNamed Bd.named Bd.method).1
  have X0 : Stand p l e ({ frames := 1, cells := 0, slots := 0, locals := 15 } : Room) s m #[(.long q0), (.long q1), (.int p2)] below meth c s₁ [] 0 0 := Stand.of_body Bd
  have e0 : s₁.heap = h0 := by rw [← hh, Bd.state]; rfl
  have N0 := Fr.nil n0
  have pre0 : ∀ t, Steps p.tables e below (s₁.setTop (mkF m 0 #[.val (.long q0), .second, .val (.long q1), .second, .val (.int p2), .unset, .unset, .unset] [])) t → Steps p.tables e below (s₁.setTop (entryFrame m #[(.long q0), (.long q1), (.int p2)] 8)) t := fun t k => castTop (ef_1 m q0 q1 p2) k
  by_cases hc4 : p2 < (63 : Int32)
  · by_cases hc22 : ((q0 <<< (p2 &&& 0x3f).toInt64) >>> (p2 &&& 0x3f).toInt64) = q0
    · obtain ⟨_, _, ⟨T1, L1, k1, n1⟩, -, X1, ⟨Lc1, hQ1, l1, y1, z1⟩, st1⟩ := Jvm.LawKit.callS X0 hx (y := (⟨"java/lang/Math", "min", "(JJ)J"⟩ : MethodName)) hown (mvT hZ (hw _ (List.mem_of_getElem? (i := 6) rfl))) (mvT hZ (hw _ (List.mem_of_getElem? (i := 7) rfl))) (mvT hZ (hw _ (List.mem_of_getElem? (i := 8) rfl))) (mvT hZ (hw _ (List.mem_of_getElem? (i := 9) rfl))) (by decide) (backOf (W := 0) (rm2 l Z a0 hw [] (q0 <<< (p2 &&& 0x3f).toInt64) q1 h0 n0 Z0) hZ (hw _ (List.mem_of_getElem? (i := 9) rfl)) (hw _ (List.mem_of_getElem? (i := 8) rfl)) (by decide) (by decide)) (g := (mkF m 42 #[.val (.long q0), .second, .val (.long q1), .second, .val (.int p2), .val (.long (q0 <<< (p2 &&& 0x3f).toInt64)), .second, .val (.int (1 : Int32))] [(.long q1), (.long (q0 <<< (p2 &&& 0x3f).toInt64))])) rfl (by rw [hml]; rfl) (argsL := [(.long (q0 <<< (p2 &&& 0x3f).toInt64)), (.long q1)]) (rest := []) (lenOf pd_28JJ29J rfl) rfl (by show 2 * 0 + _ ≤ _; exact Nat.le_of_eq rfl) (hb hby d1_42) (fun _ _ => ⟨rfl, e0, (by decide : 0 + 0 ≤ _), (by decide : 0 + 0 ≤ _)⟩)
      dsimp only [Pt.U, Pt.locs, Pt.cells, Pt.slots] at X1 l1 y1 z1 st1 hQ1
      subst l1 y1 z1
      obtain ⟨rfl, N1q, e1⟩ := hQ1
      have N1 := Fr.app N0 N1q
      obtain ⟨fs, hr, hrun, hended, hW, hsame⟩ := X1.leave (v := some (.long (own_min (q0 <<< (p2 &&& 0x3f).toInt64) q1))) (fun h => by rw [Bd.returns] at h; cases h)
      refine ⟨_, _, pre0 _ ?_, hrun, hended, _, _, rfl, ?_, ⟨_, rfl⟩, hW, hsame.mono (by decide) (by decide)⟩
      · show Steps p.tables e below (s₁.setTop (mkF m 0 #[.val (.long q0), .second, .val (.long q1), .second, .val (.int p2), .unset, .unset, .unset] [])) _
        refine XS.iload X0.here hx rfl (hb hby d1_0) rfl ?_
        show Steps p.tables e below (s₁.setTop (mkF m 2 #[.val (.long q0), .second, .val (.long q1), .second, .val (.int p2), .unset, .unset, .unset] [(.int p2)])) _
        refine XS.bipush X0.here hx rfl (hb hby d1_2) ?_
        show Steps p.tables e below (s₁.setTop (mkF m 4 #[.val (.long q0), .second, .val (.long q1), .second, .val (.int p2), .unset, .unset, .unset] [(.int (63 : Int32)), (.int p2)])) _
        refine XS.icmpYes X0.here hx rfl (pc0 := 4) (pc' := 9) rfl (hb hby d1_4) rfl (tlt hc4).1 (by decide) (by decide) ?_
        show Steps p.tables e below (s₁.setTop (mkF m 9 #[.val (.long q0), .second, .val (.long q1), .second, .val (.int p2), .unset, .unset, .unset] [])) _
        refine XS.lloadN X0.here hx rfl (hb hby d1_9) rfl ?_
        show Steps p.tables e below (s₁.setTop (mkF m 10 #[.val (.long q0), .second, .val (.long q1), .second, .val (.int p2), .unset, .unset, .unset] [(.long q0)])) _
        refine XS.iload X0.here hx rfl (hb hby d1_10) rfl ?_
        show Steps p.tables e below (s₁.setTop (mkF m 12 #[.val (.long q0), .second, .val (.long q1), .second, .val (.int p2), .unset, .unset, .unset] [(.int p2), (.long q0)])) _
        refine XS.lshl X0.here hx rfl (hb hby d1_12) rfl ?_
        show Steps p.tables e below (s₁.setTop (mkF m 13 #[.val (.long q0), .second, .val (.long q1), .second, .val (.int p2), .unset, .unset, .unset] [(.long (q0 <<< (p2 &&& 0x3f).toInt64))])) _
        refine XS.lstore X0.here hx rfl (hb hby d1_13) rfl (l' := #[.val (.long q0), .second, .val (.long q1), .second, .val (.int p2), .val (.long (q0 <<< (p2 &&& 0x3f).toInt64)), .second, .unset]) rfl ?_
        show Steps p.tables e below (s₁.setTop (mkF m 15 #[.val (.long q0), .second, .val (.long q1), .second, .val (.int p2), .val (.long (q0 <<< (p2 &&& 0x3f).toInt64)), .second, .unset] [])) _
        refine XS.lload X0.here hx rfl (hb hby d1_15) rfl ?_
        show Steps p.tables e below (s₁.setTop (mkF m 17 #[.val (.long q0), .second, .val (.long q1), .second, .val (.int p2), .val (.long (q0 <<< (p2 &&& 0x3f).toInt64)), .second, .unset] [(.long (q0 <<< (p2 &&& 0x3f).toInt64))])) _
        refine XS.iload X0.here hx rfl (hb hby d1_17) rfl ?_
        show Steps p.tables e below (s₁.setTop (mkF m 19 #[.val (.long q0), .second, .val (.long q1), .second, .val (.int p2), .val (.long (q0 <<< (p2 &&& 0x3f).toInt64)), .second, .unset] [(.int p2), (.long (q0 <<< (p2 &&& 0x3f).toInt64))])) _
        refine XS.lshr X0.here hx rfl (hb hby d1_19) rfl ?_
        show Steps p.tables e below (s₁.setTop (mkF m 20 #[.val (.long q0), .second, .val (.long q1), .second, .val (.int p2), .val (.long (q0 <<< (p2 &&& 0x3f).toInt64)), .second, .unset] [(.long ((q0 <<< (p2 &&& 0x3f).toInt64) >>> (p2 &&& 0x3f).toInt64))])) _
        refine XS.lloadN X0.here hx rfl (hb hby d1_20) rfl ?_
        show Steps p.tables e below (s₁.setTop (mkF m 21 #[.val (.long q0), .second, .val (.long q1), .second, .val (.int p2), .val (.long (q0 <<< (p2 &&& 0x3f).toInt64)), .second, .unset] [(.long q0), (.long ((q0 <<< (p2 &&& 0x3f).toInt64) >>> (p2 &&& 0x3f).toInt64))])) _
        refine XS.lcmp X0.here hx rfl (hb hby d1_21) rfl ?_
        show Steps p.tables e below (s₁.setTop (mkF m 22 #[.val (.long q0), .second, .val (.long q1), .second, .val (.int p2), .val (.long (q0 <<< (p2 &&& 0x3f).toInt64)), .second, .unset] [(.int (lcmpW ((q0 <<< (p2 &&& 0x3f).toInt64) >>> (p2 &&& 0x3f).toInt64) q0))])) _
        refine XS.ifNo X0.here hx rfl (hb hby d1_22) rfl ((if0 _ _).trans (teq ((lw_eq _ _).mpr hc22)).2) ?_
        show Steps p.tables e below (s₁.setTop (mkF m 25 #[.val (.long q0), .second, .val (.long q1), .second, .val (.int p2), .val (.long (q0 <<< (p2 &&& 0x3f).toInt64)), .second, .unset] [])) _
        refine XS.iconst X0.here hx rfl (hb hby d1_25) ?_
        show Steps p.tables e below (s₁.setTop (mkF m 26 #[.val (.long q0), .second, .val (.long q1), .second, .val (.int p2), .val (.long (q0 <<< (p2 &&& 0x3f).toInt64)), .second, .unset] [(.int (1 : Int32))])) _
        refine XS.goto X0.here hx rfl (pc0 := 26) (pc' := 30) rfl (hb hby d1_26) (by decide) (by decide) ?_
        show Steps p.tables e below (s₁.setTop (mkF m 30 #[.val (.long q0), .second, .val (.long q1), .second, .val (.int p2), .val (.long (q0 <<< (p2 &&& 0x3f).toInt64)), .second, .unset] [(.int (1 : Int32))])) _
        refine XS.istore X0.here hx rfl (hb hby d1_30) rfl (l' := #[.val (.long q0), .second, .val (.long q1), .second, .val (.int p2), .val (.long (q0 <<< (p2 &&& 0x3f).toInt64)), .second, .val (.int (1 : Int32))]) rfl ?_
        show Steps p.tables e below (s₁.setTop (mkF m 32 #[.val (.long q0), .second, .val (.long q1), .second, .val (.int p2), .val (.long (q0 <<< (p2 &&& 0x3f).toInt64)), .second, .val (.int (1 : Int32))] [])) _
        refine XS.iload X0.here hx rfl (hb hby d1_32) rfl ?_
        show Steps p.tables e below (s₁.setTop (mkF m 34 #[.val (.long q0), .second, .val (.long q1), .second, .val (.int p2), .val (.long (q0 <<< (p2 &&& 0x3f).toInt64)), .second, .val (.int (1 : Int32))] [(.int (1 : Int32))])) _
        refine XS.ifYes X0.here hx rfl (pc0 := 34) (pc' := 39) rfl (hb hby d1_34) rfl ((if0 _ _).trans (feq (by decide : ¬ ((1 : Int32) = (0 : Int32)))).2) (by decide) (by decide) ?_
        show Steps p.tables e below (s₁.setTop (mkF m 39 #[.val (.long q0), .second, .val (.long q1), .second, .val (.int p2), .val (.long (q0 <<< (p2 &&& 0x3f).toInt64)), .second, .val (.int (1 : Int32))] [])) _
        refine XS.lload X0.here hx rfl (hb hby d1_39) rfl ?_
        show Steps p.tables e below (s₁.setTop (mkF m 41 #[.val (.long q0), .second, .val (.long q1), .second, .val (.int p2), .val (.long (q0 <<< (p2 &&& 0x3f).toInt64)), .second, .val (.int (1 : Int32))] [(.long (q0 <<< (p2 &&& 0x3f).toInt64))])) _
        refine XS.lloadN X0.here hx rfl (hb hby d1_41) rfl ?_
        show Steps p.tables e below (s₁.setTop (mkF m 42 #[.val (.long q0), .second, .val (.long q1), .second, .val (.int p2), .val (.long (q0 <<< (p2 &&& 0x3f).toInt64)), .second, .val (.int (1 : Int32))] [(.long q1), (.long (q0 <<< (p2 &&& 0x3f).toInt64))])) _
        refine st1 _ ?_
        show Steps p.tables e below (T1.setTop (mkF m 45 #[.val (.long q0), .second, .val (.long q1), .second, .val (.int p2), .val (.long (q0 <<< (p2 &&& 0x3f).toInt64)), .second, .val (.int (1 : Int32))] [(.long (own_min (q0 <<< (p2 &&& 0x3f).toInt64) q1))])) _
        exact X1.lreturnOut hx Bd.returns (hb hby d1_45) hr
      · show Q1 Z q0 q1 p2 h0 n0 _ T1.heap _
        rw [e1]
        exact ⟨by rw [own_ref, if_pos hc4, if_pos hc22], N1, rfl⟩
    · obtain ⟨fs, hr, hrun, hended, hW, hsame⟩ := X0.leave (v := some (.long q1)) (fun h => by rw [Bd.returns] at h; cases h)
      refine ⟨_, _, pre0 _ ?_, hrun, hended, _, _, rfl, ?_, ⟨_, rfl⟩, hW, hsame.mono (by decide) (by decide)⟩
      · show Steps p.tables e below (s₁.setTop (mkF m 0 #[.val (.long q0), .second, .val (.long q1), .second, .val (.int p2), .unset, .unset, .unset] [])) _
        refine XS.iload X0.here hx rfl (hb hby d1_0) rfl ?_
        show Steps p.tables e below (s₁.setTop (mkF m 2 #[.val (.long q0), .second, .val (.long q1), .second, .val (.int p2), .unset, .unset, .unset] [(.int p2)])) _
        refine XS.bipush X0.here hx rfl (hb hby d1_2) ?_
        show Steps p.tables e below (s₁.setTop (mkF m 4 #[.val (.long q0), .second, .val (.long q1), .second, .val (.int p2), .unset, .unset, .unset] [(.int (63 : Int32)), (.int p2)])) _
        refine XS.icmpYes X0.here hx rfl (pc0 := 4) (pc' := 9) rfl (hb hby d1_4) rfl (tlt hc4).1 (by decide) (by decide) ?_
        show Steps p.tables e below (s₁.setTop (mkF m 9 #[.val (.long q0), .second, .val (.long q1), .second, .val (.int p2), .unset, .unset, .unset] [])) _
        refine XS.lloadN X0.here hx rfl (hb hby d1_9) rfl ?_
        show Steps p.tables e below (s₁.setTop (mkF m 10 #[.val (.long q0), .second, .val (.long q1), .second, .val (.int p2), .unset, .unset, .unset] [(.long q0)])) _
        refine XS.iload X0.here hx rfl (hb hby d1_10) rfl ?_
        show Steps p.tables e below (s₁.setTop (mkF m 12 #[.val (.long q0), .second, .val (.long q1), .second, .val (.int p2), .unset, .unset, .unset] [(.int p2), (.long q0)])) _
        refine XS.lshl X0.here hx rfl (hb hby d1_12) rfl ?_
        show Steps p.tables e below (s₁.setTop (mkF m 13 #[.val (.long q0), .second, .val (.long q1), .second, .val (.int p2), .unset, .unset, .unset] [(.long (q0 <<< (p2 &&& 0x3f).toInt64))])) _
        refine XS.lstore X0.here hx rfl (hb hby d1_13) rfl (l' := #[.val (.long q0), .second, .val (.long q1), .second, .val (.int p2), .val (.long (q0 <<< (p2 &&& 0x3f).toInt64)), .second, .unset]) rfl ?_
        show Steps p.tables e below (s₁.setTop (mkF m 15 #[.val (.long q0), .second, .val (.long q1), .second, .val (.int p2), .val (.long (q0 <<< (p2 &&& 0x3f).toInt64)), .second, .unset] [])) _
        refine XS.lload X0.here hx rfl (hb hby d1_15) rfl ?_
        show Steps p.tables e below (s₁.setTop (mkF m 17 #[.val (.long q0), .second, .val (.long q1), .second, .val (.int p2), .val (.long (q0 <<< (p2 &&& 0x3f).toInt64)), .second, .unset] [(.long (q0 <<< (p2 &&& 0x3f).toInt64))])) _
        refine XS.iload X0.here hx rfl (hb hby d1_17) rfl ?_
        show Steps p.tables e below (s₁.setTop (mkF m 19 #[.val (.long q0), .second, .val (.long q1), .second, .val (.int p2), .val (.long (q0 <<< (p2 &&& 0x3f).toInt64)), .second, .unset] [(.int p2), (.long (q0 <<< (p2 &&& 0x3f).toInt64))])) _
        refine XS.lshr X0.here hx rfl (hb hby d1_19) rfl ?_
        show Steps p.tables e below (s₁.setTop (mkF m 20 #[.val (.long q0), .second, .val (.long q1), .second, .val (.int p2), .val (.long (q0 <<< (p2 &&& 0x3f).toInt64)), .second, .unset] [(.long ((q0 <<< (p2 &&& 0x3f).toInt64) >>> (p2 &&& 0x3f).toInt64))])) _
        refine XS.lloadN X0.here hx rfl (hb hby d1_20) rfl ?_
        show Steps p.tables e below (s₁.setTop (mkF m 21 #[.val (.long q0), .second, .val (.long q1), .second, .val (.int p2), .val (.long (q0 <<< (p2 &&& 0x3f).toInt64)), .second, .unset] [(.long q0), (.long ((q0 <<< (p2 &&& 0x3f).toInt64) >>> (p2 &&& 0x3f).toInt64))])) _
        refine XS.lcmp X0.here hx rfl (hb hby d1_21) rfl ?_
        show Steps p.tables e below (s₁.setTop (mkF m 22 #[.val (.long q0), .second, .val (.long q1), .second, .val (.int p2), .val (.long (q0 <<< (p2 &&& 0x3f).toInt64)), .second, .unset] [(.int (lcmpW ((q0 <<< (p2 &&& 0x3f).toInt64) >>> (p2 &&& 0x3f).toInt64) q0))])) _
        refine XS.ifYes X0.here hx rfl (pc0 := 22) (pc' := 29) rfl (hb hby d1_22) rfl ((if0 _ _).trans (feq (fun q => hc22 ((lw_eq _ _).mp q))).2) (by decide) (by decide) ?_
        show Steps p.tables e below (s₁.setTop (mkF m 29 #[.val (.long q0), .second, .val (.long q1), .second, .val (.int p2), .val (.long (q0 <<< (p2 &&& 0x3f).toInt64)), .second, .unset] [])) _
        refine XS.iconst X0.here hx rfl (hb hby d1_29) ?_
        show Steps p.tables e below (s₁.setTop (mkF m 30 #[.val (.long q0), .second, .val (.long q1), .second, .val (.int p2), .val (.long (q0 <<< (p2 &&& 0x3f).toInt64)), .second, .unset] [(.int (0 : Int32))])) _
        refine XS.istore X0.here hx rfl (hb hby d1_30) rfl (l' := #[.val (.long q0), .second, .val (.long q1), .second, .val (.int p2), .val (.long (q0 <<< (p2 &&& 0x3f).toInt64)), .second, .val (.int (0 : Int32))]) rfl ?_
        show Steps p.tables e below (s₁.setTop (mkF m 32 #[.val (.long q0), .second, .val (.long q1), .second, .val (.int p2), .val (.long (q0 <<< (p2 &&& 0x3f).toInt64)), .second, .val (.int (0 : Int32))] [])) _
        refine XS.iload X0.here hx rfl (hb hby d1_32) rfl ?_
        show Steps p.tables e below (s₁.setTop (mkF m 34 #[.val (.long q0), .second, .val (.long q1), .second, .val (.int p2), .val (.long (q0 <<< (p2 &&& 0x3f).toInt64)), .second, .val (.int (0 : Int32))] [(.int (0 : Int32))])) _
        refine XS.ifNo X0.here hx rfl (hb hby d1_34) rfl ((if0 _ _).trans (teq (by decide : (0 : Int32) = (0 : Int32))).2) ?_
        show Steps p.tables e below (s₁.setTop (mkF m 37 #[.val (.long q0), .second, .val (.long q1), .second, .val (.int p2), .val (.long (q0 <<< (p2 &&& 0x3f).toInt64)), .second, .val (.int (0 : Int32))] [])) _
        refine XS.lloadN X0.here hx rfl (hb hby d1_37) rfl ?_
        show Steps p.tables e below (s₁.setTop (mkF m 38 #[.val (.long q0), .second, .val (.long q1), .second, .val (.int p2), .val (.long (q0 <<< (p2 &&& 0x3f).toInt64)), .second, .val (.int (0 : Int32))] [(.long q1)])) _
        exact X0.lreturnOut hx Bd.returns (hb hby d1_38) hr
      · show Q1 Z q0 q1 p2 h0 n0 _ s₁.heap _
        rw [e0]
        exact ⟨by rw [own_ref, if_pos hc4, if_neg hc22], N0, rfl⟩
  · obtain ⟨fs, hr, hrun, hended, hW, hsame⟩ := X0.leave (v := some (.long q1)) (fun h => by rw [Bd.returns] at h; cases h)
    refine ⟨_, _, pre0 _ ?_, hrun, hended, _, _, rfl, ?_, ⟨_, rfl⟩, hW, hsame.mono (by decide) (by decide)⟩
    · show Steps p.tables e below (s₁.setTop (mkF m 0 #[.val (.long q0), .second, .val (.long q1), .second, .val (.int p2), .unset, .unset, .unset] [])) _
      refine XS.iload X0.here hx rfl (hb hby d1_0) rfl ?_
      show Steps p.tables e below (s₁.setTop (mkF m 2 #[.val (.long q0), .second, .val (.long q1), .second, .val (.int p2), .unset, .unset, .unset] [(.int p2)])) _
      refine XS.bipush X0.here hx rfl (hb hby d1_2) ?_
      show Steps p.tables e below (s₁.setTop (mkF m 4 #[.val (.long q0), .second, .val (.long q1), .second, .val (.int p2), .unset, .unset, .unset] [(.int (63 : Int32)), (.int p2)])) _
      refine XS.icmpNo X0.here hx rfl (hb hby d1_4) rfl (flt hc4).1 ?_
      show Steps p.tables e below (s₁.setTop (mkF m 7 #[.val (.long q0), .second, .val (.long q1), .second, .val (.int p2), .unset, .unset, .unset] [])) _
      refine XS.lloadN X0.here hx rfl (hb hby d1_7) rfl ?_
      show Steps p.tables e below (s₁.setTop (mkF m 8 #[.val (.long q0), .second, .val (.long q1), .second, .val (.int p2), .unset, .unset, .unset] [(.long q1)])) _
      exact X0.lreturnOut hx Bd.returns (hb hby d1_8) hr
    · show Q1 Z q0 q1 p2 h0 n0 _ s₁.heap _
      rw [e0]
      exact ⟨by rw [own_ref, if_neg hc4], N0, rfl⟩
theorem ef_4 (m : MethodId) (x0 : Addr) : entryFrame m #[(.ref x0)] 1 = mkF m 0 #[.val (.ref x0)] [] := by first | (simp [entryFrame, mkF, argsToLocals, Value.category]; done) | rfl
theorem pn_java_lang_Record : plainName "java/lang/Record" = true := by first | (simp [plainName, overriddenIn]; done) | decide +kernel
theorem d4_0 : decode jdk_30_method_1_code 0 = .ok (.aload_n 0, 1) := by decide +kernel
theorem d4_1 : decode jdk_30_method_1_code 1 = .ok (.invokespecial 1, 3) := by decide +kernel
theorem d4_4 : decode jdk_30_method_1_code 4 = .ok (.return_, 1) := by decide +kernel
def Q4 (Z : State) (r0 : Addr) (h0 : Heap) (n0 : Nat) (v : Option Value) (h : Heap) (L : List Loc) : Prop := v = none ∧ Fr n0 L ∧ h = h0
set_option maxRecDepth 65536 in
set_option maxHeartbeats 40000000 in
theorem rm4 (l : Launch) (Z : State) (a0 : Array Value) (hw : ∀ d ∈ tables_1, d.before a0 Z = true) (ws : List Jvm.Cond) (r0 : Addr) (h0 : Heap) (n0 : Nat) (Z0 : n0 ≤ h0.size)  :
    MetFree l (⟨"java/lang/Record", "<init>", "()V"⟩ : MethodName) (head1 (Jvm.Cond.code (⟨"java/lang/Record", "<init>", "()V"⟩ : MethodName) jdk_30_method_1_code 1 none :: ws) ({ frames := 1, cells := 0, slots := 0, locals := 12 } : Room)) (fun a U => a = #[(.ref r0)] ∧ Z.Warmed39 U.vm ∧ U.heap = h0) (fun _ _ _ _ _ => True) (fun _ U o U' => ∃ v L, o = .returned v ∧ Q4 Z r0 h0 n0 v U'.heap L ∧ FrameEnd U o U' L ({ frames := 1, cells := 0, slots := 0, locals := 12 } : Room).cells ({ frames := 1, cells := 0, slots := 0, locals := 12 } : Room).slots) := by
  refine MetFree.of_bodySF (plainFor_of_name pn_java_lang_Record) hisR ?_
  intro p e s m args below meth c s₁ Bd hml0 hP hK
  obtain ⟨rfl, hZ, hh⟩ := hP
  have hx := Bd.exec
  have hby := Bd.bytes
  have hml : c.maxLocals = 1 := hml0
  have hown : s.vm.findClass "java/lang/Record" = some m.cls := findClass_of_methodNamed Bd.named
  have hnm := (name_of_methodNamed Bd.named Bd.method).1
  have X0 : Stand p l e ({ frames := 1, cells := 0, slots := 0, locals := 12 } : Room) s m #[(.ref r0)] below meth c s₁ [] 0 0 := Stand.of_body Bd
  have e0 : s₁.heap = h0 := by rw [← hh, Bd.state]; rfl
  have N0 := Fr.nil n0
  have pre0 : ∀ t, Steps p.tables e below (s₁.setTop (mkF m 0 #[.val (.ref r0)] [])) t → Steps p.tables e below (s₁.setTop (entryFrame m #[(.ref r0)] 1)) t := fun t k => castTop (ef_4 m r0) k
  obtain ⟨T1, X1, e1, st1⟩ := initO X0 hx hZ hown (hw _ (List.mem_of_getElem? (i := 21) rfl)) (hw _ (List.mem_of_getElem? (i := 22) rfl)) (hw _ (List.mem_of_getElem? (i := 23) rfl)) e0 (g := (mkF m 1 #[.val (.ref r0)] [(.ref r0)])) rfl (by rw [hml]; rfl) rfl (hb hby d4_1) (by decide) (W := 0) (by show 2 * 0 + _ ≤ _; exact Nat.le_of_eq rfl) (by decide)
  obtain ⟨fs, hr, hrun, hended, hW, hsame⟩ := X1.leave (v := none) (fun _ => rfl)
  refine ⟨_, _, pre0 _ ?_, hrun, hended, _, _, rfl, ?_, ⟨_, rfl⟩, hW, hsame.mono (by decide) (by decide)⟩
  · show Steps p.tables e below (s₁.setTop (mkF m 0 #[.val (.ref r0)] [])) _
    refine XS.aloadN X0.here hx rfl (hb hby d4_0) rfl rfl ?_
    show Steps p.tables e below (s₁.setTop (mkF m 1 #[.val (.ref r0)] [(.ref r0)])) _
    refine st1 _ ?_
    show Steps p.tables e below (T1.setTop (mkF m 4 #[.val (.ref r0)] [])) _
    exact X1.returnOut hx Bd.returns (hb hby d4_4) hr
  · show Q4 Z r0 h0 n0 _ T1.heap _
    rw [e1]
    exact ⟨rfl, N0, rfl⟩
theorem ef_3 (m : MethodId) (x0 : Addr) (x1 : Int64) (x2 : Int64) : entryFrame m #[(.ref x0), (.long x1), (.long x2)] 5 = mkF m 0 #[.val (.ref x0), .val (.long x1), .second, .val (.long x2), .second] [] := by first | (simp [entryFrame, mkF, argsToLocals, Value.category]; done) | rfl
theorem pn_com_example_commitwright_commitwright_driver_Backoff : plainName "com/example/commitwright/commitwright/driver/Backoff" = true := by first | (simp [plainName, overriddenIn]; done) | decide +kernel
theorem d3_0 : decode prog_1_method_1_code 0 = .ok (.aload_n 0, 1) := by decide +kernel
theorem d3_1 : decode prog_1_method_1_code 1 = .ok (.invokespecial 1, 3) := by decide +kernel
theorem pd_2829V : parseMethodDescriptor "()V" = some ⟨[], none⟩ := by decide +kernel
theorem d3_4 : decode prog_1_method_1_code 4 = .ok (.aload_n 0, 1) := by decide +kernel
theorem d3_5 : decode prog_1_method_1_code 5 = .ok (.lload_n 1, 1) := by decide +kernel
theorem d3_6 : decode prog_1_method_1_code 6 = .ok (.putfield 7, 3) := by decide +kernel
theorem d3_9 : decode prog_1_method_1_code 9 = .ok (.aload_n 0, 1) := by decide +kernel
theorem d3_10 : decode prog_1_method_1_code 10 = .ok (.lload_n 3, 1) := by decide +kernel
theorem d3_11 : decode prog_1_method_1_code 11 = .ok (.putfield 13, 3) := by decide +kernel
theorem d3_14 : decode prog_1_method_1_code 14 = .ok (.return_, 1) := by decide +kernel
def Q3 (Z : State) (r0 : Addr) (q1 : Int64) (q2 : Int64) (h0 : Heap) (n0 : Nat) (v : Option Value) (h : Heap) (L : List Loc) : Prop := v = none ∧ Fr n0 L ∧ Keep h0 h [r0] ∧ Fld Z h r0 "com/example/commitwright/commitwright/driver/Backoff" "baseNanos" "J" (.long q1) ∧ Fld Z h r0 "com/example/commitwright/commitwright/driver/Backoff" "capNanos" "J" (.long q2)
set_option maxRecDepth 65536 in
set_option maxHeartbeats 40000000 in
theorem rm3 (l : Launch) (Z : State) (a0 : Array Value) (hw : ∀ d ∈ tables_1, d.before a0 Z = true) (ws : List Jvm.Cond) (r0 : Addr) (q1 : Int64) (q2 : Int64) (h0 : Heap) (n0 : Nat) (Z0 : n0 ≤ h0.size) (E_r0 : Exa Z h0 r0 "com/example/commitwright/commitwright/driver/Backoff") (F_baseNanos : Fld Z h0 r0 "com/example/commitwright/commitwright/driver/Backoff" "baseNanos" "J" (.long (0 : Int64))) (F_capNanos : Fld Z h0 r0 "com/example/commitwright/commitwright/driver/Backoff" "capNanos" "J" (.long (0 : Int64))) (g_r0 : n0 ≤ r0) :
    MetFree l (⟨"com/example/commitwright/commitwright/driver/Backoff", "<init>", "(JJ)V"⟩ : MethodName) (head1 (Jvm.Cond.code (⟨"com/example/commitwright/commitwright/driver/Backoff", "<init>", "(JJ)V"⟩ : MethodName) prog_1_method_1_code 5 none :: ws) ({ frames := 2, cells := 0, slots := 0, locals := 24 } : Room)) (fun a U => a = #[(.ref r0), (.long q1), (.long q2)] ∧ Z.Warmed39 U.vm ∧ U.heap = h0) (fun _ _ _ _ _ => True) (fun _ U o U' => ∃ v L, o = .returned v ∧ Q3 Z r0 q1 q2 h0 n0 v U'.heap L ∧ FrameEnd U o U' L ({ frames := 2, cells := 0, slots := 0, locals := 24 } : Room).cells ({ frames := 2, cells := 0, slots := 0, locals := 24 } : Room).slots) := by
  refine MetFree.of_bodySF (plainFor_of_name pn_com_example_commitwright_commitwright_driver_Backoff) hisR ?_
  intro p e s m args below meth c s₁ Bd hml0 hP hK
  obtain ⟨rfl, hZ, hh⟩ := hP
  have hx := Bd.exec
  have hby := Bd.bytes
  have hml : c.maxLocals = 5 := hml0
  have hown : s.vm.findClass "com/example/commitwright/commitwright/driver/Backoff" = some m.cls := findClass_of_methodNamed Bd.named
  have hnm := (name_of_methodNamed Bd.named Bd.method).1
  have X0 : Stand p l e ({ frames := 2, cells := 0, slots := 0, locals := 24 } : Room) s m #[(.ref r0), (.long q1), (.long q2)] below meth c s₁ [] 0 0 := Stand.of_body Bd
  have e0 : s₁.heap = h0 := by rw [← hh, Bd.state]; rfl
  have N0 := Fr.nil n0
  have pre0 : ∀ t, Steps p.tables e below (s₁.setTop (mkF m 0 #[.val (.ref r0), .val (.long q1), .second, .val (.long q2), .second] [])) t → Steps p.tables e below (s₁.setTop (entryFrame m #[(.ref r0), (.long q1), (.long q2)] 5)) t := fun t k => castTop (ef_3 m r0 q1 q2) k
  have K0 : Keep h0 h0 [r0] := Keep.refl h0 [r0]
  obtain ⟨_, _, ⟨T1, L1, k1, n1⟩, -, X1, ⟨Lc1, hQ1, l1, y1, z1⟩, st1⟩ := X0.specialBack hx (y := (⟨"java/lang/Record", "<init>", "()V"⟩ : MethodName)) rfl hown (mvT hZ (hw _ (List.mem_of_getElem? (i := 16) rfl))) (mvT hZ (hw _ (List.mem_of_getElem? (i := 17) rfl))) (mvT hZ (hw _ (List.mem_of_getElem? (i := 20) rfl))) (by decide) (backOf (W := 0) (rm4 l Z a0 hw [] r0 h0 n0 Z0) hZ (hw _ (List.mem_of_getElem? (i := 20) rfl)) (hw _ (List.mem_of_getElem? (i := 19) rfl)) (by decide) (by decide)) (g := (mkF m 1 #[.val (.ref r0), .val (.long q1), .second, .val (.long q2), .second] [(.ref r0)])) rfl (by rw [hml]; rfl) (Steps.refl _) (a := r0) (argsL := []) (rest := []) (lenOf pd_2829V rfl) rfl (by show 2 * 0 + _ ≤ _; exact Nat.le_of_eq rfl) (hb hby d3_1) (fun _ _ => ⟨rfl, e0, (by decide : 0 + 0 ≤ _), (by decide : 0 + 0 ≤ _)⟩)
  dsimp only [Pt.U, Pt.locs, Pt.cells, Pt.slots] at X1 l1 y1 z1 st1 hQ1
  subst l1 y1 z1
  obtain ⟨rfl, N1q, e1⟩ := hQ1
  have N1 := Fr.app N0 N1q
  obtain ⟨T2, h2, X2, e2, W2, st2⟩ := putF X1 hx hZ hown (host := "") (Or.inl (hw _ (List.mem_of_getElem? (i := 24) rfl))) Via.refl e1 F_baseNanos E_r0 (Or.inr ⟨(hw _ (List.mem_of_getElem? (i := 25) rfl)), rfl, hnm⟩) (hw _ (List.mem_of_getElem? (i := 11) rfl)) (ty := .long) (by decide) rfl rfl (g := (mkF m 6 #[.val (.ref r0), .val (.long q1), .second, .val (.long q2), .second] [(.long q1), (.ref r0)])) rfl rfl (hb hby d3_6)
  have E_r0_at2 : Exa Z h2 r0 "com/example/commitwright/commitwright/driver/Backoff" := E_r0.wr W2
  have F_capNanos_at2 : Fld Z h2 r0 "com/example/commitwright/commitwright/driver/Backoff" "capNanos" "J" (.long (0 : Int64)) := F_capNanos.other W2 (Or.inr (slot_ne (Or.inr (hw _ (List.mem_of_getElem? (i := 27) rfl))) (Or.inr (hw _ (List.mem_of_getElem? (i := 25) rfl))) (by decide) (t := .long) (t' := .long) (by decide) (by decide)))
  have F_baseNanos_r0_at2 : Fld Z h2 r0 "com/example/commitwright/commitwright/driver/Backoff" "baseNanos" "J" (.long q1) := F_baseNanos.same W2
  have K2 : Keep h0 h2 [r0] := K0.wr W2 (Or.inl (List.mem_of_getElem? (i := 0) rfl))
  have Z2 : n0 ≤ h2.size := Nat.le_trans Z0 (Keep.of_wr W2).1
  have N2 := Fr.snoc X2 N1 g_r0
  obtain ⟨T3, h3, X3, e3, W3, st3⟩ := putF X2 hx hZ hown (host := "") (Or.inl (hw _ (List.mem_of_getElem? (i := 26) rfl))) Via.refl e2 F_capNanos_at2 E_r0_at2 (Or.inr ⟨(hw _ (List.mem_of_getElem? (i := 27) rfl)), rfl, hnm⟩) (hw _ (List.mem_of_getElem? (i := 11) rfl)) (ty := .long) (by decide) rfl rfl (g := (mkF m 11 #[.val (.ref r0), .val (.long q1), .second, .val (.long q2), .second] [(.long q2), (.ref r0)])) rfl rfl (hb hby d3_11)
  have E_r0_at3 : Exa Z h3 r0 "com/example/commitwright/commitwright/driver/Backoff" := E_r0_at2.wr W3
  have F_baseNanos_r0_at3 : Fld Z h3 r0 "com/example/commitwright/commitwright/driver/Backoff" "baseNanos" "J" (.long q1) := F_baseNanos_r0_at2.other W3 (Or.inr (slot_ne (Or.inr (hw _ (List.mem_of_getElem? (i := 25) rfl))) (Or.inr (hw _ (List.mem_of_getElem? (i := 27) rfl))) (by decide) (t := .long) (t' := .long) (by decide) (by decide)))
  have F_capNanos_r0_at3 : Fld Z h3 r0 "com/example/commitwright/commitwright/driver/Backoff" "capNanos" "J" (.long q2) := F_capNanos_at2.same W3
  have K3 : Keep h0 h3 [r0] := K2.wr W3 (Or.inl (List.mem_of_getElem? (i := 0) rfl))
  have Z3 : n0 ≤ h3.size := Nat.le_trans Z2 (Keep.of_wr W3).1
  have N3 := Fr.snoc X3 N2 g_r0
  obtain ⟨fs, hr, hrun, hended, hW, hsame⟩ := X3.leave (v := none) (fun _ => rfl)
  refine ⟨_, _, pre0 _ ?_, hrun, hended, _, _, rfl, ?_, ⟨_, rfl⟩, hW, hsame.mono (by decide) (by decide)⟩
  · show Steps p.tables e below (s₁.setTop (mkF m 0 #[.val (.ref r0), .val (.long q1), .second, .val (.long q2), .second] [])) _
    refine XS.aloadN X0.here hx rfl (hb hby d3_0) rfl rfl ?_
    show Steps p.tables e below (s₁.setTop (mkF m 1 #[.val (.ref r0), .val (.long q1), .second, .val (.long q2), .second] [(.ref r0)])) _
    refine st1.trans ?_
    show Steps p.tables e below (T1.setTop (mkF m 4 #[.val (.ref r0), .val (.long q1), .second, .val (.long q2), .second] [])) _
    refine XS.aloadN X1.here hx rfl (hb hby d3_4) rfl rfl ?_
    show Steps p.tables e below (T1.setTop (mkF m 5 #[.val (.ref r0), .val (.long q1), .second, .val (.long q2), .second] [(.ref r0)])) _
    refine XS.lloadN X1.here hx rfl (hb hby d3_5) rfl ?_
    show Steps p.tables e below (T1.setTop (mkF m 6 #[.val (.ref r0), .val (.long q1), .second, .val (.long q2), .second] [(.long q1), (.ref r0)])) _
    refine st2 _ ?_
    show Steps p.tables e below (T2.setTop (mkF m 9 #[.val (.ref r0), .val (.long q1), .second, .val (.long q2), .second] [])) _
    refine XS.aloadN X2.here hx rfl (hb hby d3_9) rfl rfl ?_
    show Steps p.tables e below (T2.setTop (mkF m 10 #[.val (.ref r0), .val (.long q1), .second, .val (.long q2), .second] [(.ref r0)])) _
    refine XS.lloadN X2.here hx rfl (hb hby d3_10) rfl ?_
    show Steps p.tables e below (T2.setTop (mkF m 11 #[.val (.ref r0), .val (.long q1), .second, .val (.long q2), .second] [(.long q2), (.ref r0)])) _
    refine st3 _ ?_
    show Steps p.tables e below (T3.setTop (mkF m 14 #[.val (.ref r0), .val (.long q1), .second, .val (.long q2), .second] [])) _
    exact X3.returnOut hx Bd.returns (hb hby d3_14) hr
  · show Q3 Z r0 q1 q2 h0 n0 _ T3.heap _
    rw [e3]
    exact ⟨rfl, N3, K3, F_baseNanos_r0_at3, F_capNanos_r0_at3⟩
theorem ef_6 (m : MethodId) (x0 : Addr) (x1 : Int32) : entryFrame m #[(.ref x0), (.int x1)] 3 = mkF m 0 #[.val (.ref x0), .val (.int x1), .unset] [] := by first | (simp [entryFrame, mkF, argsToLocals, Value.category]; done) | rfl
theorem d6_0 : decode prog_1_method_2_code 0 = .ok (.iload_n 1, 1) := by decide +kernel
theorem d6_1 : decode prog_1_method_2_code 1 = .ok (.bipush 63, 2) := by decide +kernel
theorem d6_3 : decode prog_1_method_2_code 3 = .ok (.if_icmp .ge 17, 3) := by decide +kernel
theorem d6_6 : decode prog_1_method_2_code 6 = .ok (.aload_n 0, 1) := by decide +kernel
theorem d6_7 : decode prog_1_method_2_code 7 = .ok (.getfield 7, 3) := by decide +kernel
theorem d6_10 : decode prog_1_method_2_code 10 = .ok (.aload_n 0, 1) := by decide +kernel
theorem d6_11 : decode prog_1_method_2_code 11 = .ok (.getfield 13, 3) := by decide +kernel
theorem d6_14 : decode prog_1_method_2_code 14 = .ok (.iload_n 1, 1) := by decide +kernel
theorem d6_15 : decode prog_1_method_2_code 15 = .ok (.lshr, 1) := by decide +kernel
theorem d6_16 : decode prog_1_method_2_code 16 = .ok (.lcmp, 1) := by decide +kernel
theorem d6_17 : decode prog_1_method_2_code 17 = .ok (.ifCond .le 7, 3) := by decide +kernel
theorem d6_20 : decode prog_1_method_2_code 20 = .ok (.iconst 1, 1) := by decide +kernel
theorem d6_21 : decode prog_1_method_2_code 21 = .ok (.goto 4, 3) := by decide +kernel
theorem d6_25 : decode prog_1_method_2_code 25 = .ok (.istore_n 2, 1) := by decide +kernel
theorem d6_26 : decode prog_1_method_2_code 26 = .ok (.iload_n 2, 1) := by decide +kernel
theorem d6_27 : decode prog_1_method_2_code 27 = .ok (.ifCond .eq 10, 3) := by decide +kernel
theorem d6_30 : decode prog_1_method_2_code 30 = .ok (.aload_n 0, 1) := by decide +kernel
theorem d6_31 : decode prog_1_method_2_code 31 = .ok (.getfield 13, 3) := by decide +kernel
theorem d6_34 : decode prog_1_method_2_code 34 = .ok (.goto 9, 3) := by decide +kernel
theorem d6_43 : decode prog_1_method_2_code 43 = .ok (.lreturn, 1) := by decide +kernel
theorem d6_24 : decode prog_1_method_2_code 24 = .ok (.iconst 0, 1) := by decide +kernel
theorem d6_37 : decode prog_1_method_2_code 37 = .ok (.aload_n 0, 1) := by decide +kernel
theorem d6_38 : decode prog_1_method_2_code 38 = .ok (.getfield 7, 3) := by decide +kernel
theorem d6_41 : decode prog_1_method_2_code 41 = .ok (.iload_n 1, 1) := by decide +kernel
theorem d6_42 : decode prog_1_method_2_code 42 = .ok (.lshl, 1) := by decide +kernel
def Q6 (Z : State) (r0 : Addr) (p1 : Int32) (w1 w2 : Int64) (h0 : Heap) (n0 : Nat) (v : Option Value) (h : Heap) (L : List Loc) : Prop := v = some (.long (own_ln w1 w2 p1)) ∧ Fr n0 L ∧ h = h0
set_option maxRecDepth 65536 in
set_option maxHeartbeats 40000000 in
theorem rm6 (l : Launch) (Z : State) (a0 : Array Value) (hw : ∀ d ∈ tables_1, d.before a0 Z = true) (ws : List Jvm.Cond) (r0 : Addr) (p1 : Int32) (w1 w2 : Int64) (h0 : Heap) (n0 : Nat) (Z0 : n0 ≤ h0.size) (F_baseNanos : Fld Z h0 r0 "com/example/commitwright/commitwright/driver/Backoff" "baseNanos" "J" (.long w1)) (F_capNanos : Fld Z h0 r0 "com/example/commitwright/commitwright/driver/Backoff" "capNanos" "J" (.long w2)) :
    MetFree l (⟨"com/example/commitwright/commitwright/driver/Backoff", "longestNanos", "(I)J"⟩ : MethodName) (head1 (Jvm.Cond.code (⟨"com/example/commitwright/commitwright/driver/Backoff", "longestNanos", "(I)J"⟩ : MethodName) prog_1_method_2_code 3 (some .long) :: ws) ({ frames := 0, cells := 0, slots := 0, locals := 0 } : Room)) (fun a U => a = #[(.ref r0), (.int p1)] ∧ Z.Warmed39 U.vm ∧ U.heap = h0) (fun _ _ _ _ _ => True) (fun _ U o U' => ∃ v L, o = .returned v ∧ Q6 Z r0 p1 w1 w2 h0 n0 v U'.heap L ∧ FrameEnd U o U' L ({ frames := 0, cells := 0, slots := 0, locals := 0 } : Room).cells ({ frames := 0, cells := 0, slots := 0, locals := 0 } : Room).slots) := by
  refine MetFree.of_bodySF (plainFor_of_name pn_com_example_commitwright_commitwright_driver_Backoff) hisR ?_
  intro p e s m args below meth c s₁ Bd hml0 hP hK
  obtain ⟨rfl, hZ, hh⟩ := hP
  have hx := Bd.exec
  have hby := Bd.bytes
  have hml : c.maxLocals = 3 := hml0
  have hown : s.vm.findClass "com/example/commitwright/commitwright/driver/Backoff" = some m.cls := findClass_of_methodNamed Bd.named
  have hnm := (name_of_methodNamed Bd.named Bd.method).1
  have X0 : Stand p l e ({ frames := 0, cells := 0, slots := 0, locals := 0 } : Room) s m #[(.ref r0), (.int p1)] below meth c s₁ [] 0 0 := Stand.of_body Bd
  have e0 : s₁.heap = h0 := by rw [← hh, Bd.state]; rfl
  have N0 := Fr.nil n0
  have pre0 : ∀ t, Steps p.tables e below (s₁.setTop (mkF m 0 #[.val (.ref r0), .val (.int p1), .unset] [])) t → Steps p.tables e below (s₁.setTop (entryFrame m #[(.ref r0), (.int p1)] 3)) t := fun t k => castTop (ef_6 m r0 p1) k
  by_cases hc3 : p1 < (63 : Int32)
  · obtain ⟨T1, X1, e1, st1⟩ := getF X0 hx hZ hown (host := "") (Or.inl (hw _ (List.mem_of_getElem? (i := 24) rfl))) Via.refl e0 F_baseNanos (g := (mkF m 7 #[.val (.ref r0), .val (.int p1), .unset] [(.ref r0)])) rfl rfl (hb hby d6_7)
    obtain ⟨T2, X2, e2, st2⟩ := getF X1 hx hZ hown (host := "") (Or.inl (hw _ (List.mem_of_getElem? (i := 26) rfl))) Via.refl e1 F_capNanos (g := (mkF m 11 #[.val (.ref r0), .val (.int p1), .unset] [(.ref r0), (.long w1)])) rfl rfl (hb hby d6_11)
    by_cases hc17 : (w2 >>> (p1 &&& 0x3f).toInt64) < w1
    · obtain ⟨T3, X3, e3, st3⟩ := getF X2 hx hZ hown (host := "") (Or.inl (hw _ (List.mem_of_getElem? (i := 26) rfl))) Via.refl e2 F_capNanos (g := (mkF m 31 #[.val (.ref r0), .val (.int p1), .val (.int (1 : Int32))] [(.ref r0)])) rfl rfl (hb hby d6_31)
      obtain ⟨fs, hr, hrun, hended, hW, hsame⟩ := X3.leave (v := some (.long w2)) (fun h => by rw [Bd.returns] at h; cases h)
      refine ⟨_, _, pre0 _ ?_, hrun, hended, _, _, rfl, ?_, ⟨_, rfl⟩, hW, hsame.mono (by decide) (by decide)⟩
      · show Steps p.tables e below (s₁.setTop (mkF m 0 #[.val (.ref r0), .val (.int p1), .unset] [])) _
        refine XS.iloadN X0.here hx rfl (hb hby d6_0) rfl ?_
        show Steps p.tables e below (s₁.setTop (mkF m 1 #[.val (.ref r0), .val (.int p1), .unset] [(.int p1)])) _
        refine XS.bipush X0.here hx rfl (hb hby d6_1) ?_
        show Steps p.tables e below (s₁.setTop (mkF m 3 #[.val (.ref r0), .val (.int p1), .unset] [(.int (63 : Int32)), (.int p1)])) _
        refine XS.icmpNo X0.here hx rfl (hb hby d6_3) rfl (tlt hc3).2.1 ?_
        show Steps p.tables e below (s₁.setTop (mkF m 6 #[.val (.ref r0), .val (.int p1), .unset] [])) _
        refine XS.aloadN X0.here hx rfl (hb hby d6_6) rfl rfl ?_
        show Steps p.tables e below (s₁.setTop (mkF m 7 #[.val (.ref r0), .val (.int p1), .unset] [(.ref r0)])) _
        refine st1 _ ?_
        show Steps p.tables e below (T1.setTop (mkF m 10 #[.val (.ref r0), .val (.int p1), .unset] [(.long w1)])) _
        refine XS.aloadN X1.here hx rfl (hb hby d6_10) rfl rfl ?_
        show Steps p.tables e below (T1.setTop (mkF m 11 #[.val (.ref r0), .val (.int p1), .unset] [(.ref r0), (.long w1)])) _
        refine st2 _ ?_
        show Steps p.tables e below (T2.setTop (mkF m 14 #[.val (.ref r0), .val (.int p1), .unset] [(.long w2), (.long w1)])) _
        refine XS.iloadN X2.here hx rfl (hb hby d6_14) rfl ?_
        show Steps p.tables e below (T2.setTop (mkF m 15 #[.val (.ref r0), .val (.int p1), .unset] [(.int p1), (.long w2), (.long w1)])) _
        refine XS.lshr X2.here hx rfl (hb hby d6_15) rfl ?_
        show Steps p.tables e below (T2.setTop (mkF m 16 #[.val (.ref r0), .val (.int p1), .unset] [(.long (w2 >>> (p1 &&& 0x3f).toInt64)), (.long w1)])) _
        refine XS.lcmp X2.here hx rfl (hb hby d6_16) rfl ?_
        show Steps p.tables e below (T2.setTop (mkF m 17 #[.val (.ref r0), .val (.int p1), .unset] [(.int (lcmpW w1 (w2 >>> (p1 &&& 0x3f).toInt64)))])) _
        refine XS.ifNo X2.here hx rfl (hb hby d6_17) rfl ((if0 _ _).trans (tlt ((lw_gt _ _).mpr hc17)).2.2.2) ?_
        show Steps p.tables e below (T2.setTop (mkF m 20 #[.val (.ref r0), .val (.int p1), .unset] [])) _
        refine XS.iconst X2.here hx rfl (hb hby d6_20) ?_
        show Steps p.tables e below (T2.setTop (mkF m 21 #[.val (.ref r0), .val (.int p1), .unset] [(.int (1 : Int32))])) _
        refine XS.goto X2.here hx rfl (pc0 := 21) (pc' := 25) rfl (hb hby d6_21) (by decide) (by decide) ?_
        show Steps p.tables e below (T2.setTop (mkF m 25 #[.val (.ref r0), .val (.int p1), .unset] [(.int (1 : Int32))])) _
        refine XS.istoreN X2.here hx rfl (hb hby d6_25) rfl (l' := #[.val (.ref r0), .val (.int p1), .val (.int (1 : Int32))]) rfl ?_
        show Steps p.tables e below (T2.setTop (mkF m 26 #[.val (.ref r0), .val (.int p1), .val (.int (1 : Int32))] [])) _
        refine XS.iloadN X2.here hx rfl (hb hby d6_26) rfl ?_
        show Steps p.tables e below (T2.setTop (mkF m 27 #[.val (.ref r0), .val (.int p1), .val (.int (1 : Int32))] [(.int (1 : Int32))])) _
        refine XS.ifNo X2.here hx rfl (hb hby d6_27) rfl ((if0 _ _).trans (feq (by decide : ¬ ((1 : Int32) = (0 : Int32)))).1) ?_
        show Steps p.tables e below (T2.setTop (mkF m 30 #[.val (.ref r0), .val (.int p1), .val (.int (1 : Int32))] [])) _
        refine XS.aloadN X2.here hx rfl (hb hby d6_30) rfl rfl ?_
        show Steps p.tables e below (T2.setTop (mkF m 31 #[.val (.ref r0), .val (.int p1), .val (.int (1 : Int32))] [(.ref r0)])) _
        refine st3 _ ?_
        show Steps p.tables e below (T3.setTop (mkF m 34 #[.val (.ref r0), .val (.int p1), .val (.int (1 : Int32))] [(.long w2)])) _
        refine XS.goto X3.here hx rfl (pc0 := 34) (pc' := 43) rfl (hb hby d6_34) (by decide) (by decide) ?_
        show Steps p.tables e below (T3.setTop (mkF m 43 #[.val (.ref r0), .val (.int p1), .val (.int (1 : Int32))] [(.long w2)])) _
        exact X3.lreturnOut hx Bd.returns (hb hby d6_43) hr
      · show Q6 Z r0 p1 w1 w2 h0 n0 _ T3.heap _
        rw [e3]
        exact ⟨by rw [own_ln, if_pos hc3, if_pos hc17], N0, rfl⟩
    · obtain ⟨T4, X4, e4, st4⟩ := getF X2 hx hZ hown (host := "") (Or.inl (hw _ (List.mem_of_getElem? (i := 24) rfl))) Via.refl e2 F_baseNanos (g := (mkF m 38 #[.val (.ref r0), .val (.int p1), .val (.int (0 : Int32))] [(.ref r0)])) rfl rfl (hb hby d6_38)
      obtain ⟨fs, hr, hrun, hended, hW, hsame⟩ := X4.leave (v := some (.long (w1 <<< (p1 &&& 0x3f).toInt64))) (fun h => by rw [Bd.returns] at h; cases h)
      refine ⟨_, _, pre0 _ ?_, hrun, hended, _, _, rfl, ?_, ⟨_, rfl⟩, hW, hsame.mono (by decide) (by decide)⟩
      · show Steps p.tables e below (s₁.setTop (mkF m 0 #[.val (.ref r0), .val (.int p1), .unset] [])) _
        refine XS.iloadN X0.here hx rfl (hb hby d6_0) rfl ?_
        show Steps p.tables e below (s₁.setTop (mkF m 1 #[.val (.ref r0), .val (.int p1), .unset] [(.int p1)])) _
        refine XS.bipush X0.here hx rfl (hb hby d6_1) ?_
        show Steps p.tables e below (s₁.setTop (mkF m 3 #[.val (.ref r0), .val (.int p1), .unset] [(.int (63 : Int32)), (.int p1)])) _
        refine XS.icmpNo X0.here hx rfl (hb hby d6_3) rfl (tlt hc3).2.1 ?_
        show Steps p.tables e below (s₁.setTop (mkF m 6 #[.val (.ref r0), .val (.int p1), .unset] [])) _
        refine XS.aloadN X0.here hx rfl (hb hby d6_6) rfl rfl ?_
        show Steps p.tables e below (s₁.setTop (mkF m 7 #[.val (.ref r0), .val (.int p1), .unset] [(.ref r0)])) _
        refine st1 _ ?_
        show Steps p.tables e below (T1.setTop (mkF m 10 #[.val (.ref r0), .val (.int p1), .unset] [(.long w1)])) _
        refine XS.aloadN X1.here hx rfl (hb hby d6_10) rfl rfl ?_
        show Steps p.tables e below (T1.setTop (mkF m 11 #[.val (.ref r0), .val (.int p1), .unset] [(.ref r0), (.long w1)])) _
        refine st2 _ ?_
        show Steps p.tables e below (T2.setTop (mkF m 14 #[.val (.ref r0), .val (.int p1), .unset] [(.long w2), (.long w1)])) _
        refine XS.iloadN X2.here hx rfl (hb hby d6_14) rfl ?_
        show Steps p.tables e below (T2.setTop (mkF m 15 #[.val (.ref r0), .val (.int p1), .unset] [(.int p1), (.long w2), (.long w1)])) _
        refine XS.lshr X2.here hx rfl (hb hby d6_15) rfl ?_
        show Steps p.tables e below (T2.setTop (mkF m 16 #[.val (.ref r0), .val (.int p1), .unset] [(.long (w2 >>> (p1 &&& 0x3f).toInt64)), (.long w1)])) _
        refine XS.lcmp X2.here hx rfl (hb hby d6_16) rfl ?_
        show Steps p.tables e below (T2.setTop (mkF m 17 #[.val (.ref r0), .val (.int p1), .unset] [(.int (lcmpW w1 (w2 >>> (p1 &&& 0x3f).toInt64)))])) _
        refine XS.ifYes X2.here hx rfl (pc0 := 17) (pc' := 24) rfl (hb hby d6_17) rfl ((if0 _ _).trans (flt (fun q => hc17 ((lw_gt _ _).mp q))).2.2.2) (by decide) (by decide) ?_
        show Steps p.tables e below (T2.setTop (mkF m 24 #[.val (.ref r0), .val (.int p1), .unset] [])) _
        refine XS.iconst X2.here hx rfl (hb hby d6_24) ?_
        show Steps p.tables e below (T2.setTop (mkF m 25 #[.val (.ref r0), .val (.int p1), .unset] [(.int (0 : Int32))])) _
        refine XS.istoreN X2.here hx rfl (hb hby d6_25) rfl (l' := #[.val (.ref r0), .val (.int p1), .val (.int (0 : Int32))]) rfl ?_
        show Steps p.tables e below (T2.setTop (mkF m 26 #[.val (.ref r0), .val (.int p1), .val (.int (0 : Int32))] [])) _
        refine XS.iloadN X2.here hx rfl (hb hby d6_26) rfl ?_
        show Steps p.tables e below (T2.setTop (mkF m 27 #[.val (.ref r0), .val (.int p1), .val (.int (0 : Int32))] [(.int (0 : Int32))])) _
        refine XS.ifYes X2.here hx rfl (pc0 := 27) (pc' := 37) rfl (hb hby d6_27) rfl ((if0 _ _).trans (teq (by decide : (0 : Int32) = (0 : Int32))).1) (by decide) (by decide) ?_
        show Steps p.tables e below (T2.setTop (mkF m 37 #[.val (.ref r0), .val (.int p1), .val (.int (0 : Int32))] [])) _
        refine XS.aloadN X2.here hx rfl (hb hby d6_37) rfl rfl ?_
        show Steps p.tables e below (T2.setTop (mkF m 38 #[.val (.ref r0), .val (.int p1), .val (.int (0 : Int32))] [(.ref r0)])) _
        refine st4 _ ?_
        show Steps p.tables e below (T4.setTop (mkF m 41 #[.val (.ref r0), .val (.int p1), .val (.int (0 : Int32))] [(.long w1)])) _
        refine XS.iloadN X4.here hx rfl (hb hby d6_41) rfl ?_
        show Steps p.tables e below (T4.setTop (mkF m 42 #[.val (.ref r0), .val (.int p1), .val (.int (0 : Int32))] [(.int p1), (.long w1)])) _
        refine XS.lshl X4.here hx rfl (hb hby d6_42) rfl ?_
        show Steps p.tables e below (T4.setTop (mkF m 43 #[.val (.ref r0), .val (.int p1), .val (.int (0 : Int32))] [(.long (w1 <<< (p1 &&& 0x3f).toInt64))])) _
        exact X4.lreturnOut hx Bd.returns (hb hby d6_43) hr
      · show Q6 Z r0 p1 w1 w2 h0 n0 _ T4.heap _
        rw [e4]
        exact ⟨by rw [own_ln, if_pos hc3, if_neg hc17], N0, rfl⟩
  · obtain ⟨T5, X5, e5, st5⟩ := getF X0 hx hZ hown (host := "") (Or.inl (hw _ (List.mem_of_getElem? (i := 26) rfl))) Via.refl e0 F_capNanos (g := (mkF m 31 #[.val (.ref r0), .val (.int p1), .val (.int (1 : Int32))] [(.ref r0)])) rfl rfl (hb hby d6_31)
    obtain ⟨fs, hr, hrun, hended, hW, hsame⟩ := X5.leave (v := some (.long w2)) (fun h => by rw [Bd.returns] at h; cases h)
    refine ⟨_, _, pre0 _ ?_, hrun, hended, _, _, rfl, ?_, ⟨_, rfl⟩, hW, hsame.mono (by decide) (by decide)⟩
    · show Steps p.tables e below (s₁.setTop (mkF m 0 #[.val (.ref r0), .val (.int p1), .unset] [])) _
      refine XS.iloadN X0.here hx rfl (hb hby d6_0) rfl ?_
      show Steps p.tables e below (s₁.setTop (mkF m 1 #[.val (.ref r0), .val (.int p1), .unset] [(.int p1)])) _
      refine XS.bipush X0.here hx rfl (hb hby d6_1) ?_
      show Steps p.tables e below (s₁.setTop (mkF m 3 #[.val (.ref r0), .val (.int p1), .unset] [(.int (63 : Int32)), (.int p1)])) _
      refine XS.icmpYes X0.here hx rfl (pc0 := 3) (pc' := 20) rfl (hb hby d6_3) rfl (flt hc3).2.1 (by decide) (by decide) ?_
      show Steps p.tables e below (s₁.setTop (mkF m 20 #[.val (.ref r0), .val (.int p1), .unset] [])) _
      refine XS.iconst X0.here hx rfl (hb hby d6_20) ?_
      show Steps p.tables e below (s₁.setTop (mkF m 21 #[.val (.ref r0), .val (.int p1), .unset] [(.int (1 : Int32))])) _
      refine XS.goto X0.here hx rfl (pc0 := 21) (pc' := 25) rfl (hb hby d6_21) (by decide) (by decide) ?_
      show Steps p.tables e below (s₁.setTop (mkF m 25 #[.val (.ref r0), .val (.int p1), .unset] [(.int (1 : Int32))])) _
      refine XS.istoreN X0.here hx rfl (hb hby d6_25) rfl (l' := #[.val (.ref r0), .val (.int p1), .val (.int (1 : Int32))]) rfl ?_
      show Steps p.tables e below (s₁.setTop (mkF m 26 #[.val (.ref r0), .val (.int p1), .val (.int (1 : Int32))] [])) _
      refine XS.iloadN X0.here hx rfl (hb hby d6_26) rfl ?_
      show Steps p.tables e below (s₁.setTop (mkF m 27 #[.val (.ref r0), .val (.int p1), .val (.int (1 : Int32))] [(.int (1 : Int32))])) _
      refine XS.ifNo X0.here hx rfl (hb hby d6_27) rfl ((if0 _ _).trans (feq (by decide : ¬ ((1 : Int32) = (0 : Int32)))).1) ?_
      show Steps p.tables e below (s₁.setTop (mkF m 30 #[.val (.ref r0), .val (.int p1), .val (.int (1 : Int32))] [])) _
      refine XS.aloadN X0.here hx rfl (hb hby d6_30) rfl rfl ?_
      show Steps p.tables e below (s₁.setTop (mkF m 31 #[.val (.ref r0), .val (.int p1), .val (.int (1 : Int32))] [(.ref r0)])) _
      refine st5 _ ?_
      show Steps p.tables e below (T5.setTop (mkF m 34 #[.val (.ref r0), .val (.int p1), .val (.int (1 : Int32))] [(.long w2)])) _
      refine XS.goto X5.here hx rfl (pc0 := 34) (pc' := 43) rfl (hb hby d6_34) (by decide) (by decide) ?_
      show Steps p.tables e below (T5.setTop (mkF m 43 #[.val (.ref r0), .val (.int p1), .val (.int (1 : Int32))] [(.long w2)])) _
      exact X5.lreturnOut hx Bd.returns (hb hby d6_43) hr
    · show Q6 Z r0 p1 w1 w2 h0 n0 _ T5.heap _
      rw [e5]
      exact ⟨by rw [own_ln, if_neg hc3], N0, rfl⟩
set_option maxRecDepth 65536 in
set_option maxHeartbeats 40000000 in
theorem pc_16 {p : Program} {l : Launch} {e : Env} {R : Room} {s : State} {m : MethodId} {args : Array Value} {below : List Frame} {meth : Method} {c : Code} {T0 : State} {locs : List Loc} {cells slots : Nat} {Z : State} {a0 : Array Value} (q0 q1 : Int64) (p2 p3 : Int32)
    (X0 : Stand p l e R s m args below meth c T0 locs cells slots) (hx : p.tables.exec = Jvm.exec) (hZ : Z.Warmed39 s.vm) (hw : ∀ d ∈ tables_1, d.before a0 Z = true) (hby : c.code = code) (hown : s.vm.findClass "com/example/commitwright/commitwright/driver/BackoffLongestNanosPinLaw" = some m.cls)  :
    ∀ target, Steps p.tables e below (T0.setTop (mkF m 16 #[.val (.long q0), .second, .val (.long q1), .second, .val (.int p2), .val (.int p3), .val (.long (9223372036854775807 : Int64)), .second, .val (.long (own_base q0)), .second, .unset, .unset, .unset, .unset, .unset, .unset, .unset, .unset, .unset, .unset] [])) target → Steps p.tables e below (T0.setTop (mkF m 0 #[.val (.long q0), .second, .val (.long q1), .second, .val (.int p2), .val (.int p3), .unset, .unset, .unset, .unset, .unset, .unset, .unset, .unset, .unset, .unset, .unset, .unset, .unset, .unset] [])) target := by
  intro target kt
  show Steps p.tables e below (T0.setTop (mkF m 0 #[.val (.long q0), .second, .val (.long q1), .second, .val (.int p2), .val (.int p3), .unset, .unset, .unset, .unset, .unset, .unset, .unset, .unset, .unset, .unset, .unset, .unset, .unset, .unset] [])) _
  refine X0.ldc2Long hx hown (mvT hZ (hw _ (List.mem_of_getElem? (i := 0) rfl))) (g := (mkF m 0 #[.val (.long q0), .second, .val (.long q1), .second, .val (.int p2), .val (.int p3), .unset, .unset, .unset, .unset, .unset, .unset, .unset, .unset, .unset, .unset, .unset, .unset, .unset, .unset] [])) rfl (hb hby at_0) _ ?_
  show Steps p.tables e below (T0.setTop (mkF m 3 #[.val (.long q0), .second, .val (.long q1), .second, .val (.int p2), .val (.int p3), .unset, .unset, .unset, .unset, .unset, .unset, .unset, .unset, .unset, .unset, .unset, .unset, .unset, .unset] [(.long (9223372036854775807 : Int64))])) _
  refine XS.lstore X0.here hx rfl (hb hby at_3) rfl (l' := #[.val (.long q0), .second, .val (.long q1), .second, .val (.int p2), .val (.int p3), .val (.long (9223372036854775807 : Int64)), .second, .unset, .unset, .unset, .unset, .unset, .unset, .unset, .unset, .unset, .unset, .unset, .unset]) rfl ?_
  show Steps p.tables e below (T0.setTop (mkF m 5 #[.val (.long q0), .second, .val (.long q1), .second, .val (.int p2), .val (.int p3), .val (.long (9223372036854775807 : Int64)), .second, .unset, .unset, .unset, .unset, .unset, .unset, .unset, .unset, .unset, .unset, .unset, .unset] [])) _
  refine XS.lconst X0.here hx rfl (hb hby at_5) ?_
  show Steps p.tables e below (T0.setTop (mkF m 6 #[.val (.long q0), .second, .val (.long q1), .second, .val (.int p2), .val (.int p3), .val (.long (9223372036854775807 : Int64)), .second, .unset, .unset, .unset, .unset, .unset, .unset, .unset, .unset, .unset, .unset, .unset, .unset] [(.long (1 : Int64))])) _
  refine XS.lloadN X0.here hx rfl (hb hby at_6) rfl ?_
  show Steps p.tables e below (T0.setTop (mkF m 7 #[.val (.long q0), .second, .val (.long q1), .second, .val (.int p2), .val (.int p3), .val (.long (9223372036854775807 : Int64)), .second, .unset, .unset, .unset, .unset, .unset, .unset, .unset, .unset, .unset, .unset, .unset, .unset] [(.long q0), (.long (1 : Int64))])) _
  refine XS.lload X0.here hx rfl (hb hby at_7) rfl ?_
  show Steps p.tables e below (T0.setTop (mkF m 9 #[.val (.long q0), .second, .val (.long q1), .second, .val (.int p2), .val (.int p3), .val (.long (9223372036854775807 : Int64)), .second, .unset, .unset, .unset, .unset, .unset, .unset, .unset, .unset, .unset, .unset, .unset, .unset] [(.long (9223372036854775807 : Int64)), (.long q0), (.long (1 : Int64))])) _
  refine XS.land X0.here hx rfl (hb hby at_9) rfl ?_
  show Steps p.tables e below (T0.setTop (mkF m 10 #[.val (.long q0), .second, .val (.long q1), .second, .val (.int p2), .val (.int p3), .val (.long (9223372036854775807 : Int64)), .second, .unset, .unset, .unset, .unset, .unset, .unset, .unset, .unset, .unset, .unset, .unset, .unset] [(.long (q0 &&& (9223372036854775807 : Int64))), (.long (1 : Int64))])) _
  refine XS.lload X0.here hx rfl (hb hby at_10) rfl ?_
  show Steps p.tables e below (T0.setTop (mkF m 12 #[.val (.long q0), .second, .val (.long q1), .second, .val (.int p2), .val (.int p3), .val (.long (9223372036854775807 : Int64)), .second, .unset, .unset, .unset, .unset, .unset, .unset, .unset, .unset, .unset, .unset, .unset, .unset] [(.long (9223372036854775807 : Int64)), (.long (q0 &&& (9223372036854775807 : Int64))), (.long (1 : Int64))])) _
  refine XS.lrem X0.here hx rfl (hb hby at_12) rfl (by decide) ?_
  show Steps p.tables e below (T0.setTop (mkF m 13 #[.val (.long q0), .second, .val (.long q1), .second, .val (.int p2), .val (.int p3), .val (.long (9223372036854775807 : Int64)), .second, .unset, .unset, .unset, .unset, .unset, .unset, .unset, .unset, .unset, .unset, .unset, .unset] [(.long ((q0 &&& (9223372036854775807 : Int64)) - ((q0 &&& (9223372036854775807 : Int64)) / (9223372036854775807 : Int64)) * (9223372036854775807 : Int64))), (.long (1 : Int64))])) _
  refine XS.ladd X0.here hx rfl (hb hby at_13) rfl ?_
  show Steps p.tables e below (T0.setTop (mkF m 14 #[.val (.long q0), .second, .val (.long q1), .second, .val (.int p2), .val (.int p3), .val (.long (9223372036854775807 : Int64)), .second, .unset, .unset, .unset, .unset, .unset, .unset, .unset, .unset, .unset, .unset, .unset, .unset] [(.long ((1 : Int64) + ((q0 &&& (9223372036854775807 : Int64)) - ((q0 &&& (9223372036854775807 : Int64)) / (9223372036854775807 : Int64)) * (9223372036854775807 : Int64))))])) _
  refine XS.lstore X0.here hx rfl (hb hby at_14) rfl (l' := #[.val (.long q0), .second, .val (.long q1), .second, .val (.int p2), .val (.int p3), .val (.long (9223372036854775807 : Int64)), .second, .val (.long ((1 : Int64) + ((q0 &&& (9223372036854775807 : Int64)) - ((q0 &&& (9223372036854775807 : Int64)) / (9223372036854775807 : Int64)) * (9223372036854775807 : Int64)))), .second, .unset, .unset, .unset, .unset, .unset, .unset, .unset, .unset, .unset, .unset]) rfl ?_
  show Steps p.tables e below (T0.setTop (mkF m 16 #[.val (.long q0), .second, .val (.long q1), .second, .val (.int p2), .val (.int p3), .val (.long (9223372036854775807 : Int64)), .second, .val (.long ((1 : Int64) + ((q0 &&& (9223372036854775807 : Int64)) - ((q0 &&& (9223372036854775807 : Int64)) / (9223372036854775807 : Int64)) * (9223372036854775807 : Int64)))), .second, .unset, .unset, .unset, .unset, .unset, .unset, .unset, .unset, .unset, .unset] [])) _
  exact kt
set_option maxRecDepth 65536 in
set_option maxHeartbeats 40000000 in
theorem pc_25 {p : Program} {l : Launch} {e : Env} {R : Room} {s : State} {m : MethodId} {args : Array Value} {below : List Frame} {meth : Method} {c : Code} {T0 : State} {locs : List Loc} {cells slots : Nat} {Z : State} {a0 : Array Value} (q0 q1 : Int64) (p2 p3 : Int32)
    (X0 : Stand p l e R s m args below meth c T0 locs cells slots) (hx : p.tables.exec = Jvm.exec) (hZ : Z.Warmed39 s.vm) (hw : ∀ d ∈ tables_1, d.before a0 Z = true) (hby : c.code = code) (hown : s.vm.findClass "com/example/commitwright/commitwright/driver/BackoffLongestNanosPinLaw" = some m.cls)  :
    ∀ target, Steps p.tables e below (T0.setTop (mkF m 25 #[.val (.long q0), .second, .val (.long q1), .second, .val (.int p2), .val (.int p3), .val (.long (9223372036854775807 : Int64)), .second, .val (.long (own_base q0)), .second, .val (.long (own_span q0)), .second, .unset, .unset, .unset, .unset, .unset, .unset, .unset, .unset] [])) target → Steps p.tables e below (T0.setTop (mkF m 16 #[.val (.long q0), .second, .val (.long q1), .second, .val (.int p2), .val (.int p3), .val (.long (9223372036854775807 : Int64)), .second, .val (.long (own_base q0)), .second, .unset, .unset, .unset, .unset, .unset, .unset, .unset, .unset, .unset, .unset] [])) target := by
  intro target kt
  show Steps p.tables e below (T0.setTop (mkF m 16 #[.val (.long q0), .second, .val (.long q1), .second, .val (.int p2), .val (.int p3), .val (.long (9223372036854775807 : Int64)), .second, .val (.long (own_base q0)), .second, .unset, .unset, .unset, .unset, .unset, .unset, .unset, .unset, .unset, .unset] [])) _
  refine XS.lload X0.here hx rfl (hb hby at_16) rfl ?_
  show Steps p.tables e below (T0.setTop (mkF m 18 #[.val (.long q0), .second, .val (.long q1), .second, .val (.int p2), .val (.int p3), .val (.long (9223372036854775807 : Int64)), .second, .val (.long (own_base q0)), .second, .unset, .unset, .unset, .unset, .unset, .unset, .unset, .unset, .unset, .unset] [(.long (9223372036854775807 : Int64))])) _
  refine XS.lload X0.here hx rfl (hb hby at_18) rfl ?_
  show Steps p.tables e below (T0.setTop (mkF m 20 #[.val (.long q0), .second, .val (.long q1), .second, .val (.int p2), .val (.int p3), .val (.long (9223372036854775807 : Int64)), .second, .val (.long (own_base q0)), .second, .unset, .unset, .unset, .unset, .unset, .unset, .unset, .unset, .unset, .unset] [(.long (own_base q0)), (.long (9223372036854775807 : Int64))])) _
  refine XS.lsub X0.here hx rfl (hb hby at_20) rfl ?_
  show Steps p.tables e below (T0.setTop (mkF m 21 #[.val (.long q0), .second, .val (.long q1), .second, .val (.int p2), .val (.int p3), .val (.long (9223372036854775807 : Int64)), .second, .val (.long (own_base q0)), .second, .unset, .unset, .unset, .unset, .unset, .unset, .unset, .unset, .unset, .unset] [(.long ((9223372036854775807 : Int64) - (own_base q0)))])) _
  refine XS.lconst X0.here hx rfl (hb hby at_21) ?_
  show Steps p.tables e below (T0.setTop (mkF m 22 #[.val (.long q0), .second, .val (.long q1), .second, .val (.int p2), .val (.int p3), .val (.long (9223372036854775807 : Int64)), .second, .val (.long (own_base q0)), .second, .unset, .unset, .unset, .unset, .unset, .unset, .unset, .unset, .unset, .unset] [(.long (1 : Int64)), (.long ((9223372036854775807 : Int64) - (own_base q0)))])) _
  refine XS.ladd X0.here hx rfl (hb hby at_22) rfl ?_
  show Steps p.tables e below (T0.setTop (mkF m 23 #[.val (.long q0), .second, .val (.long q1), .second, .val (.int p2), .val (.int p3), .val (.long (9223372036854775807 : Int64)), .second, .val (.long (own_base q0)), .second, .unset, .unset, .unset, .unset, .unset, .unset, .unset, .unset, .unset, .unset] [(.long (((9223372036854775807 : Int64) - (own_base q0)) + (1 : Int64)))])) _
  refine XS.lstore X0.here hx rfl (hb hby at_23) rfl (l' := #[.val (.long q0), .second, .val (.long q1), .second, .val (.int p2), .val (.int p3), .val (.long (9223372036854775807 : Int64)), .second, .val (.long (own_base q0)), .second, .val (.long (((9223372036854775807 : Int64) - (own_base q0)) + (1 : Int64))), .second, .unset, .unset, .unset, .unset, .unset, .unset, .unset, .unset]) rfl ?_
  show Steps p.tables e below (T0.setTop (mkF m 25 #[.val (.long q0), .second, .val (.long q1), .second, .val (.int p2), .val (.int p3), .val (.long (9223372036854775807 : Int64)), .second, .val (.long (own_base q0)), .second, .val (.long (((9223372036854775807 : Int64) - (own_base q0)) + (1 : Int64))), .second, .unset, .unset, .unset, .unset, .unset, .unset, .unset, .unset] [])) _
  exact kt
set_option maxRecDepth 65536 in
set_option maxHeartbeats 40000000 in
theorem pc_37 {p : Program} {l : Launch} {e : Env} {R : Room} {s : State} {m : MethodId} {args : Array Value} {below : List Frame} {meth : Method} {c : Code} {T0 : State} {locs : List Loc} {cells slots : Nat} {Z : State} {a0 : Array Value} (q0 q1 : Int64) (p2 p3 : Int32)
    (X0 : Stand p l e R s m args below meth c T0 locs cells slots) (hx : p.tables.exec = Jvm.exec) (hZ : Z.Warmed39 s.vm) (hw : ∀ d ∈ tables_1, d.before a0 Z = true) (hby : c.code = code) (hown : s.vm.findClass "com/example/commitwright/commitwright/driver/BackoffLongestNanosPinLaw" = some m.cls)  :
    ∀ target, Steps p.tables e below (T0.setTop (mkF m 37 #[.val (.long q0), .second, .val (.long q1), .second, .val (.int p2), .val (.int p3), .val (.long (9223372036854775807 : Int64)), .second, .val (.long (own_base q0)), .second, .val (.long (own_span q0)), .second, .val (.long (own_cap q0 q1)), .second, .unset, .unset, .unset, .unset, .unset, .unset] [])) target → Steps p.tables e below (T0.setTop (mkF m 25 #[.val (.long q0), .second, .val (.long q1), .second, .val (.int p2), .val (.int p3), .val (.long (9223372036854775807 : Int64)), .second, .val (.long (own_base q0)), .second, .val (.long (own_span q0)), .second, .unset, .unset, .unset, .unset, .unset, .unset, .unset, .unset] [])) target := by
  intro target kt
  show Steps p.tables e below (T0.setTop (mkF m 25 #[.val (.long q0), .second, .val (.long q1), .second, .val (.int p2), .val (.int p3), .val (.long (9223372036854775807 : Int64)), .second, .val (.long (own_base q0)), .second, .val (.long (own_span q0)), .second, .unset, .unset, .unset, .unset, .unset, .unset, .unset, .unset] [])) _
  refine XS.lload X0.here hx rfl (hb hby at_25) rfl ?_
  show Steps p.tables e below (T0.setTop (mkF m 27 #[.val (.long q0), .second, .val (.long q1), .second, .val (.int p2), .val (.int p3), .val (.long (9223372036854775807 : Int64)), .second, .val (.long (own_base q0)), .second, .val (.long (own_span q0)), .second, .unset, .unset, .unset, .unset, .unset, .unset, .unset, .unset] [(.long (own_base q0))])) _
  refine XS.lloadN X0.here hx rfl (hb hby at_27) rfl ?_
  show Steps p.tables e below (T0.setTop (mkF m 28 #[.val (.long q0), .second, .val (.long q1), .second, .val (.int p2), .val (.int p3), .val (.long (9223372036854775807 : Int64)), .second, .val (.long (own_base q0)), .second, .val (.long (own_span q0)), .second, .unset, .unset, .unset, .unset, .unset, .unset, .unset, .unset] [(.long q1), (.long (own_base q0))])) _
  refine XS.lload X0.here hx rfl (hb hby at_28) rfl ?_
  show Steps p.tables e below (T0.setTop (mkF m 30 #[.val (.long q0), .second, .val (.long q1), .second, .val (.int p2), .val (.int p3), .val (.long (9223372036854775807 : Int64)), .second, .val (.long (own_base q0)), .second, .val (.long (own_span q0)), .second, .unset, .unset, .unset, .unset, .unset, .unset, .unset, .unset] [(.long (9223372036854775807 : Int64)), (.long q1), (.long (own_base q0))])) _
  refine XS.land X0.here hx rfl (hb hby at_30) rfl ?_
  show Steps p.tables e below (T0.setTop (mkF m 31 #[.val (.long q0), .second, .val (.long q1), .second, .val (.int p2), .val (.int p3), .val (.long (9223372036854775807 : Int64)), .second, .val (.long (own_base q0)), .second, .val (.long (own_span q0)), .second, .unset, .unset, .unset, .unset, .unset, .unset, .unset, .unset] [(.long (q1 &&& (9223372036854775807 : Int64))), (.long (own_base q0))])) _
  refine XS.lload X0.here hx rfl (hb hby at_31) rfl ?_
  show Steps p.tables e below (T0.setTop (mkF m 33 #[.val (.long q0), .second, .val (.long q1), .second, .val (.int p2), .val (.int p3), .val (.long (9223372036854775807 : Int64)), .second, .val (.long (own_base q0)), .second, .val (.long (own_span q0)), .second, .unset, .unset, .unset, .unset, .unset, .unset, .unset, .unset] [(.long (own_span q0)), (.long (q1 &&& (9223372036854775807 : Int64))), (.long (own_base q0))])) _
  refine XS.lrem X0.here hx rfl (hb hby at_33) rfl (own_span0 q0) ?_
  show Steps p.tables e below (T0.setTop (mkF m 34 #[.val (.long q0), .second, .val (.long q1), .second, .val (.int p2), .val (.int p3), .val (.long (9223372036854775807 : Int64)), .second, .val (.long (own_base q0)), .second, .val (.long (own_span q0)), .second, .unset, .unset, .unset, .unset, .unset, .unset, .unset, .unset] [(.long ((q1 &&& (9223372036854775807 : Int64)) - ((q1 &&& (9223372036854775807 : Int64)) / (own_span q0)) * (own_span q0))), (.long (own_base q0))])) _
  refine XS.ladd X0.here hx rfl (hb hby at_34) rfl ?_
  show Steps p.tables e below (T0.setTop (mkF m 35 #[.val (.long q0), .second, .val (.long q1), .second, .val (.int p2), .val (.int p3), .val (.long (9223372036854775807 : Int64)), .second, .val (.long (own_base q0)), .second, .val (.long (own_span q0)), .second, .unset, .unset, .unset, .unset, .unset, .unset, .unset, .unset] [(.long ((own_base q0) + ((q1 &&& (9223372036854775807 : Int64)) - ((q1 &&& (9223372036854775807 : Int64)) / (own_span q0)) * (own_span q0))))])) _
  refine XS.lstore X0.here hx rfl (hb hby at_35) rfl (l' := #[.val (.long q0), .second, .val (.long q1), .second, .val (.int p2), .val (.int p3), .val (.long (9223372036854775807 : Int64)), .second, .val (.long (own_base q0)), .second, .val (.long (own_span q0)), .second, .val (.long ((own_base q0) + ((q1 &&& (9223372036854775807 : Int64)) - ((q1 &&& (9223372036854775807 : Int64)) / (own_span q0)) * (own_span q0)))), .second, .unset, .unset, .unset, .unset, .unset, .unset]) rfl ?_
  show Steps p.tables e below (T0.setTop (mkF m 37 #[.val (.long q0), .second, .val (.long q1), .second, .val (.int p2), .val (.int p3), .val (.long (9223372036854775807 : Int64)), .second, .val (.long (own_base q0)), .second, .val (.long (own_span q0)), .second, .val (.long ((own_base q0) + ((q1 &&& (9223372036854775807 : Int64)) - ((q1 &&& (9223372036854775807 : Int64)) / (own_span q0)) * (own_span q0)))), .second, .unset, .unset, .unset, .unset, .unset, .unset] [])) _
  exact kt
set_option maxRecDepth 65536 in
set_option maxHeartbeats 40000000 in
theorem pc_59 {p : Program} {l : Launch} {e : Env} {R : Room} {s : State} {m : MethodId} {args : Array Value} {below : List Frame} {meth : Method} {c : Code} {T0 : State} {locs : List Loc} {cells slots : Nat} {Z : State} {a0 : Array Value} (q0 q1 : Int64) (p2 p3 : Int32)
    (X0 : Stand p l e R s m args below meth c T0 locs cells slots) (hx : p.tables.exec = Jvm.exec) (hZ : Z.Warmed39 s.vm) (hw : ∀ d ∈ tables_1, d.before a0 Z = true) (hby : c.code = code) (hown : s.vm.findClass "com/example/commitwright/commitwright/driver/BackoffLongestNanosPinLaw" = some m.cls)  :
    ∀ target, Steps p.tables e below (T0.setTop (mkF m 59 #[.val (.long q0), .second, .val (.long q1), .second, .val (.int p2), .val (.int p3), .val (.long (9223372036854775807 : Int64)), .second, .val (.long (own_base q0)), .second, .val (.long (own_span q0)), .second, .val (.long (own_cap q0 q1)), .second, .val (.int (own_try p2 p3)), .unset, .unset, .unset, .unset, .unset] [])) target → Steps p.tables e below (T0.setTop (mkF m 37 #[.val (.long q0), .second, .val (.long q1), .second, .val (.int p2), .val (.int p3), .val (.long (9223372036854775807 : Int64)), .second, .val (.long (own_base q0)), .second, .val (.long (own_span q0)), .second, .val (.long (own_cap q0 q1)), .second, .unset, .unset, .unset, .unset, .unset, .unset] [])) target := by
  intro target kt
  by_cases hc41 : (p3 &&& (1 : Int32)) = (0 : Int32)
  · show Steps p.tables e below (T0.setTop (mkF m 37 #[.val (.long q0), .second, .val (.long q1), .second, .val (.int p2), .val (.int p3), .val (.long (9223372036854775807 : Int64)), .second, .val (.long (own_base q0)), .second, .val (.long (own_span q0)), .second, .val (.long (own_cap q0 q1)), .second, .unset, .unset, .unset, .unset, .unset, .unset] [])) _
    refine XS.iload X0.here hx rfl (hb hby at_37) rfl ?_
    show Steps p.tables e below (T0.setTop (mkF m 39 #[.val (.long q0), .second, .val (.long q1), .second, .val (.int p2), .val (.int p3), .val (.long (9223372036854775807 : Int64)), .second, .val (.long (own_base q0)), .second, .val (.long (own_span q0)), .second, .val (.long (own_cap q0 q1)), .second, .unset, .unset, .unset, .unset, .unset, .unset] [(.int p3)])) _
    refine XS.iconst X0.here hx rfl (hb hby at_39) ?_
    show Steps p.tables e below (T0.setTop (mkF m 40 #[.val (.long q0), .second, .val (.long q1), .second, .val (.int p2), .val (.int p3), .val (.long (9223372036854775807 : Int64)), .second, .val (.long (own_base q0)), .second, .val (.long (own_span q0)), .second, .val (.long (own_cap q0 q1)), .second, .unset, .unset, .unset, .unset, .unset, .unset] [(.int (1 : Int32)), (.int p3)])) _
    refine XS.iand X0.here hx rfl (hb hby at_40) rfl ?_
    show Steps p.tables e below (T0.setTop (mkF m 41 #[.val (.long q0), .second, .val (.long q1), .second, .val (.int p2), .val (.int p3), .val (.long (9223372036854775807 : Int64)), .second, .val (.long (own_base q0)), .second, .val (.long (own_span q0)), .second, .val (.long (own_cap q0 q1)), .second, .unset, .unset, .unset, .unset, .unset, .unset] [(.int (p3 &&& (1 : Int32)))])) _
    refine XS.ifYes X0.here hx rfl (pc0 := 41) (pc' := 52) rfl (hb hby at_41) rfl ((if0 _ _).trans (teq hc41).1) (by decide) (by decide) ?_
    show Steps p.tables e below (T0.setTop (mkF m 52 #[.val (.long q0), .second, .val (.long q1), .second, .val (.int p2), .val (.int p3), .val (.long (9223372036854775807 : Int64)), .second, .val (.long (own_base q0)), .second, .val (.long (own_span q0)), .second, .val (.long (own_cap q0 q1)), .second, .unset, .unset, .unset, .unset, .unset, .unset] [])) _
    refine XS.iload X0.here hx rfl (hb hby at_52) rfl ?_
    show Steps p.tables e below (T0.setTop (mkF m 54 #[.val (.long q0), .second, .val (.long q1), .second, .val (.int p2), .val (.int p3), .val (.long (9223372036854775807 : Int64)), .second, .val (.long (own_base q0)), .second, .val (.long (own_span q0)), .second, .val (.long (own_cap q0 q1)), .second, .unset, .unset, .unset, .unset, .unset, .unset] [(.int p2)])) _
    refine XS.bipush X0.here hx rfl (hb hby at_54) ?_
    show Steps p.tables e below (T0.setTop (mkF m 56 #[.val (.long q0), .second, .val (.long q1), .second, .val (.int p2), .val (.int p3), .val (.long (9223372036854775807 : Int64)), .second, .val (.long (own_base q0)), .second, .val (.long (own_span q0)), .second, .val (.long (own_cap q0 q1)), .second, .unset, .unset, .unset, .unset, .unset, .unset] [(.int (127 : Int32)), (.int p2)])) _
    refine XS.iand X0.here hx rfl (hb hby at_56) rfl ?_
    show Steps p.tables e below (T0.setTop (mkF m 57 #[.val (.long q0), .second, .val (.long q1), .second, .val (.int p2), .val (.int p3), .val (.long (9223372036854775807 : Int64)), .second, .val (.long (own_base q0)), .second, .val (.long (own_span q0)), .second, .val (.long (own_cap q0 q1)), .second, .unset, .unset, .unset, .unset, .unset, .unset] [(.int (p2 &&& (127 : Int32)))])) _
    refine XS.istore X0.here hx rfl (hb hby at_57) rfl (l' := #[.val (.long q0), .second, .val (.long q1), .second, .val (.int p2), .val (.int p3), .val (.long (9223372036854775807 : Int64)), .second, .val (.long (own_base q0)), .second, .val (.long (own_span q0)), .second, .val (.long (own_cap q0 q1)), .second, .val (.int (p2 &&& (127 : Int32))), .unset, .unset, .unset, .unset, .unset]) rfl ?_
    show Steps p.tables e below (T0.setTop (mkF m 59 #[.val (.long q0), .second, .val (.long q1), .second, .val (.int p2), .val (.int p3), .val (.long (9223372036854775807 : Int64)), .second, .val (.long (own_base q0)), .second, .val (.long (own_span q0)), .second, .val (.long (own_cap q0 q1)), .second, .val (.int (p2 &&& (127 : Int32))), .unset, .unset, .unset, .unset, .unset] [])) _
    have et : own_try p2 p3 = (p2 &&& (127 : Int32)) := by rw [own_try, if_pos hc41]
    rw [et] at kt
    exact kt
  · show Steps p.tables e below (T0.setTop (mkF m 37 #[.val (.long q0), .second, .val (.long q1), .second, .val (.int p2), .val (.int p3), .val (.long (9223372036854775807 : Int64)), .second, .val (.long (own_base q0)), .second, .val (.long (own_span q0)), .second, .val (.long (own_cap q0 q1)), .second, .unset, .unset, .unset, .unset, .unset, .unset] [])) _
    refine XS.iload X0.here hx rfl (hb hby at_37) rfl ?_
    show Steps p.tables e below (T0.setTop (mkF m 39 #[.val (.long q0), .second, .val (.long q1), .second, .val (.int p2), .val (.int p3), .val (.long (9223372036854775807 : Int64)), .second, .val (.long (own_base q0)), .second, .val (.long (own_span q0)), .second, .val (.long (own_cap q0 q1)), .second, .unset, .unset, .unset, .unset, .unset, .unset] [(.int p3)])) _
    refine XS.iconst X0.here hx rfl (hb hby at_39) ?_
    show Steps p.tables e below (T0.setTop (mkF m 40 #[.val (.long q0), .second, .val (.long q1), .second, .val (.int p2), .val (.int p3), .val (.long (9223372036854775807 : Int64)), .second, .val (.long (own_base q0)), .second, .val (.long (own_span q0)), .second, .val (.long (own_cap q0 q1)), .second, .unset, .unset, .unset, .unset, .unset, .unset] [(.int (1 : Int32)), (.int p3)])) _
    refine XS.iand X0.here hx rfl (hb hby at_40) rfl ?_
    show Steps p.tables e below (T0.setTop (mkF m 41 #[.val (.long q0), .second, .val (.long q1), .second, .val (.int p2), .val (.int p3), .val (.long (9223372036854775807 : Int64)), .second, .val (.long (own_base q0)), .second, .val (.long (own_span q0)), .second, .val (.long (own_cap q0 q1)), .second, .unset, .unset, .unset, .unset, .unset, .unset] [(.int (p3 &&& (1 : Int32)))])) _
    refine XS.ifNo X0.here hx rfl (hb hby at_41) rfl ((if0 _ _).trans (feq hc41).1) ?_
    show Steps p.tables e below (T0.setTop (mkF m 44 #[.val (.long q0), .second, .val (.long q1), .second, .val (.int p2), .val (.int p3), .val (.long (9223372036854775807 : Int64)), .second, .val (.long (own_base q0)), .second, .val (.long (own_span q0)), .second, .val (.long (own_cap q0 q1)), .second, .unset, .unset, .unset, .unset, .unset, .unset] [])) _
    refine XS.iload X0.here hx rfl (hb hby at_44) rfl ?_
    show Steps p.tables e below (T0.setTop (mkF m 46 #[.val (.long q0), .second, .val (.long q1), .second, .val (.int p2), .val (.int p3), .val (.long (9223372036854775807 : Int64)), .second, .val (.long (own_base q0)), .second, .val (.long (own_span q0)), .second, .val (.long (own_cap q0 q1)), .second, .unset, .unset, .unset, .unset, .unset, .unset] [(.int p2)])) _
    refine X0.ldcInt hx hown (mvT hZ (hw _ (List.mem_of_getElem? (i := 1) rfl))) (g := (mkF m 46 #[.val (.long q0), .second, .val (.long q1), .second, .val (.int p2), .val (.int p3), .val (.long (9223372036854775807 : Int64)), .second, .val (.long (own_base q0)), .second, .val (.long (own_span q0)), .second, .val (.long (own_cap q0 q1)), .second, .unset, .unset, .unset, .unset, .unset, .unset] [(.int p2)])) rfl (hb hby at_46) _ ?_
    show Steps p.tables e below (T0.setTop (mkF m 48 #[.val (.long q0), .second, .val (.long q1), .second, .val (.int p2), .val (.int p3), .val (.long (9223372036854775807 : Int64)), .second, .val (.long (own_base q0)), .second, .val (.long (own_span q0)), .second, .val (.long (own_cap q0 q1)), .second, .unset, .unset, .unset, .unset, .unset, .unset] [(.int (2147483647 : Int32)), (.int p2)])) _
    refine XS.iand X0.here hx rfl (hb hby at_48) rfl ?_
    show Steps p.tables e below (T0.setTop (mkF m 49 #[.val (.long q0), .second, .val (.long q1), .second, .val (.int p2), .val (.int p3), .val (.long (9223372036854775807 : Int64)), .second, .val (.long (own_base q0)), .second, .val (.long (own_span q0)), .second, .val (.long (own_cap q0 q1)), .second, .unset, .unset, .unset, .unset, .unset, .unset] [(.int (p2 &&& (2147483647 : Int32)))])) _
    refine XS.goto X0.here hx rfl (pc0 := 49) (pc' := 57) rfl (hb hby at_49) (by decide) (by decide) ?_
    show Steps p.tables e below (T0.setTop (mkF m 57 #[.val (.long q0), .second, .val (.long q1), .second, .val (.int p2), .val (.int p3), .val (.long (9223372036854775807 : Int64)), .second, .val (.long (own_base q0)), .second, .val (.long (own_span q0)), .second, .val (.long (own_cap q0 q1)), .second, .unset, .unset, .unset, .unset, .unset, .unset] [(.int (p2 &&& (2147483647 : Int32)))])) _
    refine XS.istore X0.here hx rfl (hb hby at_57) rfl (l' := #[.val (.long q0), .second, .val (.long q1), .second, .val (.int p2), .val (.int p3), .val (.long (9223372036854775807 : Int64)), .second, .val (.long (own_base q0)), .second, .val (.long (own_span q0)), .second, .val (.long (own_cap q0 q1)), .second, .val (.int (p2 &&& (2147483647 : Int32))), .unset, .unset, .unset, .unset, .unset]) rfl ?_
    show Steps p.tables e below (T0.setTop (mkF m 59 #[.val (.long q0), .second, .val (.long q1), .second, .val (.int p2), .val (.int p3), .val (.long (9223372036854775807 : Int64)), .second, .val (.long (own_base q0)), .second, .val (.long (own_span q0)), .second, .val (.long (own_cap q0 q1)), .second, .val (.int (p2 &&& (2147483647 : Int32))), .unset, .unset, .unset, .unset, .unset] [])) _
    have et : own_try p2 p3 = (p2 &&& (2147483647 : Int32)) := by rw [own_try, if_neg hc41]
    rw [et] at kt
    exact kt
theorem ef_0 (m : MethodId) (x0 : Int64) (x1 : Int64) (x2 : Int32) (x3 : Int32) : entryFrame m #[(.long x0), (.long x1), (.int x2), (.int x3)] maxLocals = mkF m 0 #[.val (.long x0), .second, .val (.long x1), .second, .val (.int x2), .val (.int x3), .unset, .unset, .unset, .unset, .unset, .unset, .unset, .unset, .unset, .unset, .unset, .unset, .unset, .unset] [] := by first | (simp [entryFrame, mkF, argsToLocals, Value.category, maxLocals]; done) | rfl
theorem pd_28JJI29J : parseMethodDescriptor "(JJI)J" = some ⟨[.long, .long, .int], some .long⟩ := by decide +kernel
theorem pd_28JJ29V : parseMethodDescriptor "(JJ)V" = some ⟨[.long, .long], none⟩ := by decide +kernel
theorem pd_28I29J : parseMethodDescriptor "(I)J" = some ⟨[.int], some .long⟩ := by decide +kernel
def Q0 (Z : State) (q0 : Int64) (q1 : Int64) (p2 : Int32) (p3 : Int32) (h0 : Heap) (n0 : Nat) (v : Option Value) (h : Heap) (L : List Loc) : Prop := v = some (.int 1) ∧ Fr n0 L
set_option maxRecDepth 65536 in
set_option maxHeartbeats 40000000 in
theorem rm0 (l : Launch) (Z : State) (a0 : Array Value) (hw : ∀ d ∈ tables_1, d.before a0 Z = true) (ws : List Jvm.Cond) (q0 : Int64) (q1 : Int64) (p2 : Int32) (p3 : Int32) (h0 : Heap) (n0 : Nat) (Z0 : n0 ≤ h0.size)  :
    MetFree l x (head1 (Jvm.Cond.code x code maxLocals ret :: ws) room_1) (fun a U => a = #[(.long q0), (.long q1), (.int p2), (.int p3)] ∧ Z.Warmed39 U.vm ∧ U.heap = h0) (fun _ _ _ _ _ => True) (fun _ U o U' => ∃ v L, o = .returned v ∧ Q0 Z q0 q1 p2 p3 h0 n0 v U'.heap L ∧ FrameEnd U o U' L room_1.cells room_1.slots) := by
  refine MetFree.of_bodySF (plainFor_of_name pn_com_example_commitwright_commitwright_driver_BackoffLongestNanosPinLaw) hisR ?_
  intro p e s m args below meth c s₁ Bd hml0 hP hK
  obtain ⟨rfl, hZ, hh⟩ := hP
  have hx := Bd.exec
  have hby := Bd.bytes
  have hml : c.maxLocals = 20 := hml0
  have hown : s.vm.findClass "com/example/commitwright/commitwright/driver/BackoffLongestNanosPinLaw" = some m.cls := findClass_of_methodNamed Bd.named
  have hnm := (name_of_methodNamed Bd.named Bd.method).1
  have X0 : Stand p l e room_1 s m #[(.long q0), (.long q1), (.int p2), (.int p3)] below meth c s₁ [] 0 0 := Stand.of_body Bd
  have e0 : s₁.heap = h0 := by rw [← hh, Bd.state]; rfl
  have N0 := Fr.nil n0
  have pre0 : ∀ t, Steps p.tables e below (s₁.setTop (mkF m 0 #[.val (.long q0), .second, .val (.long q1), .second, .val (.int p2), .val (.int p3), .unset, .unset, .unset, .unset, .unset, .unset, .unset, .unset, .unset, .unset, .unset, .unset, .unset, .unset] [])) t → Steps p.tables e below (s₁.setTop (entryFrame m #[(.long q0), (.long q1), (.int p2), (.int p3)] maxLocals)) t := fun t k => castTop (ef_0 m q0 q1 p2 p3) k
  have sp0 := pc_16 q0 q1 p2 p3 X0 hx hZ hw hby hown
  have sp1 := pc_25 q0 q1 p2 p3 X0 hx hZ hw hby hown
  have sp2 := pc_37 q0 q1 p2 p3 X0 hx hZ hw hby hown
  have sp3 := pc_59 q0 q1 p2 p3 X0 hx hZ hw hby hown
  obtain ⟨_, _, ⟨T1, L1, k1, n1⟩, -, X1, ⟨Lc1, hQ1, l1, y1, z1⟩, st1⟩ := Jvm.LawKit.callS X0 hx (y := (⟨"com/example/commitwright/commitwright/driver/BackoffLongestNanosPinLaw", "reference", "(JJI)J"⟩ : MethodName)) hown (mvT hZ (hw _ (List.mem_of_getElem? (i := 2) rfl))) (mvT hZ (hw _ (List.mem_of_getElem? (i := 3) rfl))) (mvT hZ (hw _ (List.mem_of_getElem? (i := 4) rfl))) (mvT hZ (hw _ (List.mem_of_getElem? (i := 5) rfl))) (by decide) (backOf (W := 0) (rm1 l Z a0 hw [] (own_base q0) (own_cap q0 q1) (own_try p2 p3) h0 n0 Z0) hZ (hw _ (List.mem_of_getElem? (i := 5) rfl)) (hw _ (List.mem_of_getElem? (i := 4) rfl)) (by decide) (by decide)) (g := (mkF m 65 #[.val (.long q0), .second, .val (.long q1), .second, .val (.int p2), .val (.int p3), .val (.long (9223372036854775807 : Int64)), .second, .val (.long (own_base q0)), .second, .val (.long (own_span q0)), .second, .val (.long (own_cap q0 q1)), .second, .val (.int (own_try p2 p3)), .unset, .unset, .unset, .unset, .unset] [(.int (own_try p2 p3)), (.long (own_cap q0 q1)), (.long (own_base q0))])) rfl (by rw [hml]; rfl) (argsL := [(.long (own_base q0)), (.long (own_cap q0 q1)), (.int (own_try p2 p3))]) (rest := []) (lenOf pd_28JJI29J rfl) rfl (by show 2 * 0 + _ ≤ _; exact Nat.le_of_eq rfl) (hb hby at_65) (fun _ _ => ⟨rfl, e0, (by decide : 0 + 0 ≤ _), (by decide : 0 + 0 ≤ _)⟩)
  dsimp only [Pt.U, Pt.locs, Pt.cells, Pt.slots] at X1 l1 y1 z1 st1 hQ1
  subst l1 y1 z1
  obtain ⟨rfl, N1q, e1⟩ := hQ1
  have N1 := Fr.app N0 N1q
  obtain ⟨T2, h2, X2, e2, E2, A2, D2, -, st2⟩ := newO X1 hx hZ hown (hw _ (List.mem_of_getElem? (i := 10) rfl)) (hw _ (List.mem_of_getElem? (i := 11) rfl)) (hw _ (List.mem_of_getElem? (i := 12) rfl)) e1 (g := (mkF m 70 #[.val (.long q0), .second, .val (.long q1), .second, .val (.int p2), .val (.int p3), .val (.long (9223372036854775807 : Int64)), .second, .val (.long (own_base q0)), .second, .val (.long (own_span q0)), .second, .val (.long (own_cap q0 q1)), .second, .val (.int (own_try p2 p3)), .val (.long (own_ref (own_base q0) (own_cap q0 q1) (own_try p2 p3))), .second, .unset, .unset, .unset] [])) rfl (hb hby at_70) (by decide) (by decide)
  obtain ⟨b2, g2⟩ : ∃ z, z = h0.size := ⟨_, rfl⟩
  rw [← g2] at A2 D2 st2
  have g_b2 : n0 ≤ b2 := Nat.le_trans Z0 (Nat.le_of_eq g2.symm)
  have Z2 : n0 ≤ h2.size := Nat.le_trans Z0 E2.1
  have F_baseNanos_b2_at2 : Fld Z h2 b2 "com/example/commitwright/commitwright/driver/Backoff" "baseNanos" "J" (.long (0 : Int64)) := D2 (Or.inr (hw _ (List.mem_of_getElem? (i := 25) rfl))) (ty := .long) (by decide)
  have F_capNanos_b2_at2 : Fld Z h2 b2 "com/example/commitwright/commitwright/driver/Backoff" "capNanos" "J" (.long (0 : Int64)) := D2 (Or.inr (hw _ (List.mem_of_getElem? (i := 27) rfl))) (ty := .long) (by decide)
  have E_b2_at2 : Exa Z h2 b2 "com/example/commitwright/commitwright/driver/Backoff" := A2
  obtain ⟨_, _, ⟨T3, L3, k3, n3⟩, -, X3, ⟨Lc3, hQ3, l3, y3, z3⟩, st3⟩ := X2.specialBack hx (y := (⟨"com/example/commitwright/commitwright/driver/Backoff", "<init>", "(JJ)V"⟩ : MethodName)) rfl hown (mvT hZ (hw _ (List.mem_of_getElem? (i := 13) rfl))) (mvT hZ (hw _ (List.mem_of_getElem? (i := 14) rfl))) (mvT hZ (hw _ (List.mem_of_getElem? (i := 15) rfl))) (by decide) (backOf (W := 1) (rm3 l Z a0 hw [] b2 (own_base q0) (own_cap q0 q1) h2 n0 Z2 E_b2_at2 F_baseNanos_b2_at2 F_capNanos_b2_at2 g_b2) hZ (hw _ (List.mem_of_getElem? (i := 15) rfl)) (hw _ (List.mem_of_getElem? (i := 12) rfl)) (by decide) (by decide)) (g := (mkF m 78 #[.val (.long q0), .second, .val (.long q1), .second, .val (.int p2), .val (.int p3), .val (.long (9223372036854775807 : Int64)), .second, .val (.long (own_base q0)), .second, .val (.long (own_span q0)), .second, .val (.long (own_cap q0 q1)), .second, .val (.int (own_try p2 p3)), .val (.long (own_ref (own_base q0) (own_cap q0 q1) (own_try p2 p3))), .second, .unset, .unset, .unset] [(.long (own_cap q0 q1)), (.long (own_base q0)), (.ref b2), (.ref b2)])) rfl (by rw [hml]; rfl) (Steps.refl _) (a := b2) (argsL := [(.long (own_base q0)), (.long (own_cap q0 q1))]) (rest := [(.ref b2)]) (lenOf pd_28JJ29V rfl) rfl (by show 2 * 0 + _ ≤ _; exact Nat.le_of_eq rfl) (hb hby at_78) (fun _ _ => ⟨rfl, e2, (by decide : 1 + 0 ≤ _), (by decide : 2 + 0 ≤ _)⟩)
  dsimp only [Pt.U, Pt.locs, Pt.cells, Pt.slots] at X3 l3 y3 z3 st3 hQ3
  subst l3 y3 z3
  obtain ⟨rfl, N3q, KK3, FB3, FC3⟩ := hQ3
  obtain ⟨h3, e3⟩ : ∃ z, T3.heap = z := ⟨_, rfl⟩
  rw [e3] at KK3 FB3 FC3
  have E_b2_at3 : Exa Z h3 b2 "com/example/commitwright/commitwright/driver/Backoff" := E_b2_at2.keep KK3
  have Z3 : n0 ≤ h3.size := Nat.le_trans Z2 KK3.1
  have N3 := Fr.app N1 N3q
  obtain ⟨cq4, kq4, q4a, q4b, q4c⟩ := isOf hZ e3 E_b2_at3
  obtain ⟨_, _, ⟨T4, L4, k4, n4⟩, -, X4, ⟨Lc4, hQ4, l4, y4, z4⟩, st4⟩ := X3.virtualBack hx (y := (⟨"com/example/commitwright/commitwright/driver/Backoff", "longestNanos", "(I)J"⟩ : MethodName)) (z := (⟨"com/example/commitwright/commitwright/driver/Backoff", "longestNanos", "(I)J"⟩ : MethodName)) hown (mvT hZ (hw _ (List.mem_of_getElem? (i := 28) rfl))) (mvT hZ (hw _ (List.mem_of_getElem? (i := 29) rfl))) (notFace_of_selects (args := #[]) (mvT hZ (hw _ (List.mem_of_getElem? (i := 31) rfl)))) (mvT hZ (hw _ (List.mem_of_getElem? (i := 31) rfl))) (mvT hZ (hw _ (List.mem_of_getElem? (i := 30) rfl))) (by decide) (backOf (W := 0) (rm6 l Z a0 hw [] b2 (own_try p2 p3) (own_base q0) (own_cap q0 q1) h3 n0 Z3 FB3 FC3) hZ (hw _ (List.mem_of_getElem? (i := 32) rfl)) (hw _ (List.mem_of_getElem? (i := 12) rfl)) (by decide) (by decide)) q4a q4c (g := (mkF m 87 #[.val (.long q0), .second, .val (.long q1), .second, .val (.int p2), .val (.int p3), .val (.long (9223372036854775807 : Int64)), .second, .val (.long (own_base q0)), .second, .val (.long (own_span q0)), .second, .val (.long (own_cap q0 q1)), .second, .val (.int (own_try p2 p3)), .val (.long (own_ref (own_base q0) (own_cap q0 q1) (own_try p2 p3))), .second, .val (.ref b2), .unset, .unset] [(.int (own_try p2 p3)), (.ref b2)])) rfl (by rw [hml]; rfl) (Steps.refl _) (argsL := [(.int (own_try p2 p3))]) (rest := []) (lenOf pd_28I29J rfl) rfl (by show 2 * 0 + _ ≤ _; exact Nat.le_of_eq rfl) (hb hby at_87) (fun _ _ => ⟨rfl, e3, (by decide : 1 + 0 ≤ _), (by decide : 2 + 0 ≤ _)⟩)
  dsimp only [Pt.U, Pt.locs, Pt.cells, Pt.slots] at X4 l4 y4 z4 st4 hQ4
  subst l4 y4 z4
  obtain ⟨rfl, N4q, e4⟩ := hQ4
  have N4 := Fr.app N3 N4q
  obtain ⟨fs, hr, hrun, hended, hW, hsame⟩ := X4.leave (v := some (.int (1 : Int32))) (fun h => by rw [Bd.returns] at h; cases h)
  refine ⟨_, _, pre0 _ ?_, hrun, hended, _, _, rfl, ?_, ⟨_, rfl⟩, hW, hsame.mono (by decide) (by decide)⟩
  · show Steps p.tables e below (s₁.setTop (mkF m 0 #[.val (.long q0), .second, .val (.long q1), .second, .val (.int p2), .val (.int p3), .unset, .unset, .unset, .unset, .unset, .unset, .unset, .unset, .unset, .unset, .unset, .unset, .unset, .unset] [])) _
    refine sp0 _ ?_
    show Steps p.tables e below (s₁.setTop (mkF m 16 #[.val (.long q0), .second, .val (.long q1), .second, .val (.int p2), .val (.int p3), .val (.long (9223372036854775807 : Int64)), .second, .val (.long (own_base q0)), .second, .unset, .unset, .unset, .unset, .unset, .unset, .unset, .unset, .unset, .unset] [])) _
    refine sp1 _ ?_
    show Steps p.tables e below (s₁.setTop (mkF m 25 #[.val (.long q0), .second, .val (.long q1), .second, .val (.int p2), .val (.int p3), .val (.long (9223372036854775807 : Int64)), .second, .val (.long (own_base q0)), .second, .val (.long (own_span q0)), .second, .unset, .unset, .unset, .unset, .unset, .unset, .unset, .unset] [])) _
    refine sp2 _ ?_
    show Steps p.tables e below (s₁.setTop (mkF m 37 #[.val (.long q0), .second, .val (.long q1), .second, .val (.int p2), .val (.int p3), .val (.long (9223372036854775807 : Int64)), .second, .val (.long (own_base q0)), .second, .val (.long (own_span q0)), .second, .val (.long (own_cap q0 q1)), .second, .unset, .unset, .unset, .unset, .unset, .unset] [])) _
    refine sp3 _ ?_
    show Steps p.tables e below (s₁.setTop (mkF m 59 #[.val (.long q0), .second, .val (.long q1), .second, .val (.int p2), .val (.int p3), .val (.long (9223372036854775807 : Int64)), .second, .val (.long (own_base q0)), .second, .val (.long (own_span q0)), .second, .val (.long (own_cap q0 q1)), .second, .val (.int (own_try p2 p3)), .unset, .unset, .unset, .unset, .unset] [])) _
    refine XS.lload X0.here hx rfl (hb hby at_59) rfl ?_
    show Steps p.tables e below (s₁.setTop (mkF m 61 #[.val (.long q0), .second, .val (.long q1), .second, .val (.int p2), .val (.int p3), .val (.long (9223372036854775807 : Int64)), .second, .val (.long (own_base q0)), .second, .val (.long (own_span q0)), .second, .val (.long (own_cap q0 q1)), .second, .val (.int (own_try p2 p3)), .unset, .unset, .unset, .unset, .unset] [(.long (own_base q0))])) _
    refine XS.lload X0.here hx rfl (hb hby at_61) rfl ?_
    show Steps p.tables e below (s₁.setTop (mkF m 63 #[.val (.long q0), .second, .val (.long q1), .second, .val (.int p2), .val (.int p3), .val (.long (9223372036854775807 : Int64)), .second, .val (.long (own_base q0)), .second, .val (.long (own_span q0)), .second, .val (.long (own_cap q0 q1)), .second, .val (.int (own_try p2 p3)), .unset, .unset, .unset, .unset, .unset] [(.long (own_cap q0 q1)), (.long (own_base q0))])) _
    refine XS.iload X0.here hx rfl (hb hby at_63) rfl ?_
    show Steps p.tables e below (s₁.setTop (mkF m 65 #[.val (.long q0), .second, .val (.long q1), .second, .val (.int p2), .val (.int p3), .val (.long (9223372036854775807 : Int64)), .second, .val (.long (own_base q0)), .second, .val (.long (own_span q0)), .second, .val (.long (own_cap q0 q1)), .second, .val (.int (own_try p2 p3)), .unset, .unset, .unset, .unset, .unset] [(.int (own_try p2 p3)), (.long (own_cap q0 q1)), (.long (own_base q0))])) _
    refine st1 _ ?_
    show Steps p.tables e below (T1.setTop (mkF m 68 #[.val (.long q0), .second, .val (.long q1), .second, .val (.int p2), .val (.int p3), .val (.long (9223372036854775807 : Int64)), .second, .val (.long (own_base q0)), .second, .val (.long (own_span q0)), .second, .val (.long (own_cap q0 q1)), .second, .val (.int (own_try p2 p3)), .unset, .unset, .unset, .unset, .unset] [(.long (own_ref (own_base q0) (own_cap q0 q1) (own_try p2 p3)))])) _
    refine XS.lstore X1.here hx rfl (hb hby at_68) rfl (l' := #[.val (.long q0), .second, .val (.long q1), .second, .val (.int p2), .val (.int p3), .val (.long (9223372036854775807 : Int64)), .second, .val (.long (own_base q0)), .second, .val (.long (own_span q0)), .second, .val (.long (own_cap q0 q1)), .second, .val (.int (own_try p2 p3)), .val (.long (own_ref (own_base q0) (own_cap q0 q1) (own_try p2 p3))), .second, .unset, .unset, .unset]) rfl ?_
    show Steps p.tables e below (T1.setTop (mkF m 70 #[.val (.long q0), .second, .val (.long q1), .second, .val (.int p2), .val (.int p3), .val (.long (9223372036854775807 : Int64)), .second, .val (.long (own_base q0)), .second, .val (.long (own_span q0)), .second, .val (.long (own_cap q0 q1)), .second, .val (.int (own_try p2 p3)), .val (.long (own_ref (own_base q0) (own_cap q0 q1) (own_try p2 p3))), .second, .unset, .unset, .unset] [])) _
    refine st2 _ ?_
    show Steps p.tables e below (T2.setTop (mkF m 73 #[.val (.long q0), .second, .val (.long q1), .second, .val (.int p2), .val (.int p3), .val (.long (9223372036854775807 : Int64)), .second, .val (.long (own_base q0)), .second, .val (.long (own_span q0)), .second, .val (.long (own_cap q0 q1)), .second, .val (.int (own_try p2 p3)), .val (.long (own_ref (own_base q0) (own_cap q0 q1) (own_try p2 p3))), .second, .unset, .unset, .unset] [(.ref b2)])) _
    refine XS.dup X2.here hx rfl (hb hby at_73) rfl rfl ?_
    show Steps p.tables e below (T2.setTop (mkF m 74 #[.val (.long q0), .second, .val (.long q1), .second, .val (.int p2), .val (.int p3), .val (.long (9223372036854775807 : Int64)), .second, .val (.long (own_base q0)), .second, .val (.long (own_span q0)), .second, .val (.long (own_cap q0 q1)), .second, .val (.int (own_try p2 p3)), .val (.long (own_ref (own_base q0) (own_cap q0 q1) (own_try p2 p3))), .second, .unset, .unset, .unset] [(.ref b2), (.ref b2)])) _
    refine XS.lload X2.here hx rfl (hb hby at_74) rfl ?_
    show Steps p.tables e below (T2.setTop (mkF m 76 #[.val (.long q0), .second, .val (.long q1), .second, .val (.int p2), .val (.int p3), .val (.long (9223372036854775807 : Int64)), .second, .val (.long (own_base q0)), .second, .val (.long (own_span q0)), .second, .val (.long (own_cap q0 q1)), .second, .val (.int (own_try p2 p3)), .val (.long (own_ref (own_base q0) (own_cap q0 q1) (own_try p2 p3))), .second, .unset, .unset, .unset] [(.long (own_base q0)), (.ref b2), (.ref b2)])) _
    refine XS.lload X2.here hx rfl (hb hby at_76) rfl ?_
    show Steps p.tables e below (T2.setTop (mkF m 78 #[.val (.long q0), .second, .val (.long q1), .second, .val (.int p2), .val (.int p3), .val (.long (9223372036854775807 : Int64)), .second, .val (.long (own_base q0)), .second, .val (.long (own_span q0)), .second, .val (.long (own_cap q0 q1)), .second, .val (.int (own_try p2 p3)), .val (.long (own_ref (own_base q0) (own_cap q0 q1) (own_try p2 p3))), .second, .unset, .unset, .unset] [(.long (own_cap q0 q1)), (.long (own_base q0)), (.ref b2), (.ref b2)])) _
    refine st3.trans ?_
    show Steps p.tables e below (T3.setTop (mkF m 81 #[.val (.long q0), .second, .val (.long q1), .second, .val (.int p2), .val (.int p3), .val (.long (9223372036854775807 : Int64)), .second, .val (.long (own_base q0)), .second, .val (.long (own_span q0)), .second, .val (.long (own_cap q0 q1)), .second, .val (.int (own_try p2 p3)), .val (.long (own_ref (own_base q0) (own_cap q0 q1) (own_try p2 p3))), .second, .unset, .unset, .unset] [(.ref b2)])) _
    refine XS.astore X3.here hx rfl (hb hby at_81) rfl rfl (l' := #[.val (.long q0), .second, .val (.long q1), .second, .val (.int p2), .val (.int p3), .val (.long (9223372036854775807 : Int64)), .second, .val (.long (own_base q0)), .second, .val (.long (own_span q0)), .second, .val (.long (own_cap q0 q1)), .second, .val (.int (own_try p2 p3)), .val (.long (own_ref (own_base q0) (own_cap q0 q1) (own_try p2 p3))), .second, .val (.ref b2), .unset, .unset]) rfl ?_
    show Steps p.tables e below (T3.setTop (mkF m 83 #[.val (.long q0), .second, .val (.long q1), .second, .val (.int p2), .val (.int p3), .val (.long (9223372036854775807 : Int64)), .second, .val (.long (own_base q0)), .second, .val (.long (own_span q0)), .second, .val (.long (own_cap q0 q1)), .second, .val (.int (own_try p2 p3)), .val (.long (own_ref (own_base q0) (own_cap q0 q1) (own_try p2 p3))), .second, .val (.ref b2), .unset, .unset] [])) _
    refine XS.aload X3.here hx rfl (hb hby at_83) rfl rfl ?_
    show Steps p.tables e below (T3.setTop (mkF m 85 #[.val (.long q0), .second, .val (.long q1), .second, .val (.int p2), .val (.int p3), .val (.long (9223372036854775807 : Int64)), .second, .val (.long (own_base q0)), .second, .val (.long (own_span q0)), .second, .val (.long (own_cap q0 q1)), .second, .val (.int (own_try p2 p3)), .val (.long (own_ref (own_base q0) (own_cap q0 q1) (own_try p2 p3))), .second, .val (.ref b2), .unset, .unset] [(.ref b2)])) _
    refine XS.iload X3.here hx rfl (hb hby at_85) rfl ?_
    show Steps p.tables e below (T3.setTop (mkF m 87 #[.val (.long q0), .second, .val (.long q1), .second, .val (.int p2), .val (.int p3), .val (.long (9223372036854775807 : Int64)), .second, .val (.long (own_base q0)), .second, .val (.long (own_span q0)), .second, .val (.long (own_cap q0 q1)), .second, .val (.int (own_try p2 p3)), .val (.long (own_ref (own_base q0) (own_cap q0 q1) (own_try p2 p3))), .second, .val (.ref b2), .unset, .unset] [(.int (own_try p2 p3)), (.ref b2)])) _
    refine st4.trans ?_
    show Steps p.tables e below (T4.setTop (mkF m 90 #[.val (.long q0), .second, .val (.long q1), .second, .val (.int p2), .val (.int p3), .val (.long (9223372036854775807 : Int64)), .second, .val (.long (own_base q0)), .second, .val (.long (own_span q0)), .second, .val (.long (own_cap q0 q1)), .second, .val (.int (own_try p2 p3)), .val (.long (own_ref (own_base q0) (own_cap q0 q1) (own_try p2 p3))), .second, .val (.ref b2), .unset, .unset] [(.long (own_ln (own_base q0) (own_cap q0 q1) (own_try p2 p3)))])) _
    refine XS.lstore X4.here hx rfl (hb hby at_90) rfl (l' := #[.val (.long q0), .second, .val (.long q1), .second, .val (.int p2), .val (.int p3), .val (.long (9223372036854775807 : Int64)), .second, .val (.long (own_base q0)), .second, .val (.long (own_span q0)), .second, .val (.long (own_cap q0 q1)), .second, .val (.int (own_try p2 p3)), .val (.long (own_ref (own_base q0) (own_cap q0 q1) (own_try p2 p3))), .second, .val (.ref b2), .val (.long (own_ln (own_base q0) (own_cap q0 q1) (own_try p2 p3))), .second]) rfl ?_
    show Steps p.tables e below (T4.setTop (mkF m 92 #[.val (.long q0), .second, .val (.long q1), .second, .val (.int p2), .val (.int p3), .val (.long (9223372036854775807 : Int64)), .second, .val (.long (own_base q0)), .second, .val (.long (own_span q0)), .second, .val (.long (own_cap q0 q1)), .second, .val (.int (own_try p2 p3)), .val (.long (own_ref (own_base q0) (own_cap q0 q1) (own_try p2 p3))), .second, .val (.ref b2), .val (.long (own_ln (own_base q0) (own_cap q0 q1) (own_try p2 p3))), .second] [])) _
    refine XS.lload X4.here hx rfl (hb hby at_92) rfl ?_
    show Steps p.tables e below (T4.setTop (mkF m 94 #[.val (.long q0), .second, .val (.long q1), .second, .val (.int p2), .val (.int p3), .val (.long (9223372036854775807 : Int64)), .second, .val (.long (own_base q0)), .second, .val (.long (own_span q0)), .second, .val (.long (own_cap q0 q1)), .second, .val (.int (own_try p2 p3)), .val (.long (own_ref (own_base q0) (own_cap q0 q1) (own_try p2 p3))), .second, .val (.ref b2), .val (.long (own_ln (own_base q0) (own_cap q0 q1) (own_try p2 p3))), .second] [(.long (own_ln (own_base q0) (own_cap q0 q1) (own_try p2 p3)))])) _
    refine XS.lload X4.here hx rfl (hb hby at_94) rfl ?_
    show Steps p.tables e below (T4.setTop (mkF m 96 #[.val (.long q0), .second, .val (.long q1), .second, .val (.int p2), .val (.int p3), .val (.long (9223372036854775807 : Int64)), .second, .val (.long (own_base q0)), .second, .val (.long (own_span q0)), .second, .val (.long (own_cap q0 q1)), .second, .val (.int (own_try p2 p3)), .val (.long (own_ref (own_base q0) (own_cap q0 q1) (own_try p2 p3))), .second, .val (.ref b2), .val (.long (own_ln (own_base q0) (own_cap q0 q1) (own_try p2 p3))), .second] [(.long (own_ref (own_base q0) (own_cap q0 q1) (own_try p2 p3))), (.long (own_ln (own_base q0) (own_cap q0 q1) (own_try p2 p3)))])) _
    refine XS.lcmp X4.here hx rfl (hb hby at_96) rfl ?_
    show Steps p.tables e below (T4.setTop (mkF m 97 #[.val (.long q0), .second, .val (.long q1), .second, .val (.int p2), .val (.int p3), .val (.long (9223372036854775807 : Int64)), .second, .val (.long (own_base q0)), .second, .val (.long (own_span q0)), .second, .val (.long (own_cap q0 q1)), .second, .val (.int (own_try p2 p3)), .val (.long (own_ref (own_base q0) (own_cap q0 q1) (own_try p2 p3))), .second, .val (.ref b2), .val (.long (own_ln (own_base q0) (own_cap q0 q1) (own_try p2 p3))), .second] [(.int (lcmpW (own_ln (own_base q0) (own_cap q0 q1) (own_try p2 p3)) (own_ref (own_base q0) (own_cap q0 q1) (own_try p2 p3))))])) _
    refine XS.ifNo X4.here hx rfl (hb hby at_97) rfl ((if0 _ _).trans (teq ((lw_eq _ _).mpr (own_main (own_baseI q0).1 (own_capI q0 q1) (own_tryI p2 p3)))).2) ?_
    show Steps p.tables e below (T4.setTop (mkF m 100 #[.val (.long q0), .second, .val (.long q1), .second, .val (.int p2), .val (.int p3), .val (.long (9223372036854775807 : Int64)), .second, .val (.long (own_base q0)), .second, .val (.long (own_span q0)), .second, .val (.long (own_cap q0 q1)), .second, .val (.int (own_try p2 p3)), .val (.long (own_ref (own_base q0) (own_cap q0 q1) (own_try p2 p3))), .second, .val (.ref b2), .val (.long (own_ln (own_base q0) (own_cap q0 q1) (own_try p2 p3))), .second] [])) _
    refine XS.iconst X4.here hx rfl (hb hby at_100) ?_
    show Steps p.tables e below (T4.setTop (mkF m 101 #[.val (.long q0), .second, .val (.long q1), .second, .val (.int p2), .val (.int p3), .val (.long (9223372036854775807 : Int64)), .second, .val (.long (own_base q0)), .second, .val (.long (own_span q0)), .second, .val (.long (own_cap q0 q1)), .second, .val (.int (own_try p2 p3)), .val (.long (own_ref (own_base q0) (own_cap q0 q1) (own_try p2 p3))), .second, .val (.ref b2), .val (.long (own_ln (own_base q0) (own_cap q0 q1) (own_try p2 p3))), .second] [(.int (1 : Int32))])) _
    refine XS.goto X4.here hx rfl (pc0 := 101) (pc' := 105) rfl (hb hby at_101) (by decide) (by decide) ?_
    show Steps p.tables e below (T4.setTop (mkF m 105 #[.val (.long q0), .second, .val (.long q1), .second, .val (.int p2), .val (.int p3), .val (.long (9223372036854775807 : Int64)), .second, .val (.long (own_base q0)), .second, .val (.long (own_span q0)), .second, .val (.long (own_cap q0 q1)), .second, .val (.int (own_try p2 p3)), .val (.long (own_ref (own_base q0) (own_cap q0 q1) (own_try p2 p3))), .second, .val (.ref b2), .val (.long (own_ln (own_base q0) (own_cap q0 q1) (own_try p2 p3))), .second] [(.int (1 : Int32))])) _
    exact retN X4 hx (t := .boolean) Bd.returns (by simp) (hb hby at_105) hr
  · show Q0 Z q0 q1 p2 p3 h0 n0 _ T4.heap _
    rw [e4]
    exact ⟨rfl, N4⟩
set_option maxRecDepth 65536 in
set_option maxHeartbeats 40000000 in
theorem comes_1 {Post : Tables → Env → Array Value → State → Outcome → State → Prop} (hpost : ∀ tb e args s v u, (limb_1_1.after args s (.returned v) u = true ∧ limb_1_2.after args s (.returned v) u = true ∧ True) → FrameEnd s (.returned v) u (Jvm.fieldLocs frame_1_writes args s ++ Jvm.arrayLocs frame_1_arrays args s ++ Jvm.staticLocs frame_1_statics s) 16 128 → Post tb e args s (.returned v) u) :
    ArmFor flags0 classFile x code maxLocals ret World_1 tables_1 room_1 Calls_1 rest_1 Pre_1 Post := by
  intro l hfl _ _ p e ha hc hk s m args below hf hA hF happ hP
  obtain ⟨hcalls, hrest, hpre⟩ := hP
  obtain ⟨-, -, -, hnamed, -, -, -, hat⟩ := (Spec.applies_iff hf).mp happ
  obtain ⟨hg, hn⟩ := and_e (Cond.before_iff.mp (show (Jvm.Cond.and given_1 narrow_1).before args s = true from hpre))
  obtain ⟨gc, g0⟩ := and_e hg
  obtain ⟨ga0, g1⟩ := and_e g0
  obtain ⟨ga1, g2⟩ := and_e g1
  obtain ⟨ga2, g3⟩ := and_e g2
  obtain ⟨w0, w1, w2, w3, rfl⟩ : ∃ w0 w1 w2 w3 : Value, args = #[w0, w1, w2, w3] := by
    have hs : args.size = 4 := by simpa [Cond.value, given_1] using gc
    obtain ⟨L⟩ := args
    match L, hs with
    | [w0, w1, w2, w3], _ => exact ⟨w0, w1, w2, w3, rfl⟩
  have hw := fun d (hd : d ∈ tables_1) => atoms_spec (ws := Jvm.Cond.code x code maxLocals ret :: tables_1) hat d (List.mem_cons_of_mem _ hd)
  obtain ⟨i0, ei0⟩ := isL_v ga0
  obtain rfl : w0 = (.long i0) := Option.some.inj ei0
  obtain ⟨i1, ei1⟩ := isL_v ga1
  obtain rfl : w1 = (.long i1) := Option.some.inj ei1
  obtain ⟨i2, ei2⟩ := is_v ga2
  obtain rfl : w2 = (.int i2) := Option.some.inj ei2
  obtain ⟨i3, ei3⟩ := is_v g3
  obtain rfl : w3 = (.int i3) := Option.some.inj ei3
  obtain ⟨n, o, h1, h2, h3, _, L, rfl, ⟨rfl, N⟩, hq⟩ := rm0 l s _ hw tables_1 i0 i1 i2 i3  s.heap s.heap.size (Nat.le_refl _)  p e ha hc hk s m _ below hf ((Spec.applies_iff_loose hf).mp happ).1 ⟨rfl, State.Warmed39.refl s, rfl⟩ trivial
  refine ⟨n, _, h1, h2, h3, hpost _ _ _ _ _ _ ⟨Cond.after_iff.mpr rfl, Cond.after_iff.mpr (eq_i res_at (Term.int_eval (1)) rfl), trivial⟩ ⟨hq.1, hq.2.1, (hq.2.2.sift fun y hy => Or.inr (N y hy)).mono (by decide) (by decide)⟩⟩
theorem main_1_1 : Claimed_1_1 := comes_1 fun _ _ _ _ _ _ h hF => ⟨h.1, hF⟩
theorem main_1_2 : Claimed_1_2 := comes_1 fun _ _ _ _ _ _ h hF => ⟨h.2.1, hF⟩
end Jvm.Pilot.@@N@@
namespace Jvm.Pilot.@@N@@
open Jvm Jvm.ClassFile Sem Op Lib Jvm.Free Jvm.Stand Jvm.Pilot.@@N@@.Jvm.D
/-! MADE BY PROGRAM (witnessworld.py) out of the Statement's table words and the real class files: 11 classes; the members and pool entries that the words name. The judged class is class 1, her method 1. -/
namespace start1
open Jvm.ClassFile
def u (s : String) : CpInfo := .utf8 (stringToUtf16 s)
/-- a pool by its gaps: so many unusable entries, then the entry; so many at the end -/
def gap : Nat → List CpInfo → List CpInfo
  | 0, r => r
  | n + 1, r => .unusable :: gap n r
def poolList (es : List (Nat × CpInfo)) (last : Nat) : List CpInfo := es.foldr (fun e r => gap e.1 (e.2 :: r)) (gap last [])
def pool (es : List (Nat × CpInfo)) (last : Nat) : Array CpInfo := ⟨poolList es last⟩
def fileOf (pool : Array CpInfo) (this : Nat) (attrs : Array Attribute := #[]) (ms : Array MethodInfo := #[]) (fl : Nat := 33) (sup : Nat := 0) (ifs : Array Nat := #[]) (fds : Array FieldInfo := #[]) : ClassFile where
  minorVersion := 0
  majorVersion := 65
  constantPool := pool
  accessFlags := fl
  thisClass := this
  superClass := sup
  interfaces := ifs
  fields := fds
  methods := ms
  attributes := attrs
def plain (name : String) (sup : Option ClassId) : Class where
  name := name
  kind := .ordinary
  loader := none
  accessFlags := 33
  super := sup
  interfaces := #[]
  cf := none
  fields := #[]
  methods := #[]
  instanceTypes := #[]
  staticTypes := #[]
  resolved := #[]
  callSites := []
  init := .initialized
  statics := none
  mirror := none

def pool0 : Array CpInfo := pool [(5, u "<init>"), (0, u "()V"), (1, .class_ 10), (1, u "java/lang/Object")] 113

def k0c0 : Code := { maxStack := 0, maxLocals := 1, code := object_method_1_code, exceptionTable := #[], attributes := #[] }
def k0m0 : Method := { name := "<init>", desc := "()V", sig := { parameters := [], returnType := none }, accessFlags := 1, code := some k0c0 }
/-- java/lang/Object -/
def k0 : Class := { plain "java/lang/Object" none with
  accessFlags := 33
  interfaces := #[]
  cf := some (fileOf pool0 8 #[] #[{ accessFlags := 1, nameIndex := 5, descriptorIndex := 6, attributes := #[] }] 33 0 #[] #[])
  fields := #[]
  methods := #[k0m0]
  instanceTypes := #[]
  staticTypes := #[]
  resolved := Array.replicate 124 none
  statics := none }

def pool1 : Array CpInfo := pool [(2, .class_ 4), (1, u "java/lang/Object"), (0, u "<init>"), (0, u "()V"), (2, .long 9223372036854775807), (1, .integer 2147483647), (0, .methodref 13 14), (0, .class_ 15), (0, .nameAndType 16 17), (0, u "com/example/commitwright/commitwright/driver/BackoffLongestNanosPinLaw"), (0, u "reference"), (0, u "(JJI)J"), (0, .class_ 19), (0, u "com/example/commitwright/commitwright/driver/Backoff"), (0, .methodref 18 21), (0, .nameAndType 5 22), (0, u "(JJ)V"), (0, .methodref 18 24), (0, .nameAndType 25 26), (0, u "longestNanos"), (0, u "(I)J"), (0, .methodref 28 29), (0, .class_ 30), (0, .nameAndType 31 32), (0, u "java/lang/Math"), (0, u "min"), (0, u "(JJ)J"), (2, u "law"), (0, u "(JJII)Z")] 3

def k1m0 : Method := { name := "<init>", desc := "()V", sig := { parameters := [], returnType := none }, accessFlags := 1, code := none }
def k1c1 : Code := { maxStack := 6, maxLocals := 20, code := code, exceptionTable := #[], attributes := #[] }
def k1m1 : Method := { name := "law", desc := "(JJII)Z", sig := { parameters := [.long, .long, .int, .int], returnType := some .boolean }, accessFlags := 9, code := some k1c1 }
def k1c2 : Code := { maxStack := 4, maxLocals := 8, code := method_3_code, exceptionTable := #[], attributes := #[] }
def k1m2 : Method := { name := "reference", desc := "(JJI)J", sig := { parameters := [.long, .long, .int], returnType := some .long }, accessFlags := 10, code := some k1c2 }
/-- com/example/commitwright/commitwright/driver/BackoffLongestNanosPinLaw -/
def k1 : Class := { plain "com/example/commitwright/commitwright/driver/BackoffLongestNanosPinLaw" (some 0) with
  accessFlags := 49
  interfaces := #[]
  cf := some (fileOf pool1 13 #[] #[{ accessFlags := 1, nameIndex := 5, descriptorIndex := 6, attributes := #[] }, { accessFlags := 9, nameIndex := 35, descriptorIndex := 36, attributes := #[] }, { accessFlags := 10, nameIndex := 16, descriptorIndex := 17, attributes := #[] }] 49 2 #[] #[])
  fields := #[]
  methods := #[k1m0, k1m1, k1m2]
  instanceTypes := #[]
  staticTypes := #[]
  resolved := Array.replicate 40 none
  statics := none }

def pool2 : Array CpInfo := pool [(1, .class_ 2), (0, u "java/lang/Math"), (1, .class_ 6), (1, u "java/lang/Object"), (0, u "<init>"), (0, u "()V"), (89, .class_ 100), (1, u "java/lang/Math$RandomNumberGeneratorHolder"), (20, u "(JJ)J"), (50, u "negativeZeroFloatBits"), (0, u "J"), (2, u "negativeZeroDoubleBits"), (24, u "min"), (43, u "$assertionsDisabled"), (0, u "Z"), (91, u "twoToTheDoubleScaleDown"), (0, u "D"), (4, u "twoToTheDoubleScaleUp"), (9, u "E"), (3, u "PI"), (2, u "TAU"), (2, u "DEGREES_TO_RADIANS"), (0, u "RADIANS_TO_DEGREES")] 94

def k2m0 : Method := { name := "<init>", desc := "()V", sig := { parameters := [], returnType := none }, accessFlags := 2, code := none }
def k2c1 : Code := { maxStack := 4, maxLocals := 4, code := jdk_29_method_70_code, exceptionTable := #[], attributes := #[] }
def k2m1 : Method := { name := "min", desc := "(JJ)J", sig := { parameters := [.long, .long], returnType := some .long }, accessFlags := 9, code := some k2c1 }
/-- java/lang/Math -/
def k2 : Class := { plain "java/lang/Math" (some 0) with
  accessFlags := 49
  interfaces := #[]
  cf := some (fileOf pool2 1 #[.nestMembers #[98]] #[{ accessFlags := 2, nameIndex := 7, descriptorIndex := 8, attributes := #[] }, { accessFlags := 9, nameIndex := 201, descriptorIndex := 121, attributes := #[] }] 49 4 #[] #[{ accessFlags := 25, nameIndex := 354, descriptorIndex := 339, attributes := #[] }, { accessFlags := 25, nameIndex := 358, descriptorIndex := 339, attributes := #[] }, { accessFlags := 25, nameIndex := 361, descriptorIndex := 339, attributes := #[] }, { accessFlags := 26, nameIndex := 364, descriptorIndex := 339, attributes := #[] }, { accessFlags := 26, nameIndex := 365, descriptorIndex := 339, attributes := #[] }, { accessFlags := 26, nameIndex := 172, descriptorIndex := 173, attributes := #[] }, { accessFlags := 26, nameIndex := 176, descriptorIndex := 173, attributes := #[] }, { accessFlags := 8, nameIndex := 344, descriptorIndex := 339, attributes := #[] }, { accessFlags := 8, nameIndex := 338, descriptorIndex := 339, attributes := #[] }, { accessFlags := 4120, nameIndex := 245, descriptorIndex := 246, attributes := #[] }])
  fields := #[{ name := "E", type := .double, accessFlags := 25, slot := 0, constantValue := 0 }, { name := "PI", type := .double, accessFlags := 25, slot := 1, constantValue := 0 }, { name := "TAU", type := .double, accessFlags := 25, slot := 2, constantValue := 0 }, { name := "DEGREES_TO_RADIANS", type := .double, accessFlags := 26, slot := 3, constantValue := 0 }, { name := "RADIANS_TO_DEGREES", type := .double, accessFlags := 26, slot := 4, constantValue := 0 }, { name := "negativeZeroFloatBits", type := .long, accessFlags := 26, slot := 5, constantValue := 0 }, { name := "negativeZeroDoubleBits", type := .long, accessFlags := 26, slot := 6, constantValue := 0 }, { name := "twoToTheDoubleScaleUp", type := .double, accessFlags := 8, slot := 7, constantValue := 0 }, { name := "twoToTheDoubleScaleDown", type := .double, accessFlags := 8, slot := 8, constantValue := 0 }, { name := "$assertionsDisabled", type := .boolean, accessFlags := 4120, slot := 9, constantValue := 0 }]
  methods := #[k2m0, k2m1]
  instanceTypes := #[]
  staticTypes := #[.double, .double, .double, .double, .double, .long, .long, .double, .double, .boolean]
  resolved := Array.replicate 460 none
  statics := none }

def pool3 : Array CpInfo := pool [(1, .methodref 2 3), (0, .class_ 4), (0, .nameAndType 5 6), (0, u "java/lang/Object"), (0, u "<init>"), (0, u "()V"), (0, .class_ 8), (0, u "java/lang/Record")] 13

def k3c0 : Code := { maxStack := 1, maxLocals := 1, code := jdk_30_method_1_code, exceptionTable := #[], attributes := #[] }
def k3m0 : Method := { name := "<init>", desc := "()V", sig := { parameters := [], returnType := none }, accessFlags := 4, code := some k3c0 }
/-- java/lang/Record -/
def k3 : Class := { plain "java/lang/Record" (some 0) with
  accessFlags := 1057
  interfaces := #[]
  cf := some (fileOf pool3 7 #[] #[{ accessFlags := 4, nameIndex := 5, descriptorIndex := 6, attributes := #[] }] 1057 2 #[] #[])
  fields := #[]
  methods := #[k3m0]
  instanceTypes := #[]
  staticTypes := #[]
  resolved := Array.replicate 22 none
  statics := none }

def pool4 : Array CpInfo := pool [(1, .methodref 2 3), (0, .class_ 4), (0, .nameAndType 5 6), (0, u "java/lang/Record"), (0, u "<init>"), (0, u "()V"), (0, .fieldref 8 9), (0, .class_ 10), (0, .nameAndType 11 12), (0, u "com/example/commitwright/commitwright/driver/Backoff"), (0, u "baseNanos"), (0, u "J"), (0, .fieldref 8 14), (0, .nameAndType 15 12), (0, u "capNanos"), (4, u "longestNanos"), (0, u "(I)J"), (24, u "(JJ)V")] 30

def k4c0 : Code := { maxStack := 3, maxLocals := 5, code := prog_1_method_1_code, exceptionTable := #[], attributes := #[] }
def k4m0 : Method := { name := "<init>", desc := "(JJ)V", sig := { parameters := [.long, .long], returnType := none }, accessFlags := 0, code := some k4c0 }
def k4c1 : Code := { maxStack := 5, maxLocals := 3, code := prog_1_method_2_code, exceptionTable := #[], attributes := #[] }
def k4m1 : Method := { name := "longestNanos", desc := "(I)J", sig := { parameters := [.int], returnType := some .long }, accessFlags := 0, code := some k4c1 }
/-- com/example/commitwright/commitwright/driver/Backoff -/
def k4 : Class := { plain "com/example/commitwright/commitwright/driver/Backoff" (some 3) with
  accessFlags := 48
  interfaces := #[]
  cf := some (fileOf pool4 8 #[] #[{ accessFlags := 0, nameIndex := 5, descriptorIndex := 46, attributes := #[] }, { accessFlags := 0, nameIndex := 20, descriptorIndex := 21, attributes := #[] }] 48 2 #[] #[{ accessFlags := 18, nameIndex := 11, descriptorIndex := 12, attributes := #[] }, { accessFlags := 18, nameIndex := 15, descriptorIndex := 12, attributes := #[] }])
  fields := #[{ name := "baseNanos", type := .long, accessFlags := 18, slot := 0, constantValue := 0 }, { name := "capNanos", type := .long, accessFlags := 18, slot := 1, constantValue := 0 }]
  methods := #[k4m0, k4m1]
  instanceTypes := #[.long, .long]
  staticTypes := #[]
  resolved := Array.replicate 77 none
  statics := none }

def pool5 : Array CpInfo := pool [(1, u "java/lang/Cloneable"), (0, .class_ 1), (0, u "java/lang/Object"), (0, .class_ 3)] 3

/-- java/lang/Cloneable -/
def k5 : Class := { plain "java/lang/Cloneable" (some 0) with
  accessFlags := 1537
  interfaces := #[]
  cf := some (fileOf pool5 2 #[] #[] 1537 4 #[] #[])
  fields := #[]
  methods := #[]
  instanceTypes := #[]
  staticTypes := #[]
  resolved := Array.replicate 8 none
  statics := none }

def pool6 : Array CpInfo := pool [(1, u "java/io/Serializable"), (0, .class_ 1), (0, u "java/lang/Object"), (0, .class_ 3)] 3

/-- java/io/Serializable -/
def k6 : Class := { plain "java/io/Serializable" (some 0) with
  accessFlags := 1537
  interfaces := #[]
  cf := some (fileOf pool6 2 #[] #[] 1537 4 #[] #[])
  fields := #[]
  methods := #[]
  instanceTypes := #[]
  staticTypes := #[]
  resolved := Array.replicate 8 none
  statics := none }

/-- the primitive byte -/
def k7 : Class := { plain "byte" none with kind := .primitive 'B', accessFlags := 0x411 }
/-- [B -/
def k8 : Class := { plain "[B" (some 0) with kind := .array 7 .byte, interfaces := #[5, 6], accessFlags := 1041 }

/-- the primitive int -/
def k9 : Class := { plain "int" none with kind := .primitive 'I', accessFlags := 0x411 }
/-- [I -/
def k10 : Class := { plain "[I" (some 0) with kind := .array 9 .int, interfaces := #[5, 6], accessFlags := 1041 }

def heap : Heap := #[]
def classes : Array Class := #[k0, k1, k2, k3, k4, k5, k6, k7, k8, k9, k10]
def interned : List (Array UInt16 × Addr) := []
def slotsUsed : Nat := 0
def theMethod : MethodId := ⟨1, 1⟩
def args0 : Array Value := #[.long 5, .long 7, .int 2, .int 3]
def aboutOver (below : List Frame) : State where
  vm := { classes := classes, interned := interned.toArray }
  heap := heap
  slotsUsed := slotsUsed
  threads := #[{ frames := .invoking theMethod args0 :: below }]
def below0 : List Frame := [.native { method := ⟨0, 0⟩, args := #[] }]
def about1 : State := aboutOver below0
def p0 : Program := .bare "" "" ""
def e0 : Env := launch0.env 0 0 0
theorem w_frames : about1.frames = Frame.invoking theMethod args0 :: below0 := rfl
set_option maxRecDepth 65536 in
theorem w_args : argsFit about1.vm theMethod args0 = true := by decide +kernel
set_option maxRecDepth 65536 in
theorem w_heap : heapFits about1 = true := by decide +kernel
set_option maxRecDepth 65536 in
theorem w_runnable : about1.curStatus? = some .runnable := by decide +kernel
set_option maxRecDepth 65536 in
theorem w_alone : about1.alone = true := by decide +kernel
set_option maxRecDepth 65536 in
theorem w_named : about1.methodNamed? x = some theMethod := by decide +kernel
set_option maxRecDepth 65536 in
theorem w_hears : about1.hears theMethod below0 = true := by decide +kernel
set_option maxRecDepth 65536 in
theorem w_ripe : about1.ripe theMethod args0 below0 = true := by decide +kernel
theorem w_running : about1.status = .running := rfl
set_option maxRecDepth 65536 in
theorem w_room : about1.hasRoom e0.platform room_1 = true :=
  launch0.hasRoom_least _ room_1 (by decide +kernel) (by decide +kernel) (by decide +kernel) (by decide +kernel) (by decide +kernel) (by decide +kernel)
theorem allAtoms_all (ts : List Jvm.Cond) (a : Array Jvm.Value) (st : Jvm.State) : (allAtoms ts).before a st = ts.all (fun c => c.before a st) := by
  induction ts with
  | nil => rfl
  | cons c t ih =>
    show (Jvm.Cond.and c (allAtoms t)).before a st = _
    rw [Jvm.Cond.before_and, ih, List.all_cons]
def words1 : List Jvm.Cond := Jvm.Cond.code x code maxLocals ret :: tables_1
/-- a 'code' word, met by the world's own term for the bytes: nothing is compared byte by byte -/
theorem code_word {y : MethodName} {bytes : ByteArray} {mx : Nat} {rt : Option FieldType} {a : Array Value} {s : State} {m : MethodId} {meth : Method} {c : Code} (h1 : s.methodNamed? y = some m) (h2 : s.vm.method? m = some meth) (h3 : meth.code = some c) (h4 : c.code = bytes)
    (h5 : (c.maxLocals == mx && c.exceptionTable.isEmpty && decide (c.maxStack ≤ mostOperands) && decide (meth.sig.returnType = rt) && !meth.locks && decide (parseMethodDescriptor y.desc = some meth.sig)) = true) : (Jvm.Cond.code y bytes mx rt).before a s = true := by
  simp only [Bool.and_eq_true, beq_iff_eq, Bool.not_eq_true', decide_eq_true_eq] at h5
  obtain ⟨⟨⟨⟨⟨g1, g2⟩, g3⟩, g4⟩, g5⟩, g6⟩ := h5
  simp [Cond.before, Cond.holds, Cond.value, h1, h2, h3, h4, g1, g2, g3, g4, g5, g6]
def isCode : Jvm.Cond → Bool
  | .code _ _ _ _ => true
  | _ => false
theorem all_split {L : List Jvm.Cond} {P : Jvm.Cond → Bool} (h1 : L.all (fun c => isCode c || P c) = true) (h2 : ∀ c ∈ L.filter isCode, P c = true) : L.all P = true := by
  refine List.all_eq_true.mpr fun c hc => ?_
  have h := List.all_eq_true.mp h1 c hc
  rcases Bool.eq_false_or_eq_true (isCode c) with hi | hi
  · exact h2 c (List.mem_filter.mpr ⟨hc, hi⟩)
  · simpa [hi] using h
set_option maxRecDepth 65536 in
theorem w_c0 : (Jvm.Cond.code x code maxLocals ret).before args0 about1 = true := code_word (m := ⟨1, 1⟩) (meth := k1m1) (c := k1c1) (by decide +kernel) rfl rfl rfl (by decide +kernel)
set_option maxRecDepth 65536 in
theorem w_c1 : (Jvm.Cond.code ({ cls := "com/example/commitwright/commitwright/driver/BackoffLongestNanosPinLaw", name := "reference", desc := "(JJI)J" } : Jvm.MethodName) method_3_code (8 : Nat) (Option.some Jvm.ClassFile.FieldType.long)).before args0 about1 = true := code_word (m := ⟨1, 2⟩) (meth := k1m2) (c := k1c2) (by decide +kernel) rfl rfl rfl (by decide +kernel)
set_option maxRecDepth 65536 in
theorem w_c2 : (Jvm.Cond.code ({ cls := "java/lang/Math", name := "min", desc := "(JJ)J" } : Jvm.MethodName) jdk_29_method_70_code (4 : Nat) (Option.some Jvm.ClassFile.FieldType.long)).before args0 about1 = true := code_word (m := ⟨2, 1⟩) (meth := k2m1) (c := k2c1) (by decide +kernel) rfl rfl rfl (by decide +kernel)
set_option maxRecDepth 65536 in
theorem w_c3 : (Jvm.Cond.code ({ cls := "com/example/commitwright/commitwright/driver/Backoff", name := "<init>", desc := "(JJ)V" } : Jvm.MethodName) prog_1_method_1_code (5 : Nat) (Option.none : Option Jvm.ClassFile.FieldType)).before args0 about1 = true := code_word (m := ⟨4, 0⟩) (meth := k4m0) (c := k4c0) (by decide +kernel) rfl rfl rfl (by decide +kernel)
set_option maxRecDepth 65536 in
theorem w_c4 : (Jvm.Cond.code ({ cls := "java/lang/Record", name := "<init>", desc := "()V" } : Jvm.MethodName) jdk_30_method_1_code (1 : Nat) (Option.none : Option Jvm.ClassFile.FieldType)).before args0 about1 = true := code_word (m := ⟨3, 0⟩) (meth := k3m0) (c := k3c0) (by decide +kernel) rfl rfl rfl (by decide +kernel)
set_option maxRecDepth 65536 in
theorem w_c5 : (Jvm.Cond.code ({ cls := "java/lang/Object", name := "<init>", desc := "()V" } : Jvm.MethodName) object_method_1_code (1 : Nat) (Option.none : Option Jvm.ClassFile.FieldType)).before args0 about1 = true := code_word (m := ⟨0, 0⟩) (meth := k0m0) (c := k0c0) (by decide +kernel) rfl rfl rfl (by decide +kernel)
set_option maxRecDepth 65536 in
theorem w_c6 : (Jvm.Cond.code ({ cls := "com/example/commitwright/commitwright/driver/Backoff", name := "longestNanos", desc := "(I)J" } : Jvm.MethodName) prog_1_method_2_code (3 : Nat) (Option.some Jvm.ClassFile.FieldType.long)).before args0 about1 = true := code_word (m := ⟨4, 1⟩) (meth := k4m1) (c := k4c1) (by decide +kernel) rfl rfl rfl (by decide +kernel)
def codes1 : List Jvm.Cond := [Jvm.Cond.code x code maxLocals ret, Jvm.Cond.code ({ cls := "com/example/commitwright/commitwright/driver/BackoffLongestNanosPinLaw", name := "reference", desc := "(JJI)J" } : Jvm.MethodName) method_3_code (8 : Nat) (Option.some Jvm.ClassFile.FieldType.long), Jvm.Cond.code ({ cls := "java/lang/Math", name := "min", desc := "(JJ)J" } : Jvm.MethodName) jdk_29_method_70_code (4 : Nat) (Option.some Jvm.ClassFile.FieldType.long), Jvm.Cond.code ({ cls := "com/example/commitwright/commitwright/driver/Backoff", name := "<init>", desc := "(JJ)V" } : Jvm.MethodName) prog_1_method_1_code (5 : Nat) (Option.none : Option Jvm.ClassFile.FieldType), Jvm.Cond.code ({ cls := "java/lang/Record", name := "<init>", desc := "()V" } : Jvm.MethodName) jdk_30_method_1_code (1 : Nat) (Option.none : Option Jvm.ClassFile.FieldType), Jvm.Cond.code ({ cls := "java/lang/Object", name := "<init>", desc := "()V" } : Jvm.MethodName) object_method_1_code (1 : Nat) (Option.none : Option Jvm.ClassFile.FieldType), Jvm.Cond.code ({ cls := "com/example/commitwright/commitwright/driver/Backoff", name := "longestNanos", desc := "(I)J" } : Jvm.MethodName) prog_1_method_2_code (3 : Nat) (Option.some Jvm.ClassFile.FieldType.long)]
set_option maxRecDepth 65536 in
theorem codes_eq : words1.filter isCode = codes1 := rfl
theorem w_codes : ∀ c ∈ words1.filter isCode, c.before args0 about1 = true := by
  rw [codes_eq]
  intro c hc
  simp only [codes1, List.mem_cons, List.not_mem_nil, or_false] at hc
  rcases hc with rfl | rfl | rfl | rfl | rfl | rfl | rfl
  · exact w_c0
  · exact w_c1
  · exact w_c2
  · exact w_c3
  · exact w_c4
  · exact w_c5
  · exact w_c6
set_option maxRecDepth 65536 in
theorem w_t1 : (words1.take 24).all (fun c => isCode c || c.before args0 about1) = true := by decide +kernel
set_option maxRecDepth 65536 in
theorem w_t2 : (words1.drop 24).all (fun c => isCode c || c.before args0 about1) = true := by decide +kernel
theorem w_tables : (allAtoms (Jvm.Cond.code x code maxLocals ret :: tables_1)).before args0 about1 = true := by
  rw [allAtoms_all]
  show words1.all (fun c => c.before args0 about1) = true
  refine all_split ?_ w_codes
  rw [← List.take_append_drop 24 words1, List.all_append, w_t1, w_t2]
  rfl
set_option maxRecDepth 65536 in
theorem w_case : (Jvm.Cond.and given_1 narrow_1).before args0 about1 = true := by decide +kernel
theorem w_applies : (headSpec (Jvm.Cond.code x code maxLocals ret :: tables_1) room_1).applies x e0.platform about1 = true :=
  (Spec.applies_iff w_frames).mpr ⟨w_running, w_runnable, w_alone, w_named, w_hears, w_ripe, w_room, w_tables⟩
theorem atStart : AtStart classFile x code maxLocals ret World_1 tables_1 room_1 Calls_1 rest_1 Pre_1 launch0 p0 e0 about1 theMethod args0 below0 :=
  ⟨lists_1, trivial, launch0.admits_env _ _ _, launch0.least_env, fairChoices_fair.cas, fairChoices_fair.clock, w_frames, w_args, w_heap, w_applies, trivial, trivial, w_case⟩
end start1
theorem witness_1 : WitnessClaimed_1 := ⟨start1.p0, start1.e0, start1.about1, start1.theMethod, start1.args0, start1.below0, start1.atStart⟩
end Jvm.Pilot.@@N@@
