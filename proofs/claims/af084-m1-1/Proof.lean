import JvmDerived
import JvmDerived.Pilot.@@N@@Statement
import JvmDerived.Pilot.@@N@@Code
set_option linter.unusedVariables false
set_option linter.unusedSimpArgs false
@@BLOCK:NumsL.lean.txt@@
namespace Jvm.Pilot.@@N@@
open Jvm Jvm.ClassFile Sem Op Lib Jvm.Free Jvm.Stand Jvm.LawKit Jvm.RoadKit Bundle Jvm.Pilot.@@N@@.Jvm.D

/-! the plain law -/
def own_bd (k : Int32) : Int64 :=
  if k = (0 : Int32) then (2592000 : Int64) else if k = (1 : Int32) then (2592001 : Int64) else if k = (2 : Int32) then (9223372036854775 : Int64)
  else if k = (3 : Int32) then (9223372036854776 : Int64) else if k = (4 : Int32) then (1 : Int64) else if k = (5 : Int32) then (-1 : Int64)
  else if k = (6 : Int32) then (9223372036854775807 : Int64) else (-9223372036854775808 : Int64)
def own_x (e : Int64) (k : Int32) : Int64 :=
  if (k &&& (7 : Int32)) = (0 : Int32) then (0 : Int64)
  else if (k &&& (7 : Int32)) = (1 : Int32) then (e ||| (-9223372036854775808 : Int64))
  else if (k &&& (7 : Int32)) = (2 : Int32) then ((1 : Int64) + ((e &&& (9223372036854775807 : Int64)) - ((e &&& (9223372036854775807 : Int64)) / (2592000 : Int64)) * (2592000 : Int64)))
  else if (k &&& (7 : Int32)) = (3 : Int32) then own_bd ((e &&& (7 : Int64)).toInt32)
  else if (k &&& (7 : Int32)) = (4 : Int32) then ((2592001 : Int64) + ((e &&& (9223372036854775807 : Int64)) - ((e &&& (9223372036854775807 : Int64)) / (9223372034262775 : Int64)) * (9223372034262775 : Int64)))
  else if (k &&& (7 : Int32)) = (5 : Int32) then ((9223372036854776 : Int64) + ((e &&& (9223372036854775807 : Int64)) - ((e &&& (9223372036854775807 : Int64)) / (9214148664817921032 : Int64)) * (9214148664817921032 : Int64)))
  else e
def own_e (x now : Int64) : Int64 :=
  if x = (0 : Int64) then (9223372036854775807 : Int64) else if x < (0 : Int64) then (-9223372036854775808 : Int64)
  else if (2592000 : Int64) < x then (if (9223372036854775 : Int64) < x then (9223372036854775807 : Int64) else (x * (1000 : Int64)))
  else (now + (x * (1000 : Int64)))
theorem own_e0 {x : Int64} (now : Int64) (h : x = (0 : Int64)) : own_e x now = (9223372036854775807 : Int64) := by rw [own_e, if_pos h]
theorem own_e1 {x : Int64} (now : Int64) (h : ¬ x = (0 : Int64)) (h1 : x < (0 : Int64)) : own_e x now = (-9223372036854775808 : Int64) := by rw [own_e, if_neg h, if_pos h1]
theorem own_back (a b : Int64) : a + b - a = b := by
  rw [← Int64.toBitVec_inj, Int64.toBitVec_sub, Int64.toBitVec_add, BitVec.add_comm, BitVec.add_sub_cancel]
theorem own_e2 {x : Int64} (now : Int64) (h : ¬ x = (0 : Int64)) (h1 : ¬ x < (0 : Int64)) (h2 : ¬ (2592000 : Int64) < x) : own_e x now - now = x * (1000 : Int64) := by
  rw [own_e, if_neg h, if_neg h1, if_neg h2]; exact own_back _ _
theorem own_e3 {x : Int64} (now : Int64) (h : ¬ x = (0 : Int64)) (h1 : ¬ x < (0 : Int64)) (h2 : (2592000 : Int64) < x) (h3 : (9223372036854775 : Int64) < x) : own_e x now = (9223372036854775807 : Int64) := by
  rw [own_e, if_neg h, if_neg h1, if_pos h2, if_pos h3]
theorem own_e4 {x : Int64} (now : Int64) (h : ¬ x = (0 : Int64)) (h1 : ¬ x < (0 : Int64)) (h2 : (2592000 : Int64) < x) (h3 : ¬ (9223372036854775 : Int64) < x) :
    (own_e x now - (own_e x now / (1000 : Int64)) * (1000 : Int64)) = (0 : Int64) ∧ own_e x now / (1000 : Int64) = x := by
  have e1 : (1000 : Int64).toInt = 1000 := by decide
  have e2 : (2592000 : Int64).toInt = 2592000 := by decide
  have e3 : (9223372036854775 : Int64).toInt = 9223372036854775 := by decide
  rw [Int64.lt_iff_toInt_lt] at h2 h3
  rw [own_e, if_neg h, if_neg h1, if_pos (Int64.lt_iff_toInt_lt.mpr h2), if_neg (fun q => h3 (Int64.lt_iff_toInt_lt.mp q))]
  have m : (x * (1000 : Int64)).toInt = x.toInt * 1000 := by rw [Jvm.Kit.i64_mul (by rw [e1]; omega) (by rw [e1]; omega), e1]
  have d : (x * (1000 : Int64)) / (1000 : Int64) = x := by
    rw [← Int64.toInt_inj, Jvm.Kit.i64_div (by rw [e1]; omega), m, e1]
    exact Int.mul_tdiv_cancel _ (by decide)
  refine ⟨?_, d⟩
  rw [d]
  exact Int64.sub_self _

theorem ef_1 (m : MethodId) (x0 : Int64) (x1 : Int64) : entryFrame m #[(.long x0), (.long x1)] 4 = mkF m 0 #[.val (.long x0), .second, .val (.long x1), .second] [] := by first | (simp [entryFrame, mkF, argsToLocals, Value.category]; done) | rfl
theorem pn_com_example_nookd_nookd_store_Expiry : plainName "com/example/nookd/nookd/store/Expiry" = true := by first | (simp [plainName, overriddenIn]; done) | decide +kernel
theorem d1_0 : decode prog_28_method_2_code 0 = .ok (.lload_n 0, 1) := by decide +kernel
theorem d1_1 : decode prog_28_method_2_code 1 = .ok (.lconst 0, 1) := by decide +kernel
theorem d1_2 : decode prog_28_method_2_code 2 = .ok (.lcmp, 1) := by decide +kernel
theorem d1_3 : decode prog_28_method_2_code 3 = .ok (.ifCond .ne 7, 3) := by decide +kernel
theorem d1_6 : decode prog_28_method_2_code 6 = .ok (.ldc2_w 11, 3) := by decide +kernel
theorem d1_9 : decode prog_28_method_2_code 9 = .ok (.lreturn, 1) := by decide +kernel
theorem d1_10 : decode prog_28_method_2_code 10 = .ok (.lload_n 0, 1) := by decide +kernel
theorem d1_11 : decode prog_28_method_2_code 11 = .ok (.lconst 0, 1) := by decide +kernel
theorem d1_12 : decode prog_28_method_2_code 12 = .ok (.lcmp, 1) := by decide +kernel
theorem d1_13 : decode prog_28_method_2_code 13 = .ok (.ifCond .ge 7, 3) := by decide +kernel
theorem d1_16 : decode prog_28_method_2_code 16 = .ok (.ldc2_w 13, 3) := by decide +kernel
theorem d1_19 : decode prog_28_method_2_code 19 = .ok (.lreturn, 1) := by decide +kernel
theorem d1_20 : decode prog_28_method_2_code 20 = .ok (.lload_n 0, 1) := by decide +kernel
theorem d1_21 : decode prog_28_method_2_code 21 = .ok (.ldc2_w 15, 3) := by decide +kernel
theorem d1_24 : decode prog_28_method_2_code 24 = .ok (.lcmp, 1) := by decide +kernel
theorem d1_25 : decode prog_28_method_2_code 25 = .ok (.ifCond .gt 11, 3) := by decide +kernel
theorem d1_36 : decode prog_28_method_2_code 36 = .ok (.lload_n 0, 1) := by decide +kernel
theorem d1_37 : decode prog_28_method_2_code 37 = .ok (.ldc2_w 19, 3) := by decide +kernel
theorem d1_40 : decode prog_28_method_2_code 40 = .ok (.lcmp, 1) := by decide +kernel
theorem d1_41 : decode prog_28_method_2_code 41 = .ok (.ifCond .le 7, 3) := by decide +kernel
theorem d1_44 : decode prog_28_method_2_code 44 = .ok (.ldc2_w 11, 3) := by decide +kernel
theorem d1_47 : decode prog_28_method_2_code 47 = .ok (.lreturn, 1) := by decide +kernel
theorem d1_48 : decode prog_28_method_2_code 48 = .ok (.lload_n 0, 1) := by decide +kernel
theorem d1_49 : decode prog_28_method_2_code 49 = .ok (.ldc2_w 17, 3) := by decide +kernel
theorem d1_52 : decode prog_28_method_2_code 52 = .ok (.lmul, 1) := by decide +kernel
theorem d1_53 : decode prog_28_method_2_code 53 = .ok (.lreturn, 1) := by decide +kernel
theorem d1_28 : decode prog_28_method_2_code 28 = .ok (.lload_n 2, 1) := by decide +kernel
theorem d1_29 : decode prog_28_method_2_code 29 = .ok (.lload_n 0, 1) := by decide +kernel
theorem d1_30 : decode prog_28_method_2_code 30 = .ok (.ldc2_w 17, 3) := by decide +kernel
theorem d1_33 : decode prog_28_method_2_code 33 = .ok (.lmul, 1) := by decide +kernel
theorem d1_34 : decode prog_28_method_2_code 34 = .ok (.ladd, 1) := by decide +kernel
theorem d1_35 : decode prog_28_method_2_code 35 = .ok (.lreturn, 1) := by decide +kernel
def Q1 (Z : State) (q0 : Int64) (q1 : Int64) (h0 : Heap) (n0 : Nat) (v : Option Value) (h : Heap) (L : List Loc) : Prop := v = some (.long (own_e q0 q1)) ∧ Fr n0 L ∧ h = h0
set_option maxRecDepth 65536 in
set_option maxHeartbeats 40000000 in
theorem rm1 (l : Launch) (Z : State) (a0 : Array Value) (hw : ∀ d ∈ tables_1, d.before a0 Z = true) (ws : List Jvm.Cond) (q0 : Int64) (q1 : Int64) (h0 : Heap) (n0 : Nat) (Z0 : n0 ≤ h0.size)  :
    MetFree l (⟨"com/example/nookd/nookd/store/Expiry", "expiresAt", "(JJ)J"⟩ : MethodName) (head1 (Jvm.Cond.code (⟨"com/example/nookd/nookd/store/Expiry", "expiresAt", "(JJ)J"⟩ : MethodName) prog_28_method_2_code 4 (some .long) :: ws) ({ frames := 0, cells := 0, slots := 0, locals := 0 } : Room)) (fun a U => a = #[(.long q0), (.long q1)] ∧ Z.Warmed39 U.vm ∧ U.heap = h0) (fun _ _ _ _ _ => True) (fun _ U o U' => ∃ v L, o = .returned v ∧ Q1 Z q0 q1 h0 n0 v U'.heap L ∧ FrameEnd U o U' L ({ frames := 0, cells := 0, slots := 0, locals := 0 } : Room).cells ({ frames := 0, cells := 0, slots := 0, locals := 0 } : Room).slots) := by
  refine MetFree.of_bodySF (plainFor_of_name pn_com_example_nookd_nookd_store_Expiry) hisR ?_
  intro p e s m args below meth c s₁ Bd hml0 hP hK
  obtain ⟨rfl, hZ, hh⟩ := hP
  have hx := Bd.exec
  have hby := Bd.bytes
  have hml : c.maxLocals = 4 := hml0
  have hown : s.vm.findClass "com/example/nookd/nookd/store/Expiry" = some m.cls := findClass_of_methodNamed Bd.named
  have hnm := (name_of_methodNamed Bd.named Bd.method).1
  have X0 : Stand p l e ({ frames := 0, cells := 0, slots := 0, locals := 0 } : Room) s m #[(.long q0), (.long q1)] below meth c s₁ [] 0 0 := Stand.of_body Bd
  have e0 : s₁.heap = h0 := by rw [← hh, Bd.state]; rfl
  have N0 := Fr.nil n0
  have pre0 : ∀ t, Steps p.tables e below (s₁.setTop (mkF m 0 #[.val (.long q0), .second, .val (.long q1), .second] [])) t → Steps p.tables e below (s₁.setTop (entryFrame m #[(.long q0), (.long q1)] 4)) t := fun t k => castTop (ef_1 m q0 q1) k
  by_cases hc3 : q0 = (0 : Int64)
  · obtain ⟨fs, hr, hrun, hended, hW, hsame⟩ := X0.leave (v := some (.long (9223372036854775807 : Int64))) (fun h => by rw [Bd.returns] at h; cases h)
    refine ⟨_, _, pre0 _ ?_, hrun, hended, _, _, rfl, ?_, ⟨_, rfl⟩, hW, hsame.mono (by decide) (by decide)⟩
    · show Steps p.tables e below (s₁.setTop (mkF m 0 #[.val (.long q0), .second, .val (.long q1), .second] [])) _
      refine XS.lloadN X0.here hx rfl (hb hby d1_0) rfl ?_
      show Steps p.tables e below (s₁.setTop (mkF m 1 #[.val (.long q0), .second, .val (.long q1), .second] [(.long q0)])) _
      refine XS.lconst X0.here hx rfl (hb hby d1_1) ?_
      show Steps p.tables e below (s₁.setTop (mkF m 2 #[.val (.long q0), .second, .val (.long q1), .second] [(.long (0 : Int64)), (.long q0)])) _
      refine XS.lcmp X0.here hx rfl (hb hby d1_2) rfl ?_
      show Steps p.tables e below (s₁.setTop (mkF m 3 #[.val (.long q0), .second, .val (.long q1), .second] [(.int (lcmpW q0 (0 : Int64)))])) _
      refine XS.ifNo X0.here hx rfl (hb hby d1_3) rfl ((if0 _ _).trans (teq ((lw_eq _ _).mpr hc3)).2) ?_
      show Steps p.tables e below (s₁.setTop (mkF m 6 #[.val (.long q0), .second, .val (.long q1), .second] [])) _
      refine X0.ldc2Long hx hown (mvT hZ (hw _ (List.mem_of_getElem? (i := 5) rfl))) (g := (mkF m 6 #[.val (.long q0), .second, .val (.long q1), .second] [])) rfl (hb hby d1_6) _ ?_
      show Steps p.tables e below (s₁.setTop (mkF m 9 #[.val (.long q0), .second, .val (.long q1), .second] [(.long (9223372036854775807 : Int64))])) _
      exact X0.lreturnOut hx Bd.returns (hb hby d1_9) hr
    · show Q1 Z q0 q1 h0 n0 _ s₁.heap _
      rw [e0]
      exact ⟨by rw [own_e, if_pos hc3], N0, rfl⟩
  · by_cases hc13 : q0 < (0 : Int64)
    · obtain ⟨fs, hr, hrun, hended, hW, hsame⟩ := X0.leave (v := some (.long (-9223372036854775808 : Int64))) (fun h => by rw [Bd.returns] at h; cases h)
      refine ⟨_, _, pre0 _ ?_, hrun, hended, _, _, rfl, ?_, ⟨_, rfl⟩, hW, hsame.mono (by decide) (by decide)⟩
      · show Steps p.tables e below (s₁.setTop (mkF m 0 #[.val (.long q0), .second, .val (.long q1), .second] [])) _
        refine XS.lloadN X0.here hx rfl (hb hby d1_0) rfl ?_
        show Steps p.tables e below (s₁.setTop (mkF m 1 #[.val (.long q0), .second, .val (.long q1), .second] [(.long q0)])) _
        refine XS.lconst X0.here hx rfl (hb hby d1_1) ?_
        show Steps p.tables e below (s₁.setTop (mkF m 2 #[.val (.long q0), .second, .val (.long q1), .second] [(.long (0 : Int64)), (.long q0)])) _
        refine XS.lcmp X0.here hx rfl (hb hby d1_2) rfl ?_
        show Steps p.tables e below (s₁.setTop (mkF m 3 #[.val (.long q0), .second, .val (.long q1), .second] [(.int (lcmpW q0 (0 : Int64)))])) _
        refine XS.ifYes X0.here hx rfl (pc0 := 3) (pc' := 10) rfl (hb hby d1_3) rfl ((if0 _ _).trans (feq (fun q => hc3 ((lw_eq _ _).mp q))).2) (by decide) (by decide) ?_
        show Steps p.tables e below (s₁.setTop (mkF m 10 #[.val (.long q0), .second, .val (.long q1), .second] [])) _
        refine XS.lloadN X0.here hx rfl (hb hby d1_10) rfl ?_
        show Steps p.tables e below (s₁.setTop (mkF m 11 #[.val (.long q0), .second, .val (.long q1), .second] [(.long q0)])) _
        refine XS.lconst X0.here hx rfl (hb hby d1_11) ?_
        show Steps p.tables e below (s₁.setTop (mkF m 12 #[.val (.long q0), .second, .val (.long q1), .second] [(.long (0 : Int64)), (.long q0)])) _
        refine XS.lcmp X0.here hx rfl (hb hby d1_12) rfl ?_
        show Steps p.tables e below (s₁.setTop (mkF m 13 #[.val (.long q0), .second, .val (.long q1), .second] [(.int (lcmpW q0 (0 : Int64)))])) _
        refine XS.ifNo X0.here hx rfl (hb hby d1_13) rfl ((if0 _ _).trans (tlt ((lw_lt _ _).mpr hc13)).2.1) ?_
        show Steps p.tables e below (s₁.setTop (mkF m 16 #[.val (.long q0), .second, .val (.long q1), .second] [])) _
        refine X0.ldc2Long hx hown (mvT hZ (hw _ (List.mem_of_getElem? (i := 20) rfl))) (g := (mkF m 16 #[.val (.long q0), .second, .val (.long q1), .second] [])) rfl (hb hby d1_16) _ ?_
        show Steps p.tables e below (s₁.setTop (mkF m 19 #[.val (.long q0), .second, .val (.long q1), .second] [(.long (-9223372036854775808 : Int64))])) _
        exact X0.lreturnOut hx Bd.returns (hb hby d1_19) hr
      · show Q1 Z q0 q1 h0 n0 _ s₁.heap _
        rw [e0]
        exact ⟨by rw [own_e, if_neg hc3, if_pos hc13], N0, rfl⟩
    · by_cases hc25 : (2592000 : Int64) < q0
      · by_cases hc41 : (9223372036854775 : Int64) < q0
        · obtain ⟨fs, hr, hrun, hended, hW, hsame⟩ := X0.leave (v := some (.long (9223372036854775807 : Int64))) (fun h => by rw [Bd.returns] at h; cases h)
          refine ⟨_, _, pre0 _ ?_, hrun, hended, _, _, rfl, ?_, ⟨_, rfl⟩, hW, hsame.mono (by decide) (by decide)⟩
          · show Steps p.tables e below (s₁.setTop (mkF m 0 #[.val (.long q0), .second, .val (.long q1), .second] [])) _
            refine XS.lloadN X0.here hx rfl (hb hby d1_0) rfl ?_
            show Steps p.tables e below (s₁.setTop (mkF m 1 #[.val (.long q0), .second, .val (.long q1), .second] [(.long q0)])) _
            refine XS.lconst X0.here hx rfl (hb hby d1_1) ?_
            show Steps p.tables e below (s₁.setTop (mkF m 2 #[.val (.long q0), .second, .val (.long q1), .second] [(.long (0 : Int64)), (.long q0)])) _
            refine XS.lcmp X0.here hx rfl (hb hby d1_2) rfl ?_
            show Steps p.tables e below (s₁.setTop (mkF m 3 #[.val (.long q0), .second, .val (.long q1), .second] [(.int (lcmpW q0 (0 : Int64)))])) _
            refine XS.ifYes X0.here hx rfl (pc0 := 3) (pc' := 10) rfl (hb hby d1_3) rfl ((if0 _ _).trans (feq (fun q => hc3 ((lw_eq _ _).mp q))).2) (by decide) (by decide) ?_
            show Steps p.tables e below (s₁.setTop (mkF m 10 #[.val (.long q0), .second, .val (.long q1), .second] [])) _
            refine XS.lloadN X0.here hx rfl (hb hby d1_10) rfl ?_
            show Steps p.tables e below (s₁.setTop (mkF m 11 #[.val (.long q0), .second, .val (.long q1), .second] [(.long q0)])) _
            refine XS.lconst X0.here hx rfl (hb hby d1_11) ?_
            show Steps p.tables e below (s₁.setTop (mkF m 12 #[.val (.long q0), .second, .val (.long q1), .second] [(.long (0 : Int64)), (.long q0)])) _
            refine XS.lcmp X0.here hx rfl (hb hby d1_12) rfl ?_
            show Steps p.tables e below (s₁.setTop (mkF m 13 #[.val (.long q0), .second, .val (.long q1), .second] [(.int (lcmpW q0 (0 : Int64)))])) _
            refine XS.ifYes X0.here hx rfl (pc0 := 13) (pc' := 20) rfl (hb hby d1_13) rfl ((if0 _ _).trans (flt (fun q => hc13 ((lw_lt _ _).mp q))).2.1) (by decide) (by decide) ?_
            show Steps p.tables e below (s₁.setTop (mkF m 20 #[.val (.long q0), .second, .val (.long q1), .second] [])) _
            refine XS.lloadN X0.here hx rfl (hb hby d1_20) rfl ?_
            show Steps p.tables e below (s₁.setTop (mkF m 21 #[.val (.long q0), .second, .val (.long q1), .second] [(.long q0)])) _
            refine X0.ldc2Long hx hown (mvT hZ (hw _ (List.mem_of_getElem? (i := 6) rfl))) (g := (mkF m 21 #[.val (.long q0), .second, .val (.long q1), .second] [(.long q0)])) rfl (hb hby d1_21) _ ?_
            show Steps p.tables e below (s₁.setTop (mkF m 24 #[.val (.long q0), .second, .val (.long q1), .second] [(.long (2592000 : Int64)), (.long q0)])) _
            refine XS.lcmp X0.here hx rfl (hb hby d1_24) rfl ?_
            show Steps p.tables e below (s₁.setTop (mkF m 25 #[.val (.long q0), .second, .val (.long q1), .second] [(.int (lcmpW q0 (2592000 : Int64)))])) _
            refine XS.ifYes X0.here hx rfl (pc0 := 25) (pc' := 36) rfl (hb hby d1_25) rfl ((if0 _ _).trans (tlt ((lw_gt _ _).mpr hc25)).2.2.1) (by decide) (by decide) ?_
            show Steps p.tables e below (s₁.setTop (mkF m 36 #[.val (.long q0), .second, .val (.long q1), .second] [])) _
            refine XS.lloadN X0.here hx rfl (hb hby d1_36) rfl ?_
            show Steps p.tables e below (s₁.setTop (mkF m 37 #[.val (.long q0), .second, .val (.long q1), .second] [(.long q0)])) _
            refine X0.ldc2Long hx hown (mvT hZ (hw _ (List.mem_of_getElem? (i := 16) rfl))) (g := (mkF m 37 #[.val (.long q0), .second, .val (.long q1), .second] [(.long q0)])) rfl (hb hby d1_37) _ ?_
            show Steps p.tables e below (s₁.setTop (mkF m 40 #[.val (.long q0), .second, .val (.long q1), .second] [(.long (9223372036854775 : Int64)), (.long q0)])) _
            refine XS.lcmp X0.here hx rfl (hb hby d1_40) rfl ?_
            show Steps p.tables e below (s₁.setTop (mkF m 41 #[.val (.long q0), .second, .val (.long q1), .second] [(.int (lcmpW q0 (9223372036854775 : Int64)))])) _
            refine XS.ifNo X0.here hx rfl (hb hby d1_41) rfl ((if0 _ _).trans (tlt ((lw_gt _ _).mpr hc41)).2.2.2) ?_
            show Steps p.tables e below (s₁.setTop (mkF m 44 #[.val (.long q0), .second, .val (.long q1), .second] [])) _
            refine X0.ldc2Long hx hown (mvT hZ (hw _ (List.mem_of_getElem? (i := 5) rfl))) (g := (mkF m 44 #[.val (.long q0), .second, .val (.long q1), .second] [])) rfl (hb hby d1_44) _ ?_
            show Steps p.tables e below (s₁.setTop (mkF m 47 #[.val (.long q0), .second, .val (.long q1), .second] [(.long (9223372036854775807 : Int64))])) _
            exact X0.lreturnOut hx Bd.returns (hb hby d1_47) hr
          · show Q1 Z q0 q1 h0 n0 _ s₁.heap _
            rw [e0]
            exact ⟨by rw [own_e, if_neg hc3, if_neg hc13, if_pos hc25, if_pos hc41], N0, rfl⟩
        · obtain ⟨fs, hr, hrun, hended, hW, hsame⟩ := X0.leave (v := some (.long (q0 * (1000 : Int64)))) (fun h => by rw [Bd.returns] at h; cases h)
          refine ⟨_, _, pre0 _ ?_, hrun, hended, _, _, rfl, ?_, ⟨_, rfl⟩, hW, hsame.mono (by decide) (by decide)⟩
          · show Steps p.tables e below (s₁.setTop (mkF m 0 #[.val (.long q0), .second, .val (.long q1), .second] [])) _
            refine XS.lloadN X0.here hx rfl (hb hby d1_0) rfl ?_
            show Steps p.tables e below (s₁.setTop (mkF m 1 #[.val (.long q0), .second, .val (.long q1), .second] [(.long q0)])) _
            refine XS.lconst X0.here hx rfl (hb hby d1_1) ?_
            show Steps p.tables e below (s₁.setTop (mkF m 2 #[.val (.long q0), .second, .val (.long q1), .second] [(.long (0 : Int64)), (.long q0)])) _
            refine XS.lcmp X0.here hx rfl (hb hby d1_2) rfl ?_
            show Steps p.tables e below (s₁.setTop (mkF m 3 #[.val (.long q0), .second, .val (.long q1), .second] [(.int (lcmpW q0 (0 : Int64)))])) _
            refine XS.ifYes X0.here hx rfl (pc0 := 3) (pc' := 10) rfl (hb hby d1_3) rfl ((if0 _ _).trans (feq (fun q => hc3 ((lw_eq _ _).mp q))).2) (by decide) (by decide) ?_
            show Steps p.tables e below (s₁.setTop (mkF m 10 #[.val (.long q0), .second, .val (.long q1), .second] [])) _
            refine XS.lloadN X0.here hx rfl (hb hby d1_10) rfl ?_
            show Steps p.tables e below (s₁.setTop (mkF m 11 #[.val (.long q0), .second, .val (.long q1), .second] [(.long q0)])) _
            refine XS.lconst X0.here hx rfl (hb hby d1_11) ?_
            show Steps p.tables e below (s₁.setTop (mkF m 12 #[.val (.long q0), .second, .val (.long q1), .second] [(.long (0 : Int64)), (.long q0)])) _
            refine XS.lcmp X0.here hx rfl (hb hby d1_12) rfl ?_
            show Steps p.tables e below (s₁.setTop (mkF m 13 #[.val (.long q0), .second, .val (.long q1), .second] [(.int (lcmpW q0 (0 : Int64)))])) _
            refine XS.ifYes X0.here hx rfl (pc0 := 13) (pc' := 20) rfl (hb hby d1_13) rfl ((if0 _ _).trans (flt (fun q => hc13 ((lw_lt _ _).mp q))).2.1) (by decide) (by decide) ?_
            show Steps p.tables e below (s₁.setTop (mkF m 20 #[.val (.long q0), .second, .val (.long q1), .second] [])) _
            refine XS.lloadN X0.here hx rfl (hb hby d1_20) rfl ?_
            show Steps p.tables e below (s₁.setTop (mkF m 21 #[.val (.long q0), .second, .val (.long q1), .second] [(.long q0)])) _
            refine X0.ldc2Long hx hown (mvT hZ (hw _ (List.mem_of_getElem? (i := 6) rfl))) (g := (mkF m 21 #[.val (.long q0), .second, .val (.long q1), .second] [(.long q0)])) rfl (hb hby d1_21) _ ?_
            show Steps p.tables e below (s₁.setTop (mkF m 24 #[.val (.long q0), .second, .val (.long q1), .second] [(.long (2592000 : Int64)), (.long q0)])) _
            refine XS.lcmp X0.here hx rfl (hb hby d1_24) rfl ?_
            show Steps p.tables e below (s₁.setTop (mkF m 25 #[.val (.long q0), .second, .val (.long q1), .second] [(.int (lcmpW q0 (2592000 : Int64)))])) _
            refine XS.ifYes X0.here hx rfl (pc0 := 25) (pc' := 36) rfl (hb hby d1_25) rfl ((if0 _ _).trans (tlt ((lw_gt _ _).mpr hc25)).2.2.1) (by decide) (by decide) ?_
            show Steps p.tables e below (s₁.setTop (mkF m 36 #[.val (.long q0), .second, .val (.long q1), .second] [])) _
            refine XS.lloadN X0.here hx rfl (hb hby d1_36) rfl ?_
            show Steps p.tables e below (s₁.setTop (mkF m 37 #[.val (.long q0), .second, .val (.long q1), .second] [(.long q0)])) _
            refine X0.ldc2Long hx hown (mvT hZ (hw _ (List.mem_of_getElem? (i := 16) rfl))) (g := (mkF m 37 #[.val (.long q0), .second, .val (.long q1), .second] [(.long q0)])) rfl (hb hby d1_37) _ ?_
            show Steps p.tables e below (s₁.setTop (mkF m 40 #[.val (.long q0), .second, .val (.long q1), .second] [(.long (9223372036854775 : Int64)), (.long q0)])) _
            refine XS.lcmp X0.here hx rfl (hb hby d1_40) rfl ?_
            show Steps p.tables e below (s₁.setTop (mkF m 41 #[.val (.long q0), .second, .val (.long q1), .second] [(.int (lcmpW q0 (9223372036854775 : Int64)))])) _
            refine XS.ifYes X0.here hx rfl (pc0 := 41) (pc' := 48) rfl (hb hby d1_41) rfl ((if0 _ _).trans (flt (fun q => hc41 ((lw_gt _ _).mp q))).2.2.2) (by decide) (by decide) ?_
            show Steps p.tables e below (s₁.setTop (mkF m 48 #[.val (.long q0), .second, .val (.long q1), .second] [])) _
            refine XS.lloadN X0.here hx rfl (hb hby d1_48) rfl ?_
            show Steps p.tables e below (s₁.setTop (mkF m 49 #[.val (.long q0), .second, .val (.long q1), .second] [(.long q0)])) _
            refine X0.ldc2Long hx hown (mvT hZ (hw _ (List.mem_of_getElem? (i := 7) rfl))) (g := (mkF m 49 #[.val (.long q0), .second, .val (.long q1), .second] [(.long q0)])) rfl (hb hby d1_49) _ ?_
            show Steps p.tables e below (s₁.setTop (mkF m 52 #[.val (.long q0), .second, .val (.long q1), .second] [(.long (1000 : Int64)), (.long q0)])) _
            refine XS.lmul X0.here hx rfl (hb hby d1_52) rfl ?_
            show Steps p.tables e below (s₁.setTop (mkF m 53 #[.val (.long q0), .second, .val (.long q1), .second] [(.long (q0 * (1000 : Int64)))])) _
            exact X0.lreturnOut hx Bd.returns (hb hby d1_53) hr
          · show Q1 Z q0 q1 h0 n0 _ s₁.heap _
            rw [e0]
            exact ⟨by rw [own_e, if_neg hc3, if_neg hc13, if_pos hc25, if_neg hc41], N0, rfl⟩
      · obtain ⟨fs, hr, hrun, hended, hW, hsame⟩ := X0.leave (v := some (.long (q1 + (q0 * (1000 : Int64))))) (fun h => by rw [Bd.returns] at h; cases h)
        refine ⟨_, _, pre0 _ ?_, hrun, hended, _, _, rfl, ?_, ⟨_, rfl⟩, hW, hsame.mono (by decide) (by decide)⟩
        · show Steps p.tables e below (s₁.setTop (mkF m 0 #[.val (.long q0), .second, .val (.long q1), .second] [])) _
          refine XS.lloadN X0.here hx rfl (hb hby d1_0) rfl ?_
          show Steps p.tables e below (s₁.setTop (mkF m 1 #[.val (.long q0), .second, .val (.long q1), .second] [(.long q0)])) _
          refine XS.lconst X0.here hx rfl (hb hby d1_1) ?_
          show Steps p.tables e below (s₁.setTop (mkF m 2 #[.val (.long q0), .second, .val (.long q1), .second] [(.long (0 : Int64)), (.long q0)])) _
          refine XS.lcmp X0.here hx rfl (hb hby d1_2) rfl ?_
          show Steps p.tables e below (s₁.setTop (mkF m 3 #[.val (.long q0), .second, .val (.long q1), .second] [(.int (lcmpW q0 (0 : Int64)))])) _
          refine XS.ifYes X0.here hx rfl (pc0 := 3) (pc' := 10) rfl (hb hby d1_3) rfl ((if0 _ _).trans (feq (fun q => hc3 ((lw_eq _ _).mp q))).2) (by decide) (by decide) ?_
          show Steps p.tables e below (s₁.setTop (mkF m 10 #[.val (.long q0), .second, .val (.long q1), .second] [])) _
          refine XS.lloadN X0.here hx rfl (hb hby d1_10) rfl ?_
          show Steps p.tables e below (s₁.setTop (mkF m 11 #[.val (.long q0), .second, .val (.long q1), .second] [(.long q0)])) _
          refine XS.lconst X0.here hx rfl (hb hby d1_11) ?_
          show Steps p.tables e below (s₁.setTop (mkF m 12 #[.val (.long q0), .second, .val (.long q1), .second] [(.long (0 : Int64)), (.long q0)])) _
          refine XS.lcmp X0.here hx rfl (hb hby d1_12) rfl ?_
          show Steps p.tables e below (s₁.setTop (mkF m 13 #[.val (.long q0), .second, .val (.long q1), .second] [(.int (lcmpW q0 (0 : Int64)))])) _
          refine XS.ifYes X0.here hx rfl (pc0 := 13) (pc' := 20) rfl (hb hby d1_13) rfl ((if0 _ _).trans (flt (fun q => hc13 ((lw_lt _ _).mp q))).2.1) (by decide) (by decide) ?_
          show Steps p.tables e below (s₁.setTop (mkF m 20 #[.val (.long q0), .second, .val (.long q1), .second] [])) _
          refine XS.lloadN X0.here hx rfl (hb hby d1_20) rfl ?_
          show Steps p.tables e below (s₁.setTop (mkF m 21 #[.val (.long q0), .second, .val (.long q1), .second] [(.long q0)])) _
          refine X0.ldc2Long hx hown (mvT hZ (hw _ (List.mem_of_getElem? (i := 6) rfl))) (g := (mkF m 21 #[.val (.long q0), .second, .val (.long q1), .second] [(.long q0)])) rfl (hb hby d1_21) _ ?_
          show Steps p.tables e below (s₁.setTop (mkF m 24 #[.val (.long q0), .second, .val (.long q1), .second] [(.long (2592000 : Int64)), (.long q0)])) _
          refine XS.lcmp X0.here hx rfl (hb hby d1_24) rfl ?_
          show Steps p.tables e below (s₁.setTop (mkF m 25 #[.val (.long q0), .second, .val (.long q1), .second] [(.int (lcmpW q0 (2592000 : Int64)))])) _
          refine XS.ifNo X0.here hx rfl (hb hby d1_25) rfl ((if0 _ _).trans (flt (fun q => hc25 ((lw_gt _ _).mp q))).2.2.1) ?_
          show Steps p.tables e below (s₁.setTop (mkF m 28 #[.val (.long q0), .second, .val (.long q1), .second] [])) _
          refine XS.lloadN X0.here hx rfl (hb hby d1_28) rfl ?_
          show Steps p.tables e below (s₁.setTop (mkF m 29 #[.val (.long q0), .second, .val (.long q1), .second] [(.long q1)])) _
          refine XS.lloadN X0.here hx rfl (hb hby d1_29) rfl ?_
          show Steps p.tables e below (s₁.setTop (mkF m 30 #[.val (.long q0), .second, .val (.long q1), .second] [(.long q0), (.long q1)])) _
          refine X0.ldc2Long hx hown (mvT hZ (hw _ (List.mem_of_getElem? (i := 7) rfl))) (g := (mkF m 30 #[.val (.long q0), .second, .val (.long q1), .second] [(.long q0), (.long q1)])) rfl (hb hby d1_30) _ ?_
          show Steps p.tables e below (s₁.setTop (mkF m 33 #[.val (.long q0), .second, .val (.long q1), .second] [(.long (1000 : Int64)), (.long q0), (.long q1)])) _
          refine XS.lmul X0.here hx rfl (hb hby d1_33) rfl ?_
          show Steps p.tables e below (s₁.setTop (mkF m 34 #[.val (.long q0), .second, .val (.long q1), .second] [(.long (q0 * (1000 : Int64))), (.long q1)])) _
          refine XS.ladd X0.here hx rfl (hb hby d1_34) rfl ?_
          show Steps p.tables e below (s₁.setTop (mkF m 35 #[.val (.long q0), .second, .val (.long q1), .second] [(.long (q1 + (q0 * (1000 : Int64))))])) _
          exact X0.lreturnOut hx Bd.returns (hb hby d1_35) hr
        · show Q1 Z q0 q1 h0 n0 _ s₁.heap _
          rw [e0]
          exact ⟨by rw [own_e, if_neg hc3, if_neg hc13, if_neg hc25], N0, rfl⟩
theorem ef_2 (m : MethodId) (x0 : Int32) : entryFrame m #[(.int x0)] 1 = mkF m 0 #[.val (.int x0)] [] := by first | (simp [entryFrame, mkF, argsToLocals, Value.category]; done) | rfl
theorem pn_com_example_nookd_nookd_store_ExpiryExpiresAtPinLaw : plainName "com/example/nookd/nookd/store/ExpiryExpiresAtPinLaw" = true := by first | (simp [plainName, overriddenIn]; done) | decide +kernel
theorem d2_0 : decode method_2_code 0 = .ok (.iload_n 0, 1) := by decide +kernel
theorem d2_1 : decode method_2_code 1 = .ok (.ifCond .ne 7, 3) := by decide +kernel
theorem d2_4 : decode method_2_code 4 = .ok (.ldc2_w 9, 3) := by decide +kernel
theorem d2_7 : decode method_2_code 7 = .ok (.lreturn, 1) := by decide +kernel
theorem d2_8 : decode method_2_code 8 = .ok (.iload_n 0, 1) := by decide +kernel
theorem d2_9 : decode method_2_code 9 = .ok (.iconst 1, 1) := by decide +kernel
theorem d2_10 : decode method_2_code 10 = .ok (.if_icmp .ne 7, 3) := by decide +kernel
theorem d2_13 : decode method_2_code 13 = .ok (.ldc2_w 11, 3) := by decide +kernel
theorem d2_16 : decode method_2_code 16 = .ok (.lreturn, 1) := by decide +kernel
theorem d2_17 : decode method_2_code 17 = .ok (.iload_n 0, 1) := by decide +kernel
theorem d2_18 : decode method_2_code 18 = .ok (.iconst 2, 1) := by decide +kernel
theorem d2_19 : decode method_2_code 19 = .ok (.if_icmp .ne 7, 3) := by decide +kernel
theorem d2_22 : decode method_2_code 22 = .ok (.ldc2_w 13, 3) := by decide +kernel
theorem d2_25 : decode method_2_code 25 = .ok (.lreturn, 1) := by decide +kernel
theorem d2_26 : decode method_2_code 26 = .ok (.iload_n 0, 1) := by decide +kernel
theorem d2_27 : decode method_2_code 27 = .ok (.iconst 3, 1) := by decide +kernel
theorem d2_28 : decode method_2_code 28 = .ok (.if_icmp .ne 7, 3) := by decide +kernel
theorem d2_31 : decode method_2_code 31 = .ok (.ldc2_w 15, 3) := by decide +kernel
theorem d2_34 : decode method_2_code 34 = .ok (.lreturn, 1) := by decide +kernel
theorem d2_35 : decode method_2_code 35 = .ok (.iload_n 0, 1) := by decide +kernel
theorem d2_36 : decode method_2_code 36 = .ok (.iconst 4, 1) := by decide +kernel
theorem d2_37 : decode method_2_code 37 = .ok (.if_icmp .ne 5, 3) := by decide +kernel
theorem d2_40 : decode method_2_code 40 = .ok (.lconst 1, 1) := by decide +kernel
theorem d2_41 : decode method_2_code 41 = .ok (.lreturn, 1) := by decide +kernel
theorem d2_42 : decode method_2_code 42 = .ok (.iload_n 0, 1) := by decide +kernel
theorem d2_43 : decode method_2_code 43 = .ok (.iconst 5, 1) := by decide +kernel
theorem d2_44 : decode method_2_code 44 = .ok (.if_icmp .ne 7, 3) := by decide +kernel
theorem d2_47 : decode method_2_code 47 = .ok (.ldc2_w 17, 3) := by decide +kernel
theorem d2_50 : decode method_2_code 50 = .ok (.lreturn, 1) := by decide +kernel
theorem d2_51 : decode method_2_code 51 = .ok (.iload_n 0, 1) := by decide +kernel
theorem d2_52 : decode method_2_code 52 = .ok (.bipush 6, 2) := by decide +kernel
theorem d2_54 : decode method_2_code 54 = .ok (.if_icmp .ne 7, 3) := by decide +kernel
theorem d2_57 : decode method_2_code 57 = .ok (.ldc2_w 21, 3) := by decide +kernel
theorem d2_60 : decode method_2_code 60 = .ok (.lreturn, 1) := by decide +kernel
theorem d2_61 : decode method_2_code 61 = .ok (.ldc2_w 23, 3) := by decide +kernel
theorem d2_64 : decode method_2_code 64 = .ok (.lreturn, 1) := by decide +kernel
def Q2 (Z : State) (p0 : Int32) (h0 : Heap) (n0 : Nat) (v : Option Value) (h : Heap) (L : List Loc) : Prop := v = some (.long (own_bd p0)) ∧ Fr n0 L ∧ h = h0
set_option maxRecDepth 65536 in
set_option maxHeartbeats 40000000 in
theorem rm2 (l : Launch) (Z : State) (a0 : Array Value) (hw : ∀ d ∈ tables_1, d.before a0 Z = true) (ws : List Jvm.Cond) (p0 : Int32) (h0 : Heap) (n0 : Nat) (Z0 : n0 ≤ h0.size)  :
    MetFree l (⟨"com/example/nookd/nookd/store/ExpiryExpiresAtPinLaw", "boundary", "(I)J"⟩ : MethodName) (head1 (Jvm.Cond.code (⟨"com/example/nookd/nookd/store/ExpiryExpiresAtPinLaw", "boundary", "(I)J"⟩ : MethodName) method_2_code 1 (some .long) :: ws) ({ frames := 0, cells := 0, slots := 0, locals := 0 } : Room)) (fun a U => a = #[(.int p0)] ∧ Z.Warmed39 U.vm ∧ U.heap = h0) (fun _ _ _ _ _ => True) (fun _ U o U' => ∃ v L, o = .returned v ∧ Q2 Z p0 h0 n0 v U'.heap L ∧ FrameEnd U o U' L ({ frames := 0, cells := 0, slots := 0, locals := 0 } : Room).cells ({ frames := 0, cells := 0, slots := 0, locals := 0 } : Room).slots) := by
  refine MetFree.of_bodySF (plainFor_of_name pn_com_example_nookd_nookd_store_ExpiryExpiresAtPinLaw) hisR ?_
  intro p e s m args below meth c s₁ Bd hml0 hP hK
  obtain ⟨rfl, hZ, hh⟩ := hP
  have hx := Bd.exec
  have hby := Bd.bytes
  have hml : c.maxLocals = 1 := hml0
  have hown : s.vm.findClass "com/example/nookd/nookd/store/ExpiryExpiresAtPinLaw" = some m.cls := findClass_of_methodNamed Bd.named
  have hnm := (name_of_methodNamed Bd.named Bd.method).1
  have X0 : Stand p l e ({ frames := 0, cells := 0, slots := 0, locals := 0 } : Room) s m #[(.int p0)] below meth c s₁ [] 0 0 := Stand.of_body Bd
  have e0 : s₁.heap = h0 := by rw [← hh, Bd.state]; rfl
  have N0 := Fr.nil n0
  have pre0 : ∀ t, Steps p.tables e below (s₁.setTop (mkF m 0 #[.val (.int p0)] [])) t → Steps p.tables e below (s₁.setTop (entryFrame m #[(.int p0)] 1)) t := fun t k => castTop (ef_2 m p0) k
  by_cases hc1 : p0 = (0 : Int32)
  · obtain ⟨fs, hr, hrun, hended, hW, hsame⟩ := X0.leave (v := some (.long (2592000 : Int64))) (fun h => by rw [Bd.returns] at h; cases h)
    refine ⟨_, _, pre0 _ ?_, hrun, hended, _, _, rfl, ?_, ⟨_, rfl⟩, hW, hsame.mono (by decide) (by decide)⟩
    · show Steps p.tables e below (s₁.setTop (mkF m 0 #[.val (.int p0)] [])) _
      refine XS.iloadN X0.here hx rfl (hb hby d2_0) rfl ?_
      show Steps p.tables e below (s₁.setTop (mkF m 1 #[.val (.int p0)] [(.int p0)])) _
      refine XS.ifNo X0.here hx rfl (hb hby d2_1) rfl ((if0 _ _).trans (teq hc1).2) ?_
      show Steps p.tables e below (s₁.setTop (mkF m 4 #[.val (.int p0)] [])) _
      refine X0.ldc2Long hx hown (mvT hZ (hw _ (List.mem_of_getElem? (i := 8) rfl))) (g := (mkF m 4 #[.val (.int p0)] [])) rfl (hb hby d2_4) _ ?_
      show Steps p.tables e below (s₁.setTop (mkF m 7 #[.val (.int p0)] [(.long (2592000 : Int64))])) _
      exact X0.lreturnOut hx Bd.returns (hb hby d2_7) hr
    · show Q2 Z p0 h0 n0 _ s₁.heap _
      rw [e0]
      exact ⟨by rw [own_bd, if_pos hc1], N0, rfl⟩
  · by_cases hc10 : p0 = (1 : Int32)
    · obtain ⟨fs, hr, hrun, hended, hW, hsame⟩ := X0.leave (v := some (.long (2592001 : Int64))) (fun h => by rw [Bd.returns] at h; cases h)
      refine ⟨_, _, pre0 _ ?_, hrun, hended, _, _, rfl, ?_, ⟨_, rfl⟩, hW, hsame.mono (by decide) (by decide)⟩
      · show Steps p.tables e below (s₁.setTop (mkF m 0 #[.val (.int p0)] [])) _
        refine XS.iloadN X0.here hx rfl (hb hby d2_0) rfl ?_
        show Steps p.tables e below (s₁.setTop (mkF m 1 #[.val (.int p0)] [(.int p0)])) _
        refine XS.ifYes X0.here hx rfl (pc0 := 1) (pc' := 8) rfl (hb hby d2_1) rfl ((if0 _ _).trans (feq hc1).2) (by decide) (by decide) ?_
        show Steps p.tables e below (s₁.setTop (mkF m 8 #[.val (.int p0)] [])) _
        refine XS.iloadN X0.here hx rfl (hb hby d2_8) rfl ?_
        show Steps p.tables e below (s₁.setTop (mkF m 9 #[.val (.int p0)] [(.int p0)])) _
        refine XS.iconst X0.here hx rfl (hb hby d2_9) ?_
        show Steps p.tables e below (s₁.setTop (mkF m 10 #[.val (.int p0)] [(.int (1 : Int32)), (.int p0)])) _
        refine XS.icmpNo X0.here hx rfl (hb hby d2_10) rfl (teq hc10).2 ?_
        show Steps p.tables e below (s₁.setTop (mkF m 13 #[.val (.int p0)] [])) _
        refine X0.ldc2Long hx hown (mvT hZ (hw _ (List.mem_of_getElem? (i := 21) rfl))) (g := (mkF m 13 #[.val (.int p0)] [])) rfl (hb hby d2_13) _ ?_
        show Steps p.tables e below (s₁.setTop (mkF m 16 #[.val (.int p0)] [(.long (2592001 : Int64))])) _
        exact X0.lreturnOut hx Bd.returns (hb hby d2_16) hr
      · show Q2 Z p0 h0 n0 _ s₁.heap _
        rw [e0]
        exact ⟨by rw [own_bd, if_neg hc1, if_pos hc10], N0, rfl⟩
    · by_cases hc19 : p0 = (2 : Int32)
      · obtain ⟨fs, hr, hrun, hended, hW, hsame⟩ := X0.leave (v := some (.long (9223372036854775 : Int64))) (fun h => by rw [Bd.returns] at h; cases h)
        refine ⟨_, _, pre0 _ ?_, hrun, hended, _, _, rfl, ?_, ⟨_, rfl⟩, hW, hsame.mono (by decide) (by decide)⟩
        · show Steps p.tables e below (s₁.setTop (mkF m 0 #[.val (.int p0)] [])) _
          refine XS.iloadN X0.here hx rfl (hb hby d2_0) rfl ?_
          show Steps p.tables e below (s₁.setTop (mkF m 1 #[.val (.int p0)] [(.int p0)])) _
          refine XS.ifYes X0.here hx rfl (pc0 := 1) (pc' := 8) rfl (hb hby d2_1) rfl ((if0 _ _).trans (feq hc1).2) (by decide) (by decide) ?_
          show Steps p.tables e below (s₁.setTop (mkF m 8 #[.val (.int p0)] [])) _
          refine XS.iloadN X0.here hx rfl (hb hby d2_8) rfl ?_
          show Steps p.tables e below (s₁.setTop (mkF m 9 #[.val (.int p0)] [(.int p0)])) _
          refine XS.iconst X0.here hx rfl (hb hby d2_9) ?_
          show Steps p.tables e below (s₁.setTop (mkF m 10 #[.val (.int p0)] [(.int (1 : Int32)), (.int p0)])) _
          refine XS.icmpYes X0.here hx rfl (pc0 := 10) (pc' := 17) rfl (hb hby d2_10) rfl (feq hc10).2 (by decide) (by decide) ?_
          show Steps p.tables e below (s₁.setTop (mkF m 17 #[.val (.int p0)] [])) _
          refine XS.iloadN X0.here hx rfl (hb hby d2_17) rfl ?_
          show Steps p.tables e below (s₁.setTop (mkF m 18 #[.val (.int p0)] [(.int p0)])) _
          refine XS.iconst X0.here hx rfl (hb hby d2_18) ?_
          show Steps p.tables e below (s₁.setTop (mkF m 19 #[.val (.int p0)] [(.int (2 : Int32)), (.int p0)])) _
          refine XS.icmpNo X0.here hx rfl (hb hby d2_19) rfl (teq hc19).2 ?_
          show Steps p.tables e below (s₁.setTop (mkF m 22 #[.val (.int p0)] [])) _
          refine X0.ldc2Long hx hown (mvT hZ (hw _ (List.mem_of_getElem? (i := 17) rfl))) (g := (mkF m 22 #[.val (.int p0)] [])) rfl (hb hby d2_22) _ ?_
          show Steps p.tables e below (s₁.setTop (mkF m 25 #[.val (.int p0)] [(.long (9223372036854775 : Int64))])) _
          exact X0.lreturnOut hx Bd.returns (hb hby d2_25) hr
        · show Q2 Z p0 h0 n0 _ s₁.heap _
          rw [e0]
          exact ⟨by rw [own_bd, if_neg hc1, if_neg hc10, if_pos hc19], N0, rfl⟩
      · by_cases hc28 : p0 = (3 : Int32)
        · obtain ⟨fs, hr, hrun, hended, hW, hsame⟩ := X0.leave (v := some (.long (9223372036854776 : Int64))) (fun h => by rw [Bd.returns] at h; cases h)
          refine ⟨_, _, pre0 _ ?_, hrun, hended, _, _, rfl, ?_, ⟨_, rfl⟩, hW, hsame.mono (by decide) (by decide)⟩
          · show Steps p.tables e below (s₁.setTop (mkF m 0 #[.val (.int p0)] [])) _
            refine XS.iloadN X0.here hx rfl (hb hby d2_0) rfl ?_
            show Steps p.tables e below (s₁.setTop (mkF m 1 #[.val (.int p0)] [(.int p0)])) _
            refine XS.ifYes X0.here hx rfl (pc0 := 1) (pc' := 8) rfl (hb hby d2_1) rfl ((if0 _ _).trans (feq hc1).2) (by decide) (by decide) ?_
            show Steps p.tables e below (s₁.setTop (mkF m 8 #[.val (.int p0)] [])) _
            refine XS.iloadN X0.here hx rfl (hb hby d2_8) rfl ?_
            show Steps p.tables e below (s₁.setTop (mkF m 9 #[.val (.int p0)] [(.int p0)])) _
            refine XS.iconst X0.here hx rfl (hb hby d2_9) ?_
            show Steps p.tables e below (s₁.setTop (mkF m 10 #[.val (.int p0)] [(.int (1 : Int32)), (.int p0)])) _
            refine XS.icmpYes X0.here hx rfl (pc0 := 10) (pc' := 17) rfl (hb hby d2_10) rfl (feq hc10).2 (by decide) (by decide) ?_
            show Steps p.tables e below (s₁.setTop (mkF m 17 #[.val (.int p0)] [])) _
            refine XS.iloadN X0.here hx rfl (hb hby d2_17) rfl ?_
            show Steps p.tables e below (s₁.setTop (mkF m 18 #[.val (.int p0)] [(.int p0)])) _
            refine XS.iconst X0.here hx rfl (hb hby d2_18) ?_
            show Steps p.tables e below (s₁.setTop (mkF m 19 #[.val (.int p0)] [(.int (2 : Int32)), (.int p0)])) _
            refine XS.icmpYes X0.here hx rfl (pc0 := 19) (pc' := 26) rfl (hb hby d2_19) rfl (feq hc19).2 (by decide) (by decide) ?_
            show Steps p.tables e below (s₁.setTop (mkF m 26 #[.val (.int p0)] [])) _
            refine XS.iloadN X0.here hx rfl (hb hby d2_26) rfl ?_
            show Steps p.tables e below (s₁.setTop (mkF m 27 #[.val (.int p0)] [(.int p0)])) _
            refine XS.iconst X0.here hx rfl (hb hby d2_27) ?_
            show Steps p.tables e below (s₁.setTop (mkF m 28 #[.val (.int p0)] [(.int (3 : Int32)), (.int p0)])) _
            refine XS.icmpNo X0.here hx rfl (hb hby d2_28) rfl (teq hc28).2 ?_
            show Steps p.tables e below (s₁.setTop (mkF m 31 #[.val (.int p0)] [])) _
            refine X0.ldc2Long hx hown (mvT hZ (hw _ (List.mem_of_getElem? (i := 15) rfl))) (g := (mkF m 31 #[.val (.int p0)] [])) rfl (hb hby d2_31) _ ?_
            show Steps p.tables e below (s₁.setTop (mkF m 34 #[.val (.int p0)] [(.long (9223372036854776 : Int64))])) _
            exact X0.lreturnOut hx Bd.returns (hb hby d2_34) hr
          · show Q2 Z p0 h0 n0 _ s₁.heap _
            rw [e0]
            exact ⟨by rw [own_bd, if_neg hc1, if_neg hc10, if_neg hc19, if_pos hc28], N0, rfl⟩
        · by_cases hc37 : p0 = (4 : Int32)
          · obtain ⟨fs, hr, hrun, hended, hW, hsame⟩ := X0.leave (v := some (.long (1 : Int64))) (fun h => by rw [Bd.returns] at h; cases h)
            refine ⟨_, _, pre0 _ ?_, hrun, hended, _, _, rfl, ?_, ⟨_, rfl⟩, hW, hsame.mono (by decide) (by decide)⟩
            · show Steps p.tables e below (s₁.setTop (mkF m 0 #[.val (.int p0)] [])) _
              refine XS.iloadN X0.here hx rfl (hb hby d2_0) rfl ?_
              show Steps p.tables e below (s₁.setTop (mkF m 1 #[.val (.int p0)] [(.int p0)])) _
              refine XS.ifYes X0.here hx rfl (pc0 := 1) (pc' := 8) rfl (hb hby d2_1) rfl ((if0 _ _).trans (feq hc1).2) (by decide) (by decide) ?_
              show Steps p.tables e below (s₁.setTop (mkF m 8 #[.val (.int p0)] [])) _
              refine XS.iloadN X0.here hx rfl (hb hby d2_8) rfl ?_
              show Steps p.tables e below (s₁.setTop (mkF m 9 #[.val (.int p0)] [(.int p0)])) _
              refine XS.iconst X0.here hx rfl (hb hby d2_9) ?_
              show Steps p.tables e below (s₁.setTop (mkF m 10 #[.val (.int p0)] [(.int (1 : Int32)), (.int p0)])) _
              refine XS.icmpYes X0.here hx rfl (pc0 := 10) (pc' := 17) rfl (hb hby d2_10) rfl (feq hc10).2 (by decide) (by decide) ?_
              show Steps p.tables e below (s₁.setTop (mkF m 17 #[.val (.int p0)] [])) _
              refine XS.iloadN X0.here hx rfl (hb hby d2_17) rfl ?_
              show Steps p.tables e below (s₁.setTop (mkF m 18 #[.val (.int p0)] [(.int p0)])) _
              refine XS.iconst X0.here hx rfl (hb hby d2_18) ?_
              show Steps p.tables e below (s₁.setTop (mkF m 19 #[.val (.int p0)] [(.int (2 : Int32)), (.int p0)])) _
              refine XS.icmpYes X0.here hx rfl (pc0 := 19) (pc' := 26) rfl (hb hby d2_19) rfl (feq hc19).2 (by decide) (by decide) ?_
              show Steps p.tables e below (s₁.setTop (mkF m 26 #[.val (.int p0)] [])) _
              refine XS.iloadN X0.here hx rfl (hb hby d2_26) rfl ?_
              show Steps p.tables e below (s₁.setTop (mkF m 27 #[.val (.int p0)] [(.int p0)])) _
              refine XS.iconst X0.here hx rfl (hb hby d2_27) ?_
              show Steps p.tables e below (s₁.setTop (mkF m 28 #[.val (.int p0)] [(.int (3 : Int32)), (.int p0)])) _
              refine XS.icmpYes X0.here hx rfl (pc0 := 28) (pc' := 35) rfl (hb hby d2_28) rfl (feq hc28).2 (by decide) (by decide) ?_
              show Steps p.tables e below (s₁.setTop (mkF m 35 #[.val (.int p0)] [])) _
              refine XS.iloadN X0.here hx rfl (hb hby d2_35) rfl ?_
              show Steps p.tables e below (s₁.setTop (mkF m 36 #[.val (.int p0)] [(.int p0)])) _
              refine XS.iconst X0.here hx rfl (hb hby d2_36) ?_
              show Steps p.tables e below (s₁.setTop (mkF m 37 #[.val (.int p0)] [(.int (4 : Int32)), (.int p0)])) _
              refine XS.icmpNo X0.here hx rfl (hb hby d2_37) rfl (teq hc37).2 ?_
              show Steps p.tables e below (s₁.setTop (mkF m 40 #[.val (.int p0)] [])) _
              refine XS.lconst X0.here hx rfl (hb hby d2_40) ?_
              show Steps p.tables e below (s₁.setTop (mkF m 41 #[.val (.int p0)] [(.long (1 : Int64))])) _
              exact X0.lreturnOut hx Bd.returns (hb hby d2_41) hr
            · show Q2 Z p0 h0 n0 _ s₁.heap _
              rw [e0]
              exact ⟨by rw [own_bd, if_neg hc1, if_neg hc10, if_neg hc19, if_neg hc28, if_pos hc37], N0, rfl⟩
          · by_cases hc44 : p0 = (5 : Int32)
            · obtain ⟨fs, hr, hrun, hended, hW, hsame⟩ := X0.leave (v := some (.long (-1 : Int64))) (fun h => by rw [Bd.returns] at h; cases h)
              refine ⟨_, _, pre0 _ ?_, hrun, hended, _, _, rfl, ?_, ⟨_, rfl⟩, hW, hsame.mono (by decide) (by decide)⟩
              · show Steps p.tables e below (s₁.setTop (mkF m 0 #[.val (.int p0)] [])) _
                refine XS.iloadN X0.here hx rfl (hb hby d2_0) rfl ?_
                show Steps p.tables e below (s₁.setTop (mkF m 1 #[.val (.int p0)] [(.int p0)])) _
                refine XS.ifYes X0.here hx rfl (pc0 := 1) (pc' := 8) rfl (hb hby d2_1) rfl ((if0 _ _).trans (feq hc1).2) (by decide) (by decide) ?_
                show Steps p.tables e below (s₁.setTop (mkF m 8 #[.val (.int p0)] [])) _
                refine XS.iloadN X0.here hx rfl (hb hby d2_8) rfl ?_
                show Steps p.tables e below (s₁.setTop (mkF m 9 #[.val (.int p0)] [(.int p0)])) _
                refine XS.iconst X0.here hx rfl (hb hby d2_9) ?_
                show Steps p.tables e below (s₁.setTop (mkF m 10 #[.val (.int p0)] [(.int (1 : Int32)), (.int p0)])) _
                refine XS.icmpYes X0.here hx rfl (pc0 := 10) (pc' := 17) rfl (hb hby d2_10) rfl (feq hc10).2 (by decide) (by decide) ?_
                show Steps p.tables e below (s₁.setTop (mkF m 17 #[.val (.int p0)] [])) _
                refine XS.iloadN X0.here hx rfl (hb hby d2_17) rfl ?_
                show Steps p.tables e below (s₁.setTop (mkF m 18 #[.val (.int p0)] [(.int p0)])) _
                refine XS.iconst X0.here hx rfl (hb hby d2_18) ?_
                show Steps p.tables e below (s₁.setTop (mkF m 19 #[.val (.int p0)] [(.int (2 : Int32)), (.int p0)])) _
                refine XS.icmpYes X0.here hx rfl (pc0 := 19) (pc' := 26) rfl (hb hby d2_19) rfl (feq hc19).2 (by decide) (by decide) ?_
                show Steps p.tables e below (s₁.setTop (mkF m 26 #[.val (.int p0)] [])) _
                refine XS.iloadN X0.here hx rfl (hb hby d2_26) rfl ?_
                show Steps p.tables e below (s₁.setTop (mkF m 27 #[.val (.int p0)] [(.int p0)])) _
                refine XS.iconst X0.here hx rfl (hb hby d2_27) ?_
                show Steps p.tables e below (s₁.setTop (mkF m 28 #[.val (.int p0)] [(.int (3 : Int32)), (.int p0)])) _
                refine XS.icmpYes X0.here hx rfl (pc0 := 28) (pc' := 35) rfl (hb hby d2_28) rfl (feq hc28).2 (by decide) (by decide) ?_
                show Steps p.tables e below (s₁.setTop (mkF m 35 #[.val (.int p0)] [])) _
                refine XS.iloadN X0.here hx rfl (hb hby d2_35) rfl ?_
                show Steps p.tables e below (s₁.setTop (mkF m 36 #[.val (.int p0)] [(.int p0)])) _
                refine XS.iconst X0.here hx rfl (hb hby d2_36) ?_
                show Steps p.tables e below (s₁.setTop (mkF m 37 #[.val (.int p0)] [(.int (4 : Int32)), (.int p0)])) _
                refine XS.icmpYes X0.here hx rfl (pc0 := 37) (pc' := 42) rfl (hb hby d2_37) rfl (feq hc37).2 (by decide) (by decide) ?_
                show Steps p.tables e below (s₁.setTop (mkF m 42 #[.val (.int p0)] [])) _
                refine XS.iloadN X0.here hx rfl (hb hby d2_42) rfl ?_
                show Steps p.tables e below (s₁.setTop (mkF m 43 #[.val (.int p0)] [(.int p0)])) _
                refine XS.iconst X0.here hx rfl (hb hby d2_43) ?_
                show Steps p.tables e below (s₁.setTop (mkF m 44 #[.val (.int p0)] [(.int (5 : Int32)), (.int p0)])) _
                refine XS.icmpNo X0.here hx rfl (hb hby d2_44) rfl (teq hc44).2 ?_
                show Steps p.tables e below (s₁.setTop (mkF m 47 #[.val (.int p0)] [])) _
                refine X0.ldc2Long hx hown (mvT hZ (hw _ (List.mem_of_getElem? (i := 23) rfl))) (g := (mkF m 47 #[.val (.int p0)] [])) rfl (hb hby d2_47) _ ?_
                show Steps p.tables e below (s₁.setTop (mkF m 50 #[.val (.int p0)] [(.long (-1 : Int64))])) _
                exact X0.lreturnOut hx Bd.returns (hb hby d2_50) hr
              · show Q2 Z p0 h0 n0 _ s₁.heap _
                rw [e0]
                exact ⟨by rw [own_bd, if_neg hc1, if_neg hc10, if_neg hc19, if_neg hc28, if_neg hc37, if_pos hc44], N0, rfl⟩
            · by_cases hc54 : p0 = (6 : Int32)
              · obtain ⟨fs, hr, hrun, hended, hW, hsame⟩ := X0.leave (v := some (.long (9223372036854775807 : Int64))) (fun h => by rw [Bd.returns] at h; cases h)
                refine ⟨_, _, pre0 _ ?_, hrun, hended, _, _, rfl, ?_, ⟨_, rfl⟩, hW, hsame.mono (by decide) (by decide)⟩
                · show Steps p.tables e below (s₁.setTop (mkF m 0 #[.val (.int p0)] [])) _
                  refine XS.iloadN X0.here hx rfl (hb hby d2_0) rfl ?_
                  show Steps p.tables e below (s₁.setTop (mkF m 1 #[.val (.int p0)] [(.int p0)])) _
                  refine XS.ifYes X0.here hx rfl (pc0 := 1) (pc' := 8) rfl (hb hby d2_1) rfl ((if0 _ _).trans (feq hc1).2) (by decide) (by decide) ?_
                  show Steps p.tables e below (s₁.setTop (mkF m 8 #[.val (.int p0)] [])) _
                  refine XS.iloadN X0.here hx rfl (hb hby d2_8) rfl ?_
                  show Steps p.tables e below (s₁.setTop (mkF m 9 #[.val (.int p0)] [(.int p0)])) _
                  refine XS.iconst X0.here hx rfl (hb hby d2_9) ?_
                  show Steps p.tables e below (s₁.setTop (mkF m 10 #[.val (.int p0)] [(.int (1 : Int32)), (.int p0)])) _
                  refine XS.icmpYes X0.here hx rfl (pc0 := 10) (pc' := 17) rfl (hb hby d2_10) rfl (feq hc10).2 (by decide) (by decide) ?_
                  show Steps p.tables e below (s₁.setTop (mkF m 17 #[.val (.int p0)] [])) _
                  refine XS.iloadN X0.here hx rfl (hb hby d2_17) rfl ?_
                  show Steps p.tables e below (s₁.setTop (mkF m 18 #[.val (.int p0)] [(.int p0)])) _
                  refine XS.iconst X0.here hx rfl (hb hby d2_18) ?_
                  show Steps p.tables e below (s₁.setTop (mkF m 19 #[.val (.int p0)] [(.int (2 : Int32)), (.int p0)])) _
                  refine XS.icmpYes X0.here hx rfl (pc0 := 19) (pc' := 26) rfl (hb hby d2_19) rfl (feq hc19).2 (by decide) (by decide) ?_
                  show Steps p.tables e below (s₁.setTop (mkF m 26 #[.val (.int p0)] [])) _
                  refine XS.iloadN X0.here hx rfl (hb hby d2_26) rfl ?_
                  show Steps p.tables e below (s₁.setTop (mkF m 27 #[.val (.int p0)] [(.int p0)])) _
                  refine XS.iconst X0.here hx rfl (hb hby d2_27) ?_
                  show Steps p.tables e below (s₁.setTop (mkF m 28 #[.val (.int p0)] [(.int (3 : Int32)), (.int p0)])) _
                  refine XS.icmpYes X0.here hx rfl (pc0 := 28) (pc' := 35) rfl (hb hby d2_28) rfl (feq hc28).2 (by decide) (by decide) ?_
                  show Steps p.tables e below (s₁.setTop (mkF m 35 #[.val (.int p0)] [])) _
                  refine XS.iloadN X0.here hx rfl (hb hby d2_35) rfl ?_
                  show Steps p.tables e below (s₁.setTop (mkF m 36 #[.val (.int p0)] [(.int p0)])) _
                  refine XS.iconst X0.here hx rfl (hb hby d2_36) ?_
                  show Steps p.tables e below (s₁.setTop (mkF m 37 #[.val (.int p0)] [(.int (4 : Int32)), (.int p0)])) _
                  refine XS.icmpYes X0.here hx rfl (pc0 := 37) (pc' := 42) rfl (hb hby d2_37) rfl (feq hc37).2 (by decide) (by decide) ?_
                  show Steps p.tables e below (s₁.setTop (mkF m 42 #[.val (.int p0)] [])) _
                  refine XS.iloadN X0.here hx rfl (hb hby d2_42) rfl ?_
                  show Steps p.tables e below (s₁.setTop (mkF m 43 #[.val (.int p0)] [(.int p0)])) _
                  refine XS.iconst X0.here hx rfl (hb hby d2_43) ?_
                  show Steps p.tables e below (s₁.setTop (mkF m 44 #[.val (.int p0)] [(.int (5 : Int32)), (.int p0)])) _
                  refine XS.icmpYes X0.here hx rfl (pc0 := 44) (pc' := 51) rfl (hb hby d2_44) rfl (feq hc44).2 (by decide) (by decide) ?_
                  show Steps p.tables e below (s₁.setTop (mkF m 51 #[.val (.int p0)] [])) _
                  refine XS.iloadN X0.here hx rfl (hb hby d2_51) rfl ?_
                  show Steps p.tables e below (s₁.setTop (mkF m 52 #[.val (.int p0)] [(.int p0)])) _
                  refine XS.bipush X0.here hx rfl (hb hby d2_52) ?_
                  show Steps p.tables e below (s₁.setTop (mkF m 54 #[.val (.int p0)] [(.int (6 : Int32)), (.int p0)])) _
                  refine XS.icmpNo X0.here hx rfl (hb hby d2_54) rfl (teq hc54).2 ?_
                  show Steps p.tables e below (s₁.setTop (mkF m 57 #[.val (.int p0)] [])) _
                  refine X0.ldc2Long hx hown (mvT hZ (hw _ (List.mem_of_getElem? (i := 0) rfl))) (g := (mkF m 57 #[.val (.int p0)] [])) rfl (hb hby d2_57) _ ?_
                  show Steps p.tables e below (s₁.setTop (mkF m 60 #[.val (.int p0)] [(.long (9223372036854775807 : Int64))])) _
                  exact X0.lreturnOut hx Bd.returns (hb hby d2_60) hr
                · show Q2 Z p0 h0 n0 _ s₁.heap _
                  rw [e0]
                  exact ⟨by rw [own_bd, if_neg hc1, if_neg hc10, if_neg hc19, if_neg hc28, if_neg hc37, if_neg hc44, if_pos hc54], N0, rfl⟩
              · obtain ⟨fs, hr, hrun, hended, hW, hsame⟩ := X0.leave (v := some (.long (-9223372036854775808 : Int64))) (fun h => by rw [Bd.returns] at h; cases h)
                refine ⟨_, _, pre0 _ ?_, hrun, hended, _, _, rfl, ?_, ⟨_, rfl⟩, hW, hsame.mono (by decide) (by decide)⟩
                · show Steps p.tables e below (s₁.setTop (mkF m 0 #[.val (.int p0)] [])) _
                  refine XS.iloadN X0.here hx rfl (hb hby d2_0) rfl ?_
                  show Steps p.tables e below (s₁.setTop (mkF m 1 #[.val (.int p0)] [(.int p0)])) _
                  refine XS.ifYes X0.here hx rfl (pc0 := 1) (pc' := 8) rfl (hb hby d2_1) rfl ((if0 _ _).trans (feq hc1).2) (by decide) (by decide) ?_
                  show Steps p.tables e below (s₁.setTop (mkF m 8 #[.val (.int p0)] [])) _
                  refine XS.iloadN X0.here hx rfl (hb hby d2_8) rfl ?_
                  show Steps p.tables e below (s₁.setTop (mkF m 9 #[.val (.int p0)] [(.int p0)])) _
                  refine XS.iconst X0.here hx rfl (hb hby d2_9) ?_
                  show Steps p.tables e below (s₁.setTop (mkF m 10 #[.val (.int p0)] [(.int (1 : Int32)), (.int p0)])) _
                  refine XS.icmpYes X0.here hx rfl (pc0 := 10) (pc' := 17) rfl (hb hby d2_10) rfl (feq hc10).2 (by decide) (by decide) ?_
                  show Steps p.tables e below (s₁.setTop (mkF m 17 #[.val (.int p0)] [])) _
                  refine XS.iloadN X0.here hx rfl (hb hby d2_17) rfl ?_
                  show Steps p.tables e below (s₁.setTop (mkF m 18 #[.val (.int p0)] [(.int p0)])) _
                  refine XS.iconst X0.here hx rfl (hb hby d2_18) ?_
                  show Steps p.tables e below (s₁.setTop (mkF m 19 #[.val (.int p0)] [(.int (2 : Int32)), (.int p0)])) _
                  refine XS.icmpYes X0.here hx rfl (pc0 := 19) (pc' := 26) rfl (hb hby d2_19) rfl (feq hc19).2 (by decide) (by decide) ?_
                  show Steps p.tables e below (s₁.setTop (mkF m 26 #[.val (.int p0)] [])) _
                  refine XS.iloadN X0.here hx rfl (hb hby d2_26) rfl ?_
                  show Steps p.tables e below (s₁.setTop (mkF m 27 #[.val (.int p0)] [(.int p0)])) _
                  refine XS.iconst X0.here hx rfl (hb hby d2_27) ?_
                  show Steps p.tables e below (s₁.setTop (mkF m 28 #[.val (.int p0)] [(.int (3 : Int32)), (.int p0)])) _
                  refine XS.icmpYes X0.here hx rfl (pc0 := 28) (pc' := 35) rfl (hb hby d2_28) rfl (feq hc28).2 (by decide) (by decide) ?_
                  show Steps p.tables e below (s₁.setTop (mkF m 35 #[.val (.int p0)] [])) _
                  refine XS.iloadN X0.here hx rfl (hb hby d2_35) rfl ?_
                  show Steps p.tables e below (s₁.setTop (mkF m 36 #[.val (.int p0)] [(.int p0)])) _
                  refine XS.iconst X0.here hx rfl (hb hby d2_36) ?_
                  show Steps p.tables e below (s₁.setTop (mkF m 37 #[.val (.int p0)] [(.int (4 : Int32)), (.int p0)])) _
                  refine XS.icmpYes X0.here hx rfl (pc0 := 37) (pc' := 42) rfl (hb hby d2_37) rfl (feq hc37).2 (by decide) (by decide) ?_
                  show Steps p.tables e below (s₁.setTop (mkF m 42 #[.val (.int p0)] [])) _
                  refine XS.iloadN X0.here hx rfl (hb hby d2_42) rfl ?_
                  show Steps p.tables e below (s₁.setTop (mkF m 43 #[.val (.int p0)] [(.int p0)])) _
                  refine XS.iconst X0.here hx rfl (hb hby d2_43) ?_
                  show Steps p.tables e below (s₁.setTop (mkF m 44 #[.val (.int p0)] [(.int (5 : Int32)), (.int p0)])) _
                  refine XS.icmpYes X0.here hx rfl (pc0 := 44) (pc' := 51) rfl (hb hby d2_44) rfl (feq hc44).2 (by decide) (by decide) ?_
                  show Steps p.tables e below (s₁.setTop (mkF m 51 #[.val (.int p0)] [])) _
                  refine XS.iloadN X0.here hx rfl (hb hby d2_51) rfl ?_
                  show Steps p.tables e below (s₁.setTop (mkF m 52 #[.val (.int p0)] [(.int p0)])) _
                  refine XS.bipush X0.here hx rfl (hb hby d2_52) ?_
                  show Steps p.tables e below (s₁.setTop (mkF m 54 #[.val (.int p0)] [(.int (6 : Int32)), (.int p0)])) _
                  refine XS.icmpYes X0.here hx rfl (pc0 := 54) (pc' := 61) rfl (hb hby d2_54) rfl (feq hc54).2 (by decide) (by decide) ?_
                  show Steps p.tables e below (s₁.setTop (mkF m 61 #[.val (.int p0)] [])) _
                  refine X0.ldc2Long hx hown (mvT hZ (hw _ (List.mem_of_getElem? (i := 19) rfl))) (g := (mkF m 61 #[.val (.int p0)] [])) rfl (hb hby d2_61) _ ?_
                  show Steps p.tables e below (s₁.setTop (mkF m 64 #[.val (.int p0)] [(.long (-9223372036854775808 : Int64))])) _
                  exact X0.lreturnOut hx Bd.returns (hb hby d2_64) hr
                · show Q2 Z p0 h0 n0 _ s₁.heap _
                  rw [e0]
                  exact ⟨by rw [own_bd, if_neg hc1, if_neg hc10, if_neg hc19, if_neg hc28, if_neg hc37, if_neg hc44, if_neg hc54], N0, rfl⟩
theorem pd_28I29J : parseMethodDescriptor "(I)J" = some ⟨[.int], some .long⟩ := by decide +kernel
set_option maxRecDepth 65536 in
set_option maxHeartbeats 40000000 in
theorem pc_125 {p : Program} {l : Launch} {e : Env} {s : State} {m : MethodId} {args : Array Value} {below : List Frame} {meth : Method} {c : Code} {T0 : State} {locs : List Loc} {Z : State} {a0 : Array Value} {h0 : Heap} {n0 : Nat} (q0 q1 : Int64) (p2 : Int32)
    (X0 : Stand p l e room_1 s m args below meth c T0 locs 0 0) (hx : p.tables.exec = Jvm.exec) (hZ : Z.Warmed39 s.vm) (hw : ∀ d ∈ tables_1, d.before a0 Z = true) (hby : c.code = code) (hml : c.maxLocals = 12) (hown : s.vm.findClass "com/example/nookd/nookd/store/ExpiryExpiresAtPinLaw" = some m.cls) (e0 : T0.heap = h0) (Z0 : n0 ≤ h0.size) (N0 : Fr n0 locs)  :
    ∃ (T' : State) (locs' : List Loc), Stand p l e room_1 s m args below meth c T' locs' 0 0 ∧ Fr n0 locs' ∧ T'.heap = h0 ∧ ∀ target, Steps p.tables e below (T'.setTop (mkF m 125 #[.val (.long q0), .second, .val (.long q1), .second, .val (.int p2), .val (.int (p2 &&& (7 : Int32))), .val (.long (q0 &&& (9223372036854775807 : Int64))), .second, .val (.long (own_x q0 p2)), .second, .unset, .unset] [])) target → Steps p.tables e below (T0.setTop (mkF m 0 #[.val (.long q0), .second, .val (.long q1), .second, .val (.int p2), .unset, .unset, .unset, .unset, .unset, .unset, .unset] [])) target := by
  by_cases hc16 : (p2 &&& (7 : Int32)) = (0 : Int32)
  · refine ⟨T0, _, X0, N0, e0, fun target kt => ?_⟩
    show Steps p.tables e below (T0.setTop (mkF m 0 #[.val (.long q0), .second, .val (.long q1), .second, .val (.int p2), .unset, .unset, .unset, .unset, .unset, .unset, .unset] [])) _
    refine XS.iload X0.here hx rfl (hb hby at_0) rfl ?_
    show Steps p.tables e below (T0.setTop (mkF m 2 #[.val (.long q0), .second, .val (.long q1), .second, .val (.int p2), .unset, .unset, .unset, .unset, .unset, .unset, .unset] [(.int p2)])) _
    refine XS.bipush X0.here hx rfl (hb hby at_2) ?_
    show Steps p.tables e below (T0.setTop (mkF m 4 #[.val (.long q0), .second, .val (.long q1), .second, .val (.int p2), .unset, .unset, .unset, .unset, .unset, .unset, .unset] [(.int (7 : Int32)), (.int p2)])) _
    refine XS.iand X0.here hx rfl (hb hby at_4) rfl ?_
    show Steps p.tables e below (T0.setTop (mkF m 5 #[.val (.long q0), .second, .val (.long q1), .second, .val (.int p2), .unset, .unset, .unset, .unset, .unset, .unset, .unset] [(.int (p2 &&& (7 : Int32)))])) _
    refine XS.istore X0.here hx rfl (hb hby at_5) rfl (l' := #[.val (.long q0), .second, .val (.long q1), .second, .val (.int p2), .val (.int (p2 &&& (7 : Int32))), .unset, .unset, .unset, .unset, .unset, .unset]) rfl ?_
    show Steps p.tables e below (T0.setTop (mkF m 7 #[.val (.long q0), .second, .val (.long q1), .second, .val (.int p2), .val (.int (p2 &&& (7 : Int32))), .unset, .unset, .unset, .unset, .unset, .unset] [])) _
    refine XS.lloadN X0.here hx rfl (hb hby at_7) rfl ?_
    show Steps p.tables e below (T0.setTop (mkF m 8 #[.val (.long q0), .second, .val (.long q1), .second, .val (.int p2), .val (.int (p2 &&& (7 : Int32))), .unset, .unset, .unset, .unset, .unset, .unset] [(.long q0)])) _
    refine X0.ldc2Long hx hown (mvT hZ (hw _ (List.mem_of_getElem? (i := 0) rfl))) (g := (mkF m 8 #[.val (.long q0), .second, .val (.long q1), .second, .val (.int p2), .val (.int (p2 &&& (7 : Int32))), .unset, .unset, .unset, .unset, .unset, .unset] [(.long q0)])) rfl (hb hby at_8) _ ?_
    show Steps p.tables e below (T0.setTop (mkF m 11 #[.val (.long q0), .second, .val (.long q1), .second, .val (.int p2), .val (.int (p2 &&& (7 : Int32))), .unset, .unset, .unset, .unset, .unset, .unset] [(.long (9223372036854775807 : Int64)), (.long q0)])) _
    refine XS.land X0.here hx rfl (hb hby at_11) rfl ?_
    show Steps p.tables e below (T0.setTop (mkF m 12 #[.val (.long q0), .second, .val (.long q1), .second, .val (.int p2), .val (.int (p2 &&& (7 : Int32))), .unset, .unset, .unset, .unset, .unset, .unset] [(.long (q0 &&& (9223372036854775807 : Int64)))])) _
    refine XS.lstore X0.here hx rfl (hb hby at_12) rfl (l' := #[.val (.long q0), .second, .val (.long q1), .second, .val (.int p2), .val (.int (p2 &&& (7 : Int32))), .val (.long (q0 &&& (9223372036854775807 : Int64))), .second, .unset, .unset, .unset, .unset]) rfl ?_
    show Steps p.tables e below (T0.setTop (mkF m 14 #[.val (.long q0), .second, .val (.long q1), .second, .val (.int p2), .val (.int (p2 &&& (7 : Int32))), .val (.long (q0 &&& (9223372036854775807 : Int64))), .second, .unset, .unset, .unset, .unset] [])) _
    refine XS.iload X0.here hx rfl (hb hby at_14) rfl ?_
    show Steps p.tables e below (T0.setTop (mkF m 16 #[.val (.long q0), .second, .val (.long q1), .second, .val (.int p2), .val (.int (p2 &&& (7 : Int32))), .val (.long (q0 &&& (9223372036854775807 : Int64))), .second, .unset, .unset, .unset, .unset] [(.int (p2 &&& (7 : Int32)))])) _
    refine XS.ifNo X0.here hx rfl (hb hby at_16) rfl ((if0 _ _).trans (teq hc16).2) ?_
    show Steps p.tables e below (T0.setTop (mkF m 19 #[.val (.long q0), .second, .val (.long q1), .second, .val (.int p2), .val (.int (p2 &&& (7 : Int32))), .val (.long (q0 &&& (9223372036854775807 : Int64))), .second, .unset, .unset, .unset, .unset] [])) _
    refine XS.lconst X0.here hx rfl (hb hby at_19) ?_
    show Steps p.tables e below (T0.setTop (mkF m 20 #[.val (.long q0), .second, .val (.long q1), .second, .val (.int p2), .val (.int (p2 &&& (7 : Int32))), .val (.long (q0 &&& (9223372036854775807 : Int64))), .second, .unset, .unset, .unset, .unset] [(.long (0 : Int64))])) _
    refine XS.lstore X0.here hx rfl (hb hby at_20) rfl (l' := #[.val (.long q0), .second, .val (.long q1), .second, .val (.int p2), .val (.int (p2 &&& (7 : Int32))), .val (.long (q0 &&& (9223372036854775807 : Int64))), .second, .val (.long (0 : Int64)), .second, .unset, .unset]) rfl ?_
    show Steps p.tables e below (T0.setTop (mkF m 22 #[.val (.long q0), .second, .val (.long q1), .second, .val (.int p2), .val (.int (p2 &&& (7 : Int32))), .val (.long (q0 &&& (9223372036854775807 : Int64))), .second, .val (.long (0 : Int64)), .second, .unset, .unset] [])) _
    refine XS.goto X0.here hx rfl (pc0 := 22) (pc' := 125) rfl (hb hby at_22) (by decide) (by decide) ?_
    show Steps p.tables e below (T0.setTop (mkF m 125 #[.val (.long q0), .second, .val (.long q1), .second, .val (.int p2), .val (.int (p2 &&& (7 : Int32))), .val (.long (q0 &&& (9223372036854775807 : Int64))), .second, .val (.long (0 : Int64)), .second, .unset, .unset] [])) _
    have et : own_x q0 p2 = (0 : Int64) := by rw [own_x, if_pos hc16]
    rw [et] at kt
    exact kt
  · by_cases hc28 : (p2 &&& (7 : Int32)) = (1 : Int32)
    · refine ⟨T0, _, X0, N0, e0, fun target kt => ?_⟩
      show Steps p.tables e below (T0.setTop (mkF m 0 #[.val (.long q0), .second, .val (.long q1), .second, .val (.int p2), .unset, .unset, .unset, .unset, .unset, .unset, .unset] [])) _
      refine XS.iload X0.here hx rfl (hb hby at_0) rfl ?_
      show Steps p.tables e below (T0.setTop (mkF m 2 #[.val (.long q0), .second, .val (.long q1), .second, .val (.int p2), .unset, .unset, .unset, .unset, .unset, .unset, .unset] [(.int p2)])) _
      refine XS.bipush X0.here hx rfl (hb hby at_2) ?_
      show Steps p.tables e below (T0.setTop (mkF m 4 #[.val (.long q0), .second, .val (.long q1), .second, .val (.int p2), .unset, .unset, .unset, .unset, .unset, .unset, .unset] [(.int (7 : Int32)), (.int p2)])) _
      refine XS.iand X0.here hx rfl (hb hby at_4) rfl ?_
      show Steps p.tables e below (T0.setTop (mkF m 5 #[.val (.long q0), .second, .val (.long q1), .second, .val (.int p2), .unset, .unset, .unset, .unset, .unset, .unset, .unset] [(.int (p2 &&& (7 : Int32)))])) _
      refine XS.istore X0.here hx rfl (hb hby at_5) rfl (l' := #[.val (.long q0), .second, .val (.long q1), .second, .val (.int p2), .val (.int (p2 &&& (7 : Int32))), .unset, .unset, .unset, .unset, .unset, .unset]) rfl ?_
      show Steps p.tables e below (T0.setTop (mkF m 7 #[.val (.long q0), .second, .val (.long q1), .second, .val (.int p2), .val (.int (p2 &&& (7 : Int32))), .unset, .unset, .unset, .unset, .unset, .unset] [])) _
      refine XS.lloadN X0.here hx rfl (hb hby at_7) rfl ?_
      show Steps p.tables e below (T0.setTop (mkF m 8 #[.val (.long q0), .second, .val (.long q1), .second, .val (.int p2), .val (.int (p2 &&& (7 : Int32))), .unset, .unset, .unset, .unset, .unset, .unset] [(.long q0)])) _
      refine X0.ldc2Long hx hown (mvT hZ (hw _ (List.mem_of_getElem? (i := 0) rfl))) (g := (mkF m 8 #[.val (.long q0), .second, .val (.long q1), .second, .val (.int p2), .val (.int (p2 &&& (7 : Int32))), .unset, .unset, .unset, .unset, .unset, .unset] [(.long q0)])) rfl (hb hby at_8) _ ?_
      show Steps p.tables e below (T0.setTop (mkF m 11 #[.val (.long q0), .second, .val (.long q1), .second, .val (.int p2), .val (.int (p2 &&& (7 : Int32))), .unset, .unset, .unset, .unset, .unset, .unset] [(.long (9223372036854775807 : Int64)), (.long q0)])) _
      refine XS.land X0.here hx rfl (hb hby at_11) rfl ?_
      show Steps p.tables e below (T0.setTop (mkF m 12 #[.val (.long q0), .second, .val (.long q1), .second, .val (.int p2), .val (.int (p2 &&& (7 : Int32))), .unset, .unset, .unset, .unset, .unset, .unset] [(.long (q0 &&& (9223372036854775807 : Int64)))])) _
      refine XS.lstore X0.here hx rfl (hb hby at_12) rfl (l' := #[.val (.long q0), .second, .val (.long q1), .second, .val (.int p2), .val (.int (p2 &&& (7 : Int32))), .val (.long (q0 &&& (9223372036854775807 : Int64))), .second, .unset, .unset, .unset, .unset]) rfl ?_
      show Steps p.tables e below (T0.setTop (mkF m 14 #[.val (.long q0), .second, .val (.long q1), .second, .val (.int p2), .val (.int (p2 &&& (7 : Int32))), .val (.long (q0 &&& (9223372036854775807 : Int64))), .second, .unset, .unset, .unset, .unset] [])) _
      refine XS.iload X0.here hx rfl (hb hby at_14) rfl ?_
      show Steps p.tables e below (T0.setTop (mkF m 16 #[.val (.long q0), .second, .val (.long q1), .second, .val (.int p2), .val (.int (p2 &&& (7 : Int32))), .val (.long (q0 &&& (9223372036854775807 : Int64))), .second, .unset, .unset, .unset, .unset] [(.int (p2 &&& (7 : Int32)))])) _
      refine XS.ifYes X0.here hx rfl (pc0 := 16) (pc' := 25) rfl (hb hby at_16) rfl ((if0 _ _).trans (feq hc16).2) (by decide) (by decide) ?_
      show Steps p.tables e below (T0.setTop (mkF m 25 #[.val (.long q0), .second, .val (.long q1), .second, .val (.int p2), .val (.int (p2 &&& (7 : Int32))), .val (.long (q0 &&& (9223372036854775807 : Int64))), .second, .unset, .unset, .unset, .unset] [])) _
      refine XS.iload X0.here hx rfl (hb hby at_25) rfl ?_
      show Steps p.tables e below (T0.setTop (mkF m 27 #[.val (.long q0), .second, .val (.long q1), .second, .val (.int p2), .val (.int (p2 &&& (7 : Int32))), .val (.long (q0 &&& (9223372036854775807 : Int64))), .second, .unset, .unset, .unset, .unset] [(.int (p2 &&& (7 : Int32)))])) _
      refine XS.iconst X0.here hx rfl (hb hby at_27) ?_
      show Steps p.tables e below (T0.setTop (mkF m 28 #[.val (.long q0), .second, .val (.long q1), .second, .val (.int p2), .val (.int (p2 &&& (7 : Int32))), .val (.long (q0 &&& (9223372036854775807 : Int64))), .second, .unset, .unset, .unset, .unset] [(.int (1 : Int32)), (.int (p2 &&& (7 : Int32)))])) _
      refine XS.icmpNo X0.here hx rfl (hb hby at_28) rfl (teq hc28).2 ?_
      show Steps p.tables e below (T0.setTop (mkF m 31 #[.val (.long q0), .second, .val (.long q1), .second, .val (.int p2), .val (.int (p2 &&& (7 : Int32))), .val (.long (q0 &&& (9223372036854775807 : Int64))), .second, .unset, .unset, .unset, .unset] [])) _
      refine XS.lloadN X0.here hx rfl (hb hby at_31) rfl ?_
      show Steps p.tables e below (T0.setTop (mkF m 32 #[.val (.long q0), .second, .val (.long q1), .second, .val (.int p2), .val (.int (p2 &&& (7 : Int32))), .val (.long (q0 &&& (9223372036854775807 : Int64))), .second, .unset, .unset, .unset, .unset] [(.long q0)])) _
      refine X0.ldc2Long hx hown (mvT hZ (hw _ (List.mem_of_getElem? (i := 19) rfl))) (g := (mkF m 32 #[.val (.long q0), .second, .val (.long q1), .second, .val (.int p2), .val (.int (p2 &&& (7 : Int32))), .val (.long (q0 &&& (9223372036854775807 : Int64))), .second, .unset, .unset, .unset, .unset] [(.long q0)])) rfl (hb hby at_32) _ ?_
      show Steps p.tables e below (T0.setTop (mkF m 35 #[.val (.long q0), .second, .val (.long q1), .second, .val (.int p2), .val (.int (p2 &&& (7 : Int32))), .val (.long (q0 &&& (9223372036854775807 : Int64))), .second, .unset, .unset, .unset, .unset] [(.long (-9223372036854775808 : Int64)), (.long q0)])) _
      refine XS.lor X0.here hx rfl (hb hby at_35) rfl ?_
      show Steps p.tables e below (T0.setTop (mkF m 36 #[.val (.long q0), .second, .val (.long q1), .second, .val (.int p2), .val (.int (p2 &&& (7 : Int32))), .val (.long (q0 &&& (9223372036854775807 : Int64))), .second, .unset, .unset, .unset, .unset] [(.long (q0 ||| (-9223372036854775808 : Int64)))])) _
      refine XS.lstore X0.here hx rfl (hb hby at_36) rfl (l' := #[.val (.long q0), .second, .val (.long q1), .second, .val (.int p2), .val (.int (p2 &&& (7 : Int32))), .val (.long (q0 &&& (9223372036854775807 : Int64))), .second, .val (.long (q0 ||| (-9223372036854775808 : Int64))), .second, .unset, .unset]) rfl ?_
      show Steps p.tables e below (T0.setTop (mkF m 38 #[.val (.long q0), .second, .val (.long q1), .second, .val (.int p2), .val (.int (p2 &&& (7 : Int32))), .val (.long (q0 &&& (9223372036854775807 : Int64))), .second, .val (.long (q0 ||| (-9223372036854775808 : Int64))), .second, .unset, .unset] [])) _
      refine XS.goto X0.here hx rfl (pc0 := 38) (pc' := 125) rfl (hb hby at_38) (by decide) (by decide) ?_
      show Steps p.tables e below (T0.setTop (mkF m 125 #[.val (.long q0), .second, .val (.long q1), .second, .val (.int p2), .val (.int (p2 &&& (7 : Int32))), .val (.long (q0 &&& (9223372036854775807 : Int64))), .second, .val (.long (q0 ||| (-9223372036854775808 : Int64))), .second, .unset, .unset] [])) _
      have et : own_x q0 p2 = (q0 ||| (-9223372036854775808 : Int64)) := by rw [own_x, if_neg hc16, if_pos hc28]
      rw [et] at kt
      exact kt
    · by_cases hc44 : (p2 &&& (7 : Int32)) = (2 : Int32)
      · refine ⟨T0, _, X0, N0, e0, fun target kt => ?_⟩
        show Steps p.tables e below (T0.setTop (mkF m 0 #[.val (.long q0), .second, .val (.long q1), .second, .val (.int p2), .unset, .unset, .unset, .unset, .unset, .unset, .unset] [])) _
        refine XS.iload X0.here hx rfl (hb hby at_0) rfl ?_
        show Steps p.tables e below (T0.setTop (mkF m 2 #[.val (.long q0), .second, .val (.long q1), .second, .val (.int p2), .unset, .unset, .unset, .unset, .unset, .unset, .unset] [(.int p2)])) _
        refine XS.bipush X0.here hx rfl (hb hby at_2) ?_
        show Steps p.tables e below (T0.setTop (mkF m 4 #[.val (.long q0), .second, .val (.long q1), .second, .val (.int p2), .unset, .unset, .unset, .unset, .unset, .unset, .unset] [(.int (7 : Int32)), (.int p2)])) _
        refine XS.iand X0.here hx rfl (hb hby at_4) rfl ?_
        show Steps p.tables e below (T0.setTop (mkF m 5 #[.val (.long q0), .second, .val (.long q1), .second, .val (.int p2), .unset, .unset, .unset, .unset, .unset, .unset, .unset] [(.int (p2 &&& (7 : Int32)))])) _
        refine XS.istore X0.here hx rfl (hb hby at_5) rfl (l' := #[.val (.long q0), .second, .val (.long q1), .second, .val (.int p2), .val (.int (p2 &&& (7 : Int32))), .unset, .unset, .unset, .unset, .unset, .unset]) rfl ?_
        show Steps p.tables e below (T0.setTop (mkF m 7 #[.val (.long q0), .second, .val (.long q1), .second, .val (.int p2), .val (.int (p2 &&& (7 : Int32))), .unset, .unset, .unset, .unset, .unset, .unset] [])) _
        refine XS.lloadN X0.here hx rfl (hb hby at_7) rfl ?_
        show Steps p.tables e below (T0.setTop (mkF m 8 #[.val (.long q0), .second, .val (.long q1), .second, .val (.int p2), .val (.int (p2 &&& (7 : Int32))), .unset, .unset, .unset, .unset, .unset, .unset] [(.long q0)])) _
        refine X0.ldc2Long hx hown (mvT hZ (hw _ (List.mem_of_getElem? (i := 0) rfl))) (g := (mkF m 8 #[.val (.long q0), .second, .val (.long q1), .second, .val (.int p2), .val (.int (p2 &&& (7 : Int32))), .unset, .unset, .unset, .unset, .unset, .unset] [(.long q0)])) rfl (hb hby at_8) _ ?_
        show Steps p.tables e below (T0.setTop (mkF m 11 #[.val (.long q0), .second, .val (.long q1), .second, .val (.int p2), .val (.int (p2 &&& (7 : Int32))), .unset, .unset, .unset, .unset, .unset, .unset] [(.long (9223372036854775807 : Int64)), (.long q0)])) _
        refine XS.land X0.here hx rfl (hb hby at_11) rfl ?_
        show Steps p.tables e below (T0.setTop (mkF m 12 #[.val (.long q0), .second, .val (.long q1), .second, .val (.int p2), .val (.int (p2 &&& (7 : Int32))), .unset, .unset, .unset, .unset, .unset, .unset] [(.long (q0 &&& (9223372036854775807 : Int64)))])) _
        refine XS.lstore X0.here hx rfl (hb hby at_12) rfl (l' := #[.val (.long q0), .second, .val (.long q1), .second, .val (.int p2), .val (.int (p2 &&& (7 : Int32))), .val (.long (q0 &&& (9223372036854775807 : Int64))), .second, .unset, .unset, .unset, .unset]) rfl ?_
        show Steps p.tables e below (T0.setTop (mkF m 14 #[.val (.long q0), .second, .val (.long q1), .second, .val (.int p2), .val (.int (p2 &&& (7 : Int32))), .val (.long (q0 &&& (9223372036854775807 : Int64))), .second, .unset, .unset, .unset, .unset] [])) _
        refine XS.iload X0.here hx rfl (hb hby at_14) rfl ?_
        show Steps p.tables e below (T0.setTop (mkF m 16 #[.val (.long q0), .second, .val (.long q1), .second, .val (.int p2), .val (.int (p2 &&& (7 : Int32))), .val (.long (q0 &&& (9223372036854775807 : Int64))), .second, .unset, .unset, .unset, .unset] [(.int (p2 &&& (7 : Int32)))])) _
        refine XS.ifYes X0.here hx rfl (pc0 := 16) (pc' := 25) rfl (hb hby at_16) rfl ((if0 _ _).trans (feq hc16).2) (by decide) (by decide) ?_
        show Steps p.tables e below (T0.setTop (mkF m 25 #[.val (.long q0), .second, .val (.long q1), .second, .val (.int p2), .val (.int (p2 &&& (7 : Int32))), .val (.long (q0 &&& (9223372036854775807 : Int64))), .second, .unset, .unset, .unset, .unset] [])) _
        refine XS.iload X0.here hx rfl (hb hby at_25) rfl ?_
        show Steps p.tables e below (T0.setTop (mkF m 27 #[.val (.long q0), .second, .val (.long q1), .second, .val (.int p2), .val (.int (p2 &&& (7 : Int32))), .val (.long (q0 &&& (9223372036854775807 : Int64))), .second, .unset, .unset, .unset, .unset] [(.int (p2 &&& (7 : Int32)))])) _
        refine XS.iconst X0.here hx rfl (hb hby at_27) ?_
        show Steps p.tables e below (T0.setTop (mkF m 28 #[.val (.long q0), .second, .val (.long q1), .second, .val (.int p2), .val (.int (p2 &&& (7 : Int32))), .val (.long (q0 &&& (9223372036854775807 : Int64))), .second, .unset, .unset, .unset, .unset] [(.int (1 : Int32)), (.int (p2 &&& (7 : Int32)))])) _
        refine XS.icmpYes X0.here hx rfl (pc0 := 28) (pc' := 41) rfl (hb hby at_28) rfl (feq hc28).2 (by decide) (by decide) ?_
        show Steps p.tables e below (T0.setTop (mkF m 41 #[.val (.long q0), .second, .val (.long q1), .second, .val (.int p2), .val (.int (p2 &&& (7 : Int32))), .val (.long (q0 &&& (9223372036854775807 : Int64))), .second, .unset, .unset, .unset, .unset] [])) _
        refine XS.iload X0.here hx rfl (hb hby at_41) rfl ?_
        show Steps p.tables e below (T0.setTop (mkF m 43 #[.val (.long q0), .second, .val (.long q1), .second, .val (.int p2), .val (.int (p2 &&& (7 : Int32))), .val (.long (q0 &&& (9223372036854775807 : Int64))), .second, .unset, .unset, .unset, .unset] [(.int (p2 &&& (7 : Int32)))])) _
        refine XS.iconst X0.here hx rfl (hb hby at_43) ?_
        show Steps p.tables e below (T0.setTop (mkF m 44 #[.val (.long q0), .second, .val (.long q1), .second, .val (.int p2), .val (.int (p2 &&& (7 : Int32))), .val (.long (q0 &&& (9223372036854775807 : Int64))), .second, .unset, .unset, .unset, .unset] [(.int (2 : Int32)), (.int (p2 &&& (7 : Int32)))])) _
        refine XS.icmpNo X0.here hx rfl (hb hby at_44) rfl (teq hc44).2 ?_
        show Steps p.tables e below (T0.setTop (mkF m 47 #[.val (.long q0), .second, .val (.long q1), .second, .val (.int p2), .val (.int (p2 &&& (7 : Int32))), .val (.long (q0 &&& (9223372036854775807 : Int64))), .second, .unset, .unset, .unset, .unset] [])) _
        refine XS.lconst X0.here hx rfl (hb hby at_47) ?_
        show Steps p.tables e below (T0.setTop (mkF m 48 #[.val (.long q0), .second, .val (.long q1), .second, .val (.int p2), .val (.int (p2 &&& (7 : Int32))), .val (.long (q0 &&& (9223372036854775807 : Int64))), .second, .unset, .unset, .unset, .unset] [(.long (1 : Int64))])) _
        refine XS.lload X0.here hx rfl (hb hby at_48) rfl ?_
        show Steps p.tables e below (T0.setTop (mkF m 50 #[.val (.long q0), .second, .val (.long q1), .second, .val (.int p2), .val (.int (p2 &&& (7 : Int32))), .val (.long (q0 &&& (9223372036854775807 : Int64))), .second, .unset, .unset, .unset, .unset] [(.long (q0 &&& (9223372036854775807 : Int64))), (.long (1 : Int64))])) _
        refine X0.ldc2Long hx hown (mvT hZ (hw _ (List.mem_of_getElem? (i := 8) rfl))) (g := (mkF m 50 #[.val (.long q0), .second, .val (.long q1), .second, .val (.int p2), .val (.int (p2 &&& (7 : Int32))), .val (.long (q0 &&& (9223372036854775807 : Int64))), .second, .unset, .unset, .unset, .unset] [(.long (q0 &&& (9223372036854775807 : Int64))), (.long (1 : Int64))])) rfl (hb hby at_50) _ ?_
        show Steps p.tables e below (T0.setTop (mkF m 53 #[.val (.long q0), .second, .val (.long q1), .second, .val (.int p2), .val (.int (p2 &&& (7 : Int32))), .val (.long (q0 &&& (9223372036854775807 : Int64))), .second, .unset, .unset, .unset, .unset] [(.long (2592000 : Int64)), (.long (q0 &&& (9223372036854775807 : Int64))), (.long (1 : Int64))])) _
        refine XS.lrem X0.here hx rfl (hb hby at_53) rfl (by decide) ?_
        show Steps p.tables e below (T0.setTop (mkF m 54 #[.val (.long q0), .second, .val (.long q1), .second, .val (.int p2), .val (.int (p2 &&& (7 : Int32))), .val (.long (q0 &&& (9223372036854775807 : Int64))), .second, .unset, .unset, .unset, .unset] [(.long ((q0 &&& (9223372036854775807 : Int64)) - ((q0 &&& (9223372036854775807 : Int64)) / (2592000 : Int64)) * (2592000 : Int64))), (.long (1 : Int64))])) _
        refine XS.ladd X0.here hx rfl (hb hby at_54) rfl ?_
        show Steps p.tables e below (T0.setTop (mkF m 55 #[.val (.long q0), .second, .val (.long q1), .second, .val (.int p2), .val (.int (p2 &&& (7 : Int32))), .val (.long (q0 &&& (9223372036854775807 : Int64))), .second, .unset, .unset, .unset, .unset] [(.long ((1 : Int64) + ((q0 &&& (9223372036854775807 : Int64)) - ((q0 &&& (9223372036854775807 : Int64)) / (2592000 : Int64)) * (2592000 : Int64))))])) _
        refine XS.lstore X0.here hx rfl (hb hby at_55) rfl (l' := #[.val (.long q0), .second, .val (.long q1), .second, .val (.int p2), .val (.int (p2 &&& (7 : Int32))), .val (.long (q0 &&& (9223372036854775807 : Int64))), .second, .val (.long ((1 : Int64) + ((q0 &&& (9223372036854775807 : Int64)) - ((q0 &&& (9223372036854775807 : Int64)) / (2592000 : Int64)) * (2592000 : Int64)))), .second, .unset, .unset]) rfl ?_
        show Steps p.tables e below (T0.setTop (mkF m 57 #[.val (.long q0), .second, .val (.long q1), .second, .val (.int p2), .val (.int (p2 &&& (7 : Int32))), .val (.long (q0 &&& (9223372036854775807 : Int64))), .second, .val (.long ((1 : Int64) + ((q0 &&& (9223372036854775807 : Int64)) - ((q0 &&& (9223372036854775807 : Int64)) / (2592000 : Int64)) * (2592000 : Int64)))), .second, .unset, .unset] [])) _
        refine XS.goto X0.here hx rfl (pc0 := 57) (pc' := 125) rfl (hb hby at_57) (by decide) (by decide) ?_
        show Steps p.tables e below (T0.setTop (mkF m 125 #[.val (.long q0), .second, .val (.long q1), .second, .val (.int p2), .val (.int (p2 &&& (7 : Int32))), .val (.long (q0 &&& (9223372036854775807 : Int64))), .second, .val (.long ((1 : Int64) + ((q0 &&& (9223372036854775807 : Int64)) - ((q0 &&& (9223372036854775807 : Int64)) / (2592000 : Int64)) * (2592000 : Int64)))), .second, .unset, .unset] [])) _
        have et : own_x q0 p2 = ((1 : Int64) + ((q0 &&& (9223372036854775807 : Int64)) - ((q0 &&& (9223372036854775807 : Int64)) / (2592000 : Int64)) * (2592000 : Int64))) := by rw [own_x, if_neg hc16, if_neg hc28, if_pos hc44]
        rw [et] at kt
        exact kt
      · by_cases hc63 : (p2 &&& (7 : Int32)) = (3 : Int32)
        · obtain ⟨_, _, ⟨T1, L1, k1, n1⟩, -, X1, ⟨Lc1, hQ1, l1, y1, z1⟩, st1⟩ := Jvm.LawKit.callS X0 hx (y := (⟨"com/example/nookd/nookd/store/ExpiryExpiresAtPinLaw", "boundary", "(I)J"⟩ : MethodName)) hown (mvT hZ (hw _ (List.mem_of_getElem? (i := 11) rfl))) (mvT hZ (hw _ (List.mem_of_getElem? (i := 12) rfl))) (mvT hZ (hw _ (List.mem_of_getElem? (i := 13) rfl))) (mvT hZ (hw _ (List.mem_of_getElem? (i := 14) rfl))) (by decide) (backOf (W := 0) (rm2 l Z a0 hw [] ((q0 &&& (7 : Int64)).toInt32) h0 n0 Z0) hZ (hw _ (List.mem_of_getElem? (i := 14) rfl)) (hw _ (List.mem_of_getElem? (i := 13) rfl)) (by decide) (by decide)) (g := (mkF m 72 #[.val (.long q0), .second, .val (.long q1), .second, .val (.int p2), .val (.int (p2 &&& (7 : Int32))), .val (.long (q0 &&& (9223372036854775807 : Int64))), .second, .unset, .unset, .unset, .unset] [(.int ((q0 &&& (7 : Int64)).toInt32))])) rfl (by rw [hml]; rfl) (argsL := [(.int ((q0 &&& (7 : Int64)).toInt32))]) (rest := []) (lenOf pd_28I29J rfl) rfl (by show 2 * 0 + _ ≤ _; exact Nat.le_of_eq rfl) (hb hby at_72) (fun _ _ => ⟨rfl, e0, (by decide : 0 + 0 ≤ _), (by decide : 0 + 0 ≤ _)⟩)
          dsimp only [Pt.U, Pt.locs, Pt.cells, Pt.slots] at X1 l1 y1 z1 st1 hQ1
          subst l1 y1 z1
          obtain ⟨rfl, N1q, e1⟩ := hQ1
          have N1 := Fr.app N0 N1q
          refine ⟨T1, _, X1, N1, e1, fun target kt => ?_⟩
          show Steps p.tables e below (T0.setTop (mkF m 0 #[.val (.long q0), .second, .val (.long q1), .second, .val (.int p2), .unset, .unset, .unset, .unset, .unset, .unset, .unset] [])) _
          refine XS.iload X0.here hx rfl (hb hby at_0) rfl ?_
          show Steps p.tables e below (T0.setTop (mkF m 2 #[.val (.long q0), .second, .val (.long q1), .second, .val (.int p2), .unset, .unset, .unset, .unset, .unset, .unset, .unset] [(.int p2)])) _
          refine XS.bipush X0.here hx rfl (hb hby at_2) ?_
          show Steps p.tables e below (T0.setTop (mkF m 4 #[.val (.long q0), .second, .val (.long q1), .second, .val (.int p2), .unset, .unset, .unset, .unset, .unset, .unset, .unset] [(.int (7 : Int32)), (.int p2)])) _
          refine XS.iand X0.here hx rfl (hb hby at_4) rfl ?_
          show Steps p.tables e below (T0.setTop (mkF m 5 #[.val (.long q0), .second, .val (.long q1), .second, .val (.int p2), .unset, .unset, .unset, .unset, .unset, .unset, .unset] [(.int (p2 &&& (7 : Int32)))])) _
          refine XS.istore X0.here hx rfl (hb hby at_5) rfl (l' := #[.val (.long q0), .second, .val (.long q1), .second, .val (.int p2), .val (.int (p2 &&& (7 : Int32))), .unset, .unset, .unset, .unset, .unset, .unset]) rfl ?_
          show Steps p.tables e below (T0.setTop (mkF m 7 #[.val (.long q0), .second, .val (.long q1), .second, .val (.int p2), .val (.int (p2 &&& (7 : Int32))), .unset, .unset, .unset, .unset, .unset, .unset] [])) _
          refine XS.lloadN X0.here hx rfl (hb hby at_7) rfl ?_
          show Steps p.tables e below (T0.setTop (mkF m 8 #[.val (.long q0), .second, .val (.long q1), .second, .val (.int p2), .val (.int (p2 &&& (7 : Int32))), .unset, .unset, .unset, .unset, .unset, .unset] [(.long q0)])) _
          refine X0.ldc2Long hx hown (mvT hZ (hw _ (List.mem_of_getElem? (i := 0) rfl))) (g := (mkF m 8 #[.val (.long q0), .second, .val (.long q1), .second, .val (.int p2), .val (.int (p2 &&& (7 : Int32))), .unset, .unset, .unset, .unset, .unset, .unset] [(.long q0)])) rfl (hb hby at_8) _ ?_
          show Steps p.tables e below (T0.setTop (mkF m 11 #[.val (.long q0), .second, .val (.long q1), .second, .val (.int p2), .val (.int (p2 &&& (7 : Int32))), .unset, .unset, .unset, .unset, .unset, .unset] [(.long (9223372036854775807 : Int64)), (.long q0)])) _
          refine XS.land X0.here hx rfl (hb hby at_11) rfl ?_
          show Steps p.tables e below (T0.setTop (mkF m 12 #[.val (.long q0), .second, .val (.long q1), .second, .val (.int p2), .val (.int (p2 &&& (7 : Int32))), .unset, .unset, .unset, .unset, .unset, .unset] [(.long (q0 &&& (9223372036854775807 : Int64)))])) _
          refine XS.lstore X0.here hx rfl (hb hby at_12) rfl (l' := #[.val (.long q0), .second, .val (.long q1), .second, .val (.int p2), .val (.int (p2 &&& (7 : Int32))), .val (.long (q0 &&& (9223372036854775807 : Int64))), .second, .unset, .unset, .unset, .unset]) rfl ?_
          show Steps p.tables e below (T0.setTop (mkF m 14 #[.val (.long q0), .second, .val (.long q1), .second, .val (.int p2), .val (.int (p2 &&& (7 : Int32))), .val (.long (q0 &&& (9223372036854775807 : Int64))), .second, .unset, .unset, .unset, .unset] [])) _
          refine XS.iload X0.here hx rfl (hb hby at_14) rfl ?_
          show Steps p.tables e below (T0.setTop (mkF m 16 #[.val (.long q0), .second, .val (.long q1), .second, .val (.int p2), .val (.int (p2 &&& (7 : Int32))), .val (.long (q0 &&& (9223372036854775807 : Int64))), .second, .unset, .unset, .unset, .unset] [(.int (p2 &&& (7 : Int32)))])) _
          refine XS.ifYes X0.here hx rfl (pc0 := 16) (pc' := 25) rfl (hb hby at_16) rfl ((if0 _ _).trans (feq hc16).2) (by decide) (by decide) ?_
          show Steps p.tables e below (T0.setTop (mkF m 25 #[.val (.long q0), .second, .val (.long q1), .second, .val (.int p2), .val (.int (p2 &&& (7 : Int32))), .val (.long (q0 &&& (9223372036854775807 : Int64))), .second, .unset, .unset, .unset, .unset] [])) _
          refine XS.iload X0.here hx rfl (hb hby at_25) rfl ?_
          show Steps p.tables e below (T0.setTop (mkF m 27 #[.val (.long q0), .second, .val (.long q1), .second, .val (.int p2), .val (.int (p2 &&& (7 : Int32))), .val (.long (q0 &&& (9223372036854775807 : Int64))), .second, .unset, .unset, .unset, .unset] [(.int (p2 &&& (7 : Int32)))])) _
          refine XS.iconst X0.here hx rfl (hb hby at_27) ?_
          show Steps p.tables e below (T0.setTop (mkF m 28 #[.val (.long q0), .second, .val (.long q1), .second, .val (.int p2), .val (.int (p2 &&& (7 : Int32))), .val (.long (q0 &&& (9223372036854775807 : Int64))), .second, .unset, .unset, .unset, .unset] [(.int (1 : Int32)), (.int (p2 &&& (7 : Int32)))])) _
          refine XS.icmpYes X0.here hx rfl (pc0 := 28) (pc' := 41) rfl (hb hby at_28) rfl (feq hc28).2 (by decide) (by decide) ?_
          show Steps p.tables e below (T0.setTop (mkF m 41 #[.val (.long q0), .second, .val (.long q1), .second, .val (.int p2), .val (.int (p2 &&& (7 : Int32))), .val (.long (q0 &&& (9223372036854775807 : Int64))), .second, .unset, .unset, .unset, .unset] [])) _
          refine XS.iload X0.here hx rfl (hb hby at_41) rfl ?_
          show Steps p.tables e below (T0.setTop (mkF m 43 #[.val (.long q0), .second, .val (.long q1), .second, .val (.int p2), .val (.int (p2 &&& (7 : Int32))), .val (.long (q0 &&& (9223372036854775807 : Int64))), .second, .unset, .unset, .unset, .unset] [(.int (p2 &&& (7 : Int32)))])) _
          refine XS.iconst X0.here hx rfl (hb hby at_43) ?_
          show Steps p.tables e below (T0.setTop (mkF m 44 #[.val (.long q0), .second, .val (.long q1), .second, .val (.int p2), .val (.int (p2 &&& (7 : Int32))), .val (.long (q0 &&& (9223372036854775807 : Int64))), .second, .unset, .unset, .unset, .unset] [(.int (2 : Int32)), (.int (p2 &&& (7 : Int32)))])) _
          refine XS.icmpYes X0.here hx rfl (pc0 := 44) (pc' := 60) rfl (hb hby at_44) rfl (feq hc44).2 (by decide) (by decide) ?_
          show Steps p.tables e below (T0.setTop (mkF m 60 #[.val (.long q0), .second, .val (.long q1), .second, .val (.int p2), .val (.int (p2 &&& (7 : Int32))), .val (.long (q0 &&& (9223372036854775807 : Int64))), .second, .unset, .unset, .unset, .unset] [])) _
          refine XS.iload X0.here hx rfl (hb hby at_60) rfl ?_
          show Steps p.tables e below (T0.setTop (mkF m 62 #[.val (.long q0), .second, .val (.long q1), .second, .val (.int p2), .val (.int (p2 &&& (7 : Int32))), .val (.long (q0 &&& (9223372036854775807 : Int64))), .second, .unset, .unset, .unset, .unset] [(.int (p2 &&& (7 : Int32)))])) _
          refine XS.iconst X0.here hx rfl (hb hby at_62) ?_
          show Steps p.tables e below (T0.setTop (mkF m 63 #[.val (.long q0), .second, .val (.long q1), .second, .val (.int p2), .val (.int (p2 &&& (7 : Int32))), .val (.long (q0 &&& (9223372036854775807 : Int64))), .second, .unset, .unset, .unset, .unset] [(.int (3 : Int32)), (.int (p2 &&& (7 : Int32)))])) _
          refine XS.icmpNo X0.here hx rfl (hb hby at_63) rfl (teq hc63).2 ?_
          show Steps p.tables e below (T0.setTop (mkF m 66 #[.val (.long q0), .second, .val (.long q1), .second, .val (.int p2), .val (.int (p2 &&& (7 : Int32))), .val (.long (q0 &&& (9223372036854775807 : Int64))), .second, .unset, .unset, .unset, .unset] [])) _
          refine XS.lloadN X0.here hx rfl (hb hby at_66) rfl ?_
          show Steps p.tables e below (T0.setTop (mkF m 67 #[.val (.long q0), .second, .val (.long q1), .second, .val (.int p2), .val (.int (p2 &&& (7 : Int32))), .val (.long (q0 &&& (9223372036854775807 : Int64))), .second, .unset, .unset, .unset, .unset] [(.long q0)])) _
          refine X0.ldc2Long hx hown (mvT hZ (hw _ (List.mem_of_getElem? (i := 10) rfl))) (g := (mkF m 67 #[.val (.long q0), .second, .val (.long q1), .second, .val (.int p2), .val (.int (p2 &&& (7 : Int32))), .val (.long (q0 &&& (9223372036854775807 : Int64))), .second, .unset, .unset, .unset, .unset] [(.long q0)])) rfl (hb hby at_67) _ ?_
          show Steps p.tables e below (T0.setTop (mkF m 70 #[.val (.long q0), .second, .val (.long q1), .second, .val (.int p2), .val (.int (p2 &&& (7 : Int32))), .val (.long (q0 &&& (9223372036854775807 : Int64))), .second, .unset, .unset, .unset, .unset] [(.long (7 : Int64)), (.long q0)])) _
          refine XS.land X0.here hx rfl (hb hby at_70) rfl ?_
          show Steps p.tables e below (T0.setTop (mkF m 71 #[.val (.long q0), .second, .val (.long q1), .second, .val (.int p2), .val (.int (p2 &&& (7 : Int32))), .val (.long (q0 &&& (9223372036854775807 : Int64))), .second, .unset, .unset, .unset, .unset] [(.long (q0 &&& (7 : Int64)))])) _
          refine XS.l2i X0.here hx rfl (hb hby at_71) rfl ?_
          show Steps p.tables e below (T0.setTop (mkF m 72 #[.val (.long q0), .second, .val (.long q1), .second, .val (.int p2), .val (.int (p2 &&& (7 : Int32))), .val (.long (q0 &&& (9223372036854775807 : Int64))), .second, .unset, .unset, .unset, .unset] [(.int ((q0 &&& (7 : Int64)).toInt32))])) _
          refine st1 _ ?_
          show Steps p.tables e below (T1.setTop (mkF m 75 #[.val (.long q0), .second, .val (.long q1), .second, .val (.int p2), .val (.int (p2 &&& (7 : Int32))), .val (.long (q0 &&& (9223372036854775807 : Int64))), .second, .unset, .unset, .unset, .unset] [(.long (own_bd ((q0 &&& (7 : Int64)).toInt32)))])) _
          refine XS.lstore X1.here hx rfl (hb hby at_75) rfl (l' := #[.val (.long q0), .second, .val (.long q1), .second, .val (.int p2), .val (.int (p2 &&& (7 : Int32))), .val (.long (q0 &&& (9223372036854775807 : Int64))), .second, .val (.long (own_bd ((q0 &&& (7 : Int64)).toInt32))), .second, .unset, .unset]) rfl ?_
          show Steps p.tables e below (T1.setTop (mkF m 77 #[.val (.long q0), .second, .val (.long q1), .second, .val (.int p2), .val (.int (p2 &&& (7 : Int32))), .val (.long (q0 &&& (9223372036854775807 : Int64))), .second, .val (.long (own_bd ((q0 &&& (7 : Int64)).toInt32))), .second, .unset, .unset] [])) _
          refine XS.goto X1.here hx rfl (pc0 := 77) (pc' := 125) rfl (hb hby at_77) (by decide) (by decide) ?_
          show Steps p.tables e below (T1.setTop (mkF m 125 #[.val (.long q0), .second, .val (.long q1), .second, .val (.int p2), .val (.int (p2 &&& (7 : Int32))), .val (.long (q0 &&& (9223372036854775807 : Int64))), .second, .val (.long (own_bd ((q0 &&& (7 : Int64)).toInt32))), .second, .unset, .unset] [])) _
          have et : own_x q0 p2 = (own_bd ((q0 &&& (7 : Int64)).toInt32)) := by rw [own_x, if_neg hc16, if_neg hc28, if_neg hc44, if_pos hc63]
          rw [et] at kt
          exact kt
        · by_cases hc83 : (p2 &&& (7 : Int32)) = (4 : Int32)
          · refine ⟨T0, _, X0, N0, e0, fun target kt => ?_⟩
            show Steps p.tables e below (T0.setTop (mkF m 0 #[.val (.long q0), .second, .val (.long q1), .second, .val (.int p2), .unset, .unset, .unset, .unset, .unset, .unset, .unset] [])) _
            refine XS.iload X0.here hx rfl (hb hby at_0) rfl ?_
            show Steps p.tables e below (T0.setTop (mkF m 2 #[.val (.long q0), .second, .val (.long q1), .second, .val (.int p2), .unset, .unset, .unset, .unset, .unset, .unset, .unset] [(.int p2)])) _
            refine XS.bipush X0.here hx rfl (hb hby at_2) ?_
            show Steps p.tables e below (T0.setTop (mkF m 4 #[.val (.long q0), .second, .val (.long q1), .second, .val (.int p2), .unset, .unset, .unset, .unset, .unset, .unset, .unset] [(.int (7 : Int32)), (.int p2)])) _
            refine XS.iand X0.here hx rfl (hb hby at_4) rfl ?_
            show Steps p.tables e below (T0.setTop (mkF m 5 #[.val (.long q0), .second, .val (.long q1), .second, .val (.int p2), .unset, .unset, .unset, .unset, .unset, .unset, .unset] [(.int (p2 &&& (7 : Int32)))])) _
            refine XS.istore X0.here hx rfl (hb hby at_5) rfl (l' := #[.val (.long q0), .second, .val (.long q1), .second, .val (.int p2), .val (.int (p2 &&& (7 : Int32))), .unset, .unset, .unset, .unset, .unset, .unset]) rfl ?_
            show Steps p.tables e below (T0.setTop (mkF m 7 #[.val (.long q0), .second, .val (.long q1), .second, .val (.int p2), .val (.int (p2 &&& (7 : Int32))), .unset, .unset, .unset, .unset, .unset, .unset] [])) _
            refine XS.lloadN X0.here hx rfl (hb hby at_7) rfl ?_
            show Steps p.tables e below (T0.setTop (mkF m 8 #[.val (.long q0), .second, .val (.long q1), .second, .val (.int p2), .val (.int (p2 &&& (7 : Int32))), .unset, .unset, .unset, .unset, .unset, .unset] [(.long q0)])) _
            refine X0.ldc2Long hx hown (mvT hZ (hw _ (List.mem_of_getElem? (i := 0) rfl))) (g := (mkF m 8 #[.val (.long q0), .second, .val (.long q1), .second, .val (.int p2), .val (.int (p2 &&& (7 : Int32))), .unset, .unset, .unset, .unset, .unset, .unset] [(.long q0)])) rfl (hb hby at_8) _ ?_
            show Steps p.tables e below (T0.setTop (mkF m 11 #[.val (.long q0), .second, .val (.long q1), .second, .val (.int p2), .val (.int (p2 &&& (7 : Int32))), .unset, .unset, .unset, .unset, .unset, .unset] [(.long (9223372036854775807 : Int64)), (.long q0)])) _
            refine XS.land X0.here hx rfl (hb hby at_11) rfl ?_
            show Steps p.tables e below (T0.setTop (mkF m 12 #[.val (.long q0), .second, .val (.long q1), .second, .val (.int p2), .val (.int (p2 &&& (7 : Int32))), .unset, .unset, .unset, .unset, .unset, .unset] [(.long (q0 &&& (9223372036854775807 : Int64)))])) _
            refine XS.lstore X0.here hx rfl (hb hby at_12) rfl (l' := #[.val (.long q0), .second, .val (.long q1), .second, .val (.int p2), .val (.int (p2 &&& (7 : Int32))), .val (.long (q0 &&& (9223372036854775807 : Int64))), .second, .unset, .unset, .unset, .unset]) rfl ?_
            show Steps p.tables e below (T0.setTop (mkF m 14 #[.val (.long q0), .second, .val (.long q1), .second, .val (.int p2), .val (.int (p2 &&& (7 : Int32))), .val (.long (q0 &&& (9223372036854775807 : Int64))), .second, .unset, .unset, .unset, .unset] [])) _
            refine XS.iload X0.here hx rfl (hb hby at_14) rfl ?_
            show Steps p.tables e below (T0.setTop (mkF m 16 #[.val (.long q0), .second, .val (.long q1), .second, .val (.int p2), .val (.int (p2 &&& (7 : Int32))), .val (.long (q0 &&& (9223372036854775807 : Int64))), .second, .unset, .unset, .unset, .unset] [(.int (p2 &&& (7 : Int32)))])) _
            refine XS.ifYes X0.here hx rfl (pc0 := 16) (pc' := 25) rfl (hb hby at_16) rfl ((if0 _ _).trans (feq hc16).2) (by decide) (by decide) ?_
            show Steps p.tables e below (T0.setTop (mkF m 25 #[.val (.long q0), .second, .val (.long q1), .second, .val (.int p2), .val (.int (p2 &&& (7 : Int32))), .val (.long (q0 &&& (9223372036854775807 : Int64))), .second, .unset, .unset, .unset, .unset] [])) _
            refine XS.iload X0.here hx rfl (hb hby at_25) rfl ?_
            show Steps p.tables e below (T0.setTop (mkF m 27 #[.val (.long q0), .second, .val (.long q1), .second, .val (.int p2), .val (.int (p2 &&& (7 : Int32))), .val (.long (q0 &&& (9223372036854775807 : Int64))), .second, .unset, .unset, .unset, .unset] [(.int (p2 &&& (7 : Int32)))])) _
            refine XS.iconst X0.here hx rfl (hb hby at_27) ?_
            show Steps p.tables e below (T0.setTop (mkF m 28 #[.val (.long q0), .second, .val (.long q1), .second, .val (.int p2), .val (.int (p2 &&& (7 : Int32))), .val (.long (q0 &&& (9223372036854775807 : Int64))), .second, .unset, .unset, .unset, .unset] [(.int (1 : Int32)), (.int (p2 &&& (7 : Int32)))])) _
            refine XS.icmpYes X0.here hx rfl (pc0 := 28) (pc' := 41) rfl (hb hby at_28) rfl (feq hc28).2 (by decide) (by decide) ?_
            show Steps p.tables e below (T0.setTop (mkF m 41 #[.val (.long q0), .second, .val (.long q1), .second, .val (.int p2), .val (.int (p2 &&& (7 : Int32))), .val (.long (q0 &&& (9223372036854775807 : Int64))), .second, .unset, .unset, .unset, .unset] [])) _
            refine XS.iload X0.here hx rfl (hb hby at_41) rfl ?_
            show Steps p.tables e below (T0.setTop (mkF m 43 #[.val (.long q0), .second, .val (.long q1), .second, .val (.int p2), .val (.int (p2 &&& (7 : Int32))), .val (.long (q0 &&& (9223372036854775807 : Int64))), .second, .unset, .unset, .unset, .unset] [(.int (p2 &&& (7 : Int32)))])) _
            refine XS.iconst X0.here hx rfl (hb hby at_43) ?_
            show Steps p.tables e below (T0.setTop (mkF m 44 #[.val (.long q0), .second, .val (.long q1), .second, .val (.int p2), .val (.int (p2 &&& (7 : Int32))), .val (.long (q0 &&& (9223372036854775807 : Int64))), .second, .unset, .unset, .unset, .unset] [(.int (2 : Int32)), (.int (p2 &&& (7 : Int32)))])) _
            refine XS.icmpYes X0.here hx rfl (pc0 := 44) (pc' := 60) rfl (hb hby at_44) rfl (feq hc44).2 (by decide) (by decide) ?_
            show Steps p.tables e below (T0.setTop (mkF m 60 #[.val (.long q0), .second, .val (.long q1), .second, .val (.int p2), .val (.int (p2 &&& (7 : Int32))), .val (.long (q0 &&& (9223372036854775807 : Int64))), .second, .unset, .unset, .unset, .unset] [])) _
            refine XS.iload X0.here hx rfl (hb hby at_60) rfl ?_
            show Steps p.tables e below (T0.setTop (mkF m 62 #[.val (.long q0), .second, .val (.long q1), .second, .val (.int p2), .val (.int (p2 &&& (7 : Int32))), .val (.long (q0 &&& (9223372036854775807 : Int64))), .second, .unset, .unset, .unset, .unset] [(.int (p2 &&& (7 : Int32)))])) _
            refine XS.iconst X0.here hx rfl (hb hby at_62) ?_
            show Steps p.tables e below (T0.setTop (mkF m 63 #[.val (.long q0), .second, .val (.long q1), .second, .val (.int p2), .val (.int (p2 &&& (7 : Int32))), .val (.long (q0 &&& (9223372036854775807 : Int64))), .second, .unset, .unset, .unset, .unset] [(.int (3 : Int32)), (.int (p2 &&& (7 : Int32)))])) _
            refine XS.icmpYes X0.here hx rfl (pc0 := 63) (pc' := 80) rfl (hb hby at_63) rfl (feq hc63).2 (by decide) (by decide) ?_
            show Steps p.tables e below (T0.setTop (mkF m 80 #[.val (.long q0), .second, .val (.long q1), .second, .val (.int p2), .val (.int (p2 &&& (7 : Int32))), .val (.long (q0 &&& (9223372036854775807 : Int64))), .second, .unset, .unset, .unset, .unset] [])) _
            refine XS.iload X0.here hx rfl (hb hby at_80) rfl ?_
            show Steps p.tables e below (T0.setTop (mkF m 82 #[.val (.long q0), .second, .val (.long q1), .second, .val (.int p2), .val (.int (p2 &&& (7 : Int32))), .val (.long (q0 &&& (9223372036854775807 : Int64))), .second, .unset, .unset, .unset, .unset] [(.int (p2 &&& (7 : Int32)))])) _
            refine XS.iconst X0.here hx rfl (hb hby at_82) ?_
            show Steps p.tables e below (T0.setTop (mkF m 83 #[.val (.long q0), .second, .val (.long q1), .second, .val (.int p2), .val (.int (p2 &&& (7 : Int32))), .val (.long (q0 &&& (9223372036854775807 : Int64))), .second, .unset, .unset, .unset, .unset] [(.int (4 : Int32)), (.int (p2 &&& (7 : Int32)))])) _
            refine XS.icmpNo X0.here hx rfl (hb hby at_83) rfl (teq hc83).2 ?_
            show Steps p.tables e below (T0.setTop (mkF m 86 #[.val (.long q0), .second, .val (.long q1), .second, .val (.int p2), .val (.int (p2 &&& (7 : Int32))), .val (.long (q0 &&& (9223372036854775807 : Int64))), .second, .unset, .unset, .unset, .unset] [])) _
            refine X0.ldc2Long hx hown (mvT hZ (hw _ (List.mem_of_getElem? (i := 21) rfl))) (g := (mkF m 86 #[.val (.long q0), .second, .val (.long q1), .second, .val (.int p2), .val (.int (p2 &&& (7 : Int32))), .val (.long (q0 &&& (9223372036854775807 : Int64))), .second, .unset, .unset, .unset, .unset] [])) rfl (hb hby at_86) _ ?_
            show Steps p.tables e below (T0.setTop (mkF m 89 #[.val (.long q0), .second, .val (.long q1), .second, .val (.int p2), .val (.int (p2 &&& (7 : Int32))), .val (.long (q0 &&& (9223372036854775807 : Int64))), .second, .unset, .unset, .unset, .unset] [(.long (2592001 : Int64))])) _
            refine XS.lload X0.here hx rfl (hb hby at_89) rfl ?_
            show Steps p.tables e below (T0.setTop (mkF m 91 #[.val (.long q0), .second, .val (.long q1), .second, .val (.int p2), .val (.int (p2 &&& (7 : Int32))), .val (.long (q0 &&& (9223372036854775807 : Int64))), .second, .unset, .unset, .unset, .unset] [(.long (q0 &&& (9223372036854775807 : Int64))), (.long (2592001 : Int64))])) _
            refine X0.ldc2Long hx hown (mvT hZ (hw _ (List.mem_of_getElem? (i := 22) rfl))) (g := (mkF m 91 #[.val (.long q0), .second, .val (.long q1), .second, .val (.int p2), .val (.int (p2 &&& (7 : Int32))), .val (.long (q0 &&& (9223372036854775807 : Int64))), .second, .unset, .unset, .unset, .unset] [(.long (q0 &&& (9223372036854775807 : Int64))), (.long (2592001 : Int64))])) rfl (hb hby at_91) _ ?_
            show Steps p.tables e below (T0.setTop (mkF m 94 #[.val (.long q0), .second, .val (.long q1), .second, .val (.int p2), .val (.int (p2 &&& (7 : Int32))), .val (.long (q0 &&& (9223372036854775807 : Int64))), .second, .unset, .unset, .unset, .unset] [(.long (9223372034262775 : Int64)), (.long (q0 &&& (9223372036854775807 : Int64))), (.long (2592001 : Int64))])) _
            refine XS.lrem X0.here hx rfl (hb hby at_94) rfl (by decide) ?_
            show Steps p.tables e below (T0.setTop (mkF m 95 #[.val (.long q0), .second, .val (.long q1), .second, .val (.int p2), .val (.int (p2 &&& (7 : Int32))), .val (.long (q0 &&& (9223372036854775807 : Int64))), .second, .unset, .unset, .unset, .unset] [(.long ((q0 &&& (9223372036854775807 : Int64)) - ((q0 &&& (9223372036854775807 : Int64)) / (9223372034262775 : Int64)) * (9223372034262775 : Int64))), (.long (2592001 : Int64))])) _
            refine XS.ladd X0.here hx rfl (hb hby at_95) rfl ?_
            show Steps p.tables e below (T0.setTop (mkF m 96 #[.val (.long q0), .second, .val (.long q1), .second, .val (.int p2), .val (.int (p2 &&& (7 : Int32))), .val (.long (q0 &&& (9223372036854775807 : Int64))), .second, .unset, .unset, .unset, .unset] [(.long ((2592001 : Int64) + ((q0 &&& (9223372036854775807 : Int64)) - ((q0 &&& (9223372036854775807 : Int64)) / (9223372034262775 : Int64)) * (9223372034262775 : Int64))))])) _
            refine XS.lstore X0.here hx rfl (hb hby at_96) rfl (l' := #[.val (.long q0), .second, .val (.long q1), .second, .val (.int p2), .val (.int (p2 &&& (7 : Int32))), .val (.long (q0 &&& (9223372036854775807 : Int64))), .second, .val (.long ((2592001 : Int64) + ((q0 &&& (9223372036854775807 : Int64)) - ((q0 &&& (9223372036854775807 : Int64)) / (9223372034262775 : Int64)) * (9223372034262775 : Int64)))), .second, .unset, .unset]) rfl ?_
            show Steps p.tables e below (T0.setTop (mkF m 98 #[.val (.long q0), .second, .val (.long q1), .second, .val (.int p2), .val (.int (p2 &&& (7 : Int32))), .val (.long (q0 &&& (9223372036854775807 : Int64))), .second, .val (.long ((2592001 : Int64) + ((q0 &&& (9223372036854775807 : Int64)) - ((q0 &&& (9223372036854775807 : Int64)) / (9223372034262775 : Int64)) * (9223372034262775 : Int64)))), .second, .unset, .unset] [])) _
            refine XS.goto X0.here hx rfl (pc0 := 98) (pc' := 125) rfl (hb hby at_98) (by decide) (by decide) ?_
            show Steps p.tables e below (T0.setTop (mkF m 125 #[.val (.long q0), .second, .val (.long q1), .second, .val (.int p2), .val (.int (p2 &&& (7 : Int32))), .val (.long (q0 &&& (9223372036854775807 : Int64))), .second, .val (.long ((2592001 : Int64) + ((q0 &&& (9223372036854775807 : Int64)) - ((q0 &&& (9223372036854775807 : Int64)) / (9223372034262775 : Int64)) * (9223372034262775 : Int64)))), .second, .unset, .unset] [])) _
            have et : own_x q0 p2 = ((2592001 : Int64) + ((q0 &&& (9223372036854775807 : Int64)) - ((q0 &&& (9223372036854775807 : Int64)) / (9223372034262775 : Int64)) * (9223372034262775 : Int64))) := by rw [own_x, if_neg hc16, if_neg hc28, if_neg hc44, if_neg hc63, if_pos hc83]
            rw [et] at kt
            exact kt
          · by_cases hc104 : (p2 &&& (7 : Int32)) = (5 : Int32)
            · refine ⟨T0, _, X0, N0, e0, fun target kt => ?_⟩
              show Steps p.tables e below (T0.setTop (mkF m 0 #[.val (.long q0), .second, .val (.long q1), .second, .val (.int p2), .unset, .unset, .unset, .unset, .unset, .unset, .unset] [])) _
              refine XS.iload X0.here hx rfl (hb hby at_0) rfl ?_
              show Steps p.tables e below (T0.setTop (mkF m 2 #[.val (.long q0), .second, .val (.long q1), .second, .val (.int p2), .unset, .unset, .unset, .unset, .unset, .unset, .unset] [(.int p2)])) _
              refine XS.bipush X0.here hx rfl (hb hby at_2) ?_
              show Steps p.tables e below (T0.setTop (mkF m 4 #[.val (.long q0), .second, .val (.long q1), .second, .val (.int p2), .unset, .unset, .unset, .unset, .unset, .unset, .unset] [(.int (7 : Int32)), (.int p2)])) _
              refine XS.iand X0.here hx rfl (hb hby at_4) rfl ?_
              show Steps p.tables e below (T0.setTop (mkF m 5 #[.val (.long q0), .second, .val (.long q1), .second, .val (.int p2), .unset, .unset, .unset, .unset, .unset, .unset, .unset] [(.int (p2 &&& (7 : Int32)))])) _
              refine XS.istore X0.here hx rfl (hb hby at_5) rfl (l' := #[.val (.long q0), .second, .val (.long q1), .second, .val (.int p2), .val (.int (p2 &&& (7 : Int32))), .unset, .unset, .unset, .unset, .unset, .unset]) rfl ?_
              show Steps p.tables e below (T0.setTop (mkF m 7 #[.val (.long q0), .second, .val (.long q1), .second, .val (.int p2), .val (.int (p2 &&& (7 : Int32))), .unset, .unset, .unset, .unset, .unset, .unset] [])) _
              refine XS.lloadN X0.here hx rfl (hb hby at_7) rfl ?_
              show Steps p.tables e below (T0.setTop (mkF m 8 #[.val (.long q0), .second, .val (.long q1), .second, .val (.int p2), .val (.int (p2 &&& (7 : Int32))), .unset, .unset, .unset, .unset, .unset, .unset] [(.long q0)])) _
              refine X0.ldc2Long hx hown (mvT hZ (hw _ (List.mem_of_getElem? (i := 0) rfl))) (g := (mkF m 8 #[.val (.long q0), .second, .val (.long q1), .second, .val (.int p2), .val (.int (p2 &&& (7 : Int32))), .unset, .unset, .unset, .unset, .unset, .unset] [(.long q0)])) rfl (hb hby at_8) _ ?_
              show Steps p.tables e below (T0.setTop (mkF m 11 #[.val (.long q0), .second, .val (.long q1), .second, .val (.int p2), .val (.int (p2 &&& (7 : Int32))), .unset, .unset, .unset, .unset, .unset, .unset] [(.long (9223372036854775807 : Int64)), (.long q0)])) _
              refine XS.land X0.here hx rfl (hb hby at_11) rfl ?_
              show Steps p.tables e below (T0.setTop (mkF m 12 #[.val (.long q0), .second, .val (.long q1), .second, .val (.int p2), .val (.int (p2 &&& (7 : Int32))), .unset, .unset, .unset, .unset, .unset, .unset] [(.long (q0 &&& (9223372036854775807 : Int64)))])) _
              refine XS.lstore X0.here hx rfl (hb hby at_12) rfl (l' := #[.val (.long q0), .second, .val (.long q1), .second, .val (.int p2), .val (.int (p2 &&& (7 : Int32))), .val (.long (q0 &&& (9223372036854775807 : Int64))), .second, .unset, .unset, .unset, .unset]) rfl ?_
              show Steps p.tables e below (T0.setTop (mkF m 14 #[.val (.long q0), .second, .val (.long q1), .second, .val (.int p2), .val (.int (p2 &&& (7 : Int32))), .val (.long (q0 &&& (9223372036854775807 : Int64))), .second, .unset, .unset, .unset, .unset] [])) _
              refine XS.iload X0.here hx rfl (hb hby at_14) rfl ?_
              show Steps p.tables e below (T0.setTop (mkF m 16 #[.val (.long q0), .second, .val (.long q1), .second, .val (.int p2), .val (.int (p2 &&& (7 : Int32))), .val (.long (q0 &&& (9223372036854775807 : Int64))), .second, .unset, .unset, .unset, .unset] [(.int (p2 &&& (7 : Int32)))])) _
              refine XS.ifYes X0.here hx rfl (pc0 := 16) (pc' := 25) rfl (hb hby at_16) rfl ((if0 _ _).trans (feq hc16).2) (by decide) (by decide) ?_
              show Steps p.tables e below (T0.setTop (mkF m 25 #[.val (.long q0), .second, .val (.long q1), .second, .val (.int p2), .val (.int (p2 &&& (7 : Int32))), .val (.long (q0 &&& (9223372036854775807 : Int64))), .second, .unset, .unset, .unset, .unset] [])) _
              refine XS.iload X0.here hx rfl (hb hby at_25) rfl ?_
              show Steps p.tables e below (T0.setTop (mkF m 27 #[.val (.long q0), .second, .val (.long q1), .second, .val (.int p2), .val (.int (p2 &&& (7 : Int32))), .val (.long (q0 &&& (9223372036854775807 : Int64))), .second, .unset, .unset, .unset, .unset] [(.int (p2 &&& (7 : Int32)))])) _
              refine XS.iconst X0.here hx rfl (hb hby at_27) ?_
              show Steps p.tables e below (T0.setTop (mkF m 28 #[.val (.long q0), .second, .val (.long q1), .second, .val (.int p2), .val (.int (p2 &&& (7 : Int32))), .val (.long (q0 &&& (9223372036854775807 : Int64))), .second, .unset, .unset, .unset, .unset] [(.int (1 : Int32)), (.int (p2 &&& (7 : Int32)))])) _
              refine XS.icmpYes X0.here hx rfl (pc0 := 28) (pc' := 41) rfl (hb hby at_28) rfl (feq hc28).2 (by decide) (by decide) ?_
              show Steps p.tables e below (T0.setTop (mkF m 41 #[.val (.long q0), .second, .val (.long q1), .second, .val (.int p2), .val (.int (p2 &&& (7 : Int32))), .val (.long (q0 &&& (9223372036854775807 : Int64))), .second, .unset, .unset, .unset, .unset] [])) _
              refine XS.iload X0.here hx rfl (hb hby at_41) rfl ?_
              show Steps p.tables e below (T0.setTop (mkF m 43 #[.val (.long q0), .second, .val (.long q1), .second, .val (.int p2), .val (.int (p2 &&& (7 : Int32))), .val (.long (q0 &&& (9223372036854775807 : Int64))), .second, .unset, .unset, .unset, .unset] [(.int (p2 &&& (7 : Int32)))])) _
              refine XS.iconst X0.here hx rfl (hb hby at_43) ?_
              show Steps p.tables e below (T0.setTop (mkF m 44 #[.val (.long q0), .second, .val (.long q1), .second, .val (.int p2), .val (.int (p2 &&& (7 : Int32))), .val (.long (q0 &&& (9223372036854775807 : Int64))), .second, .unset, .unset, .unset, .unset] [(.int (2 : Int32)), (.int (p2 &&& (7 : Int32)))])) _
              refine XS.icmpYes X0.here hx rfl (pc0 := 44) (pc' := 60) rfl (hb hby at_44) rfl (feq hc44).2 (by decide) (by decide) ?_
              show Steps p.tables e below (T0.setTop (mkF m 60 #[.val (.long q0), .second, .val (.long q1), .second, .val (.int p2), .val (.int (p2 &&& (7 : Int32))), .val (.long (q0 &&& (9223372036854775807 : Int64))), .second, .unset, .unset, .unset, .unset] [])) _
              refine XS.iload X0.here hx rfl (hb hby at_60) rfl ?_
              show Steps p.tables e below (T0.setTop (mkF m 62 #[.val (.long q0), .second, .val (.long q1), .second, .val (.int p2), .val (.int (p2 &&& (7 : Int32))), .val (.long (q0 &&& (9223372036854775807 : Int64))), .second, .unset, .unset, .unset, .unset] [(.int (p2 &&& (7 : Int32)))])) _
              refine XS.iconst X0.here hx rfl (hb hby at_62) ?_
              show Steps p.tables e below (T0.setTop (mkF m 63 #[.val (.long q0), .second, .val (.long q1), .second, .val (.int p2), .val (.int (p2 &&& (7 : Int32))), .val (.long (q0 &&& (9223372036854775807 : Int64))), .second, .unset, .unset, .unset, .unset] [(.int (3 : Int32)), (.int (p2 &&& (7 : Int32)))])) _
              refine XS.icmpYes X0.here hx rfl (pc0 := 63) (pc' := 80) rfl (hb hby at_63) rfl (feq hc63).2 (by decide) (by decide) ?_
              show Steps p.tables e below (T0.setTop (mkF m 80 #[.val (.long q0), .second, .val (.long q1), .second, .val (.int p2), .val (.int (p2 &&& (7 : Int32))), .val (.long (q0 &&& (9223372036854775807 : Int64))), .second, .unset, .unset, .unset, .unset] [])) _
              refine XS.iload X0.here hx rfl (hb hby at_80) rfl ?_
              show Steps p.tables e below (T0.setTop (mkF m 82 #[.val (.long q0), .second, .val (.long q1), .second, .val (.int p2), .val (.int (p2 &&& (7 : Int32))), .val (.long (q0 &&& (9223372036854775807 : Int64))), .second, .unset, .unset, .unset, .unset] [(.int (p2 &&& (7 : Int32)))])) _
              refine XS.iconst X0.here hx rfl (hb hby at_82) ?_
              show Steps p.tables e below (T0.setTop (mkF m 83 #[.val (.long q0), .second, .val (.long q1), .second, .val (.int p2), .val (.int (p2 &&& (7 : Int32))), .val (.long (q0 &&& (9223372036854775807 : Int64))), .second, .unset, .unset, .unset, .unset] [(.int (4 : Int32)), (.int (p2 &&& (7 : Int32)))])) _
              refine XS.icmpYes X0.here hx rfl (pc0 := 83) (pc' := 101) rfl (hb hby at_83) rfl (feq hc83).2 (by decide) (by decide) ?_
              show Steps p.tables e below (T0.setTop (mkF m 101 #[.val (.long q0), .second, .val (.long q1), .second, .val (.int p2), .val (.int (p2 &&& (7 : Int32))), .val (.long (q0 &&& (9223372036854775807 : Int64))), .second, .unset, .unset, .unset, .unset] [])) _
              refine XS.iload X0.here hx rfl (hb hby at_101) rfl ?_
              show Steps p.tables e below (T0.setTop (mkF m 103 #[.val (.long q0), .second, .val (.long q1), .second, .val (.int p2), .val (.int (p2 &&& (7 : Int32))), .val (.long (q0 &&& (9223372036854775807 : Int64))), .second, .unset, .unset, .unset, .unset] [(.int (p2 &&& (7 : Int32)))])) _
              refine XS.iconst X0.here hx rfl (hb hby at_103) ?_
              show Steps p.tables e below (T0.setTop (mkF m 104 #[.val (.long q0), .second, .val (.long q1), .second, .val (.int p2), .val (.int (p2 &&& (7 : Int32))), .val (.long (q0 &&& (9223372036854775807 : Int64))), .second, .unset, .unset, .unset, .unset] [(.int (5 : Int32)), (.int (p2 &&& (7 : Int32)))])) _
              refine XS.icmpNo X0.here hx rfl (hb hby at_104) rfl (teq hc104).2 ?_
              show Steps p.tables e below (T0.setTop (mkF m 107 #[.val (.long q0), .second, .val (.long q1), .second, .val (.int p2), .val (.int (p2 &&& (7 : Int32))), .val (.long (q0 &&& (9223372036854775807 : Int64))), .second, .unset, .unset, .unset, .unset] [])) _
              refine X0.ldc2Long hx hown (mvT hZ (hw _ (List.mem_of_getElem? (i := 15) rfl))) (g := (mkF m 107 #[.val (.long q0), .second, .val (.long q1), .second, .val (.int p2), .val (.int (p2 &&& (7 : Int32))), .val (.long (q0 &&& (9223372036854775807 : Int64))), .second, .unset, .unset, .unset, .unset] [])) rfl (hb hby at_107) _ ?_
              show Steps p.tables e below (T0.setTop (mkF m 110 #[.val (.long q0), .second, .val (.long q1), .second, .val (.int p2), .val (.int (p2 &&& (7 : Int32))), .val (.long (q0 &&& (9223372036854775807 : Int64))), .second, .unset, .unset, .unset, .unset] [(.long (9223372036854776 : Int64))])) _
              refine XS.lload X0.here hx rfl (hb hby at_110) rfl ?_
              show Steps p.tables e below (T0.setTop (mkF m 112 #[.val (.long q0), .second, .val (.long q1), .second, .val (.int p2), .val (.int (p2 &&& (7 : Int32))), .val (.long (q0 &&& (9223372036854775807 : Int64))), .second, .unset, .unset, .unset, .unset] [(.long (q0 &&& (9223372036854775807 : Int64))), (.long (9223372036854776 : Int64))])) _
              refine X0.ldc2Long hx hown (mvT hZ (hw _ (List.mem_of_getElem? (i := 18) rfl))) (g := (mkF m 112 #[.val (.long q0), .second, .val (.long q1), .second, .val (.int p2), .val (.int (p2 &&& (7 : Int32))), .val (.long (q0 &&& (9223372036854775807 : Int64))), .second, .unset, .unset, .unset, .unset] [(.long (q0 &&& (9223372036854775807 : Int64))), (.long (9223372036854776 : Int64))])) rfl (hb hby at_112) _ ?_
              show Steps p.tables e below (T0.setTop (mkF m 115 #[.val (.long q0), .second, .val (.long q1), .second, .val (.int p2), .val (.int (p2 &&& (7 : Int32))), .val (.long (q0 &&& (9223372036854775807 : Int64))), .second, .unset, .unset, .unset, .unset] [(.long (9214148664817921032 : Int64)), (.long (q0 &&& (9223372036854775807 : Int64))), (.long (9223372036854776 : Int64))])) _
              refine XS.lrem X0.here hx rfl (hb hby at_115) rfl (by decide) ?_
              show Steps p.tables e below (T0.setTop (mkF m 116 #[.val (.long q0), .second, .val (.long q1), .second, .val (.int p2), .val (.int (p2 &&& (7 : Int32))), .val (.long (q0 &&& (9223372036854775807 : Int64))), .second, .unset, .unset, .unset, .unset] [(.long ((q0 &&& (9223372036854775807 : Int64)) - ((q0 &&& (9223372036854775807 : Int64)) / (9214148664817921032 : Int64)) * (9214148664817921032 : Int64))), (.long (9223372036854776 : Int64))])) _
              refine XS.ladd X0.here hx rfl (hb hby at_116) rfl ?_
              show Steps p.tables e below (T0.setTop (mkF m 117 #[.val (.long q0), .second, .val (.long q1), .second, .val (.int p2), .val (.int (p2 &&& (7 : Int32))), .val (.long (q0 &&& (9223372036854775807 : Int64))), .second, .unset, .unset, .unset, .unset] [(.long ((9223372036854776 : Int64) + ((q0 &&& (9223372036854775807 : Int64)) - ((q0 &&& (9223372036854775807 : Int64)) / (9214148664817921032 : Int64)) * (9214148664817921032 : Int64))))])) _
              refine XS.lstore X0.here hx rfl (hb hby at_117) rfl (l' := #[.val (.long q0), .second, .val (.long q1), .second, .val (.int p2), .val (.int (p2 &&& (7 : Int32))), .val (.long (q0 &&& (9223372036854775807 : Int64))), .second, .val (.long ((9223372036854776 : Int64) + ((q0 &&& (9223372036854775807 : Int64)) - ((q0 &&& (9223372036854775807 : Int64)) / (9214148664817921032 : Int64)) * (9214148664817921032 : Int64)))), .second, .unset, .unset]) rfl ?_
              show Steps p.tables e below (T0.setTop (mkF m 119 #[.val (.long q0), .second, .val (.long q1), .second, .val (.int p2), .val (.int (p2 &&& (7 : Int32))), .val (.long (q0 &&& (9223372036854775807 : Int64))), .second, .val (.long ((9223372036854776 : Int64) + ((q0 &&& (9223372036854775807 : Int64)) - ((q0 &&& (9223372036854775807 : Int64)) / (9214148664817921032 : Int64)) * (9214148664817921032 : Int64)))), .second, .unset, .unset] [])) _
              refine XS.goto X0.here hx rfl (pc0 := 119) (pc' := 125) rfl (hb hby at_119) (by decide) (by decide) ?_
              show Steps p.tables e below (T0.setTop (mkF m 125 #[.val (.long q0), .second, .val (.long q1), .second, .val (.int p2), .val (.int (p2 &&& (7 : Int32))), .val (.long (q0 &&& (9223372036854775807 : Int64))), .second, .val (.long ((9223372036854776 : Int64) + ((q0 &&& (9223372036854775807 : Int64)) - ((q0 &&& (9223372036854775807 : Int64)) / (9214148664817921032 : Int64)) * (9214148664817921032 : Int64)))), .second, .unset, .unset] [])) _
              have et : own_x q0 p2 = ((9223372036854776 : Int64) + ((q0 &&& (9223372036854775807 : Int64)) - ((q0 &&& (9223372036854775807 : Int64)) / (9214148664817921032 : Int64)) * (9214148664817921032 : Int64))) := by rw [own_x, if_neg hc16, if_neg hc28, if_neg hc44, if_neg hc63, if_neg hc83, if_pos hc104]
              rw [et] at kt
              exact kt
            · refine ⟨T0, _, X0, N0, e0, fun target kt => ?_⟩
              show Steps p.tables e below (T0.setTop (mkF m 0 #[.val (.long q0), .second, .val (.long q1), .second, .val (.int p2), .unset, .unset, .unset, .unset, .unset, .unset, .unset] [])) _
              refine XS.iload X0.here hx rfl (hb hby at_0) rfl ?_
              show Steps p.tables e below (T0.setTop (mkF m 2 #[.val (.long q0), .second, .val (.long q1), .second, .val (.int p2), .unset, .unset, .unset, .unset, .unset, .unset, .unset] [(.int p2)])) _
              refine XS.bipush X0.here hx rfl (hb hby at_2) ?_
              show Steps p.tables e below (T0.setTop (mkF m 4 #[.val (.long q0), .second, .val (.long q1), .second, .val (.int p2), .unset, .unset, .unset, .unset, .unset, .unset, .unset] [(.int (7 : Int32)), (.int p2)])) _
              refine XS.iand X0.here hx rfl (hb hby at_4) rfl ?_
              show Steps p.tables e below (T0.setTop (mkF m 5 #[.val (.long q0), .second, .val (.long q1), .second, .val (.int p2), .unset, .unset, .unset, .unset, .unset, .unset, .unset] [(.int (p2 &&& (7 : Int32)))])) _
              refine XS.istore X0.here hx rfl (hb hby at_5) rfl (l' := #[.val (.long q0), .second, .val (.long q1), .second, .val (.int p2), .val (.int (p2 &&& (7 : Int32))), .unset, .unset, .unset, .unset, .unset, .unset]) rfl ?_
              show Steps p.tables e below (T0.setTop (mkF m 7 #[.val (.long q0), .second, .val (.long q1), .second, .val (.int p2), .val (.int (p2 &&& (7 : Int32))), .unset, .unset, .unset, .unset, .unset, .unset] [])) _
              refine XS.lloadN X0.here hx rfl (hb hby at_7) rfl ?_
              show Steps p.tables e below (T0.setTop (mkF m 8 #[.val (.long q0), .second, .val (.long q1), .second, .val (.int p2), .val (.int (p2 &&& (7 : Int32))), .unset, .unset, .unset, .unset, .unset, .unset] [(.long q0)])) _
              refine X0.ldc2Long hx hown (mvT hZ (hw _ (List.mem_of_getElem? (i := 0) rfl))) (g := (mkF m 8 #[.val (.long q0), .second, .val (.long q1), .second, .val (.int p2), .val (.int (p2 &&& (7 : Int32))), .unset, .unset, .unset, .unset, .unset, .unset] [(.long q0)])) rfl (hb hby at_8) _ ?_
              show Steps p.tables e below (T0.setTop (mkF m 11 #[.val (.long q0), .second, .val (.long q1), .second, .val (.int p2), .val (.int (p2 &&& (7 : Int32))), .unset, .unset, .unset, .unset, .unset, .unset] [(.long (9223372036854775807 : Int64)), (.long q0)])) _
              refine XS.land X0.here hx rfl (hb hby at_11) rfl ?_
              show Steps p.tables e below (T0.setTop (mkF m 12 #[.val (.long q0), .second, .val (.long q1), .second, .val (.int p2), .val (.int (p2 &&& (7 : Int32))), .unset, .unset, .unset, .unset, .unset, .unset] [(.long (q0 &&& (9223372036854775807 : Int64)))])) _
              refine XS.lstore X0.here hx rfl (hb hby at_12) rfl (l' := #[.val (.long q0), .second, .val (.long q1), .second, .val (.int p2), .val (.int (p2 &&& (7 : Int32))), .val (.long (q0 &&& (9223372036854775807 : Int64))), .second, .unset, .unset, .unset, .unset]) rfl ?_
              show Steps p.tables e below (T0.setTop (mkF m 14 #[.val (.long q0), .second, .val (.long q1), .second, .val (.int p2), .val (.int (p2 &&& (7 : Int32))), .val (.long (q0 &&& (9223372036854775807 : Int64))), .second, .unset, .unset, .unset, .unset] [])) _
              refine XS.iload X0.here hx rfl (hb hby at_14) rfl ?_
              show Steps p.tables e below (T0.setTop (mkF m 16 #[.val (.long q0), .second, .val (.long q1), .second, .val (.int p2), .val (.int (p2 &&& (7 : Int32))), .val (.long (q0 &&& (9223372036854775807 : Int64))), .second, .unset, .unset, .unset, .unset] [(.int (p2 &&& (7 : Int32)))])) _
              refine XS.ifYes X0.here hx rfl (pc0 := 16) (pc' := 25) rfl (hb hby at_16) rfl ((if0 _ _).trans (feq hc16).2) (by decide) (by decide) ?_
              show Steps p.tables e below (T0.setTop (mkF m 25 #[.val (.long q0), .second, .val (.long q1), .second, .val (.int p2), .val (.int (p2 &&& (7 : Int32))), .val (.long (q0 &&& (9223372036854775807 : Int64))), .second, .unset, .unset, .unset, .unset] [])) _
              refine XS.iload X0.here hx rfl (hb hby at_25) rfl ?_
              show Steps p.tables e below (T0.setTop (mkF m 27 #[.val (.long q0), .second, .val (.long q1), .second, .val (.int p2), .val (.int (p2 &&& (7 : Int32))), .val (.long (q0 &&& (9223372036854775807 : Int64))), .second, .unset, .unset, .unset, .unset] [(.int (p2 &&& (7 : Int32)))])) _
              refine XS.iconst X0.here hx rfl (hb hby at_27) ?_
              show Steps p.tables e below (T0.setTop (mkF m 28 #[.val (.long q0), .second, .val (.long q1), .second, .val (.int p2), .val (.int (p2 &&& (7 : Int32))), .val (.long (q0 &&& (9223372036854775807 : Int64))), .second, .unset, .unset, .unset, .unset] [(.int (1 : Int32)), (.int (p2 &&& (7 : Int32)))])) _
              refine XS.icmpYes X0.here hx rfl (pc0 := 28) (pc' := 41) rfl (hb hby at_28) rfl (feq hc28).2 (by decide) (by decide) ?_
              show Steps p.tables e below (T0.setTop (mkF m 41 #[.val (.long q0), .second, .val (.long q1), .second, .val (.int p2), .val (.int (p2 &&& (7 : Int32))), .val (.long (q0 &&& (9223372036854775807 : Int64))), .second, .unset, .unset, .unset, .unset] [])) _
              refine XS.iload X0.here hx rfl (hb hby at_41) rfl ?_
              show Steps p.tables e below (T0.setTop (mkF m 43 #[.val (.long q0), .second, .val (.long q1), .second, .val (.int p2), .val (.int (p2 &&& (7 : Int32))), .val (.long (q0 &&& (9223372036854775807 : Int64))), .second, .unset, .unset, .unset, .unset] [(.int (p2 &&& (7 : Int32)))])) _
              refine XS.iconst X0.here hx rfl (hb hby at_43) ?_
              show Steps p.tables e below (T0.setTop (mkF m 44 #[.val (.long q0), .second, .val (.long q1), .second, .val (.int p2), .val (.int (p2 &&& (7 : Int32))), .val (.long (q0 &&& (9223372036854775807 : Int64))), .second, .unset, .unset, .unset, .unset] [(.int (2 : Int32)), (.int (p2 &&& (7 : Int32)))])) _
              refine XS.icmpYes X0.here hx rfl (pc0 := 44) (pc' := 60) rfl (hb hby at_44) rfl (feq hc44).2 (by decide) (by decide) ?_
              show Steps p.tables e below (T0.setTop (mkF m 60 #[.val (.long q0), .second, .val (.long q1), .second, .val (.int p2), .val (.int (p2 &&& (7 : Int32))), .val (.long (q0 &&& (9223372036854775807 : Int64))), .second, .unset, .unset, .unset, .unset] [])) _
              refine XS.iload X0.here hx rfl (hb hby at_60) rfl ?_
              show Steps p.tables e below (T0.setTop (mkF m 62 #[.val (.long q0), .second, .val (.long q1), .second, .val (.int p2), .val (.int (p2 &&& (7 : Int32))), .val (.long (q0 &&& (9223372036854775807 : Int64))), .second, .unset, .unset, .unset, .unset] [(.int (p2 &&& (7 : Int32)))])) _
              refine XS.iconst X0.here hx rfl (hb hby at_62) ?_
              show Steps p.tables e below (T0.setTop (mkF m 63 #[.val (.long q0), .second, .val (.long q1), .second, .val (.int p2), .val (.int (p2 &&& (7 : Int32))), .val (.long (q0 &&& (9223372036854775807 : Int64))), .second, .unset, .unset, .unset, .unset] [(.int (3 : Int32)), (.int (p2 &&& (7 : Int32)))])) _
              refine XS.icmpYes X0.here hx rfl (pc0 := 63) (pc' := 80) rfl (hb hby at_63) rfl (feq hc63).2 (by decide) (by decide) ?_
              show Steps p.tables e below (T0.setTop (mkF m 80 #[.val (.long q0), .second, .val (.long q1), .second, .val (.int p2), .val (.int (p2 &&& (7 : Int32))), .val (.long (q0 &&& (9223372036854775807 : Int64))), .second, .unset, .unset, .unset, .unset] [])) _
              refine XS.iload X0.here hx rfl (hb hby at_80) rfl ?_
              show Steps p.tables e below (T0.setTop (mkF m 82 #[.val (.long q0), .second, .val (.long q1), .second, .val (.int p2), .val (.int (p2 &&& (7 : Int32))), .val (.long (q0 &&& (9223372036854775807 : Int64))), .second, .unset, .unset, .unset, .unset] [(.int (p2 &&& (7 : Int32)))])) _
              refine XS.iconst X0.here hx rfl (hb hby at_82) ?_
              show Steps p.tables e below (T0.setTop (mkF m 83 #[.val (.long q0), .second, .val (.long q1), .second, .val (.int p2), .val (.int (p2 &&& (7 : Int32))), .val (.long (q0 &&& (9223372036854775807 : Int64))), .second, .unset, .unset, .unset, .unset] [(.int (4 : Int32)), (.int (p2 &&& (7 : Int32)))])) _
              refine XS.icmpYes X0.here hx rfl (pc0 := 83) (pc' := 101) rfl (hb hby at_83) rfl (feq hc83).2 (by decide) (by decide) ?_
              show Steps p.tables e below (T0.setTop (mkF m 101 #[.val (.long q0), .second, .val (.long q1), .second, .val (.int p2), .val (.int (p2 &&& (7 : Int32))), .val (.long (q0 &&& (9223372036854775807 : Int64))), .second, .unset, .unset, .unset, .unset] [])) _
              refine XS.iload X0.here hx rfl (hb hby at_101) rfl ?_
              show Steps p.tables e below (T0.setTop (mkF m 103 #[.val (.long q0), .second, .val (.long q1), .second, .val (.int p2), .val (.int (p2 &&& (7 : Int32))), .val (.long (q0 &&& (9223372036854775807 : Int64))), .second, .unset, .unset, .unset, .unset] [(.int (p2 &&& (7 : Int32)))])) _
              refine XS.iconst X0.here hx rfl (hb hby at_103) ?_
              show Steps p.tables e below (T0.setTop (mkF m 104 #[.val (.long q0), .second, .val (.long q1), .second, .val (.int p2), .val (.int (p2 &&& (7 : Int32))), .val (.long (q0 &&& (9223372036854775807 : Int64))), .second, .unset, .unset, .unset, .unset] [(.int (5 : Int32)), (.int (p2 &&& (7 : Int32)))])) _
              refine XS.icmpYes X0.here hx rfl (pc0 := 104) (pc' := 122) rfl (hb hby at_104) rfl (feq hc104).2 (by decide) (by decide) ?_
              show Steps p.tables e below (T0.setTop (mkF m 122 #[.val (.long q0), .second, .val (.long q1), .second, .val (.int p2), .val (.int (p2 &&& (7 : Int32))), .val (.long (q0 &&& (9223372036854775807 : Int64))), .second, .unset, .unset, .unset, .unset] [])) _
              refine XS.lloadN X0.here hx rfl (hb hby at_122) rfl ?_
              show Steps p.tables e below (T0.setTop (mkF m 123 #[.val (.long q0), .second, .val (.long q1), .second, .val (.int p2), .val (.int (p2 &&& (7 : Int32))), .val (.long (q0 &&& (9223372036854775807 : Int64))), .second, .unset, .unset, .unset, .unset] [(.long q0)])) _
              refine XS.lstore X0.here hx rfl (hb hby at_123) rfl (l' := #[.val (.long q0), .second, .val (.long q1), .second, .val (.int p2), .val (.int (p2 &&& (7 : Int32))), .val (.long (q0 &&& (9223372036854775807 : Int64))), .second, .val (.long q0), .second, .unset, .unset]) rfl ?_
              show Steps p.tables e below (T0.setTop (mkF m 125 #[.val (.long q0), .second, .val (.long q1), .second, .val (.int p2), .val (.int (p2 &&& (7 : Int32))), .val (.long (q0 &&& (9223372036854775807 : Int64))), .second, .val (.long q0), .second, .unset, .unset] [])) _
              have et : own_x q0 p2 = q0 := by rw [own_x, if_neg hc16, if_neg hc28, if_neg hc44, if_neg hc63, if_neg hc83, if_neg hc104]
              rw [et] at kt
              exact kt
theorem ef_0 (m : MethodId) (x0 : Int64) (x1 : Int64) (x2 : Int32) : entryFrame m #[(.long x0), (.long x1), (.int x2)] maxLocals = mkF m 0 #[.val (.long x0), .second, .val (.long x1), .second, .val (.int x2), .unset, .unset, .unset, .unset, .unset, .unset, .unset] [] := by first | (simp [entryFrame, mkF, argsToLocals, Value.category, maxLocals]; done) | rfl
theorem pd_28JJ29J : parseMethodDescriptor "(JJ)J" = some ⟨[.long, .long], some .long⟩ := by decide +kernel
def Q0 (Z : State) (q0 : Int64) (q1 : Int64) (p2 : Int32) (h0 : Heap) (n0 : Nat) (v : Option Value) (h : Heap) (L : List Loc) : Prop := v = some (.int 1) ∧ Fr n0 L
set_option maxRecDepth 65536 in
set_option maxHeartbeats 40000000 in
theorem rm0 (l : Launch) (Z : State) (a0 : Array Value) (hw : ∀ d ∈ tables_1, d.before a0 Z = true) (ws : List Jvm.Cond) (q0 : Int64) (q1 : Int64) (p2 : Int32) (h0 : Heap) (n0 : Nat) (Z0 : n0 ≤ h0.size)  :
    MetFree l x (head1 (Jvm.Cond.code x code maxLocals ret :: ws) room_1) (fun a U => a = #[(.long q0), (.long q1), (.int p2)] ∧ Z.Warmed39 U.vm ∧ U.heap = h0) (fun _ _ _ _ _ => True) (fun _ U o U' => ∃ v L, o = .returned v ∧ Q0 Z q0 q1 p2 h0 n0 v U'.heap L ∧ FrameEnd U o U' L room_1.cells room_1.slots) := by
  refine MetFree.of_bodySF (plainFor_of_name pn_com_example_nookd_nookd_store_ExpiryExpiresAtPinLaw) hisR ?_
  intro p e s m args below meth c s₁ Bd hml0 hP hK
  obtain ⟨rfl, hZ, hh⟩ := hP
  have hx := Bd.exec
  have hby := Bd.bytes
  have hml : c.maxLocals = 12 := hml0
  have hown : s.vm.findClass "com/example/nookd/nookd/store/ExpiryExpiresAtPinLaw" = some m.cls := findClass_of_methodNamed Bd.named
  have hnm := (name_of_methodNamed Bd.named Bd.method).1
  have X0 : Stand p l e room_1 s m #[(.long q0), (.long q1), (.int p2)] below meth c s₁ [] 0 0 := Stand.of_body Bd
  have e0 : s₁.heap = h0 := by rw [← hh, Bd.state]; rfl
  have N0 := Fr.nil n0
  have pre0 : ∀ t, Steps p.tables e below (s₁.setTop (mkF m 0 #[.val (.long q0), .second, .val (.long q1), .second, .val (.int p2), .unset, .unset, .unset, .unset, .unset, .unset, .unset] [])) t → Steps p.tables e below (s₁.setTop (entryFrame m #[(.long q0), (.long q1), (.int p2)] maxLocals)) t := fun t k => castTop (ef_0 m q0 q1 p2) k
  obtain ⟨TP, locsP, XP, NP, eP, stP⟩ := pc_125 q0 q1 p2 X0 hx hZ hw hby hml hown e0 Z0 N0
  obtain ⟨_, _, ⟨T1, L1, k1, n1⟩, -, X1, ⟨Lc1, hQ1, l1, y1, z1⟩, st1⟩ := Jvm.LawKit.callS XP hx (y := (⟨"com/example/nookd/nookd/store/Expiry", "expiresAt", "(JJ)J"⟩ : MethodName)) hown (mvT hZ (hw _ (List.mem_of_getElem? (i := 1) rfl))) (mvT hZ (hw _ (List.mem_of_getElem? (i := 2) rfl))) (mvT hZ (hw _ (List.mem_of_getElem? (i := 3) rfl))) (mvT hZ (hw _ (List.mem_of_getElem? (i := 4) rfl))) (by decide) (backOf (W := 0) (rm1 l Z a0 hw [] (own_x q0 p2) q1 h0 n0 Z0) hZ (hw _ (List.mem_of_getElem? (i := 4) rfl)) (hw _ (List.mem_of_getElem? (i := 3) rfl)) (by decide) (by decide)) (g := (mkF m 128 #[.val (.long q0), .second, .val (.long q1), .second, .val (.int p2), .val (.int (p2 &&& (7 : Int32))), .val (.long (q0 &&& (9223372036854775807 : Int64))), .second, .val (.long (own_x q0 p2)), .second, .unset, .unset] [(.long q1), (.long (own_x q0 p2))])) rfl (by rw [hml]; rfl) (argsL := [(.long (own_x q0 p2)), (.long q1)]) (rest := []) (lenOf pd_28JJ29J rfl) rfl (by show 2 * 0 + _ ≤ _; exact Nat.le_of_eq rfl) (hb hby at_128) (fun _ _ => ⟨rfl, eP, (by decide : 0 + 0 ≤ _), (by decide : 0 + 0 ≤ _)⟩)
  dsimp only [Pt.U, Pt.locs, Pt.cells, Pt.slots] at X1 l1 y1 z1 st1 hQ1
  subst l1 y1 z1
  obtain ⟨rfl, N1q, e1⟩ := hQ1
  have N1 := Fr.app NP N1q
  by_cases hc137 : (own_x q0 p2) = (0 : Int64)
  · obtain ⟨fs, hr, hrun, hended, hW, hsame⟩ := X1.leave (v := some (.int (1 : Int32))) (fun h => by rw [Bd.returns] at h; cases h)
    refine ⟨_, _, pre0 _ ?_, hrun, hended, _, _, rfl, ?_, ⟨_, rfl⟩, hW, hsame.mono (by decide) (by decide)⟩
    · show Steps p.tables e below (s₁.setTop (mkF m 0 #[.val (.long q0), .second, .val (.long q1), .second, .val (.int p2), .unset, .unset, .unset, .unset, .unset, .unset, .unset] [])) _
      refine stP _ ?_
      show Steps p.tables e below (TP.setTop (mkF m 125 #[.val (.long q0), .second, .val (.long q1), .second, .val (.int p2), .val (.int (p2 &&& (7 : Int32))), .val (.long (q0 &&& (9223372036854775807 : Int64))), .second, .val (.long (own_x q0 p2)), .second, .unset, .unset] [])) _
      refine XS.lload XP.here hx rfl (hb hby at_125) rfl ?_
      show Steps p.tables e below (TP.setTop (mkF m 127 #[.val (.long q0), .second, .val (.long q1), .second, .val (.int p2), .val (.int (p2 &&& (7 : Int32))), .val (.long (q0 &&& (9223372036854775807 : Int64))), .second, .val (.long (own_x q0 p2)), .second, .unset, .unset] [(.long (own_x q0 p2))])) _
      refine XS.lloadN XP.here hx rfl (hb hby at_127) rfl ?_
      show Steps p.tables e below (TP.setTop (mkF m 128 #[.val (.long q0), .second, .val (.long q1), .second, .val (.int p2), .val (.int (p2 &&& (7 : Int32))), .val (.long (q0 &&& (9223372036854775807 : Int64))), .second, .val (.long (own_x q0 p2)), .second, .unset, .unset] [(.long q1), (.long (own_x q0 p2))])) _
      refine st1 _ ?_
      show Steps p.tables e below (T1.setTop (mkF m 131 #[.val (.long q0), .second, .val (.long q1), .second, .val (.int p2), .val (.int (p2 &&& (7 : Int32))), .val (.long (q0 &&& (9223372036854775807 : Int64))), .second, .val (.long (own_x q0 p2)), .second, .unset, .unset] [(.long (own_e (own_x q0 p2) q1))])) _
      refine XS.lstore X1.here hx rfl (hb hby at_131) rfl (l' := #[.val (.long q0), .second, .val (.long q1), .second, .val (.int p2), .val (.int (p2 &&& (7 : Int32))), .val (.long (q0 &&& (9223372036854775807 : Int64))), .second, .val (.long (own_x q0 p2)), .second, .val (.long (own_e (own_x q0 p2) q1)), .second]) rfl ?_
      show Steps p.tables e below (T1.setTop (mkF m 133 #[.val (.long q0), .second, .val (.long q1), .second, .val (.int p2), .val (.int (p2 &&& (7 : Int32))), .val (.long (q0 &&& (9223372036854775807 : Int64))), .second, .val (.long (own_x q0 p2)), .second, .val (.long (own_e (own_x q0 p2) q1)), .second] [])) _
      refine XS.lload X1.here hx rfl (hb hby at_133) rfl ?_
      show Steps p.tables e below (T1.setTop (mkF m 135 #[.val (.long q0), .second, .val (.long q1), .second, .val (.int p2), .val (.int (p2 &&& (7 : Int32))), .val (.long (q0 &&& (9223372036854775807 : Int64))), .second, .val (.long (own_x q0 p2)), .second, .val (.long (own_e (own_x q0 p2) q1)), .second] [(.long (own_x q0 p2))])) _
      refine XS.lconst X1.here hx rfl (hb hby at_135) ?_
      show Steps p.tables e below (T1.setTop (mkF m 136 #[.val (.long q0), .second, .val (.long q1), .second, .val (.int p2), .val (.int (p2 &&& (7 : Int32))), .val (.long (q0 &&& (9223372036854775807 : Int64))), .second, .val (.long (own_x q0 p2)), .second, .val (.long (own_e (own_x q0 p2) q1)), .second] [(.long (0 : Int64)), (.long (own_x q0 p2))])) _
      refine XS.lcmp X1.here hx rfl (hb hby at_136) rfl ?_
      show Steps p.tables e below (T1.setTop (mkF m 137 #[.val (.long q0), .second, .val (.long q1), .second, .val (.int p2), .val (.int (p2 &&& (7 : Int32))), .val (.long (q0 &&& (9223372036854775807 : Int64))), .second, .val (.long (own_x q0 p2)), .second, .val (.long (own_e (own_x q0 p2) q1)), .second] [(.int (lcmpW (own_x q0 p2) (0 : Int64)))])) _
      refine XS.ifNo X1.here hx rfl (hb hby at_137) rfl ((if0 _ _).trans (teq ((lw_eq _ _).mpr hc137)).2) ?_
      show Steps p.tables e below (T1.setTop (mkF m 140 #[.val (.long q0), .second, .val (.long q1), .second, .val (.int p2), .val (.int (p2 &&& (7 : Int32))), .val (.long (q0 &&& (9223372036854775807 : Int64))), .second, .val (.long (own_x q0 p2)), .second, .val (.long (own_e (own_x q0 p2) q1)), .second] [])) _
      refine XS.lload X1.here hx rfl (hb hby at_140) rfl ?_
      show Steps p.tables e below (T1.setTop (mkF m 142 #[.val (.long q0), .second, .val (.long q1), .second, .val (.int p2), .val (.int (p2 &&& (7 : Int32))), .val (.long (q0 &&& (9223372036854775807 : Int64))), .second, .val (.long (own_x q0 p2)), .second, .val (.long (own_e (own_x q0 p2) q1)), .second] [(.long (own_e (own_x q0 p2) q1))])) _
      refine X1.ldc2Long hx hown (mvT hZ (hw _ (List.mem_of_getElem? (i := 0) rfl))) (g := (mkF m 142 #[.val (.long q0), .second, .val (.long q1), .second, .val (.int p2), .val (.int (p2 &&& (7 : Int32))), .val (.long (q0 &&& (9223372036854775807 : Int64))), .second, .val (.long (own_x q0 p2)), .second, .val (.long (own_e (own_x q0 p2) q1)), .second] [(.long (own_e (own_x q0 p2) q1))])) rfl (hb hby at_142) _ ?_
      show Steps p.tables e below (T1.setTop (mkF m 145 #[.val (.long q0), .second, .val (.long q1), .second, .val (.int p2), .val (.int (p2 &&& (7 : Int32))), .val (.long (q0 &&& (9223372036854775807 : Int64))), .second, .val (.long (own_x q0 p2)), .second, .val (.long (own_e (own_x q0 p2) q1)), .second] [(.long (9223372036854775807 : Int64)), (.long (own_e (own_x q0 p2) q1))])) _
      refine XS.lcmp X1.here hx rfl (hb hby at_145) rfl ?_
      show Steps p.tables e below (T1.setTop (mkF m 146 #[.val (.long q0), .second, .val (.long q1), .second, .val (.int p2), .val (.int (p2 &&& (7 : Int32))), .val (.long (q0 &&& (9223372036854775807 : Int64))), .second, .val (.long (own_x q0 p2)), .second, .val (.long (own_e (own_x q0 p2) q1)), .second] [(.int (lcmpW (own_e (own_x q0 p2) q1) (9223372036854775807 : Int64)))])) _
      refine XS.ifNo X1.here hx rfl (hb hby at_146) rfl ((if0 _ _).trans (teq ((lw_eq _ _).mpr (own_e0 _ hc137))).2) ?_
      show Steps p.tables e below (T1.setTop (mkF m 149 #[.val (.long q0), .second, .val (.long q1), .second, .val (.int p2), .val (.int (p2 &&& (7 : Int32))), .val (.long (q0 &&& (9223372036854775807 : Int64))), .second, .val (.long (own_x q0 p2)), .second, .val (.long (own_e (own_x q0 p2) q1)), .second] [])) _
      refine XS.iconst X1.here hx rfl (hb hby at_149) ?_
      show Steps p.tables e below (T1.setTop (mkF m 150 #[.val (.long q0), .second, .val (.long q1), .second, .val (.int p2), .val (.int (p2 &&& (7 : Int32))), .val (.long (q0 &&& (9223372036854775807 : Int64))), .second, .val (.long (own_x q0 p2)), .second, .val (.long (own_e (own_x q0 p2) q1)), .second] [(.int (1 : Int32))])) _
      refine XS.goto X1.here hx rfl (pc0 := 150) (pc' := 154) rfl (hb hby at_150) (by decide) (by decide) ?_
      show Steps p.tables e below (T1.setTop (mkF m 154 #[.val (.long q0), .second, .val (.long q1), .second, .val (.int p2), .val (.int (p2 &&& (7 : Int32))), .val (.long (q0 &&& (9223372036854775807 : Int64))), .second, .val (.long (own_x q0 p2)), .second, .val (.long (own_e (own_x q0 p2) q1)), .second] [(.int (1 : Int32))])) _
      exact retN X1 hx (t := .boolean) Bd.returns (by simp) (hb hby at_154) hr
    · show Q0 Z q0 q1 p2 h0 n0 _ T1.heap _
      rw [e1]
      exact ⟨rfl, N1⟩
  · by_cases hc159 : (own_x q0 p2) < (0 : Int64)
    · obtain ⟨fs, hr, hrun, hended, hW, hsame⟩ := X1.leave (v := some (.int (1 : Int32))) (fun h => by rw [Bd.returns] at h; cases h)
      refine ⟨_, _, pre0 _ ?_, hrun, hended, _, _, rfl, ?_, ⟨_, rfl⟩, hW, hsame.mono (by decide) (by decide)⟩
      · show Steps p.tables e below (s₁.setTop (mkF m 0 #[.val (.long q0), .second, .val (.long q1), .second, .val (.int p2), .unset, .unset, .unset, .unset, .unset, .unset, .unset] [])) _
        refine stP _ ?_
        show Steps p.tables e below (TP.setTop (mkF m 125 #[.val (.long q0), .second, .val (.long q1), .second, .val (.int p2), .val (.int (p2 &&& (7 : Int32))), .val (.long (q0 &&& (9223372036854775807 : Int64))), .second, .val (.long (own_x q0 p2)), .second, .unset, .unset] [])) _
        refine XS.lload XP.here hx rfl (hb hby at_125) rfl ?_
        show Steps p.tables e below (TP.setTop (mkF m 127 #[.val (.long q0), .second, .val (.long q1), .second, .val (.int p2), .val (.int (p2 &&& (7 : Int32))), .val (.long (q0 &&& (9223372036854775807 : Int64))), .second, .val (.long (own_x q0 p2)), .second, .unset, .unset] [(.long (own_x q0 p2))])) _
        refine XS.lloadN XP.here hx rfl (hb hby at_127) rfl ?_
        show Steps p.tables e below (TP.setTop (mkF m 128 #[.val (.long q0), .second, .val (.long q1), .second, .val (.int p2), .val (.int (p2 &&& (7 : Int32))), .val (.long (q0 &&& (9223372036854775807 : Int64))), .second, .val (.long (own_x q0 p2)), .second, .unset, .unset] [(.long q1), (.long (own_x q0 p2))])) _
        refine st1 _ ?_
        show Steps p.tables e below (T1.setTop (mkF m 131 #[.val (.long q0), .second, .val (.long q1), .second, .val (.int p2), .val (.int (p2 &&& (7 : Int32))), .val (.long (q0 &&& (9223372036854775807 : Int64))), .second, .val (.long (own_x q0 p2)), .second, .unset, .unset] [(.long (own_e (own_x q0 p2) q1))])) _
        refine XS.lstore X1.here hx rfl (hb hby at_131) rfl (l' := #[.val (.long q0), .second, .val (.long q1), .second, .val (.int p2), .val (.int (p2 &&& (7 : Int32))), .val (.long (q0 &&& (9223372036854775807 : Int64))), .second, .val (.long (own_x q0 p2)), .second, .val (.long (own_e (own_x q0 p2) q1)), .second]) rfl ?_
        show Steps p.tables e below (T1.setTop (mkF m 133 #[.val (.long q0), .second, .val (.long q1), .second, .val (.int p2), .val (.int (p2 &&& (7 : Int32))), .val (.long (q0 &&& (9223372036854775807 : Int64))), .second, .val (.long (own_x q0 p2)), .second, .val (.long (own_e (own_x q0 p2) q1)), .second] [])) _
        refine XS.lload X1.here hx rfl (hb hby at_133) rfl ?_
        show Steps p.tables e below (T1.setTop (mkF m 135 #[.val (.long q0), .second, .val (.long q1), .second, .val (.int p2), .val (.int (p2 &&& (7 : Int32))), .val (.long (q0 &&& (9223372036854775807 : Int64))), .second, .val (.long (own_x q0 p2)), .second, .val (.long (own_e (own_x q0 p2) q1)), .second] [(.long (own_x q0 p2))])) _
        refine XS.lconst X1.here hx rfl (hb hby at_135) ?_
        show Steps p.tables e below (T1.setTop (mkF m 136 #[.val (.long q0), .second, .val (.long q1), .second, .val (.int p2), .val (.int (p2 &&& (7 : Int32))), .val (.long (q0 &&& (9223372036854775807 : Int64))), .second, .val (.long (own_x q0 p2)), .second, .val (.long (own_e (own_x q0 p2) q1)), .second] [(.long (0 : Int64)), (.long (own_x q0 p2))])) _
        refine XS.lcmp X1.here hx rfl (hb hby at_136) rfl ?_
        show Steps p.tables e below (T1.setTop (mkF m 137 #[.val (.long q0), .second, .val (.long q1), .second, .val (.int p2), .val (.int (p2 &&& (7 : Int32))), .val (.long (q0 &&& (9223372036854775807 : Int64))), .second, .val (.long (own_x q0 p2)), .second, .val (.long (own_e (own_x q0 p2) q1)), .second] [(.int (lcmpW (own_x q0 p2) (0 : Int64)))])) _
        refine XS.ifYes X1.here hx rfl (pc0 := 137) (pc' := 155) rfl (hb hby at_137) rfl ((if0 _ _).trans (feq (fun q => hc137 ((lw_eq _ _).mp q))).2) (by decide) (by decide) ?_
        show Steps p.tables e below (T1.setTop (mkF m 155 #[.val (.long q0), .second, .val (.long q1), .second, .val (.int p2), .val (.int (p2 &&& (7 : Int32))), .val (.long (q0 &&& (9223372036854775807 : Int64))), .second, .val (.long (own_x q0 p2)), .second, .val (.long (own_e (own_x q0 p2) q1)), .second] [])) _
        refine XS.lload X1.here hx rfl (hb hby at_155) rfl ?_
        show Steps p.tables e below (T1.setTop (mkF m 157 #[.val (.long q0), .second, .val (.long q1), .second, .val (.int p2), .val (.int (p2 &&& (7 : Int32))), .val (.long (q0 &&& (9223372036854775807 : Int64))), .second, .val (.long (own_x q0 p2)), .second, .val (.long (own_e (own_x q0 p2) q1)), .second] [(.long (own_x q0 p2))])) _
        refine XS.lconst X1.here hx rfl (hb hby at_157) ?_
        show Steps p.tables e below (T1.setTop (mkF m 158 #[.val (.long q0), .second, .val (.long q1), .second, .val (.int p2), .val (.int (p2 &&& (7 : Int32))), .val (.long (q0 &&& (9223372036854775807 : Int64))), .second, .val (.long (own_x q0 p2)), .second, .val (.long (own_e (own_x q0 p2) q1)), .second] [(.long (0 : Int64)), (.long (own_x q0 p2))])) _
        refine XS.lcmp X1.here hx rfl (hb hby at_158) rfl ?_
        show Steps p.tables e below (T1.setTop (mkF m 159 #[.val (.long q0), .second, .val (.long q1), .second, .val (.int p2), .val (.int (p2 &&& (7 : Int32))), .val (.long (q0 &&& (9223372036854775807 : Int64))), .second, .val (.long (own_x q0 p2)), .second, .val (.long (own_e (own_x q0 p2) q1)), .second] [(.int (lcmpW (own_x q0 p2) (0 : Int64)))])) _
        refine XS.ifNo X1.here hx rfl (hb hby at_159) rfl ((if0 _ _).trans (tlt ((lw_lt _ _).mpr hc159)).2.1) ?_
        show Steps p.tables e below (T1.setTop (mkF m 162 #[.val (.long q0), .second, .val (.long q1), .second, .val (.int p2), .val (.int (p2 &&& (7 : Int32))), .val (.long (q0 &&& (9223372036854775807 : Int64))), .second, .val (.long (own_x q0 p2)), .second, .val (.long (own_e (own_x q0 p2) q1)), .second] [])) _
        refine XS.lload X1.here hx rfl (hb hby at_162) rfl ?_
        show Steps p.tables e below (T1.setTop (mkF m 164 #[.val (.long q0), .second, .val (.long q1), .second, .val (.int p2), .val (.int (p2 &&& (7 : Int32))), .val (.long (q0 &&& (9223372036854775807 : Int64))), .second, .val (.long (own_x q0 p2)), .second, .val (.long (own_e (own_x q0 p2) q1)), .second] [(.long (own_e (own_x q0 p2) q1))])) _
        refine X1.ldc2Long hx hown (mvT hZ (hw _ (List.mem_of_getElem? (i := 19) rfl))) (g := (mkF m 164 #[.val (.long q0), .second, .val (.long q1), .second, .val (.int p2), .val (.int (p2 &&& (7 : Int32))), .val (.long (q0 &&& (9223372036854775807 : Int64))), .second, .val (.long (own_x q0 p2)), .second, .val (.long (own_e (own_x q0 p2) q1)), .second] [(.long (own_e (own_x q0 p2) q1))])) rfl (hb hby at_164) _ ?_
        show Steps p.tables e below (T1.setTop (mkF m 167 #[.val (.long q0), .second, .val (.long q1), .second, .val (.int p2), .val (.int (p2 &&& (7 : Int32))), .val (.long (q0 &&& (9223372036854775807 : Int64))), .second, .val (.long (own_x q0 p2)), .second, .val (.long (own_e (own_x q0 p2) q1)), .second] [(.long (-9223372036854775808 : Int64)), (.long (own_e (own_x q0 p2) q1))])) _
        refine XS.lcmp X1.here hx rfl (hb hby at_167) rfl ?_
        show Steps p.tables e below (T1.setTop (mkF m 168 #[.val (.long q0), .second, .val (.long q1), .second, .val (.int p2), .val (.int (p2 &&& (7 : Int32))), .val (.long (q0 &&& (9223372036854775807 : Int64))), .second, .val (.long (own_x q0 p2)), .second, .val (.long (own_e (own_x q0 p2) q1)), .second] [(.int (lcmpW (own_e (own_x q0 p2) q1) (-9223372036854775808 : Int64)))])) _
        refine XS.ifNo X1.here hx rfl (hb hby at_168) rfl ((if0 _ _).trans (teq ((lw_eq _ _).mpr (own_e1 _ hc137 hc159))).2) ?_
        show Steps p.tables e below (T1.setTop (mkF m 171 #[.val (.long q0), .second, .val (.long q1), .second, .val (.int p2), .val (.int (p2 &&& (7 : Int32))), .val (.long (q0 &&& (9223372036854775807 : Int64))), .second, .val (.long (own_x q0 p2)), .second, .val (.long (own_e (own_x q0 p2) q1)), .second] [])) _
        refine XS.iconst X1.here hx rfl (hb hby at_171) ?_
        show Steps p.tables e below (T1.setTop (mkF m 172 #[.val (.long q0), .second, .val (.long q1), .second, .val (.int p2), .val (.int (p2 &&& (7 : Int32))), .val (.long (q0 &&& (9223372036854775807 : Int64))), .second, .val (.long (own_x q0 p2)), .second, .val (.long (own_e (own_x q0 p2) q1)), .second] [(.int (1 : Int32))])) _
        refine XS.goto X1.here hx rfl (pc0 := 172) (pc' := 176) rfl (hb hby at_172) (by decide) (by decide) ?_
        show Steps p.tables e below (T1.setTop (mkF m 176 #[.val (.long q0), .second, .val (.long q1), .second, .val (.int p2), .val (.int (p2 &&& (7 : Int32))), .val (.long (q0 &&& (9223372036854775807 : Int64))), .second, .val (.long (own_x q0 p2)), .second, .val (.long (own_e (own_x q0 p2) q1)), .second] [(.int (1 : Int32))])) _
        exact retN X1 hx (t := .boolean) Bd.returns (by simp) (hb hby at_176) hr
      · show Q0 Z q0 q1 p2 h0 n0 _ T1.heap _
        rw [e1]
        exact ⟨rfl, N1⟩
    · by_cases hc183 : (2592000 : Int64) < (own_x q0 p2)
      · by_cases hc212 : (9223372036854775 : Int64) < (own_x q0 p2)
        · obtain ⟨fs, hr, hrun, hended, hW, hsame⟩ := X1.leave (v := some (.int (1 : Int32))) (fun h => by rw [Bd.returns] at h; cases h)
          refine ⟨_, _, pre0 _ ?_, hrun, hended, _, _, rfl, ?_, ⟨_, rfl⟩, hW, hsame.mono (by decide) (by decide)⟩
          · show Steps p.tables e below (s₁.setTop (mkF m 0 #[.val (.long q0), .second, .val (.long q1), .second, .val (.int p2), .unset, .unset, .unset, .unset, .unset, .unset, .unset] [])) _
            refine stP _ ?_
            show Steps p.tables e below (TP.setTop (mkF m 125 #[.val (.long q0), .second, .val (.long q1), .second, .val (.int p2), .val (.int (p2 &&& (7 : Int32))), .val (.long (q0 &&& (9223372036854775807 : Int64))), .second, .val (.long (own_x q0 p2)), .second, .unset, .unset] [])) _
            refine XS.lload XP.here hx rfl (hb hby at_125) rfl ?_
            show Steps p.tables e below (TP.setTop (mkF m 127 #[.val (.long q0), .second, .val (.long q1), .second, .val (.int p2), .val (.int (p2 &&& (7 : Int32))), .val (.long (q0 &&& (9223372036854775807 : Int64))), .second, .val (.long (own_x q0 p2)), .second, .unset, .unset] [(.long (own_x q0 p2))])) _
            refine XS.lloadN XP.here hx rfl (hb hby at_127) rfl ?_
            show Steps p.tables e below (TP.setTop (mkF m 128 #[.val (.long q0), .second, .val (.long q1), .second, .val (.int p2), .val (.int (p2 &&& (7 : Int32))), .val (.long (q0 &&& (9223372036854775807 : Int64))), .second, .val (.long (own_x q0 p2)), .second, .unset, .unset] [(.long q1), (.long (own_x q0 p2))])) _
            refine st1 _ ?_
            show Steps p.tables e below (T1.setTop (mkF m 131 #[.val (.long q0), .second, .val (.long q1), .second, .val (.int p2), .val (.int (p2 &&& (7 : Int32))), .val (.long (q0 &&& (9223372036854775807 : Int64))), .second, .val (.long (own_x q0 p2)), .second, .unset, .unset] [(.long (own_e (own_x q0 p2) q1))])) _
            refine XS.lstore X1.here hx rfl (hb hby at_131) rfl (l' := #[.val (.long q0), .second, .val (.long q1), .second, .val (.int p2), .val (.int (p2 &&& (7 : Int32))), .val (.long (q0 &&& (9223372036854775807 : Int64))), .second, .val (.long (own_x q0 p2)), .second, .val (.long (own_e (own_x q0 p2) q1)), .second]) rfl ?_
            show Steps p.tables e below (T1.setTop (mkF m 133 #[.val (.long q0), .second, .val (.long q1), .second, .val (.int p2), .val (.int (p2 &&& (7 : Int32))), .val (.long (q0 &&& (9223372036854775807 : Int64))), .second, .val (.long (own_x q0 p2)), .second, .val (.long (own_e (own_x q0 p2) q1)), .second] [])) _
            refine XS.lload X1.here hx rfl (hb hby at_133) rfl ?_
            show Steps p.tables e below (T1.setTop (mkF m 135 #[.val (.long q0), .second, .val (.long q1), .second, .val (.int p2), .val (.int (p2 &&& (7 : Int32))), .val (.long (q0 &&& (9223372036854775807 : Int64))), .second, .val (.long (own_x q0 p2)), .second, .val (.long (own_e (own_x q0 p2) q1)), .second] [(.long (own_x q0 p2))])) _
            refine XS.lconst X1.here hx rfl (hb hby at_135) ?_
            show Steps p.tables e below (T1.setTop (mkF m 136 #[.val (.long q0), .second, .val (.long q1), .second, .val (.int p2), .val (.int (p2 &&& (7 : Int32))), .val (.long (q0 &&& (9223372036854775807 : Int64))), .second, .val (.long (own_x q0 p2)), .second, .val (.long (own_e (own_x q0 p2) q1)), .second] [(.long (0 : Int64)), (.long (own_x q0 p2))])) _
            refine XS.lcmp X1.here hx rfl (hb hby at_136) rfl ?_
            show Steps p.tables e below (T1.setTop (mkF m 137 #[.val (.long q0), .second, .val (.long q1), .second, .val (.int p2), .val (.int (p2 &&& (7 : Int32))), .val (.long (q0 &&& (9223372036854775807 : Int64))), .second, .val (.long (own_x q0 p2)), .second, .val (.long (own_e (own_x q0 p2) q1)), .second] [(.int (lcmpW (own_x q0 p2) (0 : Int64)))])) _
            refine XS.ifYes X1.here hx rfl (pc0 := 137) (pc' := 155) rfl (hb hby at_137) rfl ((if0 _ _).trans (feq (fun q => hc137 ((lw_eq _ _).mp q))).2) (by decide) (by decide) ?_
            show Steps p.tables e below (T1.setTop (mkF m 155 #[.val (.long q0), .second, .val (.long q1), .second, .val (.int p2), .val (.int (p2 &&& (7 : Int32))), .val (.long (q0 &&& (9223372036854775807 : Int64))), .second, .val (.long (own_x q0 p2)), .second, .val (.long (own_e (own_x q0 p2) q1)), .second] [])) _
            refine XS.lload X1.here hx rfl (hb hby at_155) rfl ?_
            show Steps p.tables e below (T1.setTop (mkF m 157 #[.val (.long q0), .second, .val (.long q1), .second, .val (.int p2), .val (.int (p2 &&& (7 : Int32))), .val (.long (q0 &&& (9223372036854775807 : Int64))), .second, .val (.long (own_x q0 p2)), .second, .val (.long (own_e (own_x q0 p2) q1)), .second] [(.long (own_x q0 p2))])) _
            refine XS.lconst X1.here hx rfl (hb hby at_157) ?_
            show Steps p.tables e below (T1.setTop (mkF m 158 #[.val (.long q0), .second, .val (.long q1), .second, .val (.int p2), .val (.int (p2 &&& (7 : Int32))), .val (.long (q0 &&& (9223372036854775807 : Int64))), .second, .val (.long (own_x q0 p2)), .second, .val (.long (own_e (own_x q0 p2) q1)), .second] [(.long (0 : Int64)), (.long (own_x q0 p2))])) _
            refine XS.lcmp X1.here hx rfl (hb hby at_158) rfl ?_
            show Steps p.tables e below (T1.setTop (mkF m 159 #[.val (.long q0), .second, .val (.long q1), .second, .val (.int p2), .val (.int (p2 &&& (7 : Int32))), .val (.long (q0 &&& (9223372036854775807 : Int64))), .second, .val (.long (own_x q0 p2)), .second, .val (.long (own_e (own_x q0 p2) q1)), .second] [(.int (lcmpW (own_x q0 p2) (0 : Int64)))])) _
            refine XS.ifYes X1.here hx rfl (pc0 := 159) (pc' := 177) rfl (hb hby at_159) rfl ((if0 _ _).trans (flt (fun q => hc159 ((lw_lt _ _).mp q))).2.1) (by decide) (by decide) ?_
            show Steps p.tables e below (T1.setTop (mkF m 177 #[.val (.long q0), .second, .val (.long q1), .second, .val (.int p2), .val (.int (p2 &&& (7 : Int32))), .val (.long (q0 &&& (9223372036854775807 : Int64))), .second, .val (.long (own_x q0 p2)), .second, .val (.long (own_e (own_x q0 p2) q1)), .second] [])) _
            refine XS.lload X1.here hx rfl (hb hby at_177) rfl ?_
            show Steps p.tables e below (T1.setTop (mkF m 179 #[.val (.long q0), .second, .val (.long q1), .second, .val (.int p2), .val (.int (p2 &&& (7 : Int32))), .val (.long (q0 &&& (9223372036854775807 : Int64))), .second, .val (.long (own_x q0 p2)), .second, .val (.long (own_e (own_x q0 p2) q1)), .second] [(.long (own_x q0 p2))])) _
            refine X1.ldc2Long hx hown (mvT hZ (hw _ (List.mem_of_getElem? (i := 8) rfl))) (g := (mkF m 179 #[.val (.long q0), .second, .val (.long q1), .second, .val (.int p2), .val (.int (p2 &&& (7 : Int32))), .val (.long (q0 &&& (9223372036854775807 : Int64))), .second, .val (.long (own_x q0 p2)), .second, .val (.long (own_e (own_x q0 p2) q1)), .second] [(.long (own_x q0 p2))])) rfl (hb hby at_179) _ ?_
            show Steps p.tables e below (T1.setTop (mkF m 182 #[.val (.long q0), .second, .val (.long q1), .second, .val (.int p2), .val (.int (p2 &&& (7 : Int32))), .val (.long (q0 &&& (9223372036854775807 : Int64))), .second, .val (.long (own_x q0 p2)), .second, .val (.long (own_e (own_x q0 p2) q1)), .second] [(.long (2592000 : Int64)), (.long (own_x q0 p2))])) _
            refine XS.lcmp X1.here hx rfl (hb hby at_182) rfl ?_
            show Steps p.tables e below (T1.setTop (mkF m 183 #[.val (.long q0), .second, .val (.long q1), .second, .val (.int p2), .val (.int (p2 &&& (7 : Int32))), .val (.long (q0 &&& (9223372036854775807 : Int64))), .second, .val (.long (own_x q0 p2)), .second, .val (.long (own_e (own_x q0 p2) q1)), .second] [(.int (lcmpW (own_x q0 p2) (2592000 : Int64)))])) _
            refine XS.ifYes X1.here hx rfl (pc0 := 183) (pc' := 206) rfl (hb hby at_183) rfl ((if0 _ _).trans (tlt ((lw_gt _ _).mpr hc183)).2.2.1) (by decide) (by decide) ?_
            show Steps p.tables e below (T1.setTop (mkF m 206 #[.val (.long q0), .second, .val (.long q1), .second, .val (.int p2), .val (.int (p2 &&& (7 : Int32))), .val (.long (q0 &&& (9223372036854775807 : Int64))), .second, .val (.long (own_x q0 p2)), .second, .val (.long (own_e (own_x q0 p2) q1)), .second] [])) _
            refine XS.lload X1.here hx rfl (hb hby at_206) rfl ?_
            show Steps p.tables e below (T1.setTop (mkF m 208 #[.val (.long q0), .second, .val (.long q1), .second, .val (.int p2), .val (.int (p2 &&& (7 : Int32))), .val (.long (q0 &&& (9223372036854775807 : Int64))), .second, .val (.long (own_x q0 p2)), .second, .val (.long (own_e (own_x q0 p2) q1)), .second] [(.long (own_x q0 p2))])) _
            refine X1.ldc2Long hx hown (mvT hZ (hw _ (List.mem_of_getElem? (i := 17) rfl))) (g := (mkF m 208 #[.val (.long q0), .second, .val (.long q1), .second, .val (.int p2), .val (.int (p2 &&& (7 : Int32))), .val (.long (q0 &&& (9223372036854775807 : Int64))), .second, .val (.long (own_x q0 p2)), .second, .val (.long (own_e (own_x q0 p2) q1)), .second] [(.long (own_x q0 p2))])) rfl (hb hby at_208) _ ?_
            show Steps p.tables e below (T1.setTop (mkF m 211 #[.val (.long q0), .second, .val (.long q1), .second, .val (.int p2), .val (.int (p2 &&& (7 : Int32))), .val (.long (q0 &&& (9223372036854775807 : Int64))), .second, .val (.long (own_x q0 p2)), .second, .val (.long (own_e (own_x q0 p2) q1)), .second] [(.long (9223372036854775 : Int64)), (.long (own_x q0 p2))])) _
            refine XS.lcmp X1.here hx rfl (hb hby at_211) rfl ?_
            show Steps p.tables e below (T1.setTop (mkF m 212 #[.val (.long q0), .second, .val (.long q1), .second, .val (.int p2), .val (.int (p2 &&& (7 : Int32))), .val (.long (q0 &&& (9223372036854775807 : Int64))), .second, .val (.long (own_x q0 p2)), .second, .val (.long (own_e (own_x q0 p2) q1)), .second] [(.int (lcmpW (own_x q0 p2) (9223372036854775 : Int64)))])) _
            refine XS.ifYes X1.here hx rfl (pc0 := 212) (pc' := 244) rfl (hb hby at_212) rfl ((if0 _ _).trans (tlt ((lw_gt _ _).mpr hc212)).2.2.1) (by decide) (by decide) ?_
            show Steps p.tables e below (T1.setTop (mkF m 244 #[.val (.long q0), .second, .val (.long q1), .second, .val (.int p2), .val (.int (p2 &&& (7 : Int32))), .val (.long (q0 &&& (9223372036854775807 : Int64))), .second, .val (.long (own_x q0 p2)), .second, .val (.long (own_e (own_x q0 p2) q1)), .second] [])) _
            refine XS.lload X1.here hx rfl (hb hby at_244) rfl ?_
            show Steps p.tables e below (T1.setTop (mkF m 246 #[.val (.long q0), .second, .val (.long q1), .second, .val (.int p2), .val (.int (p2 &&& (7 : Int32))), .val (.long (q0 &&& (9223372036854775807 : Int64))), .second, .val (.long (own_x q0 p2)), .second, .val (.long (own_e (own_x q0 p2) q1)), .second] [(.long (own_e (own_x q0 p2) q1))])) _
            refine X1.ldc2Long hx hown (mvT hZ (hw _ (List.mem_of_getElem? (i := 0) rfl))) (g := (mkF m 246 #[.val (.long q0), .second, .val (.long q1), .second, .val (.int p2), .val (.int (p2 &&& (7 : Int32))), .val (.long (q0 &&& (9223372036854775807 : Int64))), .second, .val (.long (own_x q0 p2)), .second, .val (.long (own_e (own_x q0 p2) q1)), .second] [(.long (own_e (own_x q0 p2) q1))])) rfl (hb hby at_246) _ ?_
            show Steps p.tables e below (T1.setTop (mkF m 249 #[.val (.long q0), .second, .val (.long q1), .second, .val (.int p2), .val (.int (p2 &&& (7 : Int32))), .val (.long (q0 &&& (9223372036854775807 : Int64))), .second, .val (.long (own_x q0 p2)), .second, .val (.long (own_e (own_x q0 p2) q1)), .second] [(.long (9223372036854775807 : Int64)), (.long (own_e (own_x q0 p2) q1))])) _
            refine XS.lcmp X1.here hx rfl (hb hby at_249) rfl ?_
            show Steps p.tables e below (T1.setTop (mkF m 250 #[.val (.long q0), .second, .val (.long q1), .second, .val (.int p2), .val (.int (p2 &&& (7 : Int32))), .val (.long (q0 &&& (9223372036854775807 : Int64))), .second, .val (.long (own_x q0 p2)), .second, .val (.long (own_e (own_x q0 p2) q1)), .second] [(.int (lcmpW (own_e (own_x q0 p2) q1) (9223372036854775807 : Int64)))])) _
            refine XS.ifNo X1.here hx rfl (hb hby at_250) rfl ((if0 _ _).trans (teq ((lw_eq _ _).mpr (own_e3 _ hc137 hc159 hc183 hc212))).2) ?_
            show Steps p.tables e below (T1.setTop (mkF m 253 #[.val (.long q0), .second, .val (.long q1), .second, .val (.int p2), .val (.int (p2 &&& (7 : Int32))), .val (.long (q0 &&& (9223372036854775807 : Int64))), .second, .val (.long (own_x q0 p2)), .second, .val (.long (own_e (own_x q0 p2) q1)), .second] [])) _
            refine XS.iconst X1.here hx rfl (hb hby at_253) ?_
            show Steps p.tables e below (T1.setTop (mkF m 254 #[.val (.long q0), .second, .val (.long q1), .second, .val (.int p2), .val (.int (p2 &&& (7 : Int32))), .val (.long (q0 &&& (9223372036854775807 : Int64))), .second, .val (.long (own_x q0 p2)), .second, .val (.long (own_e (own_x q0 p2) q1)), .second] [(.int (1 : Int32))])) _
            refine XS.goto X1.here hx rfl (pc0 := 254) (pc' := 258) rfl (hb hby at_254) (by decide) (by decide) ?_
            show Steps p.tables e below (T1.setTop (mkF m 258 #[.val (.long q0), .second, .val (.long q1), .second, .val (.int p2), .val (.int (p2 &&& (7 : Int32))), .val (.long (q0 &&& (9223372036854775807 : Int64))), .second, .val (.long (own_x q0 p2)), .second, .val (.long (own_e (own_x q0 p2) q1)), .second] [(.int (1 : Int32))])) _
            exact retN X1 hx (t := .boolean) Bd.returns (by simp) (hb hby at_258) hr
          · show Q0 Z q0 q1 p2 h0 n0 _ T1.heap _
            rw [e1]
            exact ⟨rfl, N1⟩
        · obtain ⟨fs, hr, hrun, hended, hW, hsame⟩ := X1.leave (v := some (.int (1 : Int32))) (fun h => by rw [Bd.returns] at h; cases h)
          refine ⟨_, _, pre0 _ ?_, hrun, hended, _, _, rfl, ?_, ⟨_, rfl⟩, hW, hsame.mono (by decide) (by decide)⟩
          · show Steps p.tables e below (s₁.setTop (mkF m 0 #[.val (.long q0), .second, .val (.long q1), .second, .val (.int p2), .unset, .unset, .unset, .unset, .unset, .unset, .unset] [])) _
            refine stP _ ?_
            show Steps p.tables e below (TP.setTop (mkF m 125 #[.val (.long q0), .second, .val (.long q1), .second, .val (.int p2), .val (.int (p2 &&& (7 : Int32))), .val (.long (q0 &&& (9223372036854775807 : Int64))), .second, .val (.long (own_x q0 p2)), .second, .unset, .unset] [])) _
            refine XS.lload XP.here hx rfl (hb hby at_125) rfl ?_
            show Steps p.tables e below (TP.setTop (mkF m 127 #[.val (.long q0), .second, .val (.long q1), .second, .val (.int p2), .val (.int (p2 &&& (7 : Int32))), .val (.long (q0 &&& (9223372036854775807 : Int64))), .second, .val (.long (own_x q0 p2)), .second, .unset, .unset] [(.long (own_x q0 p2))])) _
            refine XS.lloadN XP.here hx rfl (hb hby at_127) rfl ?_
            show Steps p.tables e below (TP.setTop (mkF m 128 #[.val (.long q0), .second, .val (.long q1), .second, .val (.int p2), .val (.int (p2 &&& (7 : Int32))), .val (.long (q0 &&& (9223372036854775807 : Int64))), .second, .val (.long (own_x q0 p2)), .second, .unset, .unset] [(.long q1), (.long (own_x q0 p2))])) _
            refine st1 _ ?_
            show Steps p.tables e below (T1.setTop (mkF m 131 #[.val (.long q0), .second, .val (.long q1), .second, .val (.int p2), .val (.int (p2 &&& (7 : Int32))), .val (.long (q0 &&& (9223372036854775807 : Int64))), .second, .val (.long (own_x q0 p2)), .second, .unset, .unset] [(.long (own_e (own_x q0 p2) q1))])) _
            refine XS.lstore X1.here hx rfl (hb hby at_131) rfl (l' := #[.val (.long q0), .second, .val (.long q1), .second, .val (.int p2), .val (.int (p2 &&& (7 : Int32))), .val (.long (q0 &&& (9223372036854775807 : Int64))), .second, .val (.long (own_x q0 p2)), .second, .val (.long (own_e (own_x q0 p2) q1)), .second]) rfl ?_
            show Steps p.tables e below (T1.setTop (mkF m 133 #[.val (.long q0), .second, .val (.long q1), .second, .val (.int p2), .val (.int (p2 &&& (7 : Int32))), .val (.long (q0 &&& (9223372036854775807 : Int64))), .second, .val (.long (own_x q0 p2)), .second, .val (.long (own_e (own_x q0 p2) q1)), .second] [])) _
            refine XS.lload X1.here hx rfl (hb hby at_133) rfl ?_
            show Steps p.tables e below (T1.setTop (mkF m 135 #[.val (.long q0), .second, .val (.long q1), .second, .val (.int p2), .val (.int (p2 &&& (7 : Int32))), .val (.long (q0 &&& (9223372036854775807 : Int64))), .second, .val (.long (own_x q0 p2)), .second, .val (.long (own_e (own_x q0 p2) q1)), .second] [(.long (own_x q0 p2))])) _
            refine XS.lconst X1.here hx rfl (hb hby at_135) ?_
            show Steps p.tables e below (T1.setTop (mkF m 136 #[.val (.long q0), .second, .val (.long q1), .second, .val (.int p2), .val (.int (p2 &&& (7 : Int32))), .val (.long (q0 &&& (9223372036854775807 : Int64))), .second, .val (.long (own_x q0 p2)), .second, .val (.long (own_e (own_x q0 p2) q1)), .second] [(.long (0 : Int64)), (.long (own_x q0 p2))])) _
            refine XS.lcmp X1.here hx rfl (hb hby at_136) rfl ?_
            show Steps p.tables e below (T1.setTop (mkF m 137 #[.val (.long q0), .second, .val (.long q1), .second, .val (.int p2), .val (.int (p2 &&& (7 : Int32))), .val (.long (q0 &&& (9223372036854775807 : Int64))), .second, .val (.long (own_x q0 p2)), .second, .val (.long (own_e (own_x q0 p2) q1)), .second] [(.int (lcmpW (own_x q0 p2) (0 : Int64)))])) _
            refine XS.ifYes X1.here hx rfl (pc0 := 137) (pc' := 155) rfl (hb hby at_137) rfl ((if0 _ _).trans (feq (fun q => hc137 ((lw_eq _ _).mp q))).2) (by decide) (by decide) ?_
            show Steps p.tables e below (T1.setTop (mkF m 155 #[.val (.long q0), .second, .val (.long q1), .second, .val (.int p2), .val (.int (p2 &&& (7 : Int32))), .val (.long (q0 &&& (9223372036854775807 : Int64))), .second, .val (.long (own_x q0 p2)), .second, .val (.long (own_e (own_x q0 p2) q1)), .second] [])) _
            refine XS.lload X1.here hx rfl (hb hby at_155) rfl ?_
            show Steps p.tables e below (T1.setTop (mkF m 157 #[.val (.long q0), .second, .val (.long q1), .second, .val (.int p2), .val (.int (p2 &&& (7 : Int32))), .val (.long (q0 &&& (9223372036854775807 : Int64))), .second, .val (.long (own_x q0 p2)), .second, .val (.long (own_e (own_x q0 p2) q1)), .second] [(.long (own_x q0 p2))])) _
            refine XS.lconst X1.here hx rfl (hb hby at_157) ?_
            show Steps p.tables e below (T1.setTop (mkF m 158 #[.val (.long q0), .second, .val (.long q1), .second, .val (.int p2), .val (.int (p2 &&& (7 : Int32))), .val (.long (q0 &&& (9223372036854775807 : Int64))), .second, .val (.long (own_x q0 p2)), .second, .val (.long (own_e (own_x q0 p2) q1)), .second] [(.long (0 : Int64)), (.long (own_x q0 p2))])) _
            refine XS.lcmp X1.here hx rfl (hb hby at_158) rfl ?_
            show Steps p.tables e below (T1.setTop (mkF m 159 #[.val (.long q0), .second, .val (.long q1), .second, .val (.int p2), .val (.int (p2 &&& (7 : Int32))), .val (.long (q0 &&& (9223372036854775807 : Int64))), .second, .val (.long (own_x q0 p2)), .second, .val (.long (own_e (own_x q0 p2) q1)), .second] [(.int (lcmpW (own_x q0 p2) (0 : Int64)))])) _
            refine XS.ifYes X1.here hx rfl (pc0 := 159) (pc' := 177) rfl (hb hby at_159) rfl ((if0 _ _).trans (flt (fun q => hc159 ((lw_lt _ _).mp q))).2.1) (by decide) (by decide) ?_
            show Steps p.tables e below (T1.setTop (mkF m 177 #[.val (.long q0), .second, .val (.long q1), .second, .val (.int p2), .val (.int (p2 &&& (7 : Int32))), .val (.long (q0 &&& (9223372036854775807 : Int64))), .second, .val (.long (own_x q0 p2)), .second, .val (.long (own_e (own_x q0 p2) q1)), .second] [])) _
            refine XS.lload X1.here hx rfl (hb hby at_177) rfl ?_
            show Steps p.tables e below (T1.setTop (mkF m 179 #[.val (.long q0), .second, .val (.long q1), .second, .val (.int p2), .val (.int (p2 &&& (7 : Int32))), .val (.long (q0 &&& (9223372036854775807 : Int64))), .second, .val (.long (own_x q0 p2)), .second, .val (.long (own_e (own_x q0 p2) q1)), .second] [(.long (own_x q0 p2))])) _
            refine X1.ldc2Long hx hown (mvT hZ (hw _ (List.mem_of_getElem? (i := 8) rfl))) (g := (mkF m 179 #[.val (.long q0), .second, .val (.long q1), .second, .val (.int p2), .val (.int (p2 &&& (7 : Int32))), .val (.long (q0 &&& (9223372036854775807 : Int64))), .second, .val (.long (own_x q0 p2)), .second, .val (.long (own_e (own_x q0 p2) q1)), .second] [(.long (own_x q0 p2))])) rfl (hb hby at_179) _ ?_
            show Steps p.tables e below (T1.setTop (mkF m 182 #[.val (.long q0), .second, .val (.long q1), .second, .val (.int p2), .val (.int (p2 &&& (7 : Int32))), .val (.long (q0 &&& (9223372036854775807 : Int64))), .second, .val (.long (own_x q0 p2)), .second, .val (.long (own_e (own_x q0 p2) q1)), .second] [(.long (2592000 : Int64)), (.long (own_x q0 p2))])) _
            refine XS.lcmp X1.here hx rfl (hb hby at_182) rfl ?_
            show Steps p.tables e below (T1.setTop (mkF m 183 #[.val (.long q0), .second, .val (.long q1), .second, .val (.int p2), .val (.int (p2 &&& (7 : Int32))), .val (.long (q0 &&& (9223372036854775807 : Int64))), .second, .val (.long (own_x q0 p2)), .second, .val (.long (own_e (own_x q0 p2) q1)), .second] [(.int (lcmpW (own_x q0 p2) (2592000 : Int64)))])) _
            refine XS.ifYes X1.here hx rfl (pc0 := 183) (pc' := 206) rfl (hb hby at_183) rfl ((if0 _ _).trans (tlt ((lw_gt _ _).mpr hc183)).2.2.1) (by decide) (by decide) ?_
            show Steps p.tables e below (T1.setTop (mkF m 206 #[.val (.long q0), .second, .val (.long q1), .second, .val (.int p2), .val (.int (p2 &&& (7 : Int32))), .val (.long (q0 &&& (9223372036854775807 : Int64))), .second, .val (.long (own_x q0 p2)), .second, .val (.long (own_e (own_x q0 p2) q1)), .second] [])) _
            refine XS.lload X1.here hx rfl (hb hby at_206) rfl ?_
            show Steps p.tables e below (T1.setTop (mkF m 208 #[.val (.long q0), .second, .val (.long q1), .second, .val (.int p2), .val (.int (p2 &&& (7 : Int32))), .val (.long (q0 &&& (9223372036854775807 : Int64))), .second, .val (.long (own_x q0 p2)), .second, .val (.long (own_e (own_x q0 p2) q1)), .second] [(.long (own_x q0 p2))])) _
            refine X1.ldc2Long hx hown (mvT hZ (hw _ (List.mem_of_getElem? (i := 17) rfl))) (g := (mkF m 208 #[.val (.long q0), .second, .val (.long q1), .second, .val (.int p2), .val (.int (p2 &&& (7 : Int32))), .val (.long (q0 &&& (9223372036854775807 : Int64))), .second, .val (.long (own_x q0 p2)), .second, .val (.long (own_e (own_x q0 p2) q1)), .second] [(.long (own_x q0 p2))])) rfl (hb hby at_208) _ ?_
            show Steps p.tables e below (T1.setTop (mkF m 211 #[.val (.long q0), .second, .val (.long q1), .second, .val (.int p2), .val (.int (p2 &&& (7 : Int32))), .val (.long (q0 &&& (9223372036854775807 : Int64))), .second, .val (.long (own_x q0 p2)), .second, .val (.long (own_e (own_x q0 p2) q1)), .second] [(.long (9223372036854775 : Int64)), (.long (own_x q0 p2))])) _
            refine XS.lcmp X1.here hx rfl (hb hby at_211) rfl ?_
            show Steps p.tables e below (T1.setTop (mkF m 212 #[.val (.long q0), .second, .val (.long q1), .second, .val (.int p2), .val (.int (p2 &&& (7 : Int32))), .val (.long (q0 &&& (9223372036854775807 : Int64))), .second, .val (.long (own_x q0 p2)), .second, .val (.long (own_e (own_x q0 p2) q1)), .second] [(.int (lcmpW (own_x q0 p2) (9223372036854775 : Int64)))])) _
            refine XS.ifNo X1.here hx rfl (hb hby at_212) rfl ((if0 _ _).trans (flt (fun q => hc212 ((lw_gt _ _).mp q))).2.2.1) ?_
            show Steps p.tables e below (T1.setTop (mkF m 215 #[.val (.long q0), .second, .val (.long q1), .second, .val (.int p2), .val (.int (p2 &&& (7 : Int32))), .val (.long (q0 &&& (9223372036854775807 : Int64))), .second, .val (.long (own_x q0 p2)), .second, .val (.long (own_e (own_x q0 p2) q1)), .second] [])) _
            refine XS.lload X1.here hx rfl (hb hby at_215) rfl ?_
            show Steps p.tables e below (T1.setTop (mkF m 217 #[.val (.long q0), .second, .val (.long q1), .second, .val (.int p2), .val (.int (p2 &&& (7 : Int32))), .val (.long (q0 &&& (9223372036854775807 : Int64))), .second, .val (.long (own_x q0 p2)), .second, .val (.long (own_e (own_x q0 p2) q1)), .second] [(.long (own_e (own_x q0 p2) q1))])) _
            refine X1.ldc2Long hx hown (mvT hZ (hw _ (List.mem_of_getElem? (i := 9) rfl))) (g := (mkF m 217 #[.val (.long q0), .second, .val (.long q1), .second, .val (.int p2), .val (.int (p2 &&& (7 : Int32))), .val (.long (q0 &&& (9223372036854775807 : Int64))), .second, .val (.long (own_x q0 p2)), .second, .val (.long (own_e (own_x q0 p2) q1)), .second] [(.long (own_e (own_x q0 p2) q1))])) rfl (hb hby at_217) _ ?_
            show Steps p.tables e below (T1.setTop (mkF m 220 #[.val (.long q0), .second, .val (.long q1), .second, .val (.int p2), .val (.int (p2 &&& (7 : Int32))), .val (.long (q0 &&& (9223372036854775807 : Int64))), .second, .val (.long (own_x q0 p2)), .second, .val (.long (own_e (own_x q0 p2) q1)), .second] [(.long (1000 : Int64)), (.long (own_e (own_x q0 p2) q1))])) _
            refine XS.lrem X1.here hx rfl (hb hby at_220) rfl (by decide) ?_
            show Steps p.tables e below (T1.setTop (mkF m 221 #[.val (.long q0), .second, .val (.long q1), .second, .val (.int p2), .val (.int (p2 &&& (7 : Int32))), .val (.long (q0 &&& (9223372036854775807 : Int64))), .second, .val (.long (own_x q0 p2)), .second, .val (.long (own_e (own_x q0 p2) q1)), .second] [(.long ((own_e (own_x q0 p2) q1) - ((own_e (own_x q0 p2) q1) / (1000 : Int64)) * (1000 : Int64)))])) _
            refine XS.lconst X1.here hx rfl (hb hby at_221) ?_
            show Steps p.tables e below (T1.setTop (mkF m 222 #[.val (.long q0), .second, .val (.long q1), .second, .val (.int p2), .val (.int (p2 &&& (7 : Int32))), .val (.long (q0 &&& (9223372036854775807 : Int64))), .second, .val (.long (own_x q0 p2)), .second, .val (.long (own_e (own_x q0 p2) q1)), .second] [(.long (0 : Int64)), (.long ((own_e (own_x q0 p2) q1) - ((own_e (own_x q0 p2) q1) / (1000 : Int64)) * (1000 : Int64)))])) _
            refine XS.lcmp X1.here hx rfl (hb hby at_222) rfl ?_
            show Steps p.tables e below (T1.setTop (mkF m 223 #[.val (.long q0), .second, .val (.long q1), .second, .val (.int p2), .val (.int (p2 &&& (7 : Int32))), .val (.long (q0 &&& (9223372036854775807 : Int64))), .second, .val (.long (own_x q0 p2)), .second, .val (.long (own_e (own_x q0 p2) q1)), .second] [(.int (lcmpW ((own_e (own_x q0 p2) q1) - ((own_e (own_x q0 p2) q1) / (1000 : Int64)) * (1000 : Int64)) (0 : Int64)))])) _
            refine XS.ifNo X1.here hx rfl (hb hby at_223) rfl ((if0 _ _).trans (teq ((lw_eq _ _).mpr (own_e4 _ hc137 hc159 hc183 hc212).1)).2) ?_
            show Steps p.tables e below (T1.setTop (mkF m 226 #[.val (.long q0), .second, .val (.long q1), .second, .val (.int p2), .val (.int (p2 &&& (7 : Int32))), .val (.long (q0 &&& (9223372036854775807 : Int64))), .second, .val (.long (own_x q0 p2)), .second, .val (.long (own_e (own_x q0 p2) q1)), .second] [])) _
            refine XS.lload X1.here hx rfl (hb hby at_226) rfl ?_
            show Steps p.tables e below (T1.setTop (mkF m 228 #[.val (.long q0), .second, .val (.long q1), .second, .val (.int p2), .val (.int (p2 &&& (7 : Int32))), .val (.long (q0 &&& (9223372036854775807 : Int64))), .second, .val (.long (own_x q0 p2)), .second, .val (.long (own_e (own_x q0 p2) q1)), .second] [(.long (own_e (own_x q0 p2) q1))])) _
            refine X1.ldc2Long hx hown (mvT hZ (hw _ (List.mem_of_getElem? (i := 9) rfl))) (g := (mkF m 228 #[.val (.long q0), .second, .val (.long q1), .second, .val (.int p2), .val (.int (p2 &&& (7 : Int32))), .val (.long (q0 &&& (9223372036854775807 : Int64))), .second, .val (.long (own_x q0 p2)), .second, .val (.long (own_e (own_x q0 p2) q1)), .second] [(.long (own_e (own_x q0 p2) q1))])) rfl (hb hby at_228) _ ?_
            show Steps p.tables e below (T1.setTop (mkF m 231 #[.val (.long q0), .second, .val (.long q1), .second, .val (.int p2), .val (.int (p2 &&& (7 : Int32))), .val (.long (q0 &&& (9223372036854775807 : Int64))), .second, .val (.long (own_x q0 p2)), .second, .val (.long (own_e (own_x q0 p2) q1)), .second] [(.long (1000 : Int64)), (.long (own_e (own_x q0 p2) q1))])) _
            refine XS.ldiv X1.here hx rfl (hb hby at_231) rfl (by decide) ?_
            show Steps p.tables e below (T1.setTop (mkF m 232 #[.val (.long q0), .second, .val (.long q1), .second, .val (.int p2), .val (.int (p2 &&& (7 : Int32))), .val (.long (q0 &&& (9223372036854775807 : Int64))), .second, .val (.long (own_x q0 p2)), .second, .val (.long (own_e (own_x q0 p2) q1)), .second] [(.long ((own_e (own_x q0 p2) q1) / (1000 : Int64)))])) _
            refine XS.lload X1.here hx rfl (hb hby at_232) rfl ?_
            show Steps p.tables e below (T1.setTop (mkF m 234 #[.val (.long q0), .second, .val (.long q1), .second, .val (.int p2), .val (.int (p2 &&& (7 : Int32))), .val (.long (q0 &&& (9223372036854775807 : Int64))), .second, .val (.long (own_x q0 p2)), .second, .val (.long (own_e (own_x q0 p2) q1)), .second] [(.long (own_x q0 p2)), (.long ((own_e (own_x q0 p2) q1) / (1000 : Int64)))])) _
            refine XS.lcmp X1.here hx rfl (hb hby at_234) rfl ?_
            show Steps p.tables e below (T1.setTop (mkF m 235 #[.val (.long q0), .second, .val (.long q1), .second, .val (.int p2), .val (.int (p2 &&& (7 : Int32))), .val (.long (q0 &&& (9223372036854775807 : Int64))), .second, .val (.long (own_x q0 p2)), .second, .val (.long (own_e (own_x q0 p2) q1)), .second] [(.int (lcmpW ((own_e (own_x q0 p2) q1) / (1000 : Int64)) (own_x q0 p2)))])) _
            refine XS.ifNo X1.here hx rfl (hb hby at_235) rfl ((if0 _ _).trans (teq ((lw_eq _ _).mpr (own_e4 _ hc137 hc159 hc183 hc212).2)).2) ?_
            show Steps p.tables e below (T1.setTop (mkF m 238 #[.val (.long q0), .second, .val (.long q1), .second, .val (.int p2), .val (.int (p2 &&& (7 : Int32))), .val (.long (q0 &&& (9223372036854775807 : Int64))), .second, .val (.long (own_x q0 p2)), .second, .val (.long (own_e (own_x q0 p2) q1)), .second] [])) _
            refine XS.iconst X1.here hx rfl (hb hby at_238) ?_
            show Steps p.tables e below (T1.setTop (mkF m 239 #[.val (.long q0), .second, .val (.long q1), .second, .val (.int p2), .val (.int (p2 &&& (7 : Int32))), .val (.long (q0 &&& (9223372036854775807 : Int64))), .second, .val (.long (own_x q0 p2)), .second, .val (.long (own_e (own_x q0 p2) q1)), .second] [(.int (1 : Int32))])) _
            refine XS.goto X1.here hx rfl (pc0 := 239) (pc' := 243) rfl (hb hby at_239) (by decide) (by decide) ?_
            show Steps p.tables e below (T1.setTop (mkF m 243 #[.val (.long q0), .second, .val (.long q1), .second, .val (.int p2), .val (.int (p2 &&& (7 : Int32))), .val (.long (q0 &&& (9223372036854775807 : Int64))), .second, .val (.long (own_x q0 p2)), .second, .val (.long (own_e (own_x q0 p2) q1)), .second] [(.int (1 : Int32))])) _
            exact retN X1 hx (t := .boolean) Bd.returns (by simp) (hb hby at_243) hr
          · show Q0 Z q0 q1 p2 h0 n0 _ T1.heap _
            rw [e1]
            exact ⟨rfl, N1⟩
      · obtain ⟨fs, hr, hrun, hended, hW, hsame⟩ := X1.leave (v := some (.int (1 : Int32))) (fun h => by rw [Bd.returns] at h; cases h)
        refine ⟨_, _, pre0 _ ?_, hrun, hended, _, _, rfl, ?_, ⟨_, rfl⟩, hW, hsame.mono (by decide) (by decide)⟩
        · show Steps p.tables e below (s₁.setTop (mkF m 0 #[.val (.long q0), .second, .val (.long q1), .second, .val (.int p2), .unset, .unset, .unset, .unset, .unset, .unset, .unset] [])) _
          refine stP _ ?_
          show Steps p.tables e below (TP.setTop (mkF m 125 #[.val (.long q0), .second, .val (.long q1), .second, .val (.int p2), .val (.int (p2 &&& (7 : Int32))), .val (.long (q0 &&& (9223372036854775807 : Int64))), .second, .val (.long (own_x q0 p2)), .second, .unset, .unset] [])) _
          refine XS.lload XP.here hx rfl (hb hby at_125) rfl ?_
          show Steps p.tables e below (TP.setTop (mkF m 127 #[.val (.long q0), .second, .val (.long q1), .second, .val (.int p2), .val (.int (p2 &&& (7 : Int32))), .val (.long (q0 &&& (9223372036854775807 : Int64))), .second, .val (.long (own_x q0 p2)), .second, .unset, .unset] [(.long (own_x q0 p2))])) _
          refine XS.lloadN XP.here hx rfl (hb hby at_127) rfl ?_
          show Steps p.tables e below (TP.setTop (mkF m 128 #[.val (.long q0), .second, .val (.long q1), .second, .val (.int p2), .val (.int (p2 &&& (7 : Int32))), .val (.long (q0 &&& (9223372036854775807 : Int64))), .second, .val (.long (own_x q0 p2)), .second, .unset, .unset] [(.long q1), (.long (own_x q0 p2))])) _
          refine st1 _ ?_
          show Steps p.tables e below (T1.setTop (mkF m 131 #[.val (.long q0), .second, .val (.long q1), .second, .val (.int p2), .val (.int (p2 &&& (7 : Int32))), .val (.long (q0 &&& (9223372036854775807 : Int64))), .second, .val (.long (own_x q0 p2)), .second, .unset, .unset] [(.long (own_e (own_x q0 p2) q1))])) _
          refine XS.lstore X1.here hx rfl (hb hby at_131) rfl (l' := #[.val (.long q0), .second, .val (.long q1), .second, .val (.int p2), .val (.int (p2 &&& (7 : Int32))), .val (.long (q0 &&& (9223372036854775807 : Int64))), .second, .val (.long (own_x q0 p2)), .second, .val (.long (own_e (own_x q0 p2) q1)), .second]) rfl ?_
          show Steps p.tables e below (T1.setTop (mkF m 133 #[.val (.long q0), .second, .val (.long q1), .second, .val (.int p2), .val (.int (p2 &&& (7 : Int32))), .val (.long (q0 &&& (9223372036854775807 : Int64))), .second, .val (.long (own_x q0 p2)), .second, .val (.long (own_e (own_x q0 p2) q1)), .second] [])) _
          refine XS.lload X1.here hx rfl (hb hby at_133) rfl ?_
          show Steps p.tables e below (T1.setTop (mkF m 135 #[.val (.long q0), .second, .val (.long q1), .second, .val (.int p2), .val (.int (p2 &&& (7 : Int32))), .val (.long (q0 &&& (9223372036854775807 : Int64))), .second, .val (.long (own_x q0 p2)), .second, .val (.long (own_e (own_x q0 p2) q1)), .second] [(.long (own_x q0 p2))])) _
          refine XS.lconst X1.here hx rfl (hb hby at_135) ?_
          show Steps p.tables e below (T1.setTop (mkF m 136 #[.val (.long q0), .second, .val (.long q1), .second, .val (.int p2), .val (.int (p2 &&& (7 : Int32))), .val (.long (q0 &&& (9223372036854775807 : Int64))), .second, .val (.long (own_x q0 p2)), .second, .val (.long (own_e (own_x q0 p2) q1)), .second] [(.long (0 : Int64)), (.long (own_x q0 p2))])) _
          refine XS.lcmp X1.here hx rfl (hb hby at_136) rfl ?_
          show Steps p.tables e below (T1.setTop (mkF m 137 #[.val (.long q0), .second, .val (.long q1), .second, .val (.int p2), .val (.int (p2 &&& (7 : Int32))), .val (.long (q0 &&& (9223372036854775807 : Int64))), .second, .val (.long (own_x q0 p2)), .second, .val (.long (own_e (own_x q0 p2) q1)), .second] [(.int (lcmpW (own_x q0 p2) (0 : Int64)))])) _
          refine XS.ifYes X1.here hx rfl (pc0 := 137) (pc' := 155) rfl (hb hby at_137) rfl ((if0 _ _).trans (feq (fun q => hc137 ((lw_eq _ _).mp q))).2) (by decide) (by decide) ?_
          show Steps p.tables e below (T1.setTop (mkF m 155 #[.val (.long q0), .second, .val (.long q1), .second, .val (.int p2), .val (.int (p2 &&& (7 : Int32))), .val (.long (q0 &&& (9223372036854775807 : Int64))), .second, .val (.long (own_x q0 p2)), .second, .val (.long (own_e (own_x q0 p2) q1)), .second] [])) _
          refine XS.lload X1.here hx rfl (hb hby at_155) rfl ?_
          show Steps p.tables e below (T1.setTop (mkF m 157 #[.val (.long q0), .second, .val (.long q1), .second, .val (.int p2), .val (.int (p2 &&& (7 : Int32))), .val (.long (q0 &&& (9223372036854775807 : Int64))), .second, .val (.long (own_x q0 p2)), .second, .val (.long (own_e (own_x q0 p2) q1)), .second] [(.long (own_x q0 p2))])) _
          refine XS.lconst X1.here hx rfl (hb hby at_157) ?_
          show Steps p.tables e below (T1.setTop (mkF m 158 #[.val (.long q0), .second, .val (.long q1), .second, .val (.int p2), .val (.int (p2 &&& (7 : Int32))), .val (.long (q0 &&& (9223372036854775807 : Int64))), .second, .val (.long (own_x q0 p2)), .second, .val (.long (own_e (own_x q0 p2) q1)), .second] [(.long (0 : Int64)), (.long (own_x q0 p2))])) _
          refine XS.lcmp X1.here hx rfl (hb hby at_158) rfl ?_
          show Steps p.tables e below (T1.setTop (mkF m 159 #[.val (.long q0), .second, .val (.long q1), .second, .val (.int p2), .val (.int (p2 &&& (7 : Int32))), .val (.long (q0 &&& (9223372036854775807 : Int64))), .second, .val (.long (own_x q0 p2)), .second, .val (.long (own_e (own_x q0 p2) q1)), .second] [(.int (lcmpW (own_x q0 p2) (0 : Int64)))])) _
          refine XS.ifYes X1.here hx rfl (pc0 := 159) (pc' := 177) rfl (hb hby at_159) rfl ((if0 _ _).trans (flt (fun q => hc159 ((lw_lt _ _).mp q))).2.1) (by decide) (by decide) ?_
          show Steps p.tables e below (T1.setTop (mkF m 177 #[.val (.long q0), .second, .val (.long q1), .second, .val (.int p2), .val (.int (p2 &&& (7 : Int32))), .val (.long (q0 &&& (9223372036854775807 : Int64))), .second, .val (.long (own_x q0 p2)), .second, .val (.long (own_e (own_x q0 p2) q1)), .second] [])) _
          refine XS.lload X1.here hx rfl (hb hby at_177) rfl ?_
          show Steps p.tables e below (T1.setTop (mkF m 179 #[.val (.long q0), .second, .val (.long q1), .second, .val (.int p2), .val (.int (p2 &&& (7 : Int32))), .val (.long (q0 &&& (9223372036854775807 : Int64))), .second, .val (.long (own_x q0 p2)), .second, .val (.long (own_e (own_x q0 p2) q1)), .second] [(.long (own_x q0 p2))])) _
          refine X1.ldc2Long hx hown (mvT hZ (hw _ (List.mem_of_getElem? (i := 8) rfl))) (g := (mkF m 179 #[.val (.long q0), .second, .val (.long q1), .second, .val (.int p2), .val (.int (p2 &&& (7 : Int32))), .val (.long (q0 &&& (9223372036854775807 : Int64))), .second, .val (.long (own_x q0 p2)), .second, .val (.long (own_e (own_x q0 p2) q1)), .second] [(.long (own_x q0 p2))])) rfl (hb hby at_179) _ ?_
          show Steps p.tables e below (T1.setTop (mkF m 182 #[.val (.long q0), .second, .val (.long q1), .second, .val (.int p2), .val (.int (p2 &&& (7 : Int32))), .val (.long (q0 &&& (9223372036854775807 : Int64))), .second, .val (.long (own_x q0 p2)), .second, .val (.long (own_e (own_x q0 p2) q1)), .second] [(.long (2592000 : Int64)), (.long (own_x q0 p2))])) _
          refine XS.lcmp X1.here hx rfl (hb hby at_182) rfl ?_
          show Steps p.tables e below (T1.setTop (mkF m 183 #[.val (.long q0), .second, .val (.long q1), .second, .val (.int p2), .val (.int (p2 &&& (7 : Int32))), .val (.long (q0 &&& (9223372036854775807 : Int64))), .second, .val (.long (own_x q0 p2)), .second, .val (.long (own_e (own_x q0 p2) q1)), .second] [(.int (lcmpW (own_x q0 p2) (2592000 : Int64)))])) _
          refine XS.ifNo X1.here hx rfl (hb hby at_183) rfl ((if0 _ _).trans (flt (fun q => hc183 ((lw_gt _ _).mp q))).2.2.1) ?_
          show Steps p.tables e below (T1.setTop (mkF m 186 #[.val (.long q0), .second, .val (.long q1), .second, .val (.int p2), .val (.int (p2 &&& (7 : Int32))), .val (.long (q0 &&& (9223372036854775807 : Int64))), .second, .val (.long (own_x q0 p2)), .second, .val (.long (own_e (own_x q0 p2) q1)), .second] [])) _
          refine XS.lload X1.here hx rfl (hb hby at_186) rfl ?_
          show Steps p.tables e below (T1.setTop (mkF m 188 #[.val (.long q0), .second, .val (.long q1), .second, .val (.int p2), .val (.int (p2 &&& (7 : Int32))), .val (.long (q0 &&& (9223372036854775807 : Int64))), .second, .val (.long (own_x q0 p2)), .second, .val (.long (own_e (own_x q0 p2) q1)), .second] [(.long (own_e (own_x q0 p2) q1))])) _
          refine XS.lloadN X1.here hx rfl (hb hby at_188) rfl ?_
          show Steps p.tables e below (T1.setTop (mkF m 189 #[.val (.long q0), .second, .val (.long q1), .second, .val (.int p2), .val (.int (p2 &&& (7 : Int32))), .val (.long (q0 &&& (9223372036854775807 : Int64))), .second, .val (.long (own_x q0 p2)), .second, .val (.long (own_e (own_x q0 p2) q1)), .second] [(.long q1), (.long (own_e (own_x q0 p2) q1))])) _
          refine XS.lsub X1.here hx rfl (hb hby at_189) rfl ?_
          show Steps p.tables e below (T1.setTop (mkF m 190 #[.val (.long q0), .second, .val (.long q1), .second, .val (.int p2), .val (.int (p2 &&& (7 : Int32))), .val (.long (q0 &&& (9223372036854775807 : Int64))), .second, .val (.long (own_x q0 p2)), .second, .val (.long (own_e (own_x q0 p2) q1)), .second] [(.long ((own_e (own_x q0 p2) q1) - q1))])) _
          refine XS.lload X1.here hx rfl (hb hby at_190) rfl ?_
          show Steps p.tables e below (T1.setTop (mkF m 192 #[.val (.long q0), .second, .val (.long q1), .second, .val (.int p2), .val (.int (p2 &&& (7 : Int32))), .val (.long (q0 &&& (9223372036854775807 : Int64))), .second, .val (.long (own_x q0 p2)), .second, .val (.long (own_e (own_x q0 p2) q1)), .second] [(.long (own_x q0 p2)), (.long ((own_e (own_x q0 p2) q1) - q1))])) _
          refine X1.ldc2Long hx hown (mvT hZ (hw _ (List.mem_of_getElem? (i := 9) rfl))) (g := (mkF m 192 #[.val (.long q0), .second, .val (.long q1), .second, .val (.int p2), .val (.int (p2 &&& (7 : Int32))), .val (.long (q0 &&& (9223372036854775807 : Int64))), .second, .val (.long (own_x q0 p2)), .second, .val (.long (own_e (own_x q0 p2) q1)), .second] [(.long (own_x q0 p2)), (.long ((own_e (own_x q0 p2) q1) - q1))])) rfl (hb hby at_192) _ ?_
          show Steps p.tables e below (T1.setTop (mkF m 195 #[.val (.long q0), .second, .val (.long q1), .second, .val (.int p2), .val (.int (p2 &&& (7 : Int32))), .val (.long (q0 &&& (9223372036854775807 : Int64))), .second, .val (.long (own_x q0 p2)), .second, .val (.long (own_e (own_x q0 p2) q1)), .second] [(.long (1000 : Int64)), (.long (own_x q0 p2)), (.long ((own_e (own_x q0 p2) q1) - q1))])) _
          refine XS.lmul X1.here hx rfl (hb hby at_195) rfl ?_
          show Steps p.tables e below (T1.setTop (mkF m 196 #[.val (.long q0), .second, .val (.long q1), .second, .val (.int p2), .val (.int (p2 &&& (7 : Int32))), .val (.long (q0 &&& (9223372036854775807 : Int64))), .second, .val (.long (own_x q0 p2)), .second, .val (.long (own_e (own_x q0 p2) q1)), .second] [(.long ((own_x q0 p2) * (1000 : Int64))), (.long ((own_e (own_x q0 p2) q1) - q1))])) _
          refine XS.lcmp X1.here hx rfl (hb hby at_196) rfl ?_
          show Steps p.tables e below (T1.setTop (mkF m 197 #[.val (.long q0), .second, .val (.long q1), .second, .val (.int p2), .val (.int (p2 &&& (7 : Int32))), .val (.long (q0 &&& (9223372036854775807 : Int64))), .second, .val (.long (own_x q0 p2)), .second, .val (.long (own_e (own_x q0 p2) q1)), .second] [(.int (lcmpW ((own_e (own_x q0 p2) q1) - q1) ((own_x q0 p2) * (1000 : Int64))))])) _
          refine XS.ifNo X1.here hx rfl (hb hby at_197) rfl ((if0 _ _).trans (teq ((lw_eq _ _).mpr (own_e2 _ hc137 hc159 hc183))).2) ?_
          show Steps p.tables e below (T1.setTop (mkF m 200 #[.val (.long q0), .second, .val (.long q1), .second, .val (.int p2), .val (.int (p2 &&& (7 : Int32))), .val (.long (q0 &&& (9223372036854775807 : Int64))), .second, .val (.long (own_x q0 p2)), .second, .val (.long (own_e (own_x q0 p2) q1)), .second] [])) _
          refine XS.iconst X1.here hx rfl (hb hby at_200) ?_
          show Steps p.tables e below (T1.setTop (mkF m 201 #[.val (.long q0), .second, .val (.long q1), .second, .val (.int p2), .val (.int (p2 &&& (7 : Int32))), .val (.long (q0 &&& (9223372036854775807 : Int64))), .second, .val (.long (own_x q0 p2)), .second, .val (.long (own_e (own_x q0 p2) q1)), .second] [(.int (1 : Int32))])) _
          refine XS.goto X1.here hx rfl (pc0 := 201) (pc' := 205) rfl (hb hby at_201) (by decide) (by decide) ?_
          show Steps p.tables e below (T1.setTop (mkF m 205 #[.val (.long q0), .second, .val (.long q1), .second, .val (.int p2), .val (.int (p2 &&& (7 : Int32))), .val (.long (q0 &&& (9223372036854775807 : Int64))), .second, .val (.long (own_x q0 p2)), .second, .val (.long (own_e (own_x q0 p2) q1)), .second] [(.int (1 : Int32))])) _
          exact retN X1 hx (t := .boolean) Bd.returns (by simp) (hb hby at_205) hr
        · show Q0 Z q0 q1 p2 h0 n0 _ T1.heap _
          rw [e1]
          exact ⟨rfl, N1⟩
set_option maxRecDepth 65536 in
set_option maxHeartbeats 40000000 in
theorem comes_1 {Post : Tables → Env → Array Value → State → Outcome → State → Prop} (hpost : ∀ tb e args s v u, (limb_1_1.after args s (.returned v) u = true ∧ limb_1_2.after args s (.returned v) u = true ∧ True) → FrameEnd s (.returned v) u (Jvm.fieldLocs frame_1_writes args s ++ Jvm.arrayLocs frame_1_arrays args s ++ Jvm.staticLocs frame_1_statics s) 0 0 → Post tb e args s (.returned v) u) :
    ArmFor flags0 classFile x code maxLocals ret World_1 tables_1 room_1 Calls_1 rest_1 Pre_1 Post := by
  intro l hfl _ _ p e ha hc hk s m args below hf hA hF happ hP
  obtain ⟨hcalls, hrest, hpre⟩ := hP
  obtain ⟨-, -, -, hnamed, -, -, -, hat⟩ := (Spec.applies_iff hf).mp happ
  obtain ⟨hg, hn⟩ := and_e (Cond.before_iff.mp (show (Jvm.Cond.and given_1 narrow_1).before args s = true from hpre))
  obtain ⟨gc, g0⟩ := and_e hg
  obtain ⟨ga0, g1⟩ := and_e g0
  obtain ⟨ga1, g2⟩ := and_e g1
  obtain ⟨w0, w1, w2, rfl⟩ : ∃ w0 w1 w2 : Value, args = #[w0, w1, w2] := by
    have hs : args.size = 3 := by simpa [Cond.value, given_1] using gc
    obtain ⟨L⟩ := args
    match L, hs with
    | [w0, w1, w2], _ => exact ⟨w0, w1, w2, rfl⟩
  have hw := fun d (hd : d ∈ tables_1) => atoms_spec (ws := Jvm.Cond.code x code maxLocals ret :: tables_1) hat d (List.mem_cons_of_mem _ hd)
  obtain ⟨i0, ei0⟩ := isL_v ga0
  obtain rfl : w0 = (.long i0) := Option.some.inj ei0
  obtain ⟨i1, ei1⟩ := isL_v ga1
  obtain rfl : w1 = (.long i1) := Option.some.inj ei1
  obtain ⟨i2, ei2⟩ := is_v g2
  obtain rfl : w2 = (.int i2) := Option.some.inj ei2
  obtain ⟨n, o, h1, h2, h3, _, L, rfl, ⟨rfl, N⟩, hq⟩ := rm0 l s _ hw tables_1 i0 i1 i2  s.heap s.heap.size (Nat.le_refl _)  p e ha hc hk s m _ below hf ((Spec.applies_iff_loose hf).mp happ).1 ⟨rfl, State.Warmed39.refl s, rfl⟩ trivial
  refine ⟨n, _, h1, h2, h3, hpost _ _ _ _ _ _ ⟨Cond.after_iff.mpr rfl, Cond.after_iff.mpr (eq_i res_at (Term.int_eval (1)) rfl), trivial⟩ ⟨hq.1, hq.2.1, (hq.2.2.sift fun y hy => Or.inr (N y hy)).mono (by decide) (by decide)⟩⟩
theorem main_1_1 : Claimed_1_1 := comes_1 fun _ _ _ _ _ _ h hF => ⟨h.1, hF⟩
theorem main_1_2 : Claimed_1_2 := comes_1 fun _ _ _ _ _ _ h hF => ⟨h.2.1, hF⟩
end Jvm.Pilot.@@N@@
namespace Jvm.Pilot.@@N@@
open Jvm Jvm.ClassFile Sem Op Lib Jvm.Free Jvm.Stand Jvm.Pilot.@@N@@.Jvm.D
/-! MADE BY PROGRAM (witnessworld.py) out of the Statement's table words and the real class files: 9 classes; the members and pool entries that the words name. The judged class is class 1, her method 2. -/
namespace start1
open Jvm.ClassFile
def u (s : String) : CpInfo := .utf8 (stringToUtf16 s)
/-- a pool by its gaps: so many unusable entries, then the entry; so many at the end -/
def gap : Nat → List CpInfo → List CpInfo
  | 0, r => r
  | n + 1, r => .unusable :: gap n r
def poolList (es : List (Nat × CpInfo)) (last : Nat) : List CpInfo := es.foldr (fun e r => gap e.1 (e.2 :: r)) (gap last [])
def pool (es : List (Nat × CpInfo)) (last : Nat) : Array CpInfo := ⟨poolList es last⟩
def fileOf (pool : Array CpInfo) (this : Nat) (attrs : Array Attribute := #[]) (ms : Array MethodInfo := #[]) (fl : Nat := 33) (sup : Nat := 0) (ifs : Array Nat := #[]) (fds : Array FieldInfo := #[]) : ClassFile where
  minorVersion := 0
  majorVersion := 65
  constantPool := pool
  accessFlags := fl
  thisClass := this
  superClass := sup
  interfaces := ifs
  fields := fds
  methods := ms
  attributes := attrs
def plain (name : String) (sup : Option ClassId) : Class where
  name := name
  kind := .ordinary
  loader := none
  accessFlags := 33
  super := sup
  interfaces := #[]
  cf := none
  fields := #[]
  methods := #[]
  instanceTypes := #[]
  staticTypes := #[]
  resolved := #[]
  callSites := []
  init := .initialized
  statics := none
  mirror := none

def pool0 : Array CpInfo := pool [(5, u "<init>"), (0, u "()V"), (1, .class_ 10), (1, u "java/lang/Object")] 113

def k0m0 : Method := { name := "<init>", desc := "()V", sig := { parameters := [], returnType := none }, accessFlags := 1, code := none }
/-- java/lang/Object -/
def k0 : Class := { plain "java/lang/Object" none with
  accessFlags := 33
  interfaces := #[]
  cf := some (fileOf pool0 8 #[] #[{ accessFlags := 1, nameIndex := 5, descriptorIndex := 6, attributes := #[] }] 33 0 #[] #[])
  fields := #[]
  methods := #[k0m0]
  instanceTypes := #[]
  staticTypes := #[]
  resolved := Array.replicate 124 none
  statics := none }

def pool1 : Array CpInfo := pool [(2, .class_ 4), (1, u "java/lang/Object"), (0, u "<init>"), (0, u "()V"), (0, .class_ 8), (0, u "com/example/nookd/nookd/store/ExpiryExpiresAtPinLaw"), (0, .long 2592000), (1, .long 2592001), (1, .long 9223372036854775), (1, .long 9223372036854776), (1, .long 18446744073709551615), (3, .long 9223372036854775807), (1, .long 9223372036854775808), (1, .long 7), (1, .methodref 7 28), (0, .nameAndType 29 30), (0, u "boundary"), (0, u "(I)J"), (0, .long 9223372034262775), (1, .long 9214148664817921032), (1, .methodref 36 37), (0, .class_ 38), (0, .nameAndType 39 40), (0, u "com/example/nookd/nookd/store/Expiry"), (0, u "expiresAt"), (0, u "(JJ)J"), (0, .long 1000), (1, u "REL"), (0, u "J"), (1, u "LIM"), (3, u "law"), (0, u "(JJI)Z")] 2

def k1m0 : Method := { name := "<init>", desc := "()V", sig := { parameters := [], returnType := none }, accessFlags := 1, code := none }
def k1c1 : Code := { maxStack := 2, maxLocals := 1, code := method_2_code, exceptionTable := #[], attributes := #[] }
def k1m1 : Method := { name := "boundary", desc := "(I)J", sig := { parameters := [.int], returnType := some .long }, accessFlags := 10, code := some k1c1 }
def k1c2 : Code := { maxStack := 6, maxLocals := 12, code := code, exceptionTable := #[], attributes := #[] }
def k1m2 : Method := { name := "law", desc := "(JJI)Z", sig := { parameters := [.long, .long, .int], returnType := some .boolean }, accessFlags := 9, code := some k1c2 }
/-- com/example/nookd/nookd/store/ExpiryExpiresAtPinLaw -/
def k1 : Class := { plain "com/example/nookd/nookd/store/ExpiryExpiresAtPinLaw" (some 0) with
  accessFlags := 49
  interfaces := #[]
  cf := some (fileOf pool1 7 #[] #[{ accessFlags := 1, nameIndex := 5, descriptorIndex := 6, attributes := #[] }, { accessFlags := 10, nameIndex := 29, descriptorIndex := 30, attributes := #[] }, { accessFlags := 9, nameIndex := 50, descriptorIndex := 51, attributes := #[] }] 49 2 #[] #[{ accessFlags := 26, nameIndex := 43, descriptorIndex := 44, attributes := #[] }, { accessFlags := 26, nameIndex := 46, descriptorIndex := 44, attributes := #[] }])
  fields := #[{ name := "REL", type := .long, accessFlags := 26, slot := 0, constantValue := 0 }, { name := "LIM", type := .long, accessFlags := 26, slot := 1, constantValue := 0 }]
  methods := #[k1m0, k1m1, k1m2]
  instanceTypes := #[]
  staticTypes := #[.long, .long]
  resolved := Array.replicate 54 none
  statics := none }

def pool2 : Array CpInfo := pool [(4, .class_ 6), (1, u "java/lang/Object"), (0, u "<init>"), (0, u "()V"), (0, .class_ 10), (0, u "com/example/nookd/nookd/store/Expiry"), (0, .long 9223372036854775807), (1, .long 9223372036854775808), (1, .long 2592000), (1, .long 1000), (1, .long 9223372036854775), (3, u "expiresAt"), (0, u "(JJ)J"), (5, u "NEVER"), (0, u "J"), (1, u "MAX_RELATIVE_SECONDS"), (0, u "ALREADY_EXPIRED"), (0, u "MILLIS_PER_SECOND")] 8

def k2m0 : Method := { name := "<init>", desc := "()V", sig := { parameters := [], returnType := none }, accessFlags := 2, code := none }
def k2c1 : Code := { maxStack := 6, maxLocals := 4, code := prog_28_method_2_code, exceptionTable := #[], attributes := #[] }
def k2m1 : Method := { name := "expiresAt", desc := "(JJ)J", sig := { parameters := [.long, .long], returnType := some .long }, accessFlags := 9, code := some k2c1 }
/-- com/example/nookd/nookd/store/Expiry -/
def k2 : Class := { plain "com/example/nookd/nookd/store/Expiry" (some 0) with
  accessFlags := 49
  interfaces := #[]
  cf := some (fileOf pool2 9 #[] #[{ accessFlags := 2, nameIndex := 7, descriptorIndex := 8, attributes := #[] }, { accessFlags := 9, nameIndex := 23, descriptorIndex := 24, attributes := #[] }] 49 4 #[] #[{ accessFlags := 25, nameIndex := 30, descriptorIndex := 31, attributes := #[] }, { accessFlags := 25, nameIndex := 33, descriptorIndex := 31, attributes := #[] }, { accessFlags := 26, nameIndex := 34, descriptorIndex := 31, attributes := #[] }, { accessFlags := 26, nameIndex := 35, descriptorIndex := 31, attributes := #[] }])
  fields := #[{ name := "NEVER", type := .long, accessFlags := 25, slot := 0, constantValue := 0 }, { name := "MAX_RELATIVE_SECONDS", type := .long, accessFlags := 25, slot := 1, constantValue := 0 }, { name := "ALREADY_EXPIRED", type := .long, accessFlags := 26, slot := 2, constantValue := 0 }, { name := "MILLIS_PER_SECOND", type := .long, accessFlags := 26, slot := 3, constantValue := 0 }]
  methods := #[k2m0, k2m1]
  instanceTypes := #[]
  staticTypes := #[.long, .long, .long, .long]
  resolved := Array.replicate 44 none
  statics := none }

def pool3 : Array CpInfo := pool [(1, u "java/lang/Cloneable"), (0, .class_ 1), (0, u "java/lang/Object"), (0, .class_ 3)] 3

/-- java/lang/Cloneable -/
def k3 : Class := { plain "java/lang/Cloneable" (some 0) with
  accessFlags := 1537
  interfaces := #[]
  cf := some (fileOf pool3 2 #[] #[] 1537 4 #[] #[])
  fields := #[]
  methods := #[]
  instanceTypes := #[]
  staticTypes := #[]
  resolved := Array.replicate 8 none
  statics := none }

def pool4 : Array CpInfo := pool [(1, u "java/io/Serializable"), (0, .class_ 1), (0, u "java/lang/Object"), (0, .class_ 3)] 3

/-- java/io/Serializable -/
def k4 : Class := { plain "java/io/Serializable" (some 0) with
  accessFlags := 1537
  interfaces := #[]
  cf := some (fileOf pool4 2 #[] #[] 1537 4 #[] #[])
  fields := #[]
  methods := #[]
  instanceTypes := #[]
  staticTypes := #[]
  resolved := Array.replicate 8 none
  statics := none }

/-- the primitive byte -/
def k5 : Class := { plain "byte" none with kind := .primitive 'B', accessFlags := 0x411 }
/-- [B -/
def k6 : Class := { plain "[B" (some 0) with kind := .array 5 .byte, interfaces := #[3, 4], accessFlags := 1041 }

/-- the primitive int -/
def k7 : Class := { plain "int" none with kind := .primitive 'I', accessFlags := 0x411 }
/-- [I -/
def k8 : Class := { plain "[I" (some 0) with kind := .array 7 .int, interfaces := #[3, 4], accessFlags := 1041 }

def heap : Heap := #[]
def classes : Array Class := #[k0, k1, k2, k3, k4, k5, k6, k7, k8]
def interned : List (Array UInt16 × Addr) := []
def slotsUsed : Nat := 0
def theMethod : MethodId := ⟨1, 2⟩
def args0 : Array Value := #[.long 5, .long 7, .int 2]
def aboutOver (below : List Frame) : State where
  vm := { classes := classes, interned := interned.toArray }
  heap := heap
  slotsUsed := slotsUsed
  threads := #[{ frames := .invoking theMethod args0 :: below }]
def below0 : List Frame := [.native { method := ⟨0, 0⟩, args := #[] }]
def about1 : State := aboutOver below0
def p0 : Program := .bare "" "" ""
def e0 : Env := launch0.env 0 0 0
theorem w_frames : about1.frames = Frame.invoking theMethod args0 :: below0 := rfl
set_option maxRecDepth 65536 in
theorem w_args : argsFit about1.vm theMethod args0 = true := by decide +kernel
set_option maxRecDepth 65536 in
theorem w_heap : heapFits about1 = true := by decide +kernel
set_option maxRecDepth 65536 in
theorem w_runnable : about1.curStatus? = some .runnable := by decide +kernel
set_option maxRecDepth 65536 in
theorem w_alone : about1.alone = true := by decide +kernel
set_option maxRecDepth 65536 in
theorem w_named : about1.methodNamed? x = some theMethod := by decide +kernel
set_option maxRecDepth 65536 in
theorem w_hears : about1.hears theMethod below0 = true := by decide +kernel
set_option maxRecDepth 65536 in
theorem w_ripe : about1.ripe theMethod args0 below0 = true := by decide +kernel
theorem w_running : about1.status = .running := rfl
set_option maxRecDepth 65536 in
theorem w_room : about1.hasRoom e0.platform room_1 = true :=
  launch0.hasRoom_least _ room_1 (by decide +kernel) (by decide +kernel) (by decide +kernel) (by decide +kernel) (by decide +kernel) (by decide +kernel)
theorem allAtoms_all (ts : List Jvm.Cond) (a : Array Jvm.Value) (st : Jvm.State) : (allAtoms ts).before a st = ts.all (fun c => c.before a st) := by
  induction ts with
  | nil => rfl
  | cons c t ih =>
    show (Jvm.Cond.and c (allAtoms t)).before a st = _
    rw [Jvm.Cond.before_and, ih, List.all_cons]
def words1 : List Jvm.Cond := Jvm.Cond.code x code maxLocals ret :: tables_1
/-- a 'code' word, met by the world's own term for the bytes: nothing is compared byte by byte -/
theorem code_word {y : MethodName} {bytes : ByteArray} {mx : Nat} {rt : Option FieldType} {a : Array Value} {s : State} {m : MethodId} {meth : Method} {c : Code} (h1 : s.methodNamed? y = some m) (h2 : s.vm.method? m = some meth) (h3 : meth.code = some c) (h4 : c.code = bytes)
    (h5 : (c.maxLocals == mx && c.exceptionTable.isEmpty && decide (c.maxStack ≤ mostOperands) && decide (meth.sig.returnType = rt) && !meth.locks && decide (parseMethodDescriptor y.desc = some meth.sig)) = true) : (Jvm.Cond.code y bytes mx rt).before a s = true := by
  simp only [Bool.and_eq_true, beq_iff_eq, Bool.not_eq_true', decide_eq_true_eq] at h5
  obtain ⟨⟨⟨⟨⟨g1, g2⟩, g3⟩, g4⟩, g5⟩, g6⟩ := h5
  simp [Cond.before, Cond.holds, Cond.value, h1, h2, h3, h4, g1, g2, g3, g4, g5, g6]
def isCode : Jvm.Cond → Bool
  | .code _ _ _ _ => true
  | _ => false
theorem all_split {L : List Jvm.Cond} {P : Jvm.Cond → Bool} (h1 : L.all (fun c => isCode c || P c) = true) (h2 : ∀ c ∈ L.filter isCode, P c = true) : L.all P = true := by
  refine List.all_eq_true.mpr fun c hc => ?_
  have h := List.all_eq_true.mp h1 c hc
  rcases Bool.eq_false_or_eq_true (isCode c) with hi | hi
  · exact h2 c (List.mem_filter.mpr ⟨hc, hi⟩)
  · simpa [hi] using h
set_option maxRecDepth 65536 in
theorem w_c0 : (Jvm.Cond.code x code maxLocals ret).before args0 about1 = true := code_word (m := ⟨1, 2⟩) (meth := k1m2) (c := k1c2) (by decide +kernel) rfl rfl rfl (by decide +kernel)
set_option maxRecDepth 65536 in
theorem w_c1 : (Jvm.Cond.code ({ cls := "com/example/nookd/nookd/store/Expiry", name := "expiresAt", desc := "(JJ)J" } : Jvm.MethodName) prog_28_method_2_code (4 : Nat) (Option.some Jvm.ClassFile.FieldType.long)).before args0 about1 = true := code_word (m := ⟨2, 1⟩) (meth := k2m1) (c := k2c1) (by decide +kernel) rfl rfl rfl (by decide +kernel)
set_option maxRecDepth 65536 in
theorem w_c2 : (Jvm.Cond.code ({ cls := "com/example/nookd/nookd/store/ExpiryExpiresAtPinLaw", name := "boundary", desc := "(I)J" } : Jvm.MethodName) method_2_code (1 : Nat) (Option.some Jvm.ClassFile.FieldType.long)).before args0 about1 = true := code_word (m := ⟨1, 1⟩) (meth := k1m1) (c := k1c1) (by decide +kernel) rfl rfl rfl (by decide +kernel)
def codes1 : List Jvm.Cond := [Jvm.Cond.code x code maxLocals ret, Jvm.Cond.code ({ cls := "com/example/nookd/nookd/store/Expiry", name := "expiresAt", desc := "(JJ)J" } : Jvm.MethodName) prog_28_method_2_code (4 : Nat) (Option.some Jvm.ClassFile.FieldType.long), Jvm.Cond.code ({ cls := "com/example/nookd/nookd/store/ExpiryExpiresAtPinLaw", name := "boundary", desc := "(I)J" } : Jvm.MethodName) method_2_code (1 : Nat) (Option.some Jvm.ClassFile.FieldType.long)]
set_option maxRecDepth 65536 in
theorem codes_eq : words1.filter isCode = codes1 := rfl
theorem w_codes : ∀ c ∈ words1.filter isCode, c.before args0 about1 = true := by
  rw [codes_eq]
  intro c hc
  simp only [codes1, List.mem_cons, List.not_mem_nil, or_false] at hc
  rcases hc with rfl | rfl | rfl
  · exact w_c0
  · exact w_c1
  · exact w_c2
set_option maxRecDepth 65536 in
theorem w_t1 : (words1.take 24).all (fun c => isCode c || c.before args0 about1) = true := by decide +kernel
set_option maxRecDepth 65536 in
theorem w_t2 : (words1.drop 24).all (fun c => isCode c || c.before args0 about1) = true := by decide +kernel
theorem w_tables : (allAtoms (Jvm.Cond.code x code maxLocals ret :: tables_1)).before args0 about1 = true := by
  rw [allAtoms_all]
  show words1.all (fun c => c.before args0 about1) = true
  refine all_split ?_ w_codes
  rw [← List.take_append_drop 24 words1, List.all_append, w_t1, w_t2]
  rfl
set_option maxRecDepth 65536 in
theorem w_case : (Jvm.Cond.and given_1 narrow_1).before args0 about1 = true := by decide +kernel
theorem w_applies : (headSpec (Jvm.Cond.code x code maxLocals ret :: tables_1) room_1).applies x e0.platform about1 = true :=
  (Spec.applies_iff w_frames).mpr ⟨w_running, w_runnable, w_alone, w_named, w_hears, w_ripe, w_room, w_tables⟩
theorem atStart : AtStart classFile x code maxLocals ret World_1 tables_1 room_1 Calls_1 rest_1 Pre_1 launch0 p0 e0 about1 theMethod args0 below0 :=
  ⟨lists_1, trivial, launch0.admits_env _ _ _, launch0.least_env, fairChoices_fair.cas, fairChoices_fair.clock, w_frames, w_args, w_heap, w_applies, trivial, trivial, w_case⟩
end start1
theorem witness_1 : WitnessClaimed_1 := ⟨start1.p0, start1.e0, start1.about1, start1.theMethod, start1.args0, start1.below0, start1.atStart⟩
end Jvm.Pilot.@@N@@
