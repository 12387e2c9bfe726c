import JvmDerived
import JvmDerived.Pilot.@@N@@Statement
import JvmDerived.Pilot.@@N@@Code
set_option linter.unusedVariables false
set_option linter.unusedSimpArgs false
@@BLOCK:NumsL.lean.txt@@
namespace Jvm.RoadKit
open Sem ClassFile Op Lib Jvm.Stand Jvm.Free Jvm.LawKit
section New
variable {p : Program} {l : Launch} {e : Env} {R : Room} {s : State} {m : MethodId} {args : Array Value} {below : List Frame} {meth : Method} {c : Code} {T : State} {locs : List Loc} {cells slots : Nat}
theorem retI (X : Stand p l e R s m args below meth c T locs cells slots) (hx : p.tables.exec = Jvm.exec) {pc : Nat} {Ls : Array Slot} {z : Int32} {rest : List Value} (hret : meth.sig.returnType = some .int) (hd : decode c.code pc = .ok (.ireturn, 1)) {fs : List Frame}
    (hl : ∀ (f : JFrame) (acts : List Action), f.method = m → f.locked = none → f.entered = [] → (doReturn e (T.setTop f) acts (some (.int z))).1 = T.setFrames fs) : Steps p.tables e below (T.setTop (mkF m pc Ls (.int z :: rest))) (T.setFrames fs) := by
  have hm' : T.vm.method? m = some meth := X.method'
  have hn : narrow .int (.int z) = .int z := rfl
  show Steps p.tables e below (T.setTop { method := m, pc := pc, locals := Ls, stack := _ :: rest, locked := none }) _
  jvm_step X.here [X.here.top, hx, hd, hm', hret, hn]
  first | (intro acts; rw [hl _ acts rfl rfl rfl]) | rw [hl _ _ rfl rfl rfl]
  exact Steps.refl _
end New
end Jvm.RoadKit
namespace Jvm.Pilot.@@N@@
open Jvm Jvm.ClassFile Sem Op Lib Jvm.Free Jvm.Stand Jvm.LawKit Jvm.RoadKit Bundle Jvm.Pilot.@@N@@.Jvm.D

/-! the plain law -/
def own_b (x : Int64) (i : Int32) : Int32 := (((((x.toUInt64 >>> (((8 : Int32) * i) &&& 0x3f).toInt64.toUInt64).toInt64)).toInt32)).toInt8.toInt32
theorem own_nb (x : Int64) (i : Int32) : nar .byte (own_b x i) = own_b x i := by
  show (own_b x i).toInt8.toInt32 = own_b x i
  rw [own_b]; generalize (((x.toUInt64 >>> (((8 : Int32) * i) &&& 0x3f).toInt64.toUInt64).toInt64)).toInt32 = y
  simp
def own_mn (a b : Int32) : Int32 := if b < a then b else a
def own_n (s : Int32) : Int32 := ((s &&& (2147483647 : Int32)) - ((s &&& (2147483647 : Int32)) / (6 : Int32)) * (6 : Int32))
theorem own_nI (s : Int32) : own_n s = (0 : Int32) ∨ own_n s = (1 : Int32) ∨ own_n s = (2 : Int32) ∨ own_n s = (3 : Int32) ∨ own_n s = (4 : Int32) ∨ own_n s = (5 : Int32) := by
  have e2 : (6 : Int32).toInt = 6 := by decide
  have m : (s &&& (2147483647 : Int32)).toInt = s.toInt % 2 ^ 31 := Jvm.Kit.i32_mask s _ (k := 31) (by decide) (by decide)
  have c0 : (0 : Int32).toInt = 0 := by decide
  have c1 : (1 : Int32).toInt = 1 := by decide
  have c2 : (2 : Int32).toInt = 2 := by decide
  have c3 : (3 : Int32).toInt = 3 := by decide
  have c4 : (4 : Int32).toInt = 4 := by decide
  have c5 : (5 : Int32).toInt = 5 := by decide
  rw [own_n]
  generalize (s &&& (2147483647 : Int32)) = y at *
  have d : (y / (6 : Int32)).toInt = y.toInt / 6 := by
    rw [Jvm.Kit.i32_div (by rw [e2]; omega), e2, Int.tdiv_eq_ediv_of_nonneg (by omega)]
  have p : ((y / (6 : Int32)) * (6 : Int32)).toInt = y.toInt / 6 * 6 := by rw [Jvm.Kit.i32_mul (by rw [d, e2]; omega) (by rw [d, e2]; omega), d, e2]
  have q : (y - (y / (6 : Int32)) * (6 : Int32)).toInt = y.toInt - y.toInt / 6 * 6 := by rw [Jvm.Kit.i32_sub (by rw [p]; omega) (by rw [p]; omega), p]
  rw [← Int32.toInt_inj, ← Int32.toInt_inj, ← Int32.toInt_inj, ← Int32.toInt_inj, ← Int32.toInt_inj, ← Int32.toInt_inj, q, c0, c1, c2, c3, c4, c5]
  omega

theorem ef_6 (m : MethodId) (x0 : Int64) (x1 : Int32) : entryFrame m #[(.long x0), (.int x1)] 3 = mkF m 0 #[.val (.long x0), .second, .val (.int x1)] [] := by first | (simp [entryFrame, mkF, argsToLocals, Value.category]; done) | rfl
theorem pn_com_example_usrset_usrset_store_KeyPastTuplesOfPinLaw : plainName "com/example/usrset/usrset/store/KeyPastTuplesOfPinLaw" = true := by first | (simp [plainName, overriddenIn]; done) | decide +kernel
theorem d6_0 : decode method_3_code 0 = .ok (.lload_n 0, 1) := by decide +kernel
theorem d6_1 : decode method_3_code 1 = .ok (.bipush 8, 2) := by decide +kernel
theorem d6_3 : decode method_3_code 3 = .ok (.iload_n 2, 1) := by decide +kernel
theorem d6_4 : decode method_3_code 4 = .ok (.imul, 1) := by decide +kernel
theorem d6_5 : decode method_3_code 5 = .ok (.lushr, 1) := by decide +kernel
theorem d6_6 : decode method_3_code 6 = .ok (.l2i, 1) := by decide +kernel
theorem d6_7 : decode method_3_code 7 = .ok (.i2b, 1) := by decide +kernel
theorem d6_8 : decode method_3_code 8 = .ok (.ireturn, 1) := by decide +kernel
def Q6 (Z : State) (q0 : Int64) (p1 : Int32) (h0 : Heap) (n0 : Nat) (v : Option Value) (h : Heap) (L : List Loc) : Prop := v = some (.int (own_b q0 p1)) ∧ Fr n0 L ∧ h = h0
set_option maxRecDepth 65536 in
set_option maxHeartbeats 40000000 in
theorem rm6 (l : Launch) (Z : State) (a0 : Array Value) (hw : ∀ d ∈ tables_1, d.before a0 Z = true) (ws : List Jvm.Cond) (q0 : Int64) (p1 : Int32) (h0 : Heap) (n0 : Nat) (Z0 : n0 ≤ h0.size)  :
    MetFree l (⟨"com/example/usrset/usrset/store/KeyPastTuplesOfPinLaw", "b", "(JI)B"⟩ : MethodName) (head1 (Jvm.Cond.code (⟨"com/example/usrset/usrset/store/KeyPastTuplesOfPinLaw", "b", "(JI)B"⟩ : MethodName) method_3_code 3 (some .byte) :: ws) ({ frames := 0, cells := 0, slots := 0, locals := 0 } : Room)) (fun a U => a = #[(.long q0), (.int p1)] ∧ Z.Warmed39 U.vm ∧ U.heap = h0) (fun _ _ _ _ _ => True) (fun _ U o U' => ∃ v L, o = .returned v ∧ Q6 Z q0 p1 h0 n0 v U'.heap L ∧ FrameEnd U o U' L ({ frames := 0, cells := 0, slots := 0, locals := 0 } : Room).cells ({ frames := 0, cells := 0, slots := 0, locals := 0 } : Room).slots) := by
  refine MetFree.of_bodySF (plainFor_of_name pn_com_example_usrset_usrset_store_KeyPastTuplesOfPinLaw) hisR ?_
  intro p e s m args below meth c s₁ Bd hml0 hP hK
  obtain ⟨rfl, hZ, hh⟩ := hP
  have hx := Bd.exec
  have hby := Bd.bytes
  have hml : c.maxLocals = 3 := hml0
  have hown : s.vm.findClass "com/example/usrset/usrset/store/KeyPastTuplesOfPinLaw" = some m.cls := findClass_of_methodNamed Bd.named
  have hnm := (name_of_methodNamed Bd.named Bd.method).1
  have X0 : Stand p l e ({ frames := 0, cells := 0, slots := 0, locals := 0 } : Room) s m #[(.long q0), (.int p1)] below meth c s₁ [] 0 0 := Stand.of_body Bd
  have e0 : s₁.heap = h0 := by rw [← hh, Bd.state]; rfl
  have N0 := Fr.nil n0
  have pre0 : ∀ t, Steps p.tables e below (s₁.setTop (mkF m 0 #[.val (.long q0), .second, .val (.int p1)] [])) t → Steps p.tables e below (s₁.setTop (entryFrame m #[(.long q0), (.int p1)] 3)) t := fun t k => castTop (ef_6 m q0 p1) k
  obtain ⟨fs, hr, hrun, hended, hW, hsame⟩ := X0.leave (v := some (.int (nar .byte ((((q0.toUInt64 >>> (((8 : Int32) * p1) &&& 0x3f).toInt64.toUInt64).toInt64).toInt32).toInt8.toInt32)))) (fun h => by rw [Bd.returns] at h; cases h)
  refine ⟨_, _, pre0 _ ?_, hrun, hended, _, _, rfl, ?_, ⟨_, rfl⟩, hW, hsame.mono (by decide) (by decide)⟩
  · show Steps p.tables e below (s₁.setTop (mkF m 0 #[.val (.long q0), .second, .val (.int p1)] [])) _
    refine XS.lloadN X0.here hx rfl (hb hby d6_0) rfl ?_
    show Steps p.tables e below (s₁.setTop (mkF m 1 #[.val (.long q0), .second, .val (.int p1)] [(.long q0)])) _
    refine XS.bipush X0.here hx rfl (hb hby d6_1) ?_
    show Steps p.tables e below (s₁.setTop (mkF m 3 #[.val (.long q0), .second, .val (.int p1)] [(.int (8 : Int32)), (.long q0)])) _
    refine XS.iloadN X0.here hx rfl (hb hby d6_3) rfl ?_
    show Steps p.tables e below (s₁.setTop (mkF m 4 #[.val (.long q0), .second, .val (.int p1)] [(.int p1), (.int (8 : Int32)), (.long q0)])) _
    refine XS.imul X0.here hx rfl (hb hby d6_4) rfl ?_
    show Steps p.tables e below (s₁.setTop (mkF m 5 #[.val (.long q0), .second, .val (.int p1)] [(.int ((8 : Int32) * p1)), (.long q0)])) _
    refine XS.lushr X0.here hx rfl (hb hby d6_5) rfl ?_
    show Steps p.tables e below (s₁.setTop (mkF m 6 #[.val (.long q0), .second, .val (.int p1)] [(.long ((q0.toUInt64 >>> (((8 : Int32) * p1) &&& 0x3f).toInt64.toUInt64).toInt64))])) _
    refine XS.l2i X0.here hx rfl (hb hby d6_6) rfl ?_
    show Steps p.tables e below (s₁.setTop (mkF m 7 #[.val (.long q0), .second, .val (.int p1)] [(.int (((q0.toUInt64 >>> (((8 : Int32) * p1) &&& 0x3f).toInt64.toUInt64).toInt64).toInt32))])) _
    refine XS.i2b X0.here hx rfl (hb hby d6_7) rfl ?_
    show Steps p.tables e below (s₁.setTop (mkF m 8 #[.val (.long q0), .second, .val (.int p1)] [(.int ((((q0.toUInt64 >>> (((8 : Int32) * p1) &&& 0x3f).toInt64.toUInt64).toInt64).toInt32).toInt8.toInt32))])) _
    exact retN X0 hx (t := .byte) Bd.returns (by simp) (hb hby d6_8) hr
  · show Q6 Z q0 p1 h0 n0 _ s₁.heap _
    rw [e0]
    exact ⟨congrArg (fun z => some (Value.int z)) (own_nb q0 p1), N0, rfl⟩
theorem ef_4 (m : MethodId) (x0 : Int32) (x1 : Int32) : entryFrame m #[(.int x0), (.int x1)] 2 = mkF m 0 #[.val (.int x0), .val (.int x1)] [] := by first | (simp [entryFrame, mkF, argsToLocals, Value.category]; done) | rfl
theorem d4_0 : decode jdk_29_method_69_code 0 = .ok (.iload_n 0, 1) := by decide +kernel
theorem d4_1 : decode jdk_29_method_69_code 1 = .ok (.iload_n 1, 1) := by decide +kernel
theorem d4_2 : decode jdk_29_method_69_code 2 = .ok (.if_icmp .gt 7, 3) := by decide +kernel
theorem d4_9 : decode jdk_29_method_69_code 9 = .ok (.iload_n 1, 1) := by decide +kernel
theorem d4_10 : decode jdk_29_method_69_code 10 = .ok (.ireturn, 1) := by decide +kernel
theorem d4_5 : decode jdk_29_method_69_code 5 = .ok (.iload_n 0, 1) := by decide +kernel
theorem d4_6 : decode jdk_29_method_69_code 6 = .ok (.goto 4, 3) := by decide +kernel
def Q4 (Z : State) (p0 : Int32) (p1 : Int32) (h0 : Heap) (n0 : Nat) (v : Option Value) (h : Heap) (L : List Loc) : Prop := v = some (.int (own_mn p0 p1)) ∧ Fr n0 L ∧ h = h0
set_option maxRecDepth 65536 in
set_option maxHeartbeats 40000000 in
theorem rm4 (l : Launch) (Z : State) (a0 : Array Value) (hw : ∀ d ∈ tables_1, d.before a0 Z = true) (ws : List Jvm.Cond) (p0 : Int32) (p1 : Int32) (h0 : Heap) (n0 : Nat) (Z0 : n0 ≤ h0.size)  :
    MetFree l (⟨"java/lang/Math", "min", "(II)I"⟩ : MethodName) (head1 (Jvm.Cond.code (⟨"java/lang/Math", "min", "(II)I"⟩ : MethodName) jdk_29_method_69_code 2 (some .int) :: ws) ({ frames := 0, cells := 0, slots := 0, locals := 0 } : Room)) (fun a U => a = #[(.int p0), (.int p1)] ∧ Z.Warmed39 U.vm ∧ U.heap = h0) (fun _ _ _ _ _ => True) (fun _ U o U' => ∃ v L, o = .returned v ∧ Q4 Z p0 p1 h0 n0 v U'.heap L ∧ FrameEnd U o U' L ({ frames := 0, cells := 0, slots := 0, locals := 0 } : Room).cells ({ frames := 0, cells := 0, slots := 0, locals := 0 } : Room).slots) := by
  refine MetFree.of_bodySF (Jvm.Free.JP.mathPlain rfl (by decide +kernel)) hisR ?_
  intro p e s m args below meth c s₁ Bd hml0 hP hK
  obtain ⟨rfl, hZ, hh⟩ := hP
  have hx := Bd.exec
  have hby := Bd.bytes
  have hml : c.maxLocals = 2 := hml0
  have hown : s.vm.findClass "java/lang/Math" = some m.cls := findClass_of_methodNamed Bd.named
  have hnm := (name_of_methodNamed Bd.named Bd.method).1
  have X0 : Stand p l e ({ frames := 0, cells := 0, slots := 0, locals := 0 } : Room) s m #[(.int p0), (.int p1)] below meth c s₁ [] 0 0 := Stand.of_body Bd
  have e0 : s₁.heap = h0 := by rw [← hh, Bd.state]; rfl
  have N0 := Fr.nil n0
  have pre0 : ∀ t, Steps p.tables e below (s₁.setTop (mkF m 0 #[.val (.int p0), .val (.int p1)] [])) t → Steps p.tables e below (s₁.setTop (entryFrame m #[(.int p0), (.int p1)] 2)) t := fun t k => castTop (ef_4 m p0 p1) k
  by_cases hc2 : p1 < p0
  · obtain ⟨fs, hr, hrun, hended, hW, hsame⟩ := X0.leave (v := some (.int p1)) (fun h => by rw [Bd.returns] at h; cases h)
    refine ⟨_, _, pre0 _ ?_, hrun, hended, _, _, rfl, ?_, ⟨_, rfl⟩, hW, hsame.mono (by decide) (by decide)⟩
    · show Steps p.tables e below (s₁.setTop (mkF m 0 #[.val (.int p0), .val (.int p1)] [])) _
      refine XS.iloadN X0.here hx rfl (hb hby d4_0) rfl ?_
      show Steps p.tables e below (s₁.setTop (mkF m 1 #[.val (.int p0), .val (.int p1)] [(.int p0)])) _
      refine XS.iloadN X0.here hx rfl (hb hby d4_1) rfl ?_
      show Steps p.tables e below (s₁.setTop (mkF m 2 #[.val (.int p0), .val (.int p1)] [(.int p1), (.int p0)])) _
      refine XS.icmpYes X0.here hx rfl (pc0 := 2) (pc' := 9) rfl (hb hby d4_2) rfl (tlt hc2).2.2.1 (by decide) (by decide) ?_
      show Steps p.tables e below (s₁.setTop (mkF m 9 #[.val (.int p0), .val (.int p1)] [])) _
      refine XS.iloadN X0.here hx rfl (hb hby d4_9) rfl ?_
      show Steps p.tables e below (s₁.setTop (mkF m 10 #[.val (.int p0), .val (.int p1)] [(.int p1)])) _
      exact retI X0 hx Bd.returns (hb hby d4_10) hr
    · show Q4 Z p0 p1 h0 n0 _ s₁.heap _
      rw [e0]
      exact ⟨by rw [own_mn, if_pos hc2], N0, rfl⟩
  · obtain ⟨fs, hr, hrun, hended, hW, hsame⟩ := X0.leave (v := some (.int p0)) (fun h => by rw [Bd.returns] at h; cases h)
    refine ⟨_, _, pre0 _ ?_, hrun, hended, _, _, rfl, ?_, ⟨_, rfl⟩, hW, hsame.mono (by decide) (by decide)⟩
    · show Steps p.tables e below (s₁.setTop (mkF m 0 #[.val (.int p0), .val (.int p1)] [])) _
      refine XS.iloadN X0.here hx rfl (hb hby d4_0) rfl ?_
      show Steps p.tables e below (s₁.setTop (mkF m 1 #[.val (.int p0), .val (.int p1)] [(.int p0)])) _
      refine XS.iloadN X0.here hx rfl (hb hby d4_1) rfl ?_
      show Steps p.tables e below (s₁.setTop (mkF m 2 #[.val (.int p0), .val (.int p1)] [(.int p1), (.int p0)])) _
      refine XS.icmpNo X0.here hx rfl (hb hby d4_2) rfl (flt hc2).2.2.1 ?_
      show Steps p.tables e below (s₁.setTop (mkF m 5 #[.val (.int p0), .val (.int p1)] [])) _
      refine XS.iloadN X0.here hx rfl (hb hby d4_5) rfl ?_
      show Steps p.tables e below (s₁.setTop (mkF m 6 #[.val (.int p0), .val (.int p1)] [(.int p0)])) _
      refine XS.goto X0.here hx rfl (pc0 := 6) (pc' := 10) rfl (hb hby d4_6) (by decide) (by decide) ?_
      show Steps p.tables e below (s₁.setTop (mkF m 10 #[.val (.int p0), .val (.int p1)] [(.int p0)])) _
      exact retI X0 hx Bd.returns (hb hby d4_10) hr
    · show Q4 Z p0 p1 h0 n0 _ s₁.heap _
      rw [e0]
      exact ⟨by rw [own_mn, if_neg hc2], N0, rfl⟩
theorem ef_1_0 (m : MethodId) (x0 : Int32) (x1 : Int64) : entryFrame m #[(.int x0), (.long x1)] 3 = mkF m 0 #[.val (.int x0), .val (.long x1), .second] [] := by first | (simp [entryFrame, mkF, argsToLocals, Value.category]; done) | rfl
theorem d1_0 : decode method_5_code 0 = .ok (.iload_n 0, 1) := by decide +kernel
theorem d1_1 : decode method_5_code 1 = .ok (.ifCond .ne 7, 3) := by decide +kernel
theorem d1_4 : decode method_5_code 4 = .ok (.iconst 0, 1) := by decide +kernel
theorem d1_5 : decode method_5_code 5 = .ok (.newarray .byte, 2) := by decide +kernel
theorem d1_7 : decode method_5_code 7 = .ok (.areturn, 1) := by decide +kernel
def Q1_0 (Z : State) (q1 : Int64) (h0 : Heap) (n0 : Nat) (v : Option Value) (h : Heap) (L : List Loc) : Prop := ∃ (b : Addr) (kb : ClassId), v = some (.ref b) ∧ Fr n0 L ∧ Keep h0 h [] ∧ h0.size ≤ b ∧ Arv Z h b kb .byte (0 : Int32) [] (.int (0 : Int32))
set_option maxRecDepth 65536 in
set_option maxHeartbeats 40000000 in
theorem rm1_0 (l : Launch) (Z : State) (a0 : Array Value) (hw : ∀ d ∈ tables_1, d.before a0 Z = true) (ws : List Jvm.Cond) (q1 : Int64) (h0 : Heap) (n0 : Nat) (Z0 : n0 ≤ h0.size)  :
    MetFree l (⟨"com/example/usrset/usrset/store/KeyPastTuplesOfPinLaw", "make", "(IJ)[B"⟩ : MethodName) (head1 (Jvm.Cond.code (⟨"com/example/usrset/usrset/store/KeyPastTuplesOfPinLaw", "make", "(IJ)[B"⟩ : MethodName) method_5_code 3 (some (.array .byte)) :: ws) ({ frames := 0, cells := 1, slots := 0, locals := 0 } : Room)) (fun a U => a = #[(.int (0 : Int32)), (.long q1)] ∧ Z.Warmed39 U.vm ∧ U.heap = h0) (fun _ _ _ _ _ => True) (fun _ U o U' => ∃ v L, o = .returned v ∧ Q1_0 Z q1 h0 n0 v U'.heap L ∧ FrameEnd U o U' L ({ frames := 0, cells := 1, slots := 0, locals := 0 } : Room).cells ({ frames := 0, cells := 1, slots := 0, locals := 0 } : Room).slots) := by
  refine MetFree.of_bodySF (plainFor_of_name pn_com_example_usrset_usrset_store_KeyPastTuplesOfPinLaw) hisR ?_
  intro p e s m args below meth c s₁ Bd hml0 hP hK
  obtain ⟨rfl, hZ, hh⟩ := hP
  have hx := Bd.exec
  have hby := Bd.bytes
  have hml : c.maxLocals = 3 := hml0
  have hown : s.vm.findClass "com/example/usrset/usrset/store/KeyPastTuplesOfPinLaw" = some m.cls := findClass_of_methodNamed Bd.named
  have hnm := (name_of_methodNamed Bd.named Bd.method).1
  have X0 : Stand p l e ({ frames := 0, cells := 1, slots := 0, locals := 0 } : Room) s m #[(.int (0 : Int32)), (.long q1)] below meth c s₁ [] 0 0 := Stand.of_body Bd
  have e0 : s₁.heap = h0 := by rw [← hh, Bd.state]; rfl
  have N0 := Fr.nil n0
  have pre0 : ∀ t, Steps p.tables e below (s₁.setTop (mkF m 0 #[.val (.int (0 : Int32)), .val (.long q1), .second] [])) t → Steps p.tables e below (s₁.setTop (entryFrame m #[(.int (0 : Int32)), (.long q1)] 3)) t := fun t k => castTop (ef_1_0 m (0 : Int32) q1) k
  have K0 : Keep h0 h0 [] := Keep.refl h0 []
  obtain ⟨T1, h1, k1, X1, e1, E1, A1, st1⟩ := newP X0 hx hZ (hw _ (List.mem_of_getElem? (i := 5) rfl)) e0 (g := (mkF m 5 #[.val (.int (0 : Int32)), .val (.long q1), .second] [(.int (0 : Int32))])) rfl (hb hby d1_5) rfl (by decide) (cap := 0) (by decide) (by decide) (by decide) (by decide)
  obtain ⟨b1, g1⟩ : ∃ z, z = h0.size := ⟨_, rfl⟩
  rw [← g1] at A1 st1
  have g_b1 : n0 ≤ b1 := Nat.le_trans Z0 (Nat.le_of_eq g1.symm)
  have sz_b1 : h0.size ≤ b1 := Nat.le_trans K0.1 (Nat.le_of_eq g1.symm)
  have K1 : Keep h0 h1 [] := K0.ext E1
  have Z1 : n0 ≤ h1.size := Nat.le_trans Z0 E1.1
  have xV_b1_at1 := Arv.new A1 (by decide)
  have V_b1_at1 : Arv Z h1 b1 k1 .byte (0 : Int32) [] (.int (0 : Int32)) := xV_b1_at1
  obtain ⟨fs, hr, hrun, hended, hW, hsame⟩ := X1.leave (v := some (.ref b1)) (fun h => by rw [Bd.returns] at h; cases h)
  refine ⟨_, _, pre0 _ ?_, hrun, hended, _, _, rfl, ?_, ⟨_, rfl⟩, hW, hsame.mono (by decide) (by decide)⟩
  · show Steps p.tables e below (s₁.setTop (mkF m 0 #[.val (.int (0 : Int32)), .val (.long q1), .second] [])) _
    refine XS.iloadN X0.here hx rfl (hb hby d1_0) rfl ?_
    show Steps p.tables e below (s₁.setTop (mkF m 1 #[.val (.int (0 : Int32)), .val (.long q1), .second] [(.int (0 : Int32))])) _
    refine XS.ifNo X0.here hx rfl (hb hby d1_1) rfl ((if0 _ _).trans (teq (by decide : (0 : Int32) = (0 : Int32))).2) ?_
    show Steps p.tables e below (s₁.setTop (mkF m 4 #[.val (.int (0 : Int32)), .val (.long q1), .second] [])) _
    refine XS.iconst X0.here hx rfl (hb hby d1_4) ?_
    show Steps p.tables e below (s₁.setTop (mkF m 5 #[.val (.int (0 : Int32)), .val (.long q1), .second] [(.int (0 : Int32))])) _
    refine st1 _ ?_
    show Steps p.tables e below (T1.setTop (mkF m 7 #[.val (.int (0 : Int32)), .val (.long q1), .second] [(.ref b1)])) _
    jvm_step X1.here [X1.here.top, hx, (hb hby d1_7), X1.method', Bd.returns, Value.isRef, FieldType.isReference]
    first | (intro acts; rw [hr _ acts rfl rfl rfl]) | rw [hr _ _ rfl rfl rfl]
    exact Steps.refl _
  · show Q1_0 Z q1 h0 n0 _ T1.heap _
    rw [e1]
    exact ⟨b1, _, rfl, N0, K1, sz_b1, V_b1_at1⟩
theorem ef_1_1 (m : MethodId) (x0 : Int32) (x1 : Int64) : entryFrame m #[(.int x0), (.long x1)] 3 = mkF m 0 #[.val (.int x0), .val (.long x1), .second] [] := by first | (simp [entryFrame, mkF, argsToLocals, Value.category]; done) | rfl
theorem d1_8 : decode method_5_code 8 = .ok (.iload_n 0, 1) := by decide +kernel
theorem d1_9 : decode method_5_code 9 = .ok (.iconst 1, 1) := by decide +kernel
theorem d1_10 : decode method_5_code 10 = .ok (.if_icmp .ne 15, 3) := by decide +kernel
theorem d1_13 : decode method_5_code 13 = .ok (.iconst 1, 1) := by decide +kernel
theorem d1_14 : decode method_5_code 14 = .ok (.newarray .byte, 2) := by decide +kernel
theorem d1_16 : decode method_5_code 16 = .ok (.dup, 1) := by decide +kernel
theorem d1_17 : decode method_5_code 17 = .ok (.iconst 0, 1) := by decide +kernel
theorem d1_18 : decode method_5_code 18 = .ok (.lload_n 1, 1) := by decide +kernel
theorem d1_19 : decode method_5_code 19 = .ok (.iconst 0, 1) := by decide +kernel
theorem d1_20 : decode method_5_code 20 = .ok (.invokestatic 24, 3) := by decide +kernel
theorem pd_28JI29B : parseMethodDescriptor "(JI)B" = some ⟨[.long, .int], some .byte⟩ := by decide +kernel
theorem d1_23 : decode method_5_code 23 = .ok (.bastore, 1) := by decide +kernel
theorem d1_24 : decode method_5_code 24 = .ok (.areturn, 1) := by decide +kernel
def Q1_1 (Z : State) (q1 : Int64) (h0 : Heap) (n0 : Nat) (v : Option Value) (h : Heap) (L : List Loc) : Prop := ∃ (b : Addr) (kb : ClassId), v = some (.ref b) ∧ Fr n0 L ∧ Keep h0 h [] ∧ h0.size ≤ b ∧ Arv Z h b kb .byte (1 : Int32) [(.int (own_b q1 (0 : Int32)))] (.int (0 : Int32))
set_option maxRecDepth 65536 in
set_option maxHeartbeats 40000000 in
theorem rm1_1 (l : Launch) (Z : State) (a0 : Array Value) (hw : ∀ d ∈ tables_1, d.before a0 Z = true) (ws : List Jvm.Cond) (q1 : Int64) (h0 : Heap) (n0 : Nat) (Z0 : n0 ≤ h0.size)  :
    MetFree l (⟨"com/example/usrset/usrset/store/KeyPastTuplesOfPinLaw", "make", "(IJ)[B"⟩ : MethodName) (head1 (Jvm.Cond.code (⟨"com/example/usrset/usrset/store/KeyPastTuplesOfPinLaw", "make", "(IJ)[B"⟩ : MethodName) method_5_code 3 (some (.array .byte)) :: ws) ({ frames := 1, cells := 1, slots := 1, locals := 17 } : Room)) (fun a U => a = #[(.int (1 : Int32)), (.long q1)] ∧ Z.Warmed39 U.vm ∧ U.heap = h0) (fun _ _ _ _ _ => True) (fun _ U o U' => ∃ v L, o = .returned v ∧ Q1_1 Z q1 h0 n0 v U'.heap L ∧ FrameEnd U o U' L ({ frames := 1, cells := 1, slots := 1, locals := 17 } : Room).cells ({ frames := 1, cells := 1, slots := 1, locals := 17 } : Room).slots) := by
  refine MetFree.of_bodySF (plainFor_of_name pn_com_example_usrset_usrset_store_KeyPastTuplesOfPinLaw) hisR ?_
  intro p e s m args below meth c s₁ Bd hml0 hP hK
  obtain ⟨rfl, hZ, hh⟩ := hP
  have hx := Bd.exec
  have hby := Bd.bytes
  have hml : c.maxLocals = 3 := hml0
  have hown : s.vm.findClass "com/example/usrset/usrset/store/KeyPastTuplesOfPinLaw" = some m.cls := findClass_of_methodNamed Bd.named
  have hnm := (name_of_methodNamed Bd.named Bd.method).1
  have X0 : Stand p l e ({ frames := 1, cells := 1, slots := 1, locals := 17 } : Room) s m #[(.int (1 : Int32)), (.long q1)] below meth c s₁ [] 0 0 := Stand.of_body Bd
  have e0 : s₁.heap = h0 := by rw [← hh, Bd.state]; rfl
  have N0 := Fr.nil n0
  have pre0 : ∀ t, Steps p.tables e below (s₁.setTop (mkF m 0 #[.val (.int (1 : Int32)), .val (.long q1), .second] [])) t → Steps p.tables e below (s₁.setTop (entryFrame m #[(.int (1 : Int32)), (.long q1)] 3)) t := fun t k => castTop (ef_1_1 m (1 : Int32) q1) k
  have K0 : Keep h0 h0 [] := Keep.refl h0 []
  obtain ⟨T1, h1, k1, X1, e1, E1, A1, st1⟩ := newP X0 hx hZ (hw _ (List.mem_of_getElem? (i := 5) rfl)) e0 (g := (mkF m 14 #[.val (.int (1 : Int32)), .val (.long q1), .second] [(.int (1 : Int32))])) rfl (hb hby d1_14) rfl (by decide) (cap := 1) (by decide) (by decide) (by decide) (by decide)
  obtain ⟨b1, g1⟩ : ∃ z, z = h0.size := ⟨_, rfl⟩
  rw [← g1] at A1 st1
  have g_b1 : n0 ≤ b1 := Nat.le_trans Z0 (Nat.le_of_eq g1.symm)
  have sz_b1 : h0.size ≤ b1 := Nat.le_trans K0.1 (Nat.le_of_eq g1.symm)
  have K1 : Keep h0 h1 [] := K0.ext E1
  have Z1 : n0 ≤ h1.size := Nat.le_trans Z0 E1.1
  have xV_b1_at1 := (Arv.new A1 (by decide)).pad (pad_rep [] (.int (0 : Int32)) 1)
  have V_b1_at1 : Arv Z h1 b1 k1 .byte (1 : Int32) [(.int (0 : Int32))] (.int (0 : Int32)) := xV_b1_at1
  obtain ⟨_, _, ⟨T2, L2, k2, n2⟩, -, X2, ⟨Lc2, hQ2, l2, y2, z2⟩, st2⟩ := Jvm.LawKit.callS X1 hx (y := (⟨"com/example/usrset/usrset/store/KeyPastTuplesOfPinLaw", "b", "(JI)B"⟩ : MethodName)) hown (mvT hZ (hw _ (List.mem_of_getElem? (i := 25) rfl))) (mvT hZ (hw _ (List.mem_of_getElem? (i := 26) rfl))) (mvT hZ (hw _ (List.mem_of_getElem? (i := 3) rfl))) (mvT hZ (hw _ (List.mem_of_getElem? (i := 27) rfl))) (by decide) (backOf (W := 3) (rm6 l Z a0 hw [] q1 (0 : Int32) h1 n0 Z1) hZ (hw _ (List.mem_of_getElem? (i := 27) rfl)) (hw _ (List.mem_of_getElem? (i := 3) rfl)) (by decide) (by decide)) (g := (mkF m 20 #[.val (.int (1 : Int32)), .val (.long q1), .second] [(.int (0 : Int32)), (.long q1), (.int (0 : Int32)), (.ref b1), (.ref b1)])) rfl (by rw [hml]; rfl) (argsL := [(.long q1), (.int (0 : Int32))]) (rest := [(.int (0 : Int32)), (.ref b1), (.ref b1)]) (lenOf pd_28JI29B rfl) rfl (by show 2 * 0 + _ ≤ _; exact Nat.le_of_eq rfl) (hb hby d1_20) (fun _ _ => ⟨rfl, e1, (by decide : 1 + 0 ≤ _), (by decide : 1 + 0 ≤ _)⟩)
  dsimp only [Pt.U, Pt.locs, Pt.cells, Pt.slots] at X2 l2 y2 z2 st2 hQ2
  subst l2 y2 z2
  obtain ⟨rfl, N2q, e2⟩ := hQ2
  have N2 := Fr.app N0 N2q
  obtain ⟨cl_23, Ar_23, q_23, S_23, N_23, H_23, G_23⟩ := id V_b1_at1
  have hin23 : ¬ ((0 : Int32) < 0 ∨ cl_23.slots.size ≤ ((0 : Int32)).toNatClampNeg) := inb_of S_23 ⟨by decide, by decide⟩
  obtain ⟨T3, h3, X3, e3, W3, st3⟩ := stB X2 hx hZ e2 Ar_23 (j := (0 : Int32)) hin23 (g := (mkF m 23 #[.val (.int (1 : Int32)), .val (.long q1), .second] [(.int (own_b q1 (0 : Int32))), (.int (0 : Int32)), (.ref b1), (.ref b1)])) rfl rfl (hb hby d1_23)
  rw [own_nb] at W3
  have xV_b1_at3 := Arv.set Ar_23 q_23 S_23 N_23 H_23 G_23 (fits_nar_byte _) W3 0 rfl (Nat.le_of_ble_eq_true rfl)
  have V_b1_at3 : Arv Z h3 b1 k1 .byte (1 : Int32) [(.int (own_b q1 (0 : Int32)))] (.int (0 : Int32)) := xV_b1_at3
  have K3 : Keep h0 h3 [] := K1.wr W3 (Or.inr sz_b1)
  have Z3 : n0 ≤ h3.size := Nat.le_trans Z1 (Keep.of_wr W3).1
  have N3 := Fr.snoc X3 N2 g_b1
  obtain ⟨fs, hr, hrun, hended, hW, hsame⟩ := X3.leave (v := some (.ref b1)) (fun h => by rw [Bd.returns] at h; cases h)
  refine ⟨_, _, pre0 _ ?_, hrun, hended, _, _, rfl, ?_, ⟨_, rfl⟩, hW, hsame.mono (by decide) (by decide)⟩
  · show Steps p.tables e below (s₁.setTop (mkF m 0 #[.val (.int (1 : Int32)), .val (.long q1), .second] [])) _
    refine XS.iloadN X0.here hx rfl (hb hby d1_0) rfl ?_
    show Steps p.tables e below (s₁.setTop (mkF m 1 #[.val (.int (1 : Int32)), .val (.long q1), .second] [(.int (1 : Int32))])) _
    refine XS.ifYes X0.here hx rfl (pc0 := 1) (pc' := 8) rfl (hb hby d1_1) rfl ((if0 _ _).trans (feq (by decide : ¬ ((1 : Int32) = (0 : Int32)))).2) (by decide) (by decide) ?_
    show Steps p.tables e below (s₁.setTop (mkF m 8 #[.val (.int (1 : Int32)), .val (.long q1), .second] [])) _
    refine XS.iloadN X0.here hx rfl (hb hby d1_8) rfl ?_
    show Steps p.tables e below (s₁.setTop (mkF m 9 #[.val (.int (1 : Int32)), .val (.long q1), .second] [(.int (1 : Int32))])) _
    refine XS.iconst X0.here hx rfl (hb hby d1_9) ?_
    show Steps p.tables e below (s₁.setTop (mkF m 10 #[.val (.int (1 : Int32)), .val (.long q1), .second] [(.int (1 : Int32)), (.int (1 : Int32))])) _
    refine XS.icmpNo X0.here hx rfl (hb hby d1_10) rfl (teq (by decide : (1 : Int32) = (1 : Int32))).2 ?_
    show Steps p.tables e below (s₁.setTop (mkF m 13 #[.val (.int (1 : Int32)), .val (.long q1), .second] [])) _
    refine XS.iconst X0.here hx rfl (hb hby d1_13) ?_
    show Steps p.tables e below (s₁.setTop (mkF m 14 #[.val (.int (1 : Int32)), .val (.long q1), .second] [(.int (1 : Int32))])) _
    refine st1 _ ?_
    show Steps p.tables e below (T1.setTop (mkF m 16 #[.val (.int (1 : Int32)), .val (.long q1), .second] [(.ref b1)])) _
    refine XS.dup X1.here hx rfl (hb hby d1_16) rfl rfl ?_
    show Steps p.tables e below (T1.setTop (mkF m 17 #[.val (.int (1 : Int32)), .val (.long q1), .second] [(.ref b1), (.ref b1)])) _
    refine XS.iconst X1.here hx rfl (hb hby d1_17) ?_
    show Steps p.tables e below (T1.setTop (mkF m 18 #[.val (.int (1 : Int32)), .val (.long q1), .second] [(.int (0 : Int32)), (.ref b1), (.ref b1)])) _
    refine XS.lloadN X1.here hx rfl (hb hby d1_18) rfl ?_
    show Steps p.tables e below (T1.setTop (mkF m 19 #[.val (.int (1 : Int32)), .val (.long q1), .second] [(.long q1), (.int (0 : Int32)), (.ref b1), (.ref b1)])) _
    refine XS.iconst X1.here hx rfl (hb hby d1_19) ?_
    show Steps p.tables e below (T1.setTop (mkF m 20 #[.val (.int (1 : Int32)), .val (.long q1), .second] [(.int (0 : Int32)), (.long q1), (.int (0 : Int32)), (.ref b1), (.ref b1)])) _
    refine st2 _ ?_
    show Steps p.tables e below (T2.setTop (mkF m 23 #[.val (.int (1 : Int32)), .val (.long q1), .second] [(.int (own_b q1 (0 : Int32))), (.int (0 : Int32)), (.ref b1), (.ref b1)])) _
    refine st3 _ ?_
    show Steps p.tables e below (T3.setTop (mkF m 24 #[.val (.int (1 : Int32)), .val (.long q1), .second] [(.ref b1)])) _
    jvm_step X3.here [X3.here.top, hx, (hb hby d1_24), X3.method', Bd.returns, Value.isRef, FieldType.isReference]
    first | (intro acts; rw [hr _ acts rfl rfl rfl]) | rw [hr _ _ rfl rfl rfl]
    exact Steps.refl _
  · show Q1_1 Z q1 h0 n0 _ T3.heap _
    rw [e3]
    exact ⟨b1, _, rfl, N3, K3, sz_b1, V_b1_at3⟩
theorem ef_1_2 (m : MethodId) (x0 : Int32) (x1 : Int64) : entryFrame m #[(.int x0), (.long x1)] 3 = mkF m 0 #[.val (.int x0), .val (.long x1), .second] [] := by first | (simp [entryFrame, mkF, argsToLocals, Value.category]; done) | rfl
theorem d1_25 : decode method_5_code 25 = .ok (.iload_n 0, 1) := by decide +kernel
theorem d1_26 : decode method_5_code 26 = .ok (.iconst 2, 1) := by decide +kernel
theorem d1_27 : decode method_5_code 27 = .ok (.if_icmp .ne 23, 3) := by decide +kernel
theorem d1_30 : decode method_5_code 30 = .ok (.iconst 2, 1) := by decide +kernel
theorem d1_31 : decode method_5_code 31 = .ok (.newarray .byte, 2) := by decide +kernel
theorem d1_33 : decode method_5_code 33 = .ok (.dup, 1) := by decide +kernel
theorem d1_34 : decode method_5_code 34 = .ok (.iconst 0, 1) := by decide +kernel
theorem d1_35 : decode method_5_code 35 = .ok (.lload_n 1, 1) := by decide +kernel
theorem d1_36 : decode method_5_code 36 = .ok (.iconst 0, 1) := by decide +kernel
theorem d1_37 : decode method_5_code 37 = .ok (.invokestatic 24, 3) := by decide +kernel
theorem d1_40 : decode method_5_code 40 = .ok (.bastore, 1) := by decide +kernel
theorem d1_41 : decode method_5_code 41 = .ok (.dup, 1) := by decide +kernel
theorem d1_42 : decode method_5_code 42 = .ok (.iconst 1, 1) := by decide +kernel
theorem d1_43 : decode method_5_code 43 = .ok (.lload_n 1, 1) := by decide +kernel
theorem d1_44 : decode method_5_code 44 = .ok (.iconst 1, 1) := by decide +kernel
theorem d1_45 : decode method_5_code 45 = .ok (.invokestatic 24, 3) := by decide +kernel
theorem d1_48 : decode method_5_code 48 = .ok (.bastore, 1) := by decide +kernel
theorem d1_49 : decode method_5_code 49 = .ok (.areturn, 1) := by decide +kernel
def Q1_2 (Z : State) (q1 : Int64) (h0 : Heap) (n0 : Nat) (v : Option Value) (h : Heap) (L : List Loc) : Prop := ∃ (b : Addr) (kb : ClassId), v = some (.ref b) ∧ Fr n0 L ∧ Keep h0 h [] ∧ h0.size ≤ b ∧ Arv Z h b kb .byte (2 : Int32) [(.int (own_b q1 (0 : Int32))), (.int (own_b q1 (1 : Int32)))] (.int (0 : Int32))
set_option maxRecDepth 65536 in
set_option maxHeartbeats 40000000 in
theorem rm1_2 (l : Launch) (Z : State) (a0 : Array Value) (hw : ∀ d ∈ tables_1, d.before a0 Z = true) (ws : List Jvm.Cond) (q1 : Int64) (h0 : Heap) (n0 : Nat) (Z0 : n0 ≤ h0.size)  :
    MetFree l (⟨"com/example/usrset/usrset/store/KeyPastTuplesOfPinLaw", "make", "(IJ)[B"⟩ : MethodName) (head1 (Jvm.Cond.code (⟨"com/example/usrset/usrset/store/KeyPastTuplesOfPinLaw", "make", "(IJ)[B"⟩ : MethodName) method_5_code 3 (some (.array .byte)) :: ws) ({ frames := 1, cells := 1, slots := 2, locals := 17 } : Room)) (fun a U => a = #[(.int (2 : Int32)), (.long q1)] ∧ Z.Warmed39 U.vm ∧ U.heap = h0) (fun _ _ _ _ _ => True) (fun _ U o U' => ∃ v L, o = .returned v ∧ Q1_2 Z q1 h0 n0 v U'.heap L ∧ FrameEnd U o U' L ({ frames := 1, cells := 1, slots := 2, locals := 17 } : Room).cells ({ frames := 1, cells := 1, slots := 2, locals := 17 } : Room).slots) := by
  refine MetFree.of_bodySF (plainFor_of_name pn_com_example_usrset_usrset_store_KeyPastTuplesOfPinLaw) hisR ?_
  intro p e s m args below meth c s₁ Bd hml0 hP hK
  obtain ⟨rfl, hZ, hh⟩ := hP
  have hx := Bd.exec
  have hby := Bd.bytes
  have hml : c.maxLocals = 3 := hml0
  have hown : s.vm.findClass "com/example/usrset/usrset/store/KeyPastTuplesOfPinLaw" = some m.cls := findClass_of_methodNamed Bd.named
  have hnm := (name_of_methodNamed Bd.named Bd.method).1
  have X0 : Stand p l e ({ frames := 1, cells := 1, slots := 2, locals := 17 } : Room) s m #[(.int (2 : Int32)), (.long q1)] below meth c s₁ [] 0 0 := Stand.of_body Bd
  have e0 : s₁.heap = h0 := by rw [← hh, Bd.state]; rfl
  have N0 := Fr.nil n0
  have pre0 : ∀ t, Steps p.tables e below (s₁.setTop (mkF m 0 #[.val (.int (2 : Int32)), .val (.long q1), .second] [])) t → Steps p.tables e below (s₁.setTop (entryFrame m #[(.int (2 : Int32)), (.long q1)] 3)) t := fun t k => castTop (ef_1_2 m (2 : Int32) q1) k
  have K0 : Keep h0 h0 [] := Keep.refl h0 []
  obtain ⟨T1, h1, k1, X1, e1, E1, A1, st1⟩ := newP X0 hx hZ (hw _ (List.mem_of_getElem? (i := 5) rfl)) e0 (g := (mkF m 31 #[.val (.int (2 : Int32)), .val (.long q1), .second] [(.int (2 : Int32))])) rfl (hb hby d1_31) rfl (by decide) (cap := 2) (by decide) (by decide) (by decide) (by decide)
  obtain ⟨b1, g1⟩ : ∃ z, z = h0.size := ⟨_, rfl⟩
  rw [← g1] at A1 st1
  have g_b1 : n0 ≤ b1 := Nat.le_trans Z0 (Nat.le_of_eq g1.symm)
  have sz_b1 : h0.size ≤ b1 := Nat.le_trans K0.1 (Nat.le_of_eq g1.symm)
  have K1 : Keep h0 h1 [] := K0.ext E1
  have Z1 : n0 ≤ h1.size := Nat.le_trans Z0 E1.1
  have xV_b1_at1 := (Arv.new A1 (by decide)).pad (pad_rep [] (.int (0 : Int32)) 2)
  have V_b1_at1 : Arv Z h1 b1 k1 .byte (2 : Int32) [(.int (0 : Int32)), (.int (0 : Int32))] (.int (0 : Int32)) := xV_b1_at1
  obtain ⟨_, _, ⟨T2, L2, k2, n2⟩, -, X2, ⟨Lc2, hQ2, l2, y2, z2⟩, st2⟩ := Jvm.LawKit.callS X1 hx (y := (⟨"com/example/usrset/usrset/store/KeyPastTuplesOfPinLaw", "b", "(JI)B"⟩ : MethodName)) hown (mvT hZ (hw _ (List.mem_of_getElem? (i := 25) rfl))) (mvT hZ (hw _ (List.mem_of_getElem? (i := 26) rfl))) (mvT hZ (hw _ (List.mem_of_getElem? (i := 3) rfl))) (mvT hZ (hw _ (List.mem_of_getElem? (i := 27) rfl))) (by decide) (backOf (W := 3) (rm6 l Z a0 hw [] q1 (0 : Int32) h1 n0 Z1) hZ (hw _ (List.mem_of_getElem? (i := 27) rfl)) (hw _ (List.mem_of_getElem? (i := 3) rfl)) (by decide) (by decide)) (g := (mkF m 37 #[.val (.int (2 : Int32)), .val (.long q1), .second] [(.int (0 : Int32)), (.long q1), (.int (0 : Int32)), (.ref b1), (.ref b1)])) rfl (by rw [hml]; rfl) (argsL := [(.long q1), (.int (0 : Int32))]) (rest := [(.int (0 : Int32)), (.ref b1), (.ref b1)]) (lenOf pd_28JI29B rfl) rfl (by show 2 * 0 + _ ≤ _; exact Nat.le_of_eq rfl) (hb hby d1_37) (fun _ _ => ⟨rfl, e1, (by decide : 1 + 0 ≤ _), (by decide : 2 + 0 ≤ _)⟩)
  dsimp only [Pt.U, Pt.locs, Pt.cells, Pt.slots] at X2 l2 y2 z2 st2 hQ2
  subst l2 y2 z2
  obtain ⟨rfl, N2q, e2⟩ := hQ2
  have N2 := Fr.app N0 N2q
  obtain ⟨cl_40, Ar_40, q_40, S_40, N_40, H_40, G_40⟩ := id V_b1_at1
  have hin40 : ¬ ((0 : Int32) < 0 ∨ cl_40.slots.size ≤ ((0 : Int32)).toNatClampNeg) := inb_of S_40 ⟨by decide, by decide⟩
  obtain ⟨T3, h3, X3, e3, W3, st3⟩ := stB X2 hx hZ e2 Ar_40 (j := (0 : Int32)) hin40 (g := (mkF m 40 #[.val (.int (2 : Int32)), .val (.long q1), .second] [(.int (own_b q1 (0 : Int32))), (.int (0 : Int32)), (.ref b1), (.ref b1)])) rfl rfl (hb hby d1_40)
  rw [own_nb] at W3
  have xV_b1_at3 := Arv.set Ar_40 q_40 S_40 N_40 H_40 G_40 (fits_nar_byte _) W3 0 rfl (Nat.le_of_ble_eq_true rfl)
  have V_b1_at3 : Arv Z h3 b1 k1 .byte (2 : Int32) [(.int (own_b q1 (0 : Int32))), (.int (0 : Int32))] (.int (0 : Int32)) := xV_b1_at3
  have K3 : Keep h0 h3 [] := K1.wr W3 (Or.inr sz_b1)
  have Z3 : n0 ≤ h3.size := Nat.le_trans Z1 (Keep.of_wr W3).1
  have N3 := Fr.snoc X3 N2 g_b1
  obtain ⟨_, _, ⟨T4, L4, k4, n4⟩, -, X4, ⟨Lc4, hQ4, l4, y4, z4⟩, st4⟩ := Jvm.LawKit.callS X3 hx (y := (⟨"com/example/usrset/usrset/store/KeyPastTuplesOfPinLaw", "b", "(JI)B"⟩ : MethodName)) hown (mvT hZ (hw _ (List.mem_of_getElem? (i := 25) rfl))) (mvT hZ (hw _ (List.mem_of_getElem? (i := 26) rfl))) (mvT hZ (hw _ (List.mem_of_getElem? (i := 3) rfl))) (mvT hZ (hw _ (List.mem_of_getElem? (i := 27) rfl))) (by decide) (backOf (W := 3) (rm6 l Z a0 hw [] q1 (1 : Int32) h3 n0 Z3) hZ (hw _ (List.mem_of_getElem? (i := 27) rfl)) (hw _ (List.mem_of_getElem? (i := 3) rfl)) (by decide) (by decide)) (g := (mkF m 45 #[.val (.int (2 : Int32)), .val (.long q1), .second] [(.int (1 : Int32)), (.long q1), (.int (1 : Int32)), (.ref b1), (.ref b1)])) rfl (by rw [hml]; rfl) (argsL := [(.long q1), (.int (1 : Int32))]) (rest := [(.int (1 : Int32)), (.ref b1), (.ref b1)]) (lenOf pd_28JI29B rfl) rfl (by show 2 * 0 + _ ≤ _; exact Nat.le_of_eq rfl) (hb hby d1_45) (fun _ _ => ⟨rfl, e3, (by decide : 1 + 0 ≤ _), (by decide : 2 + 0 ≤ _)⟩)
  dsimp only [Pt.U, Pt.locs, Pt.cells, Pt.slots] at X4 l4 y4 z4 st4 hQ4
  subst l4 y4 z4
  obtain ⟨rfl, N4q, e4⟩ := hQ4
  have N4 := Fr.app N3 N4q
  obtain ⟨cl_48, Ar_48, q_48, S_48, N_48, H_48, G_48⟩ := id V_b1_at3
  have hin48 : ¬ ((1 : Int32) < 0 ∨ cl_48.slots.size ≤ ((1 : Int32)).toNatClampNeg) := inb_of S_48 ⟨by decide, by decide⟩
  obtain ⟨T5, h5, X5, e5, W5, st5⟩ := stB X4 hx hZ e4 Ar_48 (j := (1 : Int32)) hin48 (g := (mkF m 48 #[.val (.int (2 : Int32)), .val (.long q1), .second] [(.int (own_b q1 (1 : Int32))), (.int (1 : Int32)), (.ref b1), (.ref b1)])) rfl rfl (hb hby d1_48)
  rw [own_nb] at W5
  have xV_b1_at5 := Arv.set Ar_48 q_48 S_48 N_48 H_48 G_48 (fits_nar_byte _) W5 1 rfl (Nat.le_of_ble_eq_true rfl)
  have V_b1_at5 : Arv Z h5 b1 k1 .byte (2 : Int32) [(.int (own_b q1 (0 : Int32))), (.int (own_b q1 (1 : Int32)))] (.int (0 : Int32)) := xV_b1_at5
  have K5 : Keep h0 h5 [] := K3.wr W5 (Or.inr sz_b1)
  have Z5 : n0 ≤ h5.size := Nat.le_trans Z3 (Keep.of_wr W5).1
  have N5 := Fr.snoc X5 N4 g_b1
  obtain ⟨fs, hr, hrun, hended, hW, hsame⟩ := X5.leave (v := some (.ref b1)) (fun h => by rw [Bd.returns] at h; cases h)
  refine ⟨_, _, pre0 _ ?_, hrun, hended, _, _, rfl, ?_, ⟨_, rfl⟩, hW, hsame.mono (by decide) (by decide)⟩
  · show Steps p.tables e below (s₁.setTop (mkF m 0 #[.val (.int (2 : Int32)), .val (.long q1), .second] [])) _
    refine XS.iloadN X0.here hx rfl (hb hby d1_0) rfl ?_
    show Steps p.tables e below (s₁.setTop (mkF m 1 #[.val (.int (2 : Int32)), .val (.long q1), .second] [(.int (2 : Int32))])) _
    refine XS.ifYes X0.here hx rfl (pc0 := 1) (pc' := 8) rfl (hb hby d1_1) rfl ((if0 _ _).trans (feq (by decide : ¬ ((2 : Int32) = (0 : Int32)))).2) (by decide) (by decide) ?_
    show Steps p.tables e below (s₁.setTop (mkF m 8 #[.val (.int (2 : Int32)), .val (.long q1), .second] [])) _
    refine XS.iloadN X0.here hx rfl (hb hby d1_8) rfl ?_
    show Steps p.tables e below (s₁.setTop (mkF m 9 #[.val (.int (2 : Int32)), .val (.long q1), .second] [(.int (2 : Int32))])) _
    refine XS.iconst X0.here hx rfl (hb hby d1_9) ?_
    show Steps p.tables e below (s₁.setTop (mkF m 10 #[.val (.int (2 : Int32)), .val (.long q1), .second] [(.int (1 : Int32)), (.int (2 : Int32))])) _
    refine XS.icmpYes X0.here hx rfl (pc0 := 10) (pc' := 25) rfl (hb hby d1_10) rfl (feq (by decide : ¬ ((2 : Int32) = (1 : Int32)))).2 (by decide) (by decide) ?_
    show Steps p.tables e below (s₁.setTop (mkF m 25 #[.val (.int (2 : Int32)), .val (.long q1), .second] [])) _
    refine XS.iloadN X0.here hx rfl (hb hby d1_25) rfl ?_
    show Steps p.tables e below (s₁.setTop (mkF m 26 #[.val (.int (2 : Int32)), .val (.long q1), .second] [(.int (2 : Int32))])) _
    refine XS.iconst X0.here hx rfl (hb hby d1_26) ?_
    show Steps p.tables e below (s₁.setTop (mkF m 27 #[.val (.int (2 : Int32)), .val (.long q1), .second] [(.int (2 : Int32)), (.int (2 : Int32))])) _
    refine XS.icmpNo X0.here hx rfl (hb hby d1_27) rfl (teq (by decide : (2 : Int32) = (2 : Int32))).2 ?_
    show Steps p.tables e below (s₁.setTop (mkF m 30 #[.val (.int (2 : Int32)), .val (.long q1), .second] [])) _
    refine XS.iconst X0.here hx rfl (hb hby d1_30) ?_
    show Steps p.tables e below (s₁.setTop (mkF m 31 #[.val (.int (2 : Int32)), .val (.long q1), .second] [(.int (2 : Int32))])) _
    refine st1 _ ?_
    show Steps p.tables e below (T1.setTop (mkF m 33 #[.val (.int (2 : Int32)), .val (.long q1), .second] [(.ref b1)])) _
    refine XS.dup X1.here hx rfl (hb hby d1_33) rfl rfl ?_
    show Steps p.tables e below (T1.setTop (mkF m 34 #[.val (.int (2 : Int32)), .val (.long q1), .second] [(.ref b1), (.ref b1)])) _
    refine XS.iconst X1.here hx rfl (hb hby d1_34) ?_
    show Steps p.tables e below (T1.setTop (mkF m 35 #[.val (.int (2 : Int32)), .val (.long q1), .second] [(.int (0 : Int32)), (.ref b1), (.ref b1)])) _
    refine XS.lloadN X1.here hx rfl (hb hby d1_35) rfl ?_
    show Steps p.tables e below (T1.setTop (mkF m 36 #[.val (.int (2 : Int32)), .val (.long q1), .second] [(.long q1), (.int (0 : Int32)), (.ref b1), (.ref b1)])) _
    refine XS.iconst X1.here hx rfl (hb hby d1_36) ?_
    show Steps p.tables e below (T1.setTop (mkF m 37 #[.val (.int (2 : Int32)), .val (.long q1), .second] [(.int (0 : Int32)), (.long q1), (.int (0 : Int32)), (.ref b1), (.ref b1)])) _
    refine st2 _ ?_
    show Steps p.tables e below (T2.setTop (mkF m 40 #[.val (.int (2 : Int32)), .val (.long q1), .second] [(.int (own_b q1 (0 : Int32))), (.int (0 : Int32)), (.ref b1), (.ref b1)])) _
    refine st3 _ ?_
    show Steps p.tables e below (T3.setTop (mkF m 41 #[.val (.int (2 : Int32)), .val (.long q1), .second] [(.ref b1)])) _
    refine XS.dup X3.here hx rfl (hb hby d1_41) rfl rfl ?_
    show Steps p.tables e below (T3.setTop (mkF m 42 #[.val (.int (2 : Int32)), .val (.long q1), .second] [(.ref b1), (.ref b1)])) _
    refine XS.iconst X3.here hx rfl (hb hby d1_42) ?_
    show Steps p.tables e below (T3.setTop (mkF m 43 #[.val (.int (2 : Int32)), .val (.long q1), .second] [(.int (1 : Int32)), (.ref b1), (.ref b1)])) _
    refine XS.lloadN X3.here hx rfl (hb hby d1_43) rfl ?_
    show Steps p.tables e below (T3.setTop (mkF m 44 #[.val (.int (2 : Int32)), .val (.long q1), .second] [(.long q1), (.int (1 : Int32)), (.ref b1), (.ref b1)])) _
    refine XS.iconst X3.here hx rfl (hb hby d1_44) ?_
    show Steps p.tables e below (T3.setTop (mkF m 45 #[.val (.int (2 : Int32)), .val (.long q1), .second] [(.int (1 : Int32)), (.long q1), (.int (1 : Int32)), (.ref b1), (.ref b1)])) _
    refine st4 _ ?_
    show Steps p.tables e below (T4.setTop (mkF m 48 #[.val (.int (2 : Int32)), .val (.long q1), .second] [(.int (own_b q1 (1 : Int32))), (.int (1 : Int32)), (.ref b1), (.ref b1)])) _
    refine st5 _ ?_
    show Steps p.tables e below (T5.setTop (mkF m 49 #[.val (.int (2 : Int32)), .val (.long q1), .second] [(.ref b1)])) _
    jvm_step X5.here [X5.here.top, hx, (hb hby d1_49), X5.method', Bd.returns, Value.isRef, FieldType.isReference]
    first | (intro acts; rw [hr _ acts rfl rfl rfl]) | rw [hr _ _ rfl rfl rfl]
    exact Steps.refl _
  · show Q1_2 Z q1 h0 n0 _ T5.heap _
    rw [e5]
    exact ⟨b1, _, rfl, N5, K5, sz_b1, V_b1_at5⟩
theorem ef_1_3 (m : MethodId) (x0 : Int32) (x1 : Int64) : entryFrame m #[(.int x0), (.long x1)] 3 = mkF m 0 #[.val (.int x0), .val (.long x1), .second] [] := by first | (simp [entryFrame, mkF, argsToLocals, Value.category]; done) | rfl
theorem d1_50 : decode method_5_code 50 = .ok (.iload_n 0, 1) := by decide +kernel
theorem d1_51 : decode method_5_code 51 = .ok (.iconst 3, 1) := by decide +kernel
theorem d1_52 : decode method_5_code 52 = .ok (.if_icmp .ne 31, 3) := by decide +kernel
theorem d1_55 : decode method_5_code 55 = .ok (.iconst 3, 1) := by decide +kernel
theorem d1_56 : decode method_5_code 56 = .ok (.newarray .byte, 2) := by decide +kernel
theorem d1_58 : decode method_5_code 58 = .ok (.dup, 1) := by decide +kernel
theorem d1_59 : decode method_5_code 59 = .ok (.iconst 0, 1) := by decide +kernel
theorem d1_60 : decode method_5_code 60 = .ok (.lload_n 1, 1) := by decide +kernel
theorem d1_61 : decode method_5_code 61 = .ok (.iconst 0, 1) := by decide +kernel
theorem d1_62 : decode method_5_code 62 = .ok (.invokestatic 24, 3) := by decide +kernel
theorem d1_65 : decode method_5_code 65 = .ok (.bastore, 1) := by decide +kernel
theorem d1_66 : decode method_5_code 66 = .ok (.dup, 1) := by decide +kernel
theorem d1_67 : decode method_5_code 67 = .ok (.iconst 1, 1) := by decide +kernel
theorem d1_68 : decode method_5_code 68 = .ok (.lload_n 1, 1) := by decide +kernel
theorem d1_69 : decode method_5_code 69 = .ok (.iconst 1, 1) := by decide +kernel
theorem d1_70 : decode method_5_code 70 = .ok (.invokestatic 24, 3) := by decide +kernel
theorem d1_73 : decode method_5_code 73 = .ok (.bastore, 1) := by decide +kernel
theorem d1_74 : decode method_5_code 74 = .ok (.dup, 1) := by decide +kernel
theorem d1_75 : decode method_5_code 75 = .ok (.iconst 2, 1) := by decide +kernel
theorem d1_76 : decode method_5_code 76 = .ok (.lload_n 1, 1) := by decide +kernel
theorem d1_77 : decode method_5_code 77 = .ok (.iconst 2, 1) := by decide +kernel
theorem d1_78 : decode method_5_code 78 = .ok (.invokestatic 24, 3) := by decide +kernel
theorem d1_81 : decode method_5_code 81 = .ok (.bastore, 1) := by decide +kernel
theorem d1_82 : decode method_5_code 82 = .ok (.areturn, 1) := by decide +kernel
def Q1_3 (Z : State) (q1 : Int64) (h0 : Heap) (n0 : Nat) (v : Option Value) (h : Heap) (L : List Loc) : Prop := ∃ (b : Addr) (kb : ClassId), v = some (.ref b) ∧ Fr n0 L ∧ Keep h0 h [] ∧ h0.size ≤ b ∧ Arv Z h b kb .byte (3 : Int32) [(.int (own_b q1 (0 : Int32))), (.int (own_b q1 (1 : Int32))), (.int (own_b q1 (2 : Int32)))] (.int (0 : Int32))
set_option maxRecDepth 65536 in
set_option maxHeartbeats 40000000 in
theorem rm1_3 (l : Launch) (Z : State) (a0 : Array Value) (hw : ∀ d ∈ tables_1, d.before a0 Z = true) (ws : List Jvm.Cond) (q1 : Int64) (h0 : Heap) (n0 : Nat) (Z0 : n0 ≤ h0.size)  :
    MetFree l (⟨"com/example/usrset/usrset/store/KeyPastTuplesOfPinLaw", "make", "(IJ)[B"⟩ : MethodName) (head1 (Jvm.Cond.code (⟨"com/example/usrset/usrset/store/KeyPastTuplesOfPinLaw", "make", "(IJ)[B"⟩ : MethodName) method_5_code 3 (some (.array .byte)) :: ws) ({ frames := 1, cells := 1, slots := 3, locals := 17 } : Room)) (fun a U => a = #[(.int (3 : Int32)), (.long q1)] ∧ Z.Warmed39 U.vm ∧ U.heap = h0) (fun _ _ _ _ _ => True) (fun _ U o U' => ∃ v L, o = .returned v ∧ Q1_3 Z q1 h0 n0 v U'.heap L ∧ FrameEnd U o U' L ({ frames := 1, cells := 1, slots := 3, locals := 17 } : Room).cells ({ frames := 1, cells := 1, slots := 3, locals := 17 } : Room).slots) := by
  refine MetFree.of_bodySF (plainFor_of_name pn_com_example_usrset_usrset_store_KeyPastTuplesOfPinLaw) hisR ?_
  intro p e s m args below meth c s₁ Bd hml0 hP hK
  obtain ⟨rfl, hZ, hh⟩ := hP
  have hx := Bd.exec
  have hby := Bd.bytes
  have hml : c.maxLocals = 3 := hml0
  have hown : s.vm.findClass "com/example/usrset/usrset/store/KeyPastTuplesOfPinLaw" = some m.cls := findClass_of_methodNamed Bd.named
  have hnm := (name_of_methodNamed Bd.named Bd.method).1
  have X0 : Stand p l e ({ frames := 1, cells := 1, slots := 3, locals := 17 } : Room) s m #[(.int (3 : Int32)), (.long q1)] below meth c s₁ [] 0 0 := Stand.of_body Bd
  have e0 : s₁.heap = h0 := by rw [← hh, Bd.state]; rfl
  have N0 := Fr.nil n0
  have pre0 : ∀ t, Steps p.tables e below (s₁.setTop (mkF m 0 #[.val (.int (3 : Int32)), .val (.long q1), .second] [])) t → Steps p.tables e below (s₁.setTop (entryFrame m #[(.int (3 : Int32)), (.long q1)] 3)) t := fun t k => castTop (ef_1_3 m (3 : Int32) q1) k
  have K0 : Keep h0 h0 [] := Keep.refl h0 []
  obtain ⟨T1, h1, k1, X1, e1, E1, A1, st1⟩ := newP X0 hx hZ (hw _ (List.mem_of_getElem? (i := 5) rfl)) e0 (g := (mkF m 56 #[.val (.int (3 : Int32)), .val (.long q1), .second] [(.int (3 : Int32))])) rfl (hb hby d1_56) rfl (by decide) (cap := 3) (by decide) (by decide) (by decide) (by decide)
  obtain ⟨b1, g1⟩ : ∃ z, z = h0.size := ⟨_, rfl⟩
  rw [← g1] at A1 st1
  have g_b1 : n0 ≤ b1 := Nat.le_trans Z0 (Nat.le_of_eq g1.symm)
  have sz_b1 : h0.size ≤ b1 := Nat.le_trans K0.1 (Nat.le_of_eq g1.symm)
  have K1 : Keep h0 h1 [] := K0.ext E1
  have Z1 : n0 ≤ h1.size := Nat.le_trans Z0 E1.1
  have xV_b1_at1 := (Arv.new A1 (by decide)).pad (pad_rep [] (.int (0 : Int32)) 3)
  have V_b1_at1 : Arv Z h1 b1 k1 .byte (3 : Int32) [(.int (0 : Int32)), (.int (0 : Int32)), (.int (0 : Int32))] (.int (0 : Int32)) := xV_b1_at1
  obtain ⟨_, _, ⟨T2, L2, k2, n2⟩, -, X2, ⟨Lc2, hQ2, l2, y2, z2⟩, st2⟩ := Jvm.LawKit.callS X1 hx (y := (⟨"com/example/usrset/usrset/store/KeyPastTuplesOfPinLaw", "b", "(JI)B"⟩ : MethodName)) hown (mvT hZ (hw _ (List.mem_of_getElem? (i := 25) rfl))) (mvT hZ (hw _ (List.mem_of_getElem? (i := 26) rfl))) (mvT hZ (hw _ (List.mem_of_getElem? (i := 3) rfl))) (mvT hZ (hw _ (List.mem_of_getElem? (i := 27) rfl))) (by decide) (backOf (W := 3) (rm6 l Z a0 hw [] q1 (0 : Int32) h1 n0 Z1) hZ (hw _ (List.mem_of_getElem? (i := 27) rfl)) (hw _ (List.mem_of_getElem? (i := 3) rfl)) (by decide) (by decide)) (g := (mkF m 62 #[.val (.int (3 : Int32)), .val (.long q1), .second] [(.int (0 : Int32)), (.long q1), (.int (0 : Int32)), (.ref b1), (.ref b1)])) rfl (by rw [hml]; rfl) (argsL := [(.long q1), (.int (0 : Int32))]) (rest := [(.int (0 : Int32)), (.ref b1), (.ref b1)]) (lenOf pd_28JI29B rfl) rfl (by show 2 * 0 + _ ≤ _; exact Nat.le_of_eq rfl) (hb hby d1_62) (fun _ _ => ⟨rfl, e1, (by decide : 1 + 0 ≤ _), (by decide : 3 + 0 ≤ _)⟩)
  dsimp only [Pt.U, Pt.locs, Pt.cells, Pt.slots] at X2 l2 y2 z2 st2 hQ2
  subst l2 y2 z2
  obtain ⟨rfl, N2q, e2⟩ := hQ2
  have N2 := Fr.app N0 N2q
  obtain ⟨cl_65, Ar_65, q_65, S_65, N_65, H_65, G_65⟩ := id V_b1_at1
  have hin65 : ¬ ((0 : Int32) < 0 ∨ cl_65.slots.size ≤ ((0 : Int32)).toNatClampNeg) := inb_of S_65 ⟨by decide, by decide⟩
  obtain ⟨T3, h3, X3, e3, W3, st3⟩ := stB X2 hx hZ e2 Ar_65 (j := (0 : Int32)) hin65 (g := (mkF m 65 #[.val (.int (3 : Int32)), .val (.long q1), .second] [(.int (own_b q1 (0 : Int32))), (.int (0 : Int32)), (.ref b1), (.ref b1)])) rfl rfl (hb hby d1_65)
  rw [own_nb] at W3
  have xV_b1_at3 := Arv.set Ar_65 q_65 S_65 N_65 H_65 G_65 (fits_nar_byte _) W3 0 rfl (Nat.le_of_ble_eq_true rfl)
  have V_b1_at3 : Arv Z h3 b1 k1 .byte (3 : Int32) [(.int (own_b q1 (0 : Int32))), (.int (0 : Int32)), (.int (0 : Int32))] (.int (0 : Int32)) := xV_b1_at3
  have K3 : Keep h0 h3 [] := K1.wr W3 (Or.inr sz_b1)
  have Z3 : n0 ≤ h3.size := Nat.le_trans Z1 (Keep.of_wr W3).1
  have N3 := Fr.snoc X3 N2 g_b1
  obtain ⟨_, _, ⟨T4, L4, k4, n4⟩, -, X4, ⟨Lc4, hQ4, l4, y4, z4⟩, st4⟩ := Jvm.LawKit.callS X3 hx (y := (⟨"com/example/usrset/usrset/store/KeyPastTuplesOfPinLaw", "b", "(JI)B"⟩ : MethodName)) hown (mvT hZ (hw _ (List.mem_of_getElem? (i := 25) rfl))) (mvT hZ (hw _ (List.mem_of_getElem? (i := 26) rfl))) (mvT hZ (hw _ (List.mem_of_getElem? (i := 3) rfl))) (mvT hZ (hw _ (List.mem_of_getElem? (i := 27) rfl))) (by decide) (backOf (W := 3) (rm6 l Z a0 hw [] q1 (1 : Int32) h3 n0 Z3) hZ (hw _ (List.mem_of_getElem? (i := 27) rfl)) (hw _ (List.mem_of_getElem? (i := 3) rfl)) (by decide) (by decide)) (g := (mkF m 70 #[.val (.int (3 : Int32)), .val (.long q1), .second] [(.int (1 : Int32)), (.long q1), (.int (1 : Int32)), (.ref b1), (.ref b1)])) rfl (by rw [hml]; rfl) (argsL := [(.long q1), (.int (1 : Int32))]) (rest := [(.int (1 : Int32)), (.ref b1), (.ref b1)]) (lenOf pd_28JI29B rfl) rfl (by show 2 * 0 + _ ≤ _; exact Nat.le_of_eq rfl) (hb hby d1_70) (fun _ _ => ⟨rfl, e3, (by decide : 1 + 0 ≤ _), (by decide : 3 + 0 ≤ _)⟩)
  dsimp only [Pt.U, Pt.locs, Pt.cells, Pt.slots] at X4 l4 y4 z4 st4 hQ4
  subst l4 y4 z4
  obtain ⟨rfl, N4q, e4⟩ := hQ4
  have N4 := Fr.app N3 N4q
  obtain ⟨cl_73, Ar_73, q_73, S_73, N_73, H_73, G_73⟩ := id V_b1_at3
  have hin73 : ¬ ((1 : Int32) < 0 ∨ cl_73.slots.size ≤ ((1 : Int32)).toNatClampNeg) := inb_of S_73 ⟨by decide, by decide⟩
  obtain ⟨T5, h5, X5, e5, W5, st5⟩ := stB X4 hx hZ e4 Ar_73 (j := (1 : Int32)) hin73 (g := (mkF m 73 #[.val (.int (3 : Int32)), .val (.long q1), .second] [(.int (own_b q1 (1 : Int32))), (.int (1 : Int32)), (.ref b1), (.ref b1)])) rfl rfl (hb hby d1_73)
  rw [own_nb] at W5
  have xV_b1_at5 := Arv.set Ar_73 q_73 S_73 N_73 H_73 G_73 (fits_nar_byte _) W5 1 rfl (Nat.le_of_ble_eq_true rfl)
  have V_b1_at5 : Arv Z h5 b1 k1 .byte (3 : Int32) [(.int (own_b q1 (0 : Int32))), (.int (own_b q1 (1 : Int32))), (.int (0 : Int32))] (.int (0 : Int32)) := xV_b1_at5
  have K5 : Keep h0 h5 [] := K3.wr W5 (Or.inr sz_b1)
  have Z5 : n0 ≤ h5.size := Nat.le_trans Z3 (Keep.of_wr W5).1
  have N5 := Fr.snoc X5 N4 g_b1
  obtain ⟨_, _, ⟨T6, L6, k6, n6⟩, -, X6, ⟨Lc6, hQ6, l6, y6, z6⟩, st6⟩ := Jvm.LawKit.callS X5 hx (y := (⟨"com/example/usrset/usrset/store/KeyPastTuplesOfPinLaw", "b", "(JI)B"⟩ : MethodName)) hown (mvT hZ (hw _ (List.mem_of_getElem? (i := 25) rfl))) (mvT hZ (hw _ (List.mem_of_getElem? (i := 26) rfl))) (mvT hZ (hw _ (List.mem_of_getElem? (i := 3) rfl))) (mvT hZ (hw _ (List.mem_of_getElem? (i := 27) rfl))) (by decide) (backOf (W := 3) (rm6 l Z a0 hw [] q1 (2 : Int32) h5 n0 Z5) hZ (hw _ (List.mem_of_getElem? (i := 27) rfl)) (hw _ (List.mem_of_getElem? (i := 3) rfl)) (by decide) (by decide)) (g := (mkF m 78 #[.val (.int (3 : Int32)), .val (.long q1), .second] [(.int (2 : Int32)), (.long q1), (.int (2 : Int32)), (.ref b1), (.ref b1)])) rfl (by rw [hml]; rfl) (argsL := [(.long q1), (.int (2 : Int32))]) (rest := [(.int (2 : Int32)), (.ref b1), (.ref b1)]) (lenOf pd_28JI29B rfl) rfl (by show 2 * 0 + _ ≤ _; exact Nat.le_of_eq rfl) (hb hby d1_78) (fun _ _ => ⟨rfl, e5, (by decide : 1 + 0 ≤ _), (by decide : 3 + 0 ≤ _)⟩)
  dsimp only [Pt.U, Pt.locs, Pt.cells, Pt.slots] at X6 l6 y6 z6 st6 hQ6
  subst l6 y6 z6
  obtain ⟨rfl, N6q, e6⟩ := hQ6
  have N6 := Fr.app N5 N6q
  obtain ⟨cl_81, Ar_81, q_81, S_81, N_81, H_81, G_81⟩ := id V_b1_at5
  have hin81 : ¬ ((2 : Int32) < 0 ∨ cl_81.slots.size ≤ ((2 : Int32)).toNatClampNeg) := inb_of S_81 ⟨by decide, by decide⟩
  obtain ⟨T7, h7, X7, e7, W7, st7⟩ := stB X6 hx hZ e6 Ar_81 (j := (2 : Int32)) hin81 (g := (mkF m 81 #[.val (.int (3 : Int32)), .val (.long q1), .second] [(.int (own_b q1 (2 : Int32))), (.int (2 : Int32)), (.ref b1), (.ref b1)])) rfl rfl (hb hby d1_81)
  rw [own_nb] at W7
  have xV_b1_at7 := Arv.set Ar_81 q_81 S_81 N_81 H_81 G_81 (fits_nar_byte _) W7 2 rfl (Nat.le_of_ble_eq_true rfl)
  have V_b1_at7 : Arv Z h7 b1 k1 .byte (3 : Int32) [(.int (own_b q1 (0 : Int32))), (.int (own_b q1 (1 : Int32))), (.int (own_b q1 (2 : Int32)))] (.int (0 : Int32)) := xV_b1_at7
  have K7 : Keep h0 h7 [] := K5.wr W7 (Or.inr sz_b1)
  have Z7 : n0 ≤ h7.size := Nat.le_trans Z5 (Keep.of_wr W7).1
  have N7 := Fr.snoc X7 N6 g_b1
  obtain ⟨fs, hr, hrun, hended, hW, hsame⟩ := X7.leave (v := some (.ref b1)) (fun h => by rw [Bd.returns] at h; cases h)
  refine ⟨_, _, pre0 _ ?_, hrun, hended, _, _, rfl, ?_, ⟨_, rfl⟩, hW, hsame.mono (by decide) (by decide)⟩
  · show Steps p.tables e below (s₁.setTop (mkF m 0 #[.val (.int (3 : Int32)), .val (.long q1), .second] [])) _
    refine XS.iloadN X0.here hx rfl (hb hby d1_0) rfl ?_
    show Steps p.tables e below (s₁.setTop (mkF m 1 #[.val (.int (3 : Int32)), .val (.long q1), .second] [(.int (3 : Int32))])) _
    refine XS.ifYes X0.here hx rfl (pc0 := 1) (pc' := 8) rfl (hb hby d1_1) rfl ((if0 _ _).trans (feq (by decide : ¬ ((3 : Int32) = (0 : Int32)))).2) (by decide) (by decide) ?_
    show Steps p.tables e below (s₁.setTop (mkF m 8 #[.val (.int (3 : Int32)), .val (.long q1), .second] [])) _
    refine XS.iloadN X0.here hx rfl (hb hby d1_8) rfl ?_
    show Steps p.tables e below (s₁.setTop (mkF m 9 #[.val (.int (3 : Int32)), .val (.long q1), .second] [(.int (3 : Int32))])) _
    refine XS.iconst X0.here hx rfl (hb hby d1_9) ?_
    show Steps p.tables e below (s₁.setTop (mkF m 10 #[.val (.int (3 : Int32)), .val (.long q1), .second] [(.int (1 : Int32)), (.int (3 : Int32))])) _
    refine XS.icmpYes X0.here hx rfl (pc0 := 10) (pc' := 25) rfl (hb hby d1_10) rfl (feq (by decide : ¬ ((3 : Int32) = (1 : Int32)))).2 (by decide) (by decide) ?_
    show Steps p.tables e below (s₁.setTop (mkF m 25 #[.val (.int (3 : Int32)), .val (.long q1), .second] [])) _
    refine XS.iloadN X0.here hx rfl (hb hby d1_25) rfl ?_
    show Steps p.tables e below (s₁.setTop (mkF m 26 #[.val (.int (3 : Int32)), .val (.long q1), .second] [(.int (3 : Int32))])) _
    refine XS.iconst X0.here hx rfl (hb hby d1_26) ?_
    show Steps p.tables e below (s₁.setTop (mkF m 27 #[.val (.int (3 : Int32)), .val (.long q1), .second] [(.int (2 : Int32)), (.int (3 : Int32))])) _
    refine XS.icmpYes X0.here hx rfl (pc0 := 27) (pc' := 50) rfl (hb hby d1_27) rfl (feq (by decide : ¬ ((3 : Int32) = (2 : Int32)))).2 (by decide) (by decide) ?_
    show Steps p.tables e below (s₁.setTop (mkF m 50 #[.val (.int (3 : Int32)), .val (.long q1), .second] [])) _
    refine XS.iloadN X0.here hx rfl (hb hby d1_50) rfl ?_
    show Steps p.tables e below (s₁.setTop (mkF m 51 #[.val (.int (3 : Int32)), .val (.long q1), .second] [(.int (3 : Int32))])) _
    refine XS.iconst X0.here hx rfl (hb hby d1_51) ?_
    show Steps p.tables e below (s₁.setTop (mkF m 52 #[.val (.int (3 : Int32)), .val (.long q1), .second] [(.int (3 : Int32)), (.int (3 : Int32))])) _
    refine XS.icmpNo X0.here hx rfl (hb hby d1_52) rfl (teq (by decide : (3 : Int32) = (3 : Int32))).2 ?_
    show Steps p.tables e below (s₁.setTop (mkF m 55 #[.val (.int (3 : Int32)), .val (.long q1), .second] [])) _
    refine XS.iconst X0.here hx rfl (hb hby d1_55) ?_
    show Steps p.tables e below (s₁.setTop (mkF m 56 #[.val (.int (3 : Int32)), .val (.long q1), .second] [(.int (3 : Int32))])) _
    refine st1 _ ?_
    show Steps p.tables e below (T1.setTop (mkF m 58 #[.val (.int (3 : Int32)), .val (.long q1), .second] [(.ref b1)])) _
    refine XS.dup X1.here hx rfl (hb hby d1_58) rfl rfl ?_
    show Steps p.tables e below (T1.setTop (mkF m 59 #[.val (.int (3 : Int32)), .val (.long q1), .second] [(.ref b1), (.ref b1)])) _
    refine XS.iconst X1.here hx rfl (hb hby d1_59) ?_
    show Steps p.tables e below (T1.setTop (mkF m 60 #[.val (.int (3 : Int32)), .val (.long q1), .second] [(.int (0 : Int32)), (.ref b1), (.ref b1)])) _
    refine XS.lloadN X1.here hx rfl (hb hby d1_60) rfl ?_
    show Steps p.tables e below (T1.setTop (mkF m 61 #[.val (.int (3 : Int32)), .val (.long q1), .second] [(.long q1), (.int (0 : Int32)), (.ref b1), (.ref b1)])) _
    refine XS.iconst X1.here hx rfl (hb hby d1_61) ?_
    show Steps p.tables e below (T1.setTop (mkF m 62 #[.val (.int (3 : Int32)), .val (.long q1), .second] [(.int (0 : Int32)), (.long q1), (.int (0 : Int32)), (.ref b1), (.ref b1)])) _
    refine st2 _ ?_
    show Steps p.tables e below (T2.setTop (mkF m 65 #[.val (.int (3 : Int32)), .val (.long q1), .second] [(.int (own_b q1 (0 : Int32))), (.int (0 : Int32)), (.ref b1), (.ref b1)])) _
    refine st3 _ ?_
    show Steps p.tables e below (T3.setTop (mkF m 66 #[.val (.int (3 : Int32)), .val (.long q1), .second] [(.ref b1)])) _
    refine XS.dup X3.here hx rfl (hb hby d1_66) rfl rfl ?_
    show Steps p.tables e below (T3.setTop (mkF m 67 #[.val (.int (3 : Int32)), .val (.long q1), .second] [(.ref b1), (.ref b1)])) _
    refine XS.iconst X3.here hx rfl (hb hby d1_67) ?_
    show Steps p.tables e below (T3.setTop (mkF m 68 #[.val (.int (3 : Int32)), .val (.long q1), .second] [(.int (1 : Int32)), (.ref b1), (.ref b1)])) _
    refine XS.lloadN X3.here hx rfl (hb hby d1_68) rfl ?_
    show Steps p.tables e below (T3.setTop (mkF m 69 #[.val (.int (3 : Int32)), .val (.long q1), .second] [(.long q1), (.int (1 : Int32)), (.ref b1), (.ref b1)])) _
    refine XS.iconst X3.here hx rfl (hb hby d1_69) ?_
    show Steps p.tables e below (T3.setTop (mkF m 70 #[.val (.int (3 : Int32)), .val (.long q1), .second] [(.int (1 : Int32)), (.long q1), (.int (1 : Int32)), (.ref b1), (.ref b1)])) _
    refine st4 _ ?_
    show Steps p.tables e below (T4.setTop (mkF m 73 #[.val (.int (3 : Int32)), .val (.long q1), .second] [(.int (own_b q1 (1 : Int32))), (.int (1 : Int32)), (.ref b1), (.ref b1)])) _
    refine st5 _ ?_
    show Steps p.tables e below (T5.setTop (mkF m 74 #[.val (.int (3 : Int32)), .val (.long q1), .second] [(.ref b1)])) _
    refine XS.dup X5.here hx rfl (hb hby d1_74) rfl rfl ?_
    show Steps p.tables e below (T5.setTop (mkF m 75 #[.val (.int (3 : Int32)), .val (.long q1), .second] [(.ref b1), (.ref b1)])) _
    refine XS.iconst X5.here hx rfl (hb hby d1_75) ?_
    show Steps p.tables e below (T5.setTop (mkF m 76 #[.val (.int (3 : Int32)), .val (.long q1), .second] [(.int (2 : Int32)), (.ref b1), (.ref b1)])) _
    refine XS.lloadN X5.here hx rfl (hb hby d1_76) rfl ?_
    show Steps p.tables e below (T5.setTop (mkF m 77 #[.val (.int (3 : Int32)), .val (.long q1), .second] [(.long q1), (.int (2 : Int32)), (.ref b1), (.ref b1)])) _
    refine XS.iconst X5.here hx rfl (hb hby d1_77) ?_
    show Steps p.tables e below (T5.setTop (mkF m 78 #[.val (.int (3 : Int32)), .val (.long q1), .second] [(.int (2 : Int32)), (.long q1), (.int (2 : Int32)), (.ref b1), (.ref b1)])) _
    refine st6 _ ?_
    show Steps p.tables e below (T6.setTop (mkF m 81 #[.val (.int (3 : Int32)), .val (.long q1), .second] [(.int (own_b q1 (2 : Int32))), (.int (2 : Int32)), (.ref b1), (.ref b1)])) _
    refine st7 _ ?_
    show Steps p.tables e below (T7.setTop (mkF m 82 #[.val (.int (3 : Int32)), .val (.long q1), .second] [(.ref b1)])) _
    jvm_step X7.here [X7.here.top, hx, (hb hby d1_82), X7.method', Bd.returns, Value.isRef, FieldType.isReference]
    first | (intro acts; rw [hr _ acts rfl rfl rfl]) | rw [hr _ _ rfl rfl rfl]
    exact Steps.refl _
  · show Q1_3 Z q1 h0 n0 _ T7.heap _
    rw [e7]
    exact ⟨b1, _, rfl, N7, K7, sz_b1, V_b1_at7⟩
theorem ef_1_4 (m : MethodId) (x0 : Int32) (x1 : Int64) : entryFrame m #[(.int x0), (.long x1)] 3 = mkF m 0 #[.val (.int x0), .val (.long x1), .second] [] := by first | (simp [entryFrame, mkF, argsToLocals, Value.category]; done) | rfl
theorem d1_83 : decode method_5_code 83 = .ok (.iload_n 0, 1) := by decide +kernel
theorem d1_84 : decode method_5_code 84 = .ok (.iconst 4, 1) := by decide +kernel
theorem d1_85 : decode method_5_code 85 = .ok (.if_icmp .ne 39, 3) := by decide +kernel
theorem d1_88 : decode method_5_code 88 = .ok (.iconst 4, 1) := by decide +kernel
theorem d1_89 : decode method_5_code 89 = .ok (.newarray .byte, 2) := by decide +kernel
theorem d1_91 : decode method_5_code 91 = .ok (.dup, 1) := by decide +kernel
theorem d1_92 : decode method_5_code 92 = .ok (.iconst 0, 1) := by decide +kernel
theorem d1_93 : decode method_5_code 93 = .ok (.lload_n 1, 1) := by decide +kernel
theorem d1_94 : decode method_5_code 94 = .ok (.iconst 0, 1) := by decide +kernel
theorem d1_95 : decode method_5_code 95 = .ok (.invokestatic 24, 3) := by decide +kernel
theorem d1_98 : decode method_5_code 98 = .ok (.bastore, 1) := by decide +kernel
theorem d1_99 : decode method_5_code 99 = .ok (.dup, 1) := by decide +kernel
theorem d1_100 : decode method_5_code 100 = .ok (.iconst 1, 1) := by decide +kernel
theorem d1_101 : decode method_5_code 101 = .ok (.lload_n 1, 1) := by decide +kernel
theorem d1_102 : decode method_5_code 102 = .ok (.iconst 1, 1) := by decide +kernel
theorem d1_103 : decode method_5_code 103 = .ok (.invokestatic 24, 3) := by decide +kernel
theorem d1_106 : decode method_5_code 106 = .ok (.bastore, 1) := by decide +kernel
theorem d1_107 : decode method_5_code 107 = .ok (.dup, 1) := by decide +kernel
theorem d1_108 : decode method_5_code 108 = .ok (.iconst 2, 1) := by decide +kernel
theorem d1_109 : decode method_5_code 109 = .ok (.lload_n 1, 1) := by decide +kernel
theorem d1_110 : decode method_5_code 110 = .ok (.iconst 2, 1) := by decide +kernel
theorem d1_111 : decode method_5_code 111 = .ok (.invokestatic 24, 3) := by decide +kernel
theorem d1_114 : decode method_5_code 114 = .ok (.bastore, 1) := by decide +kernel
theorem d1_115 : decode method_5_code 115 = .ok (.dup, 1) := by decide +kernel
theorem d1_116 : decode method_5_code 116 = .ok (.iconst 3, 1) := by decide +kernel
theorem d1_117 : decode method_5_code 117 = .ok (.lload_n 1, 1) := by decide +kernel
theorem d1_118 : decode method_5_code 118 = .ok (.iconst 3, 1) := by decide +kernel
theorem d1_119 : decode method_5_code 119 = .ok (.invokestatic 24, 3) := by decide +kernel
theorem d1_122 : decode method_5_code 122 = .ok (.bastore, 1) := by decide +kernel
theorem d1_123 : decode method_5_code 123 = .ok (.areturn, 1) := by decide +kernel
def Q1_4 (Z : State) (q1 : Int64) (h0 : Heap) (n0 : Nat) (v : Option Value) (h : Heap) (L : List Loc) : Prop := ∃ (b : Addr) (kb : ClassId), v = some (.ref b) ∧ Fr n0 L ∧ Keep h0 h [] ∧ h0.size ≤ b ∧ Arv Z h b kb .byte (4 : Int32) [(.int (own_b q1 (0 : Int32))), (.int (own_b q1 (1 : Int32))), (.int (own_b q1 (2 : Int32))), (.int (own_b q1 (3 : Int32)))] (.int (0 : Int32))
set_option maxRecDepth 65536 in
set_option maxHeartbeats 40000000 in
theorem rm1_4 (l : Launch) (Z : State) (a0 : Array Value) (hw : ∀ d ∈ tables_1, d.before a0 Z = true) (ws : List Jvm.Cond) (q1 : Int64) (h0 : Heap) (n0 : Nat) (Z0 : n0 ≤ h0.size)  :
    MetFree l (⟨"com/example/usrset/usrset/store/KeyPastTuplesOfPinLaw", "make", "(IJ)[B"⟩ : MethodName) (head1 (Jvm.Cond.code (⟨"com/example/usrset/usrset/store/KeyPastTuplesOfPinLaw", "make", "(IJ)[B"⟩ : MethodName) method_5_code 3 (some (.array .byte)) :: ws) ({ frames := 1, cells := 1, slots := 4, locals := 17 } : Room)) (fun a U => a = #[(.int (4 : Int32)), (.long q1)] ∧ Z.Warmed39 U.vm ∧ U.heap = h0) (fun _ _ _ _ _ => True) (fun _ U o U' => ∃ v L, o = .returned v ∧ Q1_4 Z q1 h0 n0 v U'.heap L ∧ FrameEnd U o U' L ({ frames := 1, cells := 1, slots := 4, locals := 17 } : Room).cells ({ frames := 1, cells := 1, slots := 4, locals := 17 } : Room).slots) := by
  refine MetFree.of_bodySF (plainFor_of_name pn_com_example_usrset_usrset_store_KeyPastTuplesOfPinLaw) hisR ?_
  intro p e s m args below meth c s₁ Bd hml0 hP hK
  obtain ⟨rfl, hZ, hh⟩ := hP
  have hx := Bd.exec
  have hby := Bd.bytes
  have hml : c.maxLocals = 3 := hml0
  have hown : s.vm.findClass "com/example/usrset/usrset/store/KeyPastTuplesOfPinLaw" = some m.cls := findClass_of_methodNamed Bd.named
  have hnm := (name_of_methodNamed Bd.named Bd.method).1
  have X0 : Stand p l e ({ frames := 1, cells := 1, slots := 4, locals := 17 } : Room) s m #[(.int (4 : Int32)), (.long q1)] below meth c s₁ [] 0 0 := Stand.of_body Bd
  have e0 : s₁.heap = h0 := by rw [← hh, Bd.state]; rfl
  have N0 := Fr.nil n0
  have pre0 : ∀ t, Steps p.tables e below (s₁.setTop (mkF m 0 #[.val (.int (4 : Int32)), .val (.long q1), .second] [])) t → Steps p.tables e below (s₁.setTop (entryFrame m #[(.int (4 : Int32)), (.long q1)] 3)) t := fun t k => castTop (ef_1_4 m (4 : Int32) q1) k
  have K0 : Keep h0 h0 [] := Keep.refl h0 []
  obtain ⟨T1, h1, k1, X1, e1, E1, A1, st1⟩ := newP X0 hx hZ (hw _ (List.mem_of_getElem? (i := 5) rfl)) e0 (g := (mkF m 89 #[.val (.int (4 : Int32)), .val (.long q1), .second] [(.int (4 : Int32))])) rfl (hb hby d1_89) rfl (by decide) (cap := 4) (by decide) (by decide) (by decide) (by decide)
  obtain ⟨b1, g1⟩ : ∃ z, z = h0.size := ⟨_, rfl⟩
  rw [← g1] at A1 st1
  have g_b1 : n0 ≤ b1 := Nat.le_trans Z0 (Nat.le_of_eq g1.symm)
  have sz_b1 : h0.size ≤ b1 := Nat.le_trans K0.1 (Nat.le_of_eq g1.symm)
  have K1 : Keep h0 h1 [] := K0.ext E1
  have Z1 : n0 ≤ h1.size := Nat.le_trans Z0 E1.1
  have xV_b1_at1 := (Arv.new A1 (by decide)).pad (pad_rep [] (.int (0 : Int32)) 4)
  have V_b1_at1 : Arv Z h1 b1 k1 .byte (4 : Int32) [(.int (0 : Int32)), (.int (0 : Int32)), (.int (0 : Int32)), (.int (0 : Int32))] (.int (0 : Int32)) := xV_b1_at1
  obtain ⟨_, _, ⟨T2, L2, k2, n2⟩, -, X2, ⟨Lc2, hQ2, l2, y2, z2⟩, st2⟩ := Jvm.LawKit.callS X1 hx (y := (⟨"com/example/usrset/usrset/store/KeyPastTuplesOfPinLaw", "b", "(JI)B"⟩ : MethodName)) hown (mvT hZ (hw _ (List.mem_of_getElem? (i := 25) rfl))) (mvT hZ (hw _ (List.mem_of_getElem? (i := 26) rfl))) (mvT hZ (hw _ (List.mem_of_getElem? (i := 3) rfl))) (mvT hZ (hw _ (List.mem_of_getElem? (i := 27) rfl))) (by decide) (backOf (W := 3) (rm6 l Z a0 hw [] q1 (0 : Int32) h1 n0 Z1) hZ (hw _ (List.mem_of_getElem? (i := 27) rfl)) (hw _ (List.mem_of_getElem? (i := 3) rfl)) (by decide) (by decide)) (g := (mkF m 95 #[.val (.int (4 : Int32)), .val (.long q1), .second] [(.int (0 : Int32)), (.long q1), (.int (0 : Int32)), (.ref b1), (.ref b1)])) rfl (by rw [hml]; rfl) (argsL := [(.long q1), (.int (0 : Int32))]) (rest := [(.int (0 : Int32)), (.ref b1), (.ref b1)]) (lenOf pd_28JI29B rfl) rfl (by show 2 * 0 + _ ≤ _; exact Nat.le_of_eq rfl) (hb hby d1_95) (fun _ _ => ⟨rfl, e1, (by decide : 1 + 0 ≤ _), (by decide : 4 + 0 ≤ _)⟩)
  dsimp only [Pt.U, Pt.locs, Pt.cells, Pt.slots] at X2 l2 y2 z2 st2 hQ2
  subst l2 y2 z2
  obtain ⟨rfl, N2q, e2⟩ := hQ2
  have N2 := Fr.app N0 N2q
  obtain ⟨cl_98, Ar_98, q_98, S_98, N_98, H_98, G_98⟩ := id V_b1_at1
  have hin98 : ¬ ((0 : Int32) < 0 ∨ cl_98.slots.size ≤ ((0 : Int32)).toNatClampNeg) := inb_of S_98 ⟨by decide, by decide⟩
  obtain ⟨T3, h3, X3, e3, W3, st3⟩ := stB X2 hx hZ e2 Ar_98 (j := (0 : Int32)) hin98 (g := (mkF m 98 #[.val (.int (4 : Int32)), .val (.long q1), .second] [(.int (own_b q1 (0 : Int32))), (.int (0 : Int32)), (.ref b1), (.ref b1)])) rfl rfl (hb hby d1_98)
  rw [own_nb] at W3
  have xV_b1_at3 := Arv.set Ar_98 q_98 S_98 N_98 H_98 G_98 (fits_nar_byte _) W3 0 rfl (Nat.le_of_ble_eq_true rfl)
  have V_b1_at3 : Arv Z h3 b1 k1 .byte (4 : Int32) [(.int (own_b q1 (0 : Int32))), (.int (0 : Int32)), (.int (0 : Int32)), (.int (0 : Int32))] (.int (0 : Int32)) := xV_b1_at3
  have K3 : Keep h0 h3 [] := K1.wr W3 (Or.inr sz_b1)
  have Z3 : n0 ≤ h3.size := Nat.le_trans Z1 (Keep.of_wr W3).1
  have N3 := Fr.snoc X3 N2 g_b1
  obtain ⟨_, _, ⟨T4, L4, k4, n4⟩, -, X4, ⟨Lc4, hQ4, l4, y4, z4⟩, st4⟩ := Jvm.LawKit.callS X3 hx (y := (⟨"com/example/usrset/usrset/store/KeyPastTuplesOfPinLaw", "b", "(JI)B"⟩ : MethodName)) hown (mvT hZ (hw _ (List.mem_of_getElem? (i := 25) rfl))) (mvT hZ (hw _ (List.mem_of_getElem? (i := 26) rfl))) (mvT hZ (hw _ (List.mem_of_getElem? (i := 3) rfl))) (mvT hZ (hw _ (List.mem_of_getElem? (i := 27) rfl))) (by decide) (backOf (W := 3) (rm6 l Z a0 hw [] q1 (1 : Int32) h3 n0 Z3) hZ (hw _ (List.mem_of_getElem? (i := 27) rfl)) (hw _ (List.mem_of_getElem? (i := 3) rfl)) (by decide) (by decide)) (g := (mkF m 103 #[.val (.int (4 : Int32)), .val (.long q1), .second] [(.int (1 : Int32)), (.long q1), (.int (1 : Int32)), (.ref b1), (.ref b1)])) rfl (by rw [hml]; rfl) (argsL := [(.long q1), (.int (1 : Int32))]) (rest := [(.int (1 : Int32)), (.ref b1), (.ref b1)]) (lenOf pd_28JI29B rfl) rfl (by show 2 * 0 + _ ≤ _; exact Nat.le_of_eq rfl) (hb hby d1_103) (fun _ _ => ⟨rfl, e3, (by decide : 1 + 0 ≤ _), (by decide : 4 + 0 ≤ _)⟩)
  dsimp only [Pt.U, Pt.locs, Pt.cells, Pt.slots] at X4 l4 y4 z4 st4 hQ4
  subst l4 y4 z4
  obtain ⟨rfl, N4q, e4⟩ := hQ4
  have N4 := Fr.app N3 N4q
  obtain ⟨cl_106, Ar_106, q_106, S_106, N_106, H_106, G_106⟩ := id V_b1_at3
  have hin106 : ¬ ((1 : Int32) < 0 ∨ cl_106.slots.size ≤ ((1 : Int32)).toNatClampNeg) := inb_of S_106 ⟨by decide, by decide⟩
  obtain ⟨T5, h5, X5, e5, W5, st5⟩ := stB X4 hx hZ e4 Ar_106 (j := (1 : Int32)) hin106 (g := (mkF m 106 #[.val (.int (4 : Int32)), .val (.long q1), .second] [(.int (own_b q1 (1 : Int32))), (.int (1 : Int32)), (.ref b1), (.ref b1)])) rfl rfl (hb hby d1_106)
  rw [own_nb] at W5
  have xV_b1_at5 := Arv.set Ar_106 q_106 S_106 N_106 H_106 G_106 (fits_nar_byte _) W5 1 rfl (Nat.le_of_ble_eq_true rfl)
  have V_b1_at5 : Arv Z h5 b1 k1 .byte (4 : Int32) [(.int (own_b q1 (0 : Int32))), (.int (own_b q1 (1 : Int32))), (.int (0 : Int32)), (.int (0 : Int32))] (.int (0 : Int32)) := xV_b1_at5
  have K5 : Keep h0 h5 [] := K3.wr W5 (Or.inr sz_b1)
  have Z5 : n0 ≤ h5.size := Nat.le_trans Z3 (Keep.of_wr W5).1
  have N5 := Fr.snoc X5 N4 g_b1
  obtain ⟨_, _, ⟨T6, L6, k6, n6⟩, -, X6, ⟨Lc6, hQ6, l6, y6, z6⟩, st6⟩ := Jvm.LawKit.callS X5 hx (y := (⟨"com/example/usrset/usrset/store/KeyPastTuplesOfPinLaw", "b", "(JI)B"⟩ : MethodName)) hown (mvT hZ (hw _ (List.mem_of_getElem? (i := 25) rfl))) (mvT hZ (hw _ (List.mem_of_getElem? (i := 26) rfl))) (mvT hZ (hw _ (List.mem_of_getElem? (i := 3) rfl))) (mvT hZ (hw _ (List.mem_of_getElem? (i := 27) rfl))) (by decide) (backOf (W := 3) (rm6 l Z a0 hw [] q1 (2 : Int32) h5 n0 Z5) hZ (hw _ (List.mem_of_getElem? (i := 27) rfl)) (hw _ (List.mem_of_getElem? (i := 3) rfl)) (by decide) (by decide)) (g := (mkF m 111 #[.val (.int (4 : Int32)), .val (.long q1), .second] [(.int (2 : Int32)), (.long q1), (.int (2 : Int32)), (.ref b1), (.ref b1)])) rfl (by rw [hml]; rfl) (argsL := [(.long q1), (.int (2 : Int32))]) (rest := [(.int (2 : Int32)), (.ref b1), (.ref b1)]) (lenOf pd_28JI29B rfl) rfl (by show 2 * 0 + _ ≤ _; exact Nat.le_of_eq rfl) (hb hby d1_111) (fun _ _ => ⟨rfl, e5, (by decide : 1 + 0 ≤ _), (by decide : 4 + 0 ≤ _)⟩)
  dsimp only [Pt.U, Pt.locs, Pt.cells, Pt.slots] at X6 l6 y6 z6 st6 hQ6
  subst l6 y6 z6
  obtain ⟨rfl, N6q, e6⟩ := hQ6
  have N6 := Fr.app N5 N6q
  obtain ⟨cl_114, Ar_114, q_114, S_114, N_114, H_114, G_114⟩ := id V_b1_at5
  have hin114 : ¬ ((2 : Int32) < 0 ∨ cl_114.slots.size ≤ ((2 : Int32)).toNatClampNeg) := inb_of S_114 ⟨by decide, by decide⟩
  obtain ⟨T7, h7, X7, e7, W7, st7⟩ := stB X6 hx hZ e6 Ar_114 (j := (2 : Int32)) hin114 (g := (mkF m 114 #[.val (.int (4 : Int32)), .val (.long q1), .second] [(.int (own_b q1 (2 : Int32))), (.int (2 : Int32)), (.ref b1), (.ref b1)])) rfl rfl (hb hby d1_114)
  rw [own_nb] at W7
  have xV_b1_at7 := Arv.set Ar_114 q_114 S_114 N_114 H_114 G_114 (fits_nar_byte _) W7 2 rfl (Nat.le_of_ble_eq_true rfl)
  have V_b1_at7 : Arv Z h7 b1 k1 .byte (4 : Int32) [(.int (own_b q1 (0 : Int32))), (.int (own_b q1 (1 : Int32))), (.int (own_b q1 (2 : Int32))), (.int (0 : Int32))] (.int (0 : Int32)) := xV_b1_at7
  have K7 : Keep h0 h7 [] := K5.wr W7 (Or.inr sz_b1)
  have Z7 : n0 ≤ h7.size := Nat.le_trans Z5 (Keep.of_wr W7).1
  have N7 := Fr.snoc X7 N6 g_b1
  obtain ⟨_, _, ⟨T8, L8, k8, n8⟩, -, X8, ⟨Lc8, hQ8, l8, y8, z8⟩, st8⟩ := Jvm.LawKit.callS X7 hx (y := (⟨"com/example/usrset/usrset/store/KeyPastTuplesOfPinLaw", "b", "(JI)B"⟩ : MethodName)) hown (mvT hZ (hw _ (List.mem_of_getElem? (i := 25) rfl))) (mvT hZ (hw _ (List.mem_of_getElem? (i := 26) rfl))) (mvT hZ (hw _ (List.mem_of_getElem? (i := 3) rfl))) (mvT hZ (hw _ (List.mem_of_getElem? (i := 27) rfl))) (by decide) (backOf (W := 3) (rm6 l Z a0 hw [] q1 (3 : Int32) h7 n0 Z7) hZ (hw _ (List.mem_of_getElem? (i := 27) rfl)) (hw _ (List.mem_of_getElem? (i := 3) rfl)) (by decide) (by decide)) (g := (mkF m 119 #[.val (.int (4 : Int32)), .val (.long q1), .second] [(.int (3 : Int32)), (.long q1), (.int (3 : Int32)), (.ref b1), (.ref b1)])) rfl (by rw [hml]; rfl) (argsL := [(.long q1), (.int (3 : Int32))]) (rest := [(.int (3 : Int32)), (.ref b1), (.ref b1)]) (lenOf pd_28JI29B rfl) rfl (by show 2 * 0 + _ ≤ _; exact Nat.le_of_eq rfl) (hb hby d1_119) (fun _ _ => ⟨rfl, e7, (by decide : 1 + 0 ≤ _), (by decide : 4 + 0 ≤ _)⟩)
  dsimp only [Pt.U, Pt.locs, Pt.cells, Pt.slots] at X8 l8 y8 z8 st8 hQ8
  subst l8 y8 z8
  obtain ⟨rfl, N8q, e8⟩ := hQ8
  have N8 := Fr.app N7 N8q
  obtain ⟨cl_122, Ar_122, q_122, S_122, N_122, H_122, G_122⟩ := id V_b1_at7
  have hin122 : ¬ ((3 : Int32) < 0 ∨ cl_122.slots.size ≤ ((3 : Int32)).toNatClampNeg) := inb_of S_122 ⟨by decide, by decide⟩
  obtain ⟨T9, h9, X9, e9, W9, st9⟩ := stB X8 hx hZ e8 Ar_122 (j := (3 : Int32)) hin122 (g := (mkF m 122 #[.val (.int (4 : Int32)), .val (.long q1), .second] [(.int (own_b q1 (3 : Int32))), (.int (3 : Int32)), (.ref b1), (.ref b1)])) rfl rfl (hb hby d1_122)
  rw [own_nb] at W9
  have xV_b1_at9 := Arv.set Ar_122 q_122 S_122 N_122 H_122 G_122 (fits_nar_byte _) W9 3 rfl (Nat.le_of_ble_eq_true rfl)
  have V_b1_at9 : Arv Z h9 b1 k1 .byte (4 : Int32) [(.int (own_b q1 (0 : Int32))), (.int (own_b q1 (1 : Int32))), (.int (own_b q1 (2 : Int32))), (.int (own_b q1 (3 : Int32)))] (.int (0 : Int32)) := xV_b1_at9
  have K9 : Keep h0 h9 [] := K7.wr W9 (Or.inr sz_b1)
  have Z9 : n0 ≤ h9.size := Nat.le_trans Z7 (Keep.of_wr W9).1
  have N9 := Fr.snoc X9 N8 g_b1
  obtain ⟨fs, hr, hrun, hended, hW, hsame⟩ := X9.leave (v := some (.ref b1)) (fun h => by rw [Bd.returns] at h; cases h)
  refine ⟨_, _, pre0 _ ?_, hrun, hended, _, _, rfl, ?_, ⟨_, rfl⟩, hW, hsame.mono (by decide) (by decide)⟩
  · show Steps p.tables e below (s₁.setTop (mkF m 0 #[.val (.int (4 : Int32)), .val (.long q1), .second] [])) _
    refine XS.iloadN X0.here hx rfl (hb hby d1_0) rfl ?_
    show Steps p.tables e below (s₁.setTop (mkF m 1 #[.val (.int (4 : Int32)), .val (.long q1), .second] [(.int (4 : Int32))])) _
    refine XS.ifYes X0.here hx rfl (pc0 := 1) (pc' := 8) rfl (hb hby d1_1) rfl ((if0 _ _).trans (feq (by decide : ¬ ((4 : Int32) = (0 : Int32)))).2) (by decide) (by decide) ?_
    show Steps p.tables e below (s₁.setTop (mkF m 8 #[.val (.int (4 : Int32)), .val (.long q1), .second] [])) _
    refine XS.iloadN X0.here hx rfl (hb hby d1_8) rfl ?_
    show Steps p.tables e below (s₁.setTop (mkF m 9 #[.val (.int (4 : Int32)), .val (.long q1), .second] [(.int (4 : Int32))])) _
    refine XS.iconst X0.here hx rfl (hb hby d1_9) ?_
    show Steps p.tables e below (s₁.setTop (mkF m 10 #[.val (.int (4 : Int32)), .val (.long q1), .second] [(.int (1 : Int32)), (.int (4 : Int32))])) _
    refine XS.icmpYes X0.here hx rfl (pc0 := 10) (pc' := 25) rfl (hb hby d1_10) rfl (feq (by decide : ¬ ((4 : Int32) = (1 : Int32)))).2 (by decide) (by decide) ?_
    show Steps p.tables e below (s₁.setTop (mkF m 25 #[.val (.int (4 : Int32)), .val (.long q1), .second] [])) _
    refine XS.iloadN X0.here hx rfl (hb hby d1_25) rfl ?_
    show Steps p.tables e below (s₁.setTop (mkF m 26 #[.val (.int (4 : Int32)), .val (.long q1), .second] [(.int (4 : Int32))])) _
    refine XS.iconst X0.here hx rfl (hb hby d1_26) ?_
    show Steps p.tables e below (s₁.setTop (mkF m 27 #[.val (.int (4 : Int32)), .val (.long q1), .second] [(.int (2 : Int32)), (.int (4 : Int32))])) _
    refine XS.icmpYes X0.here hx rfl (pc0 := 27) (pc' := 50) rfl (hb hby d1_27) rfl (feq (by decide : ¬ ((4 : Int32) = (2 : Int32)))).2 (by decide) (by decide) ?_
    show Steps p.tables e below (s₁.setTop (mkF m 50 #[.val (.int (4 : Int32)), .val (.long q1), .second] [])) _
    refine XS.iloadN X0.here hx rfl (hb hby d1_50) rfl ?_
    show Steps p.tables e below (s₁.setTop (mkF m 51 #[.val (.int (4 : Int32)), .val (.long q1), .second] [(.int (4 : Int32))])) _
    refine XS.iconst X0.here hx rfl (hb hby d1_51) ?_
    show Steps p.tables e below (s₁.setTop (mkF m 52 #[.val (.int (4 : Int32)), .val (.long q1), .second] [(.int (3 : Int32)), (.int (4 : Int32))])) _
    refine XS.icmpYes X0.here hx rfl (pc0 := 52) (pc' := 83) rfl (hb hby d1_52) rfl (feq (by decide : ¬ ((4 : Int32) = (3 : Int32)))).2 (by decide) (by decide) ?_
    show Steps p.tables e below (s₁.setTop (mkF m 83 #[.val (.int (4 : Int32)), .val (.long q1), .second] [])) _
    refine XS.iloadN X0.here hx rfl (hb hby d1_83) rfl ?_
    show Steps p.tables e below (s₁.setTop (mkF m 84 #[.val (.int (4 : Int32)), .val (.long q1), .second] [(.int (4 : Int32))])) _
    refine XS.iconst X0.here hx rfl (hb hby d1_84) ?_
    show Steps p.tables e below (s₁.setTop (mkF m 85 #[.val (.int (4 : Int32)), .val (.long q1), .second] [(.int (4 : Int32)), (.int (4 : Int32))])) _
    refine XS.icmpNo X0.here hx rfl (hb hby d1_85) rfl (teq (by decide : (4 : Int32) = (4 : Int32))).2 ?_
    show Steps p.tables e below (s₁.setTop (mkF m 88 #[.val (.int (4 : Int32)), .val (.long q1), .second] [])) _
    refine XS.iconst X0.here hx rfl (hb hby d1_88) ?_
    show Steps p.tables e below (s₁.setTop (mkF m 89 #[.val (.int (4 : Int32)), .val (.long q1), .second] [(.int (4 : Int32))])) _
    refine st1 _ ?_
    show Steps p.tables e below (T1.setTop (mkF m 91 #[.val (.int (4 : Int32)), .val (.long q1), .second] [(.ref b1)])) _
    refine XS.dup X1.here hx rfl (hb hby d1_91) rfl rfl ?_
    show Steps p.tables e below (T1.setTop (mkF m 92 #[.val (.int (4 : Int32)), .val (.long q1), .second] [(.ref b1), (.ref b1)])) _
    refine XS.iconst X1.here hx rfl (hb hby d1_92) ?_
    show Steps p.tables e below (T1.setTop (mkF m 93 #[.val (.int (4 : Int32)), .val (.long q1), .second] [(.int (0 : Int32)), (.ref b1), (.ref b1)])) _
    refine XS.lloadN X1.here hx rfl (hb hby d1_93) rfl ?_
    show Steps p.tables e below (T1.setTop (mkF m 94 #[.val (.int (4 : Int32)), .val (.long q1), .second] [(.long q1), (.int (0 : Int32)), (.ref b1), (.ref b1)])) _
    refine XS.iconst X1.here hx rfl (hb hby d1_94) ?_
    show Steps p.tables e below (T1.setTop (mkF m 95 #[.val (.int (4 : Int32)), .val (.long q1), .second] [(.int (0 : Int32)), (.long q1), (.int (0 : Int32)), (.ref b1), (.ref b1)])) _
    refine st2 _ ?_
    show Steps p.tables e below (T2.setTop (mkF m 98 #[.val (.int (4 : Int32)), .val (.long q1), .second] [(.int (own_b q1 (0 : Int32))), (.int (0 : Int32)), (.ref b1), (.ref b1)])) _
    refine st3 _ ?_
    show Steps p.tables e below (T3.setTop (mkF m 99 #[.val (.int (4 : Int32)), .val (.long q1), .second] [(.ref b1)])) _
    refine XS.dup X3.here hx rfl (hb hby d1_99) rfl rfl ?_
    show Steps p.tables e below (T3.setTop (mkF m 100 #[.val (.int (4 : Int32)), .val (.long q1), .second] [(.ref b1), (.ref b1)])) _
    refine XS.iconst X3.here hx rfl (hb hby d1_100) ?_
    show Steps p.tables e below (T3.setTop (mkF m 101 #[.val (.int (4 : Int32)), .val (.long q1), .second] [(.int (1 : Int32)), (.ref b1), (.ref b1)])) _
    refine XS.lloadN X3.here hx rfl (hb hby d1_101) rfl ?_
    show Steps p.tables e below (T3.setTop (mkF m 102 #[.val (.int (4 : Int32)), .val (.long q1), .second] [(.long q1), (.int (1 : Int32)), (.ref b1), (.ref b1)])) _
    refine XS.iconst X3.here hx rfl (hb hby d1_102) ?_
    show Steps p.tables e below (T3.setTop (mkF m 103 #[.val (.int (4 : Int32)), .val (.long q1), .second] [(.int (1 : Int32)), (.long q1), (.int (1 : Int32)), (.ref b1), (.ref b1)])) _
    refine st4 _ ?_
    show Steps p.tables e below (T4.setTop (mkF m 106 #[.val (.int (4 : Int32)), .val (.long q1), .second] [(.int (own_b q1 (1 : Int32))), (.int (1 : Int32)), (.ref b1), (.ref b1)])) _
    refine st5 _ ?_
    show Steps p.tables e below (T5.setTop (mkF m 107 #[.val (.int (4 : Int32)), .val (.long q1), .second] [(.ref b1)])) _
    refine XS.dup X5.here hx rfl (hb hby d1_107) rfl rfl ?_
    show Steps p.tables e below (T5.setTop (mkF m 108 #[.val (.int (4 : Int32)), .val (.long q1), .second] [(.ref b1), (.ref b1)])) _
    refine XS.iconst X5.here hx rfl (hb hby d1_108) ?_
    show Steps p.tables e below (T5.setTop (mkF m 109 #[.val (.int (4 : Int32)), .val (.long q1), .second] [(.int (2 : Int32)), (.ref b1), (.ref b1)])) _
    refine XS.lloadN X5.here hx rfl (hb hby d1_109) rfl ?_
    show Steps p.tables e below (T5.setTop (mkF m 110 #[.val (.int (4 : Int32)), .val (.long q1), .second] [(.long q1), (.int (2 : Int32)), (.ref b1), (.ref b1)])) _
    refine XS.iconst X5.here hx rfl (hb hby d1_110) ?_
    show Steps p.tables e below (T5.setTop (mkF m 111 #[.val (.int (4 : Int32)), .val (.long q1), .second] [(.int (2 : Int32)), (.long q1), (.int (2 : Int32)), (.ref b1), (.ref b1)])) _
    refine st6 _ ?_
    show Steps p.tables e below (T6.setTop (mkF m 114 #[.val (.int (4 : Int32)), .val (.long q1), .second] [(.int (own_b q1 (2 : Int32))), (.int (2 : Int32)), (.ref b1), (.ref b1)])) _
    refine st7 _ ?_
    show Steps p.tables e below (T7.setTop (mkF m 115 #[.val (.int (4 : Int32)), .val (.long q1), .second] [(.ref b1)])) _
    refine XS.dup X7.here hx rfl (hb hby d1_115) rfl rfl ?_
    show Steps p.tables e below (T7.setTop (mkF m 116 #[.val (.int (4 : Int32)), .val (.long q1), .second] [(.ref b1), (.ref b1)])) _
    refine XS.iconst X7.here hx rfl (hb hby d1_116) ?_
    show Steps p.tables e below (T7.setTop (mkF m 117 #[.val (.int (4 : Int32)), .val (.long q1), .second] [(.int (3 : Int32)), (.ref b1), (.ref b1)])) _
    refine XS.lloadN X7.here hx rfl (hb hby d1_117) rfl ?_
    show Steps p.tables e below (T7.setTop (mkF m 118 #[.val (.int (4 : Int32)), .val (.long q1), .second] [(.long q1), (.int (3 : Int32)), (.ref b1), (.ref b1)])) _
    refine XS.iconst X7.here hx rfl (hb hby d1_118) ?_
    show Steps p.tables e below (T7.setTop (mkF m 119 #[.val (.int (4 : Int32)), .val (.long q1), .second] [(.int (3 : Int32)), (.long q1), (.int (3 : Int32)), (.ref b1), (.ref b1)])) _
    refine st8 _ ?_
    show Steps p.tables e below (T8.setTop (mkF m 122 #[.val (.int (4 : Int32)), .val (.long q1), .second] [(.int (own_b q1 (3 : Int32))), (.int (3 : Int32)), (.ref b1), (.ref b1)])) _
    refine st9 _ ?_
    show Steps p.tables e below (T9.setTop (mkF m 123 #[.val (.int (4 : Int32)), .val (.long q1), .second] [(.ref b1)])) _
    jvm_step X9.here [X9.here.top, hx, (hb hby d1_123), X9.method', Bd.returns, Value.isRef, FieldType.isReference]
    first | (intro acts; rw [hr _ acts rfl rfl rfl]) | rw [hr _ _ rfl rfl rfl]
    exact Steps.refl _
  · show Q1_4 Z q1 h0 n0 _ T9.heap _
    rw [e9]
    exact ⟨b1, _, rfl, N9, K9, sz_b1, V_b1_at9⟩
theorem ef_1_5 (m : MethodId) (x0 : Int32) (x1 : Int64) : entryFrame m #[(.int x0), (.long x1)] 3 = mkF m 0 #[.val (.int x0), .val (.long x1), .second] [] := by first | (simp [entryFrame, mkF, argsToLocals, Value.category]; done) | rfl
theorem d1_124 : decode method_5_code 124 = .ok (.iconst 5, 1) := by decide +kernel
theorem d1_125 : decode method_5_code 125 = .ok (.newarray .byte, 2) := by decide +kernel
theorem d1_127 : decode method_5_code 127 = .ok (.dup, 1) := by decide +kernel
theorem d1_128 : decode method_5_code 128 = .ok (.iconst 0, 1) := by decide +kernel
theorem d1_129 : decode method_5_code 129 = .ok (.lload_n 1, 1) := by decide +kernel
theorem d1_130 : decode method_5_code 130 = .ok (.iconst 0, 1) := by decide +kernel
theorem d1_131 : decode method_5_code 131 = .ok (.invokestatic 24, 3) := by decide +kernel
theorem d1_134 : decode method_5_code 134 = .ok (.bastore, 1) := by decide +kernel
theorem d1_135 : decode method_5_code 135 = .ok (.dup, 1) := by decide +kernel
theorem d1_136 : decode method_5_code 136 = .ok (.iconst 1, 1) := by decide +kernel
theorem d1_137 : decode method_5_code 137 = .ok (.lload_n 1, 1) := by decide +kernel
theorem d1_138 : decode method_5_code 138 = .ok (.iconst 1, 1) := by decide +kernel
theorem d1_139 : decode method_5_code 139 = .ok (.invokestatic 24, 3) := by decide +kernel
theorem d1_142 : decode method_5_code 142 = .ok (.bastore, 1) := by decide +kernel
theorem d1_143 : decode method_5_code 143 = .ok (.dup, 1) := by decide +kernel
theorem d1_144 : decode method_5_code 144 = .ok (.iconst 2, 1) := by decide +kernel
theorem d1_145 : decode method_5_code 145 = .ok (.lload_n 1, 1) := by decide +kernel
theorem d1_146 : decode method_5_code 146 = .ok (.iconst 2, 1) := by decide +kernel
theorem d1_147 : decode method_5_code 147 = .ok (.invokestatic 24, 3) := by decide +kernel
theorem d1_150 : decode method_5_code 150 = .ok (.bastore, 1) := by decide +kernel
theorem d1_151 : decode method_5_code 151 = .ok (.dup, 1) := by decide +kernel
theorem d1_152 : decode method_5_code 152 = .ok (.iconst 3, 1) := by decide +kernel
theorem d1_153 : decode method_5_code 153 = .ok (.lload_n 1, 1) := by decide +kernel
theorem d1_154 : decode method_5_code 154 = .ok (.iconst 3, 1) := by decide +kernel
theorem d1_155 : decode method_5_code 155 = .ok (.invokestatic 24, 3) := by decide +kernel
theorem d1_158 : decode method_5_code 158 = .ok (.bastore, 1) := by decide +kernel
theorem d1_159 : decode method_5_code 159 = .ok (.dup, 1) := by decide +kernel
theorem d1_160 : decode method_5_code 160 = .ok (.iconst 4, 1) := by decide +kernel
theorem d1_161 : decode method_5_code 161 = .ok (.lload_n 1, 1) := by decide +kernel
theorem d1_162 : decode method_5_code 162 = .ok (.iconst 4, 1) := by decide +kernel
theorem d1_163 : decode method_5_code 163 = .ok (.invokestatic 24, 3) := by decide +kernel
theorem d1_166 : decode method_5_code 166 = .ok (.bastore, 1) := by decide +kernel
theorem d1_167 : decode method_5_code 167 = .ok (.areturn, 1) := by decide +kernel
def Q1_5 (Z : State) (q1 : Int64) (h0 : Heap) (n0 : Nat) (v : Option Value) (h : Heap) (L : List Loc) : Prop := ∃ (b : Addr) (kb : ClassId), v = some (.ref b) ∧ Fr n0 L ∧ Keep h0 h [] ∧ h0.size ≤ b ∧ Arv Z h b kb .byte (5 : Int32) [(.int (own_b q1 (0 : Int32))), (.int (own_b q1 (1 : Int32))), (.int (own_b q1 (2 : Int32))), (.int (own_b q1 (3 : Int32))), (.int (own_b q1 (4 : Int32)))] (.int (0 : Int32))
set_option maxRecDepth 65536 in
set_option maxHeartbeats 40000000 in
theorem rm1_5 (l : Launch) (Z : State) (a0 : Array Value) (hw : ∀ d ∈ tables_1, d.before a0 Z = true) (ws : List Jvm.Cond) (q1 : Int64) (h0 : Heap) (n0 : Nat) (Z0 : n0 ≤ h0.size)  :
    MetFree l (⟨"com/example/usrset/usrset/store/KeyPastTuplesOfPinLaw", "make", "(IJ)[B"⟩ : MethodName) (head1 (Jvm.Cond.code (⟨"com/example/usrset/usrset/store/KeyPastTuplesOfPinLaw", "make", "(IJ)[B"⟩ : MethodName) method_5_code 3 (some (.array .byte)) :: ws) ({ frames := 1, cells := 1, slots := 5, locals := 17 } : Room)) (fun a U => a = #[(.int (5 : Int32)), (.long q1)] ∧ Z.Warmed39 U.vm ∧ U.heap = h0) (fun _ _ _ _ _ => True) (fun _ U o U' => ∃ v L, o = .returned v ∧ Q1_5 Z q1 h0 n0 v U'.heap L ∧ FrameEnd U o U' L ({ frames := 1, cells := 1, slots := 5, locals := 17 } : Room).cells ({ frames := 1, cells := 1, slots := 5, locals := 17 } : Room).slots) := by
  refine MetFree.of_bodySF (plainFor_of_name pn_com_example_usrset_usrset_store_KeyPastTuplesOfPinLaw) hisR ?_
  intro p e s m args below meth c s₁ Bd hml0 hP hK
  obtain ⟨rfl, hZ, hh⟩ := hP
  have hx := Bd.exec
  have hby := Bd.bytes
  have hml : c.maxLocals = 3 := hml0
  have hown : s.vm.findClass "com/example/usrset/usrset/store/KeyPastTuplesOfPinLaw" = some m.cls := findClass_of_methodNamed Bd.named
  have hnm := (name_of_methodNamed Bd.named Bd.method).1
  have X0 : Stand p l e ({ frames := 1, cells := 1, slots := 5, locals := 17 } : Room) s m #[(.int (5 : Int32)), (.long q1)] below meth c s₁ [] 0 0 := Stand.of_body Bd
  have e0 : s₁.heap = h0 := by rw [← hh, Bd.state]; rfl
  have N0 := Fr.nil n0
  have pre0 : ∀ t, Steps p.tables e below (s₁.setTop (mkF m 0 #[.val (.int (5 : Int32)), .val (.long q1), .second] [])) t → Steps p.tables e below (s₁.setTop (entryFrame m #[(.int (5 : Int32)), (.long q1)] 3)) t := fun t k => castTop (ef_1_5 m (5 : Int32) q1) k
  have K0 : Keep h0 h0 [] := Keep.refl h0 []
  obtain ⟨T1, h1, k1, X1, e1, E1, A1, st1⟩ := newP X0 hx hZ (hw _ (List.mem_of_getElem? (i := 5) rfl)) e0 (g := (mkF m 125 #[.val (.int (5 : Int32)), .val (.long q1), .second] [(.int (5 : Int32))])) rfl (hb hby d1_125) rfl (by decide) (cap := 5) (by decide) (by decide) (by decide) (by decide)
  obtain ⟨b1, g1⟩ : ∃ z, z = h0.size := ⟨_, rfl⟩
  rw [← g1] at A1 st1
  have g_b1 : n0 ≤ b1 := Nat.le_trans Z0 (Nat.le_of_eq g1.symm)
  have sz_b1 : h0.size ≤ b1 := Nat.le_trans K0.1 (Nat.le_of_eq g1.symm)
  have K1 : Keep h0 h1 [] := K0.ext E1
  have Z1 : n0 ≤ h1.size := Nat.le_trans Z0 E1.1
  have xV_b1_at1 := (Arv.new A1 (by decide)).pad (pad_rep [] (.int (0 : Int32)) 5)
  have V_b1_at1 : Arv Z h1 b1 k1 .byte (5 : Int32) [(.int (0 : Int32)), (.int (0 : Int32)), (.int (0 : Int32)), (.int (0 : Int32)), (.int (0 : Int32))] (.int (0 : Int32)) := xV_b1_at1
  obtain ⟨_, _, ⟨T2, L2, k2, n2⟩, -, X2, ⟨Lc2, hQ2, l2, y2, z2⟩, st2⟩ := Jvm.LawKit.callS X1 hx (y := (⟨"com/example/usrset/usrset/store/KeyPastTuplesOfPinLaw", "b", "(JI)B"⟩ : MethodName)) hown (mvT hZ (hw _ (List.mem_of_getElem? (i := 25) rfl))) (mvT hZ (hw _ (List.mem_of_getElem? (i := 26) rfl))) (mvT hZ (hw _ (List.mem_of_getElem? (i := 3) rfl))) (mvT hZ (hw _ (List.mem_of_getElem? (i := 27) rfl))) (by decide) (backOf (W := 3) (rm6 l Z a0 hw [] q1 (0 : Int32) h1 n0 Z1) hZ (hw _ (List.mem_of_getElem? (i := 27) rfl)) (hw _ (List.mem_of_getElem? (i := 3) rfl)) (by decide) (by decide)) (g := (mkF m 131 #[.val (.int (5 : Int32)), .val (.long q1), .second] [(.int (0 : Int32)), (.long q1), (.int (0 : Int32)), (.ref b1), (.ref b1)])) rfl (by rw [hml]; rfl) (argsL := [(.long q1), (.int (0 : Int32))]) (rest := [(.int (0 : Int32)), (.ref b1), (.ref b1)]) (lenOf pd_28JI29B rfl) rfl (by show 2 * 0 + _ ≤ _; exact Nat.le_of_eq rfl) (hb hby d1_131) (fun _ _ => ⟨rfl, e1, (by decide : 1 + 0 ≤ _), (by decide : 5 + 0 ≤ _)⟩)
  dsimp only [Pt.U, Pt.locs, Pt.cells, Pt.slots] at X2 l2 y2 z2 st2 hQ2
  subst l2 y2 z2
  obtain ⟨rfl, N2q, e2⟩ := hQ2
  have N2 := Fr.app N0 N2q
  obtain ⟨cl_134, Ar_134, q_134, S_134, N_134, H_134, G_134⟩ := id V_b1_at1
  have hin134 : ¬ ((0 : Int32) < 0 ∨ cl_134.slots.size ≤ ((0 : Int32)).toNatClampNeg) := inb_of S_134 ⟨by decide, by decide⟩
  obtain ⟨T3, h3, X3, e3, W3, st3⟩ := stB X2 hx hZ e2 Ar_134 (j := (0 : Int32)) hin134 (g := (mkF m 134 #[.val (.int (5 : Int32)), .val (.long q1), .second] [(.int (own_b q1 (0 : Int32))), (.int (0 : Int32)), (.ref b1), (.ref b1)])) rfl rfl (hb hby d1_134)
  rw [own_nb] at W3
  have xV_b1_at3 := Arv.set Ar_134 q_134 S_134 N_134 H_134 G_134 (fits_nar_byte _) W3 0 rfl (Nat.le_of_ble_eq_true rfl)
  have V_b1_at3 : Arv Z h3 b1 k1 .byte (5 : Int32) [(.int (own_b q1 (0 : Int32))), (.int (0 : Int32)), (.int (0 : Int32)), (.int (0 : Int32)), (.int (0 : Int32))] (.int (0 : Int32)) := xV_b1_at3
  have K3 : Keep h0 h3 [] := K1.wr W3 (Or.inr sz_b1)
  have Z3 : n0 ≤ h3.size := Nat.le_trans Z1 (Keep.of_wr W3).1
  have N3 := Fr.snoc X3 N2 g_b1
  obtain ⟨_, _, ⟨T4, L4, k4, n4⟩, -, X4, ⟨Lc4, hQ4, l4, y4, z4⟩, st4⟩ := Jvm.LawKit.callS X3 hx (y := (⟨"com/example/usrset/usrset/store/KeyPastTuplesOfPinLaw", "b", "(JI)B"⟩ : MethodName)) hown (mvT hZ (hw _ (List.mem_of_getElem? (i := 25) rfl))) (mvT hZ (hw _ (List.mem_of_getElem? (i := 26) rfl))) (mvT hZ (hw _ (List.mem_of_getElem? (i := 3) rfl))) (mvT hZ (hw _ (List.mem_of_getElem? (i := 27) rfl))) (by decide) (backOf (W := 3) (rm6 l Z a0 hw [] q1 (1 : Int32) h3 n0 Z3) hZ (hw _ (List.mem_of_getElem? (i := 27) rfl)) (hw _ (List.mem_of_getElem? (i := 3) rfl)) (by decide) (by decide)) (g := (mkF m 139 #[.val (.int (5 : Int32)), .val (.long q1), .second] [(.int (1 : Int32)), (.long q1), (.int (1 : Int32)), (.ref b1), (.ref b1)])) rfl (by rw [hml]; rfl) (argsL := [(.long q1), (.int (1 : Int32))]) (rest := [(.int (1 : Int32)), (.ref b1), (.ref b1)]) (lenOf pd_28JI29B rfl) rfl (by show 2 * 0 + _ ≤ _; exact Nat.le_of_eq rfl) (hb hby d1_139) (fun _ _ => ⟨rfl, e3, (by decide : 1 + 0 ≤ _), (by decide : 5 + 0 ≤ _)⟩)
  dsimp only [Pt.U, Pt.locs, Pt.cells, Pt.slots] at X4 l4 y4 z4 st4 hQ4
  subst l4 y4 z4
  obtain ⟨rfl, N4q, e4⟩ := hQ4
  have N4 := Fr.app N3 N4q
  obtain ⟨cl_142, Ar_142, q_142, S_142, N_142, H_142, G_142⟩ := id V_b1_at3
  have hin142 : ¬ ((1 : Int32) < 0 ∨ cl_142.slots.size ≤ ((1 : Int32)).toNatClampNeg) := inb_of S_142 ⟨by decide, by decide⟩
  obtain ⟨T5, h5, X5, e5, W5, st5⟩ := stB X4 hx hZ e4 Ar_142 (j := (1 : Int32)) hin142 (g := (mkF m 142 #[.val (.int (5 : Int32)), .val (.long q1), .second] [(.int (own_b q1 (1 : Int32))), (.int (1 : Int32)), (.ref b1), (.ref b1)])) rfl rfl (hb hby d1_142)
  rw [own_nb] at W5
  have xV_b1_at5 := Arv.set Ar_142 q_142 S_142 N_142 H_142 G_142 (fits_nar_byte _) W5 1 rfl (Nat.le_of_ble_eq_true rfl)
  have V_b1_at5 : Arv Z h5 b1 k1 .byte (5 : Int32) [(.int (own_b q1 (0 : Int32))), (.int (own_b q1 (1 : Int32))), (.int (0 : Int32)), (.int (0 : Int32)), (.int (0 : Int32))] (.int (0 : Int32)) := xV_b1_at5
  have K5 : Keep h0 h5 [] := K3.wr W5 (Or.inr sz_b1)
  have Z5 : n0 ≤ h5.size := Nat.le_trans Z3 (Keep.of_wr W5).1
  have N5 := Fr.snoc X5 N4 g_b1
  obtain ⟨_, _, ⟨T6, L6, k6, n6⟩, -, X6, ⟨Lc6, hQ6, l6, y6, z6⟩, st6⟩ := Jvm.LawKit.callS X5 hx (y := (⟨"com/example/usrset/usrset/store/KeyPastTuplesOfPinLaw", "b", "(JI)B"⟩ : MethodName)) hown (mvT hZ (hw _ (List.mem_of_getElem? (i := 25) rfl))) (mvT hZ (hw _ (List.mem_of_getElem? (i := 26) rfl))) (mvT hZ (hw _ (List.mem_of_getElem? (i := 3) rfl))) (mvT hZ (hw _ (List.mem_of_getElem? (i := 27) rfl))) (by decide) (backOf (W := 3) (rm6 l Z a0 hw [] q1 (2 : Int32) h5 n0 Z5) hZ (hw _ (List.mem_of_getElem? (i := 27) rfl)) (hw _ (List.mem_of_getElem? (i := 3) rfl)) (by decide) (by decide)) (g := (mkF m 147 #[.val (.int (5 : Int32)), .val (.long q1), .second] [(.int (2 : Int32)), (.long q1), (.int (2 : Int32)), (.ref b1), (.ref b1)])) rfl (by rw [hml]; rfl) (argsL := [(.long q1), (.int (2 : Int32))]) (rest := [(.int (2 : Int32)), (.ref b1), (.ref b1)]) (lenOf pd_28JI29B rfl) rfl (by show 2 * 0 + _ ≤ _; exact Nat.le_of_eq rfl) (hb hby d1_147) (fun _ _ => ⟨rfl, e5, (by decide : 1 + 0 ≤ _), (by decide : 5 + 0 ≤ _)⟩)
  dsimp only [Pt.U, Pt.locs, Pt.cells, Pt.slots] at X6 l6 y6 z6 st6 hQ6
  subst l6 y6 z6
  obtain ⟨rfl, N6q, e6⟩ := hQ6
  have N6 := Fr.app N5 N6q
  obtain ⟨cl_150, Ar_150, q_150, S_150, N_150, H_150, G_150⟩ := id V_b1_at5
  have hin150 : ¬ ((2 : Int32) < 0 ∨ cl_150.slots.size ≤ ((2 : Int32)).toNatClampNeg) := inb_of S_150 ⟨by decide, by decide⟩
  obtain ⟨T7, h7, X7, e7, W7, st7⟩ := stB X6 hx hZ e6 Ar_150 (j := (2 : Int32)) hin150 (g := (mkF m 150 #[.val (.int (5 : Int32)), .val (.long q1), .second] [(.int (own_b q1 (2 : Int32))), (.int (2 : Int32)), (.ref b1), (.ref b1)])) rfl rfl (hb hby d1_150)
  rw [own_nb] at W7
  have xV_b1_at7 := Arv.set Ar_150 q_150 S_150 N_150 H_150 G_150 (fits_nar_byte _) W7 2 rfl (Nat.le_of_ble_eq_true rfl)
  have V_b1_at7 : Arv Z h7 b1 k1 .byte (5 : Int32) [(.int (own_b q1 (0 : Int32))), (.int (own_b q1 (1 : Int32))), (.int (own_b q1 (2 : Int32))), (.int (0 : Int32)), (.int (0 : Int32))] (.int (0 : Int32)) := xV_b1_at7
  have K7 : Keep h0 h7 [] := K5.wr W7 (Or.inr sz_b1)
  have Z7 : n0 ≤ h7.size := Nat.le_trans Z5 (Keep.of_wr W7).1
  have N7 := Fr.snoc X7 N6 g_b1
  obtain ⟨_, _, ⟨T8, L8, k8, n8⟩, -, X8, ⟨Lc8, hQ8, l8, y8, z8⟩, st8⟩ := Jvm.LawKit.callS X7 hx (y := (⟨"com/example/usrset/usrset/store/KeyPastTuplesOfPinLaw", "b", "(JI)B"⟩ : MethodName)) hown (mvT hZ (hw _ (List.mem_of_getElem? (i := 25) rfl))) (mvT hZ (hw _ (List.mem_of_getElem? (i := 26) rfl))) (mvT hZ (hw _ (List.mem_of_getElem? (i := 3) rfl))) (mvT hZ (hw _ (List.mem_of_getElem? (i := 27) rfl))) (by decide) (backOf (W := 3) (rm6 l Z a0 hw [] q1 (3 : Int32) h7 n0 Z7) hZ (hw _ (List.mem_of_getElem? (i := 27) rfl)) (hw _ (List.mem_of_getElem? (i := 3) rfl)) (by decide) (by decide)) (g := (mkF m 155 #[.val (.int (5 : Int32)), .val (.long q1), .second] [(.int (3 : Int32)), (.long q1), (.int (3 : Int32)), (.ref b1), (.ref b1)])) rfl (by rw [hml]; rfl) (argsL := [(.long q1), (.int (3 : Int32))]) (rest := [(.int (3 : Int32)), (.ref b1), (.ref b1)]) (lenOf pd_28JI29B rfl) rfl (by show 2 * 0 + _ ≤ _; exact Nat.le_of_eq rfl) (hb hby d1_155) (fun _ _ => ⟨rfl, e7, (by decide : 1 + 0 ≤ _), (by decide : 5 + 0 ≤ _)⟩)
  dsimp only [Pt.U, Pt.locs, Pt.cells, Pt.slots] at X8 l8 y8 z8 st8 hQ8
  subst l8 y8 z8
  obtain ⟨rfl, N8q, e8⟩ := hQ8
  have N8 := Fr.app N7 N8q
  obtain ⟨cl_158, Ar_158, q_158, S_158, N_158, H_158, G_158⟩ := id V_b1_at7
  have hin158 : ¬ ((3 : Int32) < 0 ∨ cl_158.slots.size ≤ ((3 : Int32)).toNatClampNeg) := inb_of S_158 ⟨by decide, by decide⟩
  obtain ⟨T9, h9, X9, e9, W9, st9⟩ := stB X8 hx hZ e8 Ar_158 (j := (3 : Int32)) hin158 (g := (mkF m 158 #[.val (.int (5 : Int32)), .val (.long q1), .second] [(.int (own_b q1 (3 : Int32))), (.int (3 : Int32)), (.ref b1), (.ref b1)])) rfl rfl (hb hby d1_158)
  rw [own_nb] at W9
  have xV_b1_at9 := Arv.set Ar_158 q_158 S_158 N_158 H_158 G_158 (fits_nar_byte _) W9 3 rfl (Nat.le_of_ble_eq_true rfl)
  have V_b1_at9 : Arv Z h9 b1 k1 .byte (5 : Int32) [(.int (own_b q1 (0 : Int32))), (.int (own_b q1 (1 : Int32))), (.int (own_b q1 (2 : Int32))), (.int (own_b q1 (3 : Int32))), (.int (0 : Int32))] (.int (0 : Int32)) := xV_b1_at9
  have K9 : Keep h0 h9 [] := K7.wr W9 (Or.inr sz_b1)
  have Z9 : n0 ≤ h9.size := Nat.le_trans Z7 (Keep.of_wr W9).1
  have N9 := Fr.snoc X9 N8 g_b1
  obtain ⟨_, _, ⟨T10, L10, k10, n10⟩, -, X10, ⟨Lc10, hQ10, l10, y10, z10⟩, st10⟩ := Jvm.LawKit.callS X9 hx (y := (⟨"com/example/usrset/usrset/store/KeyPastTuplesOfPinLaw", "b", "(JI)B"⟩ : MethodName)) hown (mvT hZ (hw _ (List.mem_of_getElem? (i := 25) rfl))) (mvT hZ (hw _ (List.mem_of_getElem? (i := 26) rfl))) (mvT hZ (hw _ (List.mem_of_getElem? (i := 3) rfl))) (mvT hZ (hw _ (List.mem_of_getElem? (i := 27) rfl))) (by decide) (backOf (W := 3) (rm6 l Z a0 hw [] q1 (4 : Int32) h9 n0 Z9) hZ (hw _ (List.mem_of_getElem? (i := 27) rfl)) (hw _ (List.mem_of_getElem? (i := 3) rfl)) (by decide) (by decide)) (g := (mkF m 163 #[.val (.int (5 : Int32)), .val (.long q1), .second] [(.int (4 : Int32)), (.long q1), (.int (4 : Int32)), (.ref b1), (.ref b1)])) rfl (by rw [hml]; rfl) (argsL := [(.long q1), (.int (4 : Int32))]) (rest := [(.int (4 : Int32)), (.ref b1), (.ref b1)]) (lenOf pd_28JI29B rfl) rfl (by show 2 * 0 + _ ≤ _; exact Nat.le_of_eq rfl) (hb hby d1_163) (fun _ _ => ⟨rfl, e9, (by decide : 1 + 0 ≤ _), (by decide : 5 + 0 ≤ _)⟩)
  dsimp only [Pt.U, Pt.locs, Pt.cells, Pt.slots] at X10 l10 y10 z10 st10 hQ10
  subst l10 y10 z10
  obtain ⟨rfl, N10q, e10⟩ := hQ10
  have N10 := Fr.app N9 N10q
  obtain ⟨cl_166, Ar_166, q_166, S_166, N_166, H_166, G_166⟩ := id V_b1_at9
  have hin166 : ¬ ((4 : Int32) < 0 ∨ cl_166.slots.size ≤ ((4 : Int32)).toNatClampNeg) := inb_of S_166 ⟨by decide, by decide⟩
  obtain ⟨T11, h11, X11, e11, W11, st11⟩ := stB X10 hx hZ e10 Ar_166 (j := (4 : Int32)) hin166 (g := (mkF m 166 #[.val (.int (5 : Int32)), .val (.long q1), .second] [(.int (own_b q1 (4 : Int32))), (.int (4 : Int32)), (.ref b1), (.ref b1)])) rfl rfl (hb hby d1_166)
  rw [own_nb] at W11
  have xV_b1_at11 := Arv.set Ar_166 q_166 S_166 N_166 H_166 G_166 (fits_nar_byte _) W11 4 rfl (Nat.le_of_ble_eq_true rfl)
  have V_b1_at11 : Arv Z h11 b1 k1 .byte (5 : Int32) [(.int (own_b q1 (0 : Int32))), (.int (own_b q1 (1 : Int32))), (.int (own_b q1 (2 : Int32))), (.int (own_b q1 (3 : Int32))), (.int (own_b q1 (4 : Int32)))] (.int (0 : Int32)) := xV_b1_at11
  have K11 : Keep h0 h11 [] := K9.wr W11 (Or.inr sz_b1)
  have Z11 : n0 ≤ h11.size := Nat.le_trans Z9 (Keep.of_wr W11).1
  have N11 := Fr.snoc X11 N10 g_b1
  obtain ⟨fs, hr, hrun, hended, hW, hsame⟩ := X11.leave (v := some (.ref b1)) (fun h => by rw [Bd.returns] at h; cases h)
  refine ⟨_, _, pre0 _ ?_, hrun, hended, _, _, rfl, ?_, ⟨_, rfl⟩, hW, hsame.mono (by decide) (by decide)⟩
  · show Steps p.tables e below (s₁.setTop (mkF m 0 #[.val (.int (5 : Int32)), .val (.long q1), .second] [])) _
    refine XS.iloadN X0.here hx rfl (hb hby d1_0) rfl ?_
    show Steps p.tables e below (s₁.setTop (mkF m 1 #[.val (.int (5 : Int32)), .val (.long q1), .second] [(.int (5 : Int32))])) _
    refine XS.ifYes X0.here hx rfl (pc0 := 1) (pc' := 8) rfl (hb hby d1_1) rfl ((if0 _ _).trans (feq (by decide : ¬ ((5 : Int32) = (0 : Int32)))).2) (by decide) (by decide) ?_
    show Steps p.tables e below (s₁.setTop (mkF m 8 #[.val (.int (5 : Int32)), .val (.long q1), .second] [])) _
    refine XS.iloadN X0.here hx rfl (hb hby d1_8) rfl ?_
    show Steps p.tables e below (s₁.setTop (mkF m 9 #[.val (.int (5 : Int32)), .val (.long q1), .second] [(.int (5 : Int32))])) _
    refine XS.iconst X0.here hx rfl (hb hby d1_9) ?_
    show Steps p.tables e below (s₁.setTop (mkF m 10 #[.val (.int (5 : Int32)), .val (.long q1), .second] [(.int (1 : Int32)), (.int (5 : Int32))])) _
    refine XS.icmpYes X0.here hx rfl (pc0 := 10) (pc' := 25) rfl (hb hby d1_10) rfl (feq (by decide : ¬ ((5 : Int32) = (1 : Int32)))).2 (by decide) (by decide) ?_
    show Steps p.tables e below (s₁.setTop (mkF m 25 #[.val (.int (5 : Int32)), .val (.long q1), .second] [])) _
    refine XS.iloadN X0.here hx rfl (hb hby d1_25) rfl ?_
    show Steps p.tables e below (s₁.setTop (mkF m 26 #[.val (.int (5 : Int32)), .val (.long q1), .second] [(.int (5 : Int32))])) _
    refine XS.iconst X0.here hx rfl (hb hby d1_26) ?_
    show Steps p.tables e below (s₁.setTop (mkF m 27 #[.val (.int (5 : Int32)), .val (.long q1), .second] [(.int (2 : Int32)), (.int (5 : Int32))])) _
    refine XS.icmpYes X0.here hx rfl (pc0 := 27) (pc' := 50) rfl (hb hby d1_27) rfl (feq (by decide : ¬ ((5 : Int32) = (2 : Int32)))).2 (by decide) (by decide) ?_
    show Steps p.tables e below (s₁.setTop (mkF m 50 #[.val (.int (5 : Int32)), .val (.long q1), .second] [])) _
    refine XS.iloadN X0.here hx rfl (hb hby d1_50) rfl ?_
    show Steps p.tables e below (s₁.setTop (mkF m 51 #[.val (.int (5 : Int32)), .val (.long q1), .second] [(.int (5 : Int32))])) _
    refine XS.iconst X0.here hx rfl (hb hby d1_51) ?_
    show Steps p.tables e below (s₁.setTop (mkF m 52 #[.val (.int (5 : Int32)), .val (.long q1), .second] [(.int (3 : Int32)), (.int (5 : Int32))])) _
    refine XS.icmpYes X0.here hx rfl (pc0 := 52) (pc' := 83) rfl (hb hby d1_52) rfl (feq (by decide : ¬ ((5 : Int32) = (3 : Int32)))).2 (by decide) (by decide) ?_
    show Steps p.tables e below (s₁.setTop (mkF m 83 #[.val (.int (5 : Int32)), .val (.long q1), .second] [])) _
    refine XS.iloadN X0.here hx rfl (hb hby d1_83) rfl ?_
    show Steps p.tables e below (s₁.setTop (mkF m 84 #[.val (.int (5 : Int32)), .val (.long q1), .second] [(.int (5 : Int32))])) _
    refine XS.iconst X0.here hx rfl (hb hby d1_84) ?_
    show Steps p.tables e below (s₁.setTop (mkF m 85 #[.val (.int (5 : Int32)), .val (.long q1), .second] [(.int (4 : Int32)), (.int (5 : Int32))])) _
    refine XS.icmpYes X0.here hx rfl (pc0 := 85) (pc' := 124) rfl (hb hby d1_85) rfl (feq (by decide : ¬ ((5 : Int32) = (4 : Int32)))).2 (by decide) (by decide) ?_
    show Steps p.tables e below (s₁.setTop (mkF m 124 #[.val (.int (5 : Int32)), .val (.long q1), .second] [])) _
    refine XS.iconst X0.here hx rfl (hb hby d1_124) ?_
    show Steps p.tables e below (s₁.setTop (mkF m 125 #[.val (.int (5 : Int32)), .val (.long q1), .second] [(.int (5 : Int32))])) _
    refine st1 _ ?_
    show Steps p.tables e below (T1.setTop (mkF m 127 #[.val (.int (5 : Int32)), .val (.long q1), .second] [(.ref b1)])) _
    refine XS.dup X1.here hx rfl (hb hby d1_127) rfl rfl ?_
    show Steps p.tables e below (T1.setTop (mkF m 128 #[.val (.int (5 : Int32)), .val (.long q1), .second] [(.ref b1), (.ref b1)])) _
    refine XS.iconst X1.here hx rfl (hb hby d1_128) ?_
    show Steps p.tables e below (T1.setTop (mkF m 129 #[.val (.int (5 : Int32)), .val (.long q1), .second] [(.int (0 : Int32)), (.ref b1), (.ref b1)])) _
    refine XS.lloadN X1.here hx rfl (hb hby d1_129) rfl ?_
    show Steps p.tables e below (T1.setTop (mkF m 130 #[.val (.int (5 : Int32)), .val (.long q1), .second] [(.long q1), (.int (0 : Int32)), (.ref b1), (.ref b1)])) _
    refine XS.iconst X1.here hx rfl (hb hby d1_130) ?_
    show Steps p.tables e below (T1.setTop (mkF m 131 #[.val (.int (5 : Int32)), .val (.long q1), .second] [(.int (0 : Int32)), (.long q1), (.int (0 : Int32)), (.ref b1), (.ref b1)])) _
    refine st2 _ ?_
    show Steps p.tables e below (T2.setTop (mkF m 134 #[.val (.int (5 : Int32)), .val (.long q1), .second] [(.int (own_b q1 (0 : Int32))), (.int (0 : Int32)), (.ref b1), (.ref b1)])) _
    refine st3 _ ?_
    show Steps p.tables e below (T3.setTop (mkF m 135 #[.val (.int (5 : Int32)), .val (.long q1), .second] [(.ref b1)])) _
    refine XS.dup X3.here hx rfl (hb hby d1_135) rfl rfl ?_
    show Steps p.tables e below (T3.setTop (mkF m 136 #[.val (.int (5 : Int32)), .val (.long q1), .second] [(.ref b1), (.ref b1)])) _
    refine XS.iconst X3.here hx rfl (hb hby d1_136) ?_
    show Steps p.tables e below (T3.setTop (mkF m 137 #[.val (.int (5 : Int32)), .val (.long q1), .second] [(.int (1 : Int32)), (.ref b1), (.ref b1)])) _
    refine XS.lloadN X3.here hx rfl (hb hby d1_137) rfl ?_
    show Steps p.tables e below (T3.setTop (mkF m 138 #[.val (.int (5 : Int32)), .val (.long q1), .second] [(.long q1), (.int (1 : Int32)), (.ref b1), (.ref b1)])) _
    refine XS.iconst X3.here hx rfl (hb hby d1_138) ?_
    show Steps p.tables e below (T3.setTop (mkF m 139 #[.val (.int (5 : Int32)), .val (.long q1), .second] [(.int (1 : Int32)), (.long q1), (.int (1 : Int32)), (.ref b1), (.ref b1)])) _
    refine st4 _ ?_
    show Steps p.tables e below (T4.setTop (mkF m 142 #[.val (.int (5 : Int32)), .val (.long q1), .second] [(.int (own_b q1 (1 : Int32))), (.int (1 : Int32)), (.ref b1), (.ref b1)])) _
    refine st5 _ ?_
    show Steps p.tables e below (T5.setTop (mkF m 143 #[.val (.int (5 : Int32)), .val (.long q1), .second] [(.ref b1)])) _
    refine XS.dup X5.here hx rfl (hb hby d1_143) rfl rfl ?_
    show Steps p.tables e below (T5.setTop (mkF m 144 #[.val (.int (5 : Int32)), .val (.long q1), .second] [(.ref b1), (.ref b1)])) _
    refine XS.iconst X5.here hx rfl (hb hby d1_144) ?_
    show Steps p.tables e below (T5.setTop (mkF m 145 #[.val (.int (5 : Int32)), .val (.long q1), .second] [(.int (2 : Int32)), (.ref b1), (.ref b1)])) _
    refine XS.lloadN X5.here hx rfl (hb hby d1_145) rfl ?_
    show Steps p.tables e below (T5.setTop (mkF m 146 #[.val (.int (5 : Int32)), .val (.long q1), .second] [(.long q1), (.int (2 : Int32)), (.ref b1), (.ref b1)])) _
    refine XS.iconst X5.here hx rfl (hb hby d1_146) ?_
    show Steps p.tables e below (T5.setTop (mkF m 147 #[.val (.int (5 : Int32)), .val (.long q1), .second] [(.int (2 : Int32)), (.long q1), (.int (2 : Int32)), (.ref b1), (.ref b1)])) _
    refine st6 _ ?_
    show Steps p.tables e below (T6.setTop (mkF m 150 #[.val (.int (5 : Int32)), .val (.long q1), .second] [(.int (own_b q1 (2 : Int32))), (.int (2 : Int32)), (.ref b1), (.ref b1)])) _
    refine st7 _ ?_
    show Steps p.tables e below (T7.setTop (mkF m 151 #[.val (.int (5 : Int32)), .val (.long q1), .second] [(.ref b1)])) _
    refine XS.dup X7.here hx rfl (hb hby d1_151) rfl rfl ?_
    show Steps p.tables e below (T7.setTop (mkF m 152 #[.val (.int (5 : Int32)), .val (.long q1), .second] [(.ref b1), (.ref b1)])) _
    refine XS.iconst X7.here hx rfl (hb hby d1_152) ?_
    show Steps p.tables e below (T7.setTop (mkF m 153 #[.val (.int (5 : Int32)), .val (.long q1), .second] [(.int (3 : Int32)), (.ref b1), (.ref b1)])) _
    refine XS.lloadN X7.here hx rfl (hb hby d1_153) rfl ?_
    show Steps p.tables e below (T7.setTop (mkF m 154 #[.val (.int (5 : Int32)), .val (.long q1), .second] [(.long q1), (.int (3 : Int32)), (.ref b1), (.ref b1)])) _
    refine XS.iconst X7.here hx rfl (hb hby d1_154) ?_
    show Steps p.tables e below (T7.setTop (mkF m 155 #[.val (.int (5 : Int32)), .val (.long q1), .second] [(.int (3 : Int32)), (.long q1), (.int (3 : Int32)), (.ref b1), (.ref b1)])) _
    refine st8 _ ?_
    show Steps p.tables e below (T8.setTop (mkF m 158 #[.val (.int (5 : Int32)), .val (.long q1), .second] [(.int (own_b q1 (3 : Int32))), (.int (3 : Int32)), (.ref b1), (.ref b1)])) _
    refine st9 _ ?_
    show Steps p.tables e below (T9.setTop (mkF m 159 #[.val (.int (5 : Int32)), .val (.long q1), .second] [(.ref b1)])) _
    refine XS.dup X9.here hx rfl (hb hby d1_159) rfl rfl ?_
    show Steps p.tables e below (T9.setTop (mkF m 160 #[.val (.int (5 : Int32)), .val (.long q1), .second] [(.ref b1), (.ref b1)])) _
    refine XS.iconst X9.here hx rfl (hb hby d1_160) ?_
    show Steps p.tables e below (T9.setTop (mkF m 161 #[.val (.int (5 : Int32)), .val (.long q1), .second] [(.int (4 : Int32)), (.ref b1), (.ref b1)])) _
    refine XS.lloadN X9.here hx rfl (hb hby d1_161) rfl ?_
    show Steps p.tables e below (T9.setTop (mkF m 162 #[.val (.int (5 : Int32)), .val (.long q1), .second] [(.long q1), (.int (4 : Int32)), (.ref b1), (.ref b1)])) _
    refine XS.iconst X9.here hx rfl (hb hby d1_162) ?_
    show Steps p.tables e below (T9.setTop (mkF m 163 #[.val (.int (5 : Int32)), .val (.long q1), .second] [(.int (4 : Int32)), (.long q1), (.int (4 : Int32)), (.ref b1), (.ref b1)])) _
    refine st10 _ ?_
    show Steps p.tables e below (T10.setTop (mkF m 166 #[.val (.int (5 : Int32)), .val (.long q1), .second] [(.int (own_b q1 (4 : Int32))), (.int (4 : Int32)), (.ref b1), (.ref b1)])) _
    refine st11 _ ?_
    show Steps p.tables e below (T11.setTop (mkF m 167 #[.val (.int (5 : Int32)), .val (.long q1), .second] [(.ref b1)])) _
    jvm_step X11.here [X11.here.top, hx, (hb hby d1_167), X11.method', Bd.returns, Value.isRef, FieldType.isReference]
    first | (intro acts; rw [hr _ acts rfl rfl rfl]) | rw [hr _ _ rfl rfl rfl]
    exact Steps.refl _
  · show Q1_5 Z q1 h0 n0 _ T11.heap _
    rw [e11]
    exact ⟨b1, _, rfl, N11, K11, sz_b1, V_b1_at11⟩
theorem ef_3_0 (m : MethodId) (x0 : Addr) (x1 : Int32) : entryFrame m #[(.ref x0), (.int x1)] 3 = mkF m 0 #[.val (.ref x0), .val (.int x1), .unset] [] := by first | (simp [entryFrame, mkF, argsToLocals, Value.category]; done) | rfl
theorem pn_java_util_Arrays : plainName "java/util/Arrays" = true := by first | (simp [plainName, overriddenIn]; done) | decide +kernel
theorem d3_0 : decode jdk_65_method_121_code 0 = .ok (.iload_n 1, 1) := by decide +kernel
theorem d3_1 : decode jdk_65_method_121_code 1 = .ok (.aload_n 0, 1) := by decide +kernel
theorem d3_2 : decode jdk_65_method_121_code 2 = .ok (.arraylength, 1) := by decide +kernel
theorem d3_3 : decode jdk_65_method_121_code 3 = .ok (.if_icmp .ne 11, 3) := by decide +kernel
theorem d3_14 : decode jdk_65_method_121_code 14 = .ok (.iload_n 1, 1) := by decide +kernel
theorem d3_15 : decode jdk_65_method_121_code 15 = .ok (.newarray .byte, 2) := by decide +kernel
theorem d3_17 : decode jdk_65_method_121_code 17 = .ok (.astore_n 2, 1) := by decide +kernel
theorem d3_18 : decode jdk_65_method_121_code 18 = .ok (.aload_n 0, 1) := by decide +kernel
theorem d3_19 : decode jdk_65_method_121_code 19 = .ok (.iconst 0, 1) := by decide +kernel
theorem d3_20 : decode jdk_65_method_121_code 20 = .ok (.aload_n 2, 1) := by decide +kernel
theorem d3_21 : decode jdk_65_method_121_code 21 = .ok (.iconst 0, 1) := by decide +kernel
theorem d3_22 : decode jdk_65_method_121_code 22 = .ok (.aload_n 0, 1) := by decide +kernel
theorem d3_23 : decode jdk_65_method_121_code 23 = .ok (.arraylength, 1) := by decide +kernel
theorem d3_24 : decode jdk_65_method_121_code 24 = .ok (.iload_n 1, 1) := by decide +kernel
theorem d3_25 : decode jdk_65_method_121_code 25 = .ok (.invokestatic 304, 3) := by decide +kernel
theorem pd_28II29I : parseMethodDescriptor "(II)I" = some ⟨[.int, .int], some .int⟩ := by decide +kernel
theorem d3_28 : decode jdk_65_method_121_code 28 = .ok (.invokestatic 150, 3) := by decide +kernel
theorem d3_31 : decode jdk_65_method_121_code 31 = .ok (.aload_n 2, 1) := by decide +kernel
theorem d3_32 : decode jdk_65_method_121_code 32 = .ok (.areturn, 1) := by decide +kernel
def Q3_0 (Z : State) (r0 : Addr) (ka : ClassId) (h0 : Heap) (n0 : Nat) (v : Option Value) (h : Heap) (L : List Loc) : Prop := ∃ (b : Addr) (kb : ClassId), v = some (.ref b) ∧ Fr n0 L ∧ Keep h0 h [] ∧ h0.size ≤ b ∧ Arv Z h b kb .byte (1 : Int32) [(.int (0 : Int32))] (.int (0 : Int32))
set_option maxRecDepth 65536 in
set_option maxHeartbeats 40000000 in
theorem rm3_0 (l : Launch) (Z : State) (a0 : Array Value) (hw : ∀ d ∈ tables_1, d.before a0 Z = true) (ws : List Jvm.Cond) (r0 : Addr) (ka : ClassId) (h0 : Heap) (n0 : Nat) (Z0 : n0 ≤ h0.size) (V_r0 : Arv Z h0 r0 ka .byte (0 : Int32) [] (.int (0 : Int32))) :
    MetFree l (⟨"java/util/Arrays", "copyOf", "([BI)[B"⟩ : MethodName) (head1 (Jvm.Cond.code (⟨"java/util/Arrays", "copyOf", "([BI)[B"⟩ : MethodName) jdk_65_method_121_code 3 (some (.array .byte)) :: ws) ({ frames := 1, cells := 1, slots := 1, locals := 32 } : Room)) (fun a U => a = #[(.ref r0), (.int (1 : Int32))] ∧ Z.Warmed39 U.vm ∧ U.heap = h0) (fun _ _ _ _ _ => True) (fun _ U o U' => ∃ v L, o = .returned v ∧ Q3_0 Z r0 ka h0 n0 v U'.heap L ∧ FrameEnd U o U' L ({ frames := 1, cells := 1, slots := 1, locals := 32 } : Room).cells ({ frames := 1, cells := 1, slots := 1, locals := 32 } : Room).slots) := by
  refine MetFree.of_bodySF (plainFor_of_name pn_java_util_Arrays) hisR ?_
  intro p e s m args below meth c s₁ Bd hml0 hP hK
  obtain ⟨rfl, hZ, hh⟩ := hP
  have hx := Bd.exec
  have hby := Bd.bytes
  have hml : c.maxLocals = 3 := hml0
  have hown : s.vm.findClass "java/util/Arrays" = some m.cls := findClass_of_methodNamed Bd.named
  have hnm := (name_of_methodNamed Bd.named Bd.method).1
  have X0 : Stand p l e ({ frames := 1, cells := 1, slots := 1, locals := 32 } : Room) s m #[(.ref r0), (.int (1 : Int32))] below meth c s₁ [] 0 0 := Stand.of_body Bd
  have e0 : s₁.heap = h0 := by rw [← hh, Bd.state]; rfl
  have N0 := Fr.nil n0
  have pre0 : ∀ t, Steps p.tables e below (s₁.setTop (mkF m 0 #[.val (.ref r0), .val (.int (1 : Int32)), .unset] [])) t → Steps p.tables e below (s₁.setTop (entryFrame m #[(.ref r0), (.int (1 : Int32))] 3)) t := fun t k => castTop (ef_3_0 m r0 (1 : Int32)) k
  have K0 : Keep h0 h0 [] := Keep.refl h0 []
  obtain ⟨cl_2_1, Ar_2_1, -, S_2_1, M_2_1, -, -⟩ := id V_r0
  obtain ⟨T2, h2, k2, X2, e2, E2, A2, st2⟩ := newP X0 hx hZ (hw _ (List.mem_of_getElem? (i := 5) rfl)) e0 (g := (mkF m 15 #[.val (.ref r0), .val (.int (1 : Int32)), .unset] [(.int (1 : Int32))])) rfl (hb hby d3_15) rfl (by decide) (cap := 1) (by decide) (by decide) (by decide) (by decide)
  obtain ⟨b2, g2⟩ : ∃ z, z = h0.size := ⟨_, rfl⟩
  rw [← g2] at A2 st2
  have g_b2 : n0 ≤ b2 := Nat.le_trans Z0 (Nat.le_of_eq g2.symm)
  have sz_b2 : h0.size ≤ b2 := Nat.le_trans K0.1 (Nat.le_of_eq g2.symm)
  have ne_r0_b2 : r0 ≠ b2 := Nat.ne_of_lt (Nat.lt_of_lt_of_le V_r0.lt (Nat.le_of_eq g2.symm))
  have V_r0_at2 : Arv Z h2 r0 ka .byte (0 : Int32) [] (.int (0 : Int32)) := V_r0.ext E2
  have K2 : Keep h0 h2 [] := K0.ext E2
  have Z2 : n0 ≤ h2.size := Nat.le_trans Z0 E2.1
  have xV_b2_at2 := (Arv.new A2 (by decide)).pad (pad_rep [] (.int (0 : Int32)) 1)
  have V_b2_at2 : Arv Z h2 b2 k2 .byte (1 : Int32) [(.int (0 : Int32))] (.int (0 : Int32)) := xV_b2_at2
  obtain ⟨cl_23_3, Ar_23_3, -, S_23_3, M_23_3, -, -⟩ := id V_r0_at2
  obtain ⟨_, _, ⟨T4, L4, k4, n4⟩, -, X4, ⟨Lc4, hQ4, l4, y4, z4⟩, st4⟩ := Jvm.LawKit.callS X2 hx (y := (⟨"java/lang/Math", "min", "(II)I"⟩ : MethodName)) hown (mvT hZ (hw _ (List.mem_of_getElem? (i := 14) rfl))) (mvT hZ (hw _ (List.mem_of_getElem? (i := 15) rfl))) (mvT hZ (hw _ (List.mem_of_getElem? (i := 16) rfl))) (mvT hZ (hw _ (List.mem_of_getElem? (i := 17) rfl))) (by decide) (backOf (W := 4) (rm4 l Z a0 hw [] (0 : Int32) (1 : Int32) h2 n0 Z2) hZ (hw _ (List.mem_of_getElem? (i := 17) rfl)) (hw _ (List.mem_of_getElem? (i := 16) rfl)) (by decide) (by decide)) (g := (mkF m 25 #[.val (.ref r0), .val (.int (1 : Int32)), .val (.ref b2)] [(.int (1 : Int32)), (.int (0 : Int32)), (.int (0 : Int32)), (.ref b2), (.int (0 : Int32)), (.ref r0)])) rfl (by rw [hml]; rfl) (argsL := [(.int (0 : Int32)), (.int (1 : Int32))]) (rest := [(.int (0 : Int32)), (.ref b2), (.int (0 : Int32)), (.ref r0)]) (lenOf pd_28II29I rfl) rfl (by show 2 * 0 + _ ≤ _; exact Nat.le_of_eq rfl) (hb hby d3_25) (fun _ _ => ⟨rfl, e2, (by decide : 1 + 0 ≤ _), (by decide : 1 + 0 ≤ _)⟩)
  dsimp only [Pt.U, Pt.locs, Pt.cells, Pt.slots] at X4 l4 y4 z4 st4 hQ4
  subst l4 y4 z4
  obtain ⟨rfl, N4q, e4⟩ := hQ4
  have N4 := Fr.app N0 N4q
  obtain ⟨T5, h5, L5, X5, e5, N5, KK5, V5x, st5⟩ := cpA X4 hx hZ hown (hw _ (List.mem_of_getElem? (i := 18) rfl)) (hw _ (List.mem_of_getElem? (i := 21) rfl)) (hw _ (List.mem_of_getElem? (i := 19) rfl)) (hw _ (List.mem_of_getElem? (i := 20) rfl)) e4 V_r0_at2 V_b2_at2 (Or.inl ⟨rfl, rfl⟩) (sp := (0 : Int32)) (dp := (0 : Int32)) (nn := (0 : Int32)) (us := []) (by decide) (by decide) (by decide) (by decide) (by decide) rfl (by decide) N4 g_b2 (g := (mkF m 28 #[.val (.ref r0), .val (.int (1 : Int32)), .val (.ref b2)] [(.int (0 : Int32)), (.int (0 : Int32)), (.ref b2), (.int (0 : Int32)), (.ref r0)])) rfl (by rw [hml]; rfl) (rest := []) rfl (hb hby d3_28) (by decide) (W := 0) (by show 2 * 0 + _ ≤ _; exact Nat.le_of_eq rfl) (by decide)
  have V_r0_at5 : Arv Z h5 r0 ka .byte (0 : Int32) [] (.int (0 : Int32)) := V_r0_at2.keep KK5 (ninS ne_r0_b2 nin0)
  have K5 : Keep h0 h5 [] := K2.trans KK5 (allS (Or.inr sz_b2) all0)
  have Z5 : n0 ≤ h5.size := Nat.le_trans Z2 KK5.1
  have xV_b2_at5 := V5x
  have V_b2_at5 : Arv Z h5 b2 k2 .byte (1 : Int32) [(.int (0 : Int32))] (.int (0 : Int32)) := xV_b2_at5
  obtain ⟨fs, hr, hrun, hended, hW, hsame⟩ := X5.leave (v := some (.ref b2)) (fun h => by rw [Bd.returns] at h; cases h)
  refine ⟨_, _, pre0 _ ?_, hrun, hended, _, _, rfl, ?_, ⟨_, rfl⟩, hW, hsame.mono (by decide) (by decide)⟩
  · show Steps p.tables e below (s₁.setTop (mkF m 0 #[.val (.ref r0), .val (.int (1 : Int32)), .unset] [])) _
    refine XS.iloadN X0.here hx rfl (hb hby d3_0) rfl ?_
    show Steps p.tables e below (s₁.setTop (mkF m 1 #[.val (.ref r0), .val (.int (1 : Int32)), .unset] [(.int (1 : Int32))])) _
    refine XS.aloadN X0.here hx rfl (hb hby d3_1) rfl rfl ?_
    show Steps p.tables e below (s₁.setTop (mkF m 2 #[.val (.ref r0), .val (.int (1 : Int32)), .unset] [(.ref r0), (.int (1 : Int32))])) _
    refine X0.arraylength hx (by rw [e0]; exact Ar_2_1.1) (State.isArrayOf_alike hZ.alike Ar_2_1.2.1) (g := (mkF m 2 #[.val (.ref r0), .val (.int (1 : Int32)), .unset] [(.ref r0), (.int (1 : Int32))])) rfl rfl (hb hby d3_2) _ ?_
    rw [len_of S_2_1 M_2_1]
    show Steps p.tables e below (s₁.setTop (mkF m 3 #[.val (.ref r0), .val (.int (1 : Int32)), .unset] [(.int (0 : Int32)), (.int (1 : Int32))])) _
    refine XS.icmpYes X0.here hx rfl (pc0 := 3) (pc' := 14) rfl (hb hby d3_3) rfl (feq (by decide : ¬ ((1 : Int32) = (0 : Int32)))).2 (by decide) (by decide) ?_
    show Steps p.tables e below (s₁.setTop (mkF m 14 #[.val (.ref r0), .val (.int (1 : Int32)), .unset] [])) _
    refine XS.iloadN X0.here hx rfl (hb hby d3_14) rfl ?_
    show Steps p.tables e below (s₁.setTop (mkF m 15 #[.val (.ref r0), .val (.int (1 : Int32)), .unset] [(.int (1 : Int32))])) _
    refine st2 _ ?_
    show Steps p.tables e below (T2.setTop (mkF m 17 #[.val (.ref r0), .val (.int (1 : Int32)), .unset] [(.ref b2)])) _
    refine XS.astoreN X2.here hx rfl (hb hby d3_17) rfl rfl (l' := #[.val (.ref r0), .val (.int (1 : Int32)), .val (.ref b2)]) rfl ?_
    show Steps p.tables e below (T2.setTop (mkF m 18 #[.val (.ref r0), .val (.int (1 : Int32)), .val (.ref b2)] [])) _
    refine XS.aloadN X2.here hx rfl (hb hby d3_18) rfl rfl ?_
    show Steps p.tables e below (T2.setTop (mkF m 19 #[.val (.ref r0), .val (.int (1 : Int32)), .val (.ref b2)] [(.ref r0)])) _
    refine XS.iconst X2.here hx rfl (hb hby d3_19) ?_
    show Steps p.tables e below (T2.setTop (mkF m 20 #[.val (.ref r0), .val (.int (1 : Int32)), .val (.ref b2)] [(.int (0 : Int32)), (.ref r0)])) _
    refine XS.aloadN X2.here hx rfl (hb hby d3_20) rfl rfl ?_
    show Steps p.tables e below (T2.setTop (mkF m 21 #[.val (.ref r0), .val (.int (1 : Int32)), .val (.ref b2)] [(.ref b2), (.int (0 : Int32)), (.ref r0)])) _
    refine XS.iconst X2.here hx rfl (hb hby d3_21) ?_
    show Steps p.tables e below (T2.setTop (mkF m 22 #[.val (.ref r0), .val (.int (1 : Int32)), .val (.ref b2)] [(.int (0 : Int32)), (.ref b2), (.int (0 : Int32)), (.ref r0)])) _
    refine XS.aloadN X2.here hx rfl (hb hby d3_22) rfl rfl ?_
    show Steps p.tables e below (T2.setTop (mkF m 23 #[.val (.ref r0), .val (.int (1 : Int32)), .val (.ref b2)] [(.ref r0), (.int (0 : Int32)), (.ref b2), (.int (0 : Int32)), (.ref r0)])) _
    refine X2.arraylength hx (by rw [e2]; exact Ar_23_3.1) (State.isArrayOf_alike hZ.alike Ar_23_3.2.1) (g := (mkF m 23 #[.val (.ref r0), .val (.int (1 : Int32)), .val (.ref b2)] [(.ref r0), (.int (0 : Int32)), (.ref b2), (.int (0 : Int32)), (.ref r0)])) rfl rfl (hb hby d3_23) _ ?_
    rw [len_of S_23_3 M_23_3]
    show Steps p.tables e below (T2.setTop (mkF m 24 #[.val (.ref r0), .val (.int (1 : Int32)), .val (.ref b2)] [(.int (0 : Int32)), (.int (0 : Int32)), (.ref b2), (.int (0 : Int32)), (.ref r0)])) _
    refine XS.iloadN X2.here hx rfl (hb hby d3_24) rfl ?_
    show Steps p.tables e below (T2.setTop (mkF m 25 #[.val (.ref r0), .val (.int (1 : Int32)), .val (.ref b2)] [(.int (1 : Int32)), (.int (0 : Int32)), (.int (0 : Int32)), (.ref b2), (.int (0 : Int32)), (.ref r0)])) _
    refine st4 _ ?_
    show Steps p.tables e below (T4.setTop (mkF m 28 #[.val (.ref r0), .val (.int (1 : Int32)), .val (.ref b2)] [(.int (0 : Int32)), (.int (0 : Int32)), (.ref b2), (.int (0 : Int32)), (.ref r0)])) _
    refine st5 _ ?_
    show Steps p.tables e below (T5.setTop (mkF m 31 #[.val (.ref r0), .val (.int (1 : Int32)), .val (.ref b2)] [])) _
    refine XS.aloadN X5.here hx rfl (hb hby d3_31) rfl rfl ?_
    show Steps p.tables e below (T5.setTop (mkF m 32 #[.val (.ref r0), .val (.int (1 : Int32)), .val (.ref b2)] [(.ref b2)])) _
    jvm_step X5.here [X5.here.top, hx, (hb hby d3_32), X5.method', Bd.returns, Value.isRef, FieldType.isReference]
    first | (intro acts; rw [hr _ acts rfl rfl rfl]) | rw [hr _ _ rfl rfl rfl]
    exact Steps.refl _
  · show Q3_0 Z r0 ka h0 n0 _ T5.heap _
    rw [e5]
    exact ⟨b2, _, rfl, N5, K5, sz_b2, V_b2_at5⟩
theorem ef_2_0 (m : MethodId) (x0 : Addr) : entryFrame m #[(.ref x0)] 2 = mkF m 0 #[.val (.ref x0), .unset] [] := by first | (simp [entryFrame, mkF, argsToLocals, Value.category]; done) | rfl
theorem pn_com_example_usrset_usrset_store_Key : plainName "com/example/usrset/usrset/store/Key" = true := by first | (simp [plainName, overriddenIn]; done) | decide +kernel
theorem d2_0 : decode prog_10_method_4_code 0 = .ok (.aload_n 0, 1) := by decide +kernel
theorem d2_1 : decode prog_10_method_4_code 1 = .ok (.aload_n 0, 1) := by decide +kernel
theorem d2_2 : decode prog_10_method_4_code 2 = .ok (.arraylength, 1) := by decide +kernel
theorem d2_3 : decode prog_10_method_4_code 3 = .ok (.iconst 1, 1) := by decide +kernel
theorem d2_4 : decode prog_10_method_4_code 4 = .ok (.iadd, 1) := by decide +kernel
theorem d2_5 : decode prog_10_method_4_code 5 = .ok (.invokestatic 50, 3) := by decide +kernel
theorem pd_285bBI295bB : parseMethodDescriptor "([BI)[B" = some ⟨[(.array .byte), .int], some (.array .byte)⟩ := by decide +kernel
theorem d2_8 : decode prog_10_method_4_code 8 = .ok (.astore_n 1, 1) := by decide +kernel
theorem d2_9 : decode prog_10_method_4_code 9 = .ok (.aload_n 1, 1) := by decide +kernel
theorem d2_10 : decode prog_10_method_4_code 10 = .ok (.aload_n 0, 1) := by decide +kernel
theorem d2_11 : decode prog_10_method_4_code 11 = .ok (.arraylength, 1) := by decide +kernel
theorem d2_12 : decode prog_10_method_4_code 12 = .ok (.iconst (-1), 1) := by decide +kernel
theorem d2_13 : decode prog_10_method_4_code 13 = .ok (.bastore, 1) := by decide +kernel
theorem d2_14 : decode prog_10_method_4_code 14 = .ok (.aload_n 1, 1) := by decide +kernel
theorem d2_15 : decode prog_10_method_4_code 15 = .ok (.areturn, 1) := by decide +kernel
def Q2_0 (Z : State) (r0 : Addr) (ka : ClassId) (h0 : Heap) (n0 : Nat) (v : Option Value) (h : Heap) (L : List Loc) : Prop := ∃ (b : Addr) (kb : ClassId), v = some (.ref b) ∧ Fr n0 L ∧ Keep h0 h [] ∧ h0.size ≤ b ∧ Arv Z h b kb .byte (1 : Int32) [(.int (-1 : Int32))] (.int (0 : Int32))
set_option maxRecDepth 65536 in
set_option maxHeartbeats 40000000 in
theorem rm2_0 (l : Launch) (Z : State) (a0 : Array Value) (hw : ∀ d ∈ tables_1, d.before a0 Z = true) (ws : List Jvm.Cond) (r0 : Addr) (ka : ClassId) (h0 : Heap) (n0 : Nat) (Z0 : n0 ≤ h0.size) (V_r0 : Arv Z h0 r0 ka .byte (0 : Int32) [] (.int (0 : Int32))) :
    MetFree l (⟨"com/example/usrset/usrset/store/Key", "pastTuplesOf", "([B)[B"⟩ : MethodName) (head1 (Jvm.Cond.code (⟨"com/example/usrset/usrset/store/Key", "pastTuplesOf", "([B)[B"⟩ : MethodName) prog_10_method_4_code 2 (some (.array .byte)) :: ws) ({ frames := 2, cells := 1, slots := 1, locals := 46 } : Room)) (fun a U => a = #[(.ref r0)] ∧ Z.Warmed39 U.vm ∧ U.heap = h0) (fun _ _ _ _ _ => True) (fun _ U o U' => ∃ v L, o = .returned v ∧ Q2_0 Z r0 ka h0 n0 v U'.heap L ∧ FrameEnd U o U' L ({ frames := 2, cells := 1, slots := 1, locals := 46 } : Room).cells ({ frames := 2, cells := 1, slots := 1, locals := 46 } : Room).slots) := by
  refine MetFree.of_bodySF (plainFor_of_name pn_com_example_usrset_usrset_store_Key) hisR ?_
  intro p e s m args below meth c s₁ Bd hml0 hP hK
  obtain ⟨rfl, hZ, hh⟩ := hP
  have hx := Bd.exec
  have hby := Bd.bytes
  have hml : c.maxLocals = 2 := hml0
  have hown : s.vm.findClass "com/example/usrset/usrset/store/Key" = some m.cls := findClass_of_methodNamed Bd.named
  have hnm := (name_of_methodNamed Bd.named Bd.method).1
  have X0 : Stand p l e ({ frames := 2, cells := 1, slots := 1, locals := 46 } : Room) s m #[(.ref r0)] below meth c s₁ [] 0 0 := Stand.of_body Bd
  have e0 : s₁.heap = h0 := by rw [← hh, Bd.state]; rfl
  have N0 := Fr.nil n0
  have pre0 : ∀ t, Steps p.tables e below (s₁.setTop (mkF m 0 #[.val (.ref r0), .unset] [])) t → Steps p.tables e below (s₁.setTop (entryFrame m #[(.ref r0)] 2)) t := fun t k => castTop (ef_2_0 m r0) k
  have K0 : Keep h0 h0 [] := Keep.refl h0 []
  obtain ⟨cl_2_1, Ar_2_1, -, S_2_1, M_2_1, -, -⟩ := id V_r0
  obtain ⟨_, _, ⟨T2, L2, k2, n2⟩, -, X2, ⟨Lc2, hQ2, l2, y2, z2⟩, st2⟩ := Jvm.LawKit.callS X0 hx (y := (⟨"java/util/Arrays", "copyOf", "([BI)[B"⟩ : MethodName)) hown (mvT hZ (hw _ (List.mem_of_getElem? (i := 10) rfl))) (mvT hZ (hw _ (List.mem_of_getElem? (i := 11) rfl))) (mvT hZ (hw _ (List.mem_of_getElem? (i := 12) rfl))) (mvT hZ (hw _ (List.mem_of_getElem? (i := 13) rfl))) (by decide) (backOf (W := 0) (rm3_0 l Z a0 hw [] r0 ka  h0 n0 Z0 V_r0) hZ (hw _ (List.mem_of_getElem? (i := 13) rfl)) (hw _ (List.mem_of_getElem? (i := 12) rfl)) (by decide) (by decide)) (g := (mkF m 5 #[.val (.ref r0), .unset] [(.int (1 : Int32)), (.ref r0)])) rfl (by rw [hml]; rfl) (argsL := [(.ref r0), (.int (1 : Int32))]) (rest := []) (lenOf pd_285bBI295bB rfl) rfl (by show 2 * 0 + _ ≤ _; exact Nat.le_of_eq rfl) (hb hby d2_5) (fun _ _ => ⟨rfl, e0, (by decide : 0 + 1 ≤ _), (by decide : 0 + 1 ≤ _)⟩)
  dsimp only [Pt.U, Pt.locs, Pt.cells, Pt.slots] at X2 l2 y2 z2 st2 hQ2
  subst l2 y2 z2
  obtain ⟨b2, kb2, rfl, N2q, KK2, gb2, VB2⟩ := hQ2
  obtain ⟨h2, e2⟩ : ∃ z, T2.heap = z := ⟨_, rfl⟩
  rw [e2] at KK2 VB2
  have V_r0_at2 : Arv Z h2 r0 ka .byte (0 : Int32) [] (.int (0 : Int32)) := V_r0.keep KK2 nin0
  have K2 : Keep h0 h2 [] := K0.trans KK2 all0
  have Z2 : n0 ≤ h2.size := Nat.le_trans Z0 KK2.1
  have ne_r0_b2 : r0 ≠ b2 := Nat.ne_of_lt (Nat.lt_of_lt_of_le V_r0.lt gb2)
  have g_b2 : n0 ≤ b2 := Nat.le_trans Z0 gb2
  have sz_b2 : h0.size ≤ b2 := Nat.le_trans K0.1 gb2
  have N2 := Fr.app N0 N2q
  obtain ⟨cl_11_3, Ar_11_3, -, S_11_3, M_11_3, -, -⟩ := id V_r0_at2
  obtain ⟨cl_13, Ar_13, q_13, S_13, N_13, H_13, G_13⟩ := id VB2
  have hin13 : ¬ ((0 : Int32) < 0 ∨ cl_13.slots.size ≤ ((0 : Int32)).toNatClampNeg) := inb_of S_13 ⟨by decide, by decide⟩
  obtain ⟨T4, h4, X4, e4, W4, st4⟩ := stB X2 hx hZ e2 Ar_13 (j := (0 : Int32)) hin13 (g := (mkF m 13 #[.val (.ref r0), .val (.ref b2)] [(.int (-1 : Int32)), (.int (0 : Int32)), (.ref b2)])) rfl rfl (hb hby d2_13)
  have V_r0_at4 : Arv Z h4 r0 ka .byte (0 : Int32) [] (.int (0 : Int32)) := V_r0_at2.other W4 ne_r0_b2
  have xV_b2_at4 := Arv.set Ar_13 q_13 S_13 N_13 H_13 G_13 (fits_nar_byte _) W4 0 rfl (Nat.le_of_ble_eq_true rfl)
  have V_b2_at4 : Arv Z h4 b2 kb2 .byte (1 : Int32) [(.int (-1 : Int32))] (.int (0 : Int32)) := xV_b2_at4
  have K4 : Keep h0 h4 [] := K2.wr W4 (Or.inr sz_b2)
  have Z4 : n0 ≤ h4.size := Nat.le_trans Z2 (Keep.of_wr W4).1
  have N4 := Fr.snoc X4 N2 g_b2
  obtain ⟨fs, hr, hrun, hended, hW, hsame⟩ := X4.leave (v := some (.ref b2)) (fun h => by rw [Bd.returns] at h; cases h)
  refine ⟨_, _, pre0 _ ?_, hrun, hended, _, _, rfl, ?_, ⟨_, rfl⟩, hW, hsame.mono (by decide) (by decide)⟩
  · show Steps p.tables e below (s₁.setTop (mkF m 0 #[.val (.ref r0), .unset] [])) _
    refine XS.aloadN X0.here hx rfl (hb hby d2_0) rfl rfl ?_
    show Steps p.tables e below (s₁.setTop (mkF m 1 #[.val (.ref r0), .unset] [(.ref r0)])) _
    refine XS.aloadN X0.here hx rfl (hb hby d2_1) rfl rfl ?_
    show Steps p.tables e below (s₁.setTop (mkF m 2 #[.val (.ref r0), .unset] [(.ref r0), (.ref r0)])) _
    refine X0.arraylength hx (by rw [e0]; exact Ar_2_1.1) (State.isArrayOf_alike hZ.alike Ar_2_1.2.1) (g := (mkF m 2 #[.val (.ref r0), .unset] [(.ref r0), (.ref r0)])) rfl rfl (hb hby d2_2) _ ?_
    rw [len_of S_2_1 M_2_1]
    show Steps p.tables e below (s₁.setTop (mkF m 3 #[.val (.ref r0), .unset] [(.int (0 : Int32)), (.ref r0)])) _
    refine XS.iconst X0.here hx rfl (hb hby d2_3) ?_
    show Steps p.tables e below (s₁.setTop (mkF m 4 #[.val (.ref r0), .unset] [(.int (1 : Int32)), (.int (0 : Int32)), (.ref r0)])) _
    refine XS.iadd X0.here hx rfl (hb hby d2_4) rfl ?_
    show Steps p.tables e below (s₁.setTop (mkF m 5 #[.val (.ref r0), .unset] [(.int (1 : Int32)), (.ref r0)])) _
    refine st2 _ ?_
    show Steps p.tables e below (T2.setTop (mkF m 8 #[.val (.ref r0), .unset] [(.ref b2)])) _
    refine XS.astoreN X2.here hx rfl (hb hby d2_8) rfl rfl (l' := #[.val (.ref r0), .val (.ref b2)]) rfl ?_
    show Steps p.tables e below (T2.setTop (mkF m 9 #[.val (.ref r0), .val (.ref b2)] [])) _
    refine XS.aloadN X2.here hx rfl (hb hby d2_9) rfl rfl ?_
    show Steps p.tables e below (T2.setTop (mkF m 10 #[.val (.ref r0), .val (.ref b2)] [(.ref b2)])) _
    refine XS.aloadN X2.here hx rfl (hb hby d2_10) rfl rfl ?_
    show Steps p.tables e below (T2.setTop (mkF m 11 #[.val (.ref r0), .val (.ref b2)] [(.ref r0), (.ref b2)])) _
    refine X2.arraylength hx (by rw [e2]; exact Ar_11_3.1) (State.isArrayOf_alike hZ.alike Ar_11_3.2.1) (g := (mkF m 11 #[.val (.ref r0), .val (.ref b2)] [(.ref r0), (.ref b2)])) rfl rfl (hb hby d2_11) _ ?_
    rw [len_of S_11_3 M_11_3]
    show Steps p.tables e below (T2.setTop (mkF m 12 #[.val (.ref r0), .val (.ref b2)] [(.int (0 : Int32)), (.ref b2)])) _
    refine XS.iconst X2.here hx rfl (hb hby d2_12) ?_
    show Steps p.tables e below (T2.setTop (mkF m 13 #[.val (.ref r0), .val (.ref b2)] [(.int (-1 : Int32)), (.int (0 : Int32)), (.ref b2)])) _
    refine st4 _ ?_
    show Steps p.tables e below (T4.setTop (mkF m 14 #[.val (.ref r0), .val (.ref b2)] [])) _
    refine XS.aloadN X4.here hx rfl (hb hby d2_14) rfl rfl ?_
    show Steps p.tables e below (T4.setTop (mkF m 15 #[.val (.ref r0), .val (.ref b2)] [(.ref b2)])) _
    jvm_step X4.here [X4.here.top, hx, (hb hby d2_15), X4.method', Bd.returns, Value.isRef, FieldType.isReference]
    first | (intro acts; rw [hr _ acts rfl rfl rfl]) | rw [hr _ _ rfl rfl rfl]
    exact Steps.refl _
  · show Q2_0 Z r0 ka h0 n0 _ T4.heap _
    rw [e4]
    exact ⟨b2, _, rfl, N4, K4, sz_b2, V_b2_at4⟩
theorem ef_3_1 (m : MethodId) (x0 : Addr) (x1 : Int32) : entryFrame m #[(.ref x0), (.int x1)] 3 = mkF m 0 #[.val (.ref x0), .val (.int x1), .unset] [] := by first | (simp [entryFrame, mkF, argsToLocals, Value.category]; done) | rfl
def Q3_1 (Z : State) (r0 : Addr) (ka : ClassId) (v0 : Int32) (h0 : Heap) (n0 : Nat) (v : Option Value) (h : Heap) (L : List Loc) : Prop := ∃ (b : Addr) (kb : ClassId), v = some (.ref b) ∧ Fr n0 L ∧ Keep h0 h [] ∧ h0.size ≤ b ∧ Arv Z h b kb .byte (2 : Int32) [(.int v0), (.int (0 : Int32))] (.int (0 : Int32))
set_option maxRecDepth 65536 in
set_option maxHeartbeats 40000000 in
theorem rm3_1 (l : Launch) (Z : State) (a0 : Array Value) (hw : ∀ d ∈ tables_1, d.before a0 Z = true) (ws : List Jvm.Cond) (r0 : Addr) (ka : ClassId) (v0 : Int32) (h0 : Heap) (n0 : Nat) (Z0 : n0 ≤ h0.size) (V_r0 : Arv Z h0 r0 ka .byte (1 : Int32) [(.int v0)] (.int (0 : Int32))) :
    MetFree l (⟨"java/util/Arrays", "copyOf", "([BI)[B"⟩ : MethodName) (head1 (Jvm.Cond.code (⟨"java/util/Arrays", "copyOf", "([BI)[B"⟩ : MethodName) jdk_65_method_121_code 3 (some (.array .byte)) :: ws) ({ frames := 1, cells := 1, slots := 2, locals := 32 } : Room)) (fun a U => a = #[(.ref r0), (.int (2 : Int32))] ∧ Z.Warmed39 U.vm ∧ U.heap = h0) (fun _ _ _ _ _ => True) (fun _ U o U' => ∃ v L, o = .returned v ∧ Q3_1 Z r0 ka v0 h0 n0 v U'.heap L ∧ FrameEnd U o U' L ({ frames := 1, cells := 1, slots := 2, locals := 32 } : Room).cells ({ frames := 1, cells := 1, slots := 2, locals := 32 } : Room).slots) := by
  refine MetFree.of_bodySF (plainFor_of_name pn_java_util_Arrays) hisR ?_
  intro p e s m args below meth c s₁ Bd hml0 hP hK
  obtain ⟨rfl, hZ, hh⟩ := hP
  have hx := Bd.exec
  have hby := Bd.bytes
  have hml : c.maxLocals = 3 := hml0
  have hown : s.vm.findClass "java/util/Arrays" = some m.cls := findClass_of_methodNamed Bd.named
  have hnm := (name_of_methodNamed Bd.named Bd.method).1
  have X0 : Stand p l e ({ frames := 1, cells := 1, slots := 2, locals := 32 } : Room) s m #[(.ref r0), (.int (2 : Int32))] below meth c s₁ [] 0 0 := Stand.of_body Bd
  have e0 : s₁.heap = h0 := by rw [← hh, Bd.state]; rfl
  have N0 := Fr.nil n0
  have pre0 : ∀ t, Steps p.tables e below (s₁.setTop (mkF m 0 #[.val (.ref r0), .val (.int (2 : Int32)), .unset] [])) t → Steps p.tables e below (s₁.setTop (entryFrame m #[(.ref r0), (.int (2 : Int32))] 3)) t := fun t k => castTop (ef_3_1 m r0 (2 : Int32)) k
  have K0 : Keep h0 h0 [] := Keep.refl h0 []
  obtain ⟨cl_2_1, Ar_2_1, -, S_2_1, M_2_1, -, -⟩ := id V_r0
  obtain ⟨T2, h2, k2, X2, e2, E2, A2, st2⟩ := newP X0 hx hZ (hw _ (List.mem_of_getElem? (i := 5) rfl)) e0 (g := (mkF m 15 #[.val (.ref r0), .val (.int (2 : Int32)), .unset] [(.int (2 : Int32))])) rfl (hb hby d3_15) rfl (by decide) (cap := 2) (by decide) (by decide) (by decide) (by decide)
  obtain ⟨b2, g2⟩ : ∃ z, z = h0.size := ⟨_, rfl⟩
  rw [← g2] at A2 st2
  have g_b2 : n0 ≤ b2 := Nat.le_trans Z0 (Nat.le_of_eq g2.symm)
  have sz_b2 : h0.size ≤ b2 := Nat.le_trans K0.1 (Nat.le_of_eq g2.symm)
  have ne_r0_b2 : r0 ≠ b2 := Nat.ne_of_lt (Nat.lt_of_lt_of_le V_r0.lt (Nat.le_of_eq g2.symm))
  have V_r0_at2 : Arv Z h2 r0 ka .byte (1 : Int32) [(.int v0)] (.int (0 : Int32)) := V_r0.ext E2
  have K2 : Keep h0 h2 [] := K0.ext E2
  have Z2 : n0 ≤ h2.size := Nat.le_trans Z0 E2.1
  have xV_b2_at2 := (Arv.new A2 (by decide)).pad (pad_rep [] (.int (0 : Int32)) 2)
  have V_b2_at2 : Arv Z h2 b2 k2 .byte (2 : Int32) [(.int (0 : Int32)), (.int (0 : Int32))] (.int (0 : Int32)) := xV_b2_at2
  obtain ⟨cl_23_3, Ar_23_3, -, S_23_3, M_23_3, -, -⟩ := id V_r0_at2
  obtain ⟨_, _, ⟨T4, L4, k4, n4⟩, -, X4, ⟨Lc4, hQ4, l4, y4, z4⟩, st4⟩ := Jvm.LawKit.callS X2 hx (y := (⟨"java/lang/Math", "min", "(II)I"⟩ : MethodName)) hown (mvT hZ (hw _ (List.mem_of_getElem? (i := 14) rfl))) (mvT hZ (hw _ (List.mem_of_getElem? (i := 15) rfl))) (mvT hZ (hw _ (List.mem_of_getElem? (i := 16) rfl))) (mvT hZ (hw _ (List.mem_of_getElem? (i := 17) rfl))) (by decide) (backOf (W := 4) (rm4 l Z a0 hw [] (1 : Int32) (2 : Int32) h2 n0 Z2) hZ (hw _ (List.mem_of_getElem? (i := 17) rfl)) (hw _ (List.mem_of_getElem? (i := 16) rfl)) (by decide) (by decide)) (g := (mkF m 25 #[.val (.ref r0), .val (.int (2 : Int32)), .val (.ref b2)] [(.int (2 : Int32)), (.int (1 : Int32)), (.int (0 : Int32)), (.ref b2), (.int (0 : Int32)), (.ref r0)])) rfl (by rw [hml]; rfl) (argsL := [(.int (1 : Int32)), (.int (2 : Int32))]) (rest := [(.int (0 : Int32)), (.ref b2), (.int (0 : Int32)), (.ref r0)]) (lenOf pd_28II29I rfl) rfl (by show 2 * 0 + _ ≤ _; exact Nat.le_of_eq rfl) (hb hby d3_25) (fun _ _ => ⟨rfl, e2, (by decide : 1 + 0 ≤ _), (by decide : 2 + 0 ≤ _)⟩)
  dsimp only [Pt.U, Pt.locs, Pt.cells, Pt.slots] at X4 l4 y4 z4 st4 hQ4
  subst l4 y4 z4
  obtain ⟨rfl, N4q, e4⟩ := hQ4
  have N4 := Fr.app N0 N4q
  obtain ⟨T5, h5, L5, X5, e5, N5, KK5, V5x, st5⟩ := cpA X4 hx hZ hown (hw _ (List.mem_of_getElem? (i := 18) rfl)) (hw _ (List.mem_of_getElem? (i := 21) rfl)) (hw _ (List.mem_of_getElem? (i := 19) rfl)) (hw _ (List.mem_of_getElem? (i := 20) rfl)) e4 V_r0_at2 V_b2_at2 (Or.inl ⟨rfl, rfl⟩) (sp := (0 : Int32)) (dp := (0 : Int32)) (nn := (1 : Int32)) (us := [(.int v0)]) (by decide) (by decide) (by decide) (by decide) (by decide) rfl (by decide) N4 g_b2 (g := (mkF m 28 #[.val (.ref r0), .val (.int (2 : Int32)), .val (.ref b2)] [(.int (1 : Int32)), (.int (0 : Int32)), (.ref b2), (.int (0 : Int32)), (.ref r0)])) rfl (by rw [hml]; rfl) (rest := []) rfl (hb hby d3_28) (by decide) (W := 0) (by show 2 * 0 + _ ≤ _; exact Nat.le_of_eq rfl) (by decide)
  have V_r0_at5 : Arv Z h5 r0 ka .byte (1 : Int32) [(.int v0)] (.int (0 : Int32)) := V_r0_at2.keep KK5 (ninS ne_r0_b2 nin0)
  have K5 : Keep h0 h5 [] := K2.trans KK5 (allS (Or.inr sz_b2) all0)
  have Z5 : n0 ≤ h5.size := Nat.le_trans Z2 KK5.1
  have xV_b2_at5 := V5x
  have V_b2_at5 : Arv Z h5 b2 k2 .byte (2 : Int32) [(.int v0), (.int (0 : Int32))] (.int (0 : Int32)) := xV_b2_at5
  obtain ⟨fs, hr, hrun, hended, hW, hsame⟩ := X5.leave (v := some (.ref b2)) (fun h => by rw [Bd.returns] at h; cases h)
  refine ⟨_, _, pre0 _ ?_, hrun, hended, _, _, rfl, ?_, ⟨_, rfl⟩, hW, hsame.mono (by decide) (by decide)⟩
  · show Steps p.tables e below (s₁.setTop (mkF m 0 #[.val (.ref r0), .val (.int (2 : Int32)), .unset] [])) _
    refine XS.iloadN X0.here hx rfl (hb hby d3_0) rfl ?_
    show Steps p.tables e below (s₁.setTop (mkF m 1 #[.val (.ref r0), .val (.int (2 : Int32)), .unset] [(.int (2 : Int32))])) _
    refine XS.aloadN X0.here hx rfl (hb hby d3_1) rfl rfl ?_
    show Steps p.tables e below (s₁.setTop (mkF m 2 #[.val (.ref r0), .val (.int (2 : Int32)), .unset] [(.ref r0), (.int (2 : Int32))])) _
    refine X0.arraylength hx (by rw [e0]; exact Ar_2_1.1) (State.isArrayOf_alike hZ.alike Ar_2_1.2.1) (g := (mkF m 2 #[.val (.ref r0), .val (.int (2 : Int32)), .unset] [(.ref r0), (.int (2 : Int32))])) rfl rfl (hb hby d3_2) _ ?_
    rw [len_of S_2_1 M_2_1]
    show Steps p.tables e below (s₁.setTop (mkF m 3 #[.val (.ref r0), .val (.int (2 : Int32)), .unset] [(.int (1 : Int32)), (.int (2 : Int32))])) _
    refine XS.icmpYes X0.here hx rfl (pc0 := 3) (pc' := 14) rfl (hb hby d3_3) rfl (feq (by decide : ¬ ((2 : Int32) = (1 : Int32)))).2 (by decide) (by decide) ?_
    show Steps p.tables e below (s₁.setTop (mkF m 14 #[.val (.ref r0), .val (.int (2 : Int32)), .unset] [])) _
    refine XS.iloadN X0.here hx rfl (hb hby d3_14) rfl ?_
    show Steps p.tables e below (s₁.setTop (mkF m 15 #[.val (.ref r0), .val (.int (2 : Int32)), .unset] [(.int (2 : Int32))])) _
    refine st2 _ ?_
    show Steps p.tables e below (T2.setTop (mkF m 17 #[.val (.ref r0), .val (.int (2 : Int32)), .unset] [(.ref b2)])) _
    refine XS.astoreN X2.here hx rfl (hb hby d3_17) rfl rfl (l' := #[.val (.ref r0), .val (.int (2 : Int32)), .val (.ref b2)]) rfl ?_
    show Steps p.tables e below (T2.setTop (mkF m 18 #[.val (.ref r0), .val (.int (2 : Int32)), .val (.ref b2)] [])) _
    refine XS.aloadN X2.here hx rfl (hb hby d3_18) rfl rfl ?_
    show Steps p.tables e below (T2.setTop (mkF m 19 #[.val (.ref r0), .val (.int (2 : Int32)), .val (.ref b2)] [(.ref r0)])) _
    refine XS.iconst X2.here hx rfl (hb hby d3_19) ?_
    show Steps p.tables e below (T2.setTop (mkF m 20 #[.val (.ref r0), .val (.int (2 : Int32)), .val (.ref b2)] [(.int (0 : Int32)), (.ref r0)])) _
    refine XS.aloadN X2.here hx rfl (hb hby d3_20) rfl rfl ?_
    show Steps p.tables e below (T2.setTop (mkF m 21 #[.val (.ref r0), .val (.int (2 : Int32)), .val (.ref b2)] [(.ref b2), (.int (0 : Int32)), (.ref r0)])) _
    refine XS.iconst X2.here hx rfl (hb hby d3_21) ?_
    show Steps p.tables e below (T2.setTop (mkF m 22 #[.val (.ref r0), .val (.int (2 : Int32)), .val (.ref b2)] [(.int (0 : Int32)), (.ref b2), (.int (0 : Int32)), (.ref r0)])) _
    refine XS.aloadN X2.here hx rfl (hb hby d3_22) rfl rfl ?_
    show Steps p.tables e below (T2.setTop (mkF m 23 #[.val (.ref r0), .val (.int (2 : Int32)), .val (.ref b2)] [(.ref r0), (.int (0 : Int32)), (.ref b2), (.int (0 : Int32)), (.ref r0)])) _
    refine X2.arraylength hx (by rw [e2]; exact Ar_23_3.1) (State.isArrayOf_alike hZ.alike Ar_23_3.2.1) (g := (mkF m 23 #[.val (.ref r0), .val (.int (2 : Int32)), .val (.ref b2)] [(.ref r0), (.int (0 : Int32)), (.ref b2), (.int (0 : Int32)), (.ref r0)])) rfl rfl (hb hby d3_23) _ ?_
    rw [len_of S_23_3 M_23_3]
    show Steps p.tables e below (T2.setTop (mkF m 24 #[.val (.ref r0), .val (.int (2 : Int32)), .val (.ref b2)] [(.int (1 : Int32)), (.int (0 : Int32)), (.ref b2), (.int (0 : Int32)), (.ref r0)])) _
    refine XS.iloadN X2.here hx rfl (hb hby d3_24) rfl ?_
    show Steps p.tables e below (T2.setTop (mkF m 25 #[.val (.ref r0), .val (.int (2 : Int32)), .val (.ref b2)] [(.int (2 : Int32)), (.int (1 : Int32)), (.int (0 : Int32)), (.ref b2), (.int (0 : Int32)), (.ref r0)])) _
    refine st4 _ ?_
    show Steps p.tables e below (T4.setTop (mkF m 28 #[.val (.ref r0), .val (.int (2 : Int32)), .val (.ref b2)] [(.int (1 : Int32)), (.int (0 : Int32)), (.ref b2), (.int (0 : Int32)), (.ref r0)])) _
    refine st5 _ ?_
    show Steps p.tables e below (T5.setTop (mkF m 31 #[.val (.ref r0), .val (.int (2 : Int32)), .val (.ref b2)] [])) _
    refine XS.aloadN X5.here hx rfl (hb hby d3_31) rfl rfl ?_
    show Steps p.tables e below (T5.setTop (mkF m 32 #[.val (.ref r0), .val (.int (2 : Int32)), .val (.ref b2)] [(.ref b2)])) _
    jvm_step X5.here [X5.here.top, hx, (hb hby d3_32), X5.method', Bd.returns, Value.isRef, FieldType.isReference]
    first | (intro acts; rw [hr _ acts rfl rfl rfl]) | rw [hr _ _ rfl rfl rfl]
    exact Steps.refl _
  · show Q3_1 Z r0 ka v0 h0 n0 _ T5.heap _
    rw [e5]
    exact ⟨b2, _, rfl, N5, K5, sz_b2, V_b2_at5⟩
theorem ef_2_1 (m : MethodId) (x0 : Addr) : entryFrame m #[(.ref x0)] 2 = mkF m 0 #[.val (.ref x0), .unset] [] := by first | (simp [entryFrame, mkF, argsToLocals, Value.category]; done) | rfl
def Q2_1 (Z : State) (r0 : Addr) (ka : ClassId) (v0 : Int32) (h0 : Heap) (n0 : Nat) (v : Option Value) (h : Heap) (L : List Loc) : Prop := ∃ (b : Addr) (kb : ClassId), v = some (.ref b) ∧ Fr n0 L ∧ Keep h0 h [] ∧ h0.size ≤ b ∧ Arv Z h b kb .byte (2 : Int32) [(.int v0), (.int (-1 : Int32))] (.int (0 : Int32))
set_option maxRecDepth 65536 in
set_option maxHeartbeats 40000000 in
theorem rm2_1 (l : Launch) (Z : State) (a0 : Array Value) (hw : ∀ d ∈ tables_1, d.before a0 Z = true) (ws : List Jvm.Cond) (r0 : Addr) (ka : ClassId) (v0 : Int32) (h0 : Heap) (n0 : Nat) (Z0 : n0 ≤ h0.size) (V_r0 : Arv Z h0 r0 ka .byte (1 : Int32) [(.int v0)] (.int (0 : Int32))) :
    MetFree l (⟨"com/example/usrset/usrset/store/Key", "pastTuplesOf", "([B)[B"⟩ : MethodName) (head1 (Jvm.Cond.code (⟨"com/example/usrset/usrset/store/Key", "pastTuplesOf", "([B)[B"⟩ : MethodName) prog_10_method_4_code 2 (some (.array .byte)) :: ws) ({ frames := 2, cells := 1, slots := 2, locals := 46 } : Room)) (fun a U => a = #[(.ref r0)] ∧ Z.Warmed39 U.vm ∧ U.heap = h0) (fun _ _ _ _ _ => True) (fun _ U o U' => ∃ v L, o = .returned v ∧ Q2_1 Z r0 ka v0 h0 n0 v U'.heap L ∧ FrameEnd U o U' L ({ frames := 2, cells := 1, slots := 2, locals := 46 } : Room).cells ({ frames := 2, cells := 1, slots := 2, locals := 46 } : Room).slots) := by
  refine MetFree.of_bodySF (plainFor_of_name pn_com_example_usrset_usrset_store_Key) hisR ?_
  intro p e s m args below meth c s₁ Bd hml0 hP hK
  obtain ⟨rfl, hZ, hh⟩ := hP
  have hx := Bd.exec
  have hby := Bd.bytes
  have hml : c.maxLocals = 2 := hml0
  have hown : s.vm.findClass "com/example/usrset/usrset/store/Key" = some m.cls := findClass_of_methodNamed Bd.named
  have hnm := (name_of_methodNamed Bd.named Bd.method).1
  have X0 : Stand p l e ({ frames := 2, cells := 1, slots := 2, locals := 46 } : Room) s m #[(.ref r0)] below meth c s₁ [] 0 0 := Stand.of_body Bd
  have e0 : s₁.heap = h0 := by rw [← hh, Bd.state]; rfl
  have N0 := Fr.nil n0
  have pre0 : ∀ t, Steps p.tables e below (s₁.setTop (mkF m 0 #[.val (.ref r0), .unset] [])) t → Steps p.tables e below (s₁.setTop (entryFrame m #[(.ref r0)] 2)) t := fun t k => castTop (ef_2_1 m r0) k
  have K0 : Keep h0 h0 [] := Keep.refl h0 []
  obtain ⟨cl_2_1, Ar_2_1, -, S_2_1, M_2_1, -, -⟩ := id V_r0
  obtain ⟨_, _, ⟨T2, L2, k2, n2⟩, -, X2, ⟨Lc2, hQ2, l2, y2, z2⟩, st2⟩ := Jvm.LawKit.callS X0 hx (y := (⟨"java/util/Arrays", "copyOf", "([BI)[B"⟩ : MethodName)) hown (mvT hZ (hw _ (List.mem_of_getElem? (i := 10) rfl))) (mvT hZ (hw _ (List.mem_of_getElem? (i := 11) rfl))) (mvT hZ (hw _ (List.mem_of_getElem? (i := 12) rfl))) (mvT hZ (hw _ (List.mem_of_getElem? (i := 13) rfl))) (by decide) (backOf (W := 0) (rm3_1 l Z a0 hw [] r0 ka v0 h0 n0 Z0 V_r0) hZ (hw _ (List.mem_of_getElem? (i := 13) rfl)) (hw _ (List.mem_of_getElem? (i := 12) rfl)) (by decide) (by decide)) (g := (mkF m 5 #[.val (.ref r0), .unset] [(.int (2 : Int32)), (.ref r0)])) rfl (by rw [hml]; rfl) (argsL := [(.ref r0), (.int (2 : Int32))]) (rest := []) (lenOf pd_285bBI295bB rfl) rfl (by show 2 * 0 + _ ≤ _; exact Nat.le_of_eq rfl) (hb hby d2_5) (fun _ _ => ⟨rfl, e0, (by decide : 0 + 1 ≤ _), (by decide : 0 + 2 ≤ _)⟩)
  dsimp only [Pt.U, Pt.locs, Pt.cells, Pt.slots] at X2 l2 y2 z2 st2 hQ2
  subst l2 y2 z2
  obtain ⟨b2, kb2, rfl, N2q, KK2, gb2, VB2⟩ := hQ2
  obtain ⟨h2, e2⟩ : ∃ z, T2.heap = z := ⟨_, rfl⟩
  rw [e2] at KK2 VB2
  have V_r0_at2 : Arv Z h2 r0 ka .byte (1 : Int32) [(.int v0)] (.int (0 : Int32)) := V_r0.keep KK2 nin0
  have K2 : Keep h0 h2 [] := K0.trans KK2 all0
  have Z2 : n0 ≤ h2.size := Nat.le_trans Z0 KK2.1
  have ne_r0_b2 : r0 ≠ b2 := Nat.ne_of_lt (Nat.lt_of_lt_of_le V_r0.lt gb2)
  have g_b2 : n0 ≤ b2 := Nat.le_trans Z0 gb2
  have sz_b2 : h0.size ≤ b2 := Nat.le_trans K0.1 gb2
  have N2 := Fr.app N0 N2q
  obtain ⟨cl_11_3, Ar_11_3, -, S_11_3, M_11_3, -, -⟩ := id V_r0_at2
  obtain ⟨cl_13, Ar_13, q_13, S_13, N_13, H_13, G_13⟩ := id VB2
  have hin13 : ¬ ((1 : Int32) < 0 ∨ cl_13.slots.size ≤ ((1 : Int32)).toNatClampNeg) := inb_of S_13 ⟨by decide, by decide⟩
  obtain ⟨T4, h4, X4, e4, W4, st4⟩ := stB X2 hx hZ e2 Ar_13 (j := (1 : Int32)) hin13 (g := (mkF m 13 #[.val (.ref r0), .val (.ref b2)] [(.int (-1 : Int32)), (.int (1 : Int32)), (.ref b2)])) rfl rfl (hb hby d2_13)
  have V_r0_at4 : Arv Z h4 r0 ka .byte (1 : Int32) [(.int v0)] (.int (0 : Int32)) := V_r0_at2.other W4 ne_r0_b2
  have xV_b2_at4 := Arv.set Ar_13 q_13 S_13 N_13 H_13 G_13 (fits_nar_byte _) W4 1 rfl (Nat.le_of_ble_eq_true rfl)
  have V_b2_at4 : Arv Z h4 b2 kb2 .byte (2 : Int32) [(.int v0), (.int (-1 : Int32))] (.int (0 : Int32)) := xV_b2_at4
  have K4 : Keep h0 h4 [] := K2.wr W4 (Or.inr sz_b2)
  have Z4 : n0 ≤ h4.size := Nat.le_trans Z2 (Keep.of_wr W4).1
  have N4 := Fr.snoc X4 N2 g_b2
  obtain ⟨fs, hr, hrun, hended, hW, hsame⟩ := X4.leave (v := some (.ref b2)) (fun h => by rw [Bd.returns] at h; cases h)
  refine ⟨_, _, pre0 _ ?_, hrun, hended, _, _, rfl, ?_, ⟨_, rfl⟩, hW, hsame.mono (by decide) (by decide)⟩
  · show Steps p.tables e below (s₁.setTop (mkF m 0 #[.val (.ref r0), .unset] [])) _
    refine XS.aloadN X0.here hx rfl (hb hby d2_0) rfl rfl ?_
    show Steps p.tables e below (s₁.setTop (mkF m 1 #[.val (.ref r0), .unset] [(.ref r0)])) _
    refine XS.aloadN X0.here hx rfl (hb hby d2_1) rfl rfl ?_
    show Steps p.tables e below (s₁.setTop (mkF m 2 #[.val (.ref r0), .unset] [(.ref r0), (.ref r0)])) _
    refine X0.arraylength hx (by rw [e0]; exact Ar_2_1.1) (State.isArrayOf_alike hZ.alike Ar_2_1.2.1) (g := (mkF m 2 #[.val (.ref r0), .unset] [(.ref r0), (.ref r0)])) rfl rfl (hb hby d2_2) _ ?_
    rw [len_of S_2_1 M_2_1]
    show Steps p.tables e below (s₁.setTop (mkF m 3 #[.val (.ref r0), .unset] [(.int (1 : Int32)), (.ref r0)])) _
    refine XS.iconst X0.here hx rfl (hb hby d2_3) ?_
    show Steps p.tables e below (s₁.setTop (mkF m 4 #[.val (.ref r0), .unset] [(.int (1 : Int32)), (.int (1 : Int32)), (.ref r0)])) _
    refine XS.iadd X0.here hx rfl (hb hby d2_4) rfl ?_
    show Steps p.tables e below (s₁.setTop (mkF m 5 #[.val (.ref r0), .unset] [(.int (2 : Int32)), (.ref r0)])) _
    refine st2 _ ?_
    show Steps p.tables e below (T2.setTop (mkF m 8 #[.val (.ref r0), .unset] [(.ref b2)])) _
    refine XS.astoreN X2.here hx rfl (hb hby d2_8) rfl rfl (l' := #[.val (.ref r0), .val (.ref b2)]) rfl ?_
    show Steps p.tables e below (T2.setTop (mkF m 9 #[.val (.ref r0), .val (.ref b2)] [])) _
    refine XS.aloadN X2.here hx rfl (hb hby d2_9) rfl rfl ?_
    show Steps p.tables e below (T2.setTop (mkF m 10 #[.val (.ref r0), .val (.ref b2)] [(.ref b2)])) _
    refine XS.aloadN X2.here hx rfl (hb hby d2_10) rfl rfl ?_
    show Steps p.tables e below (T2.setTop (mkF m 11 #[.val (.ref r0), .val (.ref b2)] [(.ref r0), (.ref b2)])) _
    refine X2.arraylength hx (by rw [e2]; exact Ar_11_3.1) (State.isArrayOf_alike hZ.alike Ar_11_3.2.1) (g := (mkF m 11 #[.val (.ref r0), .val (.ref b2)] [(.ref r0), (.ref b2)])) rfl rfl (hb hby d2_11) _ ?_
    rw [len_of S_11_3 M_11_3]
    show Steps p.tables e below (T2.setTop (mkF m 12 #[.val (.ref r0), .val (.ref b2)] [(.int (1 : Int32)), (.ref b2)])) _
    refine XS.iconst X2.here hx rfl (hb hby d2_12) ?_
    show Steps p.tables e below (T2.setTop (mkF m 13 #[.val (.ref r0), .val (.ref b2)] [(.int (-1 : Int32)), (.int (1 : Int32)), (.ref b2)])) _
    refine st4 _ ?_
    show Steps p.tables e below (T4.setTop (mkF m 14 #[.val (.ref r0), .val (.ref b2)] [])) _
    refine XS.aloadN X4.here hx rfl (hb hby d2_14) rfl rfl ?_
    show Steps p.tables e below (T4.setTop (mkF m 15 #[.val (.ref r0), .val (.ref b2)] [(.ref b2)])) _
    jvm_step X4.here [X4.here.top, hx, (hb hby d2_15), X4.method', Bd.returns, Value.isRef, FieldType.isReference]
    first | (intro acts; rw [hr _ acts rfl rfl rfl]) | rw [hr _ _ rfl rfl rfl]
    exact Steps.refl _
  · show Q2_1 Z r0 ka v0 h0 n0 _ T4.heap _
    rw [e4]
    exact ⟨b2, _, rfl, N4, K4, sz_b2, V_b2_at4⟩
theorem ef_3_2 (m : MethodId) (x0 : Addr) (x1 : Int32) : entryFrame m #[(.ref x0), (.int x1)] 3 = mkF m 0 #[.val (.ref x0), .val (.int x1), .unset] [] := by first | (simp [entryFrame, mkF, argsToLocals, Value.category]; done) | rfl
def Q3_2 (Z : State) (r0 : Addr) (ka : ClassId) (v0 v1 : Int32) (h0 : Heap) (n0 : Nat) (v : Option Value) (h : Heap) (L : List Loc) : Prop := ∃ (b : Addr) (kb : ClassId), v = some (.ref b) ∧ Fr n0 L ∧ Keep h0 h [] ∧ h0.size ≤ b ∧ Arv Z h b kb .byte (3 : Int32) [(.int v0), (.int v1), (.int (0 : Int32))] (.int (0 : Int32))
set_option maxRecDepth 65536 in
set_option maxHeartbeats 40000000 in
theorem rm3_2 (l : Launch) (Z : State) (a0 : Array Value) (hw : ∀ d ∈ tables_1, d.before a0 Z = true) (ws : List Jvm.Cond) (r0 : Addr) (ka : ClassId) (v0 v1 : Int32) (h0 : Heap) (n0 : Nat) (Z0 : n0 ≤ h0.size) (V_r0 : Arv Z h0 r0 ka .byte (2 : Int32) [(.int v0), (.int v1)] (.int (0 : Int32))) :
    MetFree l (⟨"java/util/Arrays", "copyOf", "([BI)[B"⟩ : MethodName) (head1 (Jvm.Cond.code (⟨"java/util/Arrays", "copyOf", "([BI)[B"⟩ : MethodName) jdk_65_method_121_code 3 (some (.array .byte)) :: ws) ({ frames := 1, cells := 1, slots := 3, locals := 32 } : Room)) (fun a U => a = #[(.ref r0), (.int (3 : Int32))] ∧ Z.Warmed39 U.vm ∧ U.heap = h0) (fun _ _ _ _ _ => True) (fun _ U o U' => ∃ v L, o = .returned v ∧ Q3_2 Z r0 ka v0 v1 h0 n0 v U'.heap L ∧ FrameEnd U o U' L ({ frames := 1, cells := 1, slots := 3, locals := 32 } : Room).cells ({ frames := 1, cells := 1, slots := 3, locals := 32 } : Room).slots) := by
  refine MetFree.of_bodySF (plainFor_of_name pn_java_util_Arrays) hisR ?_
  intro p e s m args below meth c s₁ Bd hml0 hP hK
  obtain ⟨rfl, hZ, hh⟩ := hP
  have hx := Bd.exec
  have hby := Bd.bytes
  have hml : c.maxLocals = 3 := hml0
  have hown : s.vm.findClass "java/util/Arrays" = some m.cls := findClass_of_methodNamed Bd.named
  have hnm := (name_of_methodNamed Bd.named Bd.method).1
  have X0 : Stand p l e ({ frames := 1, cells := 1, slots := 3, locals := 32 } : Room) s m #[(.ref r0), (.int (3 : Int32))] below meth c s₁ [] 0 0 := Stand.of_body Bd
  have e0 : s₁.heap = h0 := by rw [← hh, Bd.state]; rfl
  have N0 := Fr.nil n0
  have pre0 : ∀ t, Steps p.tables e below (s₁.setTop (mkF m 0 #[.val (.ref r0), .val (.int (3 : Int32)), .unset] [])) t → Steps p.tables e below (s₁.setTop (entryFrame m #[(.ref r0), (.int (3 : Int32))] 3)) t := fun t k => castTop (ef_3_2 m r0 (3 : Int32)) k
  have K0 : Keep h0 h0 [] := Keep.refl h0 []
  obtain ⟨cl_2_1, Ar_2_1, -, S_2_1, M_2_1, -, -⟩ := id V_r0
  obtain ⟨T2, h2, k2, X2, e2, E2, A2, st2⟩ := newP X0 hx hZ (hw _ (List.mem_of_getElem? (i := 5) rfl)) e0 (g := (mkF m 15 #[.val (.ref r0), .val (.int (3 : Int32)), .unset] [(.int (3 : Int32))])) rfl (hb hby d3_15) rfl (by decide) (cap := 3) (by decide) (by decide) (by decide) (by decide)
  obtain ⟨b2, g2⟩ : ∃ z, z = h0.size := ⟨_, rfl⟩
  rw [← g2] at A2 st2
  have g_b2 : n0 ≤ b2 := Nat.le_trans Z0 (Nat.le_of_eq g2.symm)
  have sz_b2 : h0.size ≤ b2 := Nat.le_trans K0.1 (Nat.le_of_eq g2.symm)
  have ne_r0_b2 : r0 ≠ b2 := Nat.ne_of_lt (Nat.lt_of_lt_of_le V_r0.lt (Nat.le_of_eq g2.symm))
  have V_r0_at2 : Arv Z h2 r0 ka .byte (2 : Int32) [(.int v0), (.int v1)] (.int (0 : Int32)) := V_r0.ext E2
  have K2 : Keep h0 h2 [] := K0.ext E2
  have Z2 : n0 ≤ h2.size := Nat.le_trans Z0 E2.1
  have xV_b2_at2 := (Arv.new A2 (by decide)).pad (pad_rep [] (.int (0 : Int32)) 3)
  have V_b2_at2 : Arv Z h2 b2 k2 .byte (3 : Int32) [(.int (0 : Int32)), (.int (0 : Int32)), (.int (0 : Int32))] (.int (0 : Int32)) := xV_b2_at2
  obtain ⟨cl_23_3, Ar_23_3, -, S_23_3, M_23_3, -, -⟩ := id V_r0_at2
  obtain ⟨_, _, ⟨T4, L4, k4, n4⟩, -, X4, ⟨Lc4, hQ4, l4, y4, z4⟩, st4⟩ := Jvm.LawKit.callS X2 hx (y := (⟨"java/lang/Math", "min", "(II)I"⟩ : MethodName)) hown (mvT hZ (hw _ (List.mem_of_getElem? (i := 14) rfl))) (mvT hZ (hw _ (List.mem_of_getElem? (i := 15) rfl))) (mvT hZ (hw _ (List.mem_of_getElem? (i := 16) rfl))) (mvT hZ (hw _ (List.mem_of_getElem? (i := 17) rfl))) (by decide) (backOf (W := 4) (rm4 l Z a0 hw [] (2 : Int32) (3 : Int32) h2 n0 Z2) hZ (hw _ (List.mem_of_getElem? (i := 17) rfl)) (hw _ (List.mem_of_getElem? (i := 16) rfl)) (by decide) (by decide)) (g := (mkF m 25 #[.val (.ref r0), .val (.int (3 : Int32)), .val (.ref b2)] [(.int (3 : Int32)), (.int (2 : Int32)), (.int (0 : Int32)), (.ref b2), (.int (0 : Int32)), (.ref r0)])) rfl (by rw [hml]; rfl) (argsL := [(.int (2 : Int32)), (.int (3 : Int32))]) (rest := [(.int (0 : Int32)), (.ref b2), (.int (0 : Int32)), (.ref r0)]) (lenOf pd_28II29I rfl) rfl (by show 2 * 0 + _ ≤ _; exact Nat.le_of_eq rfl) (hb hby d3_25) (fun _ _ => ⟨rfl, e2, (by decide : 1 + 0 ≤ _), (by decide : 3 + 0 ≤ _)⟩)
  dsimp only [Pt.U, Pt.locs, Pt.cells, Pt.slots] at X4 l4 y4 z4 st4 hQ4
  subst l4 y4 z4
  obtain ⟨rfl, N4q, e4⟩ := hQ4
  have N4 := Fr.app N0 N4q
  obtain ⟨T5, h5, L5, X5, e5, N5, KK5, V5x, st5⟩ := cpA X4 hx hZ hown (hw _ (List.mem_of_getElem? (i := 18) rfl)) (hw _ (List.mem_of_getElem? (i := 21) rfl)) (hw _ (List.mem_of_getElem? (i := 19) rfl)) (hw _ (List.mem_of_getElem? (i := 20) rfl)) e4 V_r0_at2 V_b2_at2 (Or.inl ⟨rfl, rfl⟩) (sp := (0 : Int32)) (dp := (0 : Int32)) (nn := (2 : Int32)) (us := [(.int v0), (.int v1)]) (by decide) (by decide) (by decide) (by decide) (by decide) rfl (by decide) N4 g_b2 (g := (mkF m 28 #[.val (.ref r0), .val (.int (3 : Int32)), .val (.ref b2)] [(.int (2 : Int32)), (.int (0 : Int32)), (.ref b2), (.int (0 : Int32)), (.ref r0)])) rfl (by rw [hml]; rfl) (rest := []) rfl (hb hby d3_28) (by decide) (W := 0) (by show 2 * 0 + _ ≤ _; exact Nat.le_of_eq rfl) (by decide)
  have V_r0_at5 : Arv Z h5 r0 ka .byte (2 : Int32) [(.int v0), (.int v1)] (.int (0 : Int32)) := V_r0_at2.keep KK5 (ninS ne_r0_b2 nin0)
  have K5 : Keep h0 h5 [] := K2.trans KK5 (allS (Or.inr sz_b2) all0)
  have Z5 : n0 ≤ h5.size := Nat.le_trans Z2 KK5.1
  have xV_b2_at5 := V5x
  have V_b2_at5 : Arv Z h5 b2 k2 .byte (3 : Int32) [(.int v0), (.int v1), (.int (0 : Int32))] (.int (0 : Int32)) := xV_b2_at5
  obtain ⟨fs, hr, hrun, hended, hW, hsame⟩ := X5.leave (v := some (.ref b2)) (fun h => by rw [Bd.returns] at h; cases h)
  refine ⟨_, _, pre0 _ ?_, hrun, hended, _, _, rfl, ?_, ⟨_, rfl⟩, hW, hsame.mono (by decide) (by decide)⟩
  · show Steps p.tables e below (s₁.setTop (mkF m 0 #[.val (.ref r0), .val (.int (3 : Int32)), .unset] [])) _
    refine XS.iloadN X0.here hx rfl (hb hby d3_0) rfl ?_
    show Steps p.tables e below (s₁.setTop (mkF m 1 #[.val (.ref r0), .val (.int (3 : Int32)), .unset] [(.int (3 : Int32))])) _
    refine XS.aloadN X0.here hx rfl (hb hby d3_1) rfl rfl ?_
    show Steps p.tables e below (s₁.setTop (mkF m 2 #[.val (.ref r0), .val (.int (3 : Int32)), .unset] [(.ref r0), (.int (3 : Int32))])) _
    refine X0.arraylength hx (by rw [e0]; exact Ar_2_1.1) (State.isArrayOf_alike hZ.alike Ar_2_1.2.1) (g := (mkF m 2 #[.val (.ref r0), .val (.int (3 : Int32)), .unset] [(.ref r0), (.int (3 : Int32))])) rfl rfl (hb hby d3_2) _ ?_
    rw [len_of S_2_1 M_2_1]
    show Steps p.tables e below (s₁.setTop (mkF m 3 #[.val (.ref r0), .val (.int (3 : Int32)), .unset] [(.int (2 : Int32)), (.int (3 : Int32))])) _
    refine XS.icmpYes X0.here hx rfl (pc0 := 3) (pc' := 14) rfl (hb hby d3_3) rfl (feq (by decide : ¬ ((3 : Int32) = (2 : Int32)))).2 (by decide) (by decide) ?_
    show Steps p.tables e below (s₁.setTop (mkF m 14 #[.val (.ref r0), .val (.int (3 : Int32)), .unset] [])) _
    refine XS.iloadN X0.here hx rfl (hb hby d3_14) rfl ?_
    show Steps p.tables e below (s₁.setTop (mkF m 15 #[.val (.ref r0), .val (.int (3 : Int32)), .unset] [(.int (3 : Int32))])) _
    refine st2 _ ?_
    show Steps p.tables e below (T2.setTop (mkF m 17 #[.val (.ref r0), .val (.int (3 : Int32)), .unset] [(.ref b2)])) _
    refine XS.astoreN X2.here hx rfl (hb hby d3_17) rfl rfl (l' := #[.val (.ref r0), .val (.int (3 : Int32)), .val (.ref b2)]) rfl ?_
    show Steps p.tables e below (T2.setTop (mkF m 18 #[.val (.ref r0), .val (.int (3 : Int32)), .val (.ref b2)] [])) _
    refine XS.aloadN X2.here hx rfl (hb hby d3_18) rfl rfl ?_
    show Steps p.tables e below (T2.setTop (mkF m 19 #[.val (.ref r0), .val (.int (3 : Int32)), .val (.ref b2)] [(.ref r0)])) _
    refine XS.iconst X2.here hx rfl (hb hby d3_19) ?_
    show Steps p.tables e below (T2.setTop (mkF m 20 #[.val (.ref r0), .val (.int (3 : Int32)), .val (.ref b2)] [(.int (0 : Int32)), (.ref r0)])) _
    refine XS.aloadN X2.here hx rfl (hb hby d3_20) rfl rfl ?_
    show Steps p.tables e below (T2.setTop (mkF m 21 #[.val (.ref r0), .val (.int (3 : Int32)), .val (.ref b2)] [(.ref b2), (.int (0 : Int32)), (.ref r0)])) _
    refine XS.iconst X2.here hx rfl (hb hby d3_21) ?_
    show Steps p.tables e below (T2.setTop (mkF m 22 #[.val (.ref r0), .val (.int (3 : Int32)), .val (.ref b2)] [(.int (0 : Int32)), (.ref b2), (.int (0 : Int32)), (.ref r0)])) _
    refine XS.aloadN X2.here hx rfl (hb hby d3_22) rfl rfl ?_
    show Steps p.tables e below (T2.setTop (mkF m 23 #[.val (.ref r0), .val (.int (3 : Int32)), .val (.ref b2)] [(.ref r0), (.int (0 : Int32)), (.ref b2), (.int (0 : Int32)), (.ref r0)])) _
    refine X2.arraylength hx (by rw [e2]; exact Ar_23_3.1) (State.isArrayOf_alike hZ.alike Ar_23_3.2.1) (g := (mkF m 23 #[.val (.ref r0), .val (.int (3 : Int32)), .val (.ref b2)] [(.ref r0), (.int (0 : Int32)), (.ref b2), (.int (0 : Int32)), (.ref r0)])) rfl rfl (hb hby d3_23) _ ?_
    rw [len_of S_23_3 M_23_3]
    show Steps p.tables e below (T2.setTop (mkF m 24 #[.val (.ref r0), .val (.int (3 : Int32)), .val (.ref b2)] [(.int (2 : Int32)), (.int (0 : Int32)), (.ref b2), (.int (0 : Int32)), (.ref r0)])) _
    refine XS.iloadN X2.here hx rfl (hb hby d3_24) rfl ?_
    show Steps p.tables e below (T2.setTop (mkF m 25 #[.val (.ref r0), .val (.int (3 : Int32)), .val (.ref b2)] [(.int (3 : Int32)), (.int (2 : Int32)), (.int (0 : Int32)), (.ref b2), (.int (0 : Int32)), (.ref r0)])) _
    refine st4 _ ?_
    show Steps p.tables e below (T4.setTop (mkF m 28 #[.val (.ref r0), .val (.int (3 : Int32)), .val (.ref b2)] [(.int (2 : Int32)), (.int (0 : Int32)), (.ref b2), (.int (0 : Int32)), (.ref r0)])) _
    refine st5 _ ?_
    show Steps p.tables e below (T5.setTop (mkF m 31 #[.val (.ref r0), .val (.int (3 : Int32)), .val (.ref b2)] [])) _
    refine XS.aloadN X5.here hx rfl (hb hby d3_31) rfl rfl ?_
    show Steps p.tables e below (T5.setTop (mkF m 32 #[.val (.ref r0), .val (.int (3 : Int32)), .val (.ref b2)] [(.ref b2)])) _
    jvm_step X5.here [X5.here.top, hx, (hb hby d3_32), X5.method', Bd.returns, Value.isRef, FieldType.isReference]
    first | (intro acts; rw [hr _ acts rfl rfl rfl]) | rw [hr _ _ rfl rfl rfl]
    exact Steps.refl _
  · show Q3_2 Z r0 ka v0 v1 h0 n0 _ T5.heap _
    rw [e5]
    exact ⟨b2, _, rfl, N5, K5, sz_b2, V_b2_at5⟩
theorem ef_2_2 (m : MethodId) (x0 : Addr) : entryFrame m #[(.ref x0)] 2 = mkF m 0 #[.val (.ref x0), .unset] [] := by first | (simp [entryFrame, mkF, argsToLocals, Value.category]; done) | rfl
def Q2_2 (Z : State) (r0 : Addr) (ka : ClassId) (v0 v1 : Int32) (h0 : Heap) (n0 : Nat) (v : Option Value) (h : Heap) (L : List Loc) : Prop := ∃ (b : Addr) (kb : ClassId), v = some (.ref b) ∧ Fr n0 L ∧ Keep h0 h [] ∧ h0.size ≤ b ∧ Arv Z h b kb .byte (3 : Int32) [(.int v0), (.int v1), (.int (-1 : Int32))] (.int (0 : Int32))
set_option maxRecDepth 65536 in
set_option maxHeartbeats 40000000 in
theorem rm2_2 (l : Launch) (Z : State) (a0 : Array Value) (hw : ∀ d ∈ tables_1, d.before a0 Z = true) (ws : List Jvm.Cond) (r0 : Addr) (ka : ClassId) (v0 v1 : Int32) (h0 : Heap) (n0 : Nat) (Z0 : n0 ≤ h0.size) (V_r0 : Arv Z h0 r0 ka .byte (2 : Int32) [(.int v0), (.int v1)] (.int (0 : Int32))) :
    MetFree l (⟨"com/example/usrset/usrset/store/Key", "pastTuplesOf", "([B)[B"⟩ : MethodName) (head1 (Jvm.Cond.code (⟨"com/example/usrset/usrset/store/Key", "pastTuplesOf", "([B)[B"⟩ : MethodName) prog_10_method_4_code 2 (some (.array .byte)) :: ws) ({ frames := 2, cells := 1, slots := 3, locals := 46 } : Room)) (fun a U => a = #[(.ref r0)] ∧ Z.Warmed39 U.vm ∧ U.heap = h0) (fun _ _ _ _ _ => True) (fun _ U o U' => ∃ v L, o = .returned v ∧ Q2_2 Z r0 ka v0 v1 h0 n0 v U'.heap L ∧ FrameEnd U o U' L ({ frames := 2, cells := 1, slots := 3, locals := 46 } : Room).cells ({ frames := 2, cells := 1, slots := 3, locals := 46 } : Room).slots) := by
  refine MetFree.of_bodySF (plainFor_of_name pn_com_example_usrset_usrset_store_Key) hisR ?_
  intro p e s m args below meth c s₁ Bd hml0 hP hK
  obtain ⟨rfl, hZ, hh⟩ := hP
  have hx := Bd.exec
  have hby := Bd.bytes
  have hml : c.maxLocals = 2 := hml0
  have hown : s.vm.findClass "com/example/usrset/usrset/store/Key" = some m.cls := findClass_of_methodNamed Bd.named
  have hnm := (name_of_methodNamed Bd.named Bd.method).1
  have X0 : Stand p l e ({ frames := 2, cells := 1, slots := 3, locals := 46 } : Room) s m #[(.ref r0)] below meth c s₁ [] 0 0 := Stand.of_body Bd
  have e0 : s₁.heap = h0 := by rw [← hh, Bd.state]; rfl
  have N0 := Fr.nil n0
  have pre0 : ∀ t, Steps p.tables e below (s₁.setTop (mkF m 0 #[.val (.ref r0), .unset] [])) t → Steps p.tables e below (s₁.setTop (entryFrame m #[(.ref r0)] 2)) t := fun t k => castTop (ef_2_2 m r0) k
  have K0 : Keep h0 h0 [] := Keep.refl h0 []
  obtain ⟨cl_2_1, Ar_2_1, -, S_2_1, M_2_1, -, -⟩ := id V_r0
  obtain ⟨_, _, ⟨T2, L2, k2, n2⟩, -, X2, ⟨Lc2, hQ2, l2, y2, z2⟩, st2⟩ := Jvm.LawKit.callS X0 hx (y := (⟨"java/util/Arrays", "copyOf", "([BI)[B"⟩ : MethodName)) hown (mvT hZ (hw _ (List.mem_of_getElem? (i := 10) rfl))) (mvT hZ (hw _ (List.mem_of_getElem? (i := 11) rfl))) (mvT hZ (hw _ (List.mem_of_getElem? (i := 12) rfl))) (mvT hZ (hw _ (List.mem_of_getElem? (i := 13) rfl))) (by decide) (backOf (W := 0) (rm3_2 l Z a0 hw [] r0 ka v0 v1 h0 n0 Z0 V_r0) hZ (hw _ (List.mem_of_getElem? (i := 13) rfl)) (hw _ (List.mem_of_getElem? (i := 12) rfl)) (by decide) (by decide)) (g := (mkF m 5 #[.val (.ref r0), .unset] [(.int (3 : Int32)), (.ref r0)])) rfl (by rw [hml]; rfl) (argsL := [(.ref r0), (.int (3 : Int32))]) (rest := []) (lenOf pd_285bBI295bB rfl) rfl (by show 2 * 0 + _ ≤ _; exact Nat.le_of_eq rfl) (hb hby d2_5) (fun _ _ => ⟨rfl, e0, (by decide : 0 + 1 ≤ _), (by decide : 0 + 3 ≤ _)⟩)
  dsimp only [Pt.U, Pt.locs, Pt.cells, Pt.slots] at X2 l2 y2 z2 st2 hQ2
  subst l2 y2 z2
  obtain ⟨b2, kb2, rfl, N2q, KK2, gb2, VB2⟩ := hQ2
  obtain ⟨h2, e2⟩ : ∃ z, T2.heap = z := ⟨_, rfl⟩
  rw [e2] at KK2 VB2
  have V_r0_at2 : Arv Z h2 r0 ka .byte (2 : Int32) [(.int v0), (.int v1)] (.int (0 : Int32)) := V_r0.keep KK2 nin0
  have K2 : Keep h0 h2 [] := K0.trans KK2 all0
  have Z2 : n0 ≤ h2.size := Nat.le_trans Z0 KK2.1
  have ne_r0_b2 : r0 ≠ b2 := Nat.ne_of_lt (Nat.lt_of_lt_of_le V_r0.lt gb2)
  have g_b2 : n0 ≤ b2 := Nat.le_trans Z0 gb2
  have sz_b2 : h0.size ≤ b2 := Nat.le_trans K0.1 gb2
  have N2 := Fr.app N0 N2q
  obtain ⟨cl_11_3, Ar_11_3, -, S_11_3, M_11_3, -, -⟩ := id V_r0_at2
  obtain ⟨cl_13, Ar_13, q_13, S_13, N_13, H_13, G_13⟩ := id VB2
  have hin13 : ¬ ((2 : Int32) < 0 ∨ cl_13.slots.size ≤ ((2 : Int32)).toNatClampNeg) := inb_of S_13 ⟨by decide, by decide⟩
  obtain ⟨T4, h4, X4, e4, W4, st4⟩ := stB X2 hx hZ e2 Ar_13 (j := (2 : Int32)) hin13 (g := (mkF m 13 #[.val (.ref r0), .val (.ref b2)] [(.int (-1 : Int32)), (.int (2 : Int32)), (.ref b2)])) rfl rfl (hb hby d2_13)
  have V_r0_at4 : Arv Z h4 r0 ka .byte (2 : Int32) [(.int v0), (.int v1)] (.int (0 : Int32)) := V_r0_at2.other W4 ne_r0_b2
  have xV_b2_at4 := Arv.set Ar_13 q_13 S_13 N_13 H_13 G_13 (fits_nar_byte _) W4 2 rfl (Nat.le_of_ble_eq_true rfl)
  have V_b2_at4 : Arv Z h4 b2 kb2 .byte (3 : Int32) [(.int v0), (.int v1), (.int (-1 : Int32))] (.int (0 : Int32)) := xV_b2_at4
  have K4 : Keep h0 h4 [] := K2.wr W4 (Or.inr sz_b2)
  have Z4 : n0 ≤ h4.size := Nat.le_trans Z2 (Keep.of_wr W4).1
  have N4 := Fr.snoc X4 N2 g_b2
  obtain ⟨fs, hr, hrun, hended, hW, hsame⟩ := X4.leave (v := some (.ref b2)) (fun h => by rw [Bd.returns] at h; cases h)
  refine ⟨_, _, pre0 _ ?_, hrun, hended, _, _, rfl, ?_, ⟨_, rfl⟩, hW, hsame.mono (by decide) (by decide)⟩
  · show Steps p.tables e below (s₁.setTop (mkF m 0 #[.val (.ref r0), .unset] [])) _
    refine XS.aloadN X0.here hx rfl (hb hby d2_0) rfl rfl ?_
    show Steps p.tables e below (s₁.setTop (mkF m 1 #[.val (.ref r0), .unset] [(.ref r0)])) _
    refine XS.aloadN X0.here hx rfl (hb hby d2_1) rfl rfl ?_
    show Steps p.tables e below (s₁.setTop (mkF m 2 #[.val (.ref r0), .unset] [(.ref r0), (.ref r0)])) _
    refine X0.arraylength hx (by rw [e0]; exact Ar_2_1.1) (State.isArrayOf_alike hZ.alike Ar_2_1.2.1) (g := (mkF m 2 #[.val (.ref r0), .unset] [(.ref r0), (.ref r0)])) rfl rfl (hb hby d2_2) _ ?_
    rw [len_of S_2_1 M_2_1]
    show Steps p.tables e below (s₁.setTop (mkF m 3 #[.val (.ref r0), .unset] [(.int (2 : Int32)), (.ref r0)])) _
    refine XS.iconst X0.here hx rfl (hb hby d2_3) ?_
    show Steps p.tables e below (s₁.setTop (mkF m 4 #[.val (.ref r0), .unset] [(.int (1 : Int32)), (.int (2 : Int32)), (.ref r0)])) _
    refine XS.iadd X0.here hx rfl (hb hby d2_4) rfl ?_
    show Steps p.tables e below (s₁.setTop (mkF m 5 #[.val (.ref r0), .unset] [(.int (3 : Int32)), (.ref r0)])) _
    refine st2 _ ?_
    show Steps p.tables e below (T2.setTop (mkF m 8 #[.val (.ref r0), .unset] [(.ref b2)])) _
    refine XS.astoreN X2.here hx rfl (hb hby d2_8) rfl rfl (l' := #[.val (.ref r0), .val (.ref b2)]) rfl ?_
    show Steps p.tables e below (T2.setTop (mkF m 9 #[.val (.ref r0), .val (.ref b2)] [])) _
    refine XS.aloadN X2.here hx rfl (hb hby d2_9) rfl rfl ?_
    show Steps p.tables e below (T2.setTop (mkF m 10 #[.val (.ref r0), .val (.ref b2)] [(.ref b2)])) _
    refine XS.aloadN X2.here hx rfl (hb hby d2_10) rfl rfl ?_
    show Steps p.tables e below (T2.setTop (mkF m 11 #[.val (.ref r0), .val (.ref b2)] [(.ref r0), (.ref b2)])) _
    refine X2.arraylength hx (by rw [e2]; exact Ar_11_3.1) (State.isArrayOf_alike hZ.alike Ar_11_3.2.1) (g := (mkF m 11 #[.val (.ref r0), .val (.ref b2)] [(.ref r0), (.ref b2)])) rfl rfl (hb hby d2_11) _ ?_
    rw [len_of S_11_3 M_11_3]
    show Steps p.tables e below (T2.setTop (mkF m 12 #[.val (.ref r0), .val (.ref b2)] [(.int (2 : Int32)), (.ref b2)])) _
    refine XS.iconst X2.here hx rfl (hb hby d2_12) ?_
    show Steps p.tables e below (T2.setTop (mkF m 13 #[.val (.ref r0), .val (.ref b2)] [(.int (-1 : Int32)), (.int (2 : Int32)), (.ref b2)])) _
    refine st4 _ ?_
    show Steps p.tables e below (T4.setTop (mkF m 14 #[.val (.ref r0), .val (.ref b2)] [])) _
    refine XS.aloadN X4.here hx rfl (hb hby d2_14) rfl rfl ?_
    show Steps p.tables e below (T4.setTop (mkF m 15 #[.val (.ref r0), .val (.ref b2)] [(.ref b2)])) _
    jvm_step X4.here [X4.here.top, hx, (hb hby d2_15), X4.method', Bd.returns, Value.isRef, FieldType.isReference]
    first | (intro acts; rw [hr _ acts rfl rfl rfl]) | rw [hr _ _ rfl rfl rfl]
    exact Steps.refl _
  · show Q2_2 Z r0 ka v0 v1 h0 n0 _ T4.heap _
    rw [e4]
    exact ⟨b2, _, rfl, N4, K4, sz_b2, V_b2_at4⟩
theorem ef_3_3 (m : MethodId) (x0 : Addr) (x1 : Int32) : entryFrame m #[(.ref x0), (.int x1)] 3 = mkF m 0 #[.val (.ref x0), .val (.int x1), .unset] [] := by first | (simp [entryFrame, mkF, argsToLocals, Value.category]; done) | rfl
def Q3_3 (Z : State) (r0 : Addr) (ka : ClassId) (v0 v1 v2 : Int32) (h0 : Heap) (n0 : Nat) (v : Option Value) (h : Heap) (L : List Loc) : Prop := ∃ (b : Addr) (kb : ClassId), v = some (.ref b) ∧ Fr n0 L ∧ Keep h0 h [] ∧ h0.size ≤ b ∧ Arv Z h b kb .byte (4 : Int32) [(.int v0), (.int v1), (.int v2), (.int (0 : Int32))] (.int (0 : Int32))
set_option maxRecDepth 65536 in
set_option maxHeartbeats 40000000 in
theorem rm3_3 (l : Launch) (Z : State) (a0 : Array Value) (hw : ∀ d ∈ tables_1, d.before a0 Z = true) (ws : List Jvm.Cond) (r0 : Addr) (ka : ClassId) (v0 v1 v2 : Int32) (h0 : Heap) (n0 : Nat) (Z0 : n0 ≤ h0.size) (V_r0 : Arv Z h0 r0 ka .byte (3 : Int32) [(.int v0), (.int v1), (.int v2)] (.int (0 : Int32))) :
    MetFree l (⟨"java/util/Arrays", "copyOf", "([BI)[B"⟩ : MethodName) (head1 (Jvm.Cond.code (⟨"java/util/Arrays", "copyOf", "([BI)[B"⟩ : MethodName) jdk_65_method_121_code 3 (some (.array .byte)) :: ws) ({ frames := 1, cells := 1, slots := 4, locals := 32 } : Room)) (fun a U => a = #[(.ref r0), (.int (4 : Int32))] ∧ Z.Warmed39 U.vm ∧ U.heap = h0) (fun _ _ _ _ _ => True) (fun _ U o U' => ∃ v L, o = .returned v ∧ Q3_3 Z r0 ka v0 v1 v2 h0 n0 v U'.heap L ∧ FrameEnd U o U' L ({ frames := 1, cells := 1, slots := 4, locals := 32 } : Room).cells ({ frames := 1, cells := 1, slots := 4, locals := 32 } : Room).slots) := by
  refine MetFree.of_bodySF (plainFor_of_name pn_java_util_Arrays) hisR ?_
  intro p e s m args below meth c s₁ Bd hml0 hP hK
  obtain ⟨rfl, hZ, hh⟩ := hP
  have hx := Bd.exec
  have hby := Bd.bytes
  have hml : c.maxLocals = 3 := hml0
  have hown : s.vm.findClass "java/util/Arrays" = some m.cls := findClass_of_methodNamed Bd.named
  have hnm := (name_of_methodNamed Bd.named Bd.method).1
  have X0 : Stand p l e ({ frames := 1, cells := 1, slots := 4, locals := 32 } : Room) s m #[(.ref r0), (.int (4 : Int32))] below meth c s₁ [] 0 0 := Stand.of_body Bd
  have e0 : s₁.heap = h0 := by rw [← hh, Bd.state]; rfl
  have N0 := Fr.nil n0
  have pre0 : ∀ t, Steps p.tables e below (s₁.setTop (mkF m 0 #[.val (.ref r0), .val (.int (4 : Int32)), .unset] [])) t → Steps p.tables e below (s₁.setTop (entryFrame m #[(.ref r0), (.int (4 : Int32))] 3)) t := fun t k => castTop (ef_3_3 m r0 (4 : Int32)) k
  have K0 : Keep h0 h0 [] := Keep.refl h0 []
  obtain ⟨cl_2_1, Ar_2_1, -, S_2_1, M_2_1, -, -⟩ := id V_r0
  obtain ⟨T2, h2, k2, X2, e2, E2, A2, st2⟩ := newP X0 hx hZ (hw _ (List.mem_of_getElem? (i := 5) rfl)) e0 (g := (mkF m 15 #[.val (.ref r0), .val (.int (4 : Int32)), .unset] [(.int (4 : Int32))])) rfl (hb hby d3_15) rfl (by decide) (cap := 4) (by decide) (by decide) (by decide) (by decide)
  obtain ⟨b2, g2⟩ : ∃ z, z = h0.size := ⟨_, rfl⟩
  rw [← g2] at A2 st2
  have g_b2 : n0 ≤ b2 := Nat.le_trans Z0 (Nat.le_of_eq g2.symm)
  have sz_b2 : h0.size ≤ b2 := Nat.le_trans K0.1 (Nat.le_of_eq g2.symm)
  have ne_r0_b2 : r0 ≠ b2 := Nat.ne_of_lt (Nat.lt_of_lt_of_le V_r0.lt (Nat.le_of_eq g2.symm))
  have V_r0_at2 : Arv Z h2 r0 ka .byte (3 : Int32) [(.int v0), (.int v1), (.int v2)] (.int (0 : Int32)) := V_r0.ext E2
  have K2 : Keep h0 h2 [] := K0.ext E2
  have Z2 : n0 ≤ h2.size := Nat.le_trans Z0 E2.1
  have xV_b2_at2 := (Arv.new A2 (by decide)).pad (pad_rep [] (.int (0 : Int32)) 4)
  have V_b2_at2 : Arv Z h2 b2 k2 .byte (4 : Int32) [(.int (0 : Int32)), (.int (0 : Int32)), (.int (0 : Int32)), (.int (0 : Int32))] (.int (0 : Int32)) := xV_b2_at2
  obtain ⟨cl_23_3, Ar_23_3, -, S_23_3, M_23_3, -, -⟩ := id V_r0_at2
  obtain ⟨_, _, ⟨T4, L4, k4, n4⟩, -, X4, ⟨Lc4, hQ4, l4, y4, z4⟩, st4⟩ := Jvm.LawKit.callS X2 hx (y := (⟨"java/lang/Math", "min", "(II)I"⟩ : MethodName)) hown (mvT hZ (hw _ (List.mem_of_getElem? (i := 14) rfl))) (mvT hZ (hw _ (List.mem_of_getElem? (i := 15) rfl))) (mvT hZ (hw _ (List.mem_of_getElem? (i := 16) rfl))) (mvT hZ (hw _ (List.mem_of_getElem? (i := 17) rfl))) (by decide) (backOf (W := 4) (rm4 l Z a0 hw [] (3 : Int32) (4 : Int32) h2 n0 Z2) hZ (hw _ (List.mem_of_getElem? (i := 17) rfl)) (hw _ (List.mem_of_getElem? (i := 16) rfl)) (by decide) (by decide)) (g := (mkF m 25 #[.val (.ref r0), .val (.int (4 : Int32)), .val (.ref b2)] [(.int (4 : Int32)), (.int (3 : Int32)), (.int (0 : Int32)), (.ref b2), (.int (0 : Int32)), (.ref r0)])) rfl (by rw [hml]; rfl) (argsL := [(.int (3 : Int32)), (.int (4 : Int32))]) (rest := [(.int (0 : Int32)), (.ref b2), (.int (0 : Int32)), (.ref r0)]) (lenOf pd_28II29I rfl) rfl (by show 2 * 0 + _ ≤ _; exact Nat.le_of_eq rfl) (hb hby d3_25) (fun _ _ => ⟨rfl, e2, (by decide : 1 + 0 ≤ _), (by decide : 4 + 0 ≤ _)⟩)
  dsimp only [Pt.U, Pt.locs, Pt.cells, Pt.slots] at X4 l4 y4 z4 st4 hQ4
  subst l4 y4 z4
  obtain ⟨rfl, N4q, e4⟩ := hQ4
  have N4 := Fr.app N0 N4q
  obtain ⟨T5, h5, L5, X5, e5, N5, KK5, V5x, st5⟩ := cpA X4 hx hZ hown (hw _ (List.mem_of_getElem? (i := 18) rfl)) (hw _ (List.mem_of_getElem? (i := 21) rfl)) (hw _ (List.mem_of_getElem? (i := 19) rfl)) (hw _ (List.mem_of_getElem? (i := 20) rfl)) e4 V_r0_at2 V_b2_at2 (Or.inl ⟨rfl, rfl⟩) (sp := (0 : Int32)) (dp := (0 : Int32)) (nn := (3 : Int32)) (us := [(.int v0), (.int v1), (.int v2)]) (by decide) (by decide) (by decide) (by decide) (by decide) rfl (by decide) N4 g_b2 (g := (mkF m 28 #[.val (.ref r0), .val (.int (4 : Int32)), .val (.ref b2)] [(.int (3 : Int32)), (.int (0 : Int32)), (.ref b2), (.int (0 : Int32)), (.ref r0)])) rfl (by rw [hml]; rfl) (rest := []) rfl (hb hby d3_28) (by decide) (W := 0) (by show 2 * 0 + _ ≤ _; exact Nat.le_of_eq rfl) (by decide)
  have V_r0_at5 : Arv Z h5 r0 ka .byte (3 : Int32) [(.int v0), (.int v1), (.int v2)] (.int (0 : Int32)) := V_r0_at2.keep KK5 (ninS ne_r0_b2 nin0)
  have K5 : Keep h0 h5 [] := K2.trans KK5 (allS (Or.inr sz_b2) all0)
  have Z5 : n0 ≤ h5.size := Nat.le_trans Z2 KK5.1
  have xV_b2_at5 := V5x
  have V_b2_at5 : Arv Z h5 b2 k2 .byte (4 : Int32) [(.int v0), (.int v1), (.int v2), (.int (0 : Int32))] (.int (0 : Int32)) := xV_b2_at5
  obtain ⟨fs, hr, hrun, hended, hW, hsame⟩ := X5.leave (v := some (.ref b2)) (fun h => by rw [Bd.returns] at h; cases h)
  refine ⟨_, _, pre0 _ ?_, hrun, hended, _, _, rfl, ?_, ⟨_, rfl⟩, hW, hsame.mono (by decide) (by decide)⟩
  · show Steps p.tables e below (s₁.setTop (mkF m 0 #[.val (.ref r0), .val (.int (4 : Int32)), .unset] [])) _
    refine XS.iloadN X0.here hx rfl (hb hby d3_0) rfl ?_
    show Steps p.tables e below (s₁.setTop (mkF m 1 #[.val (.ref r0), .val (.int (4 : Int32)), .unset] [(.int (4 : Int32))])) _
    refine XS.aloadN X0.here hx rfl (hb hby d3_1) rfl rfl ?_
    show Steps p.tables e below (s₁.setTop (mkF m 2 #[.val (.ref r0), .val (.int (4 : Int32)), .unset] [(.ref r0), (.int (4 : Int32))])) _
    refine X0.arraylength hx (by rw [e0]; exact Ar_2_1.1) (State.isArrayOf_alike hZ.alike Ar_2_1.2.1) (g := (mkF m 2 #[.val (.ref r0), .val (.int (4 : Int32)), .unset] [(.ref r0), (.int (4 : Int32))])) rfl rfl (hb hby d3_2) _ ?_
    rw [len_of S_2_1 M_2_1]
    show Steps p.tables e below (s₁.setTop (mkF m 3 #[.val (.ref r0), .val (.int (4 : Int32)), .unset] [(.int (3 : Int32)), (.int (4 : Int32))])) _
    refine XS.icmpYes X0.here hx rfl (pc0 := 3) (pc' := 14) rfl (hb hby d3_3) rfl (feq (by decide : ¬ ((4 : Int32) = (3 : Int32)))).2 (by decide) (by decide) ?_
    show Steps p.tables e below (s₁.setTop (mkF m 14 #[.val (.ref r0), .val (.int (4 : Int32)), .unset] [])) _
    refine XS.iloadN X0.here hx rfl (hb hby d3_14) rfl ?_
    show Steps p.tables e below (s₁.setTop (mkF m 15 #[.val (.ref r0), .val (.int (4 : Int32)), .unset] [(.int (4 : Int32))])) _
    refine st2 _ ?_
    show Steps p.tables e below (T2.setTop (mkF m 17 #[.val (.ref r0), .val (.int (4 : Int32)), .unset] [(.ref b2)])) _
    refine XS.astoreN X2.here hx rfl (hb hby d3_17) rfl rfl (l' := #[.val (.ref r0), .val (.int (4 : Int32)), .val (.ref b2)]) rfl ?_
    show Steps p.tables e below (T2.setTop (mkF m 18 #[.val (.ref r0), .val (.int (4 : Int32)), .val (.ref b2)] [])) _
    refine XS.aloadN X2.here hx rfl (hb hby d3_18) rfl rfl ?_
    show Steps p.tables e below (T2.setTop (mkF m 19 #[.val (.ref r0), .val (.int (4 : Int32)), .val (.ref b2)] [(.ref r0)])) _
    refine XS.iconst X2.here hx rfl (hb hby d3_19) ?_
    show Steps p.tables e below (T2.setTop (mkF m 20 #[.val (.ref r0), .val (.int (4 : Int32)), .val (.ref b2)] [(.int (0 : Int32)), (.ref r0)])) _
    refine XS.aloadN X2.here hx rfl (hb hby d3_20) rfl rfl ?_
    show Steps p.tables e below (T2.setTop (mkF m 21 #[.val (.ref r0), .val (.int (4 : Int32)), .val (.ref b2)] [(.ref b2), (.int (0 : Int32)), (.ref r0)])) _
    refine XS.iconst X2.here hx rfl (hb hby d3_21) ?_
    show Steps p.tables e below (T2.setTop (mkF m 22 #[.val (.ref r0), .val (.int (4 : Int32)), .val (.ref b2)] [(.int (0 : Int32)), (.ref b2), (.int (0 : Int32)), (.ref r0)])) _
    refine XS.aloadN X2.here hx rfl (hb hby d3_22) rfl rfl ?_
    show Steps p.tables e below (T2.setTop (mkF m 23 #[.val (.ref r0), .val (.int (4 : Int32)), .val (.ref b2)] [(.ref r0), (.int (0 : Int32)), (.ref b2), (.int (0 : Int32)), (.ref r0)])) _
    refine X2.arraylength hx (by rw [e2]; exact Ar_23_3.1) (State.isArrayOf_alike hZ.alike Ar_23_3.2.1) (g := (mkF m 23 #[.val (.ref r0), .val (.int (4 : Int32)), .val (.ref b2)] [(.ref r0), (.int (0 : Int32)), (.ref b2), (.int (0 : Int32)), (.ref r0)])) rfl rfl (hb hby d3_23) _ ?_
    rw [len_of S_23_3 M_23_3]
    show Steps p.tables e below (T2.setTop (mkF m 24 #[.val (.ref r0), .val (.int (4 : Int32)), .val (.ref b2)] [(.int (3 : Int32)), (.int (0 : Int32)), (.ref b2), (.int (0 : Int32)), (.ref r0)])) _
    refine XS.iloadN X2.here hx rfl (hb hby d3_24) rfl ?_
    show Steps p.tables e below (T2.setTop (mkF m 25 #[.val (.ref r0), .val (.int (4 : Int32)), .val (.ref b2)] [(.int (4 : Int32)), (.int (3 : Int32)), (.int (0 : Int32)), (.ref b2), (.int (0 : Int32)), (.ref r0)])) _
    refine st4 _ ?_
    show Steps p.tables e below (T4.setTop (mkF m 28 #[.val (.ref r0), .val (.int (4 : Int32)), .val (.ref b2)] [(.int (3 : Int32)), (.int (0 : Int32)), (.ref b2), (.int (0 : Int32)), (.ref r0)])) _
    refine st5 _ ?_
    show Steps p.tables e below (T5.setTop (mkF m 31 #[.val (.ref r0), .val (.int (4 : Int32)), .val (.ref b2)] [])) _
    refine XS.aloadN X5.here hx rfl (hb hby d3_31) rfl rfl ?_
    show Steps p.tables e below (T5.setTop (mkF m 32 #[.val (.ref r0), .val (.int (4 : Int32)), .val (.ref b2)] [(.ref b2)])) _
    jvm_step X5.here [X5.here.top, hx, (hb hby d3_32), X5.method', Bd.returns, Value.isRef, FieldType.isReference]
    first | (intro acts; rw [hr _ acts rfl rfl rfl]) | rw [hr _ _ rfl rfl rfl]
    exact Steps.refl _
  · show Q3_3 Z r0 ka v0 v1 v2 h0 n0 _ T5.heap _
    rw [e5]
    exact ⟨b2, _, rfl, N5, K5, sz_b2, V_b2_at5⟩
theorem ef_2_3 (m : MethodId) (x0 : Addr) : entryFrame m #[(.ref x0)] 2 = mkF m 0 #[.val (.ref x0), .unset] [] := by first | (simp [entryFrame, mkF, argsToLocals, Value.category]; done) | rfl
def Q2_3 (Z : State) (r0 : Addr) (ka : ClassId) (v0 v1 v2 : Int32) (h0 : Heap) (n0 : Nat) (v : Option Value) (h : Heap) (L : List Loc) : Prop := ∃ (b : Addr) (kb : ClassId), v = some (.ref b) ∧ Fr n0 L ∧ Keep h0 h [] ∧ h0.size ≤ b ∧ Arv Z h b kb .byte (4 : Int32) [(.int v0), (.int v1), (.int v2), (.int (-1 : Int32))] (.int (0 : Int32))
set_option maxRecDepth 65536 in
set_option maxHeartbeats 40000000 in
theorem rm2_3 (l : Launch) (Z : State) (a0 : Array Value) (hw : ∀ d ∈ tables_1, d.before a0 Z = true) (ws : List Jvm.Cond) (r0 : Addr) (ka : ClassId) (v0 v1 v2 : Int32) (h0 : Heap) (n0 : Nat) (Z0 : n0 ≤ h0.size) (V_r0 : Arv Z h0 r0 ka .byte (3 : Int32) [(.int v0), (.int v1), (.int v2)] (.int (0 : Int32))) :
    MetFree l (⟨"com/example/usrset/usrset/store/Key", "pastTuplesOf", "([B)[B"⟩ : MethodName) (head1 (Jvm.Cond.code (⟨"com/example/usrset/usrset/store/Key", "pastTuplesOf", "([B)[B"⟩ : MethodName) prog_10_method_4_code 2 (some (.array .byte)) :: ws) ({ frames := 2, cells := 1, slots := 4, locals := 46 } : Room)) (fun a U => a = #[(.ref r0)] ∧ Z.Warmed39 U.vm ∧ U.heap = h0) (fun _ _ _ _ _ => True) (fun _ U o U' => ∃ v L, o = .returned v ∧ Q2_3 Z r0 ka v0 v1 v2 h0 n0 v U'.heap L ∧ FrameEnd U o U' L ({ frames := 2, cells := 1, slots := 4, locals := 46 } : Room).cells ({ frames := 2, cells := 1, slots := 4, locals := 46 } : Room).slots) := by
  refine MetFree.of_bodySF (plainFor_of_name pn_com_example_usrset_usrset_store_Key) hisR ?_
  intro p e s m args below meth c s₁ Bd hml0 hP hK
  obtain ⟨rfl, hZ, hh⟩ := hP
  have hx := Bd.exec
  have hby := Bd.bytes
  have hml : c.maxLocals = 2 := hml0
  have hown : s.vm.findClass "com/example/usrset/usrset/store/Key" = some m.cls := findClass_of_methodNamed Bd.named
  have hnm := (name_of_methodNamed Bd.named Bd.method).1
  have X0 : Stand p l e ({ frames := 2, cells := 1, slots := 4, locals := 46 } : Room) s m #[(.ref r0)] below meth c s₁ [] 0 0 := Stand.of_body Bd
  have e0 : s₁.heap = h0 := by rw [← hh, Bd.state]; rfl
  have N0 := Fr.nil n0
  have pre0 : ∀ t, Steps p.tables e below (s₁.setTop (mkF m 0 #[.val (.ref r0), .unset] [])) t → Steps p.tables e below (s₁.setTop (entryFrame m #[(.ref r0)] 2)) t := fun t k => castTop (ef_2_3 m r0) k
  have K0 : Keep h0 h0 [] := Keep.refl h0 []
  obtain ⟨cl_2_1, Ar_2_1, -, S_2_1, M_2_1, -, -⟩ := id V_r0
  obtain ⟨_, _, ⟨T2, L2, k2, n2⟩, -, X2, ⟨Lc2, hQ2, l2, y2, z2⟩, st2⟩ := Jvm.LawKit.callS X0 hx (y := (⟨"java/util/Arrays", "copyOf", "([BI)[B"⟩ : MethodName)) hown (mvT hZ (hw _ (List.mem_of_getElem? (i := 10) rfl))) (mvT hZ (hw _ (List.mem_of_getElem? (i := 11) rfl))) (mvT hZ (hw _ (List.mem_of_getElem? (i := 12) rfl))) (mvT hZ (hw _ (List.mem_of_getElem? (i := 13) rfl))) (by decide) (backOf (W := 0) (rm3_3 l Z a0 hw [] r0 ka v0 v1 v2 h0 n0 Z0 V_r0) hZ (hw _ (List.mem_of_getElem? (i := 13) rfl)) (hw _ (List.mem_of_getElem? (i := 12) rfl)) (by decide) (by decide)) (g := (mkF m 5 #[.val (.ref r0), .unset] [(.int (4 : Int32)), (.ref r0)])) rfl (by rw [hml]; rfl) (argsL := [(.ref r0), (.int (4 : Int32))]) (rest := []) (lenOf pd_285bBI295bB rfl) rfl (by show 2 * 0 + _ ≤ _; exact Nat.le_of_eq rfl) (hb hby d2_5) (fun _ _ => ⟨rfl, e0, (by decide : 0 + 1 ≤ _), (by decide : 0 + 4 ≤ _)⟩)
  dsimp only [Pt.U, Pt.locs, Pt.cells, Pt.slots] at X2 l2 y2 z2 st2 hQ2
  subst l2 y2 z2
  obtain ⟨b2, kb2, rfl, N2q, KK2, gb2, VB2⟩ := hQ2
  obtain ⟨h2, e2⟩ : ∃ z, T2.heap = z := ⟨_, rfl⟩
  rw [e2] at KK2 VB2
  have V_r0_at2 : Arv Z h2 r0 ka .byte (3 : Int32) [(.int v0), (.int v1), (.int v2)] (.int (0 : Int32)) := V_r0.keep KK2 nin0
  have K2 : Keep h0 h2 [] := K0.trans KK2 all0
  have Z2 : n0 ≤ h2.size := Nat.le_trans Z0 KK2.1
  have ne_r0_b2 : r0 ≠ b2 := Nat.ne_of_lt (Nat.lt_of_lt_of_le V_r0.lt gb2)
  have g_b2 : n0 ≤ b2 := Nat.le_trans Z0 gb2
  have sz_b2 : h0.size ≤ b2 := Nat.le_trans K0.1 gb2
  have N2 := Fr.app N0 N2q
  obtain ⟨cl_11_3, Ar_11_3, -, S_11_3, M_11_3, -, -⟩ := id V_r0_at2
  obtain ⟨cl_13, Ar_13, q_13, S_13, N_13, H_13, G_13⟩ := id VB2
  have hin13 : ¬ ((3 : Int32) < 0 ∨ cl_13.slots.size ≤ ((3 : Int32)).toNatClampNeg) := inb_of S_13 ⟨by decide, by decide⟩
  obtain ⟨T4, h4, X4, e4, W4, st4⟩ := stB X2 hx hZ e2 Ar_13 (j := (3 : Int32)) hin13 (g := (mkF m 13 #[.val (.ref r0), .val (.ref b2)] [(.int (-1 : Int32)), (.int (3 : Int32)), (.ref b2)])) rfl rfl (hb hby d2_13)
  have V_r0_at4 : Arv Z h4 r0 ka .byte (3 : Int32) [(.int v0), (.int v1), (.int v2)] (.int (0 : Int32)) := V_r0_at2.other W4 ne_r0_b2
  have xV_b2_at4 := Arv.set Ar_13 q_13 S_13 N_13 H_13 G_13 (fits_nar_byte _) W4 3 rfl (Nat.le_of_ble_eq_true rfl)
  have V_b2_at4 : Arv Z h4 b2 kb2 .byte (4 : Int32) [(.int v0), (.int v1), (.int v2), (.int (-1 : Int32))] (.int (0 : Int32)) := xV_b2_at4
  have K4 : Keep h0 h4 [] := K2.wr W4 (Or.inr sz_b2)
  have Z4 : n0 ≤ h4.size := Nat.le_trans Z2 (Keep.of_wr W4).1
  have N4 := Fr.snoc X4 N2 g_b2
  obtain ⟨fs, hr, hrun, hended, hW, hsame⟩ := X4.leave (v := some (.ref b2)) (fun h => by rw [Bd.returns] at h; cases h)
  refine ⟨_, _, pre0 _ ?_, hrun, hended, _, _, rfl, ?_, ⟨_, rfl⟩, hW, hsame.mono (by decide) (by decide)⟩
  · show Steps p.tables e below (s₁.setTop (mkF m 0 #[.val (.ref r0), .unset] [])) _
    refine XS.aloadN X0.here hx rfl (hb hby d2_0) rfl rfl ?_
    show Steps p.tables e below (s₁.setTop (mkF m 1 #[.val (.ref r0), .unset] [(.ref r0)])) _
    refine XS.aloadN X0.here hx rfl (hb hby d2_1) rfl rfl ?_
    show Steps p.tables e below (s₁.setTop (mkF m 2 #[.val (.ref r0), .unset] [(.ref r0), (.ref r0)])) _
    refine X0.arraylength hx (by rw [e0]; exact Ar_2_1.1) (State.isArrayOf_alike hZ.alike Ar_2_1.2.1) (g := (mkF m 2 #[.val (.ref r0), .unset] [(.ref r0), (.ref r0)])) rfl rfl (hb hby d2_2) _ ?_
    rw [len_of S_2_1 M_2_1]
    show Steps p.tables e below (s₁.setTop (mkF m 3 #[.val (.ref r0), .unset] [(.int (3 : Int32)), (.ref r0)])) _
    refine XS.iconst X0.here hx rfl (hb hby d2_3) ?_
    show Steps p.tables e below (s₁.setTop (mkF m 4 #[.val (.ref r0), .unset] [(.int (1 : Int32)), (.int (3 : Int32)), (.ref r0)])) _
    refine XS.iadd X0.here hx rfl (hb hby d2_4) rfl ?_
    show Steps p.tables e below (s₁.setTop (mkF m 5 #[.val (.ref r0), .unset] [(.int (4 : Int32)), (.ref r0)])) _
    refine st2 _ ?_
    show Steps p.tables e below (T2.setTop (mkF m 8 #[.val (.ref r0), .unset] [(.ref b2)])) _
    refine XS.astoreN X2.here hx rfl (hb hby d2_8) rfl rfl (l' := #[.val (.ref r0), .val (.ref b2)]) rfl ?_
    show Steps p.tables e below (T2.setTop (mkF m 9 #[.val (.ref r0), .val (.ref b2)] [])) _
    refine XS.aloadN X2.here hx rfl (hb hby d2_9) rfl rfl ?_
    show Steps p.tables e below (T2.setTop (mkF m 10 #[.val (.ref r0), .val (.ref b2)] [(.ref b2)])) _
    refine XS.aloadN X2.here hx rfl (hb hby d2_10) rfl rfl ?_
    show Steps p.tables e below (T2.setTop (mkF m 11 #[.val (.ref r0), .val (.ref b2)] [(.ref r0), (.ref b2)])) _
    refine X2.arraylength hx (by rw [e2]; exact Ar_11_3.1) (State.isArrayOf_alike hZ.alike Ar_11_3.2.1) (g := (mkF m 11 #[.val (.ref r0), .val (.ref b2)] [(.ref r0), (.ref b2)])) rfl rfl (hb hby d2_11) _ ?_
    rw [len_of S_11_3 M_11_3]
    show Steps p.tables e below (T2.setTop (mkF m 12 #[.val (.ref r0), .val (.ref b2)] [(.int (3 : Int32)), (.ref b2)])) _
    refine XS.iconst X2.here hx rfl (hb hby d2_12) ?_
    show Steps p.tables e below (T2.setTop (mkF m 13 #[.val (.ref r0), .val (.ref b2)] [(.int (-1 : Int32)), (.int (3 : Int32)), (.ref b2)])) _
    refine st4 _ ?_
    show Steps p.tables e below (T4.setTop (mkF m 14 #[.val (.ref r0), .val (.ref b2)] [])) _
    refine XS.aloadN X4.here hx rfl (hb hby d2_14) rfl rfl ?_
    show Steps p.tables e below (T4.setTop (mkF m 15 #[.val (.ref r0), .val (.ref b2)] [(.ref b2)])) _
    jvm_step X4.here [X4.here.top, hx, (hb hby d2_15), X4.method', Bd.returns, Value.isRef, FieldType.isReference]
    first | (intro acts; rw [hr _ acts rfl rfl rfl]) | rw [hr _ _ rfl rfl rfl]
    exact Steps.refl _
  · show Q2_3 Z r0 ka v0 v1 v2 h0 n0 _ T4.heap _
    rw [e4]
    exact ⟨b2, _, rfl, N4, K4, sz_b2, V_b2_at4⟩
theorem ef_3_4 (m : MethodId) (x0 : Addr) (x1 : Int32) : entryFrame m #[(.ref x0), (.int x1)] 3 = mkF m 0 #[.val (.ref x0), .val (.int x1), .unset] [] := by first | (simp [entryFrame, mkF, argsToLocals, Value.category]; done) | rfl
def Q3_4 (Z : State) (r0 : Addr) (ka : ClassId) (v0 v1 v2 v3 : Int32) (h0 : Heap) (n0 : Nat) (v : Option Value) (h : Heap) (L : List Loc) : Prop := ∃ (b : Addr) (kb : ClassId), v = some (.ref b) ∧ Fr n0 L ∧ Keep h0 h [] ∧ h0.size ≤ b ∧ Arv Z h b kb .byte (5 : Int32) [(.int v0), (.int v1), (.int v2), (.int v3), (.int (0 : Int32))] (.int (0 : Int32))
set_option maxRecDepth 65536 in
set_option maxHeartbeats 40000000 in
theorem rm3_4 (l : Launch) (Z : State) (a0 : Array Value) (hw : ∀ d ∈ tables_1, d.before a0 Z = true) (ws : List Jvm.Cond) (r0 : Addr) (ka : ClassId) (v0 v1 v2 v3 : Int32) (h0 : Heap) (n0 : Nat) (Z0 : n0 ≤ h0.size) (V_r0 : Arv Z h0 r0 ka .byte (4 : Int32) [(.int v0), (.int v1), (.int v2), (.int v3)] (.int (0 : Int32))) :
    MetFree l (⟨"java/util/Arrays", "copyOf", "([BI)[B"⟩ : MethodName) (head1 (Jvm.Cond.code (⟨"java/util/Arrays", "copyOf", "([BI)[B"⟩ : MethodName) jdk_65_method_121_code 3 (some (.array .byte)) :: ws) ({ frames := 1, cells := 1, slots := 5, locals := 32 } : Room)) (fun a U => a = #[(.ref r0), (.int (5 : Int32))] ∧ Z.Warmed39 U.vm ∧ U.heap = h0) (fun _ _ _ _ _ => True) (fun _ U o U' => ∃ v L, o = .returned v ∧ Q3_4 Z r0 ka v0 v1 v2 v3 h0 n0 v U'.heap L ∧ FrameEnd U o U' L ({ frames := 1, cells := 1, slots := 5, locals := 32 } : Room).cells ({ frames := 1, cells := 1, slots := 5, locals := 32 } : Room).slots) := by
  refine MetFree.of_bodySF (plainFor_of_name pn_java_util_Arrays) hisR ?_
  intro p e s m args below meth c s₁ Bd hml0 hP hK
  obtain ⟨rfl, hZ, hh⟩ := hP
  have hx := Bd.exec
  have hby := Bd.bytes
  have hml : c.maxLocals = 3 := hml0
  have hown : s.vm.findClass "java/util/Arrays" = some m.cls := findClass_of_methodNamed Bd.named
  have hnm := (name_of_methodNamed Bd.named Bd.method).1
  have X0 : Stand p l e ({ frames := 1, cells := 1, slots := 5, locals := 32 } : Room) s m #[(.ref r0), (.int (5 : Int32))] below meth c s₁ [] 0 0 := Stand.of_body Bd
  have e0 : s₁.heap = h0 := by rw [← hh, Bd.state]; rfl
  have N0 := Fr.nil n0
  have pre0 : ∀ t, Steps p.tables e below (s₁.setTop (mkF m 0 #[.val (.ref r0), .val (.int (5 : Int32)), .unset] [])) t → Steps p.tables e below (s₁.setTop (entryFrame m #[(.ref r0), (.int (5 : Int32))] 3)) t := fun t k => castTop (ef_3_4 m r0 (5 : Int32)) k
  have K0 : Keep h0 h0 [] := Keep.refl h0 []
  obtain ⟨cl_2_1, Ar_2_1, -, S_2_1, M_2_1, -, -⟩ := id V_r0
  obtain ⟨T2, h2, k2, X2, e2, E2, A2, st2⟩ := newP X0 hx hZ (hw _ (List.mem_of_getElem? (i := 5) rfl)) e0 (g := (mkF m 15 #[.val (.ref r0), .val (.int (5 : Int32)), .unset] [(.int (5 : Int32))])) rfl (hb hby d3_15) rfl (by decide) (cap := 5) (by decide) (by decide) (by decide) (by decide)
  obtain ⟨b2, g2⟩ : ∃ z, z = h0.size := ⟨_, rfl⟩
  rw [← g2] at A2 st2
  have g_b2 : n0 ≤ b2 := Nat.le_trans Z0 (Nat.le_of_eq g2.symm)
  have sz_b2 : h0.size ≤ b2 := Nat.le_trans K0.1 (Nat.le_of_eq g2.symm)
  have ne_r0_b2 : r0 ≠ b2 := Nat.ne_of_lt (Nat.lt_of_lt_of_le V_r0.lt (Nat.le_of_eq g2.symm))
  have V_r0_at2 : Arv Z h2 r0 ka .byte (4 : Int32) [(.int v0), (.int v1), (.int v2), (.int v3)] (.int (0 : Int32)) := V_r0.ext E2
  have K2 : Keep h0 h2 [] := K0.ext E2
  have Z2 : n0 ≤ h2.size := Nat.le_trans Z0 E2.1
  have xV_b2_at2 := (Arv.new A2 (by decide)).pad (pad_rep [] (.int (0 : Int32)) 5)
  have V_b2_at2 : Arv Z h2 b2 k2 .byte (5 : Int32) [(.int (0 : Int32)), (.int (0 : Int32)), (.int (0 : Int32)), (.int (0 : Int32)), (.int (0 : Int32))] (.int (0 : Int32)) := xV_b2_at2
  obtain ⟨cl_23_3, Ar_23_3, -, S_23_3, M_23_3, -, -⟩ := id V_r0_at2
  obtain ⟨_, _, ⟨T4, L4, k4, n4⟩, -, X4, ⟨Lc4, hQ4, l4, y4, z4⟩, st4⟩ := Jvm.LawKit.callS X2 hx (y := (⟨"java/lang/Math", "min", "(II)I"⟩ : MethodName)) hown (mvT hZ (hw _ (List.mem_of_getElem? (i := 14) rfl))) (mvT hZ (hw _ (List.mem_of_getElem? (i := 15) rfl))) (mvT hZ (hw _ (List.mem_of_getElem? (i := 16) rfl))) (mvT hZ (hw _ (List.mem_of_getElem? (i := 17) rfl))) (by decide) (backOf (W := 4) (rm4 l Z a0 hw [] (4 : Int32) (5 : Int32) h2 n0 Z2) hZ (hw _ (List.mem_of_getElem? (i := 17) rfl)) (hw _ (List.mem_of_getElem? (i := 16) rfl)) (by decide) (by decide)) (g := (mkF m 25 #[.val (.ref r0), .val (.int (5 : Int32)), .val (.ref b2)] [(.int (5 : Int32)), (.int (4 : Int32)), (.int (0 : Int32)), (.ref b2), (.int (0 : Int32)), (.ref r0)])) rfl (by rw [hml]; rfl) (argsL := [(.int (4 : Int32)), (.int (5 : Int32))]) (rest := [(.int (0 : Int32)), (.ref b2), (.int (0 : Int32)), (.ref r0)]) (lenOf pd_28II29I rfl) rfl (by show 2 * 0 + _ ≤ _; exact Nat.le_of_eq rfl) (hb hby d3_25) (fun _ _ => ⟨rfl, e2, (by decide : 1 + 0 ≤ _), (by decide : 5 + 0 ≤ _)⟩)
  dsimp only [Pt.U, Pt.locs, Pt.cells, Pt.slots] at X4 l4 y4 z4 st4 hQ4
  subst l4 y4 z4
  obtain ⟨rfl, N4q, e4⟩ := hQ4
  have N4 := Fr.app N0 N4q
  obtain ⟨T5, h5, L5, X5, e5, N5, KK5, V5x, st5⟩ := cpA X4 hx hZ hown (hw _ (List.mem_of_getElem? (i := 18) rfl)) (hw _ (List.mem_of_getElem? (i := 21) rfl)) (hw _ (List.mem_of_getElem? (i := 19) rfl)) (hw _ (List.mem_of_getElem? (i := 20) rfl)) e4 V_r0_at2 V_b2_at2 (Or.inl ⟨rfl, rfl⟩) (sp := (0 : Int32)) (dp := (0 : Int32)) (nn := (4 : Int32)) (us := [(.int v0), (.int v1), (.int v2), (.int v3)]) (by decide) (by decide) (by decide) (by decide) (by decide) rfl (by decide) N4 g_b2 (g := (mkF m 28 #[.val (.ref r0), .val (.int (5 : Int32)), .val (.ref b2)] [(.int (4 : Int32)), (.int (0 : Int32)), (.ref b2), (.int (0 : Int32)), (.ref r0)])) rfl (by rw [hml]; rfl) (rest := []) rfl (hb hby d3_28) (by decide) (W := 0) (by show 2 * 0 + _ ≤ _; exact Nat.le_of_eq rfl) (by decide)
  have V_r0_at5 : Arv Z h5 r0 ka .byte (4 : Int32) [(.int v0), (.int v1), (.int v2), (.int v3)] (.int (0 : Int32)) := V_r0_at2.keep KK5 (ninS ne_r0_b2 nin0)
  have K5 : Keep h0 h5 [] := K2.trans KK5 (allS (Or.inr sz_b2) all0)
  have Z5 : n0 ≤ h5.size := Nat.le_trans Z2 KK5.1
  have xV_b2_at5 := V5x
  have V_b2_at5 : Arv Z h5 b2 k2 .byte (5 : Int32) [(.int v0), (.int v1), (.int v2), (.int v3), (.int (0 : Int32))] (.int (0 : Int32)) := xV_b2_at5
  obtain ⟨fs, hr, hrun, hended, hW, hsame⟩ := X5.leave (v := some (.ref b2)) (fun h => by rw [Bd.returns] at h; cases h)
  refine ⟨_, _, pre0 _ ?_, hrun, hended, _, _, rfl, ?_, ⟨_, rfl⟩, hW, hsame.mono (by decide) (by decide)⟩
  · show Steps p.tables e below (s₁.setTop (mkF m 0 #[.val (.ref r0), .val (.int (5 : Int32)), .unset] [])) _
    refine XS.iloadN X0.here hx rfl (hb hby d3_0) rfl ?_
    show Steps p.tables e below (s₁.setTop (mkF m 1 #[.val (.ref r0), .val (.int (5 : Int32)), .unset] [(.int (5 : Int32))])) _
    refine XS.aloadN X0.here hx rfl (hb hby d3_1) rfl rfl ?_
    show Steps p.tables e below (s₁.setTop (mkF m 2 #[.val (.ref r0), .val (.int (5 : Int32)), .unset] [(.ref r0), (.int (5 : Int32))])) _
    refine X0.arraylength hx (by rw [e0]; exact Ar_2_1.1) (State.isArrayOf_alike hZ.alike Ar_2_1.2.1) (g := (mkF m 2 #[.val (.ref r0), .val (.int (5 : Int32)), .unset] [(.ref r0), (.int (5 : Int32))])) rfl rfl (hb hby d3_2) _ ?_
    rw [len_of S_2_1 M_2_1]
    show Steps p.tables e below (s₁.setTop (mkF m 3 #[.val (.ref r0), .val (.int (5 : Int32)), .unset] [(.int (4 : Int32)), (.int (5 : Int32))])) _
    refine XS.icmpYes X0.here hx rfl (pc0 := 3) (pc' := 14) rfl (hb hby d3_3) rfl (feq (by decide : ¬ ((5 : Int32) = (4 : Int32)))).2 (by decide) (by decide) ?_
    show Steps p.tables e below (s₁.setTop (mkF m 14 #[.val (.ref r0), .val (.int (5 : Int32)), .unset] [])) _
    refine XS.iloadN X0.here hx rfl (hb hby d3_14) rfl ?_
    show Steps p.tables e below (s₁.setTop (mkF m 15 #[.val (.ref r0), .val (.int (5 : Int32)), .unset] [(.int (5 : Int32))])) _
    refine st2 _ ?_
    show Steps p.tables e below (T2.setTop (mkF m 17 #[.val (.ref r0), .val (.int (5 : Int32)), .unset] [(.ref b2)])) _
    refine XS.astoreN X2.here hx rfl (hb hby d3_17) rfl rfl (l' := #[.val (.ref r0), .val (.int (5 : Int32)), .val (.ref b2)]) rfl ?_
    show Steps p.tables e below (T2.setTop (mkF m 18 #[.val (.ref r0), .val (.int (5 : Int32)), .val (.ref b2)] [])) _
    refine XS.aloadN X2.here hx rfl (hb hby d3_18) rfl rfl ?_
    show Steps p.tables e below (T2.setTop (mkF m 19 #[.val (.ref r0), .val (.int (5 : Int32)), .val (.ref b2)] [(.ref r0)])) _
    refine XS.iconst X2.here hx rfl (hb hby d3_19) ?_
    show Steps p.tables e below (T2.setTop (mkF m 20 #[.val (.ref r0), .val (.int (5 : Int32)), .val (.ref b2)] [(.int (0 : Int32)), (.ref r0)])) _
    refine XS.aloadN X2.here hx rfl (hb hby d3_20) rfl rfl ?_
    show Steps p.tables e below (T2.setTop (mkF m 21 #[.val (.ref r0), .val (.int (5 : Int32)), .val (.ref b2)] [(.ref b2), (.int (0 : Int32)), (.ref r0)])) _
    refine XS.iconst X2.here hx rfl (hb hby d3_21) ?_
    show Steps p.tables e below (T2.setTop (mkF m 22 #[.val (.ref r0), .val (.int (5 : Int32)), .val (.ref b2)] [(.int (0 : Int32)), (.ref b2), (.int (0 : Int32)), (.ref r0)])) _
    refine XS.aloadN X2.here hx rfl (hb hby d3_22) rfl rfl ?_
    show Steps p.tables e below (T2.setTop (mkF m 23 #[.val (.ref r0), .val (.int (5 : Int32)), .val (.ref b2)] [(.ref r0), (.int (0 : Int32)), (.ref b2), (.int (0 : Int32)), (.ref r0)])) _
    refine X2.arraylength hx (by rw [e2]; exact Ar_23_3.1) (State.isArrayOf_alike hZ.alike Ar_23_3.2.1) (g := (mkF m 23 #[.val (.ref r0), .val (.int (5 : Int32)), .val (.ref b2)] [(.ref r0), (.int (0 : Int32)), (.ref b2), (.int (0 : Int32)), (.ref r0)])) rfl rfl (hb hby d3_23) _ ?_
    rw [len_of S_23_3 M_23_3]
    show Steps p.tables e below (T2.setTop (mkF m 24 #[.val (.ref r0), .val (.int (5 : Int32)), .val (.ref b2)] [(.int (4 : Int32)), (.int (0 : Int32)), (.ref b2), (.int (0 : Int32)), (.ref r0)])) _
    refine XS.iloadN X2.here hx rfl (hb hby d3_24) rfl ?_
    show Steps p.tables e below (T2.setTop (mkF m 25 #[.val (.ref r0), .val (.int (5 : Int32)), .val (.ref b2)] [(.int (5 : Int32)), (.int (4 : Int32)), (.int (0 : Int32)), (.ref b2), (.int (0 : Int32)), (.ref r0)])) _
    refine st4 _ ?_
    show Steps p.tables e below (T4.setTop (mkF m 28 #[.val (.ref r0), .val (.int (5 : Int32)), .val (.ref b2)] [(.int (4 : Int32)), (.int (0 : Int32)), (.ref b2), (.int (0 : Int32)), (.ref r0)])) _
    refine st5 _ ?_
    show Steps p.tables e below (T5.setTop (mkF m 31 #[.val (.ref r0), .val (.int (5 : Int32)), .val (.ref b2)] [])) _
    refine XS.aloadN X5.here hx rfl (hb hby d3_31) rfl rfl ?_
    show Steps p.tables e below (T5.setTop (mkF m 32 #[.val (.ref r0), .val (.int (5 : Int32)), .val (.ref b2)] [(.ref b2)])) _
    jvm_step X5.here [X5.here.top, hx, (hb hby d3_32), X5.method', Bd.returns, Value.isRef, FieldType.isReference]
    first | (intro acts; rw [hr _ acts rfl rfl rfl]) | rw [hr _ _ rfl rfl rfl]
    exact Steps.refl _
  · show Q3_4 Z r0 ka v0 v1 v2 v3 h0 n0 _ T5.heap _
    rw [e5]
    exact ⟨b2, _, rfl, N5, K5, sz_b2, V_b2_at5⟩
theorem ef_2_4 (m : MethodId) (x0 : Addr) : entryFrame m #[(.ref x0)] 2 = mkF m 0 #[.val (.ref x0), .unset] [] := by first | (simp [entryFrame, mkF, argsToLocals, Value.category]; done) | rfl
def Q2_4 (Z : State) (r0 : Addr) (ka : ClassId) (v0 v1 v2 v3 : Int32) (h0 : Heap) (n0 : Nat) (v : Option Value) (h : Heap) (L : List Loc) : Prop := ∃ (b : Addr) (kb : ClassId), v = some (.ref b) ∧ Fr n0 L ∧ Keep h0 h [] ∧ h0.size ≤ b ∧ Arv Z h b kb .byte (5 : Int32) [(.int v0), (.int v1), (.int v2), (.int v3), (.int (-1 : Int32))] (.int (0 : Int32))
set_option maxRecDepth 65536 in
set_option maxHeartbeats 40000000 in
theorem rm2_4 (l : Launch) (Z : State) (a0 : Array Value) (hw : ∀ d ∈ tables_1, d.before a0 Z = true) (ws : List Jvm.Cond) (r0 : Addr) (ka : ClassId) (v0 v1 v2 v3 : Int32) (h0 : Heap) (n0 : Nat) (Z0 : n0 ≤ h0.size) (V_r0 : Arv Z h0 r0 ka .byte (4 : Int32) [(.int v0), (.int v1), (.int v2), (.int v3)] (.int (0 : Int32))) :
    MetFree l (⟨"com/example/usrset/usrset/store/Key", "pastTuplesOf", "([B)[B"⟩ : MethodName) (head1 (Jvm.Cond.code (⟨"com/example/usrset/usrset/store/Key", "pastTuplesOf", "([B)[B"⟩ : MethodName) prog_10_method_4_code 2 (some (.array .byte)) :: ws) ({ frames := 2, cells := 1, slots := 5, locals := 46 } : Room)) (fun a U => a = #[(.ref r0)] ∧ Z.Warmed39 U.vm ∧ U.heap = h0) (fun _ _ _ _ _ => True) (fun _ U o U' => ∃ v L, o = .returned v ∧ Q2_4 Z r0 ka v0 v1 v2 v3 h0 n0 v U'.heap L ∧ FrameEnd U o U' L ({ frames := 2, cells := 1, slots := 5, locals := 46 } : Room).cells ({ frames := 2, cells := 1, slots := 5, locals := 46 } : Room).slots) := by
  refine MetFree.of_bodySF (plainFor_of_name pn_com_example_usrset_usrset_store_Key) hisR ?_
  intro p e s m args below meth c s₁ Bd hml0 hP hK
  obtain ⟨rfl, hZ, hh⟩ := hP
  have hx := Bd.exec
  have hby := Bd.bytes
  have hml : c.maxLocals = 2 := hml0
  have hown : s.vm.findClass "com/example/usrset/usrset/store/Key" = some m.cls := findClass_of_methodNamed Bd.named
  have hnm := (name_of_methodNamed Bd.named Bd.method).1
  have X0 : Stand p l e ({ frames := 2, cells := 1, slots := 5, locals := 46 } : Room) s m #[(.ref r0)] below meth c s₁ [] 0 0 := Stand.of_body Bd
  have e0 : s₁.heap = h0 := by rw [← hh, Bd.state]; rfl
  have N0 := Fr.nil n0
  have pre0 : ∀ t, Steps p.tables e below (s₁.setTop (mkF m 0 #[.val (.ref r0), .unset] [])) t → Steps p.tables e below (s₁.setTop (entryFrame m #[(.ref r0)] 2)) t := fun t k => castTop (ef_2_4 m r0) k
  have K0 : Keep h0 h0 [] := Keep.refl h0 []
  obtain ⟨cl_2_1, Ar_2_1, -, S_2_1, M_2_1, -, -⟩ := id V_r0
  obtain ⟨_, _, ⟨T2, L2, k2, n2⟩, -, X2, ⟨Lc2, hQ2, l2, y2, z2⟩, st2⟩ := Jvm.LawKit.callS X0 hx (y := (⟨"java/util/Arrays", "copyOf", "([BI)[B"⟩ : MethodName)) hown (mvT hZ (hw _ (List.mem_of_getElem? (i := 10) rfl))) (mvT hZ (hw _ (List.mem_of_getElem? (i := 11) rfl))) (mvT hZ (hw _ (List.mem_of_getElem? (i := 12) rfl))) (mvT hZ (hw _ (List.mem_of_getElem? (i := 13) rfl))) (by decide) (backOf (W := 0) (rm3_4 l Z a0 hw [] r0 ka v0 v1 v2 v3 h0 n0 Z0 V_r0) hZ (hw _ (List.mem_of_getElem? (i := 13) rfl)) (hw _ (List.mem_of_getElem? (i := 12) rfl)) (by decide) (by decide)) (g := (mkF m 5 #[.val (.ref r0), .unset] [(.int (5 : Int32)), (.ref r0)])) rfl (by rw [hml]; rfl) (argsL := [(.ref r0), (.int (5 : Int32))]) (rest := []) (lenOf pd_285bBI295bB rfl) rfl (by show 2 * 0 + _ ≤ _; exact Nat.le_of_eq rfl) (hb hby d2_5) (fun _ _ => ⟨rfl, e0, (by decide : 0 + 1 ≤ _), (by decide : 0 + 5 ≤ _)⟩)
  dsimp only [Pt.U, Pt.locs, Pt.cells, Pt.slots] at X2 l2 y2 z2 st2 hQ2
  subst l2 y2 z2
  obtain ⟨b2, kb2, rfl, N2q, KK2, gb2, VB2⟩ := hQ2
  obtain ⟨h2, e2⟩ : ∃ z, T2.heap = z := ⟨_, rfl⟩
  rw [e2] at KK2 VB2
  have V_r0_at2 : Arv Z h2 r0 ka .byte (4 : Int32) [(.int v0), (.int v1), (.int v2), (.int v3)] (.int (0 : Int32)) := V_r0.keep KK2 nin0
  have K2 : Keep h0 h2 [] := K0.trans KK2 all0
  have Z2 : n0 ≤ h2.size := Nat.le_trans Z0 KK2.1
  have ne_r0_b2 : r0 ≠ b2 := Nat.ne_of_lt (Nat.lt_of_lt_of_le V_r0.lt gb2)
  have g_b2 : n0 ≤ b2 := Nat.le_trans Z0 gb2
  have sz_b2 : h0.size ≤ b2 := Nat.le_trans K0.1 gb2
  have N2 := Fr.app N0 N2q
  obtain ⟨cl_11_3, Ar_11_3, -, S_11_3, M_11_3, -, -⟩ := id V_r0_at2
  obtain ⟨cl_13, Ar_13, q_13, S_13, N_13, H_13, G_13⟩ := id VB2
  have hin13 : ¬ ((4 : Int32) < 0 ∨ cl_13.slots.size ≤ ((4 : Int32)).toNatClampNeg) := inb_of S_13 ⟨by decide, by decide⟩
  obtain ⟨T4, h4, X4, e4, W4, st4⟩ := stB X2 hx hZ e2 Ar_13 (j := (4 : Int32)) hin13 (g := (mkF m 13 #[.val (.ref r0), .val (.ref b2)] [(.int (-1 : Int32)), (.int (4 : Int32)), (.ref b2)])) rfl rfl (hb hby d2_13)
  have V_r0_at4 : Arv Z h4 r0 ka .byte (4 : Int32) [(.int v0), (.int v1), (.int v2), (.int v3)] (.int (0 : Int32)) := V_r0_at2.other W4 ne_r0_b2
  have xV_b2_at4 := Arv.set Ar_13 q_13 S_13 N_13 H_13 G_13 (fits_nar_byte _) W4 4 rfl (Nat.le_of_ble_eq_true rfl)
  have V_b2_at4 : Arv Z h4 b2 kb2 .byte (5 : Int32) [(.int v0), (.int v1), (.int v2), (.int v3), (.int (-1 : Int32))] (.int (0 : Int32)) := xV_b2_at4
  have K4 : Keep h0 h4 [] := K2.wr W4 (Or.inr sz_b2)
  have Z4 : n0 ≤ h4.size := Nat.le_trans Z2 (Keep.of_wr W4).1
  have N4 := Fr.snoc X4 N2 g_b2
  obtain ⟨fs, hr, hrun, hended, hW, hsame⟩ := X4.leave (v := some (.ref b2)) (fun h => by rw [Bd.returns] at h; cases h)
  refine ⟨_, _, pre0 _ ?_, hrun, hended, _, _, rfl, ?_, ⟨_, rfl⟩, hW, hsame.mono (by decide) (by decide)⟩
  · show Steps p.tables e below (s₁.setTop (mkF m 0 #[.val (.ref r0), .unset] [])) _
    refine XS.aloadN X0.here hx rfl (hb hby d2_0) rfl rfl ?_
    show Steps p.tables e below (s₁.setTop (mkF m 1 #[.val (.ref r0), .unset] [(.ref r0)])) _
    refine XS.aloadN X0.here hx rfl (hb hby d2_1) rfl rfl ?_
    show Steps p.tables e below (s₁.setTop (mkF m 2 #[.val (.ref r0), .unset] [(.ref r0), (.ref r0)])) _
    refine X0.arraylength hx (by rw [e0]; exact Ar_2_1.1) (State.isArrayOf_alike hZ.alike Ar_2_1.2.1) (g := (mkF m 2 #[.val (.ref r0), .unset] [(.ref r0), (.ref r0)])) rfl rfl (hb hby d2_2) _ ?_
    rw [len_of S_2_1 M_2_1]
    show Steps p.tables e below (s₁.setTop (mkF m 3 #[.val (.ref r0), .unset] [(.int (4 : Int32)), (.ref r0)])) _
    refine XS.iconst X0.here hx rfl (hb hby d2_3) ?_
    show Steps p.tables e below (s₁.setTop (mkF m 4 #[.val (.ref r0), .unset] [(.int (1 : Int32)), (.int (4 : Int32)), (.ref r0)])) _
    refine XS.iadd X0.here hx rfl (hb hby d2_4) rfl ?_
    show Steps p.tables e below (s₁.setTop (mkF m 5 #[.val (.ref r0), .unset] [(.int (5 : Int32)), (.ref r0)])) _
    refine st2 _ ?_
    show Steps p.tables e below (T2.setTop (mkF m 8 #[.val (.ref r0), .unset] [(.ref b2)])) _
    refine XS.astoreN X2.here hx rfl (hb hby d2_8) rfl rfl (l' := #[.val (.ref r0), .val (.ref b2)]) rfl ?_
    show Steps p.tables e below (T2.setTop (mkF m 9 #[.val (.ref r0), .val (.ref b2)] [])) _
    refine XS.aloadN X2.here hx rfl (hb hby d2_9) rfl rfl ?_
    show Steps p.tables e below (T2.setTop (mkF m 10 #[.val (.ref r0), .val (.ref b2)] [(.ref b2)])) _
    refine XS.aloadN X2.here hx rfl (hb hby d2_10) rfl rfl ?_
    show Steps p.tables e below (T2.setTop (mkF m 11 #[.val (.ref r0), .val (.ref b2)] [(.ref r0), (.ref b2)])) _
    refine X2.arraylength hx (by rw [e2]; exact Ar_11_3.1) (State.isArrayOf_alike hZ.alike Ar_11_3.2.1) (g := (mkF m 11 #[.val (.ref r0), .val (.ref b2)] [(.ref r0), (.ref b2)])) rfl rfl (hb hby d2_11) _ ?_
    rw [len_of S_11_3 M_11_3]
    show Steps p.tables e below (T2.setTop (mkF m 12 #[.val (.ref r0), .val (.ref b2)] [(.int (4 : Int32)), (.ref b2)])) _
    refine XS.iconst X2.here hx rfl (hb hby d2_12) ?_
    show Steps p.tables e below (T2.setTop (mkF m 13 #[.val (.ref r0), .val (.ref b2)] [(.int (-1 : Int32)), (.int (4 : Int32)), (.ref b2)])) _
    refine st4 _ ?_
    show Steps p.tables e below (T4.setTop (mkF m 14 #[.val (.ref r0), .val (.ref b2)] [])) _
    refine XS.aloadN X4.here hx rfl (hb hby d2_14) rfl rfl ?_
    show Steps p.tables e below (T4.setTop (mkF m 15 #[.val (.ref r0), .val (.ref b2)] [(.ref b2)])) _
    jvm_step X4.here [X4.here.top, hx, (hb hby d2_15), X4.method', Bd.returns, Value.isRef, FieldType.isReference]
    first | (intro acts; rw [hr _ acts rfl rfl rfl]) | rw [hr _ _ rfl rfl rfl]
    exact Steps.refl _
  · show Q2_4 Z r0 ka v0 v1 v2 v3 h0 n0 _ T4.heap _
    rw [e4]
    exact ⟨b2, _, rfl, N4, K4, sz_b2, V_b2_at4⟩
theorem ef_3_5 (m : MethodId) (x0 : Addr) (x1 : Int32) : entryFrame m #[(.ref x0), (.int x1)] 3 = mkF m 0 #[.val (.ref x0), .val (.int x1), .unset] [] := by first | (simp [entryFrame, mkF, argsToLocals, Value.category]; done) | rfl
def Q3_5 (Z : State) (r0 : Addr) (ka : ClassId) (v0 v1 v2 v3 v4 : Int32) (h0 : Heap) (n0 : Nat) (v : Option Value) (h : Heap) (L : List Loc) : Prop := ∃ (b : Addr) (kb : ClassId), v = some (.ref b) ∧ Fr n0 L ∧ Keep h0 h [] ∧ h0.size ≤ b ∧ Arv Z h b kb .byte (6 : Int32) [(.int v0), (.int v1), (.int v2), (.int v3), (.int v4), (.int (0 : Int32))] (.int (0 : Int32))
set_option maxRecDepth 65536 in
set_option maxHeartbeats 40000000 in
theorem rm3_5 (l : Launch) (Z : State) (a0 : Array Value) (hw : ∀ d ∈ tables_1, d.before a0 Z = true) (ws : List Jvm.Cond) (r0 : Addr) (ka : ClassId) (v0 v1 v2 v3 v4 : Int32) (h0 : Heap) (n0 : Nat) (Z0 : n0 ≤ h0.size) (V_r0 : Arv Z h0 r0 ka .byte (5 : Int32) [(.int v0), (.int v1), (.int v2), (.int v3), (.int v4)] (.int (0 : Int32))) :
    MetFree l (⟨"java/util/Arrays", "copyOf", "([BI)[B"⟩ : MethodName) (head1 (Jvm.Cond.code (⟨"java/util/Arrays", "copyOf", "([BI)[B"⟩ : MethodName) jdk_65_method_121_code 3 (some (.array .byte)) :: ws) ({ frames := 1, cells := 1, slots := 6, locals := 32 } : Room)) (fun a U => a = #[(.ref r0), (.int (6 : Int32))] ∧ Z.Warmed39 U.vm ∧ U.heap = h0) (fun _ _ _ _ _ => True) (fun _ U o U' => ∃ v L, o = .returned v ∧ Q3_5 Z r0 ka v0 v1 v2 v3 v4 h0 n0 v U'.heap L ∧ FrameEnd U o U' L ({ frames := 1, cells := 1, slots := 6, locals := 32 } : Room).cells ({ frames := 1, cells := 1, slots := 6, locals := 32 } : Room).slots) := by
  refine MetFree.of_bodySF (plainFor_of_name pn_java_util_Arrays) hisR ?_
  intro p e s m args below meth c s₁ Bd hml0 hP hK
  obtain ⟨rfl, hZ, hh⟩ := hP
  have hx := Bd.exec
  have hby := Bd.bytes
  have hml : c.maxLocals = 3 := hml0
  have hown : s.vm.findClass "java/util/Arrays" = some m.cls := findClass_of_methodNamed Bd.named
  have hnm := (name_of_methodNamed Bd.named Bd.method).1
  have X0 : Stand p l e ({ frames := 1, cells := 1, slots := 6, locals := 32 } : Room) s m #[(.ref r0), (.int (6 : Int32))] below meth c s₁ [] 0 0 := Stand.of_body Bd
  have e0 : s₁.heap = h0 := by rw [← hh, Bd.state]; rfl
  have N0 := Fr.nil n0
  have pre0 : ∀ t, Steps p.tables e below (s₁.setTop (mkF m 0 #[.val (.ref r0), .val (.int (6 : Int32)), .unset] [])) t → Steps p.tables e below (s₁.setTop (entryFrame m #[(.ref r0), (.int (6 : Int32))] 3)) t := fun t k => castTop (ef_3_5 m r0 (6 : Int32)) k
  have K0 : Keep h0 h0 [] := Keep.refl h0 []
  obtain ⟨cl_2_1, Ar_2_1, -, S_2_1, M_2_1, -, -⟩ := id V_r0
  obtain ⟨T2, h2, k2, X2, e2, E2, A2, st2⟩ := newP X0 hx hZ (hw _ (List.mem_of_getElem? (i := 5) rfl)) e0 (g := (mkF m 15 #[.val (.ref r0), .val (.int (6 : Int32)), .unset] [(.int (6 : Int32))])) rfl (hb hby d3_15) rfl (by decide) (cap := 6) (by decide) (by decide) (by decide) (by decide)
  obtain ⟨b2, g2⟩ : ∃ z, z = h0.size := ⟨_, rfl⟩
  rw [← g2] at A2 st2
  have g_b2 : n0 ≤ b2 := Nat.le_trans Z0 (Nat.le_of_eq g2.symm)
  have sz_b2 : h0.size ≤ b2 := Nat.le_trans K0.1 (Nat.le_of_eq g2.symm)
  have ne_r0_b2 : r0 ≠ b2 := Nat.ne_of_lt (Nat.lt_of_lt_of_le V_r0.lt (Nat.le_of_eq g2.symm))
  have V_r0_at2 : Arv Z h2 r0 ka .byte (5 : Int32) [(.int v0), (.int v1), (.int v2), (.int v3), (.int v4)] (.int (0 : Int32)) := V_r0.ext E2
  have K2 : Keep h0 h2 [] := K0.ext E2
  have Z2 : n0 ≤ h2.size := Nat.le_trans Z0 E2.1
  have xV_b2_at2 := (Arv.new A2 (by decide)).pad (pad_rep [] (.int (0 : Int32)) 6)
  have V_b2_at2 : Arv Z h2 b2 k2 .byte (6 : Int32) [(.int (0 : Int32)), (.int (0 : Int32)), (.int (0 : Int32)), (.int (0 : Int32)), (.int (0 : Int32)), (.int (0 : Int32))] (.int (0 : Int32)) := xV_b2_at2
  obtain ⟨cl_23_3, Ar_23_3, -, S_23_3, M_23_3, -, -⟩ := id V_r0_at2
  obtain ⟨_, _, ⟨T4, L4, k4, n4⟩, -, X4, ⟨Lc4, hQ4, l4, y4, z4⟩, st4⟩ := Jvm.LawKit.callS X2 hx (y := (⟨"java/lang/Math", "min", "(II)I"⟩ : MethodName)) hown (mvT hZ (hw _ (List.mem_of_getElem? (i := 14) rfl))) (mvT hZ (hw _ (List.mem_of_getElem? (i := 15) rfl))) (mvT hZ (hw _ (List.mem_of_getElem? (i := 16) rfl))) (mvT hZ (hw _ (List.mem_of_getElem? (i := 17) rfl))) (by decide) (backOf (W := 4) (rm4 l Z a0 hw [] (5 : Int32) (6 : Int32) h2 n0 Z2) hZ (hw _ (List.mem_of_getElem? (i := 17) rfl)) (hw _ (List.mem_of_getElem? (i := 16) rfl)) (by decide) (by decide)) (g := (mkF m 25 #[.val (.ref r0), .val (.int (6 : Int32)), .val (.ref b2)] [(.int (6 : Int32)), (.int (5 : Int32)), (.int (0 : Int32)), (.ref b2), (.int (0 : Int32)), (.ref r0)])) rfl (by rw [hml]; rfl) (argsL := [(.int (5 : Int32)), (.int (6 : Int32))]) (rest := [(.int (0 : Int32)), (.ref b2), (.int (0 : Int32)), (.ref r0)]) (lenOf pd_28II29I rfl) rfl (by show 2 * 0 + _ ≤ _; exact Nat.le_of_eq rfl) (hb hby d3_25) (fun _ _ => ⟨rfl, e2, (by decide : 1 + 0 ≤ _), (by decide : 6 + 0 ≤ _)⟩)
  dsimp only [Pt.U, Pt.locs, Pt.cells, Pt.slots] at X4 l4 y4 z4 st4 hQ4
  subst l4 y4 z4
  obtain ⟨rfl, N4q, e4⟩ := hQ4
  have N4 := Fr.app N0 N4q
  obtain ⟨T5, h5, L5, X5, e5, N5, KK5, V5x, st5⟩ := cpA X4 hx hZ hown (hw _ (List.mem_of_getElem? (i := 18) rfl)) (hw _ (List.mem_of_getElem? (i := 21) rfl)) (hw _ (List.mem_of_getElem? (i := 19) rfl)) (hw _ (List.mem_of_getElem? (i := 20) rfl)) e4 V_r0_at2 V_b2_at2 (Or.inl ⟨rfl, rfl⟩) (sp := (0 : Int32)) (dp := (0 : Int32)) (nn := (5 : Int32)) (us := [(.int v0), (.int v1), (.int v2), (.int v3), (.int v4)]) (by decide) (by decide) (by decide) (by decide) (by decide) rfl (by decide) N4 g_b2 (g := (mkF m 28 #[.val (.ref r0), .val (.int (6 : Int32)), .val (.ref b2)] [(.int (5 : Int32)), (.int (0 : Int32)), (.ref b2), (.int (0 : Int32)), (.ref r0)])) rfl (by rw [hml]; rfl) (rest := []) rfl (hb hby d3_28) (by decide) (W := 0) (by show 2 * 0 + _ ≤ _; exact Nat.le_of_eq rfl) (by decide)
  have V_r0_at5 : Arv Z h5 r0 ka .byte (5 : Int32) [(.int v0), (.int v1), (.int v2), (.int v3), (.int v4)] (.int (0 : Int32)) := V_r0_at2.keep KK5 (ninS ne_r0_b2 nin0)
  have K5 : Keep h0 h5 [] := K2.trans KK5 (allS (Or.inr sz_b2) all0)
  have Z5 : n0 ≤ h5.size := Nat.le_trans Z2 KK5.1
  have xV_b2_at5 := V5x
  have V_b2_at5 : Arv Z h5 b2 k2 .byte (6 : Int32) [(.int v0), (.int v1), (.int v2), (.int v3), (.int v4), (.int (0 : Int32))] (.int (0 : Int32)) := xV_b2_at5
  obtain ⟨fs, hr, hrun, hended, hW, hsame⟩ := X5.leave (v := some (.ref b2)) (fun h => by rw [Bd.returns] at h; cases h)
  refine ⟨_, _, pre0 _ ?_, hrun, hended, _, _, rfl, ?_, ⟨_, rfl⟩, hW, hsame.mono (by decide) (by decide)⟩
  · show Steps p.tables e below (s₁.setTop (mkF m 0 #[.val (.ref r0), .val (.int (6 : Int32)), .unset] [])) _
    refine XS.iloadN X0.here hx rfl (hb hby d3_0) rfl ?_
    show Steps p.tables e below (s₁.setTop (mkF m 1 #[.val (.ref r0), .val (.int (6 : Int32)), .unset] [(.int (6 : Int32))])) _
    refine XS.aloadN X0.here hx rfl (hb hby d3_1) rfl rfl ?_
    show Steps p.tables e below (s₁.setTop (mkF m 2 #[.val (.ref r0), .val (.int (6 : Int32)), .unset] [(.ref r0), (.int (6 : Int32))])) _
    refine X0.arraylength hx (by rw [e0]; exact Ar_2_1.1) (State.isArrayOf_alike hZ.alike Ar_2_1.2.1) (g := (mkF m 2 #[.val (.ref r0), .val (.int (6 : Int32)), .unset] [(.ref r0), (.int (6 : Int32))])) rfl rfl (hb hby d3_2) _ ?_
    rw [len_of S_2_1 M_2_1]
    show Steps p.tables e below (s₁.setTop (mkF m 3 #[.val (.ref r0), .val (.int (6 : Int32)), .unset] [(.int (5 : Int32)), (.int (6 : Int32))])) _
    refine XS.icmpYes X0.here hx rfl (pc0 := 3) (pc' := 14) rfl (hb hby d3_3) rfl (feq (by decide : ¬ ((6 : Int32) = (5 : Int32)))).2 (by decide) (by decide) ?_
    show Steps p.tables e below (s₁.setTop (mkF m 14 #[.val (.ref r0), .val (.int (6 : Int32)), .unset] [])) _
    refine XS.iloadN X0.here hx rfl (hb hby d3_14) rfl ?_
    show Steps p.tables e below (s₁.setTop (mkF m 15 #[.val (.ref r0), .val (.int (6 : Int32)), .unset] [(.int (6 : Int32))])) _
    refine st2 _ ?_
    show Steps p.tables e below (T2.setTop (mkF m 17 #[.val (.ref r0), .val (.int (6 : Int32)), .unset] [(.ref b2)])) _
    refine XS.astoreN X2.here hx rfl (hb hby d3_17) rfl rfl (l' := #[.val (.ref r0), .val (.int (6 : Int32)), .val (.ref b2)]) rfl ?_
    show Steps p.tables e below (T2.setTop (mkF m 18 #[.val (.ref r0), .val (.int (6 : Int32)), .val (.ref b2)] [])) _
    refine XS.aloadN X2.here hx rfl (hb hby d3_18) rfl rfl ?_
    show Steps p.tables e below (T2.setTop (mkF m 19 #[.val (.ref r0), .val (.int (6 : Int32)), .val (.ref b2)] [(.ref r0)])) _
    refine XS.iconst X2.here hx rfl (hb hby d3_19) ?_
    show Steps p.tables e below (T2.setTop (mkF m 20 #[.val (.ref r0), .val (.int (6 : Int32)), .val (.ref b2)] [(.int (0 : Int32)), (.ref r0)])) _
    refine XS.aloadN X2.here hx rfl (hb hby d3_20) rfl rfl ?_
    show Steps p.tables e below (T2.setTop (mkF m 21 #[.val (.ref r0), .val (.int (6 : Int32)), .val (.ref b2)] [(.ref b2), (.int (0 : Int32)), (.ref r0)])) _
    refine XS.iconst X2.here hx rfl (hb hby d3_21) ?_
    show Steps p.tables e below (T2.setTop (mkF m 22 #[.val (.ref r0), .val (.int (6 : Int32)), .val (.ref b2)] [(.int (0 : Int32)), (.ref b2), (.int (0 : Int32)), (.ref r0)])) _
    refine XS.aloadN X2.here hx rfl (hb hby d3_22) rfl rfl ?_
    show Steps p.tables e below (T2.setTop (mkF m 23 #[.val (.ref r0), .val (.int (6 : Int32)), .val (.ref b2)] [(.ref r0), (.int (0 : Int32)), (.ref b2), (.int (0 : Int32)), (.ref r0)])) _
    refine X2.arraylength hx (by rw [e2]; exact Ar_23_3.1) (State.isArrayOf_alike hZ.alike Ar_23_3.2.1) (g := (mkF m 23 #[.val (.ref r0), .val (.int (6 : Int32)), .val (.ref b2)] [(.ref r0), (.int (0 : Int32)), (.ref b2), (.int (0 : Int32)), (.ref r0)])) rfl rfl (hb hby d3_23) _ ?_
    rw [len_of S_23_3 M_23_3]
    show Steps p.tables e below (T2.setTop (mkF m 24 #[.val (.ref r0), .val (.int (6 : Int32)), .val (.ref b2)] [(.int (5 : Int32)), (.int (0 : Int32)), (.ref b2), (.int (0 : Int32)), (.ref r0)])) _
    refine XS.iloadN X2.here hx rfl (hb hby d3_24) rfl ?_
    show Steps p.tables e below (T2.setTop (mkF m 25 #[.val (.ref r0), .val (.int (6 : Int32)), .val (.ref b2)] [(.int (6 : Int32)), (.int (5 : Int32)), (.int (0 : Int32)), (.ref b2), (.int (0 : Int32)), (.ref r0)])) _
    refine st4 _ ?_
    show Steps p.tables e below (T4.setTop (mkF m 28 #[.val (.ref r0), .val (.int (6 : Int32)), .val (.ref b2)] [(.int (5 : Int32)), (.int (0 : Int32)), (.ref b2), (.int (0 : Int32)), (.ref r0)])) _
    refine st5 _ ?_
    show Steps p.tables e below (T5.setTop (mkF m 31 #[.val (.ref r0), .val (.int (6 : Int32)), .val (.ref b2)] [])) _
    refine XS.aloadN X5.here hx rfl (hb hby d3_31) rfl rfl ?_
    show Steps p.tables e below (T5.setTop (mkF m 32 #[.val (.ref r0), .val (.int (6 : Int32)), .val (.ref b2)] [(.ref b2)])) _
    jvm_step X5.here [X5.here.top, hx, (hb hby d3_32), X5.method', Bd.returns, Value.isRef, FieldType.isReference]
    first | (intro acts; rw [hr _ acts rfl rfl rfl]) | rw [hr _ _ rfl rfl rfl]
    exact Steps.refl _
  · show Q3_5 Z r0 ka v0 v1 v2 v3 v4 h0 n0 _ T5.heap _
    rw [e5]
    exact ⟨b2, _, rfl, N5, K5, sz_b2, V_b2_at5⟩
theorem ef_2_5 (m : MethodId) (x0 : Addr) : entryFrame m #[(.ref x0)] 2 = mkF m 0 #[.val (.ref x0), .unset] [] := by first | (simp [entryFrame, mkF, argsToLocals, Value.category]; done) | rfl
def Q2_5 (Z : State) (r0 : Addr) (ka : ClassId) (v0 v1 v2 v3 v4 : Int32) (h0 : Heap) (n0 : Nat) (v : Option Value) (h : Heap) (L : List Loc) : Prop := ∃ (b : Addr) (kb : ClassId), v = some (.ref b) ∧ Fr n0 L ∧ Keep h0 h [] ∧ h0.size ≤ b ∧ Arv Z h b kb .byte (6 : Int32) [(.int v0), (.int v1), (.int v2), (.int v3), (.int v4), (.int (-1 : Int32))] (.int (0 : Int32))
set_option maxRecDepth 65536 in
set_option maxHeartbeats 40000000 in
theorem rm2_5 (l : Launch) (Z : State) (a0 : Array Value) (hw : ∀ d ∈ tables_1, d.before a0 Z = true) (ws : List Jvm.Cond) (r0 : Addr) (ka : ClassId) (v0 v1 v2 v3 v4 : Int32) (h0 : Heap) (n0 : Nat) (Z0 : n0 ≤ h0.size) (V_r0 : Arv Z h0 r0 ka .byte (5 : Int32) [(.int v0), (.int v1), (.int v2), (.int v3), (.int v4)] (.int (0 : Int32))) :
    MetFree l (⟨"com/example/usrset/usrset/store/Key", "pastTuplesOf", "([B)[B"⟩ : MethodName) (head1 (Jvm.Cond.code (⟨"com/example/usrset/usrset/store/Key", "pastTuplesOf", "([B)[B"⟩ : MethodName) prog_10_method_4_code 2 (some (.array .byte)) :: ws) ({ frames := 2, cells := 1, slots := 6, locals := 46 } : Room)) (fun a U => a = #[(.ref r0)] ∧ Z.Warmed39 U.vm ∧ U.heap = h0) (fun _ _ _ _ _ => True) (fun _ U o U' => ∃ v L, o = .returned v ∧ Q2_5 Z r0 ka v0 v1 v2 v3 v4 h0 n0 v U'.heap L ∧ FrameEnd U o U' L ({ frames := 2, cells := 1, slots := 6, locals := 46 } : Room).cells ({ frames := 2, cells := 1, slots := 6, locals := 46 } : Room).slots) := by
  refine MetFree.of_bodySF (plainFor_of_name pn_com_example_usrset_usrset_store_Key) hisR ?_
  intro p e s m args below meth c s₁ Bd hml0 hP hK
  obtain ⟨rfl, hZ, hh⟩ := hP
  have hx := Bd.exec
  have hby := Bd.bytes
  have hml : c.maxLocals = 2 := hml0
  have hown : s.vm.findClass "com/example/usrset/usrset/store/Key" = some m.cls := findClass_of_methodNamed Bd.named
  have hnm := (name_of_methodNamed Bd.named Bd.method).1
  have X0 : Stand p l e ({ frames := 2, cells := 1, slots := 6, locals := 46 } : Room) s m #[(.ref r0)] below meth c s₁ [] 0 0 := Stand.of_body Bd
  have e0 : s₁.heap = h0 := by rw [← hh, Bd.state]; rfl
  have N0 := Fr.nil n0
  have pre0 : ∀ t, Steps p.tables e below (s₁.setTop (mkF m 0 #[.val (.ref r0), .unset] [])) t → Steps p.tables e below (s₁.setTop (entryFrame m #[(.ref r0)] 2)) t := fun t k => castTop (ef_2_5 m r0) k
  have K0 : Keep h0 h0 [] := Keep.refl h0 []
  obtain ⟨cl_2_1, Ar_2_1, -, S_2_1, M_2_1, -, -⟩ := id V_r0
  obtain ⟨_, _, ⟨T2, L2, k2, n2⟩, -, X2, ⟨Lc2, hQ2, l2, y2, z2⟩, st2⟩ := Jvm.LawKit.callS X0 hx (y := (⟨"java/util/Arrays", "copyOf", "([BI)[B"⟩ : MethodName)) hown (mvT hZ (hw _ (List.mem_of_getElem? (i := 10) rfl))) (mvT hZ (hw _ (List.mem_of_getElem? (i := 11) rfl))) (mvT hZ (hw _ (List.mem_of_getElem? (i := 12) rfl))) (mvT hZ (hw _ (List.mem_of_getElem? (i := 13) rfl))) (by decide) (backOf (W := 0) (rm3_5 l Z a0 hw [] r0 ka v0 v1 v2 v3 v4 h0 n0 Z0 V_r0) hZ (hw _ (List.mem_of_getElem? (i := 13) rfl)) (hw _ (List.mem_of_getElem? (i := 12) rfl)) (by decide) (by decide)) (g := (mkF m 5 #[.val (.ref r0), .unset] [(.int (6 : Int32)), (.ref r0)])) rfl (by rw [hml]; rfl) (argsL := [(.ref r0), (.int (6 : Int32))]) (rest := []) (lenOf pd_285bBI295bB rfl) rfl (by show 2 * 0 + _ ≤ _; exact Nat.le_of_eq rfl) (hb hby d2_5) (fun _ _ => ⟨rfl, e0, (by decide : 0 + 1 ≤ _), (by decide : 0 + 6 ≤ _)⟩)
  dsimp only [Pt.U, Pt.locs, Pt.cells, Pt.slots] at X2 l2 y2 z2 st2 hQ2
  subst l2 y2 z2
  obtain ⟨b2, kb2, rfl, N2q, KK2, gb2, VB2⟩ := hQ2
  obtain ⟨h2, e2⟩ : ∃ z, T2.heap = z := ⟨_, rfl⟩
  rw [e2] at KK2 VB2
  have V_r0_at2 : Arv Z h2 r0 ka .byte (5 : Int32) [(.int v0), (.int v1), (.int v2), (.int v3), (.int v4)] (.int (0 : Int32)) := V_r0.keep KK2 nin0
  have K2 : Keep h0 h2 [] := K0.trans KK2 all0
  have Z2 : n0 ≤ h2.size := Nat.le_trans Z0 KK2.1
  have ne_r0_b2 : r0 ≠ b2 := Nat.ne_of_lt (Nat.lt_of_lt_of_le V_r0.lt gb2)
  have g_b2 : n0 ≤ b2 := Nat.le_trans Z0 gb2
  have sz_b2 : h0.size ≤ b2 := Nat.le_trans K0.1 gb2
  have N2 := Fr.app N0 N2q
  obtain ⟨cl_11_3, Ar_11_3, -, S_11_3, M_11_3, -, -⟩ := id V_r0_at2
  obtain ⟨cl_13, Ar_13, q_13, S_13, N_13, H_13, G_13⟩ := id VB2
  have hin13 : ¬ ((5 : Int32) < 0 ∨ cl_13.slots.size ≤ ((5 : Int32)).toNatClampNeg) := inb_of S_13 ⟨by decide, by decide⟩
  obtain ⟨T4, h4, X4, e4, W4, st4⟩ := stB X2 hx hZ e2 Ar_13 (j := (5 : Int32)) hin13 (g := (mkF m 13 #[.val (.ref r0), .val (.ref b2)] [(.int (-1 : Int32)), (.int (5 : Int32)), (.ref b2)])) rfl rfl (hb hby d2_13)
  have V_r0_at4 : Arv Z h4 r0 ka .byte (5 : Int32) [(.int v0), (.int v1), (.int v2), (.int v3), (.int v4)] (.int (0 : Int32)) := V_r0_at2.other W4 ne_r0_b2
  have xV_b2_at4 := Arv.set Ar_13 q_13 S_13 N_13 H_13 G_13 (fits_nar_byte _) W4 5 rfl (Nat.le_of_ble_eq_true rfl)
  have V_b2_at4 : Arv Z h4 b2 kb2 .byte (6 : Int32) [(.int v0), (.int v1), (.int v2), (.int v3), (.int v4), (.int (-1 : Int32))] (.int (0 : Int32)) := xV_b2_at4
  have K4 : Keep h0 h4 [] := K2.wr W4 (Or.inr sz_b2)
  have Z4 : n0 ≤ h4.size := Nat.le_trans Z2 (Keep.of_wr W4).1
  have N4 := Fr.snoc X4 N2 g_b2
  obtain ⟨fs, hr, hrun, hended, hW, hsame⟩ := X4.leave (v := some (.ref b2)) (fun h => by rw [Bd.returns] at h; cases h)
  refine ⟨_, _, pre0 _ ?_, hrun, hended, _, _, rfl, ?_, ⟨_, rfl⟩, hW, hsame.mono (by decide) (by decide)⟩
  · show Steps p.tables e below (s₁.setTop (mkF m 0 #[.val (.ref r0), .unset] [])) _
    refine XS.aloadN X0.here hx rfl (hb hby d2_0) rfl rfl ?_
    show Steps p.tables e below (s₁.setTop (mkF m 1 #[.val (.ref r0), .unset] [(.ref r0)])) _
    refine XS.aloadN X0.here hx rfl (hb hby d2_1) rfl rfl ?_
    show Steps p.tables e below (s₁.setTop (mkF m 2 #[.val (.ref r0), .unset] [(.ref r0), (.ref r0)])) _
    refine X0.arraylength hx (by rw [e0]; exact Ar_2_1.1) (State.isArrayOf_alike hZ.alike Ar_2_1.2.1) (g := (mkF m 2 #[.val (.ref r0), .unset] [(.ref r0), (.ref r0)])) rfl rfl (hb hby d2_2) _ ?_
    rw [len_of S_2_1 M_2_1]
    show Steps p.tables e below (s₁.setTop (mkF m 3 #[.val (.ref r0), .unset] [(.int (5 : Int32)), (.ref r0)])) _
    refine XS.iconst X0.here hx rfl (hb hby d2_3) ?_
    show Steps p.tables e below (s₁.setTop (mkF m 4 #[.val (.ref r0), .unset] [(.int (1 : Int32)), (.int (5 : Int32)), (.ref r0)])) _
    refine XS.iadd X0.here hx rfl (hb hby d2_4) rfl ?_
    show Steps p.tables e below (s₁.setTop (mkF m 5 #[.val (.ref r0), .unset] [(.int (6 : Int32)), (.ref r0)])) _
    refine st2 _ ?_
    show Steps p.tables e below (T2.setTop (mkF m 8 #[.val (.ref r0), .unset] [(.ref b2)])) _
    refine XS.astoreN X2.here hx rfl (hb hby d2_8) rfl rfl (l' := #[.val (.ref r0), .val (.ref b2)]) rfl ?_
    show Steps p.tables e below (T2.setTop (mkF m 9 #[.val (.ref r0), .val (.ref b2)] [])) _
    refine XS.aloadN X2.here hx rfl (hb hby d2_9) rfl rfl ?_
    show Steps p.tables e below (T2.setTop (mkF m 10 #[.val (.ref r0), .val (.ref b2)] [(.ref b2)])) _
    refine XS.aloadN X2.here hx rfl (hb hby d2_10) rfl rfl ?_
    show Steps p.tables e below (T2.setTop (mkF m 11 #[.val (.ref r0), .val (.ref b2)] [(.ref r0), (.ref b2)])) _
    refine X2.arraylength hx (by rw [e2]; exact Ar_11_3.1) (State.isArrayOf_alike hZ.alike Ar_11_3.2.1) (g := (mkF m 11 #[.val (.ref r0), .val (.ref b2)] [(.ref r0), (.ref b2)])) rfl rfl (hb hby d2_11) _ ?_
    rw [len_of S_11_3 M_11_3]
    show Steps p.tables e below (T2.setTop (mkF m 12 #[.val (.ref r0), .val (.ref b2)] [(.int (5 : Int32)), (.ref b2)])) _
    refine XS.iconst X2.here hx rfl (hb hby d2_12) ?_
    show Steps p.tables e below (T2.setTop (mkF m 13 #[.val (.ref r0), .val (.ref b2)] [(.int (-1 : Int32)), (.int (5 : Int32)), (.ref b2)])) _
    refine st4 _ ?_
    show Steps p.tables e below (T4.setTop (mkF m 14 #[.val (.ref r0), .val (.ref b2)] [])) _
    refine XS.aloadN X4.here hx rfl (hb hby d2_14) rfl rfl ?_
    show Steps p.tables e below (T4.setTop (mkF m 15 #[.val (.ref r0), .val (.ref b2)] [(.ref b2)])) _
    jvm_step X4.here [X4.here.top, hx, (hb hby d2_15), X4.method', Bd.returns, Value.isRef, FieldType.isReference]
    first | (intro acts; rw [hr _ acts rfl rfl rfl]) | rw [hr _ _ rfl rfl rfl]
    exact Steps.refl _
  · show Q2_5 Z r0 ka v0 v1 v2 v3 v4 h0 n0 _ T4.heap _
    rw [e4]
    exact ⟨b2, _, rfl, N4, K4, sz_b2, V_b2_at4⟩
theorem ef_5_a (m : MethodId) (x0 : Addr) (x1 : Addr) (x2 : Int32) (x3 : Int32) (x4 : Int64) : entryFrame m #[(.ref x0), (.ref x1), (.int x2), (.int x3), (.long x4)] 6 = mkF m 0 #[.val (.ref x0), .val (.ref x1), .val (.int x2), .val (.int x3), .val (.long x4), .second] [] := by first | (simp [entryFrame, mkF, argsToLocals, Value.category]; done) | rfl
theorem d5_0 : decode method_4_code 0 = .ok (.iload_n 2, 1) := by decide +kernel
theorem d5_1 : decode method_4_code 1 = .ok (.iload_n 3, 1) := by decide +kernel
theorem d5_2 : decode method_4_code 2 = .ok (.if_icmp .ge 27, 3) := by decide +kernel
theorem d5_29 : decode method_4_code 29 = .ok (.iconst 1, 1) := by decide +kernel
theorem d5_30 : decode method_4_code 30 = .ok (.goto 4, 3) := by decide +kernel
theorem d5_34 : decode method_4_code 34 = .ok (.ireturn, 1) := by decide +kernel
def Q5_a (Z : State) (r0 : Addr) (r1 : Addr) (p2 : Int32) (p3 : Int32) (q4 : Int64) (h0 : Heap) (n0 : Nat) (v : Option Value) (h : Heap) (L : List Loc) : Prop := v = some (.int 1) ∧ Fr n0 L ∧ h = h0
set_option maxRecDepth 65536 in
set_option maxHeartbeats 40000000 in
theorem rm5_a (l : Launch) (Z : State) (a0 : Array Value) (hw : ∀ d ∈ tables_1, d.before a0 Z = true) (ws : List Jvm.Cond) (r0 : Addr) (r1 : Addr) (p2 : Int32) (p3 : Int32) (q4 : Int64) (h0 : Heap) (n0 : Nat) (Z0 : n0 ≤ h0.size) (hge : ¬ (p2 < p3)) :
    MetFree l (⟨"com/example/usrset/usrset/store/KeyPastTuplesOfPinLaw", "same", "([B[BIIJ)Z"⟩ : MethodName) (head1 (Jvm.Cond.code (⟨"com/example/usrset/usrset/store/KeyPastTuplesOfPinLaw", "same", "([B[BIIJ)Z"⟩ : MethodName) method_4_code 6 (some .boolean) :: ws) ({ frames := 0, cells := 0, slots := 0, locals := 0 } : Room)) (fun a U => a = #[(.ref r0), (.ref r1), (.int p2), (.int p3), (.long q4)] ∧ Z.Warmed39 U.vm ∧ U.heap = h0) (fun _ _ _ _ _ => True) (fun _ U o U' => ∃ v L, o = .returned v ∧ Q5_a Z r0 r1 p2 p3 q4 h0 n0 v U'.heap L ∧ FrameEnd U o U' L ({ frames := 0, cells := 0, slots := 0, locals := 0 } : Room).cells ({ frames := 0, cells := 0, slots := 0, locals := 0 } : Room).slots) := by
  refine MetFree.of_bodySF (plainFor_of_name pn_com_example_usrset_usrset_store_KeyPastTuplesOfPinLaw) hisR ?_
  intro p e s m args below meth c s₁ Bd hml0 hP hK
  obtain ⟨rfl, hZ, hh⟩ := hP
  have hx := Bd.exec
  have hby := Bd.bytes
  have hml : c.maxLocals = 6 := hml0
  have hown : s.vm.findClass "com/example/usrset/usrset/store/KeyPastTuplesOfPinLaw" = some m.cls := findClass_of_methodNamed Bd.named
  have hnm := (name_of_methodNamed Bd.named Bd.method).1
  have X0 : Stand p l e ({ frames := 0, cells := 0, slots := 0, locals := 0 } : Room) s m #[(.ref r0), (.ref r1), (.int p2), (.int p3), (.long q4)] below meth c s₁ [] 0 0 := Stand.of_body Bd
  have e0 : s₁.heap = h0 := by rw [← hh, Bd.state]; rfl
  have N0 := Fr.nil n0
  have pre0 : ∀ t, Steps p.tables e below (s₁.setTop (mkF m 0 #[.val (.ref r0), .val (.ref r1), .val (.int p2), .val (.int p3), .val (.long q4), .second] [])) t → Steps p.tables e below (s₁.setTop (entryFrame m #[(.ref r0), (.ref r1), (.int p2), (.int p3), (.long q4)] 6)) t := fun t k => castTop (ef_5_a m r0 r1 p2 p3 q4) k
  obtain ⟨fs, hr, hrun, hended, hW, hsame⟩ := X0.leave (v := some (.int (1 : Int32))) (fun h => by rw [Bd.returns] at h; cases h)
  refine ⟨_, _, pre0 _ ?_, hrun, hended, _, _, rfl, ?_, ⟨_, rfl⟩, hW, hsame.mono (by decide) (by decide)⟩
  · show Steps p.tables e below (s₁.setTop (mkF m 0 #[.val (.ref r0), .val (.ref r1), .val (.int p2), .val (.int p3), .val (.long q4), .second] [])) _
    refine XS.iloadN X0.here hx rfl (hb hby d5_0) rfl ?_
    show Steps p.tables e below (s₁.setTop (mkF m 1 #[.val (.ref r0), .val (.ref r1), .val (.int p2), .val (.int p3), .val (.long q4), .second] [(.int p2)])) _
    refine XS.iloadN X0.here hx rfl (hb hby d5_1) rfl ?_
    show Steps p.tables e below (s₁.setTop (mkF m 2 #[.val (.ref r0), .val (.ref r1), .val (.int p2), .val (.int p3), .val (.long q4), .second] [(.int p3), (.int p2)])) _
    refine XS.icmpYes X0.here hx rfl (pc0 := 2) (pc' := 29) rfl (hb hby d5_2) rfl (flt hge).2.1 (by decide) (by decide) ?_
    show Steps p.tables e below (s₁.setTop (mkF m 29 #[.val (.ref r0), .val (.ref r1), .val (.int p2), .val (.int p3), .val (.long q4), .second] [])) _
    refine XS.iconst X0.here hx rfl (hb hby d5_29) ?_
    show Steps p.tables e below (s₁.setTop (mkF m 30 #[.val (.ref r0), .val (.ref r1), .val (.int p2), .val (.int p3), .val (.long q4), .second] [(.int (1 : Int32))])) _
    refine XS.goto X0.here hx rfl (pc0 := 30) (pc' := 34) rfl (hb hby d5_30) (by decide) (by decide) ?_
    show Steps p.tables e below (s₁.setTop (mkF m 34 #[.val (.ref r0), .val (.ref r1), .val (.int p2), .val (.int p3), .val (.long q4), .second] [(.int (1 : Int32))])) _
    exact retN X0 hx (t := .boolean) Bd.returns (by simp) (hb hby d5_34) hr
  · show Q5_a Z r0 r1 p2 p3 q4 h0 n0 _ s₁.heap _
    rw [e0]
    exact ⟨rfl, N0, rfl⟩
theorem ef_5_b (m : MethodId) (x0 : Addr) (x1 : Addr) (x2 : Int32) (x3 : Int32) (x4 : Int64) : entryFrame m #[(.ref x0), (.ref x1), (.int x2), (.int x3), (.long x4)] 6 = mkF m 0 #[.val (.ref x0), .val (.ref x1), .val (.int x2), .val (.int x3), .val (.long x4), .second] [] := by first | (simp [entryFrame, mkF, argsToLocals, Value.category]; done) | rfl
theorem d5_5 : decode method_4_code 5 = .ok (.aload_n 0, 1) := by decide +kernel
theorem d5_6 : decode method_4_code 6 = .ok (.iload_n 2, 1) := by decide +kernel
theorem d5_7 : decode method_4_code 7 = .ok (.baload, 1) := by decide +kernel
theorem d5_8 : decode method_4_code 8 = .ok (.lload 4, 2) := by decide +kernel
theorem d5_10 : decode method_4_code 10 = .ok (.iload_n 2, 1) := by decide +kernel
theorem d5_11 : decode method_4_code 11 = .ok (.invokestatic 24, 3) := by decide +kernel
theorem d5_14 : decode method_4_code 14 = .ok (.if_icmp .ne 19, 3) := by decide +kernel
theorem d5_17 : decode method_4_code 17 = .ok (.aload_n 1, 1) := by decide +kernel
theorem d5_18 : decode method_4_code 18 = .ok (.iload_n 2, 1) := by decide +kernel
theorem d5_19 : decode method_4_code 19 = .ok (.baload, 1) := by decide +kernel
theorem d5_20 : decode method_4_code 20 = .ok (.lload 4, 2) := by decide +kernel
theorem d5_22 : decode method_4_code 22 = .ok (.iload_n 2, 1) := by decide +kernel
theorem d5_23 : decode method_4_code 23 = .ok (.invokestatic 24, 3) := by decide +kernel
theorem d5_26 : decode method_4_code 26 = .ok (.if_icmp .ne 7, 3) := by decide +kernel
def Q5_b (Z : State) (r0 : Addr) (r1 : Addr) (p2 : Int32) (p3 : Int32) (q4 : Int64) (k0 k1 : ClassId) (z0 z1 : Int32) (vs0 vs1 : List Value) (h0 : Heap) (n0 : Nat) (v : Option Value) (h : Heap) (L : List Loc) : Prop := v = some (.int 1) ∧ Fr n0 L ∧ h = h0
set_option maxRecDepth 65536 in
set_option maxHeartbeats 40000000 in
theorem rm5_b (l : Launch) (Z : State) (a0 : Array Value) (hw : ∀ d ∈ tables_1, d.before a0 Z = true) (ws : List Jvm.Cond) (r0 : Addr) (r1 : Addr) (p2 : Int32) (p3 : Int32) (q4 : Int64) (k0 k1 : ClassId) (z0 z1 : Int32) (vs0 vs1 : List Value) (h0 : Heap) (n0 : Nat) (Z0 : n0 ≤ h0.size) (hlt : p2 < p3) (hi : ¬ (p2 < (0 : Int32))) (V_r0 : Arv Z h0 r0 k0 .byte z0 vs0 (.int (0 : Int32))) (l0 : p2 < z0) (at0 : vs0.getD p2.toNatClampNeg (.int (0 : Int32)) = (.int (own_b q4 p2))) (V_r1 : Arv Z h0 r1 k1 .byte z1 vs1 (.int (0 : Int32))) (l1 : p2 < z1) (at1 : vs1.getD p2.toNatClampNeg (.int (0 : Int32)) = (.int (own_b q4 p2))) :
    MetFree l (⟨"com/example/usrset/usrset/store/KeyPastTuplesOfPinLaw", "same", "([B[BIIJ)Z"⟩ : MethodName) (head1 (Jvm.Cond.code (⟨"com/example/usrset/usrset/store/KeyPastTuplesOfPinLaw", "same", "([B[BIIJ)Z"⟩ : MethodName) method_4_code 6 (some .boolean) :: ws) ({ frames := 1, cells := 0, slots := 0, locals := 15 } : Room)) (fun a U => a = #[(.ref r0), (.ref r1), (.int p2), (.int p3), (.long q4)] ∧ Z.Warmed39 U.vm ∧ U.heap = h0) (fun _ _ _ _ _ => True) (fun _ U o U' => ∃ v L, o = .returned v ∧ Q5_b Z r0 r1 p2 p3 q4 k0 k1 z0 z1 vs0 vs1 h0 n0 v U'.heap L ∧ FrameEnd U o U' L ({ frames := 1, cells := 0, slots := 0, locals := 15 } : Room).cells ({ frames := 1, cells := 0, slots := 0, locals := 15 } : Room).slots) := by
  refine MetFree.of_bodySF (plainFor_of_name pn_com_example_usrset_usrset_store_KeyPastTuplesOfPinLaw) hisR ?_
  intro p e s m args below meth c s₁ Bd hml0 hP hK
  obtain ⟨rfl, hZ, hh⟩ := hP
  have hx := Bd.exec
  have hby := Bd.bytes
  have hml : c.maxLocals = 6 := hml0
  have hown : s.vm.findClass "com/example/usrset/usrset/store/KeyPastTuplesOfPinLaw" = some m.cls := findClass_of_methodNamed Bd.named
  have hnm := (name_of_methodNamed Bd.named Bd.method).1
  have X0 : Stand p l e ({ frames := 1, cells := 0, slots := 0, locals := 15 } : Room) s m #[(.ref r0), (.ref r1), (.int p2), (.int p3), (.long q4)] below meth c s₁ [] 0 0 := Stand.of_body Bd
  have e0 : s₁.heap = h0 := by rw [← hh, Bd.state]; rfl
  have N0 := Fr.nil n0
  have pre0 : ∀ t, Steps p.tables e below (s₁.setTop (mkF m 0 #[.val (.ref r0), .val (.ref r1), .val (.int p2), .val (.int p3), .val (.long q4), .second] [])) t → Steps p.tables e below (s₁.setTop (entryFrame m #[(.ref r0), (.ref r1), (.int p2), (.int p3), (.long q4)] 6)) t := fun t k => castTop (ef_5_b m r0 r1 p2 p3 q4) k
  obtain ⟨cl_7_1, Ar_7_1, -, S_7_1, M_7_1, H_7_1, -⟩ := id V_r0
  have hin7_1 : ¬ (p2 < 0 ∨ cl_7_1.slots.size ≤ (p2).toNatClampNeg) := inb_of S_7_1 ⟨hi, l0⟩
  have hat7_1 : cl_7_1.slots[(p2).toNatClampNeg]? = some (.int (own_b q4 p2)) := H_7_1.at hin7_1 at0
  obtain ⟨_, _, ⟨T2, L2, k2, n2⟩, -, X2, ⟨Lc2, hQ2, l2, y2, z2⟩, st2⟩ := Jvm.LawKit.callS X0 hx (y := (⟨"com/example/usrset/usrset/store/KeyPastTuplesOfPinLaw", "b", "(JI)B"⟩ : MethodName)) hown (mvT hZ (hw _ (List.mem_of_getElem? (i := 25) rfl))) (mvT hZ (hw _ (List.mem_of_getElem? (i := 26) rfl))) (mvT hZ (hw _ (List.mem_of_getElem? (i := 3) rfl))) (mvT hZ (hw _ (List.mem_of_getElem? (i := 27) rfl))) (by decide) (backOf (W := 1) (rm6 l Z a0 hw [] q4 p2 h0 n0 Z0) hZ (hw _ (List.mem_of_getElem? (i := 27) rfl)) (hw _ (List.mem_of_getElem? (i := 3) rfl)) (by decide) (by decide)) (g := (mkF m 11 #[.val (.ref r0), .val (.ref r1), .val (.int p2), .val (.int p3), .val (.long q4), .second] [(.int p2), (.long q4), (.int (own_b q4 p2))])) rfl (by rw [hml]; rfl) (argsL := [(.long q4), (.int p2)]) (rest := [(.int (own_b q4 p2))]) (lenOf pd_28JI29B rfl) rfl (by show 2 * 0 + _ ≤ _; exact Nat.le_of_eq rfl) (hb hby d5_11) (fun _ _ => ⟨rfl, e0, (by decide : 0 + 0 ≤ _), (by decide : 0 + 0 ≤ _)⟩)
  dsimp only [Pt.U, Pt.locs, Pt.cells, Pt.slots] at X2 l2 y2 z2 st2 hQ2
  subst l2 y2 z2
  obtain ⟨rfl, N2q, e2⟩ := hQ2
  have N2 := Fr.app N0 N2q
  obtain ⟨cl_19_3, Ar_19_3, -, S_19_3, M_19_3, H_19_3, -⟩ := id V_r1
  have hin19_3 : ¬ (p2 < 0 ∨ cl_19_3.slots.size ≤ (p2).toNatClampNeg) := inb_of S_19_3 ⟨hi, l1⟩
  have hat19_3 : cl_19_3.slots[(p2).toNatClampNeg]? = some (.int (own_b q4 p2)) := H_19_3.at hin19_3 at1
  obtain ⟨_, _, ⟨T4, L4, k4, n4⟩, -, X4, ⟨Lc4, hQ4, l4, y4, z4⟩, st4⟩ := Jvm.LawKit.callS X2 hx (y := (⟨"com/example/usrset/usrset/store/KeyPastTuplesOfPinLaw", "b", "(JI)B"⟩ : MethodName)) hown (mvT hZ (hw _ (List.mem_of_getElem? (i := 25) rfl))) (mvT hZ (hw _ (List.mem_of_getElem? (i := 26) rfl))) (mvT hZ (hw _ (List.mem_of_getElem? (i := 3) rfl))) (mvT hZ (hw _ (List.mem_of_getElem? (i := 27) rfl))) (by decide) (backOf (W := 1) (rm6 l Z a0 hw [] q4 p2 h0 n0 Z0) hZ (hw _ (List.mem_of_getElem? (i := 27) rfl)) (hw _ (List.mem_of_getElem? (i := 3) rfl)) (by decide) (by decide)) (g := (mkF m 23 #[.val (.ref r0), .val (.ref r1), .val (.int p2), .val (.int p3), .val (.long q4), .second] [(.int p2), (.long q4), (.int (own_b q4 p2))])) rfl (by rw [hml]; rfl) (argsL := [(.long q4), (.int p2)]) (rest := [(.int (own_b q4 p2))]) (lenOf pd_28JI29B rfl) rfl (by show 2 * 0 + _ ≤ _; exact Nat.le_of_eq rfl) (hb hby d5_23) (fun _ _ => ⟨rfl, e2, (by decide : 0 + 0 ≤ _), (by decide : 0 + 0 ≤ _)⟩)
  dsimp only [Pt.U, Pt.locs, Pt.cells, Pt.slots] at X4 l4 y4 z4 st4 hQ4
  subst l4 y4 z4
  obtain ⟨rfl, N4q, e4⟩ := hQ4
  have N4 := Fr.app N2 N4q
  obtain ⟨fs, hr, hrun, hended, hW, hsame⟩ := X4.leave (v := some (.int (1 : Int32))) (fun h => by rw [Bd.returns] at h; cases h)
  refine ⟨_, _, pre0 _ ?_, hrun, hended, _, _, rfl, ?_, ⟨_, rfl⟩, hW, hsame.mono (by decide) (by decide)⟩
  · show Steps p.tables e below (s₁.setTop (mkF m 0 #[.val (.ref r0), .val (.ref r1), .val (.int p2), .val (.int p3), .val (.long q4), .second] [])) _
    refine XS.iloadN X0.here hx rfl (hb hby d5_0) rfl ?_
    show Steps p.tables e below (s₁.setTop (mkF m 1 #[.val (.ref r0), .val (.ref r1), .val (.int p2), .val (.int p3), .val (.long q4), .second] [(.int p2)])) _
    refine XS.iloadN X0.here hx rfl (hb hby d5_1) rfl ?_
    show Steps p.tables e below (s₁.setTop (mkF m 2 #[.val (.ref r0), .val (.ref r1), .val (.int p2), .val (.int p3), .val (.long q4), .second] [(.int p3), (.int p2)])) _
    refine XS.icmpNo X0.here hx rfl (hb hby d5_2) rfl (tlt hlt).2.1 ?_
    show Steps p.tables e below (s₁.setTop (mkF m 5 #[.val (.ref r0), .val (.ref r1), .val (.int p2), .val (.int p3), .val (.long q4), .second] [])) _
    refine XS.aloadN X0.here hx rfl (hb hby d5_5) rfl rfl ?_
    show Steps p.tables e below (s₁.setTop (mkF m 6 #[.val (.ref r0), .val (.ref r1), .val (.int p2), .val (.int p3), .val (.long q4), .second] [(.ref r0)])) _
    refine XS.iloadN X0.here hx rfl (hb hby d5_6) rfl ?_
    show Steps p.tables e below (s₁.setTop (mkF m 7 #[.val (.ref r0), .val (.ref r1), .val (.int p2), .val (.int p3), .val (.long q4), .second] [(.int p2), (.ref r0)])) _
    refine X0.baloadBytes hx (j := p2) (v := (.int (own_b q4 p2))) (by rw [e0]; exact Ar_7_1.1) (State.isArrayOf_alike hZ.alike Ar_7_1.2.1) Ar_7_1.2.2 hin7_1 hat7_1 (g := (mkF m 7 #[.val (.ref r0), .val (.ref r1), .val (.int p2), .val (.int p3), .val (.long q4), .second] [(.int p2), (.ref r0)])) rfl rfl (hb hby d5_7) _ ?_
    show Steps p.tables e below (s₁.setTop (mkF m 8 #[.val (.ref r0), .val (.ref r1), .val (.int p2), .val (.int p3), .val (.long q4), .second] [(.int (own_b q4 p2))])) _
    refine XS.lload X0.here hx rfl (hb hby d5_8) rfl ?_
    show Steps p.tables e below (s₁.setTop (mkF m 10 #[.val (.ref r0), .val (.ref r1), .val (.int p2), .val (.int p3), .val (.long q4), .second] [(.long q4), (.int (own_b q4 p2))])) _
    refine XS.iloadN X0.here hx rfl (hb hby d5_10) rfl ?_
    show Steps p.tables e below (s₁.setTop (mkF m 11 #[.val (.ref r0), .val (.ref r1), .val (.int p2), .val (.int p3), .val (.long q4), .second] [(.int p2), (.long q4), (.int (own_b q4 p2))])) _
    refine st2 _ ?_
    show Steps p.tables e below (T2.setTop (mkF m 14 #[.val (.ref r0), .val (.ref r1), .val (.int p2), .val (.int p3), .val (.long q4), .second] [(.int (own_b q4 p2)), (.int (own_b q4 p2))])) _
    refine XS.icmpNo X2.here hx rfl (hb hby d5_14) rfl (teq (rfl : (own_b q4 p2) = (own_b q4 p2))).2 ?_
    show Steps p.tables e below (T2.setTop (mkF m 17 #[.val (.ref r0), .val (.ref r1), .val (.int p2), .val (.int p3), .val (.long q4), .second] [])) _
    refine XS.aloadN X2.here hx rfl (hb hby d5_17) rfl rfl ?_
    show Steps p.tables e below (T2.setTop (mkF m 18 #[.val (.ref r0), .val (.ref r1), .val (.int p2), .val (.int p3), .val (.long q4), .second] [(.ref r1)])) _
    refine XS.iloadN X2.here hx rfl (hb hby d5_18) rfl ?_
    show Steps p.tables e below (T2.setTop (mkF m 19 #[.val (.ref r0), .val (.ref r1), .val (.int p2), .val (.int p3), .val (.long q4), .second] [(.int p2), (.ref r1)])) _
    refine X2.baloadBytes hx (j := p2) (v := (.int (own_b q4 p2))) (by rw [e2]; exact Ar_19_3.1) (State.isArrayOf_alike hZ.alike Ar_19_3.2.1) Ar_19_3.2.2 hin19_3 hat19_3 (g := (mkF m 19 #[.val (.ref r0), .val (.ref r1), .val (.int p2), .val (.int p3), .val (.long q4), .second] [(.int p2), (.ref r1)])) rfl rfl (hb hby d5_19) _ ?_
    show Steps p.tables e below (T2.setTop (mkF m 20 #[.val (.ref r0), .val (.ref r1), .val (.int p2), .val (.int p3), .val (.long q4), .second] [(.int (own_b q4 p2))])) _
    refine XS.lload X2.here hx rfl (hb hby d5_20) rfl ?_
    show Steps p.tables e below (T2.setTop (mkF m 22 #[.val (.ref r0), .val (.ref r1), .val (.int p2), .val (.int p3), .val (.long q4), .second] [(.long q4), (.int (own_b q4 p2))])) _
    refine XS.iloadN X2.here hx rfl (hb hby d5_22) rfl ?_
    show Steps p.tables e below (T2.setTop (mkF m 23 #[.val (.ref r0), .val (.ref r1), .val (.int p2), .val (.int p3), .val (.long q4), .second] [(.int p2), (.long q4), (.int (own_b q4 p2))])) _
    refine st4 _ ?_
    show Steps p.tables e below (T4.setTop (mkF m 26 #[.val (.ref r0), .val (.ref r1), .val (.int p2), .val (.int p3), .val (.long q4), .second] [(.int (own_b q4 p2)), (.int (own_b q4 p2))])) _
    refine XS.icmpNo X4.here hx rfl (hb hby d5_26) rfl (teq (rfl : (own_b q4 p2) = (own_b q4 p2))).2 ?_
    show Steps p.tables e below (T4.setTop (mkF m 29 #[.val (.ref r0), .val (.ref r1), .val (.int p2), .val (.int p3), .val (.long q4), .second] [])) _
    refine XS.iconst X4.here hx rfl (hb hby d5_29) ?_
    show Steps p.tables e below (T4.setTop (mkF m 30 #[.val (.ref r0), .val (.ref r1), .val (.int p2), .val (.int p3), .val (.long q4), .second] [(.int (1 : Int32))])) _
    refine XS.goto X4.here hx rfl (pc0 := 30) (pc' := 34) rfl (hb hby d5_30) (by decide) (by decide) ?_
    show Steps p.tables e below (T4.setTop (mkF m 34 #[.val (.ref r0), .val (.ref r1), .val (.int p2), .val (.int p3), .val (.long q4), .second] [(.int (1 : Int32))])) _
    exact retN X4 hx (t := .boolean) Bd.returns (by simp) (hb hby d5_34) hr
  · show Q5_b Z r0 r1 p2 p3 q4 k0 k1 z0 z1 vs0 vs1 h0 n0 _ T4.heap _
    rw [e4]
    exact ⟨rfl, N4, rfl⟩
set_option maxRecDepth 65536 in
set_option maxHeartbeats 40000000 in
theorem pc_8_0 {p : Program} {l : Launch} {e : Env} {R : Room} {s : State} {m : MethodId} {args : Array Value} {below : List Frame} {meth : Method} {c : Code} {T0 : State} {locs : List Loc} {cells slots : Nat} {Z : State} {a0 : Array Value} (p0 : Int32) (q1 : Int64)
    (X0 : Stand p l e R s m args below meth c T0 locs cells slots) (hx : p.tables.exec = Jvm.exec) (hZ : Z.Warmed39 s.vm) (hw : ∀ d ∈ tables_1, d.before a0 Z = true) (hby : c.code = code) (hown : s.vm.findClass "com/example/usrset/usrset/store/KeyPastTuplesOfPinLaw" = some m.cls) (hk : own_n p0 = (0 : Int32)) :
    ∀ target, Steps p.tables e below (T0.setTop (mkF m 8 #[.val (.int p0), .val (.long q1), .second, .val (.int (0 : Int32)), .unset, .unset, .unset] [])) target → Steps p.tables e below (T0.setTop (mkF m 0 #[.val (.int p0), .val (.long q1), .second, .unset, .unset, .unset, .unset] [])) target := by
  intro target kt
  show Steps p.tables e below (T0.setTop (mkF m 0 #[.val (.int p0), .val (.long q1), .second, .unset, .unset, .unset, .unset] [])) _
  refine XS.iloadN X0.here hx rfl (hb hby at_0) rfl ?_
  show Steps p.tables e below (T0.setTop (mkF m 1 #[.val (.int p0), .val (.long q1), .second, .unset, .unset, .unset, .unset] [(.int p0)])) _
  refine X0.ldcInt hx hown (mvT hZ (hw _ (List.mem_of_getElem? (i := 0) rfl))) (g := (mkF m 1 #[.val (.int p0), .val (.long q1), .second, .unset, .unset, .unset, .unset] [(.int p0)])) rfl (hb hby at_1) _ ?_
  show Steps p.tables e below (T0.setTop (mkF m 3 #[.val (.int p0), .val (.long q1), .second, .unset, .unset, .unset, .unset] [(.int (2147483647 : Int32)), (.int p0)])) _
  refine XS.iand X0.here hx rfl (hb hby at_3) rfl ?_
  show Steps p.tables e below (T0.setTop (mkF m 4 #[.val (.int p0), .val (.long q1), .second, .unset, .unset, .unset, .unset] [(.int (p0 &&& (2147483647 : Int32)))])) _
  refine XS.bipush X0.here hx rfl (hb hby at_4) ?_
  show Steps p.tables e below (T0.setTop (mkF m 6 #[.val (.int p0), .val (.long q1), .second, .unset, .unset, .unset, .unset] [(.int (6 : Int32)), (.int (p0 &&& (2147483647 : Int32)))])) _
  refine XS.irem X0.here hx rfl (hb hby at_6) rfl (by decide) ?_
  show Steps p.tables e below (T0.setTop (mkF m 7 #[.val (.int p0), .val (.long q1), .second, .unset, .unset, .unset, .unset] [(.int ((p0 &&& (2147483647 : Int32)) - ((p0 &&& (2147483647 : Int32)) / (6 : Int32)) * (6 : Int32)))])) _
  refine XS.istoreN X0.here hx rfl (hb hby at_7) rfl (l' := #[.val (.int p0), .val (.long q1), .second, .val (.int ((p0 &&& (2147483647 : Int32)) - ((p0 &&& (2147483647 : Int32)) / (6 : Int32)) * (6 : Int32))), .unset, .unset, .unset]) rfl ?_
  show Steps p.tables e below (T0.setTop (mkF m 8 #[.val (.int p0), .val (.long q1), .second, .val (.int ((p0 &&& (2147483647 : Int32)) - ((p0 &&& (2147483647 : Int32)) / (6 : Int32)) * (6 : Int32))), .unset, .unset, .unset] [])) _
  have et : ((p0 &&& (2147483647 : Int32)) - ((p0 &&& (2147483647 : Int32)) / (6 : Int32)) * (6 : Int32)) = (0 : Int32) := hk
  rw [et]
  exact kt
theorem ef_0_0 (m : MethodId) (x0 : Int32) (x1 : Int64) : entryFrame m #[(.int x0), (.long x1)] maxLocals = mkF m 0 #[.val (.int x0), .val (.long x1), .second, .unset, .unset, .unset, .unset] [] := by first | (simp [entryFrame, mkF, argsToLocals, Value.category, maxLocals]; done) | rfl
theorem pd_28IJ295bB : parseMethodDescriptor "(IJ)[B" = some ⟨[.int, .long], some (.array .byte)⟩ := by decide +kernel
theorem pd_285bB295bB : parseMethodDescriptor "([B)[B" = some ⟨[(.array .byte)], some (.array .byte)⟩ := by decide +kernel
theorem pd_285bB5bBIIJ29Z : parseMethodDescriptor "([B[BIIJ)Z" = some ⟨[(.array .byte), (.array .byte), .int, .int, .long], some .boolean⟩ := by decide +kernel
def Q0_0 (Z : State) (p0 : Int32) (q1 : Int64) (h0 : Heap) (n0 : Nat) (v : Option Value) (h : Heap) (L : List Loc) : Prop := v = some (.int 1) ∧ Fr n0 L
set_option maxRecDepth 65536 in
set_option maxHeartbeats 40000000 in
theorem rm0_0 (l : Launch) (Z : State) (a0 : Array Value) (hw : ∀ d ∈ tables_1, d.before a0 Z = true) (ws : List Jvm.Cond) (p0 : Int32) (q1 : Int64) (h0 : Heap) (n0 : Nat) (Z0 : n0 ≤ h0.size) (hk : own_n p0 = (0 : Int32)) :
    MetFree l x (head1 (Jvm.Cond.code x code maxLocals ret :: ws) room_1) (fun a U => a = #[(.int p0), (.long q1)] ∧ Z.Warmed39 U.vm ∧ U.heap = h0) (fun _ _ _ _ _ => True) (fun _ U o U' => ∃ v L, o = .returned v ∧ Q0_0 Z p0 q1 h0 n0 v U'.heap L ∧ FrameEnd U o U' L room_1.cells room_1.slots) := by
  refine MetFree.of_bodySF (plainFor_of_name pn_com_example_usrset_usrset_store_KeyPastTuplesOfPinLaw) hisR ?_
  intro p e s m args below meth c s₁ Bd hml0 hP hK
  obtain ⟨rfl, hZ, hh⟩ := hP
  have hx := Bd.exec
  have hby := Bd.bytes
  have hml : c.maxLocals = 7 := hml0
  have hown : s.vm.findClass "com/example/usrset/usrset/store/KeyPastTuplesOfPinLaw" = some m.cls := findClass_of_methodNamed Bd.named
  have hnm := (name_of_methodNamed Bd.named Bd.method).1
  have X0 : Stand p l e room_1 s m #[(.int p0), (.long q1)] below meth c s₁ [] 0 0 := Stand.of_body Bd
  have e0 : s₁.heap = h0 := by rw [← hh, Bd.state]; rfl
  have N0 := Fr.nil n0
  have pre0 : ∀ t, Steps p.tables e below (s₁.setTop (mkF m 0 #[.val (.int p0), .val (.long q1), .second, .unset, .unset, .unset, .unset] [])) t → Steps p.tables e below (s₁.setTop (entryFrame m #[(.int p0), (.long q1)] maxLocals)) t := fun t k => castTop (ef_0_0 m p0 q1) k
  have sp0 := pc_8_0 p0 q1 X0 hx hZ hw hby hown hk
  obtain ⟨_, _, ⟨T1, L1, k1, n1⟩, -, X1, ⟨Lc1, hQ1, l1, y1, z1⟩, st1⟩ := Jvm.LawKit.callS X0 hx (y := (⟨"com/example/usrset/usrset/store/KeyPastTuplesOfPinLaw", "make", "(IJ)[B"⟩ : MethodName)) hown (mvT hZ (hw _ (List.mem_of_getElem? (i := 1) rfl))) (mvT hZ (hw _ (List.mem_of_getElem? (i := 2) rfl))) (mvT hZ (hw _ (List.mem_of_getElem? (i := 3) rfl))) (mvT hZ (hw _ (List.mem_of_getElem? (i := 4) rfl))) (by decide) (backOf (W := 0) (rm1_0 l Z a0 hw [] q1 h0 n0 Z0) hZ (hw _ (List.mem_of_getElem? (i := 4) rfl)) (hw _ (List.mem_of_getElem? (i := 3) rfl)) (by decide) (by decide)) (g := (mkF m 10 #[.val (.int p0), .val (.long q1), .second, .val (.int (0 : Int32)), .unset, .unset, .unset] [(.long q1), (.int (0 : Int32))])) rfl (by rw [hml]; rfl) (argsL := [(.int (0 : Int32)), (.long q1)]) (rest := []) (lenOf pd_28IJ295bB rfl) rfl (by show 2 * 0 + _ ≤ _; exact Nat.le_of_eq rfl) (hb hby at_10) (fun _ _ => ⟨rfl, e0, (by decide : 0 + 1 ≤ _), (by decide : 0 + 0 ≤ _)⟩)
  dsimp only [Pt.U, Pt.locs, Pt.cells, Pt.slots] at X1 l1 y1 z1 st1 hQ1
  subst l1 y1 z1
  obtain ⟨b1, kb1, rfl, N1q, KK1, gb1, VB1⟩ := hQ1
  obtain ⟨h1, e1⟩ : ∃ z, T1.heap = z := ⟨_, rfl⟩
  rw [e1] at KK1 VB1
  have Z1 : n0 ≤ h1.size := Nat.le_trans Z0 KK1.1
  have g_b1 : n0 ≤ b1 := Nat.le_trans Z0 gb1
  have N1 := Fr.app N0 N1q
  obtain ⟨_, _, ⟨T2, L2, k2, n2⟩, -, X2, ⟨Lc2, hQ2, l2, y2, z2⟩, st2⟩ := Jvm.LawKit.callS X1 hx (y := (⟨"com/example/usrset/usrset/store/Key", "pastTuplesOf", "([B)[B"⟩ : MethodName)) hown (mvT hZ (hw _ (List.mem_of_getElem? (i := 6) rfl))) (mvT hZ (hw _ (List.mem_of_getElem? (i := 7) rfl))) (mvT hZ (hw _ (List.mem_of_getElem? (i := 8) rfl))) (mvT hZ (hw _ (List.mem_of_getElem? (i := 9) rfl))) (by decide) (backOf (W := 0) (rm2_0 l Z a0 hw [] b1 kb1  h1 n0 Z1 VB1) hZ (hw _ (List.mem_of_getElem? (i := 9) rfl)) (hw _ (List.mem_of_getElem? (i := 8) rfl)) (by decide) (by decide)) (g := (mkF m 17 #[.val (.int p0), .val (.long q1), .second, .val (.int (0 : Int32)), .val (.ref b1), .unset, .unset] [(.ref b1)])) rfl (by rw [hml]; rfl) (argsL := [(.ref b1)]) (rest := []) (lenOf pd_285bB295bB rfl) rfl (by show 2 * 0 + _ ≤ _; exact Nat.le_of_eq rfl) (hb hby at_17) (fun _ _ => ⟨rfl, e1, (by decide : 1 + 1 ≤ _), (by decide : 0 + 1 ≤ _)⟩)
  dsimp only [Pt.U, Pt.locs, Pt.cells, Pt.slots] at X2 l2 y2 z2 st2 hQ2
  subst l2 y2 z2
  obtain ⟨b2, kb2, rfl, N2q, KK2, gb2, VB2⟩ := hQ2
  obtain ⟨h2, e2⟩ : ∃ z, T2.heap = z := ⟨_, rfl⟩
  rw [e2] at KK2 VB2
  have VB1_at2 : Arv Z h2 b1 kb1 .byte (0 : Int32) [] (.int (0 : Int32)) := VB1.keep KK2 nin0
  have Z2 : n0 ≤ h2.size := Nat.le_trans Z1 KK2.1
  have ne_b1_b2 : b1 ≠ b2 := Nat.ne_of_lt (Nat.lt_of_lt_of_le VB1.lt gb2)
  have g_b2 : n0 ≤ b2 := Nat.le_trans Z1 gb2
  have N2 := Fr.app N1 N2q
  obtain ⟨cl_29_3, Ar_29_3, -, S_29_3, M_29_3, -, -⟩ := id VB2
  obtain ⟨cl_38_4, Ar_38_4, -, S_38_4, M_38_4, -, -⟩ := id VB1_at2
  obtain ⟨cl_48_5, Ar_48_5, -, S_48_5, M_48_5, H_48_5, -⟩ := id VB2
  have hin48_5 : ¬ ((0 : Int32) < 0 ∨ cl_48_5.slots.size ≤ ((0 : Int32)).toNatClampNeg) := inb_of S_48_5 ⟨by decide, by decide⟩
  have hat48_5 : cl_48_5.slots[((0 : Int32)).toNatClampNeg]? = some (.int (-1 : Int32)) := H_48_5.at hin48_5 rfl
  obtain ⟨_, _, ⟨T6, L6, k6, n6⟩, -, X6, ⟨Lc6, hQ6, l6, y6, z6⟩, st6⟩ := Jvm.LawKit.callS X2 hx (y := (⟨"com/example/usrset/usrset/store/KeyPastTuplesOfPinLaw", "same", "([B[BIIJ)Z"⟩ : MethodName)) hown (mvT hZ (hw _ (List.mem_of_getElem? (i := 22) rfl))) (mvT hZ (hw _ (List.mem_of_getElem? (i := 23) rfl))) (mvT hZ (hw _ (List.mem_of_getElem? (i := 3) rfl))) (mvT hZ (hw _ (List.mem_of_getElem? (i := 24) rfl))) (by decide) (backOf (W := 0) (rm5_a l Z a0 hw [] b2 b1 (0 : Int32) (0 : Int32) q1 h2 n0 Z2 (by decide)) hZ (hw _ (List.mem_of_getElem? (i := 24) rfl)) (hw _ (List.mem_of_getElem? (i := 3) rfl)) (by decide) (by decide)) (g := (mkF m 72 #[.val (.int p0), .val (.long q1), .second, .val (.int (0 : Int32)), .val (.ref b1), .val (.ref b2), .val (.int (1 : Int32))] [(.long q1), (.int (0 : Int32)), (.int (0 : Int32)), (.ref b1), (.ref b2)])) rfl (by rw [hml]; rfl) (argsL := [(.ref b2), (.ref b1), (.int (0 : Int32)), (.int (0 : Int32)), (.long q1)]) (rest := []) (lenOf pd_285bB5bBIIJ29Z rfl) rfl (by show 2 * 0 + _ ≤ _; exact Nat.le_of_eq rfl) (hb hby at_72) (fun _ _ => ⟨rfl, e2, (by decide : 2 + 0 ≤ _), (by decide : 1 + 0 ≤ _)⟩)
  dsimp only [Pt.U, Pt.locs, Pt.cells, Pt.slots] at X6 l6 y6 z6 st6 hQ6
  subst l6 y6 z6
  obtain ⟨rfl, N6q, e6⟩ := hQ6
  have N6 := Fr.app N2 N6q
  obtain ⟨_, _, ⟨T7, L7, k7, n7⟩, -, X7, ⟨Lc7, hQ7, l7, y7, z7⟩, st7⟩ := Jvm.LawKit.callS X6 hx (y := (⟨"com/example/usrset/usrset/store/KeyPastTuplesOfPinLaw", "same", "([B[BIIJ)Z"⟩ : MethodName)) hown (mvT hZ (hw _ (List.mem_of_getElem? (i := 22) rfl))) (mvT hZ (hw _ (List.mem_of_getElem? (i := 23) rfl))) (mvT hZ (hw _ (List.mem_of_getElem? (i := 3) rfl))) (mvT hZ (hw _ (List.mem_of_getElem? (i := 24) rfl))) (by decide) (backOf (W := 0) (rm5_a l Z a0 hw [] b2 b1 (1 : Int32) (0 : Int32) q1 h2 n0 Z2 (by decide)) hZ (hw _ (List.mem_of_getElem? (i := 24) rfl)) (hw _ (List.mem_of_getElem? (i := 3) rfl)) (by decide) (by decide)) (g := (mkF m 97 #[.val (.int p0), .val (.long q1), .second, .val (.int (0 : Int32)), .val (.ref b1), .val (.ref b2), .val (.int (1 : Int32))] [(.long q1), (.int (0 : Int32)), (.int (1 : Int32)), (.ref b1), (.ref b2)])) rfl (by rw [hml]; rfl) (argsL := [(.ref b2), (.ref b1), (.int (1 : Int32)), (.int (0 : Int32)), (.long q1)]) (rest := []) (lenOf pd_285bB5bBIIJ29Z rfl) rfl (by show 2 * 0 + _ ≤ _; exact Nat.le_of_eq rfl) (hb hby at_97) (fun _ _ => ⟨rfl, e6, (by decide : 2 + 0 ≤ _), (by decide : 1 + 0 ≤ _)⟩)
  dsimp only [Pt.U, Pt.locs, Pt.cells, Pt.slots] at X7 l7 y7 z7 st7 hQ7
  subst l7 y7 z7
  obtain ⟨rfl, N7q, e7⟩ := hQ7
  have N7 := Fr.app N6 N7q
  obtain ⟨_, _, ⟨T8, L8, k8, n8⟩, -, X8, ⟨Lc8, hQ8, l8, y8, z8⟩, st8⟩ := Jvm.LawKit.callS X7 hx (y := (⟨"com/example/usrset/usrset/store/KeyPastTuplesOfPinLaw", "same", "([B[BIIJ)Z"⟩ : MethodName)) hown (mvT hZ (hw _ (List.mem_of_getElem? (i := 22) rfl))) (mvT hZ (hw _ (List.mem_of_getElem? (i := 23) rfl))) (mvT hZ (hw _ (List.mem_of_getElem? (i := 3) rfl))) (mvT hZ (hw _ (List.mem_of_getElem? (i := 24) rfl))) (by decide) (backOf (W := 0) (rm5_a l Z a0 hw [] b2 b1 (2 : Int32) (0 : Int32) q1 h2 n0 Z2 (by decide)) hZ (hw _ (List.mem_of_getElem? (i := 24) rfl)) (hw _ (List.mem_of_getElem? (i := 3) rfl)) (by decide) (by decide)) (g := (mkF m 122 #[.val (.int p0), .val (.long q1), .second, .val (.int (0 : Int32)), .val (.ref b1), .val (.ref b2), .val (.int (1 : Int32))] [(.long q1), (.int (0 : Int32)), (.int (2 : Int32)), (.ref b1), (.ref b2)])) rfl (by rw [hml]; rfl) (argsL := [(.ref b2), (.ref b1), (.int (2 : Int32)), (.int (0 : Int32)), (.long q1)]) (rest := []) (lenOf pd_285bB5bBIIJ29Z rfl) rfl (by show 2 * 0 + _ ≤ _; exact Nat.le_of_eq rfl) (hb hby at_122) (fun _ _ => ⟨rfl, e7, (by decide : 2 + 0 ≤ _), (by decide : 1 + 0 ≤ _)⟩)
  dsimp only [Pt.U, Pt.locs, Pt.cells, Pt.slots] at X8 l8 y8 z8 st8 hQ8
  subst l8 y8 z8
  obtain ⟨rfl, N8q, e8⟩ := hQ8
  have N8 := Fr.app N7 N8q
  obtain ⟨_, _, ⟨T9, L9, k9, n9⟩, -, X9, ⟨Lc9, hQ9, l9, y9, z9⟩, st9⟩ := Jvm.LawKit.callS X8 hx (y := (⟨"com/example/usrset/usrset/store/KeyPastTuplesOfPinLaw", "same", "([B[BIIJ)Z"⟩ : MethodName)) hown (mvT hZ (hw _ (List.mem_of_getElem? (i := 22) rfl))) (mvT hZ (hw _ (List.mem_of_getElem? (i := 23) rfl))) (mvT hZ (hw _ (List.mem_of_getElem? (i := 3) rfl))) (mvT hZ (hw _ (List.mem_of_getElem? (i := 24) rfl))) (by decide) (backOf (W := 0) (rm5_a l Z a0 hw [] b2 b1 (3 : Int32) (0 : Int32) q1 h2 n0 Z2 (by decide)) hZ (hw _ (List.mem_of_getElem? (i := 24) rfl)) (hw _ (List.mem_of_getElem? (i := 3) rfl)) (by decide) (by decide)) (g := (mkF m 147 #[.val (.int p0), .val (.long q1), .second, .val (.int (0 : Int32)), .val (.ref b1), .val (.ref b2), .val (.int (1 : Int32))] [(.long q1), (.int (0 : Int32)), (.int (3 : Int32)), (.ref b1), (.ref b2)])) rfl (by rw [hml]; rfl) (argsL := [(.ref b2), (.ref b1), (.int (3 : Int32)), (.int (0 : Int32)), (.long q1)]) (rest := []) (lenOf pd_285bB5bBIIJ29Z rfl) rfl (by show 2 * 0 + _ ≤ _; exact Nat.le_of_eq rfl) (hb hby at_147) (fun _ _ => ⟨rfl, e8, (by decide : 2 + 0 ≤ _), (by decide : 1 + 0 ≤ _)⟩)
  dsimp only [Pt.U, Pt.locs, Pt.cells, Pt.slots] at X9 l9 y9 z9 st9 hQ9
  subst l9 y9 z9
  obtain ⟨rfl, N9q, e9⟩ := hQ9
  have N9 := Fr.app N8 N9q
  obtain ⟨_, _, ⟨T10, L10, k10, n10⟩, -, X10, ⟨Lc10, hQ10, l10, y10, z10⟩, st10⟩ := Jvm.LawKit.callS X9 hx (y := (⟨"com/example/usrset/usrset/store/KeyPastTuplesOfPinLaw", "same", "([B[BIIJ)Z"⟩ : MethodName)) hown (mvT hZ (hw _ (List.mem_of_getElem? (i := 22) rfl))) (mvT hZ (hw _ (List.mem_of_getElem? (i := 23) rfl))) (mvT hZ (hw _ (List.mem_of_getElem? (i := 3) rfl))) (mvT hZ (hw _ (List.mem_of_getElem? (i := 24) rfl))) (by decide) (backOf (W := 0) (rm5_a l Z a0 hw [] b2 b1 (4 : Int32) (0 : Int32) q1 h2 n0 Z2 (by decide)) hZ (hw _ (List.mem_of_getElem? (i := 24) rfl)) (hw _ (List.mem_of_getElem? (i := 3) rfl)) (by decide) (by decide)) (g := (mkF m 172 #[.val (.int p0), .val (.long q1), .second, .val (.int (0 : Int32)), .val (.ref b1), .val (.ref b2), .val (.int (1 : Int32))] [(.long q1), (.int (0 : Int32)), (.int (4 : Int32)), (.ref b1), (.ref b2)])) rfl (by rw [hml]; rfl) (argsL := [(.ref b2), (.ref b1), (.int (4 : Int32)), (.int (0 : Int32)), (.long q1)]) (rest := []) (lenOf pd_285bB5bBIIJ29Z rfl) rfl (by show 2 * 0 + _ ≤ _; exact Nat.le_of_eq rfl) (hb hby at_172) (fun _ _ => ⟨rfl, e9, (by decide : 2 + 0 ≤ _), (by decide : 1 + 0 ≤ _)⟩)
  dsimp only [Pt.U, Pt.locs, Pt.cells, Pt.slots] at X10 l10 y10 z10 st10 hQ10
  subst l10 y10 z10
  obtain ⟨rfl, N10q, e10⟩ := hQ10
  have N10 := Fr.app N9 N10q
  obtain ⟨fs, hr, hrun, hended, hW, hsame⟩ := X10.leave (v := some (.int (1 : Int32))) (fun h => by rw [Bd.returns] at h; cases h)
  refine ⟨_, _, pre0 _ ?_, hrun, hended, _, _, rfl, ?_, ⟨_, rfl⟩, hW, hsame.mono (by decide) (by decide)⟩
  · show Steps p.tables e below (s₁.setTop (mkF m 0 #[.val (.int p0), .val (.long q1), .second, .unset, .unset, .unset, .unset] [])) _
    refine sp0 _ ?_
    show Steps p.tables e below (s₁.setTop (mkF m 8 #[.val (.int p0), .val (.long q1), .second, .val (.int (0 : Int32)), .unset, .unset, .unset] [])) _
    refine XS.iloadN X0.here hx rfl (hb hby at_8) rfl ?_
    show Steps p.tables e below (s₁.setTop (mkF m 9 #[.val (.int p0), .val (.long q1), .second, .val (.int (0 : Int32)), .unset, .unset, .unset] [(.int (0 : Int32))])) _
    refine XS.lloadN X0.here hx rfl (hb hby at_9) rfl ?_
    show Steps p.tables e below (s₁.setTop (mkF m 10 #[.val (.int p0), .val (.long q1), .second, .val (.int (0 : Int32)), .unset, .unset, .unset] [(.long q1), (.int (0 : Int32))])) _
    refine st1 _ ?_
    show Steps p.tables e below (T1.setTop (mkF m 13 #[.val (.int p0), .val (.long q1), .second, .val (.int (0 : Int32)), .unset, .unset, .unset] [(.ref b1)])) _
    refine XS.astore X1.here hx rfl (hb hby at_13) rfl rfl (l' := #[.val (.int p0), .val (.long q1), .second, .val (.int (0 : Int32)), .val (.ref b1), .unset, .unset]) rfl ?_
    show Steps p.tables e below (T1.setTop (mkF m 15 #[.val (.int p0), .val (.long q1), .second, .val (.int (0 : Int32)), .val (.ref b1), .unset, .unset] [])) _
    refine XS.aload X1.here hx rfl (hb hby at_15) rfl rfl ?_
    show Steps p.tables e below (T1.setTop (mkF m 17 #[.val (.int p0), .val (.long q1), .second, .val (.int (0 : Int32)), .val (.ref b1), .unset, .unset] [(.ref b1)])) _
    refine st2 _ ?_
    show Steps p.tables e below (T2.setTop (mkF m 20 #[.val (.int p0), .val (.long q1), .second, .val (.int (0 : Int32)), .val (.ref b1), .unset, .unset] [(.ref b2)])) _
    refine XS.astore X2.here hx rfl (hb hby at_20) rfl rfl (l' := #[.val (.int p0), .val (.long q1), .second, .val (.int (0 : Int32)), .val (.ref b1), .val (.ref b2), .unset]) rfl ?_
    show Steps p.tables e below (T2.setTop (mkF m 22 #[.val (.int p0), .val (.long q1), .second, .val (.int (0 : Int32)), .val (.ref b1), .val (.ref b2), .unset] [])) _
    refine XS.aload X2.here hx rfl (hb hby at_22) rfl rfl ?_
    show Steps p.tables e below (T2.setTop (mkF m 24 #[.val (.int p0), .val (.long q1), .second, .val (.int (0 : Int32)), .val (.ref b1), .val (.ref b2), .unset] [(.ref b2)])) _
    refine XS.ifnullNo X2.here hx rfl (hb hby at_24) rfl ?_
    show Steps p.tables e below (T2.setTop (mkF m 27 #[.val (.int p0), .val (.long q1), .second, .val (.int (0 : Int32)), .val (.ref b1), .val (.ref b2), .unset] [])) _
    refine XS.aload X2.here hx rfl (hb hby at_27) rfl rfl ?_
    show Steps p.tables e below (T2.setTop (mkF m 29 #[.val (.int p0), .val (.long q1), .second, .val (.int (0 : Int32)), .val (.ref b1), .val (.ref b2), .unset] [(.ref b2)])) _
    refine X2.arraylength hx (by rw [e2]; exact Ar_29_3.1) (State.isArrayOf_alike hZ.alike Ar_29_3.2.1) (g := (mkF m 29 #[.val (.int p0), .val (.long q1), .second, .val (.int (0 : Int32)), .val (.ref b1), .val (.ref b2), .unset] [(.ref b2)])) rfl rfl (hb hby at_29) _ ?_
    rw [len_of S_29_3 M_29_3]
    show Steps p.tables e below (T2.setTop (mkF m 30 #[.val (.int p0), .val (.long q1), .second, .val (.int (0 : Int32)), .val (.ref b1), .val (.ref b2), .unset] [(.int (1 : Int32))])) _
    refine XS.iloadN X2.here hx rfl (hb hby at_30) rfl ?_
    show Steps p.tables e below (T2.setTop (mkF m 31 #[.val (.int p0), .val (.long q1), .second, .val (.int (0 : Int32)), .val (.ref b1), .val (.ref b2), .unset] [(.int (0 : Int32)), (.int (1 : Int32))])) _
    refine XS.iconst X2.here hx rfl (hb hby at_31) ?_
    show Steps p.tables e below (T2.setTop (mkF m 32 #[.val (.int p0), .val (.long q1), .second, .val (.int (0 : Int32)), .val (.ref b1), .val (.ref b2), .unset] [(.int (1 : Int32)), (.int (0 : Int32)), (.int (1 : Int32))])) _
    refine XS.iadd X2.here hx rfl (hb hby at_32) rfl ?_
    show Steps p.tables e below (T2.setTop (mkF m 33 #[.val (.int p0), .val (.long q1), .second, .val (.int (0 : Int32)), .val (.ref b1), .val (.ref b2), .unset] [(.int (1 : Int32)), (.int (1 : Int32))])) _
    refine XS.icmpNo X2.here hx rfl (hb hby at_33) rfl (teq (by decide : (1 : Int32) = (1 : Int32))).2 ?_
    show Steps p.tables e below (T2.setTop (mkF m 36 #[.val (.int p0), .val (.long q1), .second, .val (.int (0 : Int32)), .val (.ref b1), .val (.ref b2), .unset] [])) _
    refine XS.aload X2.here hx rfl (hb hby at_36) rfl rfl ?_
    show Steps p.tables e below (T2.setTop (mkF m 38 #[.val (.int p0), .val (.long q1), .second, .val (.int (0 : Int32)), .val (.ref b1), .val (.ref b2), .unset] [(.ref b1)])) _
    refine X2.arraylength hx (by rw [e2]; exact Ar_38_4.1) (State.isArrayOf_alike hZ.alike Ar_38_4.2.1) (g := (mkF m 38 #[.val (.int p0), .val (.long q1), .second, .val (.int (0 : Int32)), .val (.ref b1), .val (.ref b2), .unset] [(.ref b1)])) rfl rfl (hb hby at_38) _ ?_
    rw [len_of S_38_4 M_38_4]
    show Steps p.tables e below (T2.setTop (mkF m 39 #[.val (.int p0), .val (.long q1), .second, .val (.int (0 : Int32)), .val (.ref b1), .val (.ref b2), .unset] [(.int (0 : Int32))])) _
    refine XS.iloadN X2.here hx rfl (hb hby at_39) rfl ?_
    show Steps p.tables e below (T2.setTop (mkF m 40 #[.val (.int p0), .val (.long q1), .second, .val (.int (0 : Int32)), .val (.ref b1), .val (.ref b2), .unset] [(.int (0 : Int32)), (.int (0 : Int32))])) _
    refine XS.icmpYes X2.here hx rfl (pc0 := 40) (pc' := 45) rfl (hb hby at_40) rfl (teq (by decide : (0 : Int32) = (0 : Int32))).1 (by decide) (by decide) ?_
    show Steps p.tables e below (T2.setTop (mkF m 45 #[.val (.int p0), .val (.long q1), .second, .val (.int (0 : Int32)), .val (.ref b1), .val (.ref b2), .unset] [])) _
    refine XS.aload X2.here hx rfl (hb hby at_45) rfl rfl ?_
    show Steps p.tables e below (T2.setTop (mkF m 47 #[.val (.int p0), .val (.long q1), .second, .val (.int (0 : Int32)), .val (.ref b1), .val (.ref b2), .unset] [(.ref b2)])) _
    refine XS.iloadN X2.here hx rfl (hb hby at_47) rfl ?_
    show Steps p.tables e below (T2.setTop (mkF m 48 #[.val (.int p0), .val (.long q1), .second, .val (.int (0 : Int32)), .val (.ref b1), .val (.ref b2), .unset] [(.int (0 : Int32)), (.ref b2)])) _
    refine X2.baloadBytes hx (j := (0 : Int32)) (v := (.int (-1 : Int32))) (by rw [e2]; exact Ar_48_5.1) (State.isArrayOf_alike hZ.alike Ar_48_5.2.1) Ar_48_5.2.2 hin48_5 hat48_5 (g := (mkF m 48 #[.val (.int p0), .val (.long q1), .second, .val (.int (0 : Int32)), .val (.ref b1), .val (.ref b2), .unset] [(.int (0 : Int32)), (.ref b2)])) rfl rfl (hb hby at_48) _ ?_
    show Steps p.tables e below (T2.setTop (mkF m 49 #[.val (.int p0), .val (.long q1), .second, .val (.int (0 : Int32)), .val (.ref b1), .val (.ref b2), .unset] [(.int (-1 : Int32))])) _
    refine XS.iconst X2.here hx rfl (hb hby at_49) ?_
    show Steps p.tables e below (T2.setTop (mkF m 50 #[.val (.int p0), .val (.long q1), .second, .val (.int (0 : Int32)), .val (.ref b1), .val (.ref b2), .unset] [(.int (-1 : Int32)), (.int (-1 : Int32))])) _
    refine XS.icmpNo X2.here hx rfl (hb hby at_50) rfl (teq (by decide : (-1 : Int32) = (-1 : Int32))).2 ?_
    show Steps p.tables e below (T2.setTop (mkF m 53 #[.val (.int p0), .val (.long q1), .second, .val (.int (0 : Int32)), .val (.ref b1), .val (.ref b2), .unset] [])) _
    refine XS.iconst X2.here hx rfl (hb hby at_53) ?_
    show Steps p.tables e below (T2.setTop (mkF m 54 #[.val (.int p0), .val (.long q1), .second, .val (.int (0 : Int32)), .val (.ref b1), .val (.ref b2), .unset] [(.int (1 : Int32))])) _
    refine XS.goto X2.here hx rfl (pc0 := 54) (pc' := 58) rfl (hb hby at_54) (by decide) (by decide) ?_
    show Steps p.tables e below (T2.setTop (mkF m 58 #[.val (.int p0), .val (.long q1), .second, .val (.int (0 : Int32)), .val (.ref b1), .val (.ref b2), .unset] [(.int (1 : Int32))])) _
    refine XS.istore X2.here hx rfl (hb hby at_58) rfl (l' := #[.val (.int p0), .val (.long q1), .second, .val (.int (0 : Int32)), .val (.ref b1), .val (.ref b2), .val (.int (1 : Int32))]) rfl ?_
    show Steps p.tables e below (T2.setTop (mkF m 60 #[.val (.int p0), .val (.long q1), .second, .val (.int (0 : Int32)), .val (.ref b1), .val (.ref b2), .val (.int (1 : Int32))] [])) _
    refine XS.iload X2.here hx rfl (hb hby at_60) rfl ?_
    show Steps p.tables e below (T2.setTop (mkF m 62 #[.val (.int p0), .val (.long q1), .second, .val (.int (0 : Int32)), .val (.ref b1), .val (.ref b2), .val (.int (1 : Int32))] [(.int (1 : Int32))])) _
    refine XS.ifNo X2.here hx rfl (hb hby at_62) rfl ((if0 _ _).trans (feq (by decide : ¬ ((1 : Int32) = (0 : Int32)))).1) ?_
    show Steps p.tables e below (T2.setTop (mkF m 65 #[.val (.int p0), .val (.long q1), .second, .val (.int (0 : Int32)), .val (.ref b1), .val (.ref b2), .val (.int (1 : Int32))] [])) _
    refine XS.aload X2.here hx rfl (hb hby at_65) rfl rfl ?_
    show Steps p.tables e below (T2.setTop (mkF m 67 #[.val (.int p0), .val (.long q1), .second, .val (.int (0 : Int32)), .val (.ref b1), .val (.ref b2), .val (.int (1 : Int32))] [(.ref b2)])) _
    refine XS.aload X2.here hx rfl (hb hby at_67) rfl rfl ?_
    show Steps p.tables e below (T2.setTop (mkF m 69 #[.val (.int p0), .val (.long q1), .second, .val (.int (0 : Int32)), .val (.ref b1), .val (.ref b2), .val (.int (1 : Int32))] [(.ref b1), (.ref b2)])) _
    refine XS.iconst X2.here hx rfl (hb hby at_69) ?_
    show Steps p.tables e below (T2.setTop (mkF m 70 #[.val (.int p0), .val (.long q1), .second, .val (.int (0 : Int32)), .val (.ref b1), .val (.ref b2), .val (.int (1 : Int32))] [(.int (0 : Int32)), (.ref b1), (.ref b2)])) _
    refine XS.iloadN X2.here hx rfl (hb hby at_70) rfl ?_
    show Steps p.tables e below (T2.setTop (mkF m 71 #[.val (.int p0), .val (.long q1), .second, .val (.int (0 : Int32)), .val (.ref b1), .val (.ref b2), .val (.int (1 : Int32))] [(.int (0 : Int32)), (.int (0 : Int32)), (.ref b1), (.ref b2)])) _
    refine XS.lloadN X2.here hx rfl (hb hby at_71) rfl ?_
    show Steps p.tables e below (T2.setTop (mkF m 72 #[.val (.int p0), .val (.long q1), .second, .val (.int (0 : Int32)), .val (.ref b1), .val (.ref b2), .val (.int (1 : Int32))] [(.long q1), (.int (0 : Int32)), (.int (0 : Int32)), (.ref b1), (.ref b2)])) _
    refine st6 _ ?_
    show Steps p.tables e below (T6.setTop (mkF m 75 #[.val (.int p0), .val (.long q1), .second, .val (.int (0 : Int32)), .val (.ref b1), .val (.ref b2), .val (.int (1 : Int32))] [(.int (1 : Int32))])) _
    refine XS.ifNo X6.here hx rfl (hb hby at_75) rfl ((if0 _ _).trans (feq (by decide : ¬ ((1 : Int32) = (0 : Int32)))).1) ?_
    show Steps p.tables e below (T6.setTop (mkF m 78 #[.val (.int p0), .val (.long q1), .second, .val (.int (0 : Int32)), .val (.ref b1), .val (.ref b2), .val (.int (1 : Int32))] [])) _
    refine XS.iconst X6.here hx rfl (hb hby at_78) ?_
    show Steps p.tables e below (T6.setTop (mkF m 79 #[.val (.int p0), .val (.long q1), .second, .val (.int (0 : Int32)), .val (.ref b1), .val (.ref b2), .val (.int (1 : Int32))] [(.int (1 : Int32))])) _
    refine XS.goto X6.here hx rfl (pc0 := 79) (pc' := 83) rfl (hb hby at_79) (by decide) (by decide) ?_
    show Steps p.tables e below (T6.setTop (mkF m 83 #[.val (.int p0), .val (.long q1), .second, .val (.int (0 : Int32)), .val (.ref b1), .val (.ref b2), .val (.int (1 : Int32))] [(.int (1 : Int32))])) _
    refine XS.istore X6.here hx rfl (hb hby at_83) rfl (l' := #[.val (.int p0), .val (.long q1), .second, .val (.int (0 : Int32)), .val (.ref b1), .val (.ref b2), .val (.int (1 : Int32))]) rfl ?_
    show Steps p.tables e below (T6.setTop (mkF m 85 #[.val (.int p0), .val (.long q1), .second, .val (.int (0 : Int32)), .val (.ref b1), .val (.ref b2), .val (.int (1 : Int32))] [])) _
    refine XS.iload X6.here hx rfl (hb hby at_85) rfl ?_
    show Steps p.tables e below (T6.setTop (mkF m 87 #[.val (.int p0), .val (.long q1), .second, .val (.int (0 : Int32)), .val (.ref b1), .val (.ref b2), .val (.int (1 : Int32))] [(.int (1 : Int32))])) _
    refine XS.ifNo X6.here hx rfl (hb hby at_87) rfl ((if0 _ _).trans (feq (by decide : ¬ ((1 : Int32) = (0 : Int32)))).1) ?_
    show Steps p.tables e below (T6.setTop (mkF m 90 #[.val (.int p0), .val (.long q1), .second, .val (.int (0 : Int32)), .val (.ref b1), .val (.ref b2), .val (.int (1 : Int32))] [])) _
    refine XS.aload X6.here hx rfl (hb hby at_90) rfl rfl ?_
    show Steps p.tables e below (T6.setTop (mkF m 92 #[.val (.int p0), .val (.long q1), .second, .val (.int (0 : Int32)), .val (.ref b1), .val (.ref b2), .val (.int (1 : Int32))] [(.ref b2)])) _
    refine XS.aload X6.here hx rfl (hb hby at_92) rfl rfl ?_
    show Steps p.tables e below (T6.setTop (mkF m 94 #[.val (.int p0), .val (.long q1), .second, .val (.int (0 : Int32)), .val (.ref b1), .val (.ref b2), .val (.int (1 : Int32))] [(.ref b1), (.ref b2)])) _
    refine XS.iconst X6.here hx rfl (hb hby at_94) ?_
    show Steps p.tables e below (T6.setTop (mkF m 95 #[.val (.int p0), .val (.long q1), .second, .val (.int (0 : Int32)), .val (.ref b1), .val (.ref b2), .val (.int (1 : Int32))] [(.int (1 : Int32)), (.ref b1), (.ref b2)])) _
    refine XS.iloadN X6.here hx rfl (hb hby at_95) rfl ?_
    show Steps p.tables e below (T6.setTop (mkF m 96 #[.val (.int p0), .val (.long q1), .second, .val (.int (0 : Int32)), .val (.ref b1), .val (.ref b2), .val (.int (1 : Int32))] [(.int (0 : Int32)), (.int (1 : Int32)), (.ref b1), (.ref b2)])) _
    refine XS.lloadN X6.here hx rfl (hb hby at_96) rfl ?_
    show Steps p.tables e below (T6.setTop (mkF m 97 #[.val (.int p0), .val (.long q1), .second, .val (.int (0 : Int32)), .val (.ref b1), .val (.ref b2), .val (.int (1 : Int32))] [(.long q1), (.int (0 : Int32)), (.int (1 : Int32)), (.ref b1), (.ref b2)])) _
    refine st7 _ ?_
    show Steps p.tables e below (T7.setTop (mkF m 100 #[.val (.int p0), .val (.long q1), .second, .val (.int (0 : Int32)), .val (.ref b1), .val (.ref b2), .val (.int (1 : Int32))] [(.int (1 : Int32))])) _
    refine XS.ifNo X7.here hx rfl (hb hby at_100) rfl ((if0 _ _).trans (feq (by decide : ¬ ((1 : Int32) = (0 : Int32)))).1) ?_
    show Steps p.tables e below (T7.setTop (mkF m 103 #[.val (.int p0), .val (.long q1), .second, .val (.int (0 : Int32)), .val (.ref b1), .val (.ref b2), .val (.int (1 : Int32))] [])) _
    refine XS.iconst X7.here hx rfl (hb hby at_103) ?_
    show Steps p.tables e below (T7.setTop (mkF m 104 #[.val (.int p0), .val (.long q1), .second, .val (.int (0 : Int32)), .val (.ref b1), .val (.ref b2), .val (.int (1 : Int32))] [(.int (1 : Int32))])) _
    refine XS.goto X7.here hx rfl (pc0 := 104) (pc' := 108) rfl (hb hby at_104) (by decide) (by decide) ?_
    show Steps p.tables e below (T7.setTop (mkF m 108 #[.val (.int p0), .val (.long q1), .second, .val (.int (0 : Int32)), .val (.ref b1), .val (.ref b2), .val (.int (1 : Int32))] [(.int (1 : Int32))])) _
    refine XS.istore X7.here hx rfl (hb hby at_108) rfl (l' := #[.val (.int p0), .val (.long q1), .second, .val (.int (0 : Int32)), .val (.ref b1), .val (.ref b2), .val (.int (1 : Int32))]) rfl ?_
    show Steps p.tables e below (T7.setTop (mkF m 110 #[.val (.int p0), .val (.long q1), .second, .val (.int (0 : Int32)), .val (.ref b1), .val (.ref b2), .val (.int (1 : Int32))] [])) _
    refine XS.iload X7.here hx rfl (hb hby at_110) rfl ?_
    show Steps p.tables e below (T7.setTop (mkF m 112 #[.val (.int p0), .val (.long q1), .second, .val (.int (0 : Int32)), .val (.ref b1), .val (.ref b2), .val (.int (1 : Int32))] [(.int (1 : Int32))])) _
    refine XS.ifNo X7.here hx rfl (hb hby at_112) rfl ((if0 _ _).trans (feq (by decide : ¬ ((1 : Int32) = (0 : Int32)))).1) ?_
    show Steps p.tables e below (T7.setTop (mkF m 115 #[.val (.int p0), .val (.long q1), .second, .val (.int (0 : Int32)), .val (.ref b1), .val (.ref b2), .val (.int (1 : Int32))] [])) _
    refine XS.aload X7.here hx rfl (hb hby at_115) rfl rfl ?_
    show Steps p.tables e below (T7.setTop (mkF m 117 #[.val (.int p0), .val (.long q1), .second, .val (.int (0 : Int32)), .val (.ref b1), .val (.ref b2), .val (.int (1 : Int32))] [(.ref b2)])) _
    refine XS.aload X7.here hx rfl (hb hby at_117) rfl rfl ?_
    show Steps p.tables e below (T7.setTop (mkF m 119 #[.val (.int p0), .val (.long q1), .second, .val (.int (0 : Int32)), .val (.ref b1), .val (.ref b2), .val (.int (1 : Int32))] [(.ref b1), (.ref b2)])) _
    refine XS.iconst X7.here hx rfl (hb hby at_119) ?_
    show Steps p.tables e below (T7.setTop (mkF m 120 #[.val (.int p0), .val (.long q1), .second, .val (.int (0 : Int32)), .val (.ref b1), .val (.ref b2), .val (.int (1 : Int32))] [(.int (2 : Int32)), (.ref b1), (.ref b2)])) _
    refine XS.iloadN X7.here hx rfl (hb hby at_120) rfl ?_
    show Steps p.tables e below (T7.setTop (mkF m 121 #[.val (.int p0), .val (.long q1), .second, .val (.int (0 : Int32)), .val (.ref b1), .val (.ref b2), .val (.int (1 : Int32))] [(.int (0 : Int32)), (.int (2 : Int32)), (.ref b1), (.ref b2)])) _
    refine XS.lloadN X7.here hx rfl (hb hby at_121) rfl ?_
    show Steps p.tables e below (T7.setTop (mkF m 122 #[.val (.int p0), .val (.long q1), .second, .val (.int (0 : Int32)), .val (.ref b1), .val (.ref b2), .val (.int (1 : Int32))] [(.long q1), (.int (0 : Int32)), (.int (2 : Int32)), (.ref b1), (.ref b2)])) _
    refine st8 _ ?_
    show Steps p.tables e below (T8.setTop (mkF m 125 #[.val (.int p0), .val (.long q1), .second, .val (.int (0 : Int32)), .val (.ref b1), .val (.ref b2), .val (.int (1 : Int32))] [(.int (1 : Int32))])) _
    refine XS.ifNo X8.here hx rfl (hb hby at_125) rfl ((if0 _ _).trans (feq (by decide : ¬ ((1 : Int32) = (0 : Int32)))).1) ?_
    show Steps p.tables e below (T8.setTop (mkF m 128 #[.val (.int p0), .val (.long q1), .second, .val (.int (0 : Int32)), .val (.ref b1), .val (.ref b2), .val (.int (1 : Int32))] [])) _
    refine XS.iconst X8.here hx rfl (hb hby at_128) ?_
    show Steps p.tables e below (T8.setTop (mkF m 129 #[.val (.int p0), .val (.long q1), .second, .val (.int (0 : Int32)), .val (.ref b1), .val (.ref b2), .val (.int (1 : Int32))] [(.int (1 : Int32))])) _
    refine XS.goto X8.here hx rfl (pc0 := 129) (pc' := 133) rfl (hb hby at_129) (by decide) (by decide) ?_
    show Steps p.tables e below (T8.setTop (mkF m 133 #[.val (.int p0), .val (.long q1), .second, .val (.int (0 : Int32)), .val (.ref b1), .val (.ref b2), .val (.int (1 : Int32))] [(.int (1 : Int32))])) _
    refine XS.istore X8.here hx rfl (hb hby at_133) rfl (l' := #[.val (.int p0), .val (.long q1), .second, .val (.int (0 : Int32)), .val (.ref b1), .val (.ref b2), .val (.int (1 : Int32))]) rfl ?_
    show Steps p.tables e below (T8.setTop (mkF m 135 #[.val (.int p0), .val (.long q1), .second, .val (.int (0 : Int32)), .val (.ref b1), .val (.ref b2), .val (.int (1 : Int32))] [])) _
    refine XS.iload X8.here hx rfl (hb hby at_135) rfl ?_
    show Steps p.tables e below (T8.setTop (mkF m 137 #[.val (.int p0), .val (.long q1), .second, .val (.int (0 : Int32)), .val (.ref b1), .val (.ref b2), .val (.int (1 : Int32))] [(.int (1 : Int32))])) _
    refine XS.ifNo X8.here hx rfl (hb hby at_137) rfl ((if0 _ _).trans (feq (by decide : ¬ ((1 : Int32) = (0 : Int32)))).1) ?_
    show Steps p.tables e below (T8.setTop (mkF m 140 #[.val (.int p0), .val (.long q1), .second, .val (.int (0 : Int32)), .val (.ref b1), .val (.ref b2), .val (.int (1 : Int32))] [])) _
    refine XS.aload X8.here hx rfl (hb hby at_140) rfl rfl ?_
    show Steps p.tables e below (T8.setTop (mkF m 142 #[.val (.int p0), .val (.long q1), .second, .val (.int (0 : Int32)), .val (.ref b1), .val (.ref b2), .val (.int (1 : Int32))] [(.ref b2)])) _
    refine XS.aload X8.here hx rfl (hb hby at_142) rfl rfl ?_
    show Steps p.tables e below (T8.setTop (mkF m 144 #[.val (.int p0), .val (.long q1), .second, .val (.int (0 : Int32)), .val (.ref b1), .val (.ref b2), .val (.int (1 : Int32))] [(.ref b1), (.ref b2)])) _
    refine XS.iconst X8.here hx rfl (hb hby at_144) ?_
    show Steps p.tables e below (T8.setTop (mkF m 145 #[.val (.int p0), .val (.long q1), .second, .val (.int (0 : Int32)), .val (.ref b1), .val (.ref b2), .val (.int (1 : Int32))] [(.int (3 : Int32)), (.ref b1), (.ref b2)])) _
    refine XS.iloadN X8.here hx rfl (hb hby at_145) rfl ?_
    show Steps p.tables e below (T8.setTop (mkF m 146 #[.val (.int p0), .val (.long q1), .second, .val (.int (0 : Int32)), .val (.ref b1), .val (.ref b2), .val (.int (1 : Int32))] [(.int (0 : Int32)), (.int (3 : Int32)), (.ref b1), (.ref b2)])) _
    refine XS.lloadN X8.here hx rfl (hb hby at_146) rfl ?_
    show Steps p.tables e below (T8.setTop (mkF m 147 #[.val (.int p0), .val (.long q1), .second, .val (.int (0 : Int32)), .val (.ref b1), .val (.ref b2), .val (.int (1 : Int32))] [(.long q1), (.int (0 : Int32)), (.int (3 : Int32)), (.ref b1), (.ref b2)])) _
    refine st9 _ ?_
    show Steps p.tables e below (T9.setTop (mkF m 150 #[.val (.int p0), .val (.long q1), .second, .val (.int (0 : Int32)), .val (.ref b1), .val (.ref b2), .val (.int (1 : Int32))] [(.int (1 : Int32))])) _
    refine XS.ifNo X9.here hx rfl (hb hby at_150) rfl ((if0 _ _).trans (feq (by decide : ¬ ((1 : Int32) = (0 : Int32)))).1) ?_
    show Steps p.tables e below (T9.setTop (mkF m 153 #[.val (.int p0), .val (.long q1), .second, .val (.int (0 : Int32)), .val (.ref b1), .val (.ref b2), .val (.int (1 : Int32))] [])) _
    refine XS.iconst X9.here hx rfl (hb hby at_153) ?_
    show Steps p.tables e below (T9.setTop (mkF m 154 #[.val (.int p0), .val (.long q1), .second, .val (.int (0 : Int32)), .val (.ref b1), .val (.ref b2), .val (.int (1 : Int32))] [(.int (1 : Int32))])) _
    refine XS.goto X9.here hx rfl (pc0 := 154) (pc' := 158) rfl (hb hby at_154) (by decide) (by decide) ?_
    show Steps p.tables e below (T9.setTop (mkF m 158 #[.val (.int p0), .val (.long q1), .second, .val (.int (0 : Int32)), .val (.ref b1), .val (.ref b2), .val (.int (1 : Int32))] [(.int (1 : Int32))])) _
    refine XS.istore X9.here hx rfl (hb hby at_158) rfl (l' := #[.val (.int p0), .val (.long q1), .second, .val (.int (0 : Int32)), .val (.ref b1), .val (.ref b2), .val (.int (1 : Int32))]) rfl ?_
    show Steps p.tables e below (T9.setTop (mkF m 160 #[.val (.int p0), .val (.long q1), .second, .val (.int (0 : Int32)), .val (.ref b1), .val (.ref b2), .val (.int (1 : Int32))] [])) _
    refine XS.iload X9.here hx rfl (hb hby at_160) rfl ?_
    show Steps p.tables e below (T9.setTop (mkF m 162 #[.val (.int p0), .val (.long q1), .second, .val (.int (0 : Int32)), .val (.ref b1), .val (.ref b2), .val (.int (1 : Int32))] [(.int (1 : Int32))])) _
    refine XS.ifNo X9.here hx rfl (hb hby at_162) rfl ((if0 _ _).trans (feq (by decide : ¬ ((1 : Int32) = (0 : Int32)))).1) ?_
    show Steps p.tables e below (T9.setTop (mkF m 165 #[.val (.int p0), .val (.long q1), .second, .val (.int (0 : Int32)), .val (.ref b1), .val (.ref b2), .val (.int (1 : Int32))] [])) _
    refine XS.aload X9.here hx rfl (hb hby at_165) rfl rfl ?_
    show Steps p.tables e below (T9.setTop (mkF m 167 #[.val (.int p0), .val (.long q1), .second, .val (.int (0 : Int32)), .val (.ref b1), .val (.ref b2), .val (.int (1 : Int32))] [(.ref b2)])) _
    refine XS.aload X9.here hx rfl (hb hby at_167) rfl rfl ?_
    show Steps p.tables e below (T9.setTop (mkF m 169 #[.val (.int p0), .val (.long q1), .second, .val (.int (0 : Int32)), .val (.ref b1), .val (.ref b2), .val (.int (1 : Int32))] [(.ref b1), (.ref b2)])) _
    refine XS.iconst X9.here hx rfl (hb hby at_169) ?_
    show Steps p.tables e below (T9.setTop (mkF m 170 #[.val (.int p0), .val (.long q1), .second, .val (.int (0 : Int32)), .val (.ref b1), .val (.ref b2), .val (.int (1 : Int32))] [(.int (4 : Int32)), (.ref b1), (.ref b2)])) _
    refine XS.iloadN X9.here hx rfl (hb hby at_170) rfl ?_
    show Steps p.tables e below (T9.setTop (mkF m 171 #[.val (.int p0), .val (.long q1), .second, .val (.int (0 : Int32)), .val (.ref b1), .val (.ref b2), .val (.int (1 : Int32))] [(.int (0 : Int32)), (.int (4 : Int32)), (.ref b1), (.ref b2)])) _
    refine XS.lloadN X9.here hx rfl (hb hby at_171) rfl ?_
    show Steps p.tables e below (T9.setTop (mkF m 172 #[.val (.int p0), .val (.long q1), .second, .val (.int (0 : Int32)), .val (.ref b1), .val (.ref b2), .val (.int (1 : Int32))] [(.long q1), (.int (0 : Int32)), (.int (4 : Int32)), (.ref b1), (.ref b2)])) _
    refine st10 _ ?_
    show Steps p.tables e below (T10.setTop (mkF m 175 #[.val (.int p0), .val (.long q1), .second, .val (.int (0 : Int32)), .val (.ref b1), .val (.ref b2), .val (.int (1 : Int32))] [(.int (1 : Int32))])) _
    refine XS.ifNo X10.here hx rfl (hb hby at_175) rfl ((if0 _ _).trans (feq (by decide : ¬ ((1 : Int32) = (0 : Int32)))).1) ?_
    show Steps p.tables e below (T10.setTop (mkF m 178 #[.val (.int p0), .val (.long q1), .second, .val (.int (0 : Int32)), .val (.ref b1), .val (.ref b2), .val (.int (1 : Int32))] [])) _
    refine XS.iconst X10.here hx rfl (hb hby at_178) ?_
    show Steps p.tables e below (T10.setTop (mkF m 179 #[.val (.int p0), .val (.long q1), .second, .val (.int (0 : Int32)), .val (.ref b1), .val (.ref b2), .val (.int (1 : Int32))] [(.int (1 : Int32))])) _
    refine XS.goto X10.here hx rfl (pc0 := 179) (pc' := 183) rfl (hb hby at_179) (by decide) (by decide) ?_
    show Steps p.tables e below (T10.setTop (mkF m 183 #[.val (.int p0), .val (.long q1), .second, .val (.int (0 : Int32)), .val (.ref b1), .val (.ref b2), .val (.int (1 : Int32))] [(.int (1 : Int32))])) _
    refine XS.istore X10.here hx rfl (hb hby at_183) rfl (l' := #[.val (.int p0), .val (.long q1), .second, .val (.int (0 : Int32)), .val (.ref b1), .val (.ref b2), .val (.int (1 : Int32))]) rfl ?_
    show Steps p.tables e below (T10.setTop (mkF m 185 #[.val (.int p0), .val (.long q1), .second, .val (.int (0 : Int32)), .val (.ref b1), .val (.ref b2), .val (.int (1 : Int32))] [])) _
    refine XS.iload X10.here hx rfl (hb hby at_185) rfl ?_
    show Steps p.tables e below (T10.setTop (mkF m 187 #[.val (.int p0), .val (.long q1), .second, .val (.int (0 : Int32)), .val (.ref b1), .val (.ref b2), .val (.int (1 : Int32))] [(.int (1 : Int32))])) _
    exact retN X10 hx (t := .boolean) Bd.returns (by simp) (hb hby at_187) hr
  · show Q0_0 Z p0 q1 h0 n0 _ T10.heap _
    rw [e10]
    exact ⟨rfl, N10⟩
set_option maxRecDepth 65536 in
set_option maxHeartbeats 40000000 in
theorem pc_8_1 {p : Program} {l : Launch} {e : Env} {R : Room} {s : State} {m : MethodId} {args : Array Value} {below : List Frame} {meth : Method} {c : Code} {T0 : State} {locs : List Loc} {cells slots : Nat} {Z : State} {a0 : Array Value} (p0 : Int32) (q1 : Int64)
    (X0 : Stand p l e R s m args below meth c T0 locs cells slots) (hx : p.tables.exec = Jvm.exec) (hZ : Z.Warmed39 s.vm) (hw : ∀ d ∈ tables_1, d.before a0 Z = true) (hby : c.code = code) (hown : s.vm.findClass "com/example/usrset/usrset/store/KeyPastTuplesOfPinLaw" = some m.cls) (hk : own_n p0 = (1 : Int32)) :
    ∀ target, Steps p.tables e below (T0.setTop (mkF m 8 #[.val (.int p0), .val (.long q1), .second, .val (.int (1 : Int32)), .unset, .unset, .unset] [])) target → Steps p.tables e below (T0.setTop (mkF m 0 #[.val (.int p0), .val (.long q1), .second, .unset, .unset, .unset, .unset] [])) target := by
  intro target kt
  show Steps p.tables e below (T0.setTop (mkF m 0 #[.val (.int p0), .val (.long q1), .second, .unset, .unset, .unset, .unset] [])) _
  refine XS.iloadN X0.here hx rfl (hb hby at_0) rfl ?_
  show Steps p.tables e below (T0.setTop (mkF m 1 #[.val (.int p0), .val (.long q1), .second, .unset, .unset, .unset, .unset] [(.int p0)])) _
  refine X0.ldcInt hx hown (mvT hZ (hw _ (List.mem_of_getElem? (i := 0) rfl))) (g := (mkF m 1 #[.val (.int p0), .val (.long q1), .second, .unset, .unset, .unset, .unset] [(.int p0)])) rfl (hb hby at_1) _ ?_
  show Steps p.tables e below (T0.setTop (mkF m 3 #[.val (.int p0), .val (.long q1), .second, .unset, .unset, .unset, .unset] [(.int (2147483647 : Int32)), (.int p0)])) _
  refine XS.iand X0.here hx rfl (hb hby at_3) rfl ?_
  show Steps p.tables e below (T0.setTop (mkF m 4 #[.val (.int p0), .val (.long q1), .second, .unset, .unset, .unset, .unset] [(.int (p0 &&& (2147483647 : Int32)))])) _
  refine XS.bipush X0.here hx rfl (hb hby at_4) ?_
  show Steps p.tables e below (T0.setTop (mkF m 6 #[.val (.int p0), .val (.long q1), .second, .unset, .unset, .unset, .unset] [(.int (6 : Int32)), (.int (p0 &&& (2147483647 : Int32)))])) _
  refine XS.irem X0.here hx rfl (hb hby at_6) rfl (by decide) ?_
  show Steps p.tables e below (T0.setTop (mkF m 7 #[.val (.int p0), .val (.long q1), .second, .unset, .unset, .unset, .unset] [(.int ((p0 &&& (2147483647 : Int32)) - ((p0 &&& (2147483647 : Int32)) / (6 : Int32)) * (6 : Int32)))])) _
  refine XS.istoreN X0.here hx rfl (hb hby at_7) rfl (l' := #[.val (.int p0), .val (.long q1), .second, .val (.int ((p0 &&& (2147483647 : Int32)) - ((p0 &&& (2147483647 : Int32)) / (6 : Int32)) * (6 : Int32))), .unset, .unset, .unset]) rfl ?_
  show Steps p.tables e below (T0.setTop (mkF m 8 #[.val (.int p0), .val (.long q1), .second, .val (.int ((p0 &&& (2147483647 : Int32)) - ((p0 &&& (2147483647 : Int32)) / (6 : Int32)) * (6 : Int32))), .unset, .unset, .unset] [])) _
  have et : ((p0 &&& (2147483647 : Int32)) - ((p0 &&& (2147483647 : Int32)) / (6 : Int32)) * (6 : Int32)) = (1 : Int32) := hk
  rw [et]
  exact kt
theorem ef_0_1 (m : MethodId) (x0 : Int32) (x1 : Int64) : entryFrame m #[(.int x0), (.long x1)] maxLocals = mkF m 0 #[.val (.int x0), .val (.long x1), .second, .unset, .unset, .unset, .unset] [] := by first | (simp [entryFrame, mkF, argsToLocals, Value.category, maxLocals]; done) | rfl
def Q0_1 (Z : State) (p0 : Int32) (q1 : Int64) (h0 : Heap) (n0 : Nat) (v : Option Value) (h : Heap) (L : List Loc) : Prop := v = some (.int 1) ∧ Fr n0 L
set_option maxRecDepth 65536 in
set_option maxHeartbeats 40000000 in
theorem rm0_1 (l : Launch) (Z : State) (a0 : Array Value) (hw : ∀ d ∈ tables_1, d.before a0 Z = true) (ws : List Jvm.Cond) (p0 : Int32) (q1 : Int64) (h0 : Heap) (n0 : Nat) (Z0 : n0 ≤ h0.size) (hk : own_n p0 = (1 : Int32)) :
    MetFree l x (head1 (Jvm.Cond.code x code maxLocals ret :: ws) room_1) (fun a U => a = #[(.int p0), (.long q1)] ∧ Z.Warmed39 U.vm ∧ U.heap = h0) (fun _ _ _ _ _ => True) (fun _ U o U' => ∃ v L, o = .returned v ∧ Q0_1 Z p0 q1 h0 n0 v U'.heap L ∧ FrameEnd U o U' L room_1.cells room_1.slots) := by
  refine MetFree.of_bodySF (plainFor_of_name pn_com_example_usrset_usrset_store_KeyPastTuplesOfPinLaw) hisR ?_
  intro p e s m args below meth c s₁ Bd hml0 hP hK
  obtain ⟨rfl, hZ, hh⟩ := hP
  have hx := Bd.exec
  have hby := Bd.bytes
  have hml : c.maxLocals = 7 := hml0
  have hown : s.vm.findClass "com/example/usrset/usrset/store/KeyPastTuplesOfPinLaw" = some m.cls := findClass_of_methodNamed Bd.named
  have hnm := (name_of_methodNamed Bd.named Bd.method).1
  have X0 : Stand p l e room_1 s m #[(.int p0), (.long q1)] below meth c s₁ [] 0 0 := Stand.of_body Bd
  have e0 : s₁.heap = h0 := by rw [← hh, Bd.state]; rfl
  have N0 := Fr.nil n0
  have pre0 : ∀ t, Steps p.tables e below (s₁.setTop (mkF m 0 #[.val (.int p0), .val (.long q1), .second, .unset, .unset, .unset, .unset] [])) t → Steps p.tables e below (s₁.setTop (entryFrame m #[(.int p0), (.long q1)] maxLocals)) t := fun t k => castTop (ef_0_1 m p0 q1) k
  have sp0 := pc_8_1 p0 q1 X0 hx hZ hw hby hown hk
  obtain ⟨_, _, ⟨T1, L1, k1, n1⟩, -, X1, ⟨Lc1, hQ1, l1, y1, z1⟩, st1⟩ := Jvm.LawKit.callS X0 hx (y := (⟨"com/example/usrset/usrset/store/KeyPastTuplesOfPinLaw", "make", "(IJ)[B"⟩ : MethodName)) hown (mvT hZ (hw _ (List.mem_of_getElem? (i := 1) rfl))) (mvT hZ (hw _ (List.mem_of_getElem? (i := 2) rfl))) (mvT hZ (hw _ (List.mem_of_getElem? (i := 3) rfl))) (mvT hZ (hw _ (List.mem_of_getElem? (i := 4) rfl))) (by decide) (backOf (W := 0) (rm1_1 l Z a0 hw [] q1 h0 n0 Z0) hZ (hw _ (List.mem_of_getElem? (i := 4) rfl)) (hw _ (List.mem_of_getElem? (i := 3) rfl)) (by decide) (by decide)) (g := (mkF m 10 #[.val (.int p0), .val (.long q1), .second, .val (.int (1 : Int32)), .unset, .unset, .unset] [(.long q1), (.int (1 : Int32))])) rfl (by rw [hml]; rfl) (argsL := [(.int (1 : Int32)), (.long q1)]) (rest := []) (lenOf pd_28IJ295bB rfl) rfl (by show 2 * 0 + _ ≤ _; exact Nat.le_of_eq rfl) (hb hby at_10) (fun _ _ => ⟨rfl, e0, (by decide : 0 + 1 ≤ _), (by decide : 0 + 1 ≤ _)⟩)
  dsimp only [Pt.U, Pt.locs, Pt.cells, Pt.slots] at X1 l1 y1 z1 st1 hQ1
  subst l1 y1 z1
  obtain ⟨b1, kb1, rfl, N1q, KK1, gb1, VB1⟩ := hQ1
  obtain ⟨h1, e1⟩ : ∃ z, T1.heap = z := ⟨_, rfl⟩
  rw [e1] at KK1 VB1
  have Z1 : n0 ≤ h1.size := Nat.le_trans Z0 KK1.1
  have g_b1 : n0 ≤ b1 := Nat.le_trans Z0 gb1
  have N1 := Fr.app N0 N1q
  obtain ⟨_, _, ⟨T2, L2, k2, n2⟩, -, X2, ⟨Lc2, hQ2, l2, y2, z2⟩, st2⟩ := Jvm.LawKit.callS X1 hx (y := (⟨"com/example/usrset/usrset/store/Key", "pastTuplesOf", "([B)[B"⟩ : MethodName)) hown (mvT hZ (hw _ (List.mem_of_getElem? (i := 6) rfl))) (mvT hZ (hw _ (List.mem_of_getElem? (i := 7) rfl))) (mvT hZ (hw _ (List.mem_of_getElem? (i := 8) rfl))) (mvT hZ (hw _ (List.mem_of_getElem? (i := 9) rfl))) (by decide) (backOf (W := 0) (rm2_1 l Z a0 hw [] b1 kb1 (own_b q1 (0 : Int32)) h1 n0 Z1 VB1) hZ (hw _ (List.mem_of_getElem? (i := 9) rfl)) (hw _ (List.mem_of_getElem? (i := 8) rfl)) (by decide) (by decide)) (g := (mkF m 17 #[.val (.int p0), .val (.long q1), .second, .val (.int (1 : Int32)), .val (.ref b1), .unset, .unset] [(.ref b1)])) rfl (by rw [hml]; rfl) (argsL := [(.ref b1)]) (rest := []) (lenOf pd_285bB295bB rfl) rfl (by show 2 * 0 + _ ≤ _; exact Nat.le_of_eq rfl) (hb hby at_17) (fun _ _ => ⟨rfl, e1, (by decide : 1 + 1 ≤ _), (by decide : 1 + 2 ≤ _)⟩)
  dsimp only [Pt.U, Pt.locs, Pt.cells, Pt.slots] at X2 l2 y2 z2 st2 hQ2
  subst l2 y2 z2
  obtain ⟨b2, kb2, rfl, N2q, KK2, gb2, VB2⟩ := hQ2
  obtain ⟨h2, e2⟩ : ∃ z, T2.heap = z := ⟨_, rfl⟩
  rw [e2] at KK2 VB2
  have VB1_at2 : Arv Z h2 b1 kb1 .byte (1 : Int32) [(.int (own_b q1 (0 : Int32)))] (.int (0 : Int32)) := VB1.keep KK2 nin0
  have Z2 : n0 ≤ h2.size := Nat.le_trans Z1 KK2.1
  have ne_b1_b2 : b1 ≠ b2 := Nat.ne_of_lt (Nat.lt_of_lt_of_le VB1.lt gb2)
  have g_b2 : n0 ≤ b2 := Nat.le_trans Z1 gb2
  have N2 := Fr.app N1 N2q
  obtain ⟨cl_29_3, Ar_29_3, -, S_29_3, M_29_3, -, -⟩ := id VB2
  obtain ⟨cl_38_4, Ar_38_4, -, S_38_4, M_38_4, -, -⟩ := id VB1_at2
  obtain ⟨cl_48_5, Ar_48_5, -, S_48_5, M_48_5, H_48_5, -⟩ := id VB2
  have hin48_5 : ¬ ((1 : Int32) < 0 ∨ cl_48_5.slots.size ≤ ((1 : Int32)).toNatClampNeg) := inb_of S_48_5 ⟨by decide, by decide⟩
  have hat48_5 : cl_48_5.slots[((1 : Int32)).toNatClampNeg]? = some (.int (-1 : Int32)) := H_48_5.at hin48_5 rfl
  obtain ⟨_, _, ⟨T6, L6, k6, n6⟩, -, X6, ⟨Lc6, hQ6, l6, y6, z6⟩, st6⟩ := Jvm.LawKit.callS X2 hx (y := (⟨"com/example/usrset/usrset/store/KeyPastTuplesOfPinLaw", "same", "([B[BIIJ)Z"⟩ : MethodName)) hown (mvT hZ (hw _ (List.mem_of_getElem? (i := 22) rfl))) (mvT hZ (hw _ (List.mem_of_getElem? (i := 23) rfl))) (mvT hZ (hw _ (List.mem_of_getElem? (i := 3) rfl))) (mvT hZ (hw _ (List.mem_of_getElem? (i := 24) rfl))) (by decide) (backOf (W := 0) (rm5_b l Z a0 hw [] b2 b1 (0 : Int32) (1 : Int32) q1 kb2 kb1 (2 : Int32) (1 : Int32) [(.int (own_b q1 (0 : Int32))), (.int (-1 : Int32))] [(.int (own_b q1 (0 : Int32)))] h2 n0 Z2 (by decide) (by decide) VB2 (by decide) rfl VB1_at2 (by decide) rfl) hZ (hw _ (List.mem_of_getElem? (i := 24) rfl)) (hw _ (List.mem_of_getElem? (i := 3) rfl)) (by decide) (by decide)) (g := (mkF m 72 #[.val (.int p0), .val (.long q1), .second, .val (.int (1 : Int32)), .val (.ref b1), .val (.ref b2), .val (.int (1 : Int32))] [(.long q1), (.int (1 : Int32)), (.int (0 : Int32)), (.ref b1), (.ref b2)])) rfl (by rw [hml]; rfl) (argsL := [(.ref b2), (.ref b1), (.int (0 : Int32)), (.int (1 : Int32)), (.long q1)]) (rest := []) (lenOf pd_285bB5bBIIJ29Z rfl) rfl (by show 2 * 0 + _ ≤ _; exact Nat.le_of_eq rfl) (hb hby at_72) (fun _ _ => ⟨rfl, e2, (by decide : 2 + 0 ≤ _), (by decide : 3 + 0 ≤ _)⟩)
  dsimp only [Pt.U, Pt.locs, Pt.cells, Pt.slots] at X6 l6 y6 z6 st6 hQ6
  subst l6 y6 z6
  obtain ⟨rfl, N6q, e6⟩ := hQ6
  have N6 := Fr.app N2 N6q
  obtain ⟨_, _, ⟨T7, L7, k7, n7⟩, -, X7, ⟨Lc7, hQ7, l7, y7, z7⟩, st7⟩ := Jvm.LawKit.callS X6 hx (y := (⟨"com/example/usrset/usrset/store/KeyPastTuplesOfPinLaw", "same", "([B[BIIJ)Z"⟩ : MethodName)) hown (mvT hZ (hw _ (List.mem_of_getElem? (i := 22) rfl))) (mvT hZ (hw _ (List.mem_of_getElem? (i := 23) rfl))) (mvT hZ (hw _ (List.mem_of_getElem? (i := 3) rfl))) (mvT hZ (hw _ (List.mem_of_getElem? (i := 24) rfl))) (by decide) (backOf (W := 0) (rm5_a l Z a0 hw [] b2 b1 (1 : Int32) (1 : Int32) q1 h2 n0 Z2 (by decide)) hZ (hw _ (List.mem_of_getElem? (i := 24) rfl)) (hw _ (List.mem_of_getElem? (i := 3) rfl)) (by decide) (by decide)) (g := (mkF m 97 #[.val (.int p0), .val (.long q1), .second, .val (.int (1 : Int32)), .val (.ref b1), .val (.ref b2), .val (.int (1 : Int32))] [(.long q1), (.int (1 : Int32)), (.int (1 : Int32)), (.ref b1), (.ref b2)])) rfl (by rw [hml]; rfl) (argsL := [(.ref b2), (.ref b1), (.int (1 : Int32)), (.int (1 : Int32)), (.long q1)]) (rest := []) (lenOf pd_285bB5bBIIJ29Z rfl) rfl (by show 2 * 0 + _ ≤ _; exact Nat.le_of_eq rfl) (hb hby at_97) (fun _ _ => ⟨rfl, e6, (by decide : 2 + 0 ≤ _), (by decide : 3 + 0 ≤ _)⟩)
  dsimp only [Pt.U, Pt.locs, Pt.cells, Pt.slots] at X7 l7 y7 z7 st7 hQ7
  subst l7 y7 z7
  obtain ⟨rfl, N7q, e7⟩ := hQ7
  have N7 := Fr.app N6 N7q
  obtain ⟨_, _, ⟨T8, L8, k8, n8⟩, -, X8, ⟨Lc8, hQ8, l8, y8, z8⟩, st8⟩ := Jvm.LawKit.callS X7 hx (y := (⟨"com/example/usrset/usrset/store/KeyPastTuplesOfPinLaw", "same", "([B[BIIJ)Z"⟩ : MethodName)) hown (mvT hZ (hw _ (List.mem_of_getElem? (i := 22) rfl))) (mvT hZ (hw _ (List.mem_of_getElem? (i := 23) rfl))) (mvT hZ (hw _ (List.mem_of_getElem? (i := 3) rfl))) (mvT hZ (hw _ (List.mem_of_getElem? (i := 24) rfl))) (by decide) (backOf (W := 0) (rm5_a l Z a0 hw [] b2 b1 (2 : Int32) (1 : Int32) q1 h2 n0 Z2 (by decide)) hZ (hw _ (List.mem_of_getElem? (i := 24) rfl)) (hw _ (List.mem_of_getElem? (i := 3) rfl)) (by decide) (by decide)) (g := (mkF m 122 #[.val (.int p0), .val (.long q1), .second, .val (.int (1 : Int32)), .val (.ref b1), .val (.ref b2), .val (.int (1 : Int32))] [(.long q1), (.int (1 : Int32)), (.int (2 : Int32)), (.ref b1), (.ref b2)])) rfl (by rw [hml]; rfl) (argsL := [(.ref b2), (.ref b1), (.int (2 : Int32)), (.int (1 : Int32)), (.long q1)]) (rest := []) (lenOf pd_285bB5bBIIJ29Z rfl) rfl (by show 2 * 0 + _ ≤ _; exact Nat.le_of_eq rfl) (hb hby at_122) (fun _ _ => ⟨rfl, e7, (by decide : 2 + 0 ≤ _), (by decide : 3 + 0 ≤ _)⟩)
  dsimp only [Pt.U, Pt.locs, Pt.cells, Pt.slots] at X8 l8 y8 z8 st8 hQ8
  subst l8 y8 z8
  obtain ⟨rfl, N8q, e8⟩ := hQ8
  have N8 := Fr.app N7 N8q
  obtain ⟨_, _, ⟨T9, L9, k9, n9⟩, -, X9, ⟨Lc9, hQ9, l9, y9, z9⟩, st9⟩ := Jvm.LawKit.callS X8 hx (y := (⟨"com/example/usrset/usrset/store/KeyPastTuplesOfPinLaw", "same", "([B[BIIJ)Z"⟩ : MethodName)) hown (mvT hZ (hw _ (List.mem_of_getElem? (i := 22) rfl))) (mvT hZ (hw _ (List.mem_of_getElem? (i := 23) rfl))) (mvT hZ (hw _ (List.mem_of_getElem? (i := 3) rfl))) (mvT hZ (hw _ (List.mem_of_getElem? (i := 24) rfl))) (by decide) (backOf (W := 0) (rm5_a l Z a0 hw [] b2 b1 (3 : Int32) (1 : Int32) q1 h2 n0 Z2 (by decide)) hZ (hw _ (List.mem_of_getElem? (i := 24) rfl)) (hw _ (List.mem_of_getElem? (i := 3) rfl)) (by decide) (by decide)) (g := (mkF m 147 #[.val (.int p0), .val (.long q1), .second, .val (.int (1 : Int32)), .val (.ref b1), .val (.ref b2), .val (.int (1 : Int32))] [(.long q1), (.int (1 : Int32)), (.int (3 : Int32)), (.ref b1), (.ref b2)])) rfl (by rw [hml]; rfl) (argsL := [(.ref b2), (.ref b1), (.int (3 : Int32)), (.int (1 : Int32)), (.long q1)]) (rest := []) (lenOf pd_285bB5bBIIJ29Z rfl) rfl (by show 2 * 0 + _ ≤ _; exact Nat.le_of_eq rfl) (hb hby at_147) (fun _ _ => ⟨rfl, e8, (by decide : 2 + 0 ≤ _), (by decide : 3 + 0 ≤ _)⟩)
  dsimp only [Pt.U, Pt.locs, Pt.cells, Pt.slots] at X9 l9 y9 z9 st9 hQ9
  subst l9 y9 z9
  obtain ⟨rfl, N9q, e9⟩ := hQ9
  have N9 := Fr.app N8 N9q
  obtain ⟨_, _, ⟨T10, L10, k10, n10⟩, -, X10, ⟨Lc10, hQ10, l10, y10, z10⟩, st10⟩ := Jvm.LawKit.callS X9 hx (y := (⟨"com/example/usrset/usrset/store/KeyPastTuplesOfPinLaw", "same", "([B[BIIJ)Z"⟩ : MethodName)) hown (mvT hZ (hw _ (List.mem_of_getElem? (i := 22) rfl))) (mvT hZ (hw _ (List.mem_of_getElem? (i := 23) rfl))) (mvT hZ (hw _ (List.mem_of_getElem? (i := 3) rfl))) (mvT hZ (hw _ (List.mem_of_getElem? (i := 24) rfl))) (by decide) (backOf (W := 0) (rm5_a l Z a0 hw [] b2 b1 (4 : Int32) (1 : Int32) q1 h2 n0 Z2 (by decide)) hZ (hw _ (List.mem_of_getElem? (i := 24) rfl)) (hw _ (List.mem_of_getElem? (i := 3) rfl)) (by decide) (by decide)) (g := (mkF m 172 #[.val (.int p0), .val (.long q1), .second, .val (.int (1 : Int32)), .val (.ref b1), .val (.ref b2), .val (.int (1 : Int32))] [(.long q1), (.int (1 : Int32)), (.int (4 : Int32)), (.ref b1), (.ref b2)])) rfl (by rw [hml]; rfl) (argsL := [(.ref b2), (.ref b1), (.int (4 : Int32)), (.int (1 : Int32)), (.long q1)]) (rest := []) (lenOf pd_285bB5bBIIJ29Z rfl) rfl (by show 2 * 0 + _ ≤ _; exact Nat.le_of_eq rfl) (hb hby at_172) (fun _ _ => ⟨rfl, e9, (by decide : 2 + 0 ≤ _), (by decide : 3 + 0 ≤ _)⟩)
  dsimp only [Pt.U, Pt.locs, Pt.cells, Pt.slots] at X10 l10 y10 z10 st10 hQ10
  subst l10 y10 z10
  obtain ⟨rfl, N10q, e10⟩ := hQ10
  have N10 := Fr.app N9 N10q
  obtain ⟨fs, hr, hrun, hended, hW, hsame⟩ := X10.leave (v := some (.int (1 : Int32))) (fun h => by rw [Bd.returns] at h; cases h)
  refine ⟨_, _, pre0 _ ?_, hrun, hended, _, _, rfl, ?_, ⟨_, rfl⟩, hW, hsame.mono (by decide) (by decide)⟩
  · show Steps p.tables e below (s₁.setTop (mkF m 0 #[.val (.int p0), .val (.long q1), .second, .unset, .unset, .unset, .unset] [])) _
    refine sp0 _ ?_
    show Steps p.tables e below (s₁.setTop (mkF m 8 #[.val (.int p0), .val (.long q1), .second, .val (.int (1 : Int32)), .unset, .unset, .unset] [])) _
    refine XS.iloadN X0.here hx rfl (hb hby at_8) rfl ?_
    show Steps p.tables e below (s₁.setTop (mkF m 9 #[.val (.int p0), .val (.long q1), .second, .val (.int (1 : Int32)), .unset, .unset, .unset] [(.int (1 : Int32))])) _
    refine XS.lloadN X0.here hx rfl (hb hby at_9) rfl ?_
    show Steps p.tables e below (s₁.setTop (mkF m 10 #[.val (.int p0), .val (.long q1), .second, .val (.int (1 : Int32)), .unset, .unset, .unset] [(.long q1), (.int (1 : Int32))])) _
    refine st1 _ ?_
    show Steps p.tables e below (T1.setTop (mkF m 13 #[.val (.int p0), .val (.long q1), .second, .val (.int (1 : Int32)), .unset, .unset, .unset] [(.ref b1)])) _
    refine XS.astore X1.here hx rfl (hb hby at_13) rfl rfl (l' := #[.val (.int p0), .val (.long q1), .second, .val (.int (1 : Int32)), .val (.ref b1), .unset, .unset]) rfl ?_
    show Steps p.tables e below (T1.setTop (mkF m 15 #[.val (.int p0), .val (.long q1), .second, .val (.int (1 : Int32)), .val (.ref b1), .unset, .unset] [])) _
    refine XS.aload X1.here hx rfl (hb hby at_15) rfl rfl ?_
    show Steps p.tables e below (T1.setTop (mkF m 17 #[.val (.int p0), .val (.long q1), .second, .val (.int (1 : Int32)), .val (.ref b1), .unset, .unset] [(.ref b1)])) _
    refine st2 _ ?_
    show Steps p.tables e below (T2.setTop (mkF m 20 #[.val (.int p0), .val (.long q1), .second, .val (.int (1 : Int32)), .val (.ref b1), .unset, .unset] [(.ref b2)])) _
    refine XS.astore X2.here hx rfl (hb hby at_20) rfl rfl (l' := #[.val (.int p0), .val (.long q1), .second, .val (.int (1 : Int32)), .val (.ref b1), .val (.ref b2), .unset]) rfl ?_
    show Steps p.tables e below (T2.setTop (mkF m 22 #[.val (.int p0), .val (.long q1), .second, .val (.int (1 : Int32)), .val (.ref b1), .val (.ref b2), .unset] [])) _
    refine XS.aload X2.here hx rfl (hb hby at_22) rfl rfl ?_
    show Steps p.tables e below (T2.setTop (mkF m 24 #[.val (.int p0), .val (.long q1), .second, .val (.int (1 : Int32)), .val (.ref b1), .val (.ref b2), .unset] [(.ref b2)])) _
    refine XS.ifnullNo X2.here hx rfl (hb hby at_24) rfl ?_
    show Steps p.tables e below (T2.setTop (mkF m 27 #[.val (.int p0), .val (.long q1), .second, .val (.int (1 : Int32)), .val (.ref b1), .val (.ref b2), .unset] [])) _
    refine XS.aload X2.here hx rfl (hb hby at_27) rfl rfl ?_
    show Steps p.tables e below (T2.setTop (mkF m 29 #[.val (.int p0), .val (.long q1), .second, .val (.int (1 : Int32)), .val (.ref b1), .val (.ref b2), .unset] [(.ref b2)])) _
    refine X2.arraylength hx (by rw [e2]; exact Ar_29_3.1) (State.isArrayOf_alike hZ.alike Ar_29_3.2.1) (g := (mkF m 29 #[.val (.int p0), .val (.long q1), .second, .val (.int (1 : Int32)), .val (.ref b1), .val (.ref b2), .unset] [(.ref b2)])) rfl rfl (hb hby at_29) _ ?_
    rw [len_of S_29_3 M_29_3]
    show Steps p.tables e below (T2.setTop (mkF m 30 #[.val (.int p0), .val (.long q1), .second, .val (.int (1 : Int32)), .val (.ref b1), .val (.ref b2), .unset] [(.int (2 : Int32))])) _
    refine XS.iloadN X2.here hx rfl (hb hby at_30) rfl ?_
    show Steps p.tables e below (T2.setTop (mkF m 31 #[.val (.int p0), .val (.long q1), .second, .val (.int (1 : Int32)), .val (.ref b1), .val (.ref b2), .unset] [(.int (1 : Int32)), (.int (2 : Int32))])) _
    refine XS.iconst X2.here hx rfl (hb hby at_31) ?_
    show Steps p.tables e below (T2.setTop (mkF m 32 #[.val (.int p0), .val (.long q1), .second, .val (.int (1 : Int32)), .val (.ref b1), .val (.ref b2), .unset] [(.int (1 : Int32)), (.int (1 : Int32)), (.int (2 : Int32))])) _
    refine XS.iadd X2.here hx rfl (hb hby at_32) rfl ?_
    show Steps p.tables e below (T2.setTop (mkF m 33 #[.val (.int p0), .val (.long q1), .second, .val (.int (1 : Int32)), .val (.ref b1), .val (.ref b2), .unset] [(.int (2 : Int32)), (.int (2 : Int32))])) _
    refine XS.icmpNo X2.here hx rfl (hb hby at_33) rfl (teq (by decide : (2 : Int32) = (2 : Int32))).2 ?_
    show Steps p.tables e below (T2.setTop (mkF m 36 #[.val (.int p0), .val (.long q1), .second, .val (.int (1 : Int32)), .val (.ref b1), .val (.ref b2), .unset] [])) _
    refine XS.aload X2.here hx rfl (hb hby at_36) rfl rfl ?_
    show Steps p.tables e below (T2.setTop (mkF m 38 #[.val (.int p0), .val (.long q1), .second, .val (.int (1 : Int32)), .val (.ref b1), .val (.ref b2), .unset] [(.ref b1)])) _
    refine X2.arraylength hx (by rw [e2]; exact Ar_38_4.1) (State.isArrayOf_alike hZ.alike Ar_38_4.2.1) (g := (mkF m 38 #[.val (.int p0), .val (.long q1), .second, .val (.int (1 : Int32)), .val (.ref b1), .val (.ref b2), .unset] [(.ref b1)])) rfl rfl (hb hby at_38) _ ?_
    rw [len_of S_38_4 M_38_4]
    show Steps p.tables e below (T2.setTop (mkF m 39 #[.val (.int p0), .val (.long q1), .second, .val (.int (1 : Int32)), .val (.ref b1), .val (.ref b2), .unset] [(.int (1 : Int32))])) _
    refine XS.iloadN X2.here hx rfl (hb hby at_39) rfl ?_
    show Steps p.tables e below (T2.setTop (mkF m 40 #[.val (.int p0), .val (.long q1), .second, .val (.int (1 : Int32)), .val (.ref b1), .val (.ref b2), .unset] [(.int (1 : Int32)), (.int (1 : Int32))])) _
    refine XS.icmpYes X2.here hx rfl (pc0 := 40) (pc' := 45) rfl (hb hby at_40) rfl (teq (by decide : (1 : Int32) = (1 : Int32))).1 (by decide) (by decide) ?_
    show Steps p.tables e below (T2.setTop (mkF m 45 #[.val (.int p0), .val (.long q1), .second, .val (.int (1 : Int32)), .val (.ref b1), .val (.ref b2), .unset] [])) _
    refine XS.aload X2.here hx rfl (hb hby at_45) rfl rfl ?_
    show Steps p.tables e below (T2.setTop (mkF m 47 #[.val (.int p0), .val (.long q1), .second, .val (.int (1 : Int32)), .val (.ref b1), .val (.ref b2), .unset] [(.ref b2)])) _
    refine XS.iloadN X2.here hx rfl (hb hby at_47) rfl ?_
    show Steps p.tables e below (T2.setTop (mkF m 48 #[.val (.int p0), .val (.long q1), .second, .val (.int (1 : Int32)), .val (.ref b1), .val (.ref b2), .unset] [(.int (1 : Int32)), (.ref b2)])) _
    refine X2.baloadBytes hx (j := (1 : Int32)) (v := (.int (-1 : Int32))) (by rw [e2]; exact Ar_48_5.1) (State.isArrayOf_alike hZ.alike Ar_48_5.2.1) Ar_48_5.2.2 hin48_5 hat48_5 (g := (mkF m 48 #[.val (.int p0), .val (.long q1), .second, .val (.int (1 : Int32)), .val (.ref b1), .val (.ref b2), .unset] [(.int (1 : Int32)), (.ref b2)])) rfl rfl (hb hby at_48) _ ?_
    show Steps p.tables e below (T2.setTop (mkF m 49 #[.val (.int p0), .val (.long q1), .second, .val (.int (1 : Int32)), .val (.ref b1), .val (.ref b2), .unset] [(.int (-1 : Int32))])) _
    refine XS.iconst X2.here hx rfl (hb hby at_49) ?_
    show Steps p.tables e below (T2.setTop (mkF m 50 #[.val (.int p0), .val (.long q1), .second, .val (.int (1 : Int32)), .val (.ref b1), .val (.ref b2), .unset] [(.int (-1 : Int32)), (.int (-1 : Int32))])) _
    refine XS.icmpNo X2.here hx rfl (hb hby at_50) rfl (teq (by decide : (-1 : Int32) = (-1 : Int32))).2 ?_
    show Steps p.tables e below (T2.setTop (mkF m 53 #[.val (.int p0), .val (.long q1), .second, .val (.int (1 : Int32)), .val (.ref b1), .val (.ref b2), .unset] [])) _
    refine XS.iconst X2.here hx rfl (hb hby at_53) ?_
    show Steps p.tables e below (T2.setTop (mkF m 54 #[.val (.int p0), .val (.long q1), .second, .val (.int (1 : Int32)), .val (.ref b1), .val (.ref b2), .unset] [(.int (1 : Int32))])) _
    refine XS.goto X2.here hx rfl (pc0 := 54) (pc' := 58) rfl (hb hby at_54) (by decide) (by decide) ?_
    show Steps p.tables e below (T2.setTop (mkF m 58 #[.val (.int p0), .val (.long q1), .second, .val (.int (1 : Int32)), .val (.ref b1), .val (.ref b2), .unset] [(.int (1 : Int32))])) _
    refine XS.istore X2.here hx rfl (hb hby at_58) rfl (l' := #[.val (.int p0), .val (.long q1), .second, .val (.int (1 : Int32)), .val (.ref b1), .val (.ref b2), .val (.int (1 : Int32))]) rfl ?_
    show Steps p.tables e below (T2.setTop (mkF m 60 #[.val (.int p0), .val (.long q1), .second, .val (.int (1 : Int32)), .val (.ref b1), .val (.ref b2), .val (.int (1 : Int32))] [])) _
    refine XS.iload X2.here hx rfl (hb hby at_60) rfl ?_
    show Steps p.tables e below (T2.setTop (mkF m 62 #[.val (.int p0), .val (.long q1), .second, .val (.int (1 : Int32)), .val (.ref b1), .val (.ref b2), .val (.int (1 : Int32))] [(.int (1 : Int32))])) _
    refine XS.ifNo X2.here hx rfl (hb hby at_62) rfl ((if0 _ _).trans (feq (by decide : ¬ ((1 : Int32) = (0 : Int32)))).1) ?_
    show Steps p.tables e below (T2.setTop (mkF m 65 #[.val (.int p0), .val (.long q1), .second, .val (.int (1 : Int32)), .val (.ref b1), .val (.ref b2), .val (.int (1 : Int32))] [])) _
    refine XS.aload X2.here hx rfl (hb hby at_65) rfl rfl ?_
    show Steps p.tables e below (T2.setTop (mkF m 67 #[.val (.int p0), .val (.long q1), .second, .val (.int (1 : Int32)), .val (.ref b1), .val (.ref b2), .val (.int (1 : Int32))] [(.ref b2)])) _
    refine XS.aload X2.here hx rfl (hb hby at_67) rfl rfl ?_
    show Steps p.tables e below (T2.setTop (mkF m 69 #[.val (.int p0), .val (.long q1), .second, .val (.int (1 : Int32)), .val (.ref b1), .val (.ref b2), .val (.int (1 : Int32))] [(.ref b1), (.ref b2)])) _
    refine XS.iconst X2.here hx rfl (hb hby at_69) ?_
    show Steps p.tables e below (T2.setTop (mkF m 70 #[.val (.int p0), .val (.long q1), .second, .val (.int (1 : Int32)), .val (.ref b1), .val (.ref b2), .val (.int (1 : Int32))] [(.int (0 : Int32)), (.ref b1), (.ref b2)])) _
    refine XS.iloadN X2.here hx rfl (hb hby at_70) rfl ?_
    show Steps p.tables e below (T2.setTop (mkF m 71 #[.val (.int p0), .val (.long q1), .second, .val (.int (1 : Int32)), .val (.ref b1), .val (.ref b2), .val (.int (1 : Int32))] [(.int (1 : Int32)), (.int (0 : Int32)), (.ref b1), (.ref b2)])) _
    refine XS.lloadN X2.here hx rfl (hb hby at_71) rfl ?_
    show Steps p.tables e below (T2.setTop (mkF m 72 #[.val (.int p0), .val (.long q1), .second, .val (.int (1 : Int32)), .val (.ref b1), .val (.ref b2), .val (.int (1 : Int32))] [(.long q1), (.int (1 : Int32)), (.int (0 : Int32)), (.ref b1), (.ref b2)])) _
    refine st6 _ ?_
    show Steps p.tables e below (T6.setTop (mkF m 75 #[.val (.int p0), .val (.long q1), .second, .val (.int (1 : Int32)), .val (.ref b1), .val (.ref b2), .val (.int (1 : Int32))] [(.int (1 : Int32))])) _
    refine XS.ifNo X6.here hx rfl (hb hby at_75) rfl ((if0 _ _).trans (feq (by decide : ¬ ((1 : Int32) = (0 : Int32)))).1) ?_
    show Steps p.tables e below (T6.setTop (mkF m 78 #[.val (.int p0), .val (.long q1), .second, .val (.int (1 : Int32)), .val (.ref b1), .val (.ref b2), .val (.int (1 : Int32))] [])) _
    refine XS.iconst X6.here hx rfl (hb hby at_78) ?_
    show Steps p.tables e below (T6.setTop (mkF m 79 #[.val (.int p0), .val (.long q1), .second, .val (.int (1 : Int32)), .val (.ref b1), .val (.ref b2), .val (.int (1 : Int32))] [(.int (1 : Int32))])) _
    refine XS.goto X6.here hx rfl (pc0 := 79) (pc' := 83) rfl (hb hby at_79) (by decide) (by decide) ?_
    show Steps p.tables e below (T6.setTop (mkF m 83 #[.val (.int p0), .val (.long q1), .second, .val (.int (1 : Int32)), .val (.ref b1), .val (.ref b2), .val (.int (1 : Int32))] [(.int (1 : Int32))])) _
    refine XS.istore X6.here hx rfl (hb hby at_83) rfl (l' := #[.val (.int p0), .val (.long q1), .second, .val (.int (1 : Int32)), .val (.ref b1), .val (.ref b2), .val (.int (1 : Int32))]) rfl ?_
    show Steps p.tables e below (T6.setTop (mkF m 85 #[.val (.int p0), .val (.long q1), .second, .val (.int (1 : Int32)), .val (.ref b1), .val (.ref b2), .val (.int (1 : Int32))] [])) _
    refine XS.iload X6.here hx rfl (hb hby at_85) rfl ?_
    show Steps p.tables e below (T6.setTop (mkF m 87 #[.val (.int p0), .val (.long q1), .second, .val (.int (1 : Int32)), .val (.ref b1), .val (.ref b2), .val (.int (1 : Int32))] [(.int (1 : Int32))])) _
    refine XS.ifNo X6.here hx rfl (hb hby at_87) rfl ((if0 _ _).trans (feq (by decide : ¬ ((1 : Int32) = (0 : Int32)))).1) ?_
    show Steps p.tables e below (T6.setTop (mkF m 90 #[.val (.int p0), .val (.long q1), .second, .val (.int (1 : Int32)), .val (.ref b1), .val (.ref b2), .val (.int (1 : Int32))] [])) _
    refine XS.aload X6.here hx rfl (hb hby at_90) rfl rfl ?_
    show Steps p.tables e below (T6.setTop (mkF m 92 #[.val (.int p0), .val (.long q1), .second, .val (.int (1 : Int32)), .val (.ref b1), .val (.ref b2), .val (.int (1 : Int32))] [(.ref b2)])) _
    refine XS.aload X6.here hx rfl (hb hby at_92) rfl rfl ?_
    show Steps p.tables e below (T6.setTop (mkF m 94 #[.val (.int p0), .val (.long q1), .second, .val (.int (1 : Int32)), .val (.ref b1), .val (.ref b2), .val (.int (1 : Int32))] [(.ref b1), (.ref b2)])) _
    refine XS.iconst X6.here hx rfl (hb hby at_94) ?_
    show Steps p.tables e below (T6.setTop (mkF m 95 #[.val (.int p0), .val (.long q1), .second, .val (.int (1 : Int32)), .val (.ref b1), .val (.ref b2), .val (.int (1 : Int32))] [(.int (1 : Int32)), (.ref b1), (.ref b2)])) _
    refine XS.iloadN X6.here hx rfl (hb hby at_95) rfl ?_
    show Steps p.tables e below (T6.setTop (mkF m 96 #[.val (.int p0), .val (.long q1), .second, .val (.int (1 : Int32)), .val (.ref b1), .val (.ref b2), .val (.int (1 : Int32))] [(.int (1 : Int32)), (.int (1 : Int32)), (.ref b1), (.ref b2)])) _
    refine XS.lloadN X6.here hx rfl (hb hby at_96) rfl ?_
    show Steps p.tables e below (T6.setTop (mkF m 97 #[.val (.int p0), .val (.long q1), .second, .val (.int (1 : Int32)), .val (.ref b1), .val (.ref b2), .val (.int (1 : Int32))] [(.long q1), (.int (1 : Int32)), (.int (1 : Int32)), (.ref b1), (.ref b2)])) _
    refine st7 _ ?_
    show Steps p.tables e below (T7.setTop (mkF m 100 #[.val (.int p0), .val (.long q1), .second, .val (.int (1 : Int32)), .val (.ref b1), .val (.ref b2), .val (.int (1 : Int32))] [(.int (1 : Int32))])) _
    refine XS.ifNo X7.here hx rfl (hb hby at_100) rfl ((if0 _ _).trans (feq (by decide : ¬ ((1 : Int32) = (0 : Int32)))).1) ?_
    show Steps p.tables e below (T7.setTop (mkF m 103 #[.val (.int p0), .val (.long q1), .second, .val (.int (1 : Int32)), .val (.ref b1), .val (.ref b2), .val (.int (1 : Int32))] [])) _
    refine XS.iconst X7.here hx rfl (hb hby at_103) ?_
    show Steps p.tables e below (T7.setTop (mkF m 104 #[.val (.int p0), .val (.long q1), .second, .val (.int (1 : Int32)), .val (.ref b1), .val (.ref b2), .val (.int (1 : Int32))] [(.int (1 : Int32))])) _
    refine XS.goto X7.here hx rfl (pc0 := 104) (pc' := 108) rfl (hb hby at_104) (by decide) (by decide) ?_
    show Steps p.tables e below (T7.setTop (mkF m 108 #[.val (.int p0), .val (.long q1), .second, .val (.int (1 : Int32)), .val (.ref b1), .val (.ref b2), .val (.int (1 : Int32))] [(.int (1 : Int32))])) _
    refine XS.istore X7.here hx rfl (hb hby at_108) rfl (l' := #[.val (.int p0), .val (.long q1), .second, .val (.int (1 : Int32)), .val (.ref b1), .val (.ref b2), .val (.int (1 : Int32))]) rfl ?_
    show Steps p.tables e below (T7.setTop (mkF m 110 #[.val (.int p0), .val (.long q1), .second, .val (.int (1 : Int32)), .val (.ref b1), .val (.ref b2), .val (.int (1 : Int32))] [])) _
    refine XS.iload X7.here hx rfl (hb hby at_110) rfl ?_
    show Steps p.tables e below (T7.setTop (mkF m 112 #[.val (.int p0), .val (.long q1), .second, .val (.int (1 : Int32)), .val (.ref b1), .val (.ref b2), .val (.int (1 : Int32))] [(.int (1 : Int32))])) _
    refine XS.ifNo X7.here hx rfl (hb hby at_112) rfl ((if0 _ _).trans (feq (by decide : ¬ ((1 : Int32) = (0 : Int32)))).1) ?_
    show Steps p.tables e below (T7.setTop (mkF m 115 #[.val (.int p0), .val (.long q1), .second, .val (.int (1 : Int32)), .val (.ref b1), .val (.ref b2), .val (.int (1 : Int32))] [])) _
    refine XS.aload X7.here hx rfl (hb hby at_115) rfl rfl ?_
    show Steps p.tables e below (T7.setTop (mkF m 117 #[.val (.int p0), .val (.long q1), .second, .val (.int (1 : Int32)), .val (.ref b1), .val (.ref b2), .val (.int (1 : Int32))] [(.ref b2)])) _
    refine XS.aload X7.here hx rfl (hb hby at_117) rfl rfl ?_
    show Steps p.tables e below (T7.setTop (mkF m 119 #[.val (.int p0), .val (.long q1), .second, .val (.int (1 : Int32)), .val (.ref b1), .val (.ref b2), .val (.int (1 : Int32))] [(.ref b1), (.ref b2)])) _
    refine XS.iconst X7.here hx rfl (hb hby at_119) ?_
    show Steps p.tables e below (T7.setTop (mkF m 120 #[.val (.int p0), .val (.long q1), .second, .val (.int (1 : Int32)), .val (.ref b1), .val (.ref b2), .val (.int (1 : Int32))] [(.int (2 : Int32)), (.ref b1), (.ref b2)])) _
    refine XS.iloadN X7.here hx rfl (hb hby at_120) rfl ?_
    show Steps p.tables e below (T7.setTop (mkF m 121 #[.val (.int p0), .val (.long q1), .second, .val (.int (1 : Int32)), .val (.ref b1), .val (.ref b2), .val (.int (1 : Int32))] [(.int (1 : Int32)), (.int (2 : Int32)), (.ref b1), (.ref b2)])) _
    refine XS.lloadN X7.here hx rfl (hb hby at_121) rfl ?_
    show Steps p.tables e below (T7.setTop (mkF m 122 #[.val (.int p0), .val (.long q1), .second, .val (.int (1 : Int32)), .val (.ref b1), .val (.ref b2), .val (.int (1 : Int32))] [(.long q1), (.int (1 : Int32)), (.int (2 : Int32)), (.ref b1), (.ref b2)])) _
    refine st8 _ ?_
    show Steps p.tables e below (T8.setTop (mkF m 125 #[.val (.int p0), .val (.long q1), .second, .val (.int (1 : Int32)), .val (.ref b1), .val (.ref b2), .val (.int (1 : Int32))] [(.int (1 : Int32))])) _
    refine XS.ifNo X8.here hx rfl (hb hby at_125) rfl ((if0 _ _).trans (feq (by decide : ¬ ((1 : Int32) = (0 : Int32)))).1) ?_
    show Steps p.tables e below (T8.setTop (mkF m 128 #[.val (.int p0), .val (.long q1), .second, .val (.int (1 : Int32)), .val (.ref b1), .val (.ref b2), .val (.int (1 : Int32))] [])) _
    refine XS.iconst X8.here hx rfl (hb hby at_128) ?_
    show Steps p.tables e below (T8.setTop (mkF m 129 #[.val (.int p0), .val (.long q1), .second, .val (.int (1 : Int32)), .val (.ref b1), .val (.ref b2), .val (.int (1 : Int32))] [(.int (1 : Int32))])) _
    refine XS.goto X8.here hx rfl (pc0 := 129) (pc' := 133) rfl (hb hby at_129) (by decide) (by decide) ?_
    show Steps p.tables e below (T8.setTop (mkF m 133 #[.val (.int p0), .val (.long q1), .second, .val (.int (1 : Int32)), .val (.ref b1), .val (.ref b2), .val (.int (1 : Int32))] [(.int (1 : Int32))])) _
    refine XS.istore X8.here hx rfl (hb hby at_133) rfl (l' := #[.val (.int p0), .val (.long q1), .second, .val (.int (1 : Int32)), .val (.ref b1), .val (.ref b2), .val (.int (1 : Int32))]) rfl ?_
    show Steps p.tables e below (T8.setTop (mkF m 135 #[.val (.int p0), .val (.long q1), .second, .val (.int (1 : Int32)), .val (.ref b1), .val (.ref b2), .val (.int (1 : Int32))] [])) _
    refine XS.iload X8.here hx rfl (hb hby at_135) rfl ?_
    show Steps p.tables e below (T8.setTop (mkF m 137 #[.val (.int p0), .val (.long q1), .second, .val (.int (1 : Int32)), .val (.ref b1), .val (.ref b2), .val (.int (1 : Int32))] [(.int (1 : Int32))])) _
    refine XS.ifNo X8.here hx rfl (hb hby at_137) rfl ((if0 _ _).trans (feq (by decide : ¬ ((1 : Int32) = (0 : Int32)))).1) ?_
    show Steps p.tables e below (T8.setTop (mkF m 140 #[.val (.int p0), .val (.long q1), .second, .val (.int (1 : Int32)), .val (.ref b1), .val (.ref b2), .val (.int (1 : Int32))] [])) _
    refine XS.aload X8.here hx rfl (hb hby at_140) rfl rfl ?_
    show Steps p.tables e below (T8.setTop (mkF m 142 #[.val (.int p0), .val (.long q1), .second, .val (.int (1 : Int32)), .val (.ref b1), .val (.ref b2), .val (.int (1 : Int32))] [(.ref b2)])) _
    refine XS.aload X8.here hx rfl (hb hby at_142) rfl rfl ?_
    show Steps p.tables e below (T8.setTop (mkF m 144 #[.val (.int p0), .val (.long q1), .second, .val (.int (1 : Int32)), .val (.ref b1), .val (.ref b2), .val (.int (1 : Int32))] [(.ref b1), (.ref b2)])) _
    refine XS.iconst X8.here hx rfl (hb hby at_144) ?_
    show Steps p.tables e below (T8.setTop (mkF m 145 #[.val (.int p0), .val (.long q1), .second, .val (.int (1 : Int32)), .val (.ref b1), .val (.ref b2), .val (.int (1 : Int32))] [(.int (3 : Int32)), (.ref b1), (.ref b2)])) _
    refine XS.iloadN X8.here hx rfl (hb hby at_145) rfl ?_
    show Steps p.tables e below (T8.setTop (mkF m 146 #[.val (.int p0), .val (.long q1), .second, .val (.int (1 : Int32)), .val (.ref b1), .val (.ref b2), .val (.int (1 : Int32))] [(.int (1 : Int32)), (.int (3 : Int32)), (.ref b1), (.ref b2)])) _
    refine XS.lloadN X8.here hx rfl (hb hby at_146) rfl ?_
    show Steps p.tables e below (T8.setTop (mkF m 147 #[.val (.int p0), .val (.long q1), .second, .val (.int (1 : Int32)), .val (.ref b1), .val (.ref b2), .val (.int (1 : Int32))] [(.long q1), (.int (1 : Int32)), (.int (3 : Int32)), (.ref b1), (.ref b2)])) _
    refine st9 _ ?_
    show Steps p.tables e below (T9.setTop (mkF m 150 #[.val (.int p0), .val (.long q1), .second, .val (.int (1 : Int32)), .val (.ref b1), .val (.ref b2), .val (.int (1 : Int32))] [(.int (1 : Int32))])) _
    refine XS.ifNo X9.here hx rfl (hb hby at_150) rfl ((if0 _ _).trans (feq (by decide : ¬ ((1 : Int32) = (0 : Int32)))).1) ?_
    show Steps p.tables e below (T9.setTop (mkF m 153 #[.val (.int p0), .val (.long q1), .second, .val (.int (1 : Int32)), .val (.ref b1), .val (.ref b2), .val (.int (1 : Int32))] [])) _
    refine XS.iconst X9.here hx rfl (hb hby at_153) ?_
    show Steps p.tables e below (T9.setTop (mkF m 154 #[.val (.int p0), .val (.long q1), .second, .val (.int (1 : Int32)), .val (.ref b1), .val (.ref b2), .val (.int (1 : Int32))] [(.int (1 : Int32))])) _
    refine XS.goto X9.here hx rfl (pc0 := 154) (pc' := 158) rfl (hb hby at_154) (by decide) (by decide) ?_
    show Steps p.tables e below (T9.setTop (mkF m 158 #[.val (.int p0), .val (.long q1), .second, .val (.int (1 : Int32)), .val (.ref b1), .val (.ref b2), .val (.int (1 : Int32))] [(.int (1 : Int32))])) _
    refine XS.istore X9.here hx rfl (hb hby at_158) rfl (l' := #[.val (.int p0), .val (.long q1), .second, .val (.int (1 : Int32)), .val (.ref b1), .val (.ref b2), .val (.int (1 : Int32))]) rfl ?_
    show Steps p.tables e below (T9.setTop (mkF m 160 #[.val (.int p0), .val (.long q1), .second, .val (.int (1 : Int32)), .val (.ref b1), .val (.ref b2), .val (.int (1 : Int32))] [])) _
    refine XS.iload X9.here hx rfl (hb hby at_160) rfl ?_
    show Steps p.tables e below (T9.setTop (mkF m 162 #[.val (.int p0), .val (.long q1), .second, .val (.int (1 : Int32)), .val (.ref b1), .val (.ref b2), .val (.int (1 : Int32))] [(.int (1 : Int32))])) _
    refine XS.ifNo X9.here hx rfl (hb hby at_162) rfl ((if0 _ _).trans (feq (by decide : ¬ ((1 : Int32) = (0 : Int32)))).1) ?_
    show Steps p.tables e below (T9.setTop (mkF m 165 #[.val (.int p0), .val (.long q1), .second, .val (.int (1 : Int32)), .val (.ref b1), .val (.ref b2), .val (.int (1 : Int32))] [])) _
    refine XS.aload X9.here hx rfl (hb hby at_165) rfl rfl ?_
    show Steps p.tables e below (T9.setTop (mkF m 167 #[.val (.int p0), .val (.long q1), .second, .val (.int (1 : Int32)), .val (.ref b1), .val (.ref b2), .val (.int (1 : Int32))] [(.ref b2)])) _
    refine XS.aload X9.here hx rfl (hb hby at_167) rfl rfl ?_
    show Steps p.tables e below (T9.setTop (mkF m 169 #[.val (.int p0), .val (.long q1), .second, .val (.int (1 : Int32)), .val (.ref b1), .val (.ref b2), .val (.int (1 : Int32))] [(.ref b1), (.ref b2)])) _
    refine XS.iconst X9.here hx rfl (hb hby at_169) ?_
    show Steps p.tables e below (T9.setTop (mkF m 170 #[.val (.int p0), .val (.long q1), .second, .val (.int (1 : Int32)), .val (.ref b1), .val (.ref b2), .val (.int (1 : Int32))] [(.int (4 : Int32)), (.ref b1), (.ref b2)])) _
    refine XS.iloadN X9.here hx rfl (hb hby at_170) rfl ?_
    show Steps p.tables e below (T9.setTop (mkF m 171 #[.val (.int p0), .val (.long q1), .second, .val (.int (1 : Int32)), .val (.ref b1), .val (.ref b2), .val (.int (1 : Int32))] [(.int (1 : Int32)), (.int (4 : Int32)), (.ref b1), (.ref b2)])) _
    refine XS.lloadN X9.here hx rfl (hb hby at_171) rfl ?_
    show Steps p.tables e below (T9.setTop (mkF m 172 #[.val (.int p0), .val (.long q1), .second, .val (.int (1 : Int32)), .val (.ref b1), .val (.ref b2), .val (.int (1 : Int32))] [(.long q1), (.int (1 : Int32)), (.int (4 : Int32)), (.ref b1), (.ref b2)])) _
    refine st10 _ ?_
    show Steps p.tables e below (T10.setTop (mkF m 175 #[.val (.int p0), .val (.long q1), .second, .val (.int (1 : Int32)), .val (.ref b1), .val (.ref b2), .val (.int (1 : Int32))] [(.int (1 : Int32))])) _
    refine XS.ifNo X10.here hx rfl (hb hby at_175) rfl ((if0 _ _).trans (feq (by decide : ¬ ((1 : Int32) = (0 : Int32)))).1) ?_
    show Steps p.tables e below (T10.setTop (mkF m 178 #[.val (.int p0), .val (.long q1), .second, .val (.int (1 : Int32)), .val (.ref b1), .val (.ref b2), .val (.int (1 : Int32))] [])) _
    refine XS.iconst X10.here hx rfl (hb hby at_178) ?_
    show Steps p.tables e below (T10.setTop (mkF m 179 #[.val (.int p0), .val (.long q1), .second, .val (.int (1 : Int32)), .val (.ref b1), .val (.ref b2), .val (.int (1 : Int32))] [(.int (1 : Int32))])) _
    refine XS.goto X10.here hx rfl (pc0 := 179) (pc' := 183) rfl (hb hby at_179) (by decide) (by decide) ?_
    show Steps p.tables e below (T10.setTop (mkF m 183 #[.val (.int p0), .val (.long q1), .second, .val (.int (1 : Int32)), .val (.ref b1), .val (.ref b2), .val (.int (1 : Int32))] [(.int (1 : Int32))])) _
    refine XS.istore X10.here hx rfl (hb hby at_183) rfl (l' := #[.val (.int p0), .val (.long q1), .second, .val (.int (1 : Int32)), .val (.ref b1), .val (.ref b2), .val (.int (1 : Int32))]) rfl ?_
    show Steps p.tables e below (T10.setTop (mkF m 185 #[.val (.int p0), .val (.long q1), .second, .val (.int (1 : Int32)), .val (.ref b1), .val (.ref b2), .val (.int (1 : Int32))] [])) _
    refine XS.iload X10.here hx rfl (hb hby at_185) rfl ?_
    show Steps p.tables e below (T10.setTop (mkF m 187 #[.val (.int p0), .val (.long q1), .second, .val (.int (1 : Int32)), .val (.ref b1), .val (.ref b2), .val (.int (1 : Int32))] [(.int (1 : Int32))])) _
    exact retN X10 hx (t := .boolean) Bd.returns (by simp) (hb hby at_187) hr
  · show Q0_1 Z p0 q1 h0 n0 _ T10.heap _
    rw [e10]
    exact ⟨rfl, N10⟩
set_option maxRecDepth 65536 in
set_option maxHeartbeats 40000000 in
theorem pc_8_2 {p : Program} {l : Launch} {e : Env} {R : Room} {s : State} {m : MethodId} {args : Array Value} {below : List Frame} {meth : Method} {c : Code} {T0 : State} {locs : List Loc} {cells slots : Nat} {Z : State} {a0 : Array Value} (p0 : Int32) (q1 : Int64)
    (X0 : Stand p l e R s m args below meth c T0 locs cells slots) (hx : p.tables.exec = Jvm.exec) (hZ : Z.Warmed39 s.vm) (hw : ∀ d ∈ tables_1, d.before a0 Z = true) (hby : c.code = code) (hown : s.vm.findClass "com/example/usrset/usrset/store/KeyPastTuplesOfPinLaw" = some m.cls) (hk : own_n p0 = (2 : Int32)) :
    ∀ target, Steps p.tables e below (T0.setTop (mkF m 8 #[.val (.int p0), .val (.long q1), .second, .val (.int (2 : Int32)), .unset, .unset, .unset] [])) target → Steps p.tables e below (T0.setTop (mkF m 0 #[.val (.int p0), .val (.long q1), .second, .unset, .unset, .unset, .unset] [])) target := by
  intro target kt
  show Steps p.tables e below (T0.setTop (mkF m 0 #[.val (.int p0), .val (.long q1), .second, .unset, .unset, .unset, .unset] [])) _
  refine XS.iloadN X0.here hx rfl (hb hby at_0) rfl ?_
  show Steps p.tables e below (T0.setTop (mkF m 1 #[.val (.int p0), .val (.long q1), .second, .unset, .unset, .unset, .unset] [(.int p0)])) _
  refine X0.ldcInt hx hown (mvT hZ (hw _ (List.mem_of_getElem? (i := 0) rfl))) (g := (mkF m 1 #[.val (.int p0), .val (.long q1), .second, .unset, .unset, .unset, .unset] [(.int p0)])) rfl (hb hby at_1) _ ?_
  show Steps p.tables e below (T0.setTop (mkF m 3 #[.val (.int p0), .val (.long q1), .second, .unset, .unset, .unset, .unset] [(.int (2147483647 : Int32)), (.int p0)])) _
  refine XS.iand X0.here hx rfl (hb hby at_3) rfl ?_
  show Steps p.tables e below (T0.setTop (mkF m 4 #[.val (.int p0), .val (.long q1), .second, .unset, .unset, .unset, .unset] [(.int (p0 &&& (2147483647 : Int32)))])) _
  refine XS.bipush X0.here hx rfl (hb hby at_4) ?_
  show Steps p.tables e below (T0.setTop (mkF m 6 #[.val (.int p0), .val (.long q1), .second, .unset, .unset, .unset, .unset] [(.int (6 : Int32)), (.int (p0 &&& (2147483647 : Int32)))])) _
  refine XS.irem X0.here hx rfl (hb hby at_6) rfl (by decide) ?_
  show Steps p.tables e below (T0.setTop (mkF m 7 #[.val (.int p0), .val (.long q1), .second, .unset, .unset, .unset, .unset] [(.int ((p0 &&& (2147483647 : Int32)) - ((p0 &&& (2147483647 : Int32)) / (6 : Int32)) * (6 : Int32)))])) _
  refine XS.istoreN X0.here hx rfl (hb hby at_7) rfl (l' := #[.val (.int p0), .val (.long q1), .second, .val (.int ((p0 &&& (2147483647 : Int32)) - ((p0 &&& (2147483647 : Int32)) / (6 : Int32)) * (6 : Int32))), .unset, .unset, .unset]) rfl ?_
  show Steps p.tables e below (T0.setTop (mkF m 8 #[.val (.int p0), .val (.long q1), .second, .val (.int ((p0 &&& (2147483647 : Int32)) - ((p0 &&& (2147483647 : Int32)) / (6 : Int32)) * (6 : Int32))), .unset, .unset, .unset] [])) _
  have et : ((p0 &&& (2147483647 : Int32)) - ((p0 &&& (2147483647 : Int32)) / (6 : Int32)) * (6 : Int32)) = (2 : Int32) := hk
  rw [et]
  exact kt
theorem ef_0_2 (m : MethodId) (x0 : Int32) (x1 : Int64) : entryFrame m #[(.int x0), (.long x1)] maxLocals = mkF m 0 #[.val (.int x0), .val (.long x1), .second, .unset, .unset, .unset, .unset] [] := by first | (simp [entryFrame, mkF, argsToLocals, Value.category, maxLocals]; done) | rfl
def Q0_2 (Z : State) (p0 : Int32) (q1 : Int64) (h0 : Heap) (n0 : Nat) (v : Option Value) (h : Heap) (L : List Loc) : Prop := v = some (.int 1) ∧ Fr n0 L
set_option maxRecDepth 65536 in
set_option maxHeartbeats 40000000 in
theorem rm0_2 (l : Launch) (Z : State) (a0 : Array Value) (hw : ∀ d ∈ tables_1, d.before a0 Z = true) (ws : List Jvm.Cond) (p0 : Int32) (q1 : Int64) (h0 : Heap) (n0 : Nat) (Z0 : n0 ≤ h0.size) (hk : own_n p0 = (2 : Int32)) :
    MetFree l x (head1 (Jvm.Cond.code x code maxLocals ret :: ws) room_1) (fun a U => a = #[(.int p0), (.long q1)] ∧ Z.Warmed39 U.vm ∧ U.heap = h0) (fun _ _ _ _ _ => True) (fun _ U o U' => ∃ v L, o = .returned v ∧ Q0_2 Z p0 q1 h0 n0 v U'.heap L ∧ FrameEnd U o U' L room_1.cells room_1.slots) := by
  refine MetFree.of_bodySF (plainFor_of_name pn_com_example_usrset_usrset_store_KeyPastTuplesOfPinLaw) hisR ?_
  intro p e s m args below meth c s₁ Bd hml0 hP hK
  obtain ⟨rfl, hZ, hh⟩ := hP
  have hx := Bd.exec
  have hby := Bd.bytes
  have hml : c.maxLocals = 7 := hml0
  have hown : s.vm.findClass "com/example/usrset/usrset/store/KeyPastTuplesOfPinLaw" = some m.cls := findClass_of_methodNamed Bd.named
  have hnm := (name_of_methodNamed Bd.named Bd.method).1
  have X0 : Stand p l e room_1 s m #[(.int p0), (.long q1)] below meth c s₁ [] 0 0 := Stand.of_body Bd
  have e0 : s₁.heap = h0 := by rw [← hh, Bd.state]; rfl
  have N0 := Fr.nil n0
  have pre0 : ∀ t, Steps p.tables e below (s₁.setTop (mkF m 0 #[.val (.int p0), .val (.long q1), .second, .unset, .unset, .unset, .unset] [])) t → Steps p.tables e below (s₁.setTop (entryFrame m #[(.int p0), (.long q1)] maxLocals)) t := fun t k => castTop (ef_0_2 m p0 q1) k
  have sp0 := pc_8_2 p0 q1 X0 hx hZ hw hby hown hk
  obtain ⟨_, _, ⟨T1, L1, k1, n1⟩, -, X1, ⟨Lc1, hQ1, l1, y1, z1⟩, st1⟩ := Jvm.LawKit.callS X0 hx (y := (⟨"com/example/usrset/usrset/store/KeyPastTuplesOfPinLaw", "make", "(IJ)[B"⟩ : MethodName)) hown (mvT hZ (hw _ (List.mem_of_getElem? (i := 1) rfl))) (mvT hZ (hw _ (List.mem_of_getElem? (i := 2) rfl))) (mvT hZ (hw _ (List.mem_of_getElem? (i := 3) rfl))) (mvT hZ (hw _ (List.mem_of_getElem? (i := 4) rfl))) (by decide) (backOf (W := 0) (rm1_2 l Z a0 hw [] q1 h0 n0 Z0) hZ (hw _ (List.mem_of_getElem? (i := 4) rfl)) (hw _ (List.mem_of_getElem? (i := 3) rfl)) (by decide) (by decide)) (g := (mkF m 10 #[.val (.int p0), .val (.long q1), .second, .val (.int (2 : Int32)), .unset, .unset, .unset] [(.long q1), (.int (2 : Int32))])) rfl (by rw [hml]; rfl) (argsL := [(.int (2 : Int32)), (.long q1)]) (rest := []) (lenOf pd_28IJ295bB rfl) rfl (by show 2 * 0 + _ ≤ _; exact Nat.le_of_eq rfl) (hb hby at_10) (fun _ _ => ⟨rfl, e0, (by decide : 0 + 1 ≤ _), (by decide : 0 + 2 ≤ _)⟩)
  dsimp only [Pt.U, Pt.locs, Pt.cells, Pt.slots] at X1 l1 y1 z1 st1 hQ1
  subst l1 y1 z1
  obtain ⟨b1, kb1, rfl, N1q, KK1, gb1, VB1⟩ := hQ1
  obtain ⟨h1, e1⟩ : ∃ z, T1.heap = z := ⟨_, rfl⟩
  rw [e1] at KK1 VB1
  have Z1 : n0 ≤ h1.size := Nat.le_trans Z0 KK1.1
  have g_b1 : n0 ≤ b1 := Nat.le_trans Z0 gb1
  have N1 := Fr.app N0 N1q
  obtain ⟨_, _, ⟨T2, L2, k2, n2⟩, -, X2, ⟨Lc2, hQ2, l2, y2, z2⟩, st2⟩ := Jvm.LawKit.callS X1 hx (y := (⟨"com/example/usrset/usrset/store/Key", "pastTuplesOf", "([B)[B"⟩ : MethodName)) hown (mvT hZ (hw _ (List.mem_of_getElem? (i := 6) rfl))) (mvT hZ (hw _ (List.mem_of_getElem? (i := 7) rfl))) (mvT hZ (hw _ (List.mem_of_getElem? (i := 8) rfl))) (mvT hZ (hw _ (List.mem_of_getElem? (i := 9) rfl))) (by decide) (backOf (W := 0) (rm2_2 l Z a0 hw [] b1 kb1 (own_b q1 (0 : Int32)) (own_b q1 (1 : Int32)) h1 n0 Z1 VB1) hZ (hw _ (List.mem_of_getElem? (i := 9) rfl)) (hw _ (List.mem_of_getElem? (i := 8) rfl)) (by decide) (by decide)) (g := (mkF m 17 #[.val (.int p0), .val (.long q1), .second, .val (.int (2 : Int32)), .val (.ref b1), .unset, .unset] [(.ref b1)])) rfl (by rw [hml]; rfl) (argsL := [(.ref b1)]) (rest := []) (lenOf pd_285bB295bB rfl) rfl (by show 2 * 0 + _ ≤ _; exact Nat.le_of_eq rfl) (hb hby at_17) (fun _ _ => ⟨rfl, e1, (by decide : 1 + 1 ≤ _), (by decide : 2 + 3 ≤ _)⟩)
  dsimp only [Pt.U, Pt.locs, Pt.cells, Pt.slots] at X2 l2 y2 z2 st2 hQ2
  subst l2 y2 z2
  obtain ⟨b2, kb2, rfl, N2q, KK2, gb2, VB2⟩ := hQ2
  obtain ⟨h2, e2⟩ : ∃ z, T2.heap = z := ⟨_, rfl⟩
  rw [e2] at KK2 VB2
  have VB1_at2 : Arv Z h2 b1 kb1 .byte (2 : Int32) [(.int (own_b q1 (0 : Int32))), (.int (own_b q1 (1 : Int32)))] (.int (0 : Int32)) := VB1.keep KK2 nin0
  have Z2 : n0 ≤ h2.size := Nat.le_trans Z1 KK2.1
  have ne_b1_b2 : b1 ≠ b2 := Nat.ne_of_lt (Nat.lt_of_lt_of_le VB1.lt gb2)
  have g_b2 : n0 ≤ b2 := Nat.le_trans Z1 gb2
  have N2 := Fr.app N1 N2q
  obtain ⟨cl_29_3, Ar_29_3, -, S_29_3, M_29_3, -, -⟩ := id VB2
  obtain ⟨cl_38_4, Ar_38_4, -, S_38_4, M_38_4, -, -⟩ := id VB1_at2
  obtain ⟨cl_48_5, Ar_48_5, -, S_48_5, M_48_5, H_48_5, -⟩ := id VB2
  have hin48_5 : ¬ ((2 : Int32) < 0 ∨ cl_48_5.slots.size ≤ ((2 : Int32)).toNatClampNeg) := inb_of S_48_5 ⟨by decide, by decide⟩
  have hat48_5 : cl_48_5.slots[((2 : Int32)).toNatClampNeg]? = some (.int (-1 : Int32)) := H_48_5.at hin48_5 rfl
  obtain ⟨_, _, ⟨T6, L6, k6, n6⟩, -, X6, ⟨Lc6, hQ6, l6, y6, z6⟩, st6⟩ := Jvm.LawKit.callS X2 hx (y := (⟨"com/example/usrset/usrset/store/KeyPastTuplesOfPinLaw", "same", "([B[BIIJ)Z"⟩ : MethodName)) hown (mvT hZ (hw _ (List.mem_of_getElem? (i := 22) rfl))) (mvT hZ (hw _ (List.mem_of_getElem? (i := 23) rfl))) (mvT hZ (hw _ (List.mem_of_getElem? (i := 3) rfl))) (mvT hZ (hw _ (List.mem_of_getElem? (i := 24) rfl))) (by decide) (backOf (W := 0) (rm5_b l Z a0 hw [] b2 b1 (0 : Int32) (2 : Int32) q1 kb2 kb1 (3 : Int32) (2 : Int32) [(.int (own_b q1 (0 : Int32))), (.int (own_b q1 (1 : Int32))), (.int (-1 : Int32))] [(.int (own_b q1 (0 : Int32))), (.int (own_b q1 (1 : Int32)))] h2 n0 Z2 (by decide) (by decide) VB2 (by decide) rfl VB1_at2 (by decide) rfl) hZ (hw _ (List.mem_of_getElem? (i := 24) rfl)) (hw _ (List.mem_of_getElem? (i := 3) rfl)) (by decide) (by decide)) (g := (mkF m 72 #[.val (.int p0), .val (.long q1), .second, .val (.int (2 : Int32)), .val (.ref b1), .val (.ref b2), .val (.int (1 : Int32))] [(.long q1), (.int (2 : Int32)), (.int (0 : Int32)), (.ref b1), (.ref b2)])) rfl (by rw [hml]; rfl) (argsL := [(.ref b2), (.ref b1), (.int (0 : Int32)), (.int (2 : Int32)), (.long q1)]) (rest := []) (lenOf pd_285bB5bBIIJ29Z rfl) rfl (by show 2 * 0 + _ ≤ _; exact Nat.le_of_eq rfl) (hb hby at_72) (fun _ _ => ⟨rfl, e2, (by decide : 2 + 0 ≤ _), (by decide : 5 + 0 ≤ _)⟩)
  dsimp only [Pt.U, Pt.locs, Pt.cells, Pt.slots] at X6 l6 y6 z6 st6 hQ6
  subst l6 y6 z6
  obtain ⟨rfl, N6q, e6⟩ := hQ6
  have N6 := Fr.app N2 N6q
  obtain ⟨_, _, ⟨T7, L7, k7, n7⟩, -, X7, ⟨Lc7, hQ7, l7, y7, z7⟩, st7⟩ := Jvm.LawKit.callS X6 hx (y := (⟨"com/example/usrset/usrset/store/KeyPastTuplesOfPinLaw", "same", "([B[BIIJ)Z"⟩ : MethodName)) hown (mvT hZ (hw _ (List.mem_of_getElem? (i := 22) rfl))) (mvT hZ (hw _ (List.mem_of_getElem? (i := 23) rfl))) (mvT hZ (hw _ (List.mem_of_getElem? (i := 3) rfl))) (mvT hZ (hw _ (List.mem_of_getElem? (i := 24) rfl))) (by decide) (backOf (W := 0) (rm5_b l Z a0 hw [] b2 b1 (1 : Int32) (2 : Int32) q1 kb2 kb1 (3 : Int32) (2 : Int32) [(.int (own_b q1 (0 : Int32))), (.int (own_b q1 (1 : Int32))), (.int (-1 : Int32))] [(.int (own_b q1 (0 : Int32))), (.int (own_b q1 (1 : Int32)))] h2 n0 Z2 (by decide) (by decide) VB2 (by decide) rfl VB1_at2 (by decide) rfl) hZ (hw _ (List.mem_of_getElem? (i := 24) rfl)) (hw _ (List.mem_of_getElem? (i := 3) rfl)) (by decide) (by decide)) (g := (mkF m 97 #[.val (.int p0), .val (.long q1), .second, .val (.int (2 : Int32)), .val (.ref b1), .val (.ref b2), .val (.int (1 : Int32))] [(.long q1), (.int (2 : Int32)), (.int (1 : Int32)), (.ref b1), (.ref b2)])) rfl (by rw [hml]; rfl) (argsL := [(.ref b2), (.ref b1), (.int (1 : Int32)), (.int (2 : Int32)), (.long q1)]) (rest := []) (lenOf pd_285bB5bBIIJ29Z rfl) rfl (by show 2 * 0 + _ ≤ _; exact Nat.le_of_eq rfl) (hb hby at_97) (fun _ _ => ⟨rfl, e6, (by decide : 2 + 0 ≤ _), (by decide : 5 + 0 ≤ _)⟩)
  dsimp only [Pt.U, Pt.locs, Pt.cells, Pt.slots] at X7 l7 y7 z7 st7 hQ7
  subst l7 y7 z7
  obtain ⟨rfl, N7q, e7⟩ := hQ7
  have N7 := Fr.app N6 N7q
  obtain ⟨_, _, ⟨T8, L8, k8, n8⟩, -, X8, ⟨Lc8, hQ8, l8, y8, z8⟩, st8⟩ := Jvm.LawKit.callS X7 hx (y := (⟨"com/example/usrset/usrset/store/KeyPastTuplesOfPinLaw", "same", "([B[BIIJ)Z"⟩ : MethodName)) hown (mvT hZ (hw _ (List.mem_of_getElem? (i := 22) rfl))) (mvT hZ (hw _ (List.mem_of_getElem? (i := 23) rfl))) (mvT hZ (hw _ (List.mem_of_getElem? (i := 3) rfl))) (mvT hZ (hw _ (List.mem_of_getElem? (i := 24) rfl))) (by decide) (backOf (W := 0) (rm5_a l Z a0 hw [] b2 b1 (2 : Int32) (2 : Int32) q1 h2 n0 Z2 (by decide)) hZ (hw _ (List.mem_of_getElem? (i := 24) rfl)) (hw _ (List.mem_of_getElem? (i := 3) rfl)) (by decide) (by decide)) (g := (mkF m 122 #[.val (.int p0), .val (.long q1), .second, .val (.int (2 : Int32)), .val (.ref b1), .val (.ref b2), .val (.int (1 : Int32))] [(.long q1), (.int (2 : Int32)), (.int (2 : Int32)), (.ref b1), (.ref b2)])) rfl (by rw [hml]; rfl) (argsL := [(.ref b2), (.ref b1), (.int (2 : Int32)), (.int (2 : Int32)), (.long q1)]) (rest := []) (lenOf pd_285bB5bBIIJ29Z rfl) rfl (by show 2 * 0 + _ ≤ _; exact Nat.le_of_eq rfl) (hb hby at_122) (fun _ _ => ⟨rfl, e7, (by decide : 2 + 0 ≤ _), (by decide : 5 + 0 ≤ _)⟩)
  dsimp only [Pt.U, Pt.locs, Pt.cells, Pt.slots] at X8 l8 y8 z8 st8 hQ8
  subst l8 y8 z8
  obtain ⟨rfl, N8q, e8⟩ := hQ8
  have N8 := Fr.app N7 N8q
  obtain ⟨_, _, ⟨T9, L9, k9, n9⟩, -, X9, ⟨Lc9, hQ9, l9, y9, z9⟩, st9⟩ := Jvm.LawKit.callS X8 hx (y := (⟨"com/example/usrset/usrset/store/KeyPastTuplesOfPinLaw", "same", "([B[BIIJ)Z"⟩ : MethodName)) hown (mvT hZ (hw _ (List.mem_of_getElem? (i := 22) rfl))) (mvT hZ (hw _ (List.mem_of_getElem? (i := 23) rfl))) (mvT hZ (hw _ (List.mem_of_getElem? (i := 3) rfl))) (mvT hZ (hw _ (List.mem_of_getElem? (i := 24) rfl))) (by decide) (backOf (W := 0) (rm5_a l Z a0 hw [] b2 b1 (3 : Int32) (2 : Int32) q1 h2 n0 Z2 (by decide)) hZ (hw _ (List.mem_of_getElem? (i := 24) rfl)) (hw _ (List.mem_of_getElem? (i := 3) rfl)) (by decide) (by decide)) (g := (mkF m 147 #[.val (.int p0), .val (.long q1), .second, .val (.int (2 : Int32)), .val (.ref b1), .val (.ref b2), .val (.int (1 : Int32))] [(.long q1), (.int (2 : Int32)), (.int (3 : Int32)), (.ref b1), (.ref b2)])) rfl (by rw [hml]; rfl) (argsL := [(.ref b2), (.ref b1), (.int (3 : Int32)), (.int (2 : Int32)), (.long q1)]) (rest := []) (lenOf pd_285bB5bBIIJ29Z rfl) rfl (by show 2 * 0 + _ ≤ _; exact Nat.le_of_eq rfl) (hb hby at_147) (fun _ _ => ⟨rfl, e8, (by decide : 2 + 0 ≤ _), (by decide : 5 + 0 ≤ _)⟩)
  dsimp only [Pt.U, Pt.locs, Pt.cells, Pt.slots] at X9 l9 y9 z9 st9 hQ9
  subst l9 y9 z9
  obtain ⟨rfl, N9q, e9⟩ := hQ9
  have N9 := Fr.app N8 N9q
  obtain ⟨_, _, ⟨T10, L10, k10, n10⟩, -, X10, ⟨Lc10, hQ10, l10, y10, z10⟩, st10⟩ := Jvm.LawKit.callS X9 hx (y := (⟨"com/example/usrset/usrset/store/KeyPastTuplesOfPinLaw", "same", "([B[BIIJ)Z"⟩ : MethodName)) hown (mvT hZ (hw _ (List.mem_of_getElem? (i := 22) rfl))) (mvT hZ (hw _ (List.mem_of_getElem? (i := 23) rfl))) (mvT hZ (hw _ (List.mem_of_getElem? (i := 3) rfl))) (mvT hZ (hw _ (List.mem_of_getElem? (i := 24) rfl))) (by decide) (backOf (W := 0) (rm5_a l Z a0 hw [] b2 b1 (4 : Int32) (2 : Int32) q1 h2 n0 Z2 (by decide)) hZ (hw _ (List.mem_of_getElem? (i := 24) rfl)) (hw _ (List.mem_of_getElem? (i := 3) rfl)) (by decide) (by decide)) (g := (mkF m 172 #[.val (.int p0), .val (.long q1), .second, .val (.int (2 : Int32)), .val (.ref b1), .val (.ref b2), .val (.int (1 : Int32))] [(.long q1), (.int (2 : Int32)), (.int (4 : Int32)), (.ref b1), (.ref b2)])) rfl (by rw [hml]; rfl) (argsL := [(.ref b2), (.ref b1), (.int (4 : Int32)), (.int (2 : Int32)), (.long q1)]) (rest := []) (lenOf pd_285bB5bBIIJ29Z rfl) rfl (by show 2 * 0 + _ ≤ _; exact Nat.le_of_eq rfl) (hb hby at_172) (fun _ _ => ⟨rfl, e9, (by decide : 2 + 0 ≤ _), (by decide : 5 + 0 ≤ _)⟩)
  dsimp only [Pt.U, Pt.locs, Pt.cells, Pt.slots] at X10 l10 y10 z10 st10 hQ10
  subst l10 y10 z10
  obtain ⟨rfl, N10q, e10⟩ := hQ10
  have N10 := Fr.app N9 N10q
  obtain ⟨fs, hr, hrun, hended, hW, hsame⟩ := X10.leave (v := some (.int (1 : Int32))) (fun h => by rw [Bd.returns] at h; cases h)
  refine ⟨_, _, pre0 _ ?_, hrun, hended, _, _, rfl, ?_, ⟨_, rfl⟩, hW, hsame.mono (by decide) (by decide)⟩
  · show Steps p.tables e below (s₁.setTop (mkF m 0 #[.val (.int p0), .val (.long q1), .second, .unset, .unset, .unset, .unset] [])) _
    refine sp0 _ ?_
    show Steps p.tables e below (s₁.setTop (mkF m 8 #[.val (.int p0), .val (.long q1), .second, .val (.int (2 : Int32)), .unset, .unset, .unset] [])) _
    refine XS.iloadN X0.here hx rfl (hb hby at_8) rfl ?_
    show Steps p.tables e below (s₁.setTop (mkF m 9 #[.val (.int p0), .val (.long q1), .second, .val (.int (2 : Int32)), .unset, .unset, .unset] [(.int (2 : Int32))])) _
    refine XS.lloadN X0.here hx rfl (hb hby at_9) rfl ?_
    show Steps p.tables e below (s₁.setTop (mkF m 10 #[.val (.int p0), .val (.long q1), .second, .val (.int (2 : Int32)), .unset, .unset, .unset] [(.long q1), (.int (2 : Int32))])) _
    refine st1 _ ?_
    show Steps p.tables e below (T1.setTop (mkF m 13 #[.val (.int p0), .val (.long q1), .second, .val (.int (2 : Int32)), .unset, .unset, .unset] [(.ref b1)])) _
    refine XS.astore X1.here hx rfl (hb hby at_13) rfl rfl (l' := #[.val (.int p0), .val (.long q1), .second, .val (.int (2 : Int32)), .val (.ref b1), .unset, .unset]) rfl ?_
    show Steps p.tables e below (T1.setTop (mkF m 15 #[.val (.int p0), .val (.long q1), .second, .val (.int (2 : Int32)), .val (.ref b1), .unset, .unset] [])) _
    refine XS.aload X1.here hx rfl (hb hby at_15) rfl rfl ?_
    show Steps p.tables e below (T1.setTop (mkF m 17 #[.val (.int p0), .val (.long q1), .second, .val (.int (2 : Int32)), .val (.ref b1), .unset, .unset] [(.ref b1)])) _
    refine st2 _ ?_
    show Steps p.tables e below (T2.setTop (mkF m 20 #[.val (.int p0), .val (.long q1), .second, .val (.int (2 : Int32)), .val (.ref b1), .unset, .unset] [(.ref b2)])) _
    refine XS.astore X2.here hx rfl (hb hby at_20) rfl rfl (l' := #[.val (.int p0), .val (.long q1), .second, .val (.int (2 : Int32)), .val (.ref b1), .val (.ref b2), .unset]) rfl ?_
    show Steps p.tables e below (T2.setTop (mkF m 22 #[.val (.int p0), .val (.long q1), .second, .val (.int (2 : Int32)), .val (.ref b1), .val (.ref b2), .unset] [])) _
    refine XS.aload X2.here hx rfl (hb hby at_22) rfl rfl ?_
    show Steps p.tables e below (T2.setTop (mkF m 24 #[.val (.int p0), .val (.long q1), .second, .val (.int (2 : Int32)), .val (.ref b1), .val (.ref b2), .unset] [(.ref b2)])) _
    refine XS.ifnullNo X2.here hx rfl (hb hby at_24) rfl ?_
    show Steps p.tables e below (T2.setTop (mkF m 27 #[.val (.int p0), .val (.long q1), .second, .val (.int (2 : Int32)), .val (.ref b1), .val (.ref b2), .unset] [])) _
    refine XS.aload X2.here hx rfl (hb hby at_27) rfl rfl ?_
    show Steps p.tables e below (T2.setTop (mkF m 29 #[.val (.int p0), .val (.long q1), .second, .val (.int (2 : Int32)), .val (.ref b1), .val (.ref b2), .unset] [(.ref b2)])) _
    refine X2.arraylength hx (by rw [e2]; exact Ar_29_3.1) (State.isArrayOf_alike hZ.alike Ar_29_3.2.1) (g := (mkF m 29 #[.val (.int p0), .val (.long q1), .second, .val (.int (2 : Int32)), .val (.ref b1), .val (.ref b2), .unset] [(.ref b2)])) rfl rfl (hb hby at_29) _ ?_
    rw [len_of S_29_3 M_29_3]
    show Steps p.tables e below (T2.setTop (mkF m 30 #[.val (.int p0), .val (.long q1), .second, .val (.int (2 : Int32)), .val (.ref b1), .val (.ref b2), .unset] [(.int (3 : Int32))])) _
    refine XS.iloadN X2.here hx rfl (hb hby at_30) rfl ?_
    show Steps p.tables e below (T2.setTop (mkF m 31 #[.val (.int p0), .val (.long q1), .second, .val (.int (2 : Int32)), .val (.ref b1), .val (.ref b2), .unset] [(.int (2 : Int32)), (.int (3 : Int32))])) _
    refine XS.iconst X2.here hx rfl (hb hby at_31) ?_
    show Steps p.tables e below (T2.setTop (mkF m 32 #[.val (.int p0), .val (.long q1), .second, .val (.int (2 : Int32)), .val (.ref b1), .val (.ref b2), .unset] [(.int (1 : Int32)), (.int (2 : Int32)), (.int (3 : Int32))])) _
    refine XS.iadd X2.here hx rfl (hb hby at_32) rfl ?_
    show Steps p.tables e below (T2.setTop (mkF m 33 #[.val (.int p0), .val (.long q1), .second, .val (.int (2 : Int32)), .val (.ref b1), .val (.ref b2), .unset] [(.int (3 : Int32)), (.int (3 : Int32))])) _
    refine XS.icmpNo X2.here hx rfl (hb hby at_33) rfl (teq (by decide : (3 : Int32) = (3 : Int32))).2 ?_
    show Steps p.tables e below (T2.setTop (mkF m 36 #[.val (.int p0), .val (.long q1), .second, .val (.int (2 : Int32)), .val (.ref b1), .val (.ref b2), .unset] [])) _
    refine XS.aload X2.here hx rfl (hb hby at_36) rfl rfl ?_
    show Steps p.tables e below (T2.setTop (mkF m 38 #[.val (.int p0), .val (.long q1), .second, .val (.int (2 : Int32)), .val (.ref b1), .val (.ref b2), .unset] [(.ref b1)])) _
    refine X2.arraylength hx (by rw [e2]; exact Ar_38_4.1) (State.isArrayOf_alike hZ.alike Ar_38_4.2.1) (g := (mkF m 38 #[.val (.int p0), .val (.long q1), .second, .val (.int (2 : Int32)), .val (.ref b1), .val (.ref b2), .unset] [(.ref b1)])) rfl rfl (hb hby at_38) _ ?_
    rw [len_of S_38_4 M_38_4]
    show Steps p.tables e below (T2.setTop (mkF m 39 #[.val (.int p0), .val (.long q1), .second, .val (.int (2 : Int32)), .val (.ref b1), .val (.ref b2), .unset] [(.int (2 : Int32))])) _
    refine XS.iloadN X2.here hx rfl (hb hby at_39) rfl ?_
    show Steps p.tables e below (T2.setTop (mkF m 40 #[.val (.int p0), .val (.long q1), .second, .val (.int (2 : Int32)), .val (.ref b1), .val (.ref b2), .unset] [(.int (2 : Int32)), (.int (2 : Int32))])) _
    refine XS.icmpYes X2.here hx rfl (pc0 := 40) (pc' := 45) rfl (hb hby at_40) rfl (teq (by decide : (2 : Int32) = (2 : Int32))).1 (by decide) (by decide) ?_
    show Steps p.tables e below (T2.setTop (mkF m 45 #[.val (.int p0), .val (.long q1), .second, .val (.int (2 : Int32)), .val (.ref b1), .val (.ref b2), .unset] [])) _
    refine XS.aload X2.here hx rfl (hb hby at_45) rfl rfl ?_
    show Steps p.tables e below (T2.setTop (mkF m 47 #[.val (.int p0), .val (.long q1), .second, .val (.int (2 : Int32)), .val (.ref b1), .val (.ref b2), .unset] [(.ref b2)])) _
    refine XS.iloadN X2.here hx rfl (hb hby at_47) rfl ?_
    show Steps p.tables e below (T2.setTop (mkF m 48 #[.val (.int p0), .val (.long q1), .second, .val (.int (2 : Int32)), .val (.ref b1), .val (.ref b2), .unset] [(.int (2 : Int32)), (.ref b2)])) _
    refine X2.baloadBytes hx (j := (2 : Int32)) (v := (.int (-1 : Int32))) (by rw [e2]; exact Ar_48_5.1) (State.isArrayOf_alike hZ.alike Ar_48_5.2.1) Ar_48_5.2.2 hin48_5 hat48_5 (g := (mkF m 48 #[.val (.int p0), .val (.long q1), .second, .val (.int (2 : Int32)), .val (.ref b1), .val (.ref b2), .unset] [(.int (2 : Int32)), (.ref b2)])) rfl rfl (hb hby at_48) _ ?_
    show Steps p.tables e below (T2.setTop (mkF m 49 #[.val (.int p0), .val (.long q1), .second, .val (.int (2 : Int32)), .val (.ref b1), .val (.ref b2), .unset] [(.int (-1 : Int32))])) _
    refine XS.iconst X2.here hx rfl (hb hby at_49) ?_
    show Steps p.tables e below (T2.setTop (mkF m 50 #[.val (.int p0), .val (.long q1), .second, .val (.int (2 : Int32)), .val (.ref b1), .val (.ref b2), .unset] [(.int (-1 : Int32)), (.int (-1 : Int32))])) _
    refine XS.icmpNo X2.here hx rfl (hb hby at_50) rfl (teq (by decide : (-1 : Int32) = (-1 : Int32))).2 ?_
    show Steps p.tables e below (T2.setTop (mkF m 53 #[.val (.int p0), .val (.long q1), .second, .val (.int (2 : Int32)), .val (.ref b1), .val (.ref b2), .unset] [])) _
    refine XS.iconst X2.here hx rfl (hb hby at_53) ?_
    show Steps p.tables e below (T2.setTop (mkF m 54 #[.val (.int p0), .val (.long q1), .second, .val (.int (2 : Int32)), .val (.ref b1), .val (.ref b2), .unset] [(.int (1 : Int32))])) _
    refine XS.goto X2.here hx rfl (pc0 := 54) (pc' := 58) rfl (hb hby at_54) (by decide) (by decide) ?_
    show Steps p.tables e below (T2.setTop (mkF m 58 #[.val (.int p0), .val (.long q1), .second, .val (.int (2 : Int32)), .val (.ref b1), .val (.ref b2), .unset] [(.int (1 : Int32))])) _
    refine XS.istore X2.here hx rfl (hb hby at_58) rfl (l' := #[.val (.int p0), .val (.long q1), .second, .val (.int (2 : Int32)), .val (.ref b1), .val (.ref b2), .val (.int (1 : Int32))]) rfl ?_
    show Steps p.tables e below (T2.setTop (mkF m 60 #[.val (.int p0), .val (.long q1), .second, .val (.int (2 : Int32)), .val (.ref b1), .val (.ref b2), .val (.int (1 : Int32))] [])) _
    refine XS.iload X2.here hx rfl (hb hby at_60) rfl ?_
    show Steps p.tables e below (T2.setTop (mkF m 62 #[.val (.int p0), .val (.long q1), .second, .val (.int (2 : Int32)), .val (.ref b1), .val (.ref b2), .val (.int (1 : Int32))] [(.int (1 : Int32))])) _
    refine XS.ifNo X2.here hx rfl (hb hby at_62) rfl ((if0 _ _).trans (feq (by decide : ¬ ((1 : Int32) = (0 : Int32)))).1) ?_
    show Steps p.tables e below (T2.setTop (mkF m 65 #[.val (.int p0), .val (.long q1), .second, .val (.int (2 : Int32)), .val (.ref b1), .val (.ref b2), .val (.int (1 : Int32))] [])) _
    refine XS.aload X2.here hx rfl (hb hby at_65) rfl rfl ?_
    show Steps p.tables e below (T2.setTop (mkF m 67 #[.val (.int p0), .val (.long q1), .second, .val (.int (2 : Int32)), .val (.ref b1), .val (.ref b2), .val (.int (1 : Int32))] [(.ref b2)])) _
    refine XS.aload X2.here hx rfl (hb hby at_67) rfl rfl ?_
    show Steps p.tables e below (T2.setTop (mkF m 69 #[.val (.int p0), .val (.long q1), .second, .val (.int (2 : Int32)), .val (.ref b1), .val (.ref b2), .val (.int (1 : Int32))] [(.ref b1), (.ref b2)])) _
    refine XS.iconst X2.here hx rfl (hb hby at_69) ?_
    show Steps p.tables e below (T2.setTop (mkF m 70 #[.val (.int p0), .val (.long q1), .second, .val (.int (2 : Int32)), .val (.ref b1), .val (.ref b2), .val (.int (1 : Int32))] [(.int (0 : Int32)), (.ref b1), (.ref b2)])) _
    refine XS.iloadN X2.here hx rfl (hb hby at_70) rfl ?_
    show Steps p.tables e below (T2.setTop (mkF m 71 #[.val (.int p0), .val (.long q1), .second, .val (.int (2 : Int32)), .val (.ref b1), .val (.ref b2), .val (.int (1 : Int32))] [(.int (2 : Int32)), (.int (0 : Int32)), (.ref b1), (.ref b2)])) _
    refine XS.lloadN X2.here hx rfl (hb hby at_71) rfl ?_
    show Steps p.tables e below (T2.setTop (mkF m 72 #[.val (.int p0), .val (.long q1), .second, .val (.int (2 : Int32)), .val (.ref b1), .val (.ref b2), .val (.int (1 : Int32))] [(.long q1), (.int (2 : Int32)), (.int (0 : Int32)), (.ref b1), (.ref b2)])) _
    refine st6 _ ?_
    show Steps p.tables e below (T6.setTop (mkF m 75 #[.val (.int p0), .val (.long q1), .second, .val (.int (2 : Int32)), .val (.ref b1), .val (.ref b2), .val (.int (1 : Int32))] [(.int (1 : Int32))])) _
    refine XS.ifNo X6.here hx rfl (hb hby at_75) rfl ((if0 _ _).trans (feq (by decide : ¬ ((1 : Int32) = (0 : Int32)))).1) ?_
    show Steps p.tables e below (T6.setTop (mkF m 78 #[.val (.int p0), .val (.long q1), .second, .val (.int (2 : Int32)), .val (.ref b1), .val (.ref b2), .val (.int (1 : Int32))] [])) _
    refine XS.iconst X6.here hx rfl (hb hby at_78) ?_
    show Steps p.tables e below (T6.setTop (mkF m 79 #[.val (.int p0), .val (.long q1), .second, .val (.int (2 : Int32)), .val (.ref b1), .val (.ref b2), .val (.int (1 : Int32))] [(.int (1 : Int32))])) _
    refine XS.goto X6.here hx rfl (pc0 := 79) (pc' := 83) rfl (hb hby at_79) (by decide) (by decide) ?_
    show Steps p.tables e below (T6.setTop (mkF m 83 #[.val (.int p0), .val (.long q1), .second, .val (.int (2 : Int32)), .val (.ref b1), .val (.ref b2), .val (.int (1 : Int32))] [(.int (1 : Int32))])) _
    refine XS.istore X6.here hx rfl (hb hby at_83) rfl (l' := #[.val (.int p0), .val (.long q1), .second, .val (.int (2 : Int32)), .val (.ref b1), .val (.ref b2), .val (.int (1 : Int32))]) rfl ?_
    show Steps p.tables e below (T6.setTop (mkF m 85 #[.val (.int p0), .val (.long q1), .second, .val (.int (2 : Int32)), .val (.ref b1), .val (.ref b2), .val (.int (1 : Int32))] [])) _
    refine XS.iload X6.here hx rfl (hb hby at_85) rfl ?_
    show Steps p.tables e below (T6.setTop (mkF m 87 #[.val (.int p0), .val (.long q1), .second, .val (.int (2 : Int32)), .val (.ref b1), .val (.ref b2), .val (.int (1 : Int32))] [(.int (1 : Int32))])) _
    refine XS.ifNo X6.here hx rfl (hb hby at_87) rfl ((if0 _ _).trans (feq (by decide : ¬ ((1 : Int32) = (0 : Int32)))).1) ?_
    show Steps p.tables e below (T6.setTop (mkF m 90 #[.val (.int p0), .val (.long q1), .second, .val (.int (2 : Int32)), .val (.ref b1), .val (.ref b2), .val (.int (1 : Int32))] [])) _
    refine XS.aload X6.here hx rfl (hb hby at_90) rfl rfl ?_
    show Steps p.tables e below (T6.setTop (mkF m 92 #[.val (.int p0), .val (.long q1), .second, .val (.int (2 : Int32)), .val (.ref b1), .val (.ref b2), .val (.int (1 : Int32))] [(.ref b2)])) _
    refine XS.aload X6.here hx rfl (hb hby at_92) rfl rfl ?_
    show Steps p.tables e below (T6.setTop (mkF m 94 #[.val (.int p0), .val (.long q1), .second, .val (.int (2 : Int32)), .val (.ref b1), .val (.ref b2), .val (.int (1 : Int32))] [(.ref b1), (.ref b2)])) _
    refine XS.iconst X6.here hx rfl (hb hby at_94) ?_
    show Steps p.tables e below (T6.setTop (mkF m 95 #[.val (.int p0), .val (.long q1), .second, .val (.int (2 : Int32)), .val (.ref b1), .val (.ref b2), .val (.int (1 : Int32))] [(.int (1 : Int32)), (.ref b1), (.ref b2)])) _
    refine XS.iloadN X6.here hx rfl (hb hby at_95) rfl ?_
    show Steps p.tables e below (T6.setTop (mkF m 96 #[.val (.int p0), .val (.long q1), .second, .val (.int (2 : Int32)), .val (.ref b1), .val (.ref b2), .val (.int (1 : Int32))] [(.int (2 : Int32)), (.int (1 : Int32)), (.ref b1), (.ref b2)])) _
    refine XS.lloadN X6.here hx rfl (hb hby at_96) rfl ?_
    show Steps p.tables e below (T6.setTop (mkF m 97 #[.val (.int p0), .val (.long q1), .second, .val (.int (2 : Int32)), .val (.ref b1), .val (.ref b2), .val (.int (1 : Int32))] [(.long q1), (.int (2 : Int32)), (.int (1 : Int32)), (.ref b1), (.ref b2)])) _
    refine st7 _ ?_
    show Steps p.tables e below (T7.setTop (mkF m 100 #[.val (.int p0), .val (.long q1), .second, .val (.int (2 : Int32)), .val (.ref b1), .val (.ref b2), .val (.int (1 : Int32))] [(.int (1 : Int32))])) _
    refine XS.ifNo X7.here hx rfl (hb hby at_100) rfl ((if0 _ _).trans (feq (by decide : ¬ ((1 : Int32) = (0 : Int32)))).1) ?_
    show Steps p.tables e below (T7.setTop (mkF m 103 #[.val (.int p0), .val (.long q1), .second, .val (.int (2 : Int32)), .val (.ref b1), .val (.ref b2), .val (.int (1 : Int32))] [])) _
    refine XS.iconst X7.here hx rfl (hb hby at_103) ?_
    show Steps p.tables e below (T7.setTop (mkF m 104 #[.val (.int p0), .val (.long q1), .second, .val (.int (2 : Int32)), .val (.ref b1), .val (.ref b2), .val (.int (1 : Int32))] [(.int (1 : Int32))])) _
    refine XS.goto X7.here hx rfl (pc0 := 104) (pc' := 108) rfl (hb hby at_104) (by decide) (by decide) ?_
    show Steps p.tables e below (T7.setTop (mkF m 108 #[.val (.int p0), .val (.long q1), .second, .val (.int (2 : Int32)), .val (.ref b1), .val (.ref b2), .val (.int (1 : Int32))] [(.int (1 : Int32))])) _
    refine XS.istore X7.here hx rfl (hb hby at_108) rfl (l' := #[.val (.int p0), .val (.long q1), .second, .val (.int (2 : Int32)), .val (.ref b1), .val (.ref b2), .val (.int (1 : Int32))]) rfl ?_
    show Steps p.tables e below (T7.setTop (mkF m 110 #[.val (.int p0), .val (.long q1), .second, .val (.int (2 : Int32)), .val (.ref b1), .val (.ref b2), .val (.int (1 : Int32))] [])) _
    refine XS.iload X7.here hx rfl (hb hby at_110) rfl ?_
    show Steps p.tables e below (T7.setTop (mkF m 112 #[.val (.int p0), .val (.long q1), .second, .val (.int (2 : Int32)), .val (.ref b1), .val (.ref b2), .val (.int (1 : Int32))] [(.int (1 : Int32))])) _
    refine XS.ifNo X7.here hx rfl (hb hby at_112) rfl ((if0 _ _).trans (feq (by decide : ¬ ((1 : Int32) = (0 : Int32)))).1) ?_
    show Steps p.tables e below (T7.setTop (mkF m 115 #[.val (.int p0), .val (.long q1), .second, .val (.int (2 : Int32)), .val (.ref b1), .val (.ref b2), .val (.int (1 : Int32))] [])) _
    refine XS.aload X7.here hx rfl (hb hby at_115) rfl rfl ?_
    show Steps p.tables e below (T7.setTop (mkF m 117 #[.val (.int p0), .val (.long q1), .second, .val (.int (2 : Int32)), .val (.ref b1), .val (.ref b2), .val (.int (1 : Int32))] [(.ref b2)])) _
    refine XS.aload X7.here hx rfl (hb hby at_117) rfl rfl ?_
    show Steps p.tables e below (T7.setTop (mkF m 119 #[.val (.int p0), .val (.long q1), .second, .val (.int (2 : Int32)), .val (.ref b1), .val (.ref b2), .val (.int (1 : Int32))] [(.ref b1), (.ref b2)])) _
    refine XS.iconst X7.here hx rfl (hb hby at_119) ?_
    show Steps p.tables e below (T7.setTop (mkF m 120 #[.val (.int p0), .val (.long q1), .second, .val (.int (2 : Int32)), .val (.ref b1), .val (.ref b2), .val (.int (1 : Int32))] [(.int (2 : Int32)), (.ref b1), (.ref b2)])) _
    refine XS.iloadN X7.here hx rfl (hb hby at_120) rfl ?_
    show Steps p.tables e below (T7.setTop (mkF m 121 #[.val (.int p0), .val (.long q1), .second, .val (.int (2 : Int32)), .val (.ref b1), .val (.ref b2), .val (.int (1 : Int32))] [(.int (2 : Int32)), (.int (2 : Int32)), (.ref b1), (.ref b2)])) _
    refine XS.lloadN X7.here hx rfl (hb hby at_121) rfl ?_
    show Steps p.tables e below (T7.setTop (mkF m 122 #[.val (.int p0), .val (.long q1), .second, .val (.int (2 : Int32)), .val (.ref b1), .val (.ref b2), .val (.int (1 : Int32))] [(.long q1), (.int (2 : Int32)), (.int (2 : Int32)), (.ref b1), (.ref b2)])) _
    refine st8 _ ?_
    show Steps p.tables e below (T8.setTop (mkF m 125 #[.val (.int p0), .val (.long q1), .second, .val (.int (2 : Int32)), .val (.ref b1), .val (.ref b2), .val (.int (1 : Int32))] [(.int (1 : Int32))])) _
    refine XS.ifNo X8.here hx rfl (hb hby at_125) rfl ((if0 _ _).trans (feq (by decide : ¬ ((1 : Int32) = (0 : Int32)))).1) ?_
    show Steps p.tables e below (T8.setTop (mkF m 128 #[.val (.int p0), .val (.long q1), .second, .val (.int (2 : Int32)), .val (.ref b1), .val (.ref b2), .val (.int (1 : Int32))] [])) _
    refine XS.iconst X8.here hx rfl (hb hby at_128) ?_
    show Steps p.tables e below (T8.setTop (mkF m 129 #[.val (.int p0), .val (.long q1), .second, .val (.int (2 : Int32)), .val (.ref b1), .val (.ref b2), .val (.int (1 : Int32))] [(.int (1 : Int32))])) _
    refine XS.goto X8.here hx rfl (pc0 := 129) (pc' := 133) rfl (hb hby at_129) (by decide) (by decide) ?_
    show Steps p.tables e below (T8.setTop (mkF m 133 #[.val (.int p0), .val (.long q1), .second, .val (.int (2 : Int32)), .val (.ref b1), .val (.ref b2), .val (.int (1 : Int32))] [(.int (1 : Int32))])) _
    refine XS.istore X8.here hx rfl (hb hby at_133) rfl (l' := #[.val (.int p0), .val (.long q1), .second, .val (.int (2 : Int32)), .val (.ref b1), .val (.ref b2), .val (.int (1 : Int32))]) rfl ?_
    show Steps p.tables e below (T8.setTop (mkF m 135 #[.val (.int p0), .val (.long q1), .second, .val (.int (2 : Int32)), .val (.ref b1), .val (.ref b2), .val (.int (1 : Int32))] [])) _
    refine XS.iload X8.here hx rfl (hb hby at_135) rfl ?_
    show Steps p.tables e below (T8.setTop (mkF m 137 #[.val (.int p0), .val (.long q1), .second, .val (.int (2 : Int32)), .val (.ref b1), .val (.ref b2), .val (.int (1 : Int32))] [(.int (1 : Int32))])) _
    refine XS.ifNo X8.here hx rfl (hb hby at_137) rfl ((if0 _ _).trans (feq (by decide : ¬ ((1 : Int32) = (0 : Int32)))).1) ?_
    show Steps p.tables e below (T8.setTop (mkF m 140 #[.val (.int p0), .val (.long q1), .second, .val (.int (2 : Int32)), .val (.ref b1), .val (.ref b2), .val (.int (1 : Int32))] [])) _
    refine XS.aload X8.here hx rfl (hb hby at_140) rfl rfl ?_
    show Steps p.tables e below (T8.setTop (mkF m 142 #[.val (.int p0), .val (.long q1), .second, .val (.int (2 : Int32)), .val (.ref b1), .val (.ref b2), .val (.int (1 : Int32))] [(.ref b2)])) _
    refine XS.aload X8.here hx rfl (hb hby at_142) rfl rfl ?_
    show Steps p.tables e below (T8.setTop (mkF m 144 #[.val (.int p0), .val (.long q1), .second, .val (.int (2 : Int32)), .val (.ref b1), .val (.ref b2), .val (.int (1 : Int32))] [(.ref b1), (.ref b2)])) _
    refine XS.iconst X8.here hx rfl (hb hby at_144) ?_
    show Steps p.tables e below (T8.setTop (mkF m 145 #[.val (.int p0), .val (.long q1), .second, .val (.int (2 : Int32)), .val (.ref b1), .val (.ref b2), .val (.int (1 : Int32))] [(.int (3 : Int32)), (.ref b1), (.ref b2)])) _
    refine XS.iloadN X8.here hx rfl (hb hby at_145) rfl ?_
    show Steps p.tables e below (T8.setTop (mkF m 146 #[.val (.int p0), .val (.long q1), .second, .val (.int (2 : Int32)), .val (.ref b1), .val (.ref b2), .val (.int (1 : Int32))] [(.int (2 : Int32)), (.int (3 : Int32)), (.ref b1), (.ref b2)])) _
    refine XS.lloadN X8.here hx rfl (hb hby at_146) rfl ?_
    show Steps p.tables e below (T8.setTop (mkF m 147 #[.val (.int p0), .val (.long q1), .second, .val (.int (2 : Int32)), .val (.ref b1), .val (.ref b2), .val (.int (1 : Int32))] [(.long q1), (.int (2 : Int32)), (.int (3 : Int32)), (.ref b1), (.ref b2)])) _
    refine st9 _ ?_
    show Steps p.tables e below (T9.setTop (mkF m 150 #[.val (.int p0), .val (.long q1), .second, .val (.int (2 : Int32)), .val (.ref b1), .val (.ref b2), .val (.int (1 : Int32))] [(.int (1 : Int32))])) _
    refine XS.ifNo X9.here hx rfl (hb hby at_150) rfl ((if0 _ _).trans (feq (by decide : ¬ ((1 : Int32) = (0 : Int32)))).1) ?_
    show Steps p.tables e below (T9.setTop (mkF m 153 #[.val (.int p0), .val (.long q1), .second, .val (.int (2 : Int32)), .val (.ref b1), .val (.ref b2), .val (.int (1 : Int32))] [])) _
    refine XS.iconst X9.here hx rfl (hb hby at_153) ?_
    show Steps p.tables e below (T9.setTop (mkF m 154 #[.val (.int p0), .val (.long q1), .second, .val (.int (2 : Int32)), .val (.ref b1), .val (.ref b2), .val (.int (1 : Int32))] [(.int (1 : Int32))])) _
    refine XS.goto X9.here hx rfl (pc0 := 154) (pc' := 158) rfl (hb hby at_154) (by decide) (by decide) ?_
    show Steps p.tables e below (T9.setTop (mkF m 158 #[.val (.int p0), .val (.long q1), .second, .val (.int (2 : Int32)), .val (.ref b1), .val (.ref b2), .val (.int (1 : Int32))] [(.int (1 : Int32))])) _
    refine XS.istore X9.here hx rfl (hb hby at_158) rfl (l' := #[.val (.int p0), .val (.long q1), .second, .val (.int (2 : Int32)), .val (.ref b1), .val (.ref b2), .val (.int (1 : Int32))]) rfl ?_
    show Steps p.tables e below (T9.setTop (mkF m 160 #[.val (.int p0), .val (.long q1), .second, .val (.int (2 : Int32)), .val (.ref b1), .val (.ref b2), .val (.int (1 : Int32))] [])) _
    refine XS.iload X9.here hx rfl (hb hby at_160) rfl ?_
    show Steps p.tables e below (T9.setTop (mkF m 162 #[.val (.int p0), .val (.long q1), .second, .val (.int (2 : Int32)), .val (.ref b1), .val (.ref b2), .val (.int (1 : Int32))] [(.int (1 : Int32))])) _
    refine XS.ifNo X9.here hx rfl (hb hby at_162) rfl ((if0 _ _).trans (feq (by decide : ¬ ((1 : Int32) = (0 : Int32)))).1) ?_
    show Steps p.tables e below (T9.setTop (mkF m 165 #[.val (.int p0), .val (.long q1), .second, .val (.int (2 : Int32)), .val (.ref b1), .val (.ref b2), .val (.int (1 : Int32))] [])) _
    refine XS.aload X9.here hx rfl (hb hby at_165) rfl rfl ?_
    show Steps p.tables e below (T9.setTop (mkF m 167 #[.val (.int p0), .val (.long q1), .second, .val (.int (2 : Int32)), .val (.ref b1), .val (.ref b2), .val (.int (1 : Int32))] [(.ref b2)])) _
    refine XS.aload X9.here hx rfl (hb hby at_167) rfl rfl ?_
    show Steps p.tables e below (T9.setTop (mkF m 169 #[.val (.int p0), .val (.long q1), .second, .val (.int (2 : Int32)), .val (.ref b1), .val (.ref b2), .val (.int (1 : Int32))] [(.ref b1), (.ref b2)])) _
    refine XS.iconst X9.here hx rfl (hb hby at_169) ?_
    show Steps p.tables e below (T9.setTop (mkF m 170 #[.val (.int p0), .val (.long q1), .second, .val (.int (2 : Int32)), .val (.ref b1), .val (.ref b2), .val (.int (1 : Int32))] [(.int (4 : Int32)), (.ref b1), (.ref b2)])) _
    refine XS.iloadN X9.here hx rfl (hb hby at_170) rfl ?_
    show Steps p.tables e below (T9.setTop (mkF m 171 #[.val (.int p0), .val (.long q1), .second, .val (.int (2 : Int32)), .val (.ref b1), .val (.ref b2), .val (.int (1 : Int32))] [(.int (2 : Int32)), (.int (4 : Int32)), (.ref b1), (.ref b2)])) _
    refine XS.lloadN X9.here hx rfl (hb hby at_171) rfl ?_
    show Steps p.tables e below (T9.setTop (mkF m 172 #[.val (.int p0), .val (.long q1), .second, .val (.int (2 : Int32)), .val (.ref b1), .val (.ref b2), .val (.int (1 : Int32))] [(.long q1), (.int (2 : Int32)), (.int (4 : Int32)), (.ref b1), (.ref b2)])) _
    refine st10 _ ?_
    show Steps p.tables e below (T10.setTop (mkF m 175 #[.val (.int p0), .val (.long q1), .second, .val (.int (2 : Int32)), .val (.ref b1), .val (.ref b2), .val (.int (1 : Int32))] [(.int (1 : Int32))])) _
    refine XS.ifNo X10.here hx rfl (hb hby at_175) rfl ((if0 _ _).trans (feq (by decide : ¬ ((1 : Int32) = (0 : Int32)))).1) ?_
    show Steps p.tables e below (T10.setTop (mkF m 178 #[.val (.int p0), .val (.long q1), .second, .val (.int (2 : Int32)), .val (.ref b1), .val (.ref b2), .val (.int (1 : Int32))] [])) _
    refine XS.iconst X10.here hx rfl (hb hby at_178) ?_
    show Steps p.tables e below (T10.setTop (mkF m 179 #[.val (.int p0), .val (.long q1), .second, .val (.int (2 : Int32)), .val (.ref b1), .val (.ref b2), .val (.int (1 : Int32))] [(.int (1 : Int32))])) _
    refine XS.goto X10.here hx rfl (pc0 := 179) (pc' := 183) rfl (hb hby at_179) (by decide) (by decide) ?_
    show Steps p.tables e below (T10.setTop (mkF m 183 #[.val (.int p0), .val (.long q1), .second, .val (.int (2 : Int32)), .val (.ref b1), .val (.ref b2), .val (.int (1 : Int32))] [(.int (1 : Int32))])) _
    refine XS.istore X10.here hx rfl (hb hby at_183) rfl (l' := #[.val (.int p0), .val (.long q1), .second, .val (.int (2 : Int32)), .val (.ref b1), .val (.ref b2), .val (.int (1 : Int32))]) rfl ?_
    show Steps p.tables e below (T10.setTop (mkF m 185 #[.val (.int p0), .val (.long q1), .second, .val (.int (2 : Int32)), .val (.ref b1), .val (.ref b2), .val (.int (1 : Int32))] [])) _
    refine XS.iload X10.here hx rfl (hb hby at_185) rfl ?_
    show Steps p.tables e below (T10.setTop (mkF m 187 #[.val (.int p0), .val (.long q1), .second, .val (.int (2 : Int32)), .val (.ref b1), .val (.ref b2), .val (.int (1 : Int32))] [(.int (1 : Int32))])) _
    exact retN X10 hx (t := .boolean) Bd.returns (by simp) (hb hby at_187) hr
  · show Q0_2 Z p0 q1 h0 n0 _ T10.heap _
    rw [e10]
    exact ⟨rfl, N10⟩
set_option maxRecDepth 65536 in
set_option maxHeartbeats 40000000 in
theorem pc_8_3 {p : Program} {l : Launch} {e : Env} {R : Room} {s : State} {m : MethodId} {args : Array Value} {below : List Frame} {meth : Method} {c : Code} {T0 : State} {locs : List Loc} {cells slots : Nat} {Z : State} {a0 : Array Value} (p0 : Int32) (q1 : Int64)
    (X0 : Stand p l e R s m args below meth c T0 locs cells slots) (hx : p.tables.exec = Jvm.exec) (hZ : Z.Warmed39 s.vm) (hw : ∀ d ∈ tables_1, d.before a0 Z = true) (hby : c.code = code) (hown : s.vm.findClass "com/example/usrset/usrset/store/KeyPastTuplesOfPinLaw" = some m.cls) (hk : own_n p0 = (3 : Int32)) :
    ∀ target, Steps p.tables e below (T0.setTop (mkF m 8 #[.val (.int p0), .val (.long q1), .second, .val (.int (3 : Int32)), .unset, .unset, .unset] [])) target → Steps p.tables e below (T0.setTop (mkF m 0 #[.val (.int p0), .val (.long q1), .second, .unset, .unset, .unset, .unset] [])) target := by
  intro target kt
  show Steps p.tables e below (T0.setTop (mkF m 0 #[.val (.int p0), .val (.long q1), .second, .unset, .unset, .unset, .unset] [])) _
  refine XS.iloadN X0.here hx rfl (hb hby at_0) rfl ?_
  show Steps p.tables e below (T0.setTop (mkF m 1 #[.val (.int p0), .val (.long q1), .second, .unset, .unset, .unset, .unset] [(.int p0)])) _
  refine X0.ldcInt hx hown (mvT hZ (hw _ (List.mem_of_getElem? (i := 0) rfl))) (g := (mkF m 1 #[.val (.int p0), .val (.long q1), .second, .unset, .unset, .unset, .unset] [(.int p0)])) rfl (hb hby at_1) _ ?_
  show Steps p.tables e below (T0.setTop (mkF m 3 #[.val (.int p0), .val (.long q1), .second, .unset, .unset, .unset, .unset] [(.int (2147483647 : Int32)), (.int p0)])) _
  refine XS.iand X0.here hx rfl (hb hby at_3) rfl ?_
  show Steps p.tables e below (T0.setTop (mkF m 4 #[.val (.int p0), .val (.long q1), .second, .unset, .unset, .unset, .unset] [(.int (p0 &&& (2147483647 : Int32)))])) _
  refine XS.bipush X0.here hx rfl (hb hby at_4) ?_
  show Steps p.tables e below (T0.setTop (mkF m 6 #[.val (.int p0), .val (.long q1), .second, .unset, .unset, .unset, .unset] [(.int (6 : Int32)), (.int (p0 &&& (2147483647 : Int32)))])) _
  refine XS.irem X0.here hx rfl (hb hby at_6) rfl (by decide) ?_
  show Steps p.tables e below (T0.setTop (mkF m 7 #[.val (.int p0), .val (.long q1), .second, .unset, .unset, .unset, .unset] [(.int ((p0 &&& (2147483647 : Int32)) - ((p0 &&& (2147483647 : Int32)) / (6 : Int32)) * (6 : Int32)))])) _
  refine XS.istoreN X0.here hx rfl (hb hby at_7) rfl (l' := #[.val (.int p0), .val (.long q1), .second, .val (.int ((p0 &&& (2147483647 : Int32)) - ((p0 &&& (2147483647 : Int32)) / (6 : Int32)) * (6 : Int32))), .unset, .unset, .unset]) rfl ?_
  show Steps p.tables e below (T0.setTop (mkF m 8 #[.val (.int p0), .val (.long q1), .second, .val (.int ((p0 &&& (2147483647 : Int32)) - ((p0 &&& (2147483647 : Int32)) / (6 : Int32)) * (6 : Int32))), .unset, .unset, .unset] [])) _
  have et : ((p0 &&& (2147483647 : Int32)) - ((p0 &&& (2147483647 : Int32)) / (6 : Int32)) * (6 : Int32)) = (3 : Int32) := hk
  rw [et]
  exact kt
theorem ef_0_3 (m : MethodId) (x0 : Int32) (x1 : Int64) : entryFrame m #[(.int x0), (.long x1)] maxLocals = mkF m 0 #[.val (.int x0), .val (.long x1), .second, .unset, .unset, .unset, .unset] [] := by first | (simp [entryFrame, mkF, argsToLocals, Value.category, maxLocals]; done) | rfl
def Q0_3 (Z : State) (p0 : Int32) (q1 : Int64) (h0 : Heap) (n0 : Nat) (v : Option Value) (h : Heap) (L : List Loc) : Prop := v = some (.int 1) ∧ Fr n0 L
set_option maxRecDepth 65536 in
set_option maxHeartbeats 40000000 in
theorem rm0_3 (l : Launch) (Z : State) (a0 : Array Value) (hw : ∀ d ∈ tables_1, d.before a0 Z = true) (ws : List Jvm.Cond) (p0 : Int32) (q1 : Int64) (h0 : Heap) (n0 : Nat) (Z0 : n0 ≤ h0.size) (hk : own_n p0 = (3 : Int32)) :
    MetFree l x (head1 (Jvm.Cond.code x code maxLocals ret :: ws) room_1) (fun a U => a = #[(.int p0), (.long q1)] ∧ Z.Warmed39 U.vm ∧ U.heap = h0) (fun _ _ _ _ _ => True) (fun _ U o U' => ∃ v L, o = .returned v ∧ Q0_3 Z p0 q1 h0 n0 v U'.heap L ∧ FrameEnd U o U' L room_1.cells room_1.slots) := by
  refine MetFree.of_bodySF (plainFor_of_name pn_com_example_usrset_usrset_store_KeyPastTuplesOfPinLaw) hisR ?_
  intro p e s m args below meth c s₁ Bd hml0 hP hK
  obtain ⟨rfl, hZ, hh⟩ := hP
  have hx := Bd.exec
  have hby := Bd.bytes
  have hml : c.maxLocals = 7 := hml0
  have hown : s.vm.findClass "com/example/usrset/usrset/store/KeyPastTuplesOfPinLaw" = some m.cls := findClass_of_methodNamed Bd.named
  have hnm := (name_of_methodNamed Bd.named Bd.method).1
  have X0 : Stand p l e room_1 s m #[(.int p0), (.long q1)] below meth c s₁ [] 0 0 := Stand.of_body Bd
  have e0 : s₁.heap = h0 := by rw [← hh, Bd.state]; rfl
  have N0 := Fr.nil n0
  have pre0 : ∀ t, Steps p.tables e below (s₁.setTop (mkF m 0 #[.val (.int p0), .val (.long q1), .second, .unset, .unset, .unset, .unset] [])) t → Steps p.tables e below (s₁.setTop (entryFrame m #[(.int p0), (.long q1)] maxLocals)) t := fun t k => castTop (ef_0_3 m p0 q1) k
  have sp0 := pc_8_3 p0 q1 X0 hx hZ hw hby hown hk
  obtain ⟨_, _, ⟨T1, L1, k1, n1⟩, -, X1, ⟨Lc1, hQ1, l1, y1, z1⟩, st1⟩ := Jvm.LawKit.callS X0 hx (y := (⟨"com/example/usrset/usrset/store/KeyPastTuplesOfPinLaw", "make", "(IJ)[B"⟩ : MethodName)) hown (mvT hZ (hw _ (List.mem_of_getElem? (i := 1) rfl))) (mvT hZ (hw _ (List.mem_of_getElem? (i := 2) rfl))) (mvT hZ (hw _ (List.mem_of_getElem? (i := 3) rfl))) (mvT hZ (hw _ (List.mem_of_getElem? (i := 4) rfl))) (by decide) (backOf (W := 0) (rm1_3 l Z a0 hw [] q1 h0 n0 Z0) hZ (hw _ (List.mem_of_getElem? (i := 4) rfl)) (hw _ (List.mem_of_getElem? (i := 3) rfl)) (by decide) (by decide)) (g := (mkF m 10 #[.val (.int p0), .val (.long q1), .second, .val (.int (3 : Int32)), .unset, .unset, .unset] [(.long q1), (.int (3 : Int32))])) rfl (by rw [hml]; rfl) (argsL := [(.int (3 : Int32)), (.long q1)]) (rest := []) (lenOf pd_28IJ295bB rfl) rfl (by show 2 * 0 + _ ≤ _; exact Nat.le_of_eq rfl) (hb hby at_10) (fun _ _ => ⟨rfl, e0, (by decide : 0 + 1 ≤ _), (by decide : 0 + 3 ≤ _)⟩)
  dsimp only [Pt.U, Pt.locs, Pt.cells, Pt.slots] at X1 l1 y1 z1 st1 hQ1
  subst l1 y1 z1
  obtain ⟨b1, kb1, rfl, N1q, KK1, gb1, VB1⟩ := hQ1
  obtain ⟨h1, e1⟩ : ∃ z, T1.heap = z := ⟨_, rfl⟩
  rw [e1] at KK1 VB1
  have Z1 : n0 ≤ h1.size := Nat.le_trans Z0 KK1.1
  have g_b1 : n0 ≤ b1 := Nat.le_trans Z0 gb1
  have N1 := Fr.app N0 N1q
  obtain ⟨_, _, ⟨T2, L2, k2, n2⟩, -, X2, ⟨Lc2, hQ2, l2, y2, z2⟩, st2⟩ := Jvm.LawKit.callS X1 hx (y := (⟨"com/example/usrset/usrset/store/Key", "pastTuplesOf", "([B)[B"⟩ : MethodName)) hown (mvT hZ (hw _ (List.mem_of_getElem? (i := 6) rfl))) (mvT hZ (hw _ (List.mem_of_getElem? (i := 7) rfl))) (mvT hZ (hw _ (List.mem_of_getElem? (i := 8) rfl))) (mvT hZ (hw _ (List.mem_of_getElem? (i := 9) rfl))) (by decide) (backOf (W := 0) (rm2_3 l Z a0 hw [] b1 kb1 (own_b q1 (0 : Int32)) (own_b q1 (1 : Int32)) (own_b q1 (2 : Int32)) h1 n0 Z1 VB1) hZ (hw _ (List.mem_of_getElem? (i := 9) rfl)) (hw _ (List.mem_of_getElem? (i := 8) rfl)) (by decide) (by decide)) (g := (mkF m 17 #[.val (.int p0), .val (.long q1), .second, .val (.int (3 : Int32)), .val (.ref b1), .unset, .unset] [(.ref b1)])) rfl (by rw [hml]; rfl) (argsL := [(.ref b1)]) (rest := []) (lenOf pd_285bB295bB rfl) rfl (by show 2 * 0 + _ ≤ _; exact Nat.le_of_eq rfl) (hb hby at_17) (fun _ _ => ⟨rfl, e1, (by decide : 1 + 1 ≤ _), (by decide : 3 + 4 ≤ _)⟩)
  dsimp only [Pt.U, Pt.locs, Pt.cells, Pt.slots] at X2 l2 y2 z2 st2 hQ2
  subst l2 y2 z2
  obtain ⟨b2, kb2, rfl, N2q, KK2, gb2, VB2⟩ := hQ2
  obtain ⟨h2, e2⟩ : ∃ z, T2.heap = z := ⟨_, rfl⟩
  rw [e2] at KK2 VB2
  have VB1_at2 : Arv Z h2 b1 kb1 .byte (3 : Int32) [(.int (own_b q1 (0 : Int32))), (.int (own_b q1 (1 : Int32))), (.int (own_b q1 (2 : Int32)))] (.int (0 : Int32)) := VB1.keep KK2 nin0
  have Z2 : n0 ≤ h2.size := Nat.le_trans Z1 KK2.1
  have ne_b1_b2 : b1 ≠ b2 := Nat.ne_of_lt (Nat.lt_of_lt_of_le VB1.lt gb2)
  have g_b2 : n0 ≤ b2 := Nat.le_trans Z1 gb2
  have N2 := Fr.app N1 N2q
  obtain ⟨cl_29_3, Ar_29_3, -, S_29_3, M_29_3, -, -⟩ := id VB2
  obtain ⟨cl_38_4, Ar_38_4, -, S_38_4, M_38_4, -, -⟩ := id VB1_at2
  obtain ⟨cl_48_5, Ar_48_5, -, S_48_5, M_48_5, H_48_5, -⟩ := id VB2
  have hin48_5 : ¬ ((3 : Int32) < 0 ∨ cl_48_5.slots.size ≤ ((3 : Int32)).toNatClampNeg) := inb_of S_48_5 ⟨by decide, by decide⟩
  have hat48_5 : cl_48_5.slots[((3 : Int32)).toNatClampNeg]? = some (.int (-1 : Int32)) := H_48_5.at hin48_5 rfl
  obtain ⟨_, _, ⟨T6, L6, k6, n6⟩, -, X6, ⟨Lc6, hQ6, l6, y6, z6⟩, st6⟩ := Jvm.LawKit.callS X2 hx (y := (⟨"com/example/usrset/usrset/store/KeyPastTuplesOfPinLaw", "same", "([B[BIIJ)Z"⟩ : MethodName)) hown (mvT hZ (hw _ (List.mem_of_getElem? (i := 22) rfl))) (mvT hZ (hw _ (List.mem_of_getElem? (i := 23) rfl))) (mvT hZ (hw _ (List.mem_of_getElem? (i := 3) rfl))) (mvT hZ (hw _ (List.mem_of_getElem? (i := 24) rfl))) (by decide) (backOf (W := 0) (rm5_b l Z a0 hw [] b2 b1 (0 : Int32) (3 : Int32) q1 kb2 kb1 (4 : Int32) (3 : Int32) [(.int (own_b q1 (0 : Int32))), (.int (own_b q1 (1 : Int32))), (.int (own_b q1 (2 : Int32))), (.int (-1 : Int32))] [(.int (own_b q1 (0 : Int32))), (.int (own_b q1 (1 : Int32))), (.int (own_b q1 (2 : Int32)))] h2 n0 Z2 (by decide) (by decide) VB2 (by decide) rfl VB1_at2 (by decide) rfl) hZ (hw _ (List.mem_of_getElem? (i := 24) rfl)) (hw _ (List.mem_of_getElem? (i := 3) rfl)) (by decide) (by decide)) (g := (mkF m 72 #[.val (.int p0), .val (.long q1), .second, .val (.int (3 : Int32)), .val (.ref b1), .val (.ref b2), .val (.int (1 : Int32))] [(.long q1), (.int (3 : Int32)), (.int (0 : Int32)), (.ref b1), (.ref b2)])) rfl (by rw [hml]; rfl) (argsL := [(.ref b2), (.ref b1), (.int (0 : Int32)), (.int (3 : Int32)), (.long q1)]) (rest := []) (lenOf pd_285bB5bBIIJ29Z rfl) rfl (by show 2 * 0 + _ ≤ _; exact Nat.le_of_eq rfl) (hb hby at_72) (fun _ _ => ⟨rfl, e2, (by decide : 2 + 0 ≤ _), (by decide : 7 + 0 ≤ _)⟩)
  dsimp only [Pt.U, Pt.locs, Pt.cells, Pt.slots] at X6 l6 y6 z6 st6 hQ6
  subst l6 y6 z6
  obtain ⟨rfl, N6q, e6⟩ := hQ6
  have N6 := Fr.app N2 N6q
  obtain ⟨_, _, ⟨T7, L7, k7, n7⟩, -, X7, ⟨Lc7, hQ7, l7, y7, z7⟩, st7⟩ := Jvm.LawKit.callS X6 hx (y := (⟨"com/example/usrset/usrset/store/KeyPastTuplesOfPinLaw", "same", "([B[BIIJ)Z"⟩ : MethodName)) hown (mvT hZ (hw _ (List.mem_of_getElem? (i := 22) rfl))) (mvT hZ (hw _ (List.mem_of_getElem? (i := 23) rfl))) (mvT hZ (hw _ (List.mem_of_getElem? (i := 3) rfl))) (mvT hZ (hw _ (List.mem_of_getElem? (i := 24) rfl))) (by decide) (backOf (W := 0) (rm5_b l Z a0 hw [] b2 b1 (1 : Int32) (3 : Int32) q1 kb2 kb1 (4 : Int32) (3 : Int32) [(.int (own_b q1 (0 : Int32))), (.int (own_b q1 (1 : Int32))), (.int (own_b q1 (2 : Int32))), (.int (-1 : Int32))] [(.int (own_b q1 (0 : Int32))), (.int (own_b q1 (1 : Int32))), (.int (own_b q1 (2 : Int32)))] h2 n0 Z2 (by decide) (by decide) VB2 (by decide) rfl VB1_at2 (by decide) rfl) hZ (hw _ (List.mem_of_getElem? (i := 24) rfl)) (hw _ (List.mem_of_getElem? (i := 3) rfl)) (by decide) (by decide)) (g := (mkF m 97 #[.val (.int p0), .val (.long q1), .second, .val (.int (3 : Int32)), .val (.ref b1), .val (.ref b2), .val (.int (1 : Int32))] [(.long q1), (.int (3 : Int32)), (.int (1 : Int32)), (.ref b1), (.ref b2)])) rfl (by rw [hml]; rfl) (argsL := [(.ref b2), (.ref b1), (.int (1 : Int32)), (.int (3 : Int32)), (.long q1)]) (rest := []) (lenOf pd_285bB5bBIIJ29Z rfl) rfl (by show 2 * 0 + _ ≤ _; exact Nat.le_of_eq rfl) (hb hby at_97) (fun _ _ => ⟨rfl, e6, (by decide : 2 + 0 ≤ _), (by decide : 7 + 0 ≤ _)⟩)
  dsimp only [Pt.U, Pt.locs, Pt.cells, Pt.slots] at X7 l7 y7 z7 st7 hQ7
  subst l7 y7 z7
  obtain ⟨rfl, N7q, e7⟩ := hQ7
  have N7 := Fr.app N6 N7q
  obtain ⟨_, _, ⟨T8, L8, k8, n8⟩, -, X8, ⟨Lc8, hQ8, l8, y8, z8⟩, st8⟩ := Jvm.LawKit.callS X7 hx (y := (⟨"com/example/usrset/usrset/store/KeyPastTuplesOfPinLaw", "same", "([B[BIIJ)Z"⟩ : MethodName)) hown (mvT hZ (hw _ (List.mem_of_getElem? (i := 22) rfl))) (mvT hZ (hw _ (List.mem_of_getElem? (i := 23) rfl))) (mvT hZ (hw _ (List.mem_of_getElem? (i := 3) rfl))) (mvT hZ (hw _ (List.mem_of_getElem? (i := 24) rfl))) (by decide) (backOf (W := 0) (rm5_b l Z a0 hw [] b2 b1 (2 : Int32) (3 : Int32) q1 kb2 kb1 (4 : Int32) (3 : Int32) [(.int (own_b q1 (0 : Int32))), (.int (own_b q1 (1 : Int32))), (.int (own_b q1 (2 : Int32))), (.int (-1 : Int32))] [(.int (own_b q1 (0 : Int32))), (.int (own_b q1 (1 : Int32))), (.int (own_b q1 (2 : Int32)))] h2 n0 Z2 (by decide) (by decide) VB2 (by decide) rfl VB1_at2 (by decide) rfl) hZ (hw _ (List.mem_of_getElem? (i := 24) rfl)) (hw _ (List.mem_of_getElem? (i := 3) rfl)) (by decide) (by decide)) (g := (mkF m 122 #[.val (.int p0), .val (.long q1), .second, .val (.int (3 : Int32)), .val (.ref b1), .val (.ref b2), .val (.int (1 : Int32))] [(.long q1), (.int (3 : Int32)), (.int (2 : Int32)), (.ref b1), (.ref b2)])) rfl (by rw [hml]; rfl) (argsL := [(.ref b2), (.ref b1), (.int (2 : Int32)), (.int (3 : Int32)), (.long q1)]) (rest := []) (lenOf pd_285bB5bBIIJ29Z rfl) rfl (by show 2 * 0 + _ ≤ _; exact Nat.le_of_eq rfl) (hb hby at_122) (fun _ _ => ⟨rfl, e7, (by decide : 2 + 0 ≤ _), (by decide : 7 + 0 ≤ _)⟩)
  dsimp only [Pt.U, Pt.locs, Pt.cells, Pt.slots] at X8 l8 y8 z8 st8 hQ8
  subst l8 y8 z8
  obtain ⟨rfl, N8q, e8⟩ := hQ8
  have N8 := Fr.app N7 N8q
  obtain ⟨_, _, ⟨T9, L9, k9, n9⟩, -, X9, ⟨Lc9, hQ9, l9, y9, z9⟩, st9⟩ := Jvm.LawKit.callS X8 hx (y := (⟨"com/example/usrset/usrset/store/KeyPastTuplesOfPinLaw", "same", "([B[BIIJ)Z"⟩ : MethodName)) hown (mvT hZ (hw _ (List.mem_of_getElem? (i := 22) rfl))) (mvT hZ (hw _ (List.mem_of_getElem? (i := 23) rfl))) (mvT hZ (hw _ (List.mem_of_getElem? (i := 3) rfl))) (mvT hZ (hw _ (List.mem_of_getElem? (i := 24) rfl))) (by decide) (backOf (W := 0) (rm5_a l Z a0 hw [] b2 b1 (3 : Int32) (3 : Int32) q1 h2 n0 Z2 (by decide)) hZ (hw _ (List.mem_of_getElem? (i := 24) rfl)) (hw _ (List.mem_of_getElem? (i := 3) rfl)) (by decide) (by decide)) (g := (mkF m 147 #[.val (.int p0), .val (.long q1), .second, .val (.int (3 : Int32)), .val (.ref b1), .val (.ref b2), .val (.int (1 : Int32))] [(.long q1), (.int (3 : Int32)), (.int (3 : Int32)), (.ref b1), (.ref b2)])) rfl (by rw [hml]; rfl) (argsL := [(.ref b2), (.ref b1), (.int (3 : Int32)), (.int (3 : Int32)), (.long q1)]) (rest := []) (lenOf pd_285bB5bBIIJ29Z rfl) rfl (by show 2 * 0 + _ ≤ _; exact Nat.le_of_eq rfl) (hb hby at_147) (fun _ _ => ⟨rfl, e8, (by decide : 2 + 0 ≤ _), (by decide : 7 + 0 ≤ _)⟩)
  dsimp only [Pt.U, Pt.locs, Pt.cells, Pt.slots] at X9 l9 y9 z9 st9 hQ9
  subst l9 y9 z9
  obtain ⟨rfl, N9q, e9⟩ := hQ9
  have N9 := Fr.app N8 N9q
  obtain ⟨_, _, ⟨T10, L10, k10, n10⟩, -, X10, ⟨Lc10, hQ10, l10, y10, z10⟩, st10⟩ := Jvm.LawKit.callS X9 hx (y := (⟨"com/example/usrset/usrset/store/KeyPastTuplesOfPinLaw", "same", "([B[BIIJ)Z"⟩ : MethodName)) hown (mvT hZ (hw _ (List.mem_of_getElem? (i := 22) rfl))) (mvT hZ (hw _ (List.mem_of_getElem? (i := 23) rfl))) (mvT hZ (hw _ (List.mem_of_getElem? (i := 3) rfl))) (mvT hZ (hw _ (List.mem_of_getElem? (i := 24) rfl))) (by decide) (backOf (W := 0) (rm5_a l Z a0 hw [] b2 b1 (4 : Int32) (3 : Int32) q1 h2 n0 Z2 (by decide)) hZ (hw _ (List.mem_of_getElem? (i := 24) rfl)) (hw _ (List.mem_of_getElem? (i := 3) rfl)) (by decide) (by decide)) (g := (mkF m 172 #[.val (.int p0), .val (.long q1), .second, .val (.int (3 : Int32)), .val (.ref b1), .val (.ref b2), .val (.int (1 : Int32))] [(.long q1), (.int (3 : Int32)), (.int (4 : Int32)), (.ref b1), (.ref b2)])) rfl (by rw [hml]; rfl) (argsL := [(.ref b2), (.ref b1), (.int (4 : Int32)), (.int (3 : Int32)), (.long q1)]) (rest := []) (lenOf pd_285bB5bBIIJ29Z rfl) rfl (by show 2 * 0 + _ ≤ _; exact Nat.le_of_eq rfl) (hb hby at_172) (fun _ _ => ⟨rfl, e9, (by decide : 2 + 0 ≤ _), (by decide : 7 + 0 ≤ _)⟩)
  dsimp only [Pt.U, Pt.locs, Pt.cells, Pt.slots] at X10 l10 y10 z10 st10 hQ10
  subst l10 y10 z10
  obtain ⟨rfl, N10q, e10⟩ := hQ10
  have N10 := Fr.app N9 N10q
  obtain ⟨fs, hr, hrun, hended, hW, hsame⟩ := X10.leave (v := some (.int (1 : Int32))) (fun h => by rw [Bd.returns] at h; cases h)
  refine ⟨_, _, pre0 _ ?_, hrun, hended, _, _, rfl, ?_, ⟨_, rfl⟩, hW, hsame.mono (by decide) (by decide)⟩
  · show Steps p.tables e below (s₁.setTop (mkF m 0 #[.val (.int p0), .val (.long q1), .second, .unset, .unset, .unset, .unset] [])) _
    refine sp0 _ ?_
    show Steps p.tables e below (s₁.setTop (mkF m 8 #[.val (.int p0), .val (.long q1), .second, .val (.int (3 : Int32)), .unset, .unset, .unset] [])) _
    refine XS.iloadN X0.here hx rfl (hb hby at_8) rfl ?_
    show Steps p.tables e below (s₁.setTop (mkF m 9 #[.val (.int p0), .val (.long q1), .second, .val (.int (3 : Int32)), .unset, .unset, .unset] [(.int (3 : Int32))])) _
    refine XS.lloadN X0.here hx rfl (hb hby at_9) rfl ?_
    show Steps p.tables e below (s₁.setTop (mkF m 10 #[.val (.int p0), .val (.long q1), .second, .val (.int (3 : Int32)), .unset, .unset, .unset] [(.long q1), (.int (3 : Int32))])) _
    refine st1 _ ?_
    show Steps p.tables e below (T1.setTop (mkF m 13 #[.val (.int p0), .val (.long q1), .second, .val (.int (3 : Int32)), .unset, .unset, .unset] [(.ref b1)])) _
    refine XS.astore X1.here hx rfl (hb hby at_13) rfl rfl (l' := #[.val (.int p0), .val (.long q1), .second, .val (.int (3 : Int32)), .val (.ref b1), .unset, .unset]) rfl ?_
    show Steps p.tables e below (T1.setTop (mkF m 15 #[.val (.int p0), .val (.long q1), .second, .val (.int (3 : Int32)), .val (.ref b1), .unset, .unset] [])) _
    refine XS.aload X1.here hx rfl (hb hby at_15) rfl rfl ?_
    show Steps p.tables e below (T1.setTop (mkF m 17 #[.val (.int p0), .val (.long q1), .second, .val (.int (3 : Int32)), .val (.ref b1), .unset, .unset] [(.ref b1)])) _
    refine st2 _ ?_
    show Steps p.tables e below (T2.setTop (mkF m 20 #[.val (.int p0), .val (.long q1), .second, .val (.int (3 : Int32)), .val (.ref b1), .unset, .unset] [(.ref b2)])) _
    refine XS.astore X2.here hx rfl (hb hby at_20) rfl rfl (l' := #[.val (.int p0), .val (.long q1), .second, .val (.int (3 : Int32)), .val (.ref b1), .val (.ref b2), .unset]) rfl ?_
    show Steps p.tables e below (T2.setTop (mkF m 22 #[.val (.int p0), .val (.long q1), .second, .val (.int (3 : Int32)), .val (.ref b1), .val (.ref b2), .unset] [])) _
    refine XS.aload X2.here hx rfl (hb hby at_22) rfl rfl ?_
    show Steps p.tables e below (T2.setTop (mkF m 24 #[.val (.int p0), .val (.long q1), .second, .val (.int (3 : Int32)), .val (.ref b1), .val (.ref b2), .unset] [(.ref b2)])) _
    refine XS.ifnullNo X2.here hx rfl (hb hby at_24) rfl ?_
    show Steps p.tables e below (T2.setTop (mkF m 27 #[.val (.int p0), .val (.long q1), .second, .val (.int (3 : Int32)), .val (.ref b1), .val (.ref b2), .unset] [])) _
    refine XS.aload X2.here hx rfl (hb hby at_27) rfl rfl ?_
    show Steps p.tables e below (T2.setTop (mkF m 29 #[.val (.int p0), .val (.long q1), .second, .val (.int (3 : Int32)), .val (.ref b1), .val (.ref b2), .unset] [(.ref b2)])) _
    refine X2.arraylength hx (by rw [e2]; exact Ar_29_3.1) (State.isArrayOf_alike hZ.alike Ar_29_3.2.1) (g := (mkF m 29 #[.val (.int p0), .val (.long q1), .second, .val (.int (3 : Int32)), .val (.ref b1), .val (.ref b2), .unset] [(.ref b2)])) rfl rfl (hb hby at_29) _ ?_
    rw [len_of S_29_3 M_29_3]
    show Steps p.tables e below (T2.setTop (mkF m 30 #[.val (.int p0), .val (.long q1), .second, .val (.int (3 : Int32)), .val (.ref b1), .val (.ref b2), .unset] [(.int (4 : Int32))])) _
    refine XS.iloadN X2.here hx rfl (hb hby at_30) rfl ?_
    show Steps p.tables e below (T2.setTop (mkF m 31 #[.val (.int p0), .val (.long q1), .second, .val (.int (3 : Int32)), .val (.ref b1), .val (.ref b2), .unset] [(.int (3 : Int32)), (.int (4 : Int32))])) _
    refine XS.iconst X2.here hx rfl (hb hby at_31) ?_
    show Steps p.tables e below (T2.setTop (mkF m 32 #[.val (.int p0), .val (.long q1), .second, .val (.int (3 : Int32)), .val (.ref b1), .val (.ref b2), .unset] [(.int (1 : Int32)), (.int (3 : Int32)), (.int (4 : Int32))])) _
    refine XS.iadd X2.here hx rfl (hb hby at_32) rfl ?_
    show Steps p.tables e below (T2.setTop (mkF m 33 #[.val (.int p0), .val (.long q1), .second, .val (.int (3 : Int32)), .val (.ref b1), .val (.ref b2), .unset] [(.int (4 : Int32)), (.int (4 : Int32))])) _
    refine XS.icmpNo X2.here hx rfl (hb hby at_33) rfl (teq (by decide : (4 : Int32) = (4 : Int32))).2 ?_
    show Steps p.tables e below (T2.setTop (mkF m 36 #[.val (.int p0), .val (.long q1), .second, .val (.int (3 : Int32)), .val (.ref b1), .val (.ref b2), .unset] [])) _
    refine XS.aload X2.here hx rfl (hb hby at_36) rfl rfl ?_
    show Steps p.tables e below (T2.setTop (mkF m 38 #[.val (.int p0), .val (.long q1), .second, .val (.int (3 : Int32)), .val (.ref b1), .val (.ref b2), .unset] [(.ref b1)])) _
    refine X2.arraylength hx (by rw [e2]; exact Ar_38_4.1) (State.isArrayOf_alike hZ.alike Ar_38_4.2.1) (g := (mkF m 38 #[.val (.int p0), .val (.long q1), .second, .val (.int (3 : Int32)), .val (.ref b1), .val (.ref b2), .unset] [(.ref b1)])) rfl rfl (hb hby at_38) _ ?_
    rw [len_of S_38_4 M_38_4]
    show Steps p.tables e below (T2.setTop (mkF m 39 #[.val (.int p0), .val (.long q1), .second, .val (.int (3 : Int32)), .val (.ref b1), .val (.ref b2), .unset] [(.int (3 : Int32))])) _
    refine XS.iloadN X2.here hx rfl (hb hby at_39) rfl ?_
    show Steps p.tables e below (T2.setTop (mkF m 40 #[.val (.int p0), .val (.long q1), .second, .val (.int (3 : Int32)), .val (.ref b1), .val (.ref b2), .unset] [(.int (3 : Int32)), (.int (3 : Int32))])) _
    refine XS.icmpYes X2.here hx rfl (pc0 := 40) (pc' := 45) rfl (hb hby at_40) rfl (teq (by decide : (3 : Int32) = (3 : Int32))).1 (by decide) (by decide) ?_
    show Steps p.tables e below (T2.setTop (mkF m 45 #[.val (.int p0), .val (.long q1), .second, .val (.int (3 : Int32)), .val (.ref b1), .val (.ref b2), .unset] [])) _
    refine XS.aload X2.here hx rfl (hb hby at_45) rfl rfl ?_
    show Steps p.tables e below (T2.setTop (mkF m 47 #[.val (.int p0), .val (.long q1), .second, .val (.int (3 : Int32)), .val (.ref b1), .val (.ref b2), .unset] [(.ref b2)])) _
    refine XS.iloadN X2.here hx rfl (hb hby at_47) rfl ?_
    show Steps p.tables e below (T2.setTop (mkF m 48 #[.val (.int p0), .val (.long q1), .second, .val (.int (3 : Int32)), .val (.ref b1), .val (.ref b2), .unset] [(.int (3 : Int32)), (.ref b2)])) _
    refine X2.baloadBytes hx (j := (3 : Int32)) (v := (.int (-1 : Int32))) (by rw [e2]; exact Ar_48_5.1) (State.isArrayOf_alike hZ.alike Ar_48_5.2.1) Ar_48_5.2.2 hin48_5 hat48_5 (g := (mkF m 48 #[.val (.int p0), .val (.long q1), .second, .val (.int (3 : Int32)), .val (.ref b1), .val (.ref b2), .unset] [(.int (3 : Int32)), (.ref b2)])) rfl rfl (hb hby at_48) _ ?_
    show Steps p.tables e below (T2.setTop (mkF m 49 #[.val (.int p0), .val (.long q1), .second, .val (.int (3 : Int32)), .val (.ref b1), .val (.ref b2), .unset] [(.int (-1 : Int32))])) _
    refine XS.iconst X2.here hx rfl (hb hby at_49) ?_
    show Steps p.tables e below (T2.setTop (mkF m 50 #[.val (.int p0), .val (.long q1), .second, .val (.int (3 : Int32)), .val (.ref b1), .val (.ref b2), .unset] [(.int (-1 : Int32)), (.int (-1 : Int32))])) _
    refine XS.icmpNo X2.here hx rfl (hb hby at_50) rfl (teq (by decide : (-1 : Int32) = (-1 : Int32))).2 ?_
    show Steps p.tables e below (T2.setTop (mkF m 53 #[.val (.int p0), .val (.long q1), .second, .val (.int (3 : Int32)), .val (.ref b1), .val (.ref b2), .unset] [])) _
    refine XS.iconst X2.here hx rfl (hb hby at_53) ?_
    show Steps p.tables e below (T2.setTop (mkF m 54 #[.val (.int p0), .val (.long q1), .second, .val (.int (3 : Int32)), .val (.ref b1), .val (.ref b2), .unset] [(.int (1 : Int32))])) _
    refine XS.goto X2.here hx rfl (pc0 := 54) (pc' := 58) rfl (hb hby at_54) (by decide) (by decide) ?_
    show Steps p.tables e below (T2.setTop (mkF m 58 #[.val (.int p0), .val (.long q1), .second, .val (.int (3 : Int32)), .val (.ref b1), .val (.ref b2), .unset] [(.int (1 : Int32))])) _
    refine XS.istore X2.here hx rfl (hb hby at_58) rfl (l' := #[.val (.int p0), .val (.long q1), .second, .val (.int (3 : Int32)), .val (.ref b1), .val (.ref b2), .val (.int (1 : Int32))]) rfl ?_
    show Steps p.tables e below (T2.setTop (mkF m 60 #[.val (.int p0), .val (.long q1), .second, .val (.int (3 : Int32)), .val (.ref b1), .val (.ref b2), .val (.int (1 : Int32))] [])) _
    refine XS.iload X2.here hx rfl (hb hby at_60) rfl ?_
    show Steps p.tables e below (T2.setTop (mkF m 62 #[.val (.int p0), .val (.long q1), .second, .val (.int (3 : Int32)), .val (.ref b1), .val (.ref b2), .val (.int (1 : Int32))] [(.int (1 : Int32))])) _
    refine XS.ifNo X2.here hx rfl (hb hby at_62) rfl ((if0 _ _).trans (feq (by decide : ¬ ((1 : Int32) = (0 : Int32)))).1) ?_
    show Steps p.tables e below (T2.setTop (mkF m 65 #[.val (.int p0), .val (.long q1), .second, .val (.int (3 : Int32)), .val (.ref b1), .val (.ref b2), .val (.int (1 : Int32))] [])) _
    refine XS.aload X2.here hx rfl (hb hby at_65) rfl rfl ?_
    show Steps p.tables e below (T2.setTop (mkF m 67 #[.val (.int p0), .val (.long q1), .second, .val (.int (3 : Int32)), .val (.ref b1), .val (.ref b2), .val (.int (1 : Int32))] [(.ref b2)])) _
    refine XS.aload X2.here hx rfl (hb hby at_67) rfl rfl ?_
    show Steps p.tables e below (T2.setTop (mkF m 69 #[.val (.int p0), .val (.long q1), .second, .val (.int (3 : Int32)), .val (.ref b1), .val (.ref b2), .val (.int (1 : Int32))] [(.ref b1), (.ref b2)])) _
    refine XS.iconst X2.here hx rfl (hb hby at_69) ?_
    show Steps p.tables e below (T2.setTop (mkF m 70 #[.val (.int p0), .val (.long q1), .second, .val (.int (3 : Int32)), .val (.ref b1), .val (.ref b2), .val (.int (1 : Int32))] [(.int (0 : Int32)), (.ref b1), (.ref b2)])) _
    refine XS.iloadN X2.here hx rfl (hb hby at_70) rfl ?_
    show Steps p.tables e below (T2.setTop (mkF m 71 #[.val (.int p0), .val (.long q1), .second, .val (.int (3 : Int32)), .val (.ref b1), .val (.ref b2), .val (.int (1 : Int32))] [(.int (3 : Int32)), (.int (0 : Int32)), (.ref b1), (.ref b2)])) _
    refine XS.lloadN X2.here hx rfl (hb hby at_71) rfl ?_
    show Steps p.tables e below (T2.setTop (mkF m 72 #[.val (.int p0), .val (.long q1), .second, .val (.int (3 : Int32)), .val (.ref b1), .val (.ref b2), .val (.int (1 : Int32))] [(.long q1), (.int (3 : Int32)), (.int (0 : Int32)), (.ref b1), (.ref b2)])) _
    refine st6 _ ?_
    show Steps p.tables e below (T6.setTop (mkF m 75 #[.val (.int p0), .val (.long q1), .second, .val (.int (3 : Int32)), .val (.ref b1), .val (.ref b2), .val (.int (1 : Int32))] [(.int (1 : Int32))])) _
    refine XS.ifNo X6.here hx rfl (hb hby at_75) rfl ((if0 _ _).trans (feq (by decide : ¬ ((1 : Int32) = (0 : Int32)))).1) ?_
    show Steps p.tables e below (T6.setTop (mkF m 78 #[.val (.int p0), .val (.long q1), .second, .val (.int (3 : Int32)), .val (.ref b1), .val (.ref b2), .val (.int (1 : Int32))] [])) _
    refine XS.iconst X6.here hx rfl (hb hby at_78) ?_
    show Steps p.tables e below (T6.setTop (mkF m 79 #[.val (.int p0), .val (.long q1), .second, .val (.int (3 : Int32)), .val (.ref b1), .val (.ref b2), .val (.int (1 : Int32))] [(.int (1 : Int32))])) _
    refine XS.goto X6.here hx rfl (pc0 := 79) (pc' := 83) rfl (hb hby at_79) (by decide) (by decide) ?_
    show Steps p.tables e below (T6.setTop (mkF m 83 #[.val (.int p0), .val (.long q1), .second, .val (.int (3 : Int32)), .val (.ref b1), .val (.ref b2), .val (.int (1 : Int32))] [(.int (1 : Int32))])) _
    refine XS.istore X6.here hx rfl (hb hby at_83) rfl (l' := #[.val (.int p0), .val (.long q1), .second, .val (.int (3 : Int32)), .val (.ref b1), .val (.ref b2), .val (.int (1 : Int32))]) rfl ?_
    show Steps p.tables e below (T6.setTop (mkF m 85 #[.val (.int p0), .val (.long q1), .second, .val (.int (3 : Int32)), .val (.ref b1), .val (.ref b2), .val (.int (1 : Int32))] [])) _
    refine XS.iload X6.here hx rfl (hb hby at_85) rfl ?_
    show Steps p.tables e below (T6.setTop (mkF m 87 #[.val (.int p0), .val (.long q1), .second, .val (.int (3 : Int32)), .val (.ref b1), .val (.ref b2), .val (.int (1 : Int32))] [(.int (1 : Int32))])) _
    refine XS.ifNo X6.here hx rfl (hb hby at_87) rfl ((if0 _ _).trans (feq (by decide : ¬ ((1 : Int32) = (0 : Int32)))).1) ?_
    show Steps p.tables e below (T6.setTop (mkF m 90 #[.val (.int p0), .val (.long q1), .second, .val (.int (3 : Int32)), .val (.ref b1), .val (.ref b2), .val (.int (1 : Int32))] [])) _
    refine XS.aload X6.here hx rfl (hb hby at_90) rfl rfl ?_
    show Steps p.tables e below (T6.setTop (mkF m 92 #[.val (.int p0), .val (.long q1), .second, .val (.int (3 : Int32)), .val (.ref b1), .val (.ref b2), .val (.int (1 : Int32))] [(.ref b2)])) _
    refine XS.aload X6.here hx rfl (hb hby at_92) rfl rfl ?_
    show Steps p.tables e below (T6.setTop (mkF m 94 #[.val (.int p0), .val (.long q1), .second, .val (.int (3 : Int32)), .val (.ref b1), .val (.ref b2), .val (.int (1 : Int32))] [(.ref b1), (.ref b2)])) _
    refine XS.iconst X6.here hx rfl (hb hby at_94) ?_
    show Steps p.tables e below (T6.setTop (mkF m 95 #[.val (.int p0), .val (.long q1), .second, .val (.int (3 : Int32)), .val (.ref b1), .val (.ref b2), .val (.int (1 : Int32))] [(.int (1 : Int32)), (.ref b1), (.ref b2)])) _
    refine XS.iloadN X6.here hx rfl (hb hby at_95) rfl ?_
    show Steps p.tables e below (T6.setTop (mkF m 96 #[.val (.int p0), .val (.long q1), .second, .val (.int (3 : Int32)), .val (.ref b1), .val (.ref b2), .val (.int (1 : Int32))] [(.int (3 : Int32)), (.int (1 : Int32)), (.ref b1), (.ref b2)])) _
    refine XS.lloadN X6.here hx rfl (hb hby at_96) rfl ?_
    show Steps p.tables e below (T6.setTop (mkF m 97 #[.val (.int p0), .val (.long q1), .second, .val (.int (3 : Int32)), .val (.ref b1), .val (.ref b2), .val (.int (1 : Int32))] [(.long q1), (.int (3 : Int32)), (.int (1 : Int32)), (.ref b1), (.ref b2)])) _
    refine st7 _ ?_
    show Steps p.tables e below (T7.setTop (mkF m 100 #[.val (.int p0), .val (.long q1), .second, .val (.int (3 : Int32)), .val (.ref b1), .val (.ref b2), .val (.int (1 : Int32))] [(.int (1 : Int32))])) _
    refine XS.ifNo X7.here hx rfl (hb hby at_100) rfl ((if0 _ _).trans (feq (by decide : ¬ ((1 : Int32) = (0 : Int32)))).1) ?_
    show Steps p.tables e below (T7.setTop (mkF m 103 #[.val (.int p0), .val (.long q1), .second, .val (.int (3 : Int32)), .val (.ref b1), .val (.ref b2), .val (.int (1 : Int32))] [])) _
    refine XS.iconst X7.here hx rfl (hb hby at_103) ?_
    show Steps p.tables e below (T7.setTop (mkF m 104 #[.val (.int p0), .val (.long q1), .second, .val (.int (3 : Int32)), .val (.ref b1), .val (.ref b2), .val (.int (1 : Int32))] [(.int (1 : Int32))])) _
    refine XS.goto X7.here hx rfl (pc0 := 104) (pc' := 108) rfl (hb hby at_104) (by decide) (by decide) ?_
    show Steps p.tables e below (T7.setTop (mkF m 108 #[.val (.int p0), .val (.long q1), .second, .val (.int (3 : Int32)), .val (.ref b1), .val (.ref b2), .val (.int (1 : Int32))] [(.int (1 : Int32))])) _
    refine XS.istore X7.here hx rfl (hb hby at_108) rfl (l' := #[.val (.int p0), .val (.long q1), .second, .val (.int (3 : Int32)), .val (.ref b1), .val (.ref b2), .val (.int (1 : Int32))]) rfl ?_
    show Steps p.tables e below (T7.setTop (mkF m 110 #[.val (.int p0), .val (.long q1), .second, .val (.int (3 : Int32)), .val (.ref b1), .val (.ref b2), .val (.int (1 : Int32))] [])) _
    refine XS.iload X7.here hx rfl (hb hby at_110) rfl ?_
    show Steps p.tables e below (T7.setTop (mkF m 112 #[.val (.int p0), .val (.long q1), .second, .val (.int (3 : Int32)), .val (.ref b1), .val (.ref b2), .val (.int (1 : Int32))] [(.int (1 : Int32))])) _
    refine XS.ifNo X7.here hx rfl (hb hby at_112) rfl ((if0 _ _).trans (feq (by decide : ¬ ((1 : Int32) = (0 : Int32)))).1) ?_
    show Steps p.tables e below (T7.setTop (mkF m 115 #[.val (.int p0), .val (.long q1), .second, .val (.int (3 : Int32)), .val (.ref b1), .val (.ref b2), .val (.int (1 : Int32))] [])) _
    refine XS.aload X7.here hx rfl (hb hby at_115) rfl rfl ?_
    show Steps p.tables e below (T7.setTop (mkF m 117 #[.val (.int p0), .val (.long q1), .second, .val (.int (3 : Int32)), .val (.ref b1), .val (.ref b2), .val (.int (1 : Int32))] [(.ref b2)])) _
    refine XS.aload X7.here hx rfl (hb hby at_117) rfl rfl ?_
    show Steps p.tables e below (T7.setTop (mkF m 119 #[.val (.int p0), .val (.long q1), .second, .val (.int (3 : Int32)), .val (.ref b1), .val (.ref b2), .val (.int (1 : Int32))] [(.ref b1), (.ref b2)])) _
    refine XS.iconst X7.here hx rfl (hb hby at_119) ?_
    show Steps p.tables e below (T7.setTop (mkF m 120 #[.val (.int p0), .val (.long q1), .second, .val (.int (3 : Int32)), .val (.ref b1), .val (.ref b2), .val (.int (1 : Int32))] [(.int (2 : Int32)), (.ref b1), (.ref b2)])) _
    refine XS.iloadN X7.here hx rfl (hb hby at_120) rfl ?_
    show Steps p.tables e below (T7.setTop (mkF m 121 #[.val (.int p0), .val (.long q1), .second, .val (.int (3 : Int32)), .val (.ref b1), .val (.ref b2), .val (.int (1 : Int32))] [(.int (3 : Int32)), (.int (2 : Int32)), (.ref b1), (.ref b2)])) _
    refine XS.lloadN X7.here hx rfl (hb hby at_121) rfl ?_
    show Steps p.tables e below (T7.setTop (mkF m 122 #[.val (.int p0), .val (.long q1), .second, .val (.int (3 : Int32)), .val (.ref b1), .val (.ref b2), .val (.int (1 : Int32))] [(.long q1), (.int (3 : Int32)), (.int (2 : Int32)), (.ref b1), (.ref b2)])) _
    refine st8 _ ?_
    show Steps p.tables e below (T8.setTop (mkF m 125 #[.val (.int p0), .val (.long q1), .second, .val (.int (3 : Int32)), .val (.ref b1), .val (.ref b2), .val (.int (1 : Int32))] [(.int (1 : Int32))])) _
    refine XS.ifNo X8.here hx rfl (hb hby at_125) rfl ((if0 _ _).trans (feq (by decide : ¬ ((1 : Int32) = (0 : Int32)))).1) ?_
    show Steps p.tables e below (T8.setTop (mkF m 128 #[.val (.int p0), .val (.long q1), .second, .val (.int (3 : Int32)), .val (.ref b1), .val (.ref b2), .val (.int (1 : Int32))] [])) _
    refine XS.iconst X8.here hx rfl (hb hby at_128) ?_
    show Steps p.tables e below (T8.setTop (mkF m 129 #[.val (.int p0), .val (.long q1), .second, .val (.int (3 : Int32)), .val (.ref b1), .val (.ref b2), .val (.int (1 : Int32))] [(.int (1 : Int32))])) _
    refine XS.goto X8.here hx rfl (pc0 := 129) (pc' := 133) rfl (hb hby at_129) (by decide) (by decide) ?_
    show Steps p.tables e below (T8.setTop (mkF m 133 #[.val (.int p0), .val (.long q1), .second, .val (.int (3 : Int32)), .val (.ref b1), .val (.ref b2), .val (.int (1 : Int32))] [(.int (1 : Int32))])) _
    refine XS.istore X8.here hx rfl (hb hby at_133) rfl (l' := #[.val (.int p0), .val (.long q1), .second, .val (.int (3 : Int32)), .val (.ref b1), .val (.ref b2), .val (.int (1 : Int32))]) rfl ?_
    show Steps p.tables e below (T8.setTop (mkF m 135 #[.val (.int p0), .val (.long q1), .second, .val (.int (3 : Int32)), .val (.ref b1), .val (.ref b2), .val (.int (1 : Int32))] [])) _
    refine XS.iload X8.here hx rfl (hb hby at_135) rfl ?_
    show Steps p.tables e below (T8.setTop (mkF m 137 #[.val (.int p0), .val (.long q1), .second, .val (.int (3 : Int32)), .val (.ref b1), .val (.ref b2), .val (.int (1 : Int32))] [(.int (1 : Int32))])) _
    refine XS.ifNo X8.here hx rfl (hb hby at_137) rfl ((if0 _ _).trans (feq (by decide : ¬ ((1 : Int32) = (0 : Int32)))).1) ?_
    show Steps p.tables e below (T8.setTop (mkF m 140 #[.val (.int p0), .val (.long q1), .second, .val (.int (3 : Int32)), .val (.ref b1), .val (.ref b2), .val (.int (1 : Int32))] [])) _
    refine XS.aload X8.here hx rfl (hb hby at_140) rfl rfl ?_
    show Steps p.tables e below (T8.setTop (mkF m 142 #[.val (.int p0), .val (.long q1), .second, .val (.int (3 : Int32)), .val (.ref b1), .val (.ref b2), .val (.int (1 : Int32))] [(.ref b2)])) _
    refine XS.aload X8.here hx rfl (hb hby at_142) rfl rfl ?_
    show Steps p.tables e below (T8.setTop (mkF m 144 #[.val (.int p0), .val (.long q1), .second, .val (.int (3 : Int32)), .val (.ref b1), .val (.ref b2), .val (.int (1 : Int32))] [(.ref b1), (.ref b2)])) _
    refine XS.iconst X8.here hx rfl (hb hby at_144) ?_
    show Steps p.tables e below (T8.setTop (mkF m 145 #[.val (.int p0), .val (.long q1), .second, .val (.int (3 : Int32)), .val (.ref b1), .val (.ref b2), .val (.int (1 : Int32))] [(.int (3 : Int32)), (.ref b1), (.ref b2)])) _
    refine XS.iloadN X8.here hx rfl (hb hby at_145) rfl ?_
    show Steps p.tables e below (T8.setTop (mkF m 146 #[.val (.int p0), .val (.long q1), .second, .val (.int (3 : Int32)), .val (.ref b1), .val (.ref b2), .val (.int (1 : Int32))] [(.int (3 : Int32)), (.int (3 : Int32)), (.ref b1), (.ref b2)])) _
    refine XS.lloadN X8.here hx rfl (hb hby at_146) rfl ?_
    show Steps p.tables e below (T8.setTop (mkF m 147 #[.val (.int p0), .val (.long q1), .second, .val (.int (3 : Int32)), .val (.ref b1), .val (.ref b2), .val (.int (1 : Int32))] [(.long q1), (.int (3 : Int32)), (.int (3 : Int32)), (.ref b1), (.ref b2)])) _
    refine st9 _ ?_
    show Steps p.tables e below (T9.setTop (mkF m 150 #[.val (.int p0), .val (.long q1), .second, .val (.int (3 : Int32)), .val (.ref b1), .val (.ref b2), .val (.int (1 : Int32))] [(.int (1 : Int32))])) _
    refine XS.ifNo X9.here hx rfl (hb hby at_150) rfl ((if0 _ _).trans (feq (by decide : ¬ ((1 : Int32) = (0 : Int32)))).1) ?_
    show Steps p.tables e below (T9.setTop (mkF m 153 #[.val (.int p0), .val (.long q1), .second, .val (.int (3 : Int32)), .val (.ref b1), .val (.ref b2), .val (.int (1 : Int32))] [])) _
    refine XS.iconst X9.here hx rfl (hb hby at_153) ?_
    show Steps p.tables e below (T9.setTop (mkF m 154 #[.val (.int p0), .val (.long q1), .second, .val (.int (3 : Int32)), .val (.ref b1), .val (.ref b2), .val (.int (1 : Int32))] [(.int (1 : Int32))])) _
    refine XS.goto X9.here hx rfl (pc0 := 154) (pc' := 158) rfl (hb hby at_154) (by decide) (by decide) ?_
    show Steps p.tables e below (T9.setTop (mkF m 158 #[.val (.int p0), .val (.long q1), .second, .val (.int (3 : Int32)), .val (.ref b1), .val (.ref b2), .val (.int (1 : Int32))] [(.int (1 : Int32))])) _
    refine XS.istore X9.here hx rfl (hb hby at_158) rfl (l' := #[.val (.int p0), .val (.long q1), .second, .val (.int (3 : Int32)), .val (.ref b1), .val (.ref b2), .val (.int (1 : Int32))]) rfl ?_
    show Steps p.tables e below (T9.setTop (mkF m 160 #[.val (.int p0), .val (.long q1), .second, .val (.int (3 : Int32)), .val (.ref b1), .val (.ref b2), .val (.int (1 : Int32))] [])) _
    refine XS.iload X9.here hx rfl (hb hby at_160) rfl ?_
    show Steps p.tables e below (T9.setTop (mkF m 162 #[.val (.int p0), .val (.long q1), .second, .val (.int (3 : Int32)), .val (.ref b1), .val (.ref b2), .val (.int (1 : Int32))] [(.int (1 : Int32))])) _
    refine XS.ifNo X9.here hx rfl (hb hby at_162) rfl ((if0 _ _).trans (feq (by decide : ¬ ((1 : Int32) = (0 : Int32)))).1) ?_
    show Steps p.tables e below (T9.setTop (mkF m 165 #[.val (.int p0), .val (.long q1), .second, .val (.int (3 : Int32)), .val (.ref b1), .val (.ref b2), .val (.int (1 : Int32))] [])) _
    refine XS.aload X9.here hx rfl (hb hby at_165) rfl rfl ?_
    show Steps p.tables e below (T9.setTop (mkF m 167 #[.val (.int p0), .val (.long q1), .second, .val (.int (3 : Int32)), .val (.ref b1), .val (.ref b2), .val (.int (1 : Int32))] [(.ref b2)])) _
    refine XS.aload X9.here hx rfl (hb hby at_167) rfl rfl ?_
    show Steps p.tables e below (T9.setTop (mkF m 169 #[.val (.int p0), .val (.long q1), .second, .val (.int (3 : Int32)), .val (.ref b1), .val (.ref b2), .val (.int (1 : Int32))] [(.ref b1), (.ref b2)])) _
    refine XS.iconst X9.here hx rfl (hb hby at_169) ?_
    show Steps p.tables e below (T9.setTop (mkF m 170 #[.val (.int p0), .val (.long q1), .second, .val (.int (3 : Int32)), .val (.ref b1), .val (.ref b2), .val (.int (1 : Int32))] [(.int (4 : Int32)), (.ref b1), (.ref b2)])) _
    refine XS.iloadN X9.here hx rfl (hb hby at_170) rfl ?_
    show Steps p.tables e below (T9.setTop (mkF m 171 #[.val (.int p0), .val (.long q1), .second, .val (.int (3 : Int32)), .val (.ref b1), .val (.ref b2), .val (.int (1 : Int32))] [(.int (3 : Int32)), (.int (4 : Int32)), (.ref b1), (.ref b2)])) _
    refine XS.lloadN X9.here hx rfl (hb hby at_171) rfl ?_
    show Steps p.tables e below (T9.setTop (mkF m 172 #[.val (.int p0), .val (.long q1), .second, .val (.int (3 : Int32)), .val (.ref b1), .val (.ref b2), .val (.int (1 : Int32))] [(.long q1), (.int (3 : Int32)), (.int (4 : Int32)), (.ref b1), (.ref b2)])) _
    refine st10 _ ?_
    show Steps p.tables e below (T10.setTop (mkF m 175 #[.val (.int p0), .val (.long q1), .second, .val (.int (3 : Int32)), .val (.ref b1), .val (.ref b2), .val (.int (1 : Int32))] [(.int (1 : Int32))])) _
    refine XS.ifNo X10.here hx rfl (hb hby at_175) rfl ((if0 _ _).trans (feq (by decide : ¬ ((1 : Int32) = (0 : Int32)))).1) ?_
    show Steps p.tables e below (T10.setTop (mkF m 178 #[.val (.int p0), .val (.long q1), .second, .val (.int (3 : Int32)), .val (.ref b1), .val (.ref b2), .val (.int (1 : Int32))] [])) _
    refine XS.iconst X10.here hx rfl (hb hby at_178) ?_
    show Steps p.tables e below (T10.setTop (mkF m 179 #[.val (.int p0), .val (.long q1), .second, .val (.int (3 : Int32)), .val (.ref b1), .val (.ref b2), .val (.int (1 : Int32))] [(.int (1 : Int32))])) _
    refine XS.goto X10.here hx rfl (pc0 := 179) (pc' := 183) rfl (hb hby at_179) (by decide) (by decide) ?_
    show Steps p.tables e below (T10.setTop (mkF m 183 #[.val (.int p0), .val (.long q1), .second, .val (.int (3 : Int32)), .val (.ref b1), .val (.ref b2), .val (.int (1 : Int32))] [(.int (1 : Int32))])) _
    refine XS.istore X10.here hx rfl (hb hby at_183) rfl (l' := #[.val (.int p0), .val (.long q1), .second, .val (.int (3 : Int32)), .val (.ref b1), .val (.ref b2), .val (.int (1 : Int32))]) rfl ?_
    show Steps p.tables e below (T10.setTop (mkF m 185 #[.val (.int p0), .val (.long q1), .second, .val (.int (3 : Int32)), .val (.ref b1), .val (.ref b2), .val (.int (1 : Int32))] [])) _
    refine XS.iload X10.here hx rfl (hb hby at_185) rfl ?_
    show Steps p.tables e below (T10.setTop (mkF m 187 #[.val (.int p0), .val (.long q1), .second, .val (.int (3 : Int32)), .val (.ref b1), .val (.ref b2), .val (.int (1 : Int32))] [(.int (1 : Int32))])) _
    exact retN X10 hx (t := .boolean) Bd.returns (by simp) (hb hby at_187) hr
  · show Q0_3 Z p0 q1 h0 n0 _ T10.heap _
    rw [e10]
    exact ⟨rfl, N10⟩
set_option maxRecDepth 65536 in
set_option maxHeartbeats 40000000 in
theorem pc_8_4 {p : Program} {l : Launch} {e : Env} {R : Room} {s : State} {m : MethodId} {args : Array Value} {below : List Frame} {meth : Method} {c : Code} {T0 : State} {locs : List Loc} {cells slots : Nat} {Z : State} {a0 : Array Value} (p0 : Int32) (q1 : Int64)
    (X0 : Stand p l e R s m args below meth c T0 locs cells slots) (hx : p.tables.exec = Jvm.exec) (hZ : Z.Warmed39 s.vm) (hw : ∀ d ∈ tables_1, d.before a0 Z = true) (hby : c.code = code) (hown : s.vm.findClass "com/example/usrset/usrset/store/KeyPastTuplesOfPinLaw" = some m.cls) (hk : own_n p0 = (4 : Int32)) :
    ∀ target, Steps p.tables e below (T0.setTop (mkF m 8 #[.val (.int p0), .val (.long q1), .second, .val (.int (4 : Int32)), .unset, .unset, .unset] [])) target → Steps p.tables e below (T0.setTop (mkF m 0 #[.val (.int p0), .val (.long q1), .second, .unset, .unset, .unset, .unset] [])) target := by
  intro target kt
  show Steps p.tables e below (T0.setTop (mkF m 0 #[.val (.int p0), .val (.long q1), .second, .unset, .unset, .unset, .unset] [])) _
  refine XS.iloadN X0.here hx rfl (hb hby at_0) rfl ?_
  show Steps p.tables e below (T0.setTop (mkF m 1 #[.val (.int p0), .val (.long q1), .second, .unset, .unset, .unset, .unset] [(.int p0)])) _
  refine X0.ldcInt hx hown (mvT hZ (hw _ (List.mem_of_getElem? (i := 0) rfl))) (g := (mkF m 1 #[.val (.int p0), .val (.long q1), .second, .unset, .unset, .unset, .unset] [(.int p0)])) rfl (hb hby at_1) _ ?_
  show Steps p.tables e below (T0.setTop (mkF m 3 #[.val (.int p0), .val (.long q1), .second, .unset, .unset, .unset, .unset] [(.int (2147483647 : Int32)), (.int p0)])) _
  refine XS.iand X0.here hx rfl (hb hby at_3) rfl ?_
  show Steps p.tables e below (T0.setTop (mkF m 4 #[.val (.int p0), .val (.long q1), .second, .unset, .unset, .unset, .unset] [(.int (p0 &&& (2147483647 : Int32)))])) _
  refine XS.bipush X0.here hx rfl (hb hby at_4) ?_
  show Steps p.tables e below (T0.setTop (mkF m 6 #[.val (.int p0), .val (.long q1), .second, .unset, .unset, .unset, .unset] [(.int (6 : Int32)), (.int (p0 &&& (2147483647 : Int32)))])) _
  refine XS.irem X0.here hx rfl (hb hby at_6) rfl (by decide) ?_
  show Steps p.tables e below (T0.setTop (mkF m 7 #[.val (.int p0), .val (.long q1), .second, .unset, .unset, .unset, .unset] [(.int ((p0 &&& (2147483647 : Int32)) - ((p0 &&& (2147483647 : Int32)) / (6 : Int32)) * (6 : Int32)))])) _
  refine XS.istoreN X0.here hx rfl (hb hby at_7) rfl (l' := #[.val (.int p0), .val (.long q1), .second, .val (.int ((p0 &&& (2147483647 : Int32)) - ((p0 &&& (2147483647 : Int32)) / (6 : Int32)) * (6 : Int32))), .unset, .unset, .unset]) rfl ?_
  show Steps p.tables e below (T0.setTop (mkF m 8 #[.val (.int p0), .val (.long q1), .second, .val (.int ((p0 &&& (2147483647 : Int32)) - ((p0 &&& (2147483647 : Int32)) / (6 : Int32)) * (6 : Int32))), .unset, .unset, .unset] [])) _
  have et : ((p0 &&& (2147483647 : Int32)) - ((p0 &&& (2147483647 : Int32)) / (6 : Int32)) * (6 : Int32)) = (4 : Int32) := hk
  rw [et]
  exact kt
theorem ef_0_4 (m : MethodId) (x0 : Int32) (x1 : Int64) : entryFrame m #[(.int x0), (.long x1)] maxLocals = mkF m 0 #[.val (.int x0), .val (.long x1), .second, .unset, .unset, .unset, .unset] [] := by first | (simp [entryFrame, mkF, argsToLocals, Value.category, maxLocals]; done) | rfl
def Q0_4 (Z : State) (p0 : Int32) (q1 : Int64) (h0 : Heap) (n0 : Nat) (v : Option Value) (h : Heap) (L : List Loc) : Prop := v = some (.int 1) ∧ Fr n0 L
set_option maxRecDepth 65536 in
set_option maxHeartbeats 40000000 in
theorem rm0_4 (l : Launch) (Z : State) (a0 : Array Value) (hw : ∀ d ∈ tables_1, d.before a0 Z = true) (ws : List Jvm.Cond) (p0 : Int32) (q1 : Int64) (h0 : Heap) (n0 : Nat) (Z0 : n0 ≤ h0.size) (hk : own_n p0 = (4 : Int32)) :
    MetFree l x (head1 (Jvm.Cond.code x code maxLocals ret :: ws) room_1) (fun a U => a = #[(.int p0), (.long q1)] ∧ Z.Warmed39 U.vm ∧ U.heap = h0) (fun _ _ _ _ _ => True) (fun _ U o U' => ∃ v L, o = .returned v ∧ Q0_4 Z p0 q1 h0 n0 v U'.heap L ∧ FrameEnd U o U' L room_1.cells room_1.slots) := by
  refine MetFree.of_bodySF (plainFor_of_name pn_com_example_usrset_usrset_store_KeyPastTuplesOfPinLaw) hisR ?_
  intro p e s m args below meth c s₁ Bd hml0 hP hK
  obtain ⟨rfl, hZ, hh⟩ := hP
  have hx := Bd.exec
  have hby := Bd.bytes
  have hml : c.maxLocals = 7 := hml0
  have hown : s.vm.findClass "com/example/usrset/usrset/store/KeyPastTuplesOfPinLaw" = some m.cls := findClass_of_methodNamed Bd.named
  have hnm := (name_of_methodNamed Bd.named Bd.method).1
  have X0 : Stand p l e room_1 s m #[(.int p0), (.long q1)] below meth c s₁ [] 0 0 := Stand.of_body Bd
  have e0 : s₁.heap = h0 := by rw [← hh, Bd.state]; rfl
  have N0 := Fr.nil n0
  have pre0 : ∀ t, Steps p.tables e below (s₁.setTop (mkF m 0 #[.val (.int p0), .val (.long q1), .second, .unset, .unset, .unset, .unset] [])) t → Steps p.tables e below (s₁.setTop (entryFrame m #[(.int p0), (.long q1)] maxLocals)) t := fun t k => castTop (ef_0_4 m p0 q1) k
  have sp0 := pc_8_4 p0 q1 X0 hx hZ hw hby hown hk
  obtain ⟨_, _, ⟨T1, L1, k1, n1⟩, -, X1, ⟨Lc1, hQ1, l1, y1, z1⟩, st1⟩ := Jvm.LawKit.callS X0 hx (y := (⟨"com/example/usrset/usrset/store/KeyPastTuplesOfPinLaw", "make", "(IJ)[B"⟩ : MethodName)) hown (mvT hZ (hw _ (List.mem_of_getElem? (i := 1) rfl))) (mvT hZ (hw _ (List.mem_of_getElem? (i := 2) rfl))) (mvT hZ (hw _ (List.mem_of_getElem? (i := 3) rfl))) (mvT hZ (hw _ (List.mem_of_getElem? (i := 4) rfl))) (by decide) (backOf (W := 0) (rm1_4 l Z a0 hw [] q1 h0 n0 Z0) hZ (hw _ (List.mem_of_getElem? (i := 4) rfl)) (hw _ (List.mem_of_getElem? (i := 3) rfl)) (by decide) (by decide)) (g := (mkF m 10 #[.val (.int p0), .val (.long q1), .second, .val (.int (4 : Int32)), .unset, .unset, .unset] [(.long q1), (.int (4 : Int32))])) rfl (by rw [hml]; rfl) (argsL := [(.int (4 : Int32)), (.long q1)]) (rest := []) (lenOf pd_28IJ295bB rfl) rfl (by show 2 * 0 + _ ≤ _; exact Nat.le_of_eq rfl) (hb hby at_10) (fun _ _ => ⟨rfl, e0, (by decide : 0 + 1 ≤ _), (by decide : 0 + 4 ≤ _)⟩)
  dsimp only [Pt.U, Pt.locs, Pt.cells, Pt.slots] at X1 l1 y1 z1 st1 hQ1
  subst l1 y1 z1
  obtain ⟨b1, kb1, rfl, N1q, KK1, gb1, VB1⟩ := hQ1
  obtain ⟨h1, e1⟩ : ∃ z, T1.heap = z := ⟨_, rfl⟩
  rw [e1] at KK1 VB1
  have Z1 : n0 ≤ h1.size := Nat.le_trans Z0 KK1.1
  have g_b1 : n0 ≤ b1 := Nat.le_trans Z0 gb1
  have N1 := Fr.app N0 N1q
  obtain ⟨_, _, ⟨T2, L2, k2, n2⟩, -, X2, ⟨Lc2, hQ2, l2, y2, z2⟩, st2⟩ := Jvm.LawKit.callS X1 hx (y := (⟨"com/example/usrset/usrset/store/Key", "pastTuplesOf", "([B)[B"⟩ : MethodName)) hown (mvT hZ (hw _ (List.mem_of_getElem? (i := 6) rfl))) (mvT hZ (hw _ (List.mem_of_getElem? (i := 7) rfl))) (mvT hZ (hw _ (List.mem_of_getElem? (i := 8) rfl))) (mvT hZ (hw _ (List.mem_of_getElem? (i := 9) rfl))) (by decide) (backOf (W := 0) (rm2_4 l Z a0 hw [] b1 kb1 (own_b q1 (0 : Int32)) (own_b q1 (1 : Int32)) (own_b q1 (2 : Int32)) (own_b q1 (3 : Int32)) h1 n0 Z1 VB1) hZ (hw _ (List.mem_of_getElem? (i := 9) rfl)) (hw _ (List.mem_of_getElem? (i := 8) rfl)) (by decide) (by decide)) (g := (mkF m 17 #[.val (.int p0), .val (.long q1), .second, .val (.int (4 : Int32)), .val (.ref b1), .unset, .unset] [(.ref b1)])) rfl (by rw [hml]; rfl) (argsL := [(.ref b1)]) (rest := []) (lenOf pd_285bB295bB rfl) rfl (by show 2 * 0 + _ ≤ _; exact Nat.le_of_eq rfl) (hb hby at_17) (fun _ _ => ⟨rfl, e1, (by decide : 1 + 1 ≤ _), (by decide : 4 + 5 ≤ _)⟩)
  dsimp only [Pt.U, Pt.locs, Pt.cells, Pt.slots] at X2 l2 y2 z2 st2 hQ2
  subst l2 y2 z2
  obtain ⟨b2, kb2, rfl, N2q, KK2, gb2, VB2⟩ := hQ2
  obtain ⟨h2, e2⟩ : ∃ z, T2.heap = z := ⟨_, rfl⟩
  rw [e2] at KK2 VB2
  have VB1_at2 : Arv Z h2 b1 kb1 .byte (4 : Int32) [(.int (own_b q1 (0 : Int32))), (.int (own_b q1 (1 : Int32))), (.int (own_b q1 (2 : Int32))), (.int (own_b q1 (3 : Int32)))] (.int (0 : Int32)) := VB1.keep KK2 nin0
  have Z2 : n0 ≤ h2.size := Nat.le_trans Z1 KK2.1
  have ne_b1_b2 : b1 ≠ b2 := Nat.ne_of_lt (Nat.lt_of_lt_of_le VB1.lt gb2)
  have g_b2 : n0 ≤ b2 := Nat.le_trans Z1 gb2
  have N2 := Fr.app N1 N2q
  obtain ⟨cl_29_3, Ar_29_3, -, S_29_3, M_29_3, -, -⟩ := id VB2
  obtain ⟨cl_38_4, Ar_38_4, -, S_38_4, M_38_4, -, -⟩ := id VB1_at2
  obtain ⟨cl_48_5, Ar_48_5, -, S_48_5, M_48_5, H_48_5, -⟩ := id VB2
  have hin48_5 : ¬ ((4 : Int32) < 0 ∨ cl_48_5.slots.size ≤ ((4 : Int32)).toNatClampNeg) := inb_of S_48_5 ⟨by decide, by decide⟩
  have hat48_5 : cl_48_5.slots[((4 : Int32)).toNatClampNeg]? = some (.int (-1 : Int32)) := H_48_5.at hin48_5 rfl
  obtain ⟨_, _, ⟨T6, L6, k6, n6⟩, -, X6, ⟨Lc6, hQ6, l6, y6, z6⟩, st6⟩ := Jvm.LawKit.callS X2 hx (y := (⟨"com/example/usrset/usrset/store/KeyPastTuplesOfPinLaw", "same", "([B[BIIJ)Z"⟩ : MethodName)) hown (mvT hZ (hw _ (List.mem_of_getElem? (i := 22) rfl))) (mvT hZ (hw _ (List.mem_of_getElem? (i := 23) rfl))) (mvT hZ (hw _ (List.mem_of_getElem? (i := 3) rfl))) (mvT hZ (hw _ (List.mem_of_getElem? (i := 24) rfl))) (by decide) (backOf (W := 0) (rm5_b l Z a0 hw [] b2 b1 (0 : Int32) (4 : Int32) q1 kb2 kb1 (5 : Int32) (4 : Int32) [(.int (own_b q1 (0 : Int32))), (.int (own_b q1 (1 : Int32))), (.int (own_b q1 (2 : Int32))), (.int (own_b q1 (3 : Int32))), (.int (-1 : Int32))] [(.int (own_b q1 (0 : Int32))), (.int (own_b q1 (1 : Int32))), (.int (own_b q1 (2 : Int32))), (.int (own_b q1 (3 : Int32)))] h2 n0 Z2 (by decide) (by decide) VB2 (by decide) rfl VB1_at2 (by decide) rfl) hZ (hw _ (List.mem_of_getElem? (i := 24) rfl)) (hw _ (List.mem_of_getElem? (i := 3) rfl)) (by decide) (by decide)) (g := (mkF m 72 #[.val (.int p0), .val (.long q1), .second, .val (.int (4 : Int32)), .val (.ref b1), .val (.ref b2), .val (.int (1 : Int32))] [(.long q1), (.int (4 : Int32)), (.int (0 : Int32)), (.ref b1), (.ref b2)])) rfl (by rw [hml]; rfl) (argsL := [(.ref b2), (.ref b1), (.int (0 : Int32)), (.int (4 : Int32)), (.long q1)]) (rest := []) (lenOf pd_285bB5bBIIJ29Z rfl) rfl (by show 2 * 0 + _ ≤ _; exact Nat.le_of_eq rfl) (hb hby at_72) (fun _ _ => ⟨rfl, e2, (by decide : 2 + 0 ≤ _), (by decide : 9 + 0 ≤ _)⟩)
  dsimp only [Pt.U, Pt.locs, Pt.cells, Pt.slots] at X6 l6 y6 z6 st6 hQ6
  subst l6 y6 z6
  obtain ⟨rfl, N6q, e6⟩ := hQ6
  have N6 := Fr.app N2 N6q
  obtain ⟨_, _, ⟨T7, L7, k7, n7⟩, -, X7, ⟨Lc7, hQ7, l7, y7, z7⟩, st7⟩ := Jvm.LawKit.callS X6 hx (y := (⟨"com/example/usrset/usrset/store/KeyPastTuplesOfPinLaw", "same", "([B[BIIJ)Z"⟩ : MethodName)) hown (mvT hZ (hw _ (List.mem_of_getElem? (i := 22) rfl))) (mvT hZ (hw _ (List.mem_of_getElem? (i := 23) rfl))) (mvT hZ (hw _ (List.mem_of_getElem? (i := 3) rfl))) (mvT hZ (hw _ (List.mem_of_getElem? (i := 24) rfl))) (by decide) (backOf (W := 0) (rm5_b l Z a0 hw [] b2 b1 (1 : Int32) (4 : Int32) q1 kb2 kb1 (5 : Int32) (4 : Int32) [(.int (own_b q1 (0 : Int32))), (.int (own_b q1 (1 : Int32))), (.int (own_b q1 (2 : Int32))), (.int (own_b q1 (3 : Int32))), (.int (-1 : Int32))] [(.int (own_b q1 (0 : Int32))), (.int (own_b q1 (1 : Int32))), (.int (own_b q1 (2 : Int32))), (.int (own_b q1 (3 : Int32)))] h2 n0 Z2 (by decide) (by decide) VB2 (by decide) rfl VB1_at2 (by decide) rfl) hZ (hw _ (List.mem_of_getElem? (i := 24) rfl)) (hw _ (List.mem_of_getElem? (i := 3) rfl)) (by decide) (by decide)) (g := (mkF m 97 #[.val (.int p0), .val (.long q1), .second, .val (.int (4 : Int32)), .val (.ref b1), .val (.ref b2), .val (.int (1 : Int32))] [(.long q1), (.int (4 : Int32)), (.int (1 : Int32)), (.ref b1), (.ref b2)])) rfl (by rw [hml]; rfl) (argsL := [(.ref b2), (.ref b1), (.int (1 : Int32)), (.int (4 : Int32)), (.long q1)]) (rest := []) (lenOf pd_285bB5bBIIJ29Z rfl) rfl (by show 2 * 0 + _ ≤ _; exact Nat.le_of_eq rfl) (hb hby at_97) (fun _ _ => ⟨rfl, e6, (by decide : 2 + 0 ≤ _), (by decide : 9 + 0 ≤ _)⟩)
  dsimp only [Pt.U, Pt.locs, Pt.cells, Pt.slots] at X7 l7 y7 z7 st7 hQ7
  subst l7 y7 z7
  obtain ⟨rfl, N7q, e7⟩ := hQ7
  have N7 := Fr.app N6 N7q
  obtain ⟨_, _, ⟨T8, L8, k8, n8⟩, -, X8, ⟨Lc8, hQ8, l8, y8, z8⟩, st8⟩ := Jvm.LawKit.callS X7 hx (y := (⟨"com/example/usrset/usrset/store/KeyPastTuplesOfPinLaw", "same", "([B[BIIJ)Z"⟩ : MethodName)) hown (mvT hZ (hw _ (List.mem_of_getElem? (i := 22) rfl))) (mvT hZ (hw _ (List.mem_of_getElem? (i := 23) rfl))) (mvT hZ (hw _ (List.mem_of_getElem? (i := 3) rfl))) (mvT hZ (hw _ (List.mem_of_getElem? (i := 24) rfl))) (by decide) (backOf (W := 0) (rm5_b l Z a0 hw [] b2 b1 (2 : Int32) (4 : Int32) q1 kb2 kb1 (5 : Int32) (4 : Int32) [(.int (own_b q1 (0 : Int32))), (.int (own_b q1 (1 : Int32))), (.int (own_b q1 (2 : Int32))), (.int (own_b q1 (3 : Int32))), (.int (-1 : Int32))] [(.int (own_b q1 (0 : Int32))), (.int (own_b q1 (1 : Int32))), (.int (own_b q1 (2 : Int32))), (.int (own_b q1 (3 : Int32)))] h2 n0 Z2 (by decide) (by decide) VB2 (by decide) rfl VB1_at2 (by decide) rfl) hZ (hw _ (List.mem_of_getElem? (i := 24) rfl)) (hw _ (List.mem_of_getElem? (i := 3) rfl)) (by decide) (by decide)) (g := (mkF m 122 #[.val (.int p0), .val (.long q1), .second, .val (.int (4 : Int32)), .val (.ref b1), .val (.ref b2), .val (.int (1 : Int32))] [(.long q1), (.int (4 : Int32)), (.int (2 : Int32)), (.ref b1), (.ref b2)])) rfl (by rw [hml]; rfl) (argsL := [(.ref b2), (.ref b1), (.int (2 : Int32)), (.int (4 : Int32)), (.long q1)]) (rest := []) (lenOf pd_285bB5bBIIJ29Z rfl) rfl (by show 2 * 0 + _ ≤ _; exact Nat.le_of_eq rfl) (hb hby at_122) (fun _ _ => ⟨rfl, e7, (by decide : 2 + 0 ≤ _), (by decide : 9 + 0 ≤ _)⟩)
  dsimp only [Pt.U, Pt.locs, Pt.cells, Pt.slots] at X8 l8 y8 z8 st8 hQ8
  subst l8 y8 z8
  obtain ⟨rfl, N8q, e8⟩ := hQ8
  have N8 := Fr.app N7 N8q
  obtain ⟨_, _, ⟨T9, L9, k9, n9⟩, -, X9, ⟨Lc9, hQ9, l9, y9, z9⟩, st9⟩ := Jvm.LawKit.callS X8 hx (y := (⟨"com/example/usrset/usrset/store/KeyPastTuplesOfPinLaw", "same", "([B[BIIJ)Z"⟩ : MethodName)) hown (mvT hZ (hw _ (List.mem_of_getElem? (i := 22) rfl))) (mvT hZ (hw _ (List.mem_of_getElem? (i := 23) rfl))) (mvT hZ (hw _ (List.mem_of_getElem? (i := 3) rfl))) (mvT hZ (hw _ (List.mem_of_getElem? (i := 24) rfl))) (by decide) (backOf (W := 0) (rm5_b l Z a0 hw [] b2 b1 (3 : Int32) (4 : Int32) q1 kb2 kb1 (5 : Int32) (4 : Int32) [(.int (own_b q1 (0 : Int32))), (.int (own_b q1 (1 : Int32))), (.int (own_b q1 (2 : Int32))), (.int (own_b q1 (3 : Int32))), (.int (-1 : Int32))] [(.int (own_b q1 (0 : Int32))), (.int (own_b q1 (1 : Int32))), (.int (own_b q1 (2 : Int32))), (.int (own_b q1 (3 : Int32)))] h2 n0 Z2 (by decide) (by decide) VB2 (by decide) rfl VB1_at2 (by decide) rfl) hZ (hw _ (List.mem_of_getElem? (i := 24) rfl)) (hw _ (List.mem_of_getElem? (i := 3) rfl)) (by decide) (by decide)) (g := (mkF m 147 #[.val (.int p0), .val (.long q1), .second, .val (.int (4 : Int32)), .val (.ref b1), .val (.ref b2), .val (.int (1 : Int32))] [(.long q1), (.int (4 : Int32)), (.int (3 : Int32)), (.ref b1), (.ref b2)])) rfl (by rw [hml]; rfl) (argsL := [(.ref b2), (.ref b1), (.int (3 : Int32)), (.int (4 : Int32)), (.long q1)]) (rest := []) (lenOf pd_285bB5bBIIJ29Z rfl) rfl (by show 2 * 0 + _ ≤ _; exact Nat.le_of_eq rfl) (hb hby at_147) (fun _ _ => ⟨rfl, e8, (by decide : 2 + 0 ≤ _), (by decide : 9 + 0 ≤ _)⟩)
  dsimp only [Pt.U, Pt.locs, Pt.cells, Pt.slots] at X9 l9 y9 z9 st9 hQ9
  subst l9 y9 z9
  obtain ⟨rfl, N9q, e9⟩ := hQ9
  have N9 := Fr.app N8 N9q
  obtain ⟨_, _, ⟨T10, L10, k10, n10⟩, -, X10, ⟨Lc10, hQ10, l10, y10, z10⟩, st10⟩ := Jvm.LawKit.callS X9 hx (y := (⟨"com/example/usrset/usrset/store/KeyPastTuplesOfPinLaw", "same", "([B[BIIJ)Z"⟩ : MethodName)) hown (mvT hZ (hw _ (List.mem_of_getElem? (i := 22) rfl))) (mvT hZ (hw _ (List.mem_of_getElem? (i := 23) rfl))) (mvT hZ (hw _ (List.mem_of_getElem? (i := 3) rfl))) (mvT hZ (hw _ (List.mem_of_getElem? (i := 24) rfl))) (by decide) (backOf (W := 0) (rm5_a l Z a0 hw [] b2 b1 (4 : Int32) (4 : Int32) q1 h2 n0 Z2 (by decide)) hZ (hw _ (List.mem_of_getElem? (i := 24) rfl)) (hw _ (List.mem_of_getElem? (i := 3) rfl)) (by decide) (by decide)) (g := (mkF m 172 #[.val (.int p0), .val (.long q1), .second, .val (.int (4 : Int32)), .val (.ref b1), .val (.ref b2), .val (.int (1 : Int32))] [(.long q1), (.int (4 : Int32)), (.int (4 : Int32)), (.ref b1), (.ref b2)])) rfl (by rw [hml]; rfl) (argsL := [(.ref b2), (.ref b1), (.int (4 : Int32)), (.int (4 : Int32)), (.long q1)]) (rest := []) (lenOf pd_285bB5bBIIJ29Z rfl) rfl (by show 2 * 0 + _ ≤ _; exact Nat.le_of_eq rfl) (hb hby at_172) (fun _ _ => ⟨rfl, e9, (by decide : 2 + 0 ≤ _), (by decide : 9 + 0 ≤ _)⟩)
  dsimp only [Pt.U, Pt.locs, Pt.cells, Pt.slots] at X10 l10 y10 z10 st10 hQ10
  subst l10 y10 z10
  obtain ⟨rfl, N10q, e10⟩ := hQ10
  have N10 := Fr.app N9 N10q
  obtain ⟨fs, hr, hrun, hended, hW, hsame⟩ := X10.leave (v := some (.int (1 : Int32))) (fun h => by rw [Bd.returns] at h; cases h)
  refine ⟨_, _, pre0 _ ?_, hrun, hended, _, _, rfl, ?_, ⟨_, rfl⟩, hW, hsame.mono (by decide) (by decide)⟩
  · show Steps p.tables e below (s₁.setTop (mkF m 0 #[.val (.int p0), .val (.long q1), .second, .unset, .unset, .unset, .unset] [])) _
    refine sp0 _ ?_
    show Steps p.tables e below (s₁.setTop (mkF m 8 #[.val (.int p0), .val (.long q1), .second, .val (.int (4 : Int32)), .unset, .unset, .unset] [])) _
    refine XS.iloadN X0.here hx rfl (hb hby at_8) rfl ?_
    show Steps p.tables e below (s₁.setTop (mkF m 9 #[.val (.int p0), .val (.long q1), .second, .val (.int (4 : Int32)), .unset, .unset, .unset] [(.int (4 : Int32))])) _
    refine XS.lloadN X0.here hx rfl (hb hby at_9) rfl ?_
    show Steps p.tables e below (s₁.setTop (mkF m 10 #[.val (.int p0), .val (.long q1), .second, .val (.int (4 : Int32)), .unset, .unset, .unset] [(.long q1), (.int (4 : Int32))])) _
    refine st1 _ ?_
    show Steps p.tables e below (T1.setTop (mkF m 13 #[.val (.int p0), .val (.long q1), .second, .val (.int (4 : Int32)), .unset, .unset, .unset] [(.ref b1)])) _
    refine XS.astore X1.here hx rfl (hb hby at_13) rfl rfl (l' := #[.val (.int p0), .val (.long q1), .second, .val (.int (4 : Int32)), .val (.ref b1), .unset, .unset]) rfl ?_
    show Steps p.tables e below (T1.setTop (mkF m 15 #[.val (.int p0), .val (.long q1), .second, .val (.int (4 : Int32)), .val (.ref b1), .unset, .unset] [])) _
    refine XS.aload X1.here hx rfl (hb hby at_15) rfl rfl ?_
    show Steps p.tables e below (T1.setTop (mkF m 17 #[.val (.int p0), .val (.long q1), .second, .val (.int (4 : Int32)), .val (.ref b1), .unset, .unset] [(.ref b1)])) _
    refine st2 _ ?_
    show Steps p.tables e below (T2.setTop (mkF m 20 #[.val (.int p0), .val (.long q1), .second, .val (.int (4 : Int32)), .val (.ref b1), .unset, .unset] [(.ref b2)])) _
    refine XS.astore X2.here hx rfl (hb hby at_20) rfl rfl (l' := #[.val (.int p0), .val (.long q1), .second, .val (.int (4 : Int32)), .val (.ref b1), .val (.ref b2), .unset]) rfl ?_
    show Steps p.tables e below (T2.setTop (mkF m 22 #[.val (.int p0), .val (.long q1), .second, .val (.int (4 : Int32)), .val (.ref b1), .val (.ref b2), .unset] [])) _
    refine XS.aload X2.here hx rfl (hb hby at_22) rfl rfl ?_
    show Steps p.tables e below (T2.setTop (mkF m 24 #[.val (.int p0), .val (.long q1), .second, .val (.int (4 : Int32)), .val (.ref b1), .val (.ref b2), .unset] [(.ref b2)])) _
    refine XS.ifnullNo X2.here hx rfl (hb hby at_24) rfl ?_
    show Steps p.tables e below (T2.setTop (mkF m 27 #[.val (.int p0), .val (.long q1), .second, .val (.int (4 : Int32)), .val (.ref b1), .val (.ref b2), .unset] [])) _
    refine XS.aload X2.here hx rfl (hb hby at_27) rfl rfl ?_
    show Steps p.tables e below (T2.setTop (mkF m 29 #[.val (.int p0), .val (.long q1), .second, .val (.int (4 : Int32)), .val (.ref b1), .val (.ref b2), .unset] [(.ref b2)])) _
    refine X2.arraylength hx (by rw [e2]; exact Ar_29_3.1) (State.isArrayOf_alike hZ.alike Ar_29_3.2.1) (g := (mkF m 29 #[.val (.int p0), .val (.long q1), .second, .val (.int (4 : Int32)), .val (.ref b1), .val (.ref b2), .unset] [(.ref b2)])) rfl rfl (hb hby at_29) _ ?_
    rw [len_of S_29_3 M_29_3]
    show Steps p.tables e below (T2.setTop (mkF m 30 #[.val (.int p0), .val (.long q1), .second, .val (.int (4 : Int32)), .val (.ref b1), .val (.ref b2), .unset] [(.int (5 : Int32))])) _
    refine XS.iloadN X2.here hx rfl (hb hby at_30) rfl ?_
    show Steps p.tables e below (T2.setTop (mkF m 31 #[.val (.int p0), .val (.long q1), .second, .val (.int (4 : Int32)), .val (.ref b1), .val (.ref b2), .unset] [(.int (4 : Int32)), (.int (5 : Int32))])) _
    refine XS.iconst X2.here hx rfl (hb hby at_31) ?_
    show Steps p.tables e below (T2.setTop (mkF m 32 #[.val (.int p0), .val (.long q1), .second, .val (.int (4 : Int32)), .val (.ref b1), .val (.ref b2), .unset] [(.int (1 : Int32)), (.int (4 : Int32)), (.int (5 : Int32))])) _
    refine XS.iadd X2.here hx rfl (hb hby at_32) rfl ?_
    show Steps p.tables e below (T2.setTop (mkF m 33 #[.val (.int p0), .val (.long q1), .second, .val (.int (4 : Int32)), .val (.ref b1), .val (.ref b2), .unset] [(.int (5 : Int32)), (.int (5 : Int32))])) _
    refine XS.icmpNo X2.here hx rfl (hb hby at_33) rfl (teq (by decide : (5 : Int32) = (5 : Int32))).2 ?_
    show Steps p.tables e below (T2.setTop (mkF m 36 #[.val (.int p0), .val (.long q1), .second, .val (.int (4 : Int32)), .val (.ref b1), .val (.ref b2), .unset] [])) _
    refine XS.aload X2.here hx rfl (hb hby at_36) rfl rfl ?_
    show Steps p.tables e below (T2.setTop (mkF m 38 #[.val (.int p0), .val (.long q1), .second, .val (.int (4 : Int32)), .val (.ref b1), .val (.ref b2), .unset] [(.ref b1)])) _
    refine X2.arraylength hx (by rw [e2]; exact Ar_38_4.1) (State.isArrayOf_alike hZ.alike Ar_38_4.2.1) (g := (mkF m 38 #[.val (.int p0), .val (.long q1), .second, .val (.int (4 : Int32)), .val (.ref b1), .val (.ref b2), .unset] [(.ref b1)])) rfl rfl (hb hby at_38) _ ?_
    rw [len_of S_38_4 M_38_4]
    show Steps p.tables e below (T2.setTop (mkF m 39 #[.val (.int p0), .val (.long q1), .second, .val (.int (4 : Int32)), .val (.ref b1), .val (.ref b2), .unset] [(.int (4 : Int32))])) _
    refine XS.iloadN X2.here hx rfl (hb hby at_39) rfl ?_
    show Steps p.tables e below (T2.setTop (mkF m 40 #[.val (.int p0), .val (.long q1), .second, .val (.int (4 : Int32)), .val (.ref b1), .val (.ref b2), .unset] [(.int (4 : Int32)), (.int (4 : Int32))])) _
    refine XS.icmpYes X2.here hx rfl (pc0 := 40) (pc' := 45) rfl (hb hby at_40) rfl (teq (by decide : (4 : Int32) = (4 : Int32))).1 (by decide) (by decide) ?_
    show Steps p.tables e below (T2.setTop (mkF m 45 #[.val (.int p0), .val (.long q1), .second, .val (.int (4 : Int32)), .val (.ref b1), .val (.ref b2), .unset] [])) _
    refine XS.aload X2.here hx rfl (hb hby at_45) rfl rfl ?_
    show Steps p.tables e below (T2.setTop (mkF m 47 #[.val (.int p0), .val (.long q1), .second, .val (.int (4 : Int32)), .val (.ref b1), .val (.ref b2), .unset] [(.ref b2)])) _
    refine XS.iloadN X2.here hx rfl (hb hby at_47) rfl ?_
    show Steps p.tables e below (T2.setTop (mkF m 48 #[.val (.int p0), .val (.long q1), .second, .val (.int (4 : Int32)), .val (.ref b1), .val (.ref b2), .unset] [(.int (4 : Int32)), (.ref b2)])) _
    refine X2.baloadBytes hx (j := (4 : Int32)) (v := (.int (-1 : Int32))) (by rw [e2]; exact Ar_48_5.1) (State.isArrayOf_alike hZ.alike Ar_48_5.2.1) Ar_48_5.2.2 hin48_5 hat48_5 (g := (mkF m 48 #[.val (.int p0), .val (.long q1), .second, .val (.int (4 : Int32)), .val (.ref b1), .val (.ref b2), .unset] [(.int (4 : Int32)), (.ref b2)])) rfl rfl (hb hby at_48) _ ?_
    show Steps p.tables e below (T2.setTop (mkF m 49 #[.val (.int p0), .val (.long q1), .second, .val (.int (4 : Int32)), .val (.ref b1), .val (.ref b2), .unset] [(.int (-1 : Int32))])) _
    refine XS.iconst X2.here hx rfl (hb hby at_49) ?_
    show Steps p.tables e below (T2.setTop (mkF m 50 #[.val (.int p0), .val (.long q1), .second, .val (.int (4 : Int32)), .val (.ref b1), .val (.ref b2), .unset] [(.int (-1 : Int32)), (.int (-1 : Int32))])) _
    refine XS.icmpNo X2.here hx rfl (hb hby at_50) rfl (teq (by decide : (-1 : Int32) = (-1 : Int32))).2 ?_
    show Steps p.tables e below (T2.setTop (mkF m 53 #[.val (.int p0), .val (.long q1), .second, .val (.int (4 : Int32)), .val (.ref b1), .val (.ref b2), .unset] [])) _
    refine XS.iconst X2.here hx rfl (hb hby at_53) ?_
    show Steps p.tables e below (T2.setTop (mkF m 54 #[.val (.int p0), .val (.long q1), .second, .val (.int (4 : Int32)), .val (.ref b1), .val (.ref b2), .unset] [(.int (1 : Int32))])) _
    refine XS.goto X2.here hx rfl (pc0 := 54) (pc' := 58) rfl (hb hby at_54) (by decide) (by decide) ?_
    show Steps p.tables e below (T2.setTop (mkF m 58 #[.val (.int p0), .val (.long q1), .second, .val (.int (4 : Int32)), .val (.ref b1), .val (.ref b2), .unset] [(.int (1 : Int32))])) _
    refine XS.istore X2.here hx rfl (hb hby at_58) rfl (l' := #[.val (.int p0), .val (.long q1), .second, .val (.int (4 : Int32)), .val (.ref b1), .val (.ref b2), .val (.int (1 : Int32))]) rfl ?_
    show Steps p.tables e below (T2.setTop (mkF m 60 #[.val (.int p0), .val (.long q1), .second, .val (.int (4 : Int32)), .val (.ref b1), .val (.ref b2), .val (.int (1 : Int32))] [])) _
    refine XS.iload X2.here hx rfl (hb hby at_60) rfl ?_
    show Steps p.tables e below (T2.setTop (mkF m 62 #[.val (.int p0), .val (.long q1), .second, .val (.int (4 : Int32)), .val (.ref b1), .val (.ref b2), .val (.int (1 : Int32))] [(.int (1 : Int32))])) _
    refine XS.ifNo X2.here hx rfl (hb hby at_62) rfl ((if0 _ _).trans (feq (by decide : ¬ ((1 : Int32) = (0 : Int32)))).1) ?_
    show Steps p.tables e below (T2.setTop (mkF m 65 #[.val (.int p0), .val (.long q1), .second, .val (.int (4 : Int32)), .val (.ref b1), .val (.ref b2), .val (.int (1 : Int32))] [])) _
    refine XS.aload X2.here hx rfl (hb hby at_65) rfl rfl ?_
    show Steps p.tables e below (T2.setTop (mkF m 67 #[.val (.int p0), .val (.long q1), .second, .val (.int (4 : Int32)), .val (.ref b1), .val (.ref b2), .val (.int (1 : Int32))] [(.ref b2)])) _
    refine XS.aload X2.here hx rfl (hb hby at_67) rfl rfl ?_
    show Steps p.tables e below (T2.setTop (mkF m 69 #[.val (.int p0), .val (.long q1), .second, .val (.int (4 : Int32)), .val (.ref b1), .val (.ref b2), .val (.int (1 : Int32))] [(.ref b1), (.ref b2)])) _
    refine XS.iconst X2.here hx rfl (hb hby at_69) ?_
    show Steps p.tables e below (T2.setTop (mkF m 70 #[.val (.int p0), .val (.long q1), .second, .val (.int (4 : Int32)), .val (.ref b1), .val (.ref b2), .val (.int (1 : Int32))] [(.int (0 : Int32)), (.ref b1), (.ref b2)])) _
    refine XS.iloadN X2.here hx rfl (hb hby at_70) rfl ?_
    show Steps p.tables e below (T2.setTop (mkF m 71 #[.val (.int p0), .val (.long q1), .second, .val (.int (4 : Int32)), .val (.ref b1), .val (.ref b2), .val (.int (1 : Int32))] [(.int (4 : Int32)), (.int (0 : Int32)), (.ref b1), (.ref b2)])) _
    refine XS.lloadN X2.here hx rfl (hb hby at_71) rfl ?_
    show Steps p.tables e below (T2.setTop (mkF m 72 #[.val (.int p0), .val (.long q1), .second, .val (.int (4 : Int32)), .val (.ref b1), .val (.ref b2), .val (.int (1 : Int32))] [(.long q1), (.int (4 : Int32)), (.int (0 : Int32)), (.ref b1), (.ref b2)])) _
    refine st6 _ ?_
    show Steps p.tables e below (T6.setTop (mkF m 75 #[.val (.int p0), .val (.long q1), .second, .val (.int (4 : Int32)), .val (.ref b1), .val (.ref b2), .val (.int (1 : Int32))] [(.int (1 : Int32))])) _
    refine XS.ifNo X6.here hx rfl (hb hby at_75) rfl ((if0 _ _).trans (feq (by decide : ¬ ((1 : Int32) = (0 : Int32)))).1) ?_
    show Steps p.tables e below (T6.setTop (mkF m 78 #[.val (.int p0), .val (.long q1), .second, .val (.int (4 : Int32)), .val (.ref b1), .val (.ref b2), .val (.int (1 : Int32))] [])) _
    refine XS.iconst X6.here hx rfl (hb hby at_78) ?_
    show Steps p.tables e below (T6.setTop (mkF m 79 #[.val (.int p0), .val (.long q1), .second, .val (.int (4 : Int32)), .val (.ref b1), .val (.ref b2), .val (.int (1 : Int32))] [(.int (1 : Int32))])) _
    refine XS.goto X6.here hx rfl (pc0 := 79) (pc' := 83) rfl (hb hby at_79) (by decide) (by decide) ?_
    show Steps p.tables e below (T6.setTop (mkF m 83 #[.val (.int p0), .val (.long q1), .second, .val (.int (4 : Int32)), .val (.ref b1), .val (.ref b2), .val (.int (1 : Int32))] [(.int (1 : Int32))])) _
    refine XS.istore X6.here hx rfl (hb hby at_83) rfl (l' := #[.val (.int p0), .val (.long q1), .second, .val (.int (4 : Int32)), .val (.ref b1), .val (.ref b2), .val (.int (1 : Int32))]) rfl ?_
    show Steps p.tables e below (T6.setTop (mkF m 85 #[.val (.int p0), .val (.long q1), .second, .val (.int (4 : Int32)), .val (.ref b1), .val (.ref b2), .val (.int (1 : Int32))] [])) _
    refine XS.iload X6.here hx rfl (hb hby at_85) rfl ?_
    show Steps p.tables e below (T6.setTop (mkF m 87 #[.val (.int p0), .val (.long q1), .second, .val (.int (4 : Int32)), .val (.ref b1), .val (.ref b2), .val (.int (1 : Int32))] [(.int (1 : Int32))])) _
    refine XS.ifNo X6.here hx rfl (hb hby at_87) rfl ((if0 _ _).trans (feq (by decide : ¬ ((1 : Int32) = (0 : Int32)))).1) ?_
    show Steps p.tables e below (T6.setTop (mkF m 90 #[.val (.int p0), .val (.long q1), .second, .val (.int (4 : Int32)), .val (.ref b1), .val (.ref b2), .val (.int (1 : Int32))] [])) _
    refine XS.aload X6.here hx rfl (hb hby at_90) rfl rfl ?_
    show Steps p.tables e below (T6.setTop (mkF m 92 #[.val (.int p0), .val (.long q1), .second, .val (.int (4 : Int32)), .val (.ref b1), .val (.ref b2), .val (.int (1 : Int32))] [(.ref b2)])) _
    refine XS.aload X6.here hx rfl (hb hby at_92) rfl rfl ?_
    show Steps p.tables e below (T6.setTop (mkF m 94 #[.val (.int p0), .val (.long q1), .second, .val (.int (4 : Int32)), .val (.ref b1), .val (.ref b2), .val (.int (1 : Int32))] [(.ref b1), (.ref b2)])) _
    refine XS.iconst X6.here hx rfl (hb hby at_94) ?_
    show Steps p.tables e below (T6.setTop (mkF m 95 #[.val (.int p0), .val (.long q1), .second, .val (.int (4 : Int32)), .val (.ref b1), .val (.ref b2), .val (.int (1 : Int32))] [(.int (1 : Int32)), (.ref b1), (.ref b2)])) _
    refine XS.iloadN X6.here hx rfl (hb hby at_95) rfl ?_
    show Steps p.tables e below (T6.setTop (mkF m 96 #[.val (.int p0), .val (.long q1), .second, .val (.int (4 : Int32)), .val (.ref b1), .val (.ref b2), .val (.int (1 : Int32))] [(.int (4 : Int32)), (.int (1 : Int32)), (.ref b1), (.ref b2)])) _
    refine XS.lloadN X6.here hx rfl (hb hby at_96) rfl ?_
    show Steps p.tables e below (T6.setTop (mkF m 97 #[.val (.int p0), .val (.long q1), .second, .val (.int (4 : Int32)), .val (.ref b1), .val (.ref b2), .val (.int (1 : Int32))] [(.long q1), (.int (4 : Int32)), (.int (1 : Int32)), (.ref b1), (.ref b2)])) _
    refine st7 _ ?_
    show Steps p.tables e below (T7.setTop (mkF m 100 #[.val (.int p0), .val (.long q1), .second, .val (.int (4 : Int32)), .val (.ref b1), .val (.ref b2), .val (.int (1 : Int32))] [(.int (1 : Int32))])) _
    refine XS.ifNo X7.here hx rfl (hb hby at_100) rfl ((if0 _ _).trans (feq (by decide : ¬ ((1 : Int32) = (0 : Int32)))).1) ?_
    show Steps p.tables e below (T7.setTop (mkF m 103 #[.val (.int p0), .val (.long q1), .second, .val (.int (4 : Int32)), .val (.ref b1), .val (.ref b2), .val (.int (1 : Int32))] [])) _
    refine XS.iconst X7.here hx rfl (hb hby at_103) ?_
    show Steps p.tables e below (T7.setTop (mkF m 104 #[.val (.int p0), .val (.long q1), .second, .val (.int (4 : Int32)), .val (.ref b1), .val (.ref b2), .val (.int (1 : Int32))] [(.int (1 : Int32))])) _
    refine XS.goto X7.here hx rfl (pc0 := 104) (pc' := 108) rfl (hb hby at_104) (by decide) (by decide) ?_
    show Steps p.tables e below (T7.setTop (mkF m 108 #[.val (.int p0), .val (.long q1), .second, .val (.int (4 : Int32)), .val (.ref b1), .val (.ref b2), .val (.int (1 : Int32))] [(.int (1 : Int32))])) _
    refine XS.istore X7.here hx rfl (hb hby at_108) rfl (l' := #[.val (.int p0), .val (.long q1), .second, .val (.int (4 : Int32)), .val (.ref b1), .val (.ref b2), .val (.int (1 : Int32))]) rfl ?_
    show Steps p.tables e below (T7.setTop (mkF m 110 #[.val (.int p0), .val (.long q1), .second, .val (.int (4 : Int32)), .val (.ref b1), .val (.ref b2), .val (.int (1 : Int32))] [])) _
    refine XS.iload X7.here hx rfl (hb hby at_110) rfl ?_
    show Steps p.tables e below (T7.setTop (mkF m 112 #[.val (.int p0), .val (.long q1), .second, .val (.int (4 : Int32)), .val (.ref b1), .val (.ref b2), .val (.int (1 : Int32))] [(.int (1 : Int32))])) _
    refine XS.ifNo X7.here hx rfl (hb hby at_112) rfl ((if0 _ _).trans (feq (by decide : ¬ ((1 : Int32) = (0 : Int32)))).1) ?_
    show Steps p.tables e below (T7.setTop (mkF m 115 #[.val (.int p0), .val (.long q1), .second, .val (.int (4 : Int32)), .val (.ref b1), .val (.ref b2), .val (.int (1 : Int32))] [])) _
    refine XS.aload X7.here hx rfl (hb hby at_115) rfl rfl ?_
    show Steps p.tables e below (T7.setTop (mkF m 117 #[.val (.int p0), .val (.long q1), .second, .val (.int (4 : Int32)), .val (.ref b1), .val (.ref b2), .val (.int (1 : Int32))] [(.ref b2)])) _
    refine XS.aload X7.here hx rfl (hb hby at_117) rfl rfl ?_
    show Steps p.tables e below (T7.setTop (mkF m 119 #[.val (.int p0), .val (.long q1), .second, .val (.int (4 : Int32)), .val (.ref b1), .val (.ref b2), .val (.int (1 : Int32))] [(.ref b1), (.ref b2)])) _
    refine XS.iconst X7.here hx rfl (hb hby at_119) ?_
    show Steps p.tables e below (T7.setTop (mkF m 120 #[.val (.int p0), .val (.long q1), .second, .val (.int (4 : Int32)), .val (.ref b1), .val (.ref b2), .val (.int (1 : Int32))] [(.int (2 : Int32)), (.ref b1), (.ref b2)])) _
    refine XS.iloadN X7.here hx rfl (hb hby at_120) rfl ?_
    show Steps p.tables e below (T7.setTop (mkF m 121 #[.val (.int p0), .val (.long q1), .second, .val (.int (4 : Int32)), .val (.ref b1), .val (.ref b2), .val (.int (1 : Int32))] [(.int (4 : Int32)), (.int (2 : Int32)), (.ref b1), (.ref b2)])) _
    refine XS.lloadN X7.here hx rfl (hb hby at_121) rfl ?_
    show Steps p.tables e below (T7.setTop (mkF m 122 #[.val (.int p0), .val (.long q1), .second, .val (.int (4 : Int32)), .val (.ref b1), .val (.ref b2), .val (.int (1 : Int32))] [(.long q1), (.int (4 : Int32)), (.int (2 : Int32)), (.ref b1), (.ref b2)])) _
    refine st8 _ ?_
    show Steps p.tables e below (T8.setTop (mkF m 125 #[.val (.int p0), .val (.long q1), .second, .val (.int (4 : Int32)), .val (.ref b1), .val (.ref b2), .val (.int (1 : Int32))] [(.int (1 : Int32))])) _
    refine XS.ifNo X8.here hx rfl (hb hby at_125) rfl ((if0 _ _).trans (feq (by decide : ¬ ((1 : Int32) = (0 : Int32)))).1) ?_
    show Steps p.tables e below (T8.setTop (mkF m 128 #[.val (.int p0), .val (.long q1), .second, .val (.int (4 : Int32)), .val (.ref b1), .val (.ref b2), .val (.int (1 : Int32))] [])) _
    refine XS.iconst X8.here hx rfl (hb hby at_128) ?_
    show Steps p.tables e below (T8.setTop (mkF m 129 #[.val (.int p0), .val (.long q1), .second, .val (.int (4 : Int32)), .val (.ref b1), .val (.ref b2), .val (.int (1 : Int32))] [(.int (1 : Int32))])) _
    refine XS.goto X8.here hx rfl (pc0 := 129) (pc' := 133) rfl (hb hby at_129) (by decide) (by decide) ?_
    show Steps p.tables e below (T8.setTop (mkF m 133 #[.val (.int p0), .val (.long q1), .second, .val (.int (4 : Int32)), .val (.ref b1), .val (.ref b2), .val (.int (1 : Int32))] [(.int (1 : Int32))])) _
    refine XS.istore X8.here hx rfl (hb hby at_133) rfl (l' := #[.val (.int p0), .val (.long q1), .second, .val (.int (4 : Int32)), .val (.ref b1), .val (.ref b2), .val (.int (1 : Int32))]) rfl ?_
    show Steps p.tables e below (T8.setTop (mkF m 135 #[.val (.int p0), .val (.long q1), .second, .val (.int (4 : Int32)), .val (.ref b1), .val (.ref b2), .val (.int (1 : Int32))] [])) _
    refine XS.iload X8.here hx rfl (hb hby at_135) rfl ?_
    show Steps p.tables e below (T8.setTop (mkF m 137 #[.val (.int p0), .val (.long q1), .second, .val (.int (4 : Int32)), .val (.ref b1), .val (.ref b2), .val (.int (1 : Int32))] [(.int (1 : Int32))])) _
    refine XS.ifNo X8.here hx rfl (hb hby at_137) rfl ((if0 _ _).trans (feq (by decide : ¬ ((1 : Int32) = (0 : Int32)))).1) ?_
    show Steps p.tables e below (T8.setTop (mkF m 140 #[.val (.int p0), .val (.long q1), .second, .val (.int (4 : Int32)), .val (.ref b1), .val (.ref b2), .val (.int (1 : Int32))] [])) _
    refine XS.aload X8.here hx rfl (hb hby at_140) rfl rfl ?_
    show Steps p.tables e below (T8.setTop (mkF m 142 #[.val (.int p0), .val (.long q1), .second, .val (.int (4 : Int32)), .val (.ref b1), .val (.ref b2), .val (.int (1 : Int32))] [(.ref b2)])) _
    refine XS.aload X8.here hx rfl (hb hby at_142) rfl rfl ?_
    show Steps p.tables e below (T8.setTop (mkF m 144 #[.val (.int p0), .val (.long q1), .second, .val (.int (4 : Int32)), .val (.ref b1), .val (.ref b2), .val (.int (1 : Int32))] [(.ref b1), (.ref b2)])) _
    refine XS.iconst X8.here hx rfl (hb hby at_144) ?_
    show Steps p.tables e below (T8.setTop (mkF m 145 #[.val (.int p0), .val (.long q1), .second, .val (.int (4 : Int32)), .val (.ref b1), .val (.ref b2), .val (.int (1 : Int32))] [(.int (3 : Int32)), (.ref b1), (.ref b2)])) _
    refine XS.iloadN X8.here hx rfl (hb hby at_145) rfl ?_
    show Steps p.tables e below (T8.setTop (mkF m 146 #[.val (.int p0), .val (.long q1), .second, .val (.int (4 : Int32)), .val (.ref b1), .val (.ref b2), .val (.int (1 : Int32))] [(.int (4 : Int32)), (.int (3 : Int32)), (.ref b1), (.ref b2)])) _
    refine XS.lloadN X8.here hx rfl (hb hby at_146) rfl ?_
    show Steps p.tables e below (T8.setTop (mkF m 147 #[.val (.int p0), .val (.long q1), .second, .val (.int (4 : Int32)), .val (.ref b1), .val (.ref b2), .val (.int (1 : Int32))] [(.long q1), (.int (4 : Int32)), (.int (3 : Int32)), (.ref b1), (.ref b2)])) _
    refine st9 _ ?_
    show Steps p.tables e below (T9.setTop (mkF m 150 #[.val (.int p0), .val (.long q1), .second, .val (.int (4 : Int32)), .val (.ref b1), .val (.ref b2), .val (.int (1 : Int32))] [(.int (1 : Int32))])) _
    refine XS.ifNo X9.here hx rfl (hb hby at_150) rfl ((if0 _ _).trans (feq (by decide : ¬ ((1 : Int32) = (0 : Int32)))).1) ?_
    show Steps p.tables e below (T9.setTop (mkF m 153 #[.val (.int p0), .val (.long q1), .second, .val (.int (4 : Int32)), .val (.ref b1), .val (.ref b2), .val (.int (1 : Int32))] [])) _
    refine XS.iconst X9.here hx rfl (hb hby at_153) ?_
    show Steps p.tables e below (T9.setTop (mkF m 154 #[.val (.int p0), .val (.long q1), .second, .val (.int (4 : Int32)), .val (.ref b1), .val (.ref b2), .val (.int (1 : Int32))] [(.int (1 : Int32))])) _
    refine XS.goto X9.here hx rfl (pc0 := 154) (pc' := 158) rfl (hb hby at_154) (by decide) (by decide) ?_
    show Steps p.tables e below (T9.setTop (mkF m 158 #[.val (.int p0), .val (.long q1), .second, .val (.int (4 : Int32)), .val (.ref b1), .val (.ref b2), .val (.int (1 : Int32))] [(.int (1 : Int32))])) _
    refine XS.istore X9.here hx rfl (hb hby at_158) rfl (l' := #[.val (.int p0), .val (.long q1), .second, .val (.int (4 : Int32)), .val (.ref b1), .val (.ref b2), .val (.int (1 : Int32))]) rfl ?_
    show Steps p.tables e below (T9.setTop (mkF m 160 #[.val (.int p0), .val (.long q1), .second, .val (.int (4 : Int32)), .val (.ref b1), .val (.ref b2), .val (.int (1 : Int32))] [])) _
    refine XS.iload X9.here hx rfl (hb hby at_160) rfl ?_
    show Steps p.tables e below (T9.setTop (mkF m 162 #[.val (.int p0), .val (.long q1), .second, .val (.int (4 : Int32)), .val (.ref b1), .val (.ref b2), .val (.int (1 : Int32))] [(.int (1 : Int32))])) _
    refine XS.ifNo X9.here hx rfl (hb hby at_162) rfl ((if0 _ _).trans (feq (by decide : ¬ ((1 : Int32) = (0 : Int32)))).1) ?_
    show Steps p.tables e below (T9.setTop (mkF m 165 #[.val (.int p0), .val (.long q1), .second, .val (.int (4 : Int32)), .val (.ref b1), .val (.ref b2), .val (.int (1 : Int32))] [])) _
    refine XS.aload X9.here hx rfl (hb hby at_165) rfl rfl ?_
    show Steps p.tables e below (T9.setTop (mkF m 167 #[.val (.int p0), .val (.long q1), .second, .val (.int (4 : Int32)), .val (.ref b1), .val (.ref b2), .val (.int (1 : Int32))] [(.ref b2)])) _
    refine XS.aload X9.here hx rfl (hb hby at_167) rfl rfl ?_
    show Steps p.tables e below (T9.setTop (mkF m 169 #[.val (.int p0), .val (.long q1), .second, .val (.int (4 : Int32)), .val (.ref b1), .val (.ref b2), .val (.int (1 : Int32))] [(.ref b1), (.ref b2)])) _
    refine XS.iconst X9.here hx rfl (hb hby at_169) ?_
    show Steps p.tables e below (T9.setTop (mkF m 170 #[.val (.int p0), .val (.long q1), .second, .val (.int (4 : Int32)), .val (.ref b1), .val (.ref b2), .val (.int (1 : Int32))] [(.int (4 : Int32)), (.ref b1), (.ref b2)])) _
    refine XS.iloadN X9.here hx rfl (hb hby at_170) rfl ?_
    show Steps p.tables e below (T9.setTop (mkF m 171 #[.val (.int p0), .val (.long q1), .second, .val (.int (4 : Int32)), .val (.ref b1), .val (.ref b2), .val (.int (1 : Int32))] [(.int (4 : Int32)), (.int (4 : Int32)), (.ref b1), (.ref b2)])) _
    refine XS.lloadN X9.here hx rfl (hb hby at_171) rfl ?_
    show Steps p.tables e below (T9.setTop (mkF m 172 #[.val (.int p0), .val (.long q1), .second, .val (.int (4 : Int32)), .val (.ref b1), .val (.ref b2), .val (.int (1 : Int32))] [(.long q1), (.int (4 : Int32)), (.int (4 : Int32)), (.ref b1), (.ref b2)])) _
    refine st10 _ ?_
    show Steps p.tables e below (T10.setTop (mkF m 175 #[.val (.int p0), .val (.long q1), .second, .val (.int (4 : Int32)), .val (.ref b1), .val (.ref b2), .val (.int (1 : Int32))] [(.int (1 : Int32))])) _
    refine XS.ifNo X10.here hx rfl (hb hby at_175) rfl ((if0 _ _).trans (feq (by decide : ¬ ((1 : Int32) = (0 : Int32)))).1) ?_
    show Steps p.tables e below (T10.setTop (mkF m 178 #[.val (.int p0), .val (.long q1), .second, .val (.int (4 : Int32)), .val (.ref b1), .val (.ref b2), .val (.int (1 : Int32))] [])) _
    refine XS.iconst X10.here hx rfl (hb hby at_178) ?_
    show Steps p.tables e below (T10.setTop (mkF m 179 #[.val (.int p0), .val (.long q1), .second, .val (.int (4 : Int32)), .val (.ref b1), .val (.ref b2), .val (.int (1 : Int32))] [(.int (1 : Int32))])) _
    refine XS.goto X10.here hx rfl (pc0 := 179) (pc' := 183) rfl (hb hby at_179) (by decide) (by decide) ?_
    show Steps p.tables e below (T10.setTop (mkF m 183 #[.val (.int p0), .val (.long q1), .second, .val (.int (4 : Int32)), .val (.ref b1), .val (.ref b2), .val (.int (1 : Int32))] [(.int (1 : Int32))])) _
    refine XS.istore X10.here hx rfl (hb hby at_183) rfl (l' := #[.val (.int p0), .val (.long q1), .second, .val (.int (4 : Int32)), .val (.ref b1), .val (.ref b2), .val (.int (1 : Int32))]) rfl ?_
    show Steps p.tables e below (T10.setTop (mkF m 185 #[.val (.int p0), .val (.long q1), .second, .val (.int (4 : Int32)), .val (.ref b1), .val (.ref b2), .val (.int (1 : Int32))] [])) _
    refine XS.iload X10.here hx rfl (hb hby at_185) rfl ?_
    show Steps p.tables e below (T10.setTop (mkF m 187 #[.val (.int p0), .val (.long q1), .second, .val (.int (4 : Int32)), .val (.ref b1), .val (.ref b2), .val (.int (1 : Int32))] [(.int (1 : Int32))])) _
    exact retN X10 hx (t := .boolean) Bd.returns (by simp) (hb hby at_187) hr
  · show Q0_4 Z p0 q1 h0 n0 _ T10.heap _
    rw [e10]
    exact ⟨rfl, N10⟩
set_option maxRecDepth 65536 in
set_option maxHeartbeats 40000000 in
theorem pc_8_5 {p : Program} {l : Launch} {e : Env} {R : Room} {s : State} {m : MethodId} {args : Array Value} {below : List Frame} {meth : Method} {c : Code} {T0 : State} {locs : List Loc} {cells slots : Nat} {Z : State} {a0 : Array Value} (p0 : Int32) (q1 : Int64)
    (X0 : Stand p l e R s m args below meth c T0 locs cells slots) (hx : p.tables.exec = Jvm.exec) (hZ : Z.Warmed39 s.vm) (hw : ∀ d ∈ tables_1, d.before a0 Z = true) (hby : c.code = code) (hown : s.vm.findClass "com/example/usrset/usrset/store/KeyPastTuplesOfPinLaw" = some m.cls) (hk : own_n p0 = (5 : Int32)) :
    ∀ target, Steps p.tables e below (T0.setTop (mkF m 8 #[.val (.int p0), .val (.long q1), .second, .val (.int (5 : Int32)), .unset, .unset, .unset] [])) target → Steps p.tables e below (T0.setTop (mkF m 0 #[.val (.int p0), .val (.long q1), .second, .unset, .unset, .unset, .unset] [])) target := by
  intro target kt
  show Steps p.tables e below (T0.setTop (mkF m 0 #[.val (.int p0), .val (.long q1), .second, .unset, .unset, .unset, .unset] [])) _
  refine XS.iloadN X0.here hx rfl (hb hby at_0) rfl ?_
  show Steps p.tables e below (T0.setTop (mkF m 1 #[.val (.int p0), .val (.long q1), .second, .unset, .unset, .unset, .unset] [(.int p0)])) _
  refine X0.ldcInt hx hown (mvT hZ (hw _ (List.mem_of_getElem? (i := 0) rfl))) (g := (mkF m 1 #[.val (.int p0), .val (.long q1), .second, .unset, .unset, .unset, .unset] [(.int p0)])) rfl (hb hby at_1) _ ?_
  show Steps p.tables e below (T0.setTop (mkF m 3 #[.val (.int p0), .val (.long q1), .second, .unset, .unset, .unset, .unset] [(.int (2147483647 : Int32)), (.int p0)])) _
  refine XS.iand X0.here hx rfl (hb hby at_3) rfl ?_
  show Steps p.tables e below (T0.setTop (mkF m 4 #[.val (.int p0), .val (.long q1), .second, .unset, .unset, .unset, .unset] [(.int (p0 &&& (2147483647 : Int32)))])) _
  refine XS.bipush X0.here hx rfl (hb hby at_4) ?_
  show Steps p.tables e below (T0.setTop (mkF m 6 #[.val (.int p0), .val (.long q1), .second, .unset, .unset, .unset, .unset] [(.int (6 : Int32)), (.int (p0 &&& (2147483647 : Int32)))])) _
  refine XS.irem X0.here hx rfl (hb hby at_6) rfl (by decide) ?_
  show Steps p.tables e below (T0.setTop (mkF m 7 #[.val (.int p0), .val (.long q1), .second, .unset, .unset, .unset, .unset] [(.int ((p0 &&& (2147483647 : Int32)) - ((p0 &&& (2147483647 : Int32)) / (6 : Int32)) * (6 : Int32)))])) _
  refine XS.istoreN X0.here hx rfl (hb hby at_7) rfl (l' := #[.val (.int p0), .val (.long q1), .second, .val (.int ((p0 &&& (2147483647 : Int32)) - ((p0 &&& (2147483647 : Int32)) / (6 : Int32)) * (6 : Int32))), .unset, .unset, .unset]) rfl ?_
  show Steps p.tables e below (T0.setTop (mkF m 8 #[.val (.int p0), .val (.long q1), .second, .val (.int ((p0 &&& (2147483647 : Int32)) - ((p0 &&& (2147483647 : Int32)) / (6 : Int32)) * (6 : Int32))), .unset, .unset, .unset] [])) _
  have et : ((p0 &&& (2147483647 : Int32)) - ((p0 &&& (2147483647 : Int32)) / (6 : Int32)) * (6 : Int32)) = (5 : Int32) := hk
  rw [et]
  exact kt
theorem ef_0_5 (m : MethodId) (x0 : Int32) (x1 : Int64) : entryFrame m #[(.int x0), (.long x1)] maxLocals = mkF m 0 #[.val (.int x0), .val (.long x1), .second, .unset, .unset, .unset, .unset] [] := by first | (simp [entryFrame, mkF, argsToLocals, Value.category, maxLocals]; done) | rfl
def Q0_5 (Z : State) (p0 : Int32) (q1 : Int64) (h0 : Heap) (n0 : Nat) (v : Option Value) (h : Heap) (L : List Loc) : Prop := v = some (.int 1) ∧ Fr n0 L
set_option maxRecDepth 65536 in
set_option maxHeartbeats 40000000 in
theorem rm0_5 (l : Launch) (Z : State) (a0 : Array Value) (hw : ∀ d ∈ tables_1, d.before a0 Z = true) (ws : List Jvm.Cond) (p0 : Int32) (q1 : Int64) (h0 : Heap) (n0 : Nat) (Z0 : n0 ≤ h0.size) (hk : own_n p0 = (5 : Int32)) :
    MetFree l x (head1 (Jvm.Cond.code x code maxLocals ret :: ws) room_1) (fun a U => a = #[(.int p0), (.long q1)] ∧ Z.Warmed39 U.vm ∧ U.heap = h0) (fun _ _ _ _ _ => True) (fun _ U o U' => ∃ v L, o = .returned v ∧ Q0_5 Z p0 q1 h0 n0 v U'.heap L ∧ FrameEnd U o U' L room_1.cells room_1.slots) := by
  refine MetFree.of_bodySF (plainFor_of_name pn_com_example_usrset_usrset_store_KeyPastTuplesOfPinLaw) hisR ?_
  intro p e s m args below meth c s₁ Bd hml0 hP hK
  obtain ⟨rfl, hZ, hh⟩ := hP
  have hx := Bd.exec
  have hby := Bd.bytes
  have hml : c.maxLocals = 7 := hml0
  have hown : s.vm.findClass "com/example/usrset/usrset/store/KeyPastTuplesOfPinLaw" = some m.cls := findClass_of_methodNamed Bd.named
  have hnm := (name_of_methodNamed Bd.named Bd.method).1
  have X0 : Stand p l e room_1 s m #[(.int p0), (.long q1)] below meth c s₁ [] 0 0 := Stand.of_body Bd
  have e0 : s₁.heap = h0 := by rw [← hh, Bd.state]; rfl
  have N0 := Fr.nil n0
  have pre0 : ∀ t, Steps p.tables e below (s₁.setTop (mkF m 0 #[.val (.int p0), .val (.long q1), .second, .unset, .unset, .unset, .unset] [])) t → Steps p.tables e below (s₁.setTop (entryFrame m #[(.int p0), (.long q1)] maxLocals)) t := fun t k => castTop (ef_0_5 m p0 q1) k
  have sp0 := pc_8_5 p0 q1 X0 hx hZ hw hby hown hk
  obtain ⟨_, _, ⟨T1, L1, k1, n1⟩, -, X1, ⟨Lc1, hQ1, l1, y1, z1⟩, st1⟩ := Jvm.LawKit.callS X0 hx (y := (⟨"com/example/usrset/usrset/store/KeyPastTuplesOfPinLaw", "make", "(IJ)[B"⟩ : MethodName)) hown (mvT hZ (hw _ (List.mem_of_getElem? (i := 1) rfl))) (mvT hZ (hw _ (List.mem_of_getElem? (i := 2) rfl))) (mvT hZ (hw _ (List.mem_of_getElem? (i := 3) rfl))) (mvT hZ (hw _ (List.mem_of_getElem? (i := 4) rfl))) (by decide) (backOf (W := 0) (rm1_5 l Z a0 hw [] q1 h0 n0 Z0) hZ (hw _ (List.mem_of_getElem? (i := 4) rfl)) (hw _ (List.mem_of_getElem? (i := 3) rfl)) (by decide) (by decide)) (g := (mkF m 10 #[.val (.int p0), .val (.long q1), .second, .val (.int (5 : Int32)), .unset, .unset, .unset] [(.long q1), (.int (5 : Int32))])) rfl (by rw [hml]; rfl) (argsL := [(.int (5 : Int32)), (.long q1)]) (rest := []) (lenOf pd_28IJ295bB rfl) rfl (by show 2 * 0 + _ ≤ _; exact Nat.le_of_eq rfl) (hb hby at_10) (fun _ _ => ⟨rfl, e0, (by decide : 0 + 1 ≤ _), (by decide : 0 + 5 ≤ _)⟩)
  dsimp only [Pt.U, Pt.locs, Pt.cells, Pt.slots] at X1 l1 y1 z1 st1 hQ1
  subst l1 y1 z1
  obtain ⟨b1, kb1, rfl, N1q, KK1, gb1, VB1⟩ := hQ1
  obtain ⟨h1, e1⟩ : ∃ z, T1.heap = z := ⟨_, rfl⟩
  rw [e1] at KK1 VB1
  have Z1 : n0 ≤ h1.size := Nat.le_trans Z0 KK1.1
  have g_b1 : n0 ≤ b1 := Nat.le_trans Z0 gb1
  have N1 := Fr.app N0 N1q
  obtain ⟨_, _, ⟨T2, L2, k2, n2⟩, -, X2, ⟨Lc2, hQ2, l2, y2, z2⟩, st2⟩ := Jvm.LawKit.callS X1 hx (y := (⟨"com/example/usrset/usrset/store/Key", "pastTuplesOf", "([B)[B"⟩ : MethodName)) hown (mvT hZ (hw _ (List.mem_of_getElem? (i := 6) rfl))) (mvT hZ (hw _ (List.mem_of_getElem? (i := 7) rfl))) (mvT hZ (hw _ (List.mem_of_getElem? (i := 8) rfl))) (mvT hZ (hw _ (List.mem_of_getElem? (i := 9) rfl))) (by decide) (backOf (W := 0) (rm2_5 l Z a0 hw [] b1 kb1 (own_b q1 (0 : Int32)) (own_b q1 (1 : Int32)) (own_b q1 (2 : Int32)) (own_b q1 (3 : Int32)) (own_b q1 (4 : Int32)) h1 n0 Z1 VB1) hZ (hw _ (List.mem_of_getElem? (i := 9) rfl)) (hw _ (List.mem_of_getElem? (i := 8) rfl)) (by decide) (by decide)) (g := (mkF m 17 #[.val (.int p0), .val (.long q1), .second, .val (.int (5 : Int32)), .val (.ref b1), .unset, .unset] [(.ref b1)])) rfl (by rw [hml]; rfl) (argsL := [(.ref b1)]) (rest := []) (lenOf pd_285bB295bB rfl) rfl (by show 2 * 0 + _ ≤ _; exact Nat.le_of_eq rfl) (hb hby at_17) (fun _ _ => ⟨rfl, e1, (by decide : 1 + 1 ≤ _), (by decide : 5 + 6 ≤ _)⟩)
  dsimp only [Pt.U, Pt.locs, Pt.cells, Pt.slots] at X2 l2 y2 z2 st2 hQ2
  subst l2 y2 z2
  obtain ⟨b2, kb2, rfl, N2q, KK2, gb2, VB2⟩ := hQ2
  obtain ⟨h2, e2⟩ : ∃ z, T2.heap = z := ⟨_, rfl⟩
  rw [e2] at KK2 VB2
  have VB1_at2 : Arv Z h2 b1 kb1 .byte (5 : Int32) [(.int (own_b q1 (0 : Int32))), (.int (own_b q1 (1 : Int32))), (.int (own_b q1 (2 : Int32))), (.int (own_b q1 (3 : Int32))), (.int (own_b q1 (4 : Int32)))] (.int (0 : Int32)) := VB1.keep KK2 nin0
  have Z2 : n0 ≤ h2.size := Nat.le_trans Z1 KK2.1
  have ne_b1_b2 : b1 ≠ b2 := Nat.ne_of_lt (Nat.lt_of_lt_of_le VB1.lt gb2)
  have g_b2 : n0 ≤ b2 := Nat.le_trans Z1 gb2
  have N2 := Fr.app N1 N2q
  obtain ⟨cl_29_3, Ar_29_3, -, S_29_3, M_29_3, -, -⟩ := id VB2
  obtain ⟨cl_38_4, Ar_38_4, -, S_38_4, M_38_4, -, -⟩ := id VB1_at2
  obtain ⟨cl_48_5, Ar_48_5, -, S_48_5, M_48_5, H_48_5, -⟩ := id VB2
  have hin48_5 : ¬ ((5 : Int32) < 0 ∨ cl_48_5.slots.size ≤ ((5 : Int32)).toNatClampNeg) := inb_of S_48_5 ⟨by decide, by decide⟩
  have hat48_5 : cl_48_5.slots[((5 : Int32)).toNatClampNeg]? = some (.int (-1 : Int32)) := H_48_5.at hin48_5 rfl
  obtain ⟨_, _, ⟨T6, L6, k6, n6⟩, -, X6, ⟨Lc6, hQ6, l6, y6, z6⟩, st6⟩ := Jvm.LawKit.callS X2 hx (y := (⟨"com/example/usrset/usrset/store/KeyPastTuplesOfPinLaw", "same", "([B[BIIJ)Z"⟩ : MethodName)) hown (mvT hZ (hw _ (List.mem_of_getElem? (i := 22) rfl))) (mvT hZ (hw _ (List.mem_of_getElem? (i := 23) rfl))) (mvT hZ (hw _ (List.mem_of_getElem? (i := 3) rfl))) (mvT hZ (hw _ (List.mem_of_getElem? (i := 24) rfl))) (by decide) (backOf (W := 0) (rm5_b l Z a0 hw [] b2 b1 (0 : Int32) (5 : Int32) q1 kb2 kb1 (6 : Int32) (5 : Int32) [(.int (own_b q1 (0 : Int32))), (.int (own_b q1 (1 : Int32))), (.int (own_b q1 (2 : Int32))), (.int (own_b q1 (3 : Int32))), (.int (own_b q1 (4 : Int32))), (.int (-1 : Int32))] [(.int (own_b q1 (0 : Int32))), (.int (own_b q1 (1 : Int32))), (.int (own_b q1 (2 : Int32))), (.int (own_b q1 (3 : Int32))), (.int (own_b q1 (4 : Int32)))] h2 n0 Z2 (by decide) (by decide) VB2 (by decide) rfl VB1_at2 (by decide) rfl) hZ (hw _ (List.mem_of_getElem? (i := 24) rfl)) (hw _ (List.mem_of_getElem? (i := 3) rfl)) (by decide) (by decide)) (g := (mkF m 72 #[.val (.int p0), .val (.long q1), .second, .val (.int (5 : Int32)), .val (.ref b1), .val (.ref b2), .val (.int (1 : Int32))] [(.long q1), (.int (5 : Int32)), (.int (0 : Int32)), (.ref b1), (.ref b2)])) rfl (by rw [hml]; rfl) (argsL := [(.ref b2), (.ref b1), (.int (0 : Int32)), (.int (5 : Int32)), (.long q1)]) (rest := []) (lenOf pd_285bB5bBIIJ29Z rfl) rfl (by show 2 * 0 + _ ≤ _; exact Nat.le_of_eq rfl) (hb hby at_72) (fun _ _ => ⟨rfl, e2, (by decide : 2 + 0 ≤ _), (by decide : 11 + 0 ≤ _)⟩)
  dsimp only [Pt.U, Pt.locs, Pt.cells, Pt.slots] at X6 l6 y6 z6 st6 hQ6
  subst l6 y6 z6
  obtain ⟨rfl, N6q, e6⟩ := hQ6
  have N6 := Fr.app N2 N6q
  obtain ⟨_, _, ⟨T7, L7, k7, n7⟩, -, X7, ⟨Lc7, hQ7, l7, y7, z7⟩, st7⟩ := Jvm.LawKit.callS X6 hx (y := (⟨"com/example/usrset/usrset/store/KeyPastTuplesOfPinLaw", "same", "([B[BIIJ)Z"⟩ : MethodName)) hown (mvT hZ (hw _ (List.mem_of_getElem? (i := 22) rfl))) (mvT hZ (hw _ (List.mem_of_getElem? (i := 23) rfl))) (mvT hZ (hw _ (List.mem_of_getElem? (i := 3) rfl))) (mvT hZ (hw _ (List.mem_of_getElem? (i := 24) rfl))) (by decide) (backOf (W := 0) (rm5_b l Z a0 hw [] b2 b1 (1 : Int32) (5 : Int32) q1 kb2 kb1 (6 : Int32) (5 : Int32) [(.int (own_b q1 (0 : Int32))), (.int (own_b q1 (1 : Int32))), (.int (own_b q1 (2 : Int32))), (.int (own_b q1 (3 : Int32))), (.int (own_b q1 (4 : Int32))), (.int (-1 : Int32))] [(.int (own_b q1 (0 : Int32))), (.int (own_b q1 (1 : Int32))), (.int (own_b q1 (2 : Int32))), (.int (own_b q1 (3 : Int32))), (.int (own_b q1 (4 : Int32)))] h2 n0 Z2 (by decide) (by decide) VB2 (by decide) rfl VB1_at2 (by decide) rfl) hZ (hw _ (List.mem_of_getElem? (i := 24) rfl)) (hw _ (List.mem_of_getElem? (i := 3) rfl)) (by decide) (by decide)) (g := (mkF m 97 #[.val (.int p0), .val (.long q1), .second, .val (.int (5 : Int32)), .val (.ref b1), .val (.ref b2), .val (.int (1 : Int32))] [(.long q1), (.int (5 : Int32)), (.int (1 : Int32)), (.ref b1), (.ref b2)])) rfl (by rw [hml]; rfl) (argsL := [(.ref b2), (.ref b1), (.int (1 : Int32)), (.int (5 : Int32)), (.long q1)]) (rest := []) (lenOf pd_285bB5bBIIJ29Z rfl) rfl (by show 2 * 0 + _ ≤ _; exact Nat.le_of_eq rfl) (hb hby at_97) (fun _ _ => ⟨rfl, e6, (by decide : 2 + 0 ≤ _), (by decide : 11 + 0 ≤ _)⟩)
  dsimp only [Pt.U, Pt.locs, Pt.cells, Pt.slots] at X7 l7 y7 z7 st7 hQ7
  subst l7 y7 z7
  obtain ⟨rfl, N7q, e7⟩ := hQ7
  have N7 := Fr.app N6 N7q
  obtain ⟨_, _, ⟨T8, L8, k8, n8⟩, -, X8, ⟨Lc8, hQ8, l8, y8, z8⟩, st8⟩ := Jvm.LawKit.callS X7 hx (y := (⟨"com/example/usrset/usrset/store/KeyPastTuplesOfPinLaw", "same", "([B[BIIJ)Z"⟩ : MethodName)) hown (mvT hZ (hw _ (List.mem_of_getElem? (i := 22) rfl))) (mvT hZ (hw _ (List.mem_of_getElem? (i := 23) rfl))) (mvT hZ (hw _ (List.mem_of_getElem? (i := 3) rfl))) (mvT hZ (hw _ (List.mem_of_getElem? (i := 24) rfl))) (by decide) (backOf (W := 0) (rm5_b l Z a0 hw [] b2 b1 (2 : Int32) (5 : Int32) q1 kb2 kb1 (6 : Int32) (5 : Int32) [(.int (own_b q1 (0 : Int32))), (.int (own_b q1 (1 : Int32))), (.int (own_b q1 (2 : Int32))), (.int (own_b q1 (3 : Int32))), (.int (own_b q1 (4 : Int32))), (.int (-1 : Int32))] [(.int (own_b q1 (0 : Int32))), (.int (own_b q1 (1 : Int32))), (.int (own_b q1 (2 : Int32))), (.int (own_b q1 (3 : Int32))), (.int (own_b q1 (4 : Int32)))] h2 n0 Z2 (by decide) (by decide) VB2 (by decide) rfl VB1_at2 (by decide) rfl) hZ (hw _ (List.mem_of_getElem? (i := 24) rfl)) (hw _ (List.mem_of_getElem? (i := 3) rfl)) (by decide) (by decide)) (g := (mkF m 122 #[.val (.int p0), .val (.long q1), .second, .val (.int (5 : Int32)), .val (.ref b1), .val (.ref b2), .val (.int (1 : Int32))] [(.long q1), (.int (5 : Int32)), (.int (2 : Int32)), (.ref b1), (.ref b2)])) rfl (by rw [hml]; rfl) (argsL := [(.ref b2), (.ref b1), (.int (2 : Int32)), (.int (5 : Int32)), (.long q1)]) (rest := []) (lenOf pd_285bB5bBIIJ29Z rfl) rfl (by show 2 * 0 + _ ≤ _; exact Nat.le_of_eq rfl) (hb hby at_122) (fun _ _ => ⟨rfl, e7, (by decide : 2 + 0 ≤ _), (by decide : 11 + 0 ≤ _)⟩)
  dsimp only [Pt.U, Pt.locs, Pt.cells, Pt.slots] at X8 l8 y8 z8 st8 hQ8
  subst l8 y8 z8
  obtain ⟨rfl, N8q, e8⟩ := hQ8
  have N8 := Fr.app N7 N8q
  obtain ⟨_, _, ⟨T9, L9, k9, n9⟩, -, X9, ⟨Lc9, hQ9, l9, y9, z9⟩, st9⟩ := Jvm.LawKit.callS X8 hx (y := (⟨"com/example/usrset/usrset/store/KeyPastTuplesOfPinLaw", "same", "([B[BIIJ)Z"⟩ : MethodName)) hown (mvT hZ (hw _ (List.mem_of_getElem? (i := 22) rfl))) (mvT hZ (hw _ (List.mem_of_getElem? (i := 23) rfl))) (mvT hZ (hw _ (List.mem_of_getElem? (i := 3) rfl))) (mvT hZ (hw _ (List.mem_of_getElem? (i := 24) rfl))) (by decide) (backOf (W := 0) (rm5_b l Z a0 hw [] b2 b1 (3 : Int32) (5 : Int32) q1 kb2 kb1 (6 : Int32) (5 : Int32) [(.int (own_b q1 (0 : Int32))), (.int (own_b q1 (1 : Int32))), (.int (own_b q1 (2 : Int32))), (.int (own_b q1 (3 : Int32))), (.int (own_b q1 (4 : Int32))), (.int (-1 : Int32))] [(.int (own_b q1 (0 : Int32))), (.int (own_b q1 (1 : Int32))), (.int (own_b q1 (2 : Int32))), (.int (own_b q1 (3 : Int32))), (.int (own_b q1 (4 : Int32)))] h2 n0 Z2 (by decide) (by decide) VB2 (by decide) rfl VB1_at2 (by decide) rfl) hZ (hw _ (List.mem_of_getElem? (i := 24) rfl)) (hw _ (List.mem_of_getElem? (i := 3) rfl)) (by decide) (by decide)) (g := (mkF m 147 #[.val (.int p0), .val (.long q1), .second, .val (.int (5 : Int32)), .val (.ref b1), .val (.ref b2), .val (.int (1 : Int32))] [(.long q1), (.int (5 : Int32)), (.int (3 : Int32)), (.ref b1), (.ref b2)])) rfl (by rw [hml]; rfl) (argsL := [(.ref b2), (.ref b1), (.int (3 : Int32)), (.int (5 : Int32)), (.long q1)]) (rest := []) (lenOf pd_285bB5bBIIJ29Z rfl) rfl (by show 2 * 0 + _ ≤ _; exact Nat.le_of_eq rfl) (hb hby at_147) (fun _ _ => ⟨rfl, e8, (by decide : 2 + 0 ≤ _), (by decide : 11 + 0 ≤ _)⟩)
  dsimp only [Pt.U, Pt.locs, Pt.cells, Pt.slots] at X9 l9 y9 z9 st9 hQ9
  subst l9 y9 z9
  obtain ⟨rfl, N9q, e9⟩ := hQ9
  have N9 := Fr.app N8 N9q
  obtain ⟨_, _, ⟨T10, L10, k10, n10⟩, -, X10, ⟨Lc10, hQ10, l10, y10, z10⟩, st10⟩ := Jvm.LawKit.callS X9 hx (y := (⟨"com/example/usrset/usrset/store/KeyPastTuplesOfPinLaw", "same", "([B[BIIJ)Z"⟩ : MethodName)) hown (mvT hZ (hw _ (List.mem_of_getElem? (i := 22) rfl))) (mvT hZ (hw _ (List.mem_of_getElem? (i := 23) rfl))) (mvT hZ (hw _ (List.mem_of_getElem? (i := 3) rfl))) (mvT hZ (hw _ (List.mem_of_getElem? (i := 24) rfl))) (by decide) (backOf (W := 0) (rm5_b l Z a0 hw [] b2 b1 (4 : Int32) (5 : Int32) q1 kb2 kb1 (6 : Int32) (5 : Int32) [(.int (own_b q1 (0 : Int32))), (.int (own_b q1 (1 : Int32))), (.int (own_b q1 (2 : Int32))), (.int (own_b q1 (3 : Int32))), (.int (own_b q1 (4 : Int32))), (.int (-1 : Int32))] [(.int (own_b q1 (0 : Int32))), (.int (own_b q1 (1 : Int32))), (.int (own_b q1 (2 : Int32))), (.int (own_b q1 (3 : Int32))), (.int (own_b q1 (4 : Int32)))] h2 n0 Z2 (by decide) (by decide) VB2 (by decide) rfl VB1_at2 (by decide) rfl) hZ (hw _ (List.mem_of_getElem? (i := 24) rfl)) (hw _ (List.mem_of_getElem? (i := 3) rfl)) (by decide) (by decide)) (g := (mkF m 172 #[.val (.int p0), .val (.long q1), .second, .val (.int (5 : Int32)), .val (.ref b1), .val (.ref b2), .val (.int (1 : Int32))] [(.long q1), (.int (5 : Int32)), (.int (4 : Int32)), (.ref b1), (.ref b2)])) rfl (by rw [hml]; rfl) (argsL := [(.ref b2), (.ref b1), (.int (4 : Int32)), (.int (5 : Int32)), (.long q1)]) (rest := []) (lenOf pd_285bB5bBIIJ29Z rfl) rfl (by show 2 * 0 + _ ≤ _; exact Nat.le_of_eq rfl) (hb hby at_172) (fun _ _ => ⟨rfl, e9, (by decide : 2 + 0 ≤ _), (by decide : 11 + 0 ≤ _)⟩)
  dsimp only [Pt.U, Pt.locs, Pt.cells, Pt.slots] at X10 l10 y10 z10 st10 hQ10
  subst l10 y10 z10
  obtain ⟨rfl, N10q, e10⟩ := hQ10
  have N10 := Fr.app N9 N10q
  obtain ⟨fs, hr, hrun, hended, hW, hsame⟩ := X10.leave (v := some (.int (1 : Int32))) (fun h => by rw [Bd.returns] at h; cases h)
  refine ⟨_, _, pre0 _ ?_, hrun, hended, _, _, rfl, ?_, ⟨_, rfl⟩, hW, hsame.mono (by decide) (by decide)⟩
  · show Steps p.tables e below (s₁.setTop (mkF m 0 #[.val (.int p0), .val (.long q1), .second, .unset, .unset, .unset, .unset] [])) _
    refine sp0 _ ?_
    show Steps p.tables e below (s₁.setTop (mkF m 8 #[.val (.int p0), .val (.long q1), .second, .val (.int (5 : Int32)), .unset, .unset, .unset] [])) _
    refine XS.iloadN X0.here hx rfl (hb hby at_8) rfl ?_
    show Steps p.tables e below (s₁.setTop (mkF m 9 #[.val (.int p0), .val (.long q1), .second, .val (.int (5 : Int32)), .unset, .unset, .unset] [(.int (5 : Int32))])) _
    refine XS.lloadN X0.here hx rfl (hb hby at_9) rfl ?_
    show Steps p.tables e below (s₁.setTop (mkF m 10 #[.val (.int p0), .val (.long q1), .second, .val (.int (5 : Int32)), .unset, .unset, .unset] [(.long q1), (.int (5 : Int32))])) _
    refine st1 _ ?_
    show Steps p.tables e below (T1.setTop (mkF m 13 #[.val (.int p0), .val (.long q1), .second, .val (.int (5 : Int32)), .unset, .unset, .unset] [(.ref b1)])) _
    refine XS.astore X1.here hx rfl (hb hby at_13) rfl rfl (l' := #[.val (.int p0), .val (.long q1), .second, .val (.int (5 : Int32)), .val (.ref b1), .unset, .unset]) rfl ?_
    show Steps p.tables e below (T1.setTop (mkF m 15 #[.val (.int p0), .val (.long q1), .second, .val (.int (5 : Int32)), .val (.ref b1), .unset, .unset] [])) _
    refine XS.aload X1.here hx rfl (hb hby at_15) rfl rfl ?_
    show Steps p.tables e below (T1.setTop (mkF m 17 #[.val (.int p0), .val (.long q1), .second, .val (.int (5 : Int32)), .val (.ref b1), .unset, .unset] [(.ref b1)])) _
    refine st2 _ ?_
    show Steps p.tables e below (T2.setTop (mkF m 20 #[.val (.int p0), .val (.long q1), .second, .val (.int (5 : Int32)), .val (.ref b1), .unset, .unset] [(.ref b2)])) _
    refine XS.astore X2.here hx rfl (hb hby at_20) rfl rfl (l' := #[.val (.int p0), .val (.long q1), .second, .val (.int (5 : Int32)), .val (.ref b1), .val (.ref b2), .unset]) rfl ?_
    show Steps p.tables e below (T2.setTop (mkF m 22 #[.val (.int p0), .val (.long q1), .second, .val (.int (5 : Int32)), .val (.ref b1), .val (.ref b2), .unset] [])) _
    refine XS.aload X2.here hx rfl (hb hby at_22) rfl rfl ?_
    show Steps p.tables e below (T2.setTop (mkF m 24 #[.val (.int p0), .val (.long q1), .second, .val (.int (5 : Int32)), .val (.ref b1), .val (.ref b2), .unset] [(.ref b2)])) _
    refine XS.ifnullNo X2.here hx rfl (hb hby at_24) rfl ?_
    show Steps p.tables e below (T2.setTop (mkF m 27 #[.val (.int p0), .val (.long q1), .second, .val (.int (5 : Int32)), .val (.ref b1), .val (.ref b2), .unset] [])) _
    refine XS.aload X2.here hx rfl (hb hby at_27) rfl rfl ?_
    show Steps p.tables e below (T2.setTop (mkF m 29 #[.val (.int p0), .val (.long q1), .second, .val (.int (5 : Int32)), .val (.ref b1), .val (.ref b2), .unset] [(.ref b2)])) _
    refine X2.arraylength hx (by rw [e2]; exact Ar_29_3.1) (State.isArrayOf_alike hZ.alike Ar_29_3.2.1) (g := (mkF m 29 #[.val (.int p0), .val (.long q1), .second, .val (.int (5 : Int32)), .val (.ref b1), .val (.ref b2), .unset] [(.ref b2)])) rfl rfl (hb hby at_29) _ ?_
    rw [len_of S_29_3 M_29_3]
    show Steps p.tables e below (T2.setTop (mkF m 30 #[.val (.int p0), .val (.long q1), .second, .val (.int (5 : Int32)), .val (.ref b1), .val (.ref b2), .unset] [(.int (6 : Int32))])) _
    refine XS.iloadN X2.here hx rfl (hb hby at_30) rfl ?_
    show Steps p.tables e below (T2.setTop (mkF m 31 #[.val (.int p0), .val (.long q1), .second, .val (.int (5 : Int32)), .val (.ref b1), .val (.ref b2), .unset] [(.int (5 : Int32)), (.int (6 : Int32))])) _
    refine XS.iconst X2.here hx rfl (hb hby at_31) ?_
    show Steps p.tables e below (T2.setTop (mkF m 32 #[.val (.int p0), .val (.long q1), .second, .val (.int (5 : Int32)), .val (.ref b1), .val (.ref b2), .unset] [(.int (1 : Int32)), (.int (5 : Int32)), (.int (6 : Int32))])) _
    refine XS.iadd X2.here hx rfl (hb hby at_32) rfl ?_
    show Steps p.tables e below (T2.setTop (mkF m 33 #[.val (.int p0), .val (.long q1), .second, .val (.int (5 : Int32)), .val (.ref b1), .val (.ref b2), .unset] [(.int (6 : Int32)), (.int (6 : Int32))])) _
    refine XS.icmpNo X2.here hx rfl (hb hby at_33) rfl (teq (by decide : (6 : Int32) = (6 : Int32))).2 ?_
    show Steps p.tables e below (T2.setTop (mkF m 36 #[.val (.int p0), .val (.long q1), .second, .val (.int (5 : Int32)), .val (.ref b1), .val (.ref b2), .unset] [])) _
    refine XS.aload X2.here hx rfl (hb hby at_36) rfl rfl ?_
    show Steps p.tables e below (T2.setTop (mkF m 38 #[.val (.int p0), .val (.long q1), .second, .val (.int (5 : Int32)), .val (.ref b1), .val (.ref b2), .unset] [(.ref b1)])) _
    refine X2.arraylength hx (by rw [e2]; exact Ar_38_4.1) (State.isArrayOf_alike hZ.alike Ar_38_4.2.1) (g := (mkF m 38 #[.val (.int p0), .val (.long q1), .second, .val (.int (5 : Int32)), .val (.ref b1), .val (.ref b2), .unset] [(.ref b1)])) rfl rfl (hb hby at_38) _ ?_
    rw [len_of S_38_4 M_38_4]
    show Steps p.tables e below (T2.setTop (mkF m 39 #[.val (.int p0), .val (.long q1), .second, .val (.int (5 : Int32)), .val (.ref b1), .val (.ref b2), .unset] [(.int (5 : Int32))])) _
    refine XS.iloadN X2.here hx rfl (hb hby at_39) rfl ?_
    show Steps p.tables e below (T2.setTop (mkF m 40 #[.val (.int p0), .val (.long q1), .second, .val (.int (5 : Int32)), .val (.ref b1), .val (.ref b2), .unset] [(.int (5 : Int32)), (.int (5 : Int32))])) _
    refine XS.icmpYes X2.here hx rfl (pc0 := 40) (pc' := 45) rfl (hb hby at_40) rfl (teq (by decide : (5 : Int32) = (5 : Int32))).1 (by decide) (by decide) ?_
    show Steps p.tables e below (T2.setTop (mkF m 45 #[.val (.int p0), .val (.long q1), .second, .val (.int (5 : Int32)), .val (.ref b1), .val (.ref b2), .unset] [])) _
    refine XS.aload X2.here hx rfl (hb hby at_45) rfl rfl ?_
    show Steps p.tables e below (T2.setTop (mkF m 47 #[.val (.int p0), .val (.long q1), .second, .val (.int (5 : Int32)), .val (.ref b1), .val (.ref b2), .unset] [(.ref b2)])) _
    refine XS.iloadN X2.here hx rfl (hb hby at_47) rfl ?_
    show Steps p.tables e below (T2.setTop (mkF m 48 #[.val (.int p0), .val (.long q1), .second, .val (.int (5 : Int32)), .val (.ref b1), .val (.ref b2), .unset] [(.int (5 : Int32)), (.ref b2)])) _
    refine X2.baloadBytes hx (j := (5 : Int32)) (v := (.int (-1 : Int32))) (by rw [e2]; exact Ar_48_5.1) (State.isArrayOf_alike hZ.alike Ar_48_5.2.1) Ar_48_5.2.2 hin48_5 hat48_5 (g := (mkF m 48 #[.val (.int p0), .val (.long q1), .second, .val (.int (5 : Int32)), .val (.ref b1), .val (.ref b2), .unset] [(.int (5 : Int32)), (.ref b2)])) rfl rfl (hb hby at_48) _ ?_
    show Steps p.tables e below (T2.setTop (mkF m 49 #[.val (.int p0), .val (.long q1), .second, .val (.int (5 : Int32)), .val (.ref b1), .val (.ref b2), .unset] [(.int (-1 : Int32))])) _
    refine XS.iconst X2.here hx rfl (hb hby at_49) ?_
    show Steps p.tables e below (T2.setTop (mkF m 50 #[.val (.int p0), .val (.long q1), .second, .val (.int (5 : Int32)), .val (.ref b1), .val (.ref b2), .unset] [(.int (-1 : Int32)), (.int (-1 : Int32))])) _
    refine XS.icmpNo X2.here hx rfl (hb hby at_50) rfl (teq (by decide : (-1 : Int32) = (-1 : Int32))).2 ?_
    show Steps p.tables e below (T2.setTop (mkF m 53 #[.val (.int p0), .val (.long q1), .second, .val (.int (5 : Int32)), .val (.ref b1), .val (.ref b2), .unset] [])) _
    refine XS.iconst X2.here hx rfl (hb hby at_53) ?_
    show Steps p.tables e below (T2.setTop (mkF m 54 #[.val (.int p0), .val (.long q1), .second, .val (.int (5 : Int32)), .val (.ref b1), .val (.ref b2), .unset] [(.int (1 : Int32))])) _
    refine XS.goto X2.here hx rfl (pc0 := 54) (pc' := 58) rfl (hb hby at_54) (by decide) (by decide) ?_
    show Steps p.tables e below (T2.setTop (mkF m 58 #[.val (.int p0), .val (.long q1), .second, .val (.int (5 : Int32)), .val (.ref b1), .val (.ref b2), .unset] [(.int (1 : Int32))])) _
    refine XS.istore X2.here hx rfl (hb hby at_58) rfl (l' := #[.val (.int p0), .val (.long q1), .second, .val (.int (5 : Int32)), .val (.ref b1), .val (.ref b2), .val (.int (1 : Int32))]) rfl ?_
    show Steps p.tables e below (T2.setTop (mkF m 60 #[.val (.int p0), .val (.long q1), .second, .val (.int (5 : Int32)), .val (.ref b1), .val (.ref b2), .val (.int (1 : Int32))] [])) _
    refine XS.iload X2.here hx rfl (hb hby at_60) rfl ?_
    show Steps p.tables e below (T2.setTop (mkF m 62 #[.val (.int p0), .val (.long q1), .second, .val (.int (5 : Int32)), .val (.ref b1), .val (.ref b2), .val (.int (1 : Int32))] [(.int (1 : Int32))])) _
    refine XS.ifNo X2.here hx rfl (hb hby at_62) rfl ((if0 _ _).trans (feq (by decide : ¬ ((1 : Int32) = (0 : Int32)))).1) ?_
    show Steps p.tables e below (T2.setTop (mkF m 65 #[.val (.int p0), .val (.long q1), .second, .val (.int (5 : Int32)), .val (.ref b1), .val (.ref b2), .val (.int (1 : Int32))] [])) _
    refine XS.aload X2.here hx rfl (hb hby at_65) rfl rfl ?_
    show Steps p.tables e below (T2.setTop (mkF m 67 #[.val (.int p0), .val (.long q1), .second, .val (.int (5 : Int32)), .val (.ref b1), .val (.ref b2), .val (.int (1 : Int32))] [(.ref b2)])) _
    refine XS.aload X2.here hx rfl (hb hby at_67) rfl rfl ?_
    show Steps p.tables e below (T2.setTop (mkF m 69 #[.val (.int p0), .val (.long q1), .second, .val (.int (5 : Int32)), .val (.ref b1), .val (.ref b2), .val (.int (1 : Int32))] [(.ref b1), (.ref b2)])) _
    refine XS.iconst X2.here hx rfl (hb hby at_69) ?_
    show Steps p.tables e below (T2.setTop (mkF m 70 #[.val (.int p0), .val (.long q1), .second, .val (.int (5 : Int32)), .val (.ref b1), .val (.ref b2), .val (.int (1 : Int32))] [(.int (0 : Int32)), (.ref b1), (.ref b2)])) _
    refine XS.iloadN X2.here hx rfl (hb hby at_70) rfl ?_
    show Steps p.tables e below (T2.setTop (mkF m 71 #[.val (.int p0), .val (.long q1), .second, .val (.int (5 : Int32)), .val (.ref b1), .val (.ref b2), .val (.int (1 : Int32))] [(.int (5 : Int32)), (.int (0 : Int32)), (.ref b1), (.ref b2)])) _
    refine XS.lloadN X2.here hx rfl (hb hby at_71) rfl ?_
    show Steps p.tables e below (T2.setTop (mkF m 72 #[.val (.int p0), .val (.long q1), .second, .val (.int (5 : Int32)), .val (.ref b1), .val (.ref b2), .val (.int (1 : Int32))] [(.long q1), (.int (5 : Int32)), (.int (0 : Int32)), (.ref b1), (.ref b2)])) _
    refine st6 _ ?_
    show Steps p.tables e below (T6.setTop (mkF m 75 #[.val (.int p0), .val (.long q1), .second, .val (.int (5 : Int32)), .val (.ref b1), .val (.ref b2), .val (.int (1 : Int32))] [(.int (1 : Int32))])) _
    refine XS.ifNo X6.here hx rfl (hb hby at_75) rfl ((if0 _ _).trans (feq (by decide : ¬ ((1 : Int32) = (0 : Int32)))).1) ?_
    show Steps p.tables e below (T6.setTop (mkF m 78 #[.val (.int p0), .val (.long q1), .second, .val (.int (5 : Int32)), .val (.ref b1), .val (.ref b2), .val (.int (1 : Int32))] [])) _
    refine XS.iconst X6.here hx rfl (hb hby at_78) ?_
    show Steps p.tables e below (T6.setTop (mkF m 79 #[.val (.int p0), .val (.long q1), .second, .val (.int (5 : Int32)), .val (.ref b1), .val (.ref b2), .val (.int (1 : Int32))] [(.int (1 : Int32))])) _
    refine XS.goto X6.here hx rfl (pc0 := 79) (pc' := 83) rfl (hb hby at_79) (by decide) (by decide) ?_
    show Steps p.tables e below (T6.setTop (mkF m 83 #[.val (.int p0), .val (.long q1), .second, .val (.int (5 : Int32)), .val (.ref b1), .val (.ref b2), .val (.int (1 : Int32))] [(.int (1 : Int32))])) _
    refine XS.istore X6.here hx rfl (hb hby at_83) rfl (l' := #[.val (.int p0), .val (.long q1), .second, .val (.int (5 : Int32)), .val (.ref b1), .val (.ref b2), .val (.int (1 : Int32))]) rfl ?_
    show Steps p.tables e below (T6.setTop (mkF m 85 #[.val (.int p0), .val (.long q1), .second, .val (.int (5 : Int32)), .val (.ref b1), .val (.ref b2), .val (.int (1 : Int32))] [])) _
    refine XS.iload X6.here hx rfl (hb hby at_85) rfl ?_
    show Steps p.tables e below (T6.setTop (mkF m 87 #[.val (.int p0), .val (.long q1), .second, .val (.int (5 : Int32)), .val (.ref b1), .val (.ref b2), .val (.int (1 : Int32))] [(.int (1 : Int32))])) _
    refine XS.ifNo X6.here hx rfl (hb hby at_87) rfl ((if0 _ _).trans (feq (by decide : ¬ ((1 : Int32) = (0 : Int32)))).1) ?_
    show Steps p.tables e below (T6.setTop (mkF m 90 #[.val (.int p0), .val (.long q1), .second, .val (.int (5 : Int32)), .val (.ref b1), .val (.ref b2), .val (.int (1 : Int32))] [])) _
    refine XS.aload X6.here hx rfl (hb hby at_90) rfl rfl ?_
    show Steps p.tables e below (T6.setTop (mkF m 92 #[.val (.int p0), .val (.long q1), .second, .val (.int (5 : Int32)), .val (.ref b1), .val (.ref b2), .val (.int (1 : Int32))] [(.ref b2)])) _
    refine XS.aload X6.here hx rfl (hb hby at_92) rfl rfl ?_
    show Steps p.tables e below (T6.setTop (mkF m 94 #[.val (.int p0), .val (.long q1), .second, .val (.int (5 : Int32)), .val (.ref b1), .val (.ref b2), .val (.int (1 : Int32))] [(.ref b1), (.ref b2)])) _
    refine XS.iconst X6.here hx rfl (hb hby at_94) ?_
    show Steps p.tables e below (T6.setTop (mkF m 95 #[.val (.int p0), .val (.long q1), .second, .val (.int (5 : Int32)), .val (.ref b1), .val (.ref b2), .val (.int (1 : Int32))] [(.int (1 : Int32)), (.ref b1), (.ref b2)])) _
    refine XS.iloadN X6.here hx rfl (hb hby at_95) rfl ?_
    show Steps p.tables e below (T6.setTop (mkF m 96 #[.val (.int p0), .val (.long q1), .second, .val (.int (5 : Int32)), .val (.ref b1), .val (.ref b2), .val (.int (1 : Int32))] [(.int (5 : Int32)), (.int (1 : Int32)), (.ref b1), (.ref b2)])) _
    refine XS.lloadN X6.here hx rfl (hb hby at_96) rfl ?_
    show Steps p.tables e below (T6.setTop (mkF m 97 #[.val (.int p0), .val (.long q1), .second, .val (.int (5 : Int32)), .val (.ref b1), .val (.ref b2), .val (.int (1 : Int32))] [(.long q1), (.int (5 : Int32)), (.int (1 : Int32)), (.ref b1), (.ref b2)])) _
    refine st7 _ ?_
    show Steps p.tables e below (T7.setTop (mkF m 100 #[.val (.int p0), .val (.long q1), .second, .val (.int (5 : Int32)), .val (.ref b1), .val (.ref b2), .val (.int (1 : Int32))] [(.int (1 : Int32))])) _
    refine XS.ifNo X7.here hx rfl (hb hby at_100) rfl ((if0 _ _).trans (feq (by decide : ¬ ((1 : Int32) = (0 : Int32)))).1) ?_
    show Steps p.tables e below (T7.setTop (mkF m 103 #[.val (.int p0), .val (.long q1), .second, .val (.int (5 : Int32)), .val (.ref b1), .val (.ref b2), .val (.int (1 : Int32))] [])) _
    refine XS.iconst X7.here hx rfl (hb hby at_103) ?_
    show Steps p.tables e below (T7.setTop (mkF m 104 #[.val (.int p0), .val (.long q1), .second, .val (.int (5 : Int32)), .val (.ref b1), .val (.ref b2), .val (.int (1 : Int32))] [(.int (1 : Int32))])) _
    refine XS.goto X7.here hx rfl (pc0 := 104) (pc' := 108) rfl (hb hby at_104) (by decide) (by decide) ?_
    show Steps p.tables e below (T7.setTop (mkF m 108 #[.val (.int p0), .val (.long q1), .second, .val (.int (5 : Int32)), .val (.ref b1), .val (.ref b2), .val (.int (1 : Int32))] [(.int (1 : Int32))])) _
    refine XS.istore X7.here hx rfl (hb hby at_108) rfl (l' := #[.val (.int p0), .val (.long q1), .second, .val (.int (5 : Int32)), .val (.ref b1), .val (.ref b2), .val (.int (1 : Int32))]) rfl ?_
    show Steps p.tables e below (T7.setTop (mkF m 110 #[.val (.int p0), .val (.long q1), .second, .val (.int (5 : Int32)), .val (.ref b1), .val (.ref b2), .val (.int (1 : Int32))] [])) _
    refine XS.iload X7.here hx rfl (hb hby at_110) rfl ?_
    show Steps p.tables e below (T7.setTop (mkF m 112 #[.val (.int p0), .val (.long q1), .second, .val (.int (5 : Int32)), .val (.ref b1), .val (.ref b2), .val (.int (1 : Int32))] [(.int (1 : Int32))])) _
    refine XS.ifNo X7.here hx rfl (hb hby at_112) rfl ((if0 _ _).trans (feq (by decide : ¬ ((1 : Int32) = (0 : Int32)))).1) ?_
    show Steps p.tables e below (T7.setTop (mkF m 115 #[.val (.int p0), .val (.long q1), .second, .val (.int (5 : Int32)), .val (.ref b1), .val (.ref b2), .val (.int (1 : Int32))] [])) _
    refine XS.aload X7.here hx rfl (hb hby at_115) rfl rfl ?_
    show Steps p.tables e below (T7.setTop (mkF m 117 #[.val (.int p0), .val (.long q1), .second, .val (.int (5 : Int32)), .val (.ref b1), .val (.ref b2), .val (.int (1 : Int32))] [(.ref b2)])) _
    refine XS.aload X7.here hx rfl (hb hby at_117) rfl rfl ?_
    show Steps p.tables e below (T7.setTop (mkF m 119 #[.val (.int p0), .val (.long q1), .second, .val (.int (5 : Int32)), .val (.ref b1), .val (.ref b2), .val (.int (1 : Int32))] [(.ref b1), (.ref b2)])) _
    refine XS.iconst X7.here hx rfl (hb hby at_119) ?_
    show Steps p.tables e below (T7.setTop (mkF m 120 #[.val (.int p0), .val (.long q1), .second, .val (.int (5 : Int32)), .val (.ref b1), .val (.ref b2), .val (.int (1 : Int32))] [(.int (2 : Int32)), (.ref b1), (.ref b2)])) _
    refine XS.iloadN X7.here hx rfl (hb hby at_120) rfl ?_
    show Steps p.tables e below (T7.setTop (mkF m 121 #[.val (.int p0), .val (.long q1), .second, .val (.int (5 : Int32)), .val (.ref b1), .val (.ref b2), .val (.int (1 : Int32))] [(.int (5 : Int32)), (.int (2 : Int32)), (.ref b1), (.ref b2)])) _
    refine XS.lloadN X7.here hx rfl (hb hby at_121) rfl ?_
    show Steps p.tables e below (T7.setTop (mkF m 122 #[.val (.int p0), .val (.long q1), .second, .val (.int (5 : Int32)), .val (.ref b1), .val (.ref b2), .val (.int (1 : Int32))] [(.long q1), (.int (5 : Int32)), (.int (2 : Int32)), (.ref b1), (.ref b2)])) _
    refine st8 _ ?_
    show Steps p.tables e below (T8.setTop (mkF m 125 #[.val (.int p0), .val (.long q1), .second, .val (.int (5 : Int32)), .val (.ref b1), .val (.ref b2), .val (.int (1 : Int32))] [(.int (1 : Int32))])) _
    refine XS.ifNo X8.here hx rfl (hb hby at_125) rfl ((if0 _ _).trans (feq (by decide : ¬ ((1 : Int32) = (0 : Int32)))).1) ?_
    show Steps p.tables e below (T8.setTop (mkF m 128 #[.val (.int p0), .val (.long q1), .second, .val (.int (5 : Int32)), .val (.ref b1), .val (.ref b2), .val (.int (1 : Int32))] [])) _
    refine XS.iconst X8.here hx rfl (hb hby at_128) ?_
    show Steps p.tables e below (T8.setTop (mkF m 129 #[.val (.int p0), .val (.long q1), .second, .val (.int (5 : Int32)), .val (.ref b1), .val (.ref b2), .val (.int (1 : Int32))] [(.int (1 : Int32))])) _
    refine XS.goto X8.here hx rfl (pc0 := 129) (pc' := 133) rfl (hb hby at_129) (by decide) (by decide) ?_
    show Steps p.tables e below (T8.setTop (mkF m 133 #[.val (.int p0), .val (.long q1), .second, .val (.int (5 : Int32)), .val (.ref b1), .val (.ref b2), .val (.int (1 : Int32))] [(.int (1 : Int32))])) _
    refine XS.istore X8.here hx rfl (hb hby at_133) rfl (l' := #[.val (.int p0), .val (.long q1), .second, .val (.int (5 : Int32)), .val (.ref b1), .val (.ref b2), .val (.int (1 : Int32))]) rfl ?_
    show Steps p.tables e below (T8.setTop (mkF m 135 #[.val (.int p0), .val (.long q1), .second, .val (.int (5 : Int32)), .val (.ref b1), .val (.ref b2), .val (.int (1 : Int32))] [])) _
    refine XS.iload X8.here hx rfl (hb hby at_135) rfl ?_
    show Steps p.tables e below (T8.setTop (mkF m 137 #[.val (.int p0), .val (.long q1), .second, .val (.int (5 : Int32)), .val (.ref b1), .val (.ref b2), .val (.int (1 : Int32))] [(.int (1 : Int32))])) _
    refine XS.ifNo X8.here hx rfl (hb hby at_137) rfl ((if0 _ _).trans (feq (by decide : ¬ ((1 : Int32) = (0 : Int32)))).1) ?_
    show Steps p.tables e below (T8.setTop (mkF m 140 #[.val (.int p0), .val (.long q1), .second, .val (.int (5 : Int32)), .val (.ref b1), .val (.ref b2), .val (.int (1 : Int32))] [])) _
    refine XS.aload X8.here hx rfl (hb hby at_140) rfl rfl ?_
    show Steps p.tables e below (T8.setTop (mkF m 142 #[.val (.int p0), .val (.long q1), .second, .val (.int (5 : Int32)), .val (.ref b1), .val (.ref b2), .val (.int (1 : Int32))] [(.ref b2)])) _
    refine XS.aload X8.here hx rfl (hb hby at_142) rfl rfl ?_
    show Steps p.tables e below (T8.setTop (mkF m 144 #[.val (.int p0), .val (.long q1), .second, .val (.int (5 : Int32)), .val (.ref b1), .val (.ref b2), .val (.int (1 : Int32))] [(.ref b1), (.ref b2)])) _
    refine XS.iconst X8.here hx rfl (hb hby at_144) ?_
    show Steps p.tables e below (T8.setTop (mkF m 145 #[.val (.int p0), .val (.long q1), .second, .val (.int (5 : Int32)), .val (.ref b1), .val (.ref b2), .val (.int (1 : Int32))] [(.int (3 : Int32)), (.ref b1), (.ref b2)])) _
    refine XS.iloadN X8.here hx rfl (hb hby at_145) rfl ?_
    show Steps p.tables e below (T8.setTop (mkF m 146 #[.val (.int p0), .val (.long q1), .second, .val (.int (5 : Int32)), .val (.ref b1), .val (.ref b2), .val (.int (1 : Int32))] [(.int (5 : Int32)), (.int (3 : Int32)), (.ref b1), (.ref b2)])) _
    refine XS.lloadN X8.here hx rfl (hb hby at_146) rfl ?_
    show Steps p.tables e below (T8.setTop (mkF m 147 #[.val (.int p0), .val (.long q1), .second, .val (.int (5 : Int32)), .val (.ref b1), .val (.ref b2), .val (.int (1 : Int32))] [(.long q1), (.int (5 : Int32)), (.int (3 : Int32)), (.ref b1), (.ref b2)])) _
    refine st9 _ ?_
    show Steps p.tables e below (T9.setTop (mkF m 150 #[.val (.int p0), .val (.long q1), .second, .val (.int (5 : Int32)), .val (.ref b1), .val (.ref b2), .val (.int (1 : Int32))] [(.int (1 : Int32))])) _
    refine XS.ifNo X9.here hx rfl (hb hby at_150) rfl ((if0 _ _).trans (feq (by decide : ¬ ((1 : Int32) = (0 : Int32)))).1) ?_
    show Steps p.tables e below (T9.setTop (mkF m 153 #[.val (.int p0), .val (.long q1), .second, .val (.int (5 : Int32)), .val (.ref b1), .val (.ref b2), .val (.int (1 : Int32))] [])) _
    refine XS.iconst X9.here hx rfl (hb hby at_153) ?_
    show Steps p.tables e below (T9.setTop (mkF m 154 #[.val (.int p0), .val (.long q1), .second, .val (.int (5 : Int32)), .val (.ref b1), .val (.ref b2), .val (.int (1 : Int32))] [(.int (1 : Int32))])) _
    refine XS.goto X9.here hx rfl (pc0 := 154) (pc' := 158) rfl (hb hby at_154) (by decide) (by decide) ?_
    show Steps p.tables e below (T9.setTop (mkF m 158 #[.val (.int p0), .val (.long q1), .second, .val (.int (5 : Int32)), .val (.ref b1), .val (.ref b2), .val (.int (1 : Int32))] [(.int (1 : Int32))])) _
    refine XS.istore X9.here hx rfl (hb hby at_158) rfl (l' := #[.val (.int p0), .val (.long q1), .second, .val (.int (5 : Int32)), .val (.ref b1), .val (.ref b2), .val (.int (1 : Int32))]) rfl ?_
    show Steps p.tables e below (T9.setTop (mkF m 160 #[.val (.int p0), .val (.long q1), .second, .val (.int (5 : Int32)), .val (.ref b1), .val (.ref b2), .val (.int (1 : Int32))] [])) _
    refine XS.iload X9.here hx rfl (hb hby at_160) rfl ?_
    show Steps p.tables e below (T9.setTop (mkF m 162 #[.val (.int p0), .val (.long q1), .second, .val (.int (5 : Int32)), .val (.ref b1), .val (.ref b2), .val (.int (1 : Int32))] [(.int (1 : Int32))])) _
    refine XS.ifNo X9.here hx rfl (hb hby at_162) rfl ((if0 _ _).trans (feq (by decide : ¬ ((1 : Int32) = (0 : Int32)))).1) ?_
    show Steps p.tables e below (T9.setTop (mkF m 165 #[.val (.int p0), .val (.long q1), .second, .val (.int (5 : Int32)), .val (.ref b1), .val (.ref b2), .val (.int (1 : Int32))] [])) _
    refine XS.aload X9.here hx rfl (hb hby at_165) rfl rfl ?_
    show Steps p.tables e below (T9.setTop (mkF m 167 #[.val (.int p0), .val (.long q1), .second, .val (.int (5 : Int32)), .val (.ref b1), .val (.ref b2), .val (.int (1 : Int32))] [(.ref b2)])) _
    refine XS.aload X9.here hx rfl (hb hby at_167) rfl rfl ?_
    show Steps p.tables e below (T9.setTop (mkF m 169 #[.val (.int p0), .val (.long q1), .second, .val (.int (5 : Int32)), .val (.ref b1), .val (.ref b2), .val (.int (1 : Int32))] [(.ref b1), (.ref b2)])) _
    refine XS.iconst X9.here hx rfl (hb hby at_169) ?_
    show Steps p.tables e below (T9.setTop (mkF m 170 #[.val (.int p0), .val (.long q1), .second, .val (.int (5 : Int32)), .val (.ref b1), .val (.ref b2), .val (.int (1 : Int32))] [(.int (4 : Int32)), (.ref b1), (.ref b2)])) _
    refine XS.iloadN X9.here hx rfl (hb hby at_170) rfl ?_
    show Steps p.tables e below (T9.setTop (mkF m 171 #[.val (.int p0), .val (.long q1), .second, .val (.int (5 : Int32)), .val (.ref b1), .val (.ref b2), .val (.int (1 : Int32))] [(.int (5 : Int32)), (.int (4 : Int32)), (.ref b1), (.ref b2)])) _
    refine XS.lloadN X9.here hx rfl (hb hby at_171) rfl ?_
    show Steps p.tables e below (T9.setTop (mkF m 172 #[.val (.int p0), .val (.long q1), .second, .val (.int (5 : Int32)), .val (.ref b1), .val (.ref b2), .val (.int (1 : Int32))] [(.long q1), (.int (5 : Int32)), (.int (4 : Int32)), (.ref b1), (.ref b2)])) _
    refine st10 _ ?_
    show Steps p.tables e below (T10.setTop (mkF m 175 #[.val (.int p0), .val (.long q1), .second, .val (.int (5 : Int32)), .val (.ref b1), .val (.ref b2), .val (.int (1 : Int32))] [(.int (1 : Int32))])) _
    refine XS.ifNo X10.here hx rfl (hb hby at_175) rfl ((if0 _ _).trans (feq (by decide : ¬ ((1 : Int32) = (0 : Int32)))).1) ?_
    show Steps p.tables e below (T10.setTop (mkF m 178 #[.val (.int p0), .val (.long q1), .second, .val (.int (5 : Int32)), .val (.ref b1), .val (.ref b2), .val (.int (1 : Int32))] [])) _
    refine XS.iconst X10.here hx rfl (hb hby at_178) ?_
    show Steps p.tables e below (T10.setTop (mkF m 179 #[.val (.int p0), .val (.long q1), .second, .val (.int (5 : Int32)), .val (.ref b1), .val (.ref b2), .val (.int (1 : Int32))] [(.int (1 : Int32))])) _
    refine XS.goto X10.here hx rfl (pc0 := 179) (pc' := 183) rfl (hb hby at_179) (by decide) (by decide) ?_
    show Steps p.tables e below (T10.setTop (mkF m 183 #[.val (.int p0), .val (.long q1), .second, .val (.int (5 : Int32)), .val (.ref b1), .val (.ref b2), .val (.int (1 : Int32))] [(.int (1 : Int32))])) _
    refine XS.istore X10.here hx rfl (hb hby at_183) rfl (l' := #[.val (.int p0), .val (.long q1), .second, .val (.int (5 : Int32)), .val (.ref b1), .val (.ref b2), .val (.int (1 : Int32))]) rfl ?_
    show Steps p.tables e below (T10.setTop (mkF m 185 #[.val (.int p0), .val (.long q1), .second, .val (.int (5 : Int32)), .val (.ref b1), .val (.ref b2), .val (.int (1 : Int32))] [])) _
    refine XS.iload X10.here hx rfl (hb hby at_185) rfl ?_
    show Steps p.tables e below (T10.setTop (mkF m 187 #[.val (.int p0), .val (.long q1), .second, .val (.int (5 : Int32)), .val (.ref b1), .val (.ref b2), .val (.int (1 : Int32))] [(.int (1 : Int32))])) _
    exact retN X10 hx (t := .boolean) Bd.returns (by simp) (hb hby at_187) hr
  · show Q0_5 Z p0 q1 h0 n0 _ T10.heap _
    rw [e10]
    exact ⟨rfl, N10⟩
theorem rm0 (l : Launch) (Z : State) (a0 : Array Value) (hw : ∀ d ∈ tables_1, d.before a0 Z = true) (ws : List Jvm.Cond) (p0 : Int32) (q1 : Int64) (h0 : Heap) (n0 : Nat) (Z0 : n0 ≤ h0.size) :
    MetFree l x (head1 (Jvm.Cond.code x code maxLocals ret :: ws) room_1) (fun a U => a = #[(.int p0), (.long q1)] ∧ Z.Warmed39 U.vm ∧ U.heap = h0) (fun _ _ _ _ _ => True) (fun _ U o U' => ∃ v L, o = .returned v ∧ Q0_0 Z p0 q1 h0 n0 v U'.heap L ∧ FrameEnd U o U' L room_1.cells room_1.slots) := by
  rcases own_nI p0 with h | h | h | h | h | h
  · exact rm0_0 l Z a0 hw ws p0 q1 h0 n0 Z0 h
  · exact rm0_1 l Z a0 hw ws p0 q1 h0 n0 Z0 h
  · exact rm0_2 l Z a0 hw ws p0 q1 h0 n0 Z0 h
  · exact rm0_3 l Z a0 hw ws p0 q1 h0 n0 Z0 h
  · exact rm0_4 l Z a0 hw ws p0 q1 h0 n0 Z0 h
  · exact rm0_5 l Z a0 hw ws p0 q1 h0 n0 Z0 h
set_option maxRecDepth 65536 in
set_option maxHeartbeats 40000000 in
theorem comes_1 {Post : Tables → Env → Array Value → State → Outcome → State → Prop} (hpost : ∀ tb e args s v u, (limb_1_1.after args s (.returned v) u = true ∧ limb_1_2.after args s (.returned v) u = true ∧ True) → FrameEnd s (.returned v) u (Jvm.fieldLocs frame_1_writes args s ++ Jvm.arrayLocs frame_1_arrays args s ++ Jvm.staticLocs frame_1_statics s) 16 128 → Post tb e args s (.returned v) u) :
    ArmFor flags0 classFile x code maxLocals ret World_1 tables_1 room_1 Calls_1 rest_1 Pre_1 Post := by
  intro l hfl _ _ p e ha hc hk s m args below hf hA hF happ hP
  obtain ⟨hcalls, hrest, hpre⟩ := hP
  obtain ⟨-, -, -, hnamed, -, -, -, hat⟩ := (Spec.applies_iff hf).mp happ
  obtain ⟨hg, hn⟩ := and_e (Cond.before_iff.mp (show (Jvm.Cond.and given_1 narrow_1).before args s = true from hpre))
  obtain ⟨gc, g0⟩ := and_e hg
  obtain ⟨ga0, g1⟩ := and_e g0
  obtain ⟨w0, w1, rfl⟩ : ∃ w0 w1 : Value, args = #[w0, w1] := by
    have hs : args.size = 2 := by simpa [Cond.value, given_1] using gc
    obtain ⟨L⟩ := args
    match L, hs with
    | [w0, w1], _ => exact ⟨w0, w1, rfl⟩
  have hw := fun d (hd : d ∈ tables_1) => atoms_spec (ws := Jvm.Cond.code x code maxLocals ret :: tables_1) hat d (List.mem_cons_of_mem _ hd)
  obtain ⟨i0, ei0⟩ := is_v ga0
  obtain rfl : w0 = (.int i0) := Option.some.inj ei0
  obtain ⟨i1, ei1⟩ := isL_v g1
  obtain rfl : w1 = (.long i1) := Option.some.inj ei1
  obtain ⟨n, o, h1, h2, h3, _, L, rfl, ⟨rfl, N⟩, hq⟩ := rm0 l s _ hw tables_1 i0 i1  s.heap s.heap.size (Nat.le_refl _)  p e ha hc hk s m _ below hf ((Spec.applies_iff_loose hf).mp happ).1 ⟨rfl, State.Warmed39.refl s, rfl⟩ trivial
  refine ⟨n, _, h1, h2, h3, hpost _ _ _ _ _ _ ⟨Cond.after_iff.mpr rfl, Cond.after_iff.mpr (eq_i res_at (Term.int_eval (1)) rfl), trivial⟩ ⟨hq.1, hq.2.1, (hq.2.2.sift fun y hy => Or.inr (N y hy)).mono (by decide) (by decide)⟩⟩
theorem main_1_1 : Claimed_1_1 := comes_1 fun _ _ _ _ _ _ h hF => ⟨h.1, hF⟩
theorem main_1_2 : Claimed_1_2 := comes_1 fun _ _ _ _ _ _ h hF => ⟨h.2.1, hF⟩
end Jvm.Pilot.@@N@@
namespace Jvm.Pilot.@@N@@
open Jvm Jvm.ClassFile Sem Op Lib Jvm.Free Jvm.Stand Jvm.Pilot.@@N@@.Jvm.D
/-! MADE BY PROGRAM (witnessworld.py) out of the Statement's table words and the real class files: 12 classes; the members and pool entries that the words name. The judged class is class 1, her method 1. -/
namespace start1
open Jvm.ClassFile
def u (s : String) : CpInfo := .utf8 (stringToUtf16 s)
/-- a pool by its gaps: so many unusable entries, then the entry; so many at the end -/
def gap : Nat → List CpInfo → List CpInfo
  | 0, r => r
  | n + 1, r => .unusable :: gap n r
def poolList (es : List (Nat × CpInfo)) (last : Nat) : List CpInfo := es.foldr (fun e r => gap e.1 (e.2 :: r)) (gap last [])
def pool (es : List (Nat × CpInfo)) (last : Nat) : Array CpInfo := ⟨poolList es last⟩
def fileOf (pool : Array CpInfo) (this : Nat) (attrs : Array Attribute := #[]) (ms : Array MethodInfo := #[]) (fl : Nat := 33) (sup : Nat := 0) (ifs : Array Nat := #[]) (fds : Array FieldInfo := #[]) : ClassFile where
  minorVersion := 0
  majorVersion := 65
  constantPool := pool
  accessFlags := fl
  thisClass := this
  superClass := sup
  interfaces := ifs
  fields := fds
  methods := ms
  attributes := attrs
def plain (name : String) (sup : Option ClassId) : Class where
  name := name
  kind := .ordinary
  loader := none
  accessFlags := 33
  super := sup
  interfaces := #[]
  cf := none
  fields := #[]
  methods := #[]
  instanceTypes := #[]
  staticTypes := #[]
  resolved := #[]
  callSites := []
  init := .initialized
  statics := none
  mirror := none

def pool0 : Array CpInfo := pool [(5, u "<init>"), (0, u "()V"), (1, .class_ 10), (1, u "java/lang/Object")] 113

def k0m0 : Method := { name := "<init>", desc := "()V", sig := { parameters := [], returnType := none }, accessFlags := 1, code := none }
/-- java/lang/Object -/
def k0 : Class := { plain "java/lang/Object" none with
  accessFlags := 33
  interfaces := #[]
  cf := some (fileOf pool0 8 #[] #[{ accessFlags := 1, nameIndex := 5, descriptorIndex := 6, attributes := #[] }] 33 0 #[] #[])
  fields := #[]
  methods := #[k0m0]
  instanceTypes := #[]
  staticTypes := #[]
  resolved := Array.replicate 124 none
  statics := none }

def pool1 : Array CpInfo := pool [(2, .class_ 4), (1, u "java/lang/Object"), (0, u "<init>"), (0, u "()V"), (0, .integer 2147483647), (0, .methodref 9 10), (0, .class_ 11), (0, .nameAndType 12 13), (0, u "com/example/usrset/usrset/store/KeyPastTuplesOfPinLaw"), (0, u "make"), (0, u "(IJ)[B"), (0, .methodref 15 16), (0, .class_ 17), (0, .nameAndType 18 19), (0, u "com/example/usrset/usrset/store/Key"), (0, u "pastTuplesOf"), (0, u "([B)[B"), (0, .methodref 9 21), (0, .nameAndType 22 23), (0, u "same"), (0, u "([B[BIIJ)Z"), (0, .methodref 9 25), (0, .nameAndType 26 27), (0, u "b"), (0, u "(JI)B"), (2, u "law"), (0, u "(IJ)Z")] 5

def k1m0 : Method := { name := "<init>", desc := "()V", sig := { parameters := [], returnType := none }, accessFlags := 2, code := none }
def k1c1 : Code := { maxStack := 6, maxLocals := 7, code := code, exceptionTable := #[], attributes := #[] }
def k1m1 : Method := { name := "law", desc := "(IJ)Z", sig := { parameters := [.int, .long], returnType := some .boolean }, accessFlags := 9, code := some k1c1 }
def k1c2 : Code := { maxStack := 4, maxLocals := 3, code := method_3_code, exceptionTable := #[], attributes := #[] }
def k1m2 : Method := { name := "b", desc := "(JI)B", sig := { parameters := [.long, .int], returnType := some .byte }, accessFlags := 10, code := some k1c2 }
def k1c3 : Code := { maxStack := 4, maxLocals := 6, code := method_4_code, exceptionTable := #[], attributes := #[] }
def k1m3 : Method := { name := "same", desc := "([B[BIIJ)Z", sig := { parameters := [(.array .byte), (.array .byte), .int, .int, .long], returnType := some .boolean }, accessFlags := 10, code := some k1c3 }
def k1c4 : Code := { maxStack := 6, maxLocals := 3, code := method_5_code, exceptionTable := #[], attributes := #[] }
def k1m4 : Method := { name := "make", desc := "(IJ)[B", sig := { parameters := [.int, .long], returnType := some (.array .byte) }, accessFlags := 10, code := some k1c4 }
/-- com/example/usrset/usrset/store/KeyPastTuplesOfPinLaw -/
def k1 : Class := { plain "com/example/usrset/usrset/store/KeyPastTuplesOfPinLaw" (some 0) with
  accessFlags := 49
  interfaces := #[]
  cf := some (fileOf pool1 9 #[] #[{ accessFlags := 2, nameIndex := 5, descriptorIndex := 6, attributes := #[] }, { accessFlags := 9, nameIndex := 30, descriptorIndex := 31, attributes := #[] }, { accessFlags := 10, nameIndex := 26, descriptorIndex := 27, attributes := #[] }, { accessFlags := 10, nameIndex := 22, descriptorIndex := 23, attributes := #[] }, { accessFlags := 10, nameIndex := 12, descriptorIndex := 13, attributes := #[] }] 49 2 #[] #[])
  fields := #[]
  methods := #[k1m0, k1m1, k1m2, k1m3, k1m4]
  instanceTypes := #[]
  staticTypes := #[]
  resolved := Array.replicate 37 none
  statics := none }

def pool2 : Array CpInfo := pool [(2, .class_ 4), (1, u "java/lang/Object"), (0, u "<init>"), (0, u "()V"), (4, .class_ 13), (1, u "com/example/usrset/usrset/store/Key"), (36, .methodref 51 52), (0, .class_ 53), (0, .nameAndType 54 55), (0, u "java/util/Arrays"), (0, u "copyOf"), (0, u "([BI)[B"), (6, u "TERMINATOR"), (0, u "I"), (2, u "ESCAPE"), (12, u "pastTuplesOf"), (0, u "([B)[B")] 4

def k2m0 : Method := { name := "<init>", desc := "()V", sig := { parameters := [], returnType := none }, accessFlags := 2, code := none }
def k2c1 : Code := { maxStack := 3, maxLocals := 2, code := prog_10_method_4_code, exceptionTable := #[], attributes := #[] }
def k2m1 : Method := { name := "pastTuplesOf", desc := "([B)[B", sig := { parameters := [(.array .byte)], returnType := some (.array .byte) }, accessFlags := 8, code := some k2c1 }
/-- com/example/usrset/usrset/store/Key -/
def k2 : Class := { plain "com/example/usrset/usrset/store/Key" (some 0) with
  accessFlags := 49
  interfaces := #[]
  cf := some (fileOf pool2 11 #[] #[{ accessFlags := 2, nameIndex := 5, descriptorIndex := 6, attributes := #[] }, { accessFlags := 8, nameIndex := 79, descriptorIndex := 80, attributes := #[] }] 49 2 #[] #[{ accessFlags := 26, nameIndex := 62, descriptorIndex := 63, attributes := #[] }, { accessFlags := 26, nameIndex := 66, descriptorIndex := 63, attributes := #[] }])
  fields := #[{ name := "TERMINATOR", type := .int, accessFlags := 26, slot := 0, constantValue := 0 }, { name := "ESCAPE", type := .int, accessFlags := 26, slot := 1, constantValue := 0 }]
  methods := #[k2m0, k2m1]
  instanceTypes := #[]
  staticTypes := #[.int, .int]
  resolved := Array.replicate 85 none
  statics := none }

def pool3 : Array CpInfo := pool [(2, .class_ 4), (1, u "java/lang/Object"), (0, u "<init>"), (0, u "()V"), (7, .class_ 16), (1, u "java/util/Arrays"), (57, .class_ 76), (1, u "java/util/Arrays$NaturalOrder"), (36, .class_ 115), (1, u "java/util/Arrays$LegacyMergeSort"), (1, u "Z"), (32, .methodref 151 152), (0, .class_ 153), (0, .nameAndType 154 155), (0, u "java/lang/System"), (0, u "arraycopy"), (0, u "(Ljava/lang/Object;ILjava/lang/Object;II)V"), (146, u "copyOf"), (1, .methodref 305 306), (0, .class_ 307), (0, .nameAndType 308 309), (0, u "java/lang/Math"), (0, u "min"), (0, u "(II)I"), (65, .class_ 376), (0, u "java/util/Arrays$ArrayList"), (68, u "$assertionsDisabled"), (269, u "MIN_ARRAY_SORT_GRAN"), (0, u "I"), (2, u "INSERTIONSORT_THRESHOLD"), (149, u "([BI)[B"), (105, .class_ 976), (0, u "java/util/Arrays$ArrayItr")] 52

def k3m0 : Method := { name := "<init>", desc := "()V", sig := { parameters := [], returnType := none }, accessFlags := 2, code := none }
def k3c1 : Code := { maxStack := 6, maxLocals := 3, code := jdk_65_method_121_code, exceptionTable := #[], attributes := #[] }
def k3m1 : Method := { name := "copyOf", desc := "([BI)[B", sig := { parameters := [(.array .byte), .int], returnType := some (.array .byte) }, accessFlags := 9, code := some k3c1 }
/-- java/util/Arrays -/
def k3 : Class := { plain "java/util/Arrays" (some 0) with
  accessFlags := 49
  interfaces := #[]
  cf := some (fileOf pool3 14 #[.nestMembers #[975, 375, 113, 74]] #[{ accessFlags := 2, nameIndex := 5, descriptorIndex := 6, attributes := #[] }, { accessFlags := 9, nameIndex := 302, descriptorIndex := 869, attributes := #[] }] 49 2 #[] #[{ accessFlags := 26, nameIndex := 715, descriptorIndex := 716, attributes := #[] }, { accessFlags := 26, nameIndex := 719, descriptorIndex := 716, attributes := #[] }, { accessFlags := 4120, nameIndex := 445, descriptorIndex := 117, attributes := #[] }])
  fields := #[{ name := "MIN_ARRAY_SORT_GRAN", type := .int, accessFlags := 26, slot := 0, constantValue := 0 }, { name := "INSERTIONSORT_THRESHOLD", type := .int, accessFlags := 26, slot := 1, constantValue := 0 }, { name := "$assertionsDisabled", type := .boolean, accessFlags := 4120, slot := 2, constantValue := 0 }]
  methods := #[k3m0, k3m1]
  instanceTypes := #[]
  staticTypes := #[.int, .int, .boolean]
  resolved := Array.replicate 1029 none
  statics := none }

def pool4 : Array CpInfo := pool [(1, .class_ 2), (0, u "java/lang/Math"), (1, .class_ 6), (1, u "java/lang/Object"), (0, u "<init>"), (0, u "()V"), (89, .class_ 100), (1, u "java/lang/Math$RandomNumberGeneratorHolder"), (71, u "negativeZeroFloatBits"), (0, u "J"), (2, u "negativeZeroDoubleBits"), (24, u "min"), (43, u "$assertionsDisabled"), (0, u "Z"), (88, u "(II)I"), (2, u "twoToTheDoubleScaleDown"), (0, u "D"), (4, u "twoToTheDoubleScaleUp"), (9, u "E"), (3, u "PI"), (2, u "TAU"), (2, u "DEGREES_TO_RADIANS"), (0, u "RADIANS_TO_DEGREES")] 94

def k4m0 : Method := { name := "<init>", desc := "()V", sig := { parameters := [], returnType := none }, accessFlags := 2, code := none }
def k4c1 : Code := { maxStack := 2, maxLocals := 2, code := jdk_29_method_69_code, exceptionTable := #[], attributes := #[] }
def k4m1 : Method := { name := "min", desc := "(II)I", sig := { parameters := [.int, .int], returnType := some .int }, accessFlags := 9, code := some k4c1 }
/-- java/lang/Math -/
def k4 : Class := { plain "java/lang/Math" (some 0) with
  accessFlags := 49
  interfaces := #[]
  cf := some (fileOf pool4 1 #[.nestMembers #[98]] #[{ accessFlags := 2, nameIndex := 7, descriptorIndex := 8, attributes := #[] }, { accessFlags := 9, nameIndex := 201, descriptorIndex := 335, attributes := #[] }] 49 4 #[] #[{ accessFlags := 25, nameIndex := 354, descriptorIndex := 339, attributes := #[] }, { accessFlags := 25, nameIndex := 358, descriptorIndex := 339, attributes := #[] }, { accessFlags := 25, nameIndex := 361, descriptorIndex := 339, attributes := #[] }, { accessFlags := 26, nameIndex := 364, descriptorIndex := 339, attributes := #[] }, { accessFlags := 26, nameIndex := 365, descriptorIndex := 339, attributes := #[] }, { accessFlags := 26, nameIndex := 172, descriptorIndex := 173, attributes := #[] }, { accessFlags := 26, nameIndex := 176, descriptorIndex := 173, attributes := #[] }, { accessFlags := 8, nameIndex := 344, descriptorIndex := 339, attributes := #[] }, { accessFlags := 8, nameIndex := 338, descriptorIndex := 339, attributes := #[] }, { accessFlags := 4120, nameIndex := 245, descriptorIndex := 246, attributes := #[] }])
  fields := #[{ name := "E", type := .double, accessFlags := 25, slot := 0, constantValue := 0 }, { name := "PI", type := .double, accessFlags := 25, slot := 1, constantValue := 0 }, { name := "TAU", type := .double, accessFlags := 25, slot := 2, constantValue := 0 }, { name := "DEGREES_TO_RADIANS", type := .double, accessFlags := 26, slot := 3, constantValue := 0 }, { name := "RADIANS_TO_DEGREES", type := .double, accessFlags := 26, slot := 4, constantValue := 0 }, { name := "negativeZeroFloatBits", type := .long, accessFlags := 26, slot := 5, constantValue := 0 }, { name := "negativeZeroDoubleBits", type := .long, accessFlags := 26, slot := 6, constantValue := 0 }, { name := "twoToTheDoubleScaleUp", type := .double, accessFlags := 8, slot := 7, constantValue := 0 }, { name := "twoToTheDoubleScaleDown", type := .double, accessFlags := 8, slot := 8, constantValue := 0 }, { name := "$assertionsDisabled", type := .boolean, accessFlags := 4120, slot := 9, constantValue := 0 }]
  methods := #[k4m0, k4m1]
  instanceTypes := #[]
  staticTypes := #[.double, .double, .double, .double, .double, .long, .long, .double, .double, .boolean]
  resolved := Array.replicate 460 none
  statics := none }

def pool5 : Array CpInfo := pool [(2, .class_ 4), (1, u "java/lang/Object"), (0, u "<init>"), (0, u "()V"), (1, .class_ 10), (1, u "java/lang/System"), (0, u "allowSecurityManager"), (0, u "I"), (16, u "cons"), (0, u "Ljava/io/Console;"), (77, .class_ 110), (1, u "java/lang/System$CallersHolder"), (43, u "initialErrStream"), (0, u "Ljava/io/PrintStream;"), (19, u "security"), (0, u "Ljava/lang/SecurityManager;"), (31, .class_ 209), (0, u "java/lang/System$1"), (7, u "props"), (0, u "Ljava/util/Properties;"), (2, u "lineSeparator"), (0, u "Ljava/lang/String;"), (96, .class_ 321), (1, u "java/lang/System$LoggerFinder"), (5, .class_ 328), (0, u "java/lang/System$Logger"), (67, u "err"), (2, u "out"), (91, u "notSupportedJnuEncoding"), (15, u "in"), (17, u "initialIn"), (0, u "Ljava/io/InputStream;"), (35, u "bootLayer"), (0, u "Ljava/lang/ModuleLayer;"), (99, .class_ 664), (0, u "java/lang/System$2"), (9, u "NEVER"), (2, u "MAYBE"), (49, u "arraycopy"), (0, u "(Ljava/lang/Object;ILjava/lang/Object;II)V"), (72, .class_ 802), (0, u "java/lang/System$Logger$Level")] 31

def k5m0 : Method := { name := "<init>", desc := "()V", sig := { parameters := [], returnType := none }, accessFlags := 2, code := none }
def k5m1 : Method := { name := "arraycopy", desc := "(Ljava/lang/Object;ILjava/lang/Object;II)V", sig := { parameters := [(.object "java/lang/Object"), .int, (.object "java/lang/Object"), .int, .int], returnType := none }, accessFlags := 265, code := none }
/-- java/lang/System -/
def k5 : Class := { plain "java/lang/System" (some 0) with
  accessFlags := 49
  interfaces := #[]
  cf := some (fileOf pool5 8 #[.nestMembers #[319, 327, 801, 108, 663, 208]] #[{ accessFlags := 2, nameIndex := 5, descriptorIndex := 6, attributes := #[] }, { accessFlags := 265, nameIndex := 727, descriptorIndex := 728, attributes := #[] }] 49 2 #[] #[{ accessFlags := 25, nameIndex := 507, descriptorIndex := 526, attributes := #[] }, { accessFlags := 25, nameIndex := 399, descriptorIndex := 155, attributes := #[] }, { accessFlags := 25, nameIndex := 396, descriptorIndex := 155, attributes := #[] }, { accessFlags := 10, nameIndex := 525, descriptorIndex := 526, attributes := #[] }, { accessFlags := 26, nameIndex := 674, descriptorIndex := 12, attributes := #[] }, { accessFlags := 26, nameIndex := 677, descriptorIndex := 12, attributes := #[] }, { accessFlags := 10, nameIndex := 11, descriptorIndex := 12, attributes := #[] }, { accessFlags := 74, nameIndex := 175, descriptorIndex := 176, attributes := #[] }, { accessFlags := 10, nameIndex := 491, descriptorIndex := 222, attributes := #[] }, { accessFlags := 74, nameIndex := 29, descriptorIndex := 30, attributes := #[] }, { accessFlags := 74, nameIndex := 154, descriptorIndex := 155, attributes := #[] }, { accessFlags := 10, nameIndex := 217, descriptorIndex := 218, attributes := #[] }, { accessFlags := 10, nameIndex := 221, descriptorIndex := 222, attributes := #[] }, { accessFlags := 8, nameIndex := 562, descriptorIndex := 563, attributes := #[] }])
  fields := #[{ name := "in", type := (.object "java/io/InputStream"), accessFlags := 25, slot := 0, constantValue := 0 }, { name := "out", type := (.object "java/io/PrintStream"), accessFlags := 25, slot := 1, constantValue := 0 }, { name := "err", type := (.object "java/io/PrintStream"), accessFlags := 25, slot := 2, constantValue := 0 }, { name := "initialIn", type := (.object "java/io/InputStream"), accessFlags := 10, slot := 3, constantValue := 0 }, { name := "NEVER", type := .int, accessFlags := 26, slot := 4, constantValue := 0 }, { name := "MAYBE", type := .int, accessFlags := 26, slot := 5, constantValue := 0 }, { name := "allowSecurityManager", type := .int, accessFlags := 10, slot := 6, constantValue := 0 }, { name := "security", type := (.object "java/lang/SecurityManager"), accessFlags := 74, slot := 7, constantValue := 0 }, { name := "notSupportedJnuEncoding", type := (.object "java/lang/String"), accessFlags := 10, slot := 8, constantValue := 0 }, { name := "cons", type := (.object "java/io/Console"), accessFlags := 74, slot := 9, constantValue := 0 }, { name := "initialErrStream", type := (.object "java/io/PrintStream"), accessFlags := 74, slot := 10, constantValue := 0 }, { name := "props", type := (.object "java/util/Properties"), accessFlags := 10, slot := 11, constantValue := 0 }, { name := "lineSeparator", type := (.object "java/lang/String"), accessFlags := 10, slot := 12, constantValue := 0 }, { name := "bootLayer", type := (.object "java/lang/ModuleLayer"), accessFlags := 8, slot := 13, constantValue := 0 }]
  methods := #[k5m0, k5m1]
  instanceTypes := #[]
  staticTypes := #[(.object "java/io/InputStream"), (.object "java/io/PrintStream"), (.object "java/io/PrintStream"), (.object "java/io/InputStream"), .int, .int, .int, (.object "java/lang/SecurityManager"), (.object "java/lang/String"), (.object "java/io/Console"), (.object "java/io/PrintStream"), (.object "java/util/Properties"), (.object "java/lang/String"), (.object "java/lang/ModuleLayer")]
  resolved := Array.replicate 834 none
  statics := none }

def pool6 : Array CpInfo := pool [(1, u "java/lang/Cloneable"), (0, .class_ 1), (0, u "java/lang/Object"), (0, .class_ 3)] 3

/-- java/lang/Cloneable -/
def k6 : Class := { plain "java/lang/Cloneable" (some 0) with
  accessFlags := 1537
  interfaces := #[]
  cf := some (fileOf pool6 2 #[] #[] 1537 4 #[] #[])
  fields := #[]
  methods := #[]
  instanceTypes := #[]
  staticTypes := #[]
  resolved := Array.replicate 8 none
  statics := none }

def pool7 : Array CpInfo := pool [(1, u "java/io/Serializable"), (0, .class_ 1), (0, u "java/lang/Object"), (0, .class_ 3)] 3

/-- java/io/Serializable -/
def k7 : Class := { plain "java/io/Serializable" (some 0) with
  accessFlags := 1537
  interfaces := #[]
  cf := some (fileOf pool7 2 #[] #[] 1537 4 #[] #[])
  fields := #[]
  methods := #[]
  instanceTypes := #[]
  staticTypes := #[]
  resolved := Array.replicate 8 none
  statics := none }

/-- the primitive byte -/
def k8 : Class := { plain "byte" none with kind := .primitive 'B', accessFlags := 0x411 }
/-- [B -/
def k9 : Class := { plain "[B" (some 0) with kind := .array 8 .byte, interfaces := #[6, 7], accessFlags := 1041 }

/-- the primitive int -/
def k10 : Class := { plain "int" none with kind := .primitive 'I', accessFlags := 0x411 }
/-- [I -/
def k11 : Class := { plain "[I" (some 0) with kind := .array 10 .int, interfaces := #[6, 7], accessFlags := 1041 }

def heap : Heap := #[]
def classes : Array Class := #[k0, k1, k2, k3, k4, k5, k6, k7, k8, k9, k10, k11]
def interned : List (Array UInt16 × Addr) := []
def slotsUsed : Nat := 0
def theMethod : MethodId := ⟨1, 1⟩
def args0 : Array Value := #[.int 5, .long 7]
def aboutOver (below : List Frame) : State where
  vm := { classes := classes, interned := interned.toArray }
  heap := heap
  slotsUsed := slotsUsed
  threads := #[{ frames := .invoking theMethod args0 :: below }]
def below0 : List Frame := [.native { method := ⟨0, 0⟩, args := #[] }]
def about1 : State := aboutOver below0
def p0 : Program := .bare "" "" ""
def e0 : Env := launch0.env 0 0 0
theorem w_frames : about1.frames = Frame.invoking theMethod args0 :: below0 := rfl
set_option maxRecDepth 65536 in
theorem w_args : argsFit about1.vm theMethod args0 = true := by decide +kernel
set_option maxRecDepth 65536 in
theorem w_heap : heapFits about1 = true := by decide +kernel
set_option maxRecDepth 65536 in
theorem w_runnable : about1.curStatus? = some .runnable := by decide +kernel
set_option maxRecDepth 65536 in
theorem w_alone : about1.alone = true := by decide +kernel
set_option maxRecDepth 65536 in
theorem w_named : about1.methodNamed? x = some theMethod := by decide +kernel
set_option maxRecDepth 65536 in
theorem w_hears : about1.hears theMethod below0 = true := by decide +kernel
set_option maxRecDepth 65536 in
theorem w_ripe : about1.ripe theMethod args0 below0 = true := by decide +kernel
theorem w_running : about1.status = .running := rfl
set_option maxRecDepth 65536 in
theorem w_room : about1.hasRoom e0.platform room_1 = true :=
  launch0.hasRoom_least _ room_1 (by decide +kernel) (by decide +kernel) (by decide +kernel) (by decide +kernel) (by decide +kernel) (by decide +kernel)
theorem allAtoms_all (ts : List Jvm.Cond) (a : Array Jvm.Value) (st : Jvm.State) : (allAtoms ts).before a st = ts.all (fun c => c.before a st) := by
  induction ts with
  | nil => rfl
  | cons c t ih =>
    show (Jvm.Cond.and c (allAtoms t)).before a st = _
    rw [Jvm.Cond.before_and, ih, List.all_cons]
def words1 : List Jvm.Cond := Jvm.Cond.code x code maxLocals ret :: tables_1
/-- a 'code' word, met by the world's own term for the bytes: nothing is compared byte by byte -/
theorem code_word {y : MethodName} {bytes : ByteArray} {mx : Nat} {rt : Option FieldType} {a : Array Value} {s : State} {m : MethodId} {meth : Method} {c : Code} (h1 : s.methodNamed? y = some m) (h2 : s.vm.method? m = some meth) (h3 : meth.code = some c) (h4 : c.code = bytes)
    (h5 : (c.maxLocals == mx && c.exceptionTable.isEmpty && decide (c.maxStack ≤ mostOperands) && decide (meth.sig.returnType = rt) && !meth.locks && decide (parseMethodDescriptor y.desc = some meth.sig)) = true) : (Jvm.Cond.code y bytes mx rt).before a s = true := by
  simp only [Bool.and_eq_true, beq_iff_eq, Bool.not_eq_true', decide_eq_true_eq] at h5
  obtain ⟨⟨⟨⟨⟨g1, g2⟩, g3⟩, g4⟩, g5⟩, g6⟩ := h5
  simp [Cond.before, Cond.holds, Cond.value, h1, h2, h3, h4, g1, g2, g3, g4, g5, g6]
def isCode : Jvm.Cond → Bool
  | .code _ _ _ _ => true
  | _ => false
theorem all_split {L : List Jvm.Cond} {P : Jvm.Cond → Bool} (h1 : L.all (fun c => isCode c || P c) = true) (h2 : ∀ c ∈ L.filter isCode, P c = true) : L.all P = true := by
  refine List.all_eq_true.mpr fun c hc => ?_
  have h := List.all_eq_true.mp h1 c hc
  rcases Bool.eq_false_or_eq_true (isCode c) with hi | hi
  · exact h2 c (List.mem_filter.mpr ⟨hc, hi⟩)
  · simpa [hi] using h
set_option maxRecDepth 65536 in
theorem w_c0 : (Jvm.Cond.code x code maxLocals ret).before args0 about1 = true := code_word (m := ⟨1, 1⟩) (meth := k1m1) (c := k1c1) (by decide +kernel) rfl rfl rfl (by decide +kernel)
set_option maxRecDepth 65536 in
theorem w_c1 : (Jvm.Cond.code ({ cls := "com/example/usrset/usrset/store/KeyPastTuplesOfPinLaw", name := "make", desc := "(IJ)[B" } : Jvm.MethodName) method_5_code (3 : Nat) (Option.some (Jvm.ClassFile.FieldType.array Jvm.ClassFile.FieldType.byte))).before args0 about1 = true := code_word (m := ⟨1, 4⟩) (meth := k1m4) (c := k1c4) (by decide +kernel) rfl rfl rfl (by decide +kernel)
set_option maxRecDepth 65536 in
theorem w_c2 : (Jvm.Cond.code ({ cls := "com/example/usrset/usrset/store/Key", name := "pastTuplesOf", desc := "([B)[B" } : Jvm.MethodName) prog_10_method_4_code (2 : Nat) (Option.some (Jvm.ClassFile.FieldType.array Jvm.ClassFile.FieldType.byte))).before args0 about1 = true := code_word (m := ⟨2, 1⟩) (meth := k2m1) (c := k2c1) (by decide +kernel) rfl rfl rfl (by decide +kernel)
set_option maxRecDepth 65536 in
theorem w_c3 : (Jvm.Cond.code ({ cls := "java/util/Arrays", name := "copyOf", desc := "([BI)[B" } : Jvm.MethodName) jdk_65_method_121_code (3 : Nat) (Option.some (Jvm.ClassFile.FieldType.array Jvm.ClassFile.FieldType.byte))).before args0 about1 = true := code_word (m := ⟨3, 1⟩) (meth := k3m1) (c := k3c1) (by decide +kernel) rfl rfl rfl (by decide +kernel)
set_option maxRecDepth 65536 in
theorem w_c4 : (Jvm.Cond.code ({ cls := "java/lang/Math", name := "min", desc := "(II)I" } : Jvm.MethodName) jdk_29_method_69_code (2 : Nat) (Option.some Jvm.ClassFile.FieldType.int)).before args0 about1 = true := code_word (m := ⟨4, 1⟩) (meth := k4m1) (c := k4c1) (by decide +kernel) rfl rfl rfl (by decide +kernel)
set_option maxRecDepth 65536 in
theorem w_c5 : (Jvm.Cond.code ({ cls := "com/example/usrset/usrset/store/KeyPastTuplesOfPinLaw", name := "same", desc := "([B[BIIJ)Z" } : Jvm.MethodName) method_4_code (6 : Nat) (Option.some Jvm.ClassFile.FieldType.boolean)).before args0 about1 = true := code_word (m := ⟨1, 3⟩) (meth := k1m3) (c := k1c3) (by decide +kernel) rfl rfl rfl (by decide +kernel)
set_option maxRecDepth 65536 in
theorem w_c6 : (Jvm.Cond.code ({ cls := "com/example/usrset/usrset/store/KeyPastTuplesOfPinLaw", name := "b", desc := "(JI)B" } : Jvm.MethodName) method_3_code (3 : Nat) (Option.some Jvm.ClassFile.FieldType.byte)).before args0 about1 = true := code_word (m := ⟨1, 2⟩) (meth := k1m2) (c := k1c2) (by decide +kernel) rfl rfl rfl (by decide +kernel)
def codes1 : List Jvm.Cond := [Jvm.Cond.code x code maxLocals ret, Jvm.Cond.code ({ cls := "com/example/usrset/usrset/store/KeyPastTuplesOfPinLaw", name := "make", desc := "(IJ)[B" } : Jvm.MethodName) method_5_code (3 : Nat) (Option.some (Jvm.ClassFile.FieldType.array Jvm.ClassFile.FieldType.byte)), Jvm.Cond.code ({ cls := "com/example/usrset/usrset/store/Key", name := "pastTuplesOf", desc := "([B)[B" } : Jvm.MethodName) prog_10_method_4_code (2 : Nat) (Option.some (Jvm.ClassFile.FieldType.array Jvm.ClassFile.FieldType.byte)), Jvm.Cond.code ({ cls := "java/util/Arrays", name := "copyOf", desc := "([BI)[B" } : Jvm.MethodName) jdk_65_method_121_code (3 : Nat) (Option.some (Jvm.ClassFile.FieldType.array Jvm.ClassFile.FieldType.byte)), Jvm.Cond.code ({ cls := "java/lang/Math", name := "min", desc := "(II)I" } : Jvm.MethodName) jdk_29_method_69_code (2 : Nat) (Option.some Jvm.ClassFile.FieldType.int), Jvm.Cond.code ({ cls := "com/example/usrset/usrset/store/KeyPastTuplesOfPinLaw", name := "same", desc := "([B[BIIJ)Z" } : Jvm.MethodName) method_4_code (6 : Nat) (Option.some Jvm.ClassFile.FieldType.boolean), Jvm.Cond.code ({ cls := "com/example/usrset/usrset/store/KeyPastTuplesOfPinLaw", name := "b", desc := "(JI)B" } : Jvm.MethodName) method_3_code (3 : Nat) (Option.some Jvm.ClassFile.FieldType.byte)]
set_option maxRecDepth 65536 in
theorem codes_eq : words1.filter isCode = codes1 := rfl
theorem w_codes : ∀ c ∈ words1.filter isCode, c.before args0 about1 = true := by
  rw [codes_eq]
  intro c hc
  simp only [codes1, List.mem_cons, List.not_mem_nil, or_false] at hc
  rcases hc with rfl | rfl | rfl | rfl | rfl | rfl | rfl
  · exact w_c0
  · exact w_c1
  · exact w_c2
  · exact w_c3
  · exact w_c4
  · exact w_c5
  · exact w_c6
set_option maxRecDepth 65536 in
theorem w_t1 : (words1.take 24).all (fun c => isCode c || c.before args0 about1) = true := by decide +kernel
set_option maxRecDepth 65536 in
theorem w_t2 : (words1.drop 24).all (fun c => isCode c || c.before args0 about1) = true := by decide +kernel
theorem w_tables : (allAtoms (Jvm.Cond.code x code maxLocals ret :: tables_1)).before args0 about1 = true := by
  rw [allAtoms_all]
  show words1.all (fun c => c.before args0 about1) = true
  refine all_split ?_ w_codes
  rw [← List.take_append_drop 24 words1, List.all_append, w_t1, w_t2]
  rfl
set_option maxRecDepth 65536 in
theorem w_case : (Jvm.Cond.and given_1 narrow_1).before args0 about1 = true := by decide +kernel
theorem w_applies : (headSpec (Jvm.Cond.code x code maxLocals ret :: tables_1) room_1).applies x e0.platform about1 = true :=
  (Spec.applies_iff w_frames).mpr ⟨w_running, w_runnable, w_alone, w_named, w_hears, w_ripe, w_room, w_tables⟩
theorem atStart : AtStart classFile x code maxLocals ret World_1 tables_1 room_1 Calls_1 rest_1 Pre_1 launch0 p0 e0 about1 theMethod args0 below0 :=
  ⟨lists_1, trivial, launch0.admits_env _ _ _, launch0.least_env, fairChoices_fair.cas, fairChoices_fair.clock, w_frames, w_args, w_heap, w_applies, trivial, trivial, w_case⟩
end start1
theorem witness_1 : WitnessClaimed_1 := ⟨start1.p0, start1.e0, start1.about1, start1.theMethod, start1.args0, start1.below0, start1.atStart⟩
end Jvm.Pilot.@@N@@
