import JvmDerived
import JvmDerived.Pilot.@@N@@Statement
import JvmDerived.Pilot.@@N@@Code
set_option linter.unusedVariables false
set_option linter.unusedSimpArgs false
@@BLOCK:NumsL.lean.txt@@
namespace Jvm.RoadKit
open Sem ClassFile Op Lib Jvm.Stand Jvm.Free Jvm.LawKit
section New
variable {p : Program} {l : Launch} {e : Env} {R : Room} {s : State} {m : MethodId} {args : Array Value} {below : List Frame} {meth : Method} {c : Code} {T : State} {locs : List Loc} {cells slots : Nat}
theorem retI (X : Stand p l e R s m args below meth c T locs cells slots) (hx : p.tables.exec = Jvm.exec) {pc : Nat} {Ls : Array Slot} {z : Int32} {rest : List Value} (hret : meth.sig.returnType = some .int) (hd : decode c.code pc = .ok (.ireturn, 1)) {fs : List Frame}
    (hl : ∀ (f : JFrame) (acts : List Action), f.method = m → f.locked = none → f.entered = [] → (doReturn e (T.setTop f) acts (some (.int z))).1 = T.setFrames fs) : Steps p.tables e below (T.setTop (mkF m pc Ls (.int z :: rest))) (T.setFrames fs) := by
  have hm' : T.vm.method? m = some meth := X.method'
  have hn : narrow .int (.int z) = .int z := rfl
  show Steps p.tables e below (T.setTop { method := m, pc := pc, locals := Ls, stack := _ :: rest, locked := none }) _
  jvm_step X.here [X.here.top, hx, hd, hm', hret, hn]
  first | (intro acts; rw [hl _ acts rfl rfl rfl]) | rw [hl _ _ rfl rfl rfl]
  exact Steps.refl _
end New
end Jvm.RoadKit
namespace Jvm.Pilot.@@N@@
open Jvm Jvm.ClassFile Sem Op Lib Jvm.Free Jvm.Stand Jvm.LawKit Jvm.RoadKit Bundle Jvm.Pilot.@@N@@.Jvm.D

/-! the plain law -/
def own_rem (x y : Int64) : Int64 := x - (x / y) * y
def own_w (s : Int64) (d : Int32) : Int32 := (((1103515245 : Int32) * ((((1103515245 : Int32) * (s.toInt32)) + (12345 : Int32)) ^^^ d)) + (12345 : Int32)) &&& (2147483647 : Int32)
def own_r (s : Int64) (d : Int32) : Int64 :=
  own_rem (((1103515245 : Int64) * ((own_rem (((1103515245 : Int64) * (own_rem s (2147483648 : Int64))) + (12345 : Int64)) (2147483648 : Int64)) ^^^ (own_rem ((d.toInt64) &&& (4294967295 : Int64)) (2147483648 : Int64)))) + (12345 : Int64)) (2147483648 : Int64)
theorem own_tn (z : Int32) : z.toInt % 2 ^ 31 = ((z.toBitVec.toNat % 2 ^ 31 : Nat) : Int) := by
  have e : z.toInt = Int.bmod z.toBitVec.toNat (2 ^ 32) := BitVec.toInt_eq_toNat_bmod _
  have h := z.toBitVec.isLt
  rw [e, Int.bmod_def]; omega
theorem own_tn64 (z : Int64) : z.toInt % 2 ^ 31 = ((z.toBitVec.toNat % 2 ^ 31 : Nat) : Int) := by
  have e : z.toInt = Int.bmod z.toBitVec.toNat (2 ^ 64) := BitVec.toInt_eq_toNat_bmod _
  have h := z.toBitVec.isLt
  rw [e, Int.bmod_def]; omega
theorem own_lo (x y : Int32) : (x ^^^ y).toInt % 2 ^ 31 = (((x.toInt % 2 ^ 31).toNat ^^^ (y.toInt % 2 ^ 31).toNat : Nat) : Int) := by
  rw [own_tn, own_tn, own_tn, Int.toNat_natCast, Int.toNat_natCast, Int32.toBitVec_xor, BitVec.toNat_xor, Nat.xor_mod_two_pow]
theorem own_lo64 (x y : Int64) : (x ^^^ y).toInt % 2 ^ 31 = (((x.toInt % 2 ^ 31).toNat ^^^ (y.toInt % 2 ^ 31).toNat : Nat) : Int) := by
  rw [own_tn64, own_tn64, own_tn64, Int.toNat_natCast, Int.toNat_natCast, Int64.toBitVec_xor, BitVec.toNat_xor, Nat.xor_mod_two_pow]
theorem own_step (z : Int32) : (((1103515245 : Int32) * z) + (12345 : Int32)).toInt % 2 ^ 31 = (1103515245 * (z.toInt % 2 ^ 31) + 12345) % 2 ^ 31 := by
  have e1 : (1103515245 : Int32).toInt = 1103515245 := by decide
  have e2 : (12345 : Int32).toInt = 12345 := by decide
  rw [Int32.toInt_add, Int32.toInt_mul, e1, e2]
  generalize z.toInt = n
  rw [Int.bmod_def, Int.bmod_def]; omega
theorem own_low32 (s : Int64) : s.toInt32.toInt % 2 ^ 31 = s.toInt % 2 ^ 31 := by
  rw [Int64.toInt_toInt32, Int.bmod_def]; omega
theorem own_val (s : Int64) (d : Int32) : (own_w s d).toInt = (1103515245 * ((((1103515245 * (s.toInt % 2 ^ 31) + 12345) % 2 ^ 31).toNat ^^^ (d.toInt % 2 ^ 31).toNat : Nat) : Int) + 12345) % 2 ^ 31 := by
  rw [own_w, Jvm.Kit.i32_mask _ 2147483647 (k := 31) (by decide) (by decide), own_step, own_lo, own_step, own_low32]
theorem own_n64 {a : Int64} (h : 0 ≤ a.toInt) : a.toInt = (a.toBitVec.toNat : Int) ∧ a.toBitVec.toNat < 2 ^ 63 := by
  have e : a.toInt = Int.bmod a.toBitVec.toNat (2 ^ 64) := BitVec.toInt_eq_toNat_bmod _
  have hb := a.toBitVec.isLt
  rw [Int.bmod_def] at e
  constructor <;> omega
theorem own_xor64 {a b : Int64} (ha : 0 ≤ a.toInt) (hb : 0 ≤ b.toInt) : (a ^^^ b).toInt = ((a.toInt.toNat ^^^ b.toInt.toNat : Nat) : Int) := by
  obtain ⟨a1, a2⟩ := own_n64 ha
  obtain ⟨b1, b2⟩ := own_n64 hb
  have hx := Nat.xor_lt_two_pow a2 b2
  have e : (a ^^^ b).toInt = Int.bmod (a ^^^ b).toBitVec.toNat (2 ^ 64) := BitVec.toInt_eq_toNat_bmod _
  rw [e, Int64.toBitVec_xor, BitVec.toNat_xor, a1, b1, Int.toNat_natCast, Int.toNat_natCast, Int.bmod_def]
  generalize a.toBitVec.toNat ^^^ b.toBitVec.toNat = n at *
  omega
theorem own_line {s : Int64} (h0 : 0 ≤ s.toInt) (h1 : s.toInt < 2 ^ 31) : (own_rem (((1103515245 : Int64) * s) + (12345 : Int64)) (2147483648 : Int64)).toInt = (1103515245 * s.toInt + 12345) % 2 ^ 31 := by
  have e1 : (1103515245 : Int64).toInt = 1103515245 := by decide
  have e2 : (12345 : Int64).toInt = 12345 := by decide
  have e3 : (2147483648 : Int64).toInt = 2 ^ 31 := by decide
  have m1 : ((1103515245 : Int64) * s).toInt = 1103515245 * s.toInt := by rw [Jvm.Kit.i64_mul (by rw [e1]; omega) (by rw [e1]; omega), e1]
  have m2 : (((1103515245 : Int64) * s) + (12345 : Int64)).toInt = 1103515245 * s.toInt + 12345 := by rw [Jvm.Kit.i64_add (by rw [m1, e2]; omega) (by rw [m1, e2]; omega), m1, e2]
  rw [own_rem, Jvm.Kit.i64_rem_nonneg (by rw [m2]; omega), m2, e3]
theorem own_a (q : Int64) (d : Int32) : (own_w (q &&& (4294967295 : Int64)) d).toInt64 = own_r (q &&& (4294967295 : Int64)) d := by
  have e3 : (2147483648 : Int64).toInt = 2 ^ 31 := by decide
  have hs : (q &&& (4294967295 : Int64)).toInt = q.toInt % 2 ^ 32 := Jvm.Kit.i64_mask q _ (k := 32) (by decide) (by decide)
  generalize (q &&& (4294967295 : Int64)) = s at *
  have s0 : 0 ≤ s.toInt := by omega
  have r1 : (own_rem s (2147483648 : Int64)).toInt = s.toInt % 2 ^ 31 := by rw [own_rem, Jvm.Kit.i64_rem_nonneg s0, e3]
  have d1 : ((d.toInt64) &&& (4294967295 : Int64)).toInt = d.toInt % 2 ^ 32 := by rw [Jvm.Kit.i64_mask _ _ (k := 32) (by decide) (by decide), Int32.toInt_toInt64]
  have d2 : (own_rem ((d.toInt64) &&& (4294967295 : Int64)) (2147483648 : Int64)).toInt = d.toInt % 2 ^ 31 := by rw [own_rem, Jvm.Kit.i64_rem_nonneg (by rw [d1]; omega), d1, e3]; omega
  have a1 := own_line (s := own_rem s (2147483648 : Int64)) (by rw [r1]; omega) (by rw [r1]; omega)
  rw [r1] at a1
  rw [← Int64.toInt_inj, Int32.toInt_toInt64, own_val, own_r]
  generalize own_rem ((d.toInt64) &&& (4294967295 : Int64)) (2147483648 : Int64) = dd at *
  generalize own_rem (((1103515245 : Int64) * (own_rem s (2147483648 : Int64))) + (12345 : Int64)) (2147483648 : Int64) = aa at *
  have x1 := own_xor64 (a := aa) (b := dd) (by rw [a1]; omega) (by rw [d2]; omega)
  have x2 : aa.toInt.toNat ^^^ dd.toInt.toNat < 2 ^ 31 := Nat.xor_lt_two_pow (by omega) (by omega)
  rw [own_line (by rw [x1]; omega) (by rw [x1]; omega), x1, a1, d2]
theorem own_flip (d : Int32) : (d ^^^ (-2147483648 : Int32)).toInt % 2 ^ 31 = d.toInt % 2 ^ 31 := by
  have e : (-2147483648 : Int32).toInt % 2 ^ 31 = 0 := by decide
  rw [own_lo, e, Int.toNat_zero, Nat.xor_zero]; omega
theorem own_flip64 (s : Int64) : (s ^^^ (2147483648 : Int64)).toInt % 2 ^ 31 = s.toInt % 2 ^ 31 := by
  have e : (2147483648 : Int64).toInt % 2 ^ 31 = 0 := by decide
  rw [own_lo64, e, Int.toNat_zero, Nat.xor_zero]; omega
theorem own_b (s : Int64) (d : Int32) : own_w (s ^^^ (2147483648 : Int64)) (d ^^^ (-2147483648 : Int32)) = own_w s d := by
  rw [← Int32.toInt_inj, own_val, own_val, own_flip, own_flip64]

theorem ef_1 (m : MethodId) (x0 : Int64) (x1 : Int32) : entryFrame m #[(.long x0), (.int x1)] 4 = mkF m 0 #[.val (.long x0), .second, .val (.int x1), .unset] [] := by first | (simp [entryFrame, mkF, argsToLocals, Value.category]; done) | rfl
theorem pn_com_example_sockeye_sockeye_Wrand : plainName "com/example/sockeye/sockeye/Wrand" = true := by first | (simp [plainName, overriddenIn]; done) | decide +kernel
theorem d1_0 : decode prog_11_method_4_code 0 = .ok (.ldc 18, 2) := by decide +kernel
theorem d1_2 : decode prog_11_method_4_code 2 = .ok (.lload_n 0, 1) := by decide +kernel
theorem d1_3 : decode prog_11_method_4_code 3 = .ok (.l2i, 1) := by decide +kernel
theorem d1_4 : decode prog_11_method_4_code 4 = .ok (.imul, 1) := by decide +kernel
theorem d1_5 : decode prog_11_method_4_code 5 = .ok (.sipush 12345, 3) := by decide +kernel
theorem d1_8 : decode prog_11_method_4_code 8 = .ok (.iadd, 1) := by decide +kernel
theorem d1_9 : decode prog_11_method_4_code 9 = .ok (.istore_n 3, 1) := by decide +kernel
theorem d1_10 : decode prog_11_method_4_code 10 = .ok (.ldc 18, 2) := by decide +kernel
theorem d1_12 : decode prog_11_method_4_code 12 = .ok (.iload_n 3, 1) := by decide +kernel
theorem d1_13 : decode prog_11_method_4_code 13 = .ok (.iload_n 2, 1) := by decide +kernel
theorem d1_14 : decode prog_11_method_4_code 14 = .ok (.ixor, 1) := by decide +kernel
theorem d1_15 : decode prog_11_method_4_code 15 = .ok (.imul, 1) := by decide +kernel
theorem d1_16 : decode prog_11_method_4_code 16 = .ok (.sipush 12345, 3) := by decide +kernel
theorem d1_19 : decode prog_11_method_4_code 19 = .ok (.iadd, 1) := by decide +kernel
theorem d1_20 : decode prog_11_method_4_code 20 = .ok (.ldc 19, 2) := by decide +kernel
theorem d1_22 : decode prog_11_method_4_code 22 = .ok (.iand, 1) := by decide +kernel
theorem d1_23 : decode prog_11_method_4_code 23 = .ok (.ireturn, 1) := by decide +kernel
def Q1 (Z : State) (q0 : Int64) (p1 : Int32) (h0 : Heap) (n0 : Nat) (v : Option Value) (h : Heap) (L : List Loc) : Prop := v = some (.int (own_w q0 p1)) ∧ Fr n0 L ∧ h = h0
set_option maxRecDepth 65536 in
set_option maxHeartbeats 40000000 in
theorem rm1 (l : Launch) (Z : State) (a0 : Array Value) (hw : ∀ d ∈ tables_1, d.before a0 Z = true) (ws : List Jvm.Cond) (q0 : Int64) (p1 : Int32) (h0 : Heap) (n0 : Nat) (Z0 : n0 ≤ h0.size)  :
    MetFree l (⟨"com/example/sockeye/sockeye/Wrand", "weight", "(JI)I"⟩ : MethodName) (head1 (Jvm.Cond.code (⟨"com/example/sockeye/sockeye/Wrand", "weight", "(JI)I"⟩ : MethodName) prog_11_method_4_code 4 (some .int) :: ws) ({ frames := 0, cells := 0, slots := 0, locals := 0 } : Room)) (fun a U => a = #[(.long q0), (.int p1)] ∧ Z.Warmed39 U.vm ∧ U.heap = h0) (fun _ _ _ _ _ => True) (fun _ U o U' => ∃ v L, o = .returned v ∧ Q1 Z q0 p1 h0 n0 v U'.heap L ∧ FrameEnd U o U' L ({ frames := 0, cells := 0, slots := 0, locals := 0 } : Room).cells ({ frames := 0, cells := 0, slots := 0, locals := 0 } : Room).slots) := by
  refine MetFree.of_bodySF (plainFor_of_name pn_com_example_sockeye_sockeye_Wrand) hisR ?_
  intro p e s m args below meth c s₁ Bd hml0 hP hK
  obtain ⟨rfl, hZ, hh⟩ := hP
  have hx := Bd.exec
  have hby := Bd.bytes
  have hml : c.maxLocals = 4 := hml0
  have hown : s.vm.findClass "com/example/sockeye/sockeye/Wrand" = some m.cls := findClass_of_methodNamed Bd.named
  have hnm := (name_of_methodNamed Bd.named Bd.method).1
  have X0 : Stand p l e ({ frames := 0, cells := 0, slots := 0, locals := 0 } : Room) s m #[(.long q0), (.int p1)] below meth c s₁ [] 0 0 := Stand.of_body Bd
  have e0 : s₁.heap = h0 := by rw [← hh, Bd.state]; rfl
  have N0 := Fr.nil n0
  have pre0 : ∀ t, Steps p.tables e below (s₁.setTop (mkF m 0 #[.val (.long q0), .second, .val (.int p1), .unset] [])) t → Steps p.tables e below (s₁.setTop (entryFrame m #[(.long q0), (.int p1)] 4)) t := fun t k => castTop (ef_1 m q0 p1) k
  obtain ⟨fs, hr, hrun, hended, hW, hsame⟩ := X0.leave (v := some (.int ((((1103515245 : Int32) * ((((1103515245 : Int32) * (q0.toInt32)) + (12345 : Int32)) ^^^ p1)) + (12345 : Int32)) &&& (2147483647 : Int32)))) (fun h => by rw [Bd.returns] at h; cases h)
  refine ⟨_, _, pre0 _ ?_, hrun, hended, _, _, rfl, ?_, ⟨_, rfl⟩, hW, hsame.mono (by decide) (by decide)⟩
  · show Steps p.tables e below (s₁.setTop (mkF m 0 #[.val (.long q0), .second, .val (.int p1), .unset] [])) _
    refine X0.ldcInt hx hown (mvT hZ (hw _ (List.mem_of_getElem? (i := 5) rfl))) (g := (mkF m 0 #[.val (.long q0), .second, .val (.int p1), .unset] [])) rfl (hb hby d1_0) _ ?_
    show Steps p.tables e below (s₁.setTop (mkF m 2 #[.val (.long q0), .second, .val (.int p1), .unset] [(.int (1103515245 : Int32))])) _
    refine XS.lloadN X0.here hx rfl (hb hby d1_2) rfl ?_
    show Steps p.tables e below (s₁.setTop (mkF m 3 #[.val (.long q0), .second, .val (.int p1), .unset] [(.long q0), (.int (1103515245 : Int32))])) _
    refine XS.l2i X0.here hx rfl (hb hby d1_3) rfl ?_
    show Steps p.tables e below (s₁.setTop (mkF m 4 #[.val (.long q0), .second, .val (.int p1), .unset] [(.int (q0.toInt32)), (.int (1103515245 : Int32))])) _
    refine XS.imul X0.here hx rfl (hb hby d1_4) rfl ?_
    show Steps p.tables e below (s₁.setTop (mkF m 5 #[.val (.long q0), .second, .val (.int p1), .unset] [(.int ((1103515245 : Int32) * (q0.toInt32)))])) _
    refine XS.sipush X0.here hx rfl (hb hby d1_5) ?_
    show Steps p.tables e below (s₁.setTop (mkF m 8 #[.val (.long q0), .second, .val (.int p1), .unset] [(.int (12345 : Int32)), (.int ((1103515245 : Int32) * (q0.toInt32)))])) _
    refine XS.iadd X0.here hx rfl (hb hby d1_8) rfl ?_
    show Steps p.tables e below (s₁.setTop (mkF m 9 #[.val (.long q0), .second, .val (.int p1), .unset] [(.int (((1103515245 : Int32) * (q0.toInt32)) + (12345 : Int32)))])) _
    refine XS.istoreN X0.here hx rfl (hb hby d1_9) rfl (l' := #[.val (.long q0), .second, .val (.int p1), .val (.int (((1103515245 : Int32) * (q0.toInt32)) + (12345 : Int32)))]) rfl ?_
    show Steps p.tables e below (s₁.setTop (mkF m 10 #[.val (.long q0), .second, .val (.int p1), .val (.int (((1103515245 : Int32) * (q0.toInt32)) + (12345 : Int32)))] [])) _
    refine X0.ldcInt hx hown (mvT hZ (hw _ (List.mem_of_getElem? (i := 5) rfl))) (g := (mkF m 10 #[.val (.long q0), .second, .val (.int p1), .val (.int (((1103515245 : Int32) * (q0.toInt32)) + (12345 : Int32)))] [])) rfl (hb hby d1_10) _ ?_
    show Steps p.tables e below (s₁.setTop (mkF m 12 #[.val (.long q0), .second, .val (.int p1), .val (.int (((1103515245 : Int32) * (q0.toInt32)) + (12345 : Int32)))] [(.int (1103515245 : Int32))])) _
    refine XS.iloadN X0.here hx rfl (hb hby d1_12) rfl ?_
    show Steps p.tables e below (s₁.setTop (mkF m 13 #[.val (.long q0), .second, .val (.int p1), .val (.int (((1103515245 : Int32) * (q0.toInt32)) + (12345 : Int32)))] [(.int (((1103515245 : Int32) * (q0.toInt32)) + (12345 : Int32))), (.int (1103515245 : Int32))])) _
    refine XS.iloadN X0.here hx rfl (hb hby d1_13) rfl ?_
    show Steps p.tables e below (s₁.setTop (mkF m 14 #[.val (.long q0), .second, .val (.int p1), .val (.int (((1103515245 : Int32) * (q0.toInt32)) + (12345 : Int32)))] [(.int p1), (.int (((1103515245 : Int32) * (q0.toInt32)) + (12345 : Int32))), (.int (1103515245 : Int32))])) _
    refine XS.ixor X0.here hx rfl (hb hby d1_14) rfl ?_
    show Steps p.tables e below (s₁.setTop (mkF m 15 #[.val (.long q0), .second, .val (.int p1), .val (.int (((1103515245 : Int32) * (q0.toInt32)) + (12345 : Int32)))] [(.int ((((1103515245 : Int32) * (q0.toInt32)) + (12345 : Int32)) ^^^ p1)), (.int (1103515245 : Int32))])) _
    refine XS.imul X0.here hx rfl (hb hby d1_15) rfl ?_
    show Steps p.tables e below (s₁.setTop (mkF m 16 #[.val (.long q0), .second, .val (.int p1), .val (.int (((1103515245 : Int32) * (q0.toInt32)) + (12345 : Int32)))] [(.int ((1103515245 : Int32) * ((((1103515245 : Int32) * (q0.toInt32)) + (12345 : Int32)) ^^^ p1)))])) _
    refine XS.sipush X0.here hx rfl (hb hby d1_16) ?_
    show Steps p.tables e below (s₁.setTop (mkF m 19 #[.val (.long q0), .second, .val (.int p1), .val (.int (((1103515245 : Int32) * (q0.toInt32)) + (12345 : Int32)))] [(.int (12345 : Int32)), (.int ((1103515245 : Int32) * ((((1103515245 : Int32) * (q0.toInt32)) + (12345 : Int32)) ^^^ p1)))])) _
    refine XS.iadd X0.here hx rfl (hb hby d1_19) rfl ?_
    show Steps p.tables e below (s₁.setTop (mkF m 20 #[.val (.long q0), .second, .val (.int p1), .val (.int (((1103515245 : Int32) * (q0.toInt32)) + (12345 : Int32)))] [(.int (((1103515245 : Int32) * ((((1103515245 : Int32) * (q0.toInt32)) + (12345 : Int32)) ^^^ p1)) + (12345 : Int32)))])) _
    refine X0.ldcInt hx hown (mvT hZ (hw _ (List.mem_of_getElem? (i := 6) rfl))) (g := (mkF m 20 #[.val (.long q0), .second, .val (.int p1), .val (.int (((1103515245 : Int32) * (q0.toInt32)) + (12345 : Int32)))] [(.int (((1103515245 : Int32) * ((((1103515245 : Int32) * (q0.toInt32)) + (12345 : Int32)) ^^^ p1)) + (12345 : Int32)))])) rfl (hb hby d1_20) _ ?_
    show Steps p.tables e below (s₁.setTop (mkF m 22 #[.val (.long q0), .second, .val (.int p1), .val (.int (((1103515245 : Int32) * (q0.toInt32)) + (12345 : Int32)))] [(.int (2147483647 : Int32)), (.int (((1103515245 : Int32) * ((((1103515245 : Int32) * (q0.toInt32)) + (12345 : Int32)) ^^^ p1)) + (12345 : Int32)))])) _
    refine XS.iand X0.here hx rfl (hb hby d1_22) rfl ?_
    show Steps p.tables e below (s₁.setTop (mkF m 23 #[.val (.long q0), .second, .val (.int p1), .val (.int (((1103515245 : Int32) * (q0.toInt32)) + (12345 : Int32)))] [(.int ((((1103515245 : Int32) * ((((1103515245 : Int32) * (q0.toInt32)) + (12345 : Int32)) ^^^ p1)) + (12345 : Int32)) &&& (2147483647 : Int32)))])) _
    exact retI X0 hx Bd.returns (hb hby d1_23) hr
  · show Q1 Z q0 p1 h0 n0 _ s₁.heap _
    rw [e0]
    exact ⟨rfl, N0, rfl⟩
theorem ef_2 (m : MethodId) (x0 : Int64) (x1 : Int32) : entryFrame m #[(.long x0), (.int x1)] 11 = mkF m 0 #[.val (.long x0), .second, .val (.int x1), .unset, .unset, .unset, .unset, .unset, .unset, .unset, .unset] [] := by first | (simp [entryFrame, mkF, argsToLocals, Value.category]; done) | rfl
theorem pn_com_example_sockeye_sockeye_WrandWeightPinLaw : plainName "com/example/sockeye/sockeye/WrandWeightPinLaw" = true := by first | (simp [plainName, overriddenIn]; done) | decide +kernel
theorem d2_0 : decode method_2_code 0 = .ok (.lload_n 0, 1) := by decide +kernel
theorem d2_1 : decode method_2_code 1 = .ok (.ldc2_w 9, 3) := by decide +kernel
theorem d2_4 : decode method_2_code 4 = .ok (.lrem, 1) := by decide +kernel
theorem d2_5 : decode method_2_code 5 = .ok (.lstore_n 3, 1) := by decide +kernel
theorem d2_6 : decode method_2_code 6 = .ok (.iload_n 2, 1) := by decide +kernel
theorem d2_7 : decode method_2_code 7 = .ok (.i2l, 1) := by decide +kernel
theorem d2_8 : decode method_2_code 8 = .ok (.ldc2_w 11, 3) := by decide +kernel
theorem d2_11 : decode method_2_code 11 = .ok (.land, 1) := by decide +kernel
theorem d2_12 : decode method_2_code 12 = .ok (.ldc2_w 9, 3) := by decide +kernel
theorem d2_15 : decode method_2_code 15 = .ok (.lrem, 1) := by decide +kernel
theorem d2_16 : decode method_2_code 16 = .ok (.lstore 5, 2) := by decide +kernel
theorem d2_18 : decode method_2_code 18 = .ok (.ldc2_w 13, 3) := by decide +kernel
theorem d2_21 : decode method_2_code 21 = .ok (.lload_n 3, 1) := by decide +kernel
theorem d2_22 : decode method_2_code 22 = .ok (.lmul, 1) := by decide +kernel
theorem d2_23 : decode method_2_code 23 = .ok (.ldc2_w 15, 3) := by decide +kernel
theorem d2_26 : decode method_2_code 26 = .ok (.ladd, 1) := by decide +kernel
theorem d2_27 : decode method_2_code 27 = .ok (.ldc2_w 9, 3) := by decide +kernel
theorem d2_30 : decode method_2_code 30 = .ok (.lrem, 1) := by decide +kernel
theorem d2_31 : decode method_2_code 31 = .ok (.lstore 7, 2) := by decide +kernel
theorem d2_33 : decode method_2_code 33 = .ok (.lload 7, 2) := by decide +kernel
theorem d2_35 : decode method_2_code 35 = .ok (.lload 5, 2) := by decide +kernel
theorem d2_37 : decode method_2_code 37 = .ok (.lxor, 1) := by decide +kernel
theorem d2_38 : decode method_2_code 38 = .ok (.lstore 9, 2) := by decide +kernel
theorem d2_40 : decode method_2_code 40 = .ok (.ldc2_w 13, 3) := by decide +kernel
theorem d2_43 : decode method_2_code 43 = .ok (.lload 9, 2) := by decide +kernel
theorem d2_45 : decode method_2_code 45 = .ok (.lmul, 1) := by decide +kernel
theorem d2_46 : decode method_2_code 46 = .ok (.ldc2_w 15, 3) := by decide +kernel
theorem d2_49 : decode method_2_code 49 = .ok (.ladd, 1) := by decide +kernel
theorem d2_50 : decode method_2_code 50 = .ok (.ldc2_w 9, 3) := by decide +kernel
theorem d2_53 : decode method_2_code 53 = .ok (.lrem, 1) := by decide +kernel
theorem d2_54 : decode method_2_code 54 = .ok (.lreturn, 1) := by decide +kernel
def Q2 (Z : State) (q0 : Int64) (p1 : Int32) (h0 : Heap) (n0 : Nat) (v : Option Value) (h : Heap) (L : List Loc) : Prop := v = some (.long (own_r q0 p1)) ∧ Fr n0 L ∧ h = h0
set_option maxRecDepth 65536 in
set_option maxHeartbeats 40000000 in
theorem rm2 (l : Launch) (Z : State) (a0 : Array Value) (hw : ∀ d ∈ tables_1, d.before a0 Z = true) (ws : List Jvm.Cond) (q0 : Int64) (p1 : Int32) (h0 : Heap) (n0 : Nat) (Z0 : n0 ≤ h0.size)  :
    MetFree l (⟨"com/example/sockeye/sockeye/WrandWeightPinLaw", "reference", "(JI)J"⟩ : MethodName) (head1 (Jvm.Cond.code (⟨"com/example/sockeye/sockeye/WrandWeightPinLaw", "reference", "(JI)J"⟩ : MethodName) method_2_code 11 (some .long) :: ws) ({ frames := 0, cells := 0, slots := 0, locals := 0 } : Room)) (fun a U => a = #[(.long q0), (.int p1)] ∧ Z.Warmed39 U.vm ∧ U.heap = h0) (fun _ _ _ _ _ => True) (fun _ U o U' => ∃ v L, o = .returned v ∧ Q2 Z q0 p1 h0 n0 v U'.heap L ∧ FrameEnd U o U' L ({ frames := 0, cells := 0, slots := 0, locals := 0 } : Room).cells ({ frames := 0, cells := 0, slots := 0, locals := 0 } : Room).slots) := by
  refine MetFree.of_bodySF (plainFor_of_name pn_com_example_sockeye_sockeye_WrandWeightPinLaw) hisR ?_
  intro p e s m args below meth c s₁ Bd hml0 hP hK
  obtain ⟨rfl, hZ, hh⟩ := hP
  have hx := Bd.exec
  have hby := Bd.bytes
  have hml : c.maxLocals = 11 := hml0
  have hown : s.vm.findClass "com/example/sockeye/sockeye/WrandWeightPinLaw" = some m.cls := findClass_of_methodNamed Bd.named
  have hnm := (name_of_methodNamed Bd.named Bd.method).1
  have X0 : Stand p l e ({ frames := 0, cells := 0, slots := 0, locals := 0 } : Room) s m #[(.long q0), (.int p1)] below meth c s₁ [] 0 0 := Stand.of_body Bd
  have e0 : s₁.heap = h0 := by rw [← hh, Bd.state]; rfl
  have N0 := Fr.nil n0
  have pre0 : ∀ t, Steps p.tables e below (s₁.setTop (mkF m 0 #[.val (.long q0), .second, .val (.int p1), .unset, .unset, .unset, .unset, .unset, .unset, .unset, .unset] [])) t → Steps p.tables e below (s₁.setTop (entryFrame m #[(.long q0), (.int p1)] 11)) t := fun t k => castTop (ef_2 m q0 p1) k
  obtain ⟨fs, hr, hrun, hended, hW, hsame⟩ := X0.leave (v := some (.long ((((1103515245 : Int64) * (((((1103515245 : Int64) * (q0 - (q0 / (2147483648 : Int64)) * (2147483648 : Int64))) + (12345 : Int64)) - ((((1103515245 : Int64) * (q0 - (q0 / (2147483648 : Int64)) * (2147483648 : Int64))) + (12345 : Int64)) / (2147483648 : Int64)) * (2147483648 : Int64)) ^^^ (((p1.toInt64) &&& (4294967295 : Int64)) - (((p1.toInt64) &&& (4294967295 : Int64)) / (2147483648 : Int64)) * (2147483648 : Int64)))) + (12345 : Int64)) - ((((1103515245 : Int64) * (((((1103515245 : Int64) * (q0 - (q0 / (2147483648 : Int64)) * (2147483648 : Int64))) + (12345 : Int64)) - ((((1103515245 : Int64) * (q0 - (q0 / (2147483648 : Int64)) * (2147483648 : Int64))) + (12345 : Int64)) / (2147483648 : Int64)) * (2147483648 : Int64)) ^^^ (((p1.toInt64) &&& (4294967295 : Int64)) - (((p1.toInt64) &&& (4294967295 : Int64)) / (2147483648 : Int64)) * (2147483648 : Int64)))) + (12345 : Int64)) / (2147483648 : Int64)) * (2147483648 : Int64)))) (fun h => by rw [Bd.returns] at h; cases h)
  refine ⟨_, _, pre0 _ ?_, hrun, hended, _, _, rfl, ?_, ⟨_, rfl⟩, hW, hsame.mono (by decide) (by decide)⟩
  · show Steps p.tables e below (s₁.setTop (mkF m 0 #[.val (.long q0), .second, .val (.int p1), .unset, .unset, .unset, .unset, .unset, .unset, .unset, .unset] [])) _
    refine XS.lloadN X0.here hx rfl (hb hby d2_0) rfl ?_
    show Steps p.tables e below (s₁.setTop (mkF m 1 #[.val (.long q0), .second, .val (.int p1), .unset, .unset, .unset, .unset, .unset, .unset, .unset, .unset] [(.long q0)])) _
    refine X0.ldc2Long hx hown (mvT hZ (hw _ (List.mem_of_getElem? (i := 11) rfl))) (g := (mkF m 1 #[.val (.long q0), .second, .val (.int p1), .unset, .unset, .unset, .unset, .unset, .unset, .unset, .unset] [(.long q0)])) rfl (hb hby d2_1) _ ?_
    show Steps p.tables e below (s₁.setTop (mkF m 4 #[.val (.long q0), .second, .val (.int p1), .unset, .unset, .unset, .unset, .unset, .unset, .unset, .unset] [(.long (2147483648 : Int64)), (.long q0)])) _
    refine XS.lrem X0.here hx rfl (hb hby d2_4) rfl (by decide) ?_
    show Steps p.tables e below (s₁.setTop (mkF m 5 #[.val (.long q0), .second, .val (.int p1), .unset, .unset, .unset, .unset, .unset, .unset, .unset, .unset] [(.long (q0 - (q0 / (2147483648 : Int64)) * (2147483648 : Int64)))])) _
    refine XS.lstoreN X0.here hx rfl (hb hby d2_5) rfl (l' := #[.val (.long q0), .second, .val (.int p1), .val (.long (q0 - (q0 / (2147483648 : Int64)) * (2147483648 : Int64))), .second, .unset, .unset, .unset, .unset, .unset, .unset]) rfl ?_
    show Steps p.tables e below (s₁.setTop (mkF m 6 #[.val (.long q0), .second, .val (.int p1), .val (.long (q0 - (q0 / (2147483648 : Int64)) * (2147483648 : Int64))), .second, .unset, .unset, .unset, .unset, .unset, .unset] [])) _
    refine XS.iloadN X0.here hx rfl (hb hby d2_6) rfl ?_
    show Steps p.tables e below (s₁.setTop (mkF m 7 #[.val (.long q0), .second, .val (.int p1), .val (.long (q0 - (q0 / (2147483648 : Int64)) * (2147483648 : Int64))), .second, .unset, .unset, .unset, .unset, .unset, .unset] [(.int p1)])) _
    refine XS.i2l X0.here hx rfl (hb hby d2_7) rfl ?_
    show Steps p.tables e below (s₁.setTop (mkF m 8 #[.val (.long q0), .second, .val (.int p1), .val (.long (q0 - (q0 / (2147483648 : Int64)) * (2147483648 : Int64))), .second, .unset, .unset, .unset, .unset, .unset, .unset] [(.long (p1.toInt64))])) _
    refine X0.ldc2Long hx hown (mvT hZ (hw _ (List.mem_of_getElem? (i := 0) rfl))) (g := (mkF m 8 #[.val (.long q0), .second, .val (.int p1), .val (.long (q0 - (q0 / (2147483648 : Int64)) * (2147483648 : Int64))), .second, .unset, .unset, .unset, .unset, .unset, .unset] [(.long (p1.toInt64))])) rfl (hb hby d2_8) _ ?_
    show Steps p.tables e below (s₁.setTop (mkF m 11 #[.val (.long q0), .second, .val (.int p1), .val (.long (q0 - (q0 / (2147483648 : Int64)) * (2147483648 : Int64))), .second, .unset, .unset, .unset, .unset, .unset, .unset] [(.long (4294967295 : Int64)), (.long (p1.toInt64))])) _
    refine XS.land X0.here hx rfl (hb hby d2_11) rfl ?_
    show Steps p.tables e below (s₁.setTop (mkF m 12 #[.val (.long q0), .second, .val (.int p1), .val (.long (q0 - (q0 / (2147483648 : Int64)) * (2147483648 : Int64))), .second, .unset, .unset, .unset, .unset, .unset, .unset] [(.long ((p1.toInt64) &&& (4294967295 : Int64)))])) _
    refine X0.ldc2Long hx hown (mvT hZ (hw _ (List.mem_of_getElem? (i := 11) rfl))) (g := (mkF m 12 #[.val (.long q0), .second, .val (.int p1), .val (.long (q0 - (q0 / (2147483648 : Int64)) * (2147483648 : Int64))), .second, .unset, .unset, .unset, .unset, .unset, .unset] [(.long ((p1.toInt64) &&& (4294967295 : Int64)))])) rfl (hb hby d2_12) _ ?_
    show Steps p.tables e below (s₁.setTop (mkF m 15 #[.val (.long q0), .second, .val (.int p1), .val (.long (q0 - (q0 / (2147483648 : Int64)) * (2147483648 : Int64))), .second, .unset, .unset, .unset, .unset, .unset, .unset] [(.long (2147483648 : Int64)), (.long ((p1.toInt64) &&& (4294967295 : Int64)))])) _
    refine XS.lrem X0.here hx rfl (hb hby d2_15) rfl (by decide) ?_
    show Steps p.tables e below (s₁.setTop (mkF m 16 #[.val (.long q0), .second, .val (.int p1), .val (.long (q0 - (q0 / (2147483648 : Int64)) * (2147483648 : Int64))), .second, .unset, .unset, .unset, .unset, .unset, .unset] [(.long (((p1.toInt64) &&& (4294967295 : Int64)) - (((p1.toInt64) &&& (4294967295 : Int64)) / (2147483648 : Int64)) * (2147483648 : Int64)))])) _
    refine XS.lstore X0.here hx rfl (hb hby d2_16) rfl (l' := #[.val (.long q0), .second, .val (.int p1), .val (.long (q0 - (q0 / (2147483648 : Int64)) * (2147483648 : Int64))), .second, .val (.long (((p1.toInt64) &&& (4294967295 : Int64)) - (((p1.toInt64) &&& (4294967295 : Int64)) / (2147483648 : Int64)) * (2147483648 : Int64))), .second, .unset, .unset, .unset, .unset]) rfl ?_
    show Steps p.tables e below (s₁.setTop (mkF m 18 #[.val (.long q0), .second, .val (.int p1), .val (.long (q0 - (q0 / (2147483648 : Int64)) * (2147483648 : Int64))), .second, .val (.long (((p1.toInt64) &&& (4294967295 : Int64)) - (((p1.toInt64) &&& (4294967295 : Int64)) / (2147483648 : Int64)) * (2147483648 : Int64))), .second, .unset, .unset, .unset, .unset] [])) _
    refine X0.ldc2Long hx hown (mvT hZ (hw _ (List.mem_of_getElem? (i := 12) rfl))) (g := (mkF m 18 #[.val (.long q0), .second, .val (.int p1), .val (.long (q0 - (q0 / (2147483648 : Int64)) * (2147483648 : Int64))), .second, .val (.long (((p1.toInt64) &&& (4294967295 : Int64)) - (((p1.toInt64) &&& (4294967295 : Int64)) / (2147483648 : Int64)) * (2147483648 : Int64))), .second, .unset, .unset, .unset, .unset] [])) rfl (hb hby d2_18) _ ?_
    show Steps p.tables e below (s₁.setTop (mkF m 21 #[.val (.long q0), .second, .val (.int p1), .val (.long (q0 - (q0 / (2147483648 : Int64)) * (2147483648 : Int64))), .second, .val (.long (((p1.toInt64) &&& (4294967295 : Int64)) - (((p1.toInt64) &&& (4294967295 : Int64)) / (2147483648 : Int64)) * (2147483648 : Int64))), .second, .unset, .unset, .unset, .unset] [(.long (1103515245 : Int64))])) _
    refine XS.lloadN X0.here hx rfl (hb hby d2_21) rfl ?_
    show Steps p.tables e below (s₁.setTop (mkF m 22 #[.val (.long q0), .second, .val (.int p1), .val (.long (q0 - (q0 / (2147483648 : Int64)) * (2147483648 : Int64))), .second, .val (.long (((p1.toInt64) &&& (4294967295 : Int64)) - (((p1.toInt64) &&& (4294967295 : Int64)) / (2147483648 : Int64)) * (2147483648 : Int64))), .second, .unset, .unset, .unset, .unset] [(.long (q0 - (q0 / (2147483648 : Int64)) * (2147483648 : Int64))), (.long (1103515245 : Int64))])) _
    refine XS.lmul X0.here hx rfl (hb hby d2_22) rfl ?_
    show Steps p.tables e below (s₁.setTop (mkF m 23 #[.val (.long q0), .second, .val (.int p1), .val (.long (q0 - (q0 / (2147483648 : Int64)) * (2147483648 : Int64))), .second, .val (.long (((p1.toInt64) &&& (4294967295 : Int64)) - (((p1.toInt64) &&& (4294967295 : Int64)) / (2147483648 : Int64)) * (2147483648 : Int64))), .second, .unset, .unset, .unset, .unset] [(.long ((1103515245 : Int64) * (q0 - (q0 / (2147483648 : Int64)) * (2147483648 : Int64))))])) _
    refine X0.ldc2Long hx hown (mvT hZ (hw _ (List.mem_of_getElem? (i := 13) rfl))) (g := (mkF m 23 #[.val (.long q0), .second, .val (.int p1), .val (.long (q0 - (q0 / (2147483648 : Int64)) * (2147483648 : Int64))), .second, .val (.long (((p1.toInt64) &&& (4294967295 : Int64)) - (((p1.toInt64) &&& (4294967295 : Int64)) / (2147483648 : Int64)) * (2147483648 : Int64))), .second, .unset, .unset, .unset, .unset] [(.long ((1103515245 : Int64) * (q0 - (q0 / (2147483648 : Int64)) * (2147483648 : Int64))))])) rfl (hb hby d2_23) _ ?_
    show Steps p.tables e below (s₁.setTop (mkF m 26 #[.val (.long q0), .second, .val (.int p1), .val (.long (q0 - (q0 / (2147483648 : Int64)) * (2147483648 : Int64))), .second, .val (.long (((p1.toInt64) &&& (4294967295 : Int64)) - (((p1.toInt64) &&& (4294967295 : Int64)) / (2147483648 : Int64)) * (2147483648 : Int64))), .second, .unset, .unset, .unset, .unset] [(.long (12345 : Int64)), (.long ((1103515245 : Int64) * (q0 - (q0 / (2147483648 : Int64)) * (2147483648 : Int64))))])) _
    refine XS.ladd X0.here hx rfl (hb hby d2_26) rfl ?_
    show Steps p.tables e below (s₁.setTop (mkF m 27 #[.val (.long q0), .second, .val (.int p1), .val (.long (q0 - (q0 / (2147483648 : Int64)) * (2147483648 : Int64))), .second, .val (.long (((p1.toInt64) &&& (4294967295 : Int64)) - (((p1.toInt64) &&& (4294967295 : Int64)) / (2147483648 : Int64)) * (2147483648 : Int64))), .second, .unset, .unset, .unset, .unset] [(.long (((1103515245 : Int64) * (q0 - (q0 / (2147483648 : Int64)) * (2147483648 : Int64))) + (12345 : Int64)))])) _
    refine X0.ldc2Long hx hown (mvT hZ (hw _ (List.mem_of_getElem? (i := 11) rfl))) (g := (mkF m 27 #[.val (.long q0), .second, .val (.int p1), .val (.long (q0 - (q0 / (2147483648 : Int64)) * (2147483648 : Int64))), .second, .val (.long (((p1.toInt64) &&& (4294967295 : Int64)) - (((p1.toInt64) &&& (4294967295 : Int64)) / (2147483648 : Int64)) * (2147483648 : Int64))), .second, .unset, .unset, .unset, .unset] [(.long (((1103515245 : Int64) * (q0 - (q0 / (2147483648 : Int64)) * (2147483648 : Int64))) + (12345 : Int64)))])) rfl (hb hby d2_27) _ ?_
    show Steps p.tables e below (s₁.setTop (mkF m 30 #[.val (.long q0), .second, .val (.int p1), .val (.long (q0 - (q0 / (2147483648 : Int64)) * (2147483648 : Int64))), .second, .val (.long (((p1.toInt64) &&& (4294967295 : Int64)) - (((p1.toInt64) &&& (4294967295 : Int64)) / (2147483648 : Int64)) * (2147483648 : Int64))), .second, .unset, .unset, .unset, .unset] [(.long (2147483648 : Int64)), (.long (((1103515245 : Int64) * (q0 - (q0 / (2147483648 : Int64)) * (2147483648 : Int64))) + (12345 : Int64)))])) _
    refine XS.lrem X0.here hx rfl (hb hby d2_30) rfl (by decide) ?_
    show Steps p.tables e below (s₁.setTop (mkF m 31 #[.val (.long q0), .second, .val (.int p1), .val (.long (q0 - (q0 / (2147483648 : Int64)) * (2147483648 : Int64))), .second, .val (.long (((p1.toInt64) &&& (4294967295 : Int64)) - (((p1.toInt64) &&& (4294967295 : Int64)) / (2147483648 : Int64)) * (2147483648 : Int64))), .second, .unset, .unset, .unset, .unset] [(.long ((((1103515245 : Int64) * (q0 - (q0 / (2147483648 : Int64)) * (2147483648 : Int64))) + (12345 : Int64)) - ((((1103515245 : Int64) * (q0 - (q0 / (2147483648 : Int64)) * (2147483648 : Int64))) + (12345 : Int64)) / (2147483648 : Int64)) * (2147483648 : Int64)))])) _
    refine XS.lstore X0.here hx rfl (hb hby d2_31) rfl (l' := #[.val (.long q0), .second, .val (.int p1), .val (.long (q0 - (q0 / (2147483648 : Int64)) * (2147483648 : Int64))), .second, .val (.long (((p1.toInt64) &&& (4294967295 : Int64)) - (((p1.toInt64) &&& (4294967295 : Int64)) / (2147483648 : Int64)) * (2147483648 : Int64))), .second, .val (.long ((((1103515245 : Int64) * (q0 - (q0 / (2147483648 : Int64)) * (2147483648 : Int64))) + (12345 : Int64)) - ((((1103515245 : Int64) * (q0 - (q0 / (2147483648 : Int64)) * (2147483648 : Int64))) + (12345 : Int64)) / (2147483648 : Int64)) * (2147483648 : Int64))), .second, .unset, .unset]) rfl ?_
    show Steps p.tables e below (s₁.setTop (mkF m 33 #[.val (.long q0), .second, .val (.int p1), .val (.long (q0 - (q0 / (2147483648 : Int64)) * (2147483648 : Int64))), .second, .val (.long (((p1.toInt64) &&& (4294967295 : Int64)) - (((p1.toInt64) &&& (4294967295 : Int64)) / (2147483648 : Int64)) * (2147483648 : Int64))), .second, .val (.long ((((1103515245 : Int64) * (q0 - (q0 / (2147483648 : Int64)) * (2147483648 : Int64))) + (12345 : Int64)) - ((((1103515245 : Int64) * (q0 - (q0 / (2147483648 : Int64)) * (2147483648 : Int64))) + (12345 : Int64)) / (2147483648 : Int64)) * (2147483648 : Int64))), .second, .unset, .unset] [])) _
    refine XS.lload X0.here hx rfl (hb hby d2_33) rfl ?_
    show Steps p.tables e below (s₁.setTop (mkF m 35 #[.val (.long q0), .second, .val (.int p1), .val (.long (q0 - (q0 / (2147483648 : Int64)) * (2147483648 : Int64))), .second, .val (.long (((p1.toInt64) &&& (4294967295 : Int64)) - (((p1.toInt64) &&& (4294967295 : Int64)) / (2147483648 : Int64)) * (2147483648 : Int64))), .second, .val (.long ((((1103515245 : Int64) * (q0 - (q0 / (2147483648 : Int64)) * (2147483648 : Int64))) + (12345 : Int64)) - ((((1103515245 : Int64) * (q0 - (q0 / (2147483648 : Int64)) * (2147483648 : Int64))) + (12345 : Int64)) / (2147483648 : Int64)) * (2147483648 : Int64))), .second, .unset, .unset] [(.long ((((1103515245 : Int64) * (q0 - (q0 / (2147483648 : Int64)) * (2147483648 : Int64))) + (12345 : Int64)) - ((((1103515245 : Int64) * (q0 - (q0 / (2147483648 : Int64)) * (2147483648 : Int64))) + (12345 : Int64)) / (2147483648 : Int64)) * (2147483648 : Int64)))])) _
    refine XS.lload X0.here hx rfl (hb hby d2_35) rfl ?_
    show Steps p.tables e below (s₁.setTop (mkF m 37 #[.val (.long q0), .second, .val (.int p1), .val (.long (q0 - (q0 / (2147483648 : Int64)) * (2147483648 : Int64))), .second, .val (.long (((p1.toInt64) &&& (4294967295 : Int64)) - (((p1.toInt64) &&& (4294967295 : Int64)) / (2147483648 : Int64)) * (2147483648 : Int64))), .second, .val (.long ((((1103515245 : Int64) * (q0 - (q0 / (2147483648 : Int64)) * (2147483648 : Int64))) + (12345 : Int64)) - ((((1103515245 : Int64) * (q0 - (q0 / (2147483648 : Int64)) * (2147483648 : Int64))) + (12345 : Int64)) / (2147483648 : Int64)) * (2147483648 : Int64))), .second, .unset, .unset] [(.long (((p1.toInt64) &&& (4294967295 : Int64)) - (((p1.toInt64) &&& (4294967295 : Int64)) / (2147483648 : Int64)) * (2147483648 : Int64))), (.long ((((1103515245 : Int64) * (q0 - (q0 / (2147483648 : Int64)) * (2147483648 : Int64))) + (12345 : Int64)) - ((((1103515245 : Int64) * (q0 - (q0 / (2147483648 : Int64)) * (2147483648 : Int64))) + (12345 : Int64)) / (2147483648 : Int64)) * (2147483648 : Int64)))])) _
    refine XS.lxor X0.here hx rfl (hb hby d2_37) rfl ?_
    show Steps p.tables e below (s₁.setTop (mkF m 38 #[.val (.long q0), .second, .val (.int p1), .val (.long (q0 - (q0 / (2147483648 : Int64)) * (2147483648 : Int64))), .second, .val (.long (((p1.toInt64) &&& (4294967295 : Int64)) - (((p1.toInt64) &&& (4294967295 : Int64)) / (2147483648 : Int64)) * (2147483648 : Int64))), .second, .val (.long ((((1103515245 : Int64) * (q0 - (q0 / (2147483648 : Int64)) * (2147483648 : Int64))) + (12345 : Int64)) - ((((1103515245 : Int64) * (q0 - (q0 / (2147483648 : Int64)) * (2147483648 : Int64))) + (12345 : Int64)) / (2147483648 : Int64)) * (2147483648 : Int64))), .second, .unset, .unset] [(.long (((((1103515245 : Int64) * (q0 - (q0 / (2147483648 : Int64)) * (2147483648 : Int64))) + (12345 : Int64)) - ((((1103515245 : Int64) * (q0 - (q0 / (2147483648 : Int64)) * (2147483648 : Int64))) + (12345 : Int64)) / (2147483648 : Int64)) * (2147483648 : Int64)) ^^^ (((p1.toInt64) &&& (4294967295 : Int64)) - (((p1.toInt64) &&& (4294967295 : Int64)) / (2147483648 : Int64)) * (2147483648 : Int64))))])) _
    refine XS.lstore X0.here hx rfl (hb hby d2_38) rfl (l' := #[.val (.long q0), .second, .val (.int p1), .val (.long (q0 - (q0 / (2147483648 : Int64)) * (2147483648 : Int64))), .second, .val (.long (((p1.toInt64) &&& (4294967295 : Int64)) - (((p1.toInt64) &&& (4294967295 : Int64)) / (2147483648 : Int64)) * (2147483648 : Int64))), .second, .val (.long ((((1103515245 : Int64) * (q0 - (q0 / (2147483648 : Int64)) * (2147483648 : Int64))) + (12345 : Int64)) - ((((1103515245 : Int64) * (q0 - (q0 / (2147483648 : Int64)) * (2147483648 : Int64))) + (12345 : Int64)) / (2147483648 : Int64)) * (2147483648 : Int64))), .second, .val (.long (((((1103515245 : Int64) * (q0 - (q0 / (2147483648 : Int64)) * (2147483648 : Int64))) + (12345 : Int64)) - ((((1103515245 : Int64) * (q0 - (q0 / (2147483648 : Int64)) * (2147483648 : Int64))) + (12345 : Int64)) / (2147483648 : Int64)) * (2147483648 : Int64)) ^^^ (((p1.toInt64) &&& (4294967295 : Int64)) - (((p1.toInt64) &&& (4294967295 : Int64)) / (2147483648 : Int64)) * (2147483648 : Int64)))), .second]) rfl ?_
    show Steps p.tables e below (s₁.setTop (mkF m 40 #[.val (.long q0), .second, .val (.int p1), .val (.long (q0 - (q0 / (2147483648 : Int64)) * (2147483648 : Int64))), .second, .val (.long (((p1.toInt64) &&& (4294967295 : Int64)) - (((p1.toInt64) &&& (4294967295 : Int64)) / (2147483648 : Int64)) * (2147483648 : Int64))), .second, .val (.long ((((1103515245 : Int64) * (q0 - (q0 / (2147483648 : Int64)) * (2147483648 : Int64))) + (12345 : Int64)) - ((((1103515245 : Int64) * (q0 - (q0 / (2147483648 : Int64)) * (2147483648 : Int64))) + (12345 : Int64)) / (2147483648 : Int64)) * (2147483648 : Int64))), .second, .val (.long (((((1103515245 : Int64) * (q0 - (q0 / (2147483648 : Int64)) * (2147483648 : Int64))) + (12345 : Int64)) - ((((1103515245 : Int64) * (q0 - (q0 / (2147483648 : Int64)) * (2147483648 : Int64))) + (12345 : Int64)) / (2147483648 : Int64)) * (2147483648 : Int64)) ^^^ (((p1.toInt64) &&& (4294967295 : Int64)) - (((p1.toInt64) &&& (4294967295 : Int64)) / (2147483648 : Int64)) * (2147483648 : Int64)))), .second] [])) _
    refine X0.ldc2Long hx hown (mvT hZ (hw _ (List.mem_of_getElem? (i := 12) rfl))) (g := (mkF m 40 #[.val (.long q0), .second, .val (.int p1), .val (.long (q0 - (q0 / (2147483648 : Int64)) * (2147483648 : Int64))), .second, .val (.long (((p1.toInt64) &&& (4294967295 : Int64)) - (((p1.toInt64) &&& (4294967295 : Int64)) / (2147483648 : Int64)) * (2147483648 : Int64))), .second, .val (.long ((((1103515245 : Int64) * (q0 - (q0 / (2147483648 : Int64)) * (2147483648 : Int64))) + (12345 : Int64)) - ((((1103515245 : Int64) * (q0 - (q0 / (2147483648 : Int64)) * (2147483648 : Int64))) + (12345 : Int64)) / (2147483648 : Int64)) * (2147483648 : Int64))), .second, .val (.long (((((1103515245 : Int64) * (q0 - (q0 / (2147483648 : Int64)) * (2147483648 : Int64))) + (12345 : Int64)) - ((((1103515245 : Int64) * (q0 - (q0 / (2147483648 : Int64)) * (2147483648 : Int64))) + (12345 : Int64)) / (2147483648 : Int64)) * (2147483648 : Int64)) ^^^ (((p1.toInt64) &&& (4294967295 : Int64)) - (((p1.toInt64) &&& (4294967295 : Int64)) / (2147483648 : Int64)) * (2147483648 : Int64)))), .second] [])) rfl (hb hby d2_40) _ ?_
    show Steps p.tables e below (s₁.setTop (mkF m 43 #[.val (.long q0), .second, .val (.int p1), .val (.long (q0 - (q0 / (2147483648 : Int64)) * (2147483648 : Int64))), .second, .val (.long (((p1.toInt64) &&& (4294967295 : Int64)) - (((p1.toInt64) &&& (4294967295 : Int64)) / (2147483648 : Int64)) * (2147483648 : Int64))), .second, .val (.long ((((1103515245 : Int64) * (q0 - (q0 / (2147483648 : Int64)) * (2147483648 : Int64))) + (12345 : Int64)) - ((((1103515245 : Int64) * (q0 - (q0 / (2147483648 : Int64)) * (2147483648 : Int64))) + (12345 : Int64)) / (2147483648 : Int64)) * (2147483648 : Int64))), .second, .val (.long (((((1103515245 : Int64) * (q0 - (q0 / (2147483648 : Int64)) * (2147483648 : Int64))) + (12345 : Int64)) - ((((1103515245 : Int64) * (q0 - (q0 / (2147483648 : Int64)) * (2147483648 : Int64))) + (12345 : Int64)) / (2147483648 : Int64)) * (2147483648 : Int64)) ^^^ (((p1.toInt64) &&& (4294967295 : Int64)) - (((p1.toInt64) &&& (4294967295 : Int64)) / (2147483648 : Int64)) * (2147483648 : Int64)))), .second] [(.long (1103515245 : Int64))])) _
    refine XS.lload X0.here hx rfl (hb hby d2_43) rfl ?_
    show Steps p.tables e below (s₁.setTop (mkF m 45 #[.val (.long q0), .second, .val (.int p1), .val (.long (q0 - (q0 / (2147483648 : Int64)) * (2147483648 : Int64))), .second, .val (.long (((p1.toInt64) &&& (4294967295 : Int64)) - (((p1.toInt64) &&& (4294967295 : Int64)) / (2147483648 : Int64)) * (2147483648 : Int64))), .second, .val (.long ((((1103515245 : Int64) * (q0 - (q0 / (2147483648 : Int64)) * (2147483648 : Int64))) + (12345 : Int64)) - ((((1103515245 : Int64) * (q0 - (q0 / (2147483648 : Int64)) * (2147483648 : Int64))) + (12345 : Int64)) / (2147483648 : Int64)) * (2147483648 : Int64))), .second, .val (.long (((((1103515245 : Int64) * (q0 - (q0 / (2147483648 : Int64)) * (2147483648 : Int64))) + (12345 : Int64)) - ((((1103515245 : Int64) * (q0 - (q0 / (2147483648 : Int64)) * (2147483648 : Int64))) + (12345 : Int64)) / (2147483648 : Int64)) * (2147483648 : Int64)) ^^^ (((p1.toInt64) &&& (4294967295 : Int64)) - (((p1.toInt64) &&& (4294967295 : Int64)) / (2147483648 : Int64)) * (2147483648 : Int64)))), .second] [(.long (((((1103515245 : Int64) * (q0 - (q0 / (2147483648 : Int64)) * (2147483648 : Int64))) + (12345 : Int64)) - ((((1103515245 : Int64) * (q0 - (q0 / (2147483648 : Int64)) * (2147483648 : Int64))) + (12345 : Int64)) / (2147483648 : Int64)) * (2147483648 : Int64)) ^^^ (((p1.toInt64) &&& (4294967295 : Int64)) - (((p1.toInt64) &&& (4294967295 : Int64)) / (2147483648 : Int64)) * (2147483648 : Int64)))), (.long (1103515245 : Int64))])) _
    refine XS.lmul X0.here hx rfl (hb hby d2_45) rfl ?_
    show Steps p.tables e below (s₁.setTop (mkF m 46 #[.val (.long q0), .second, .val (.int p1), .val (.long (q0 - (q0 / (2147483648 : Int64)) * (2147483648 : Int64))), .second, .val (.long (((p1.toInt64) &&& (4294967295 : Int64)) - (((p1.toInt64) &&& (4294967295 : Int64)) / (2147483648 : Int64)) * (2147483648 : Int64))), .second, .val (.long ((((1103515245 : Int64) * (q0 - (q0 / (2147483648 : Int64)) * (2147483648 : Int64))) + (12345 : Int64)) - ((((1103515245 : Int64) * (q0 - (q0 / (2147483648 : Int64)) * (2147483648 : Int64))) + (12345 : Int64)) / (2147483648 : Int64)) * (2147483648 : Int64))), .second, .val (.long (((((1103515245 : Int64) * (q0 - (q0 / (2147483648 : Int64)) * (2147483648 : Int64))) + (12345 : Int64)) - ((((1103515245 : Int64) * (q0 - (q0 / (2147483648 : Int64)) * (2147483648 : Int64))) + (12345 : Int64)) / (2147483648 : Int64)) * (2147483648 : Int64)) ^^^ (((p1.toInt64) &&& (4294967295 : Int64)) - (((p1.toInt64) &&& (4294967295 : Int64)) / (2147483648 : Int64)) * (2147483648 : Int64)))), .second] [(.long ((1103515245 : Int64) * (((((1103515245 : Int64) * (q0 - (q0 / (2147483648 : Int64)) * (2147483648 : Int64))) + (12345 : Int64)) - ((((1103515245 : Int64) * (q0 - (q0 / (2147483648 : Int64)) * (2147483648 : Int64))) + (12345 : Int64)) / (2147483648 : Int64)) * (2147483648 : Int64)) ^^^ (((p1.toInt64) &&& (4294967295 : Int64)) - (((p1.toInt64) &&& (4294967295 : Int64)) / (2147483648 : Int64)) * (2147483648 : Int64)))))])) _
    refine X0.ldc2Long hx hown (mvT hZ (hw _ (List.mem_of_getElem? (i := 13) rfl))) (g := (mkF m 46 #[.val (.long q0), .second, .val (.int p1), .val (.long (q0 - (q0 / (2147483648 : Int64)) * (2147483648 : Int64))), .second, .val (.long (((p1.toInt64) &&& (4294967295 : Int64)) - (((p1.toInt64) &&& (4294967295 : Int64)) / (2147483648 : Int64)) * (2147483648 : Int64))), .second, .val (.long ((((1103515245 : Int64) * (q0 - (q0 / (2147483648 : Int64)) * (2147483648 : Int64))) + (12345 : Int64)) - ((((1103515245 : Int64) * (q0 - (q0 / (2147483648 : Int64)) * (2147483648 : Int64))) + (12345 : Int64)) / (2147483648 : Int64)) * (2147483648 : Int64))), .second, .val (.long (((((1103515245 : Int64) * (q0 - (q0 / (2147483648 : Int64)) * (2147483648 : Int64))) + (12345 : Int64)) - ((((1103515245 : Int64) * (q0 - (q0 / (2147483648 : Int64)) * (2147483648 : Int64))) + (12345 : Int64)) / (2147483648 : Int64)) * (2147483648 : Int64)) ^^^ (((p1.toInt64) &&& (4294967295 : Int64)) - (((p1.toInt64) &&& (4294967295 : Int64)) / (2147483648 : Int64)) * (2147483648 : Int64)))), .second] [(.long ((1103515245 : Int64) * (((((1103515245 : Int64) * (q0 - (q0 / (2147483648 : Int64)) * (2147483648 : Int64))) + (12345 : Int64)) - ((((1103515245 : Int64) * (q0 - (q0 / (2147483648 : Int64)) * (2147483648 : Int64))) + (12345 : Int64)) / (2147483648 : Int64)) * (2147483648 : Int64)) ^^^ (((p1.toInt64) &&& (4294967295 : Int64)) - (((p1.toInt64) &&& (4294967295 : Int64)) / (2147483648 : Int64)) * (2147483648 : Int64)))))])) rfl (hb hby d2_46) _ ?_
    show Steps p.tables e below (s₁.setTop (mkF m 49 #[.val (.long q0), .second, .val (.int p1), .val (.long (q0 - (q0 / (2147483648 : Int64)) * (2147483648 : Int64))), .second, .val (.long (((p1.toInt64) &&& (4294967295 : Int64)) - (((p1.toInt64) &&& (4294967295 : Int64)) / (2147483648 : Int64)) * (2147483648 : Int64))), .second, .val (.long ((((1103515245 : Int64) * (q0 - (q0 / (2147483648 : Int64)) * (2147483648 : Int64))) + (12345 : Int64)) - ((((1103515245 : Int64) * (q0 - (q0 / (2147483648 : Int64)) * (2147483648 : Int64))) + (12345 : Int64)) / (2147483648 : Int64)) * (2147483648 : Int64))), .second, .val (.long (((((1103515245 : Int64) * (q0 - (q0 / (2147483648 : Int64)) * (2147483648 : Int64))) + (12345 : Int64)) - ((((1103515245 : Int64) * (q0 - (q0 / (2147483648 : Int64)) * (2147483648 : Int64))) + (12345 : Int64)) / (2147483648 : Int64)) * (2147483648 : Int64)) ^^^ (((p1.toInt64) &&& (4294967295 : Int64)) - (((p1.toInt64) &&& (4294967295 : Int64)) / (2147483648 : Int64)) * (2147483648 : Int64)))), .second] [(.long (12345 : Int64)), (.long ((1103515245 : Int64) * (((((1103515245 : Int64) * (q0 - (q0 / (2147483648 : Int64)) * (2147483648 : Int64))) + (12345 : Int64)) - ((((1103515245 : Int64) * (q0 - (q0 / (2147483648 : Int64)) * (2147483648 : Int64))) + (12345 : Int64)) / (2147483648 : Int64)) * (2147483648 : Int64)) ^^^ (((p1.toInt64) &&& (4294967295 : Int64)) - (((p1.toInt64) &&& (4294967295 : Int64)) / (2147483648 : Int64)) * (2147483648 : Int64)))))])) _
    refine XS.ladd X0.here hx rfl (hb hby d2_49) rfl ?_
    show Steps p.tables e below (s₁.setTop (mkF m 50 #[.val (.long q0), .second, .val (.int p1), .val (.long (q0 - (q0 / (2147483648 : Int64)) * (2147483648 : Int64))), .second, .val (.long (((p1.toInt64) &&& (4294967295 : Int64)) - (((p1.toInt64) &&& (4294967295 : Int64)) / (2147483648 : Int64)) * (2147483648 : Int64))), .second, .val (.long ((((1103515245 : Int64) * (q0 - (q0 / (2147483648 : Int64)) * (2147483648 : Int64))) + (12345 : Int64)) - ((((1103515245 : Int64) * (q0 - (q0 / (2147483648 : Int64)) * (2147483648 : Int64))) + (12345 : Int64)) / (2147483648 : Int64)) * (2147483648 : Int64))), .second, .val (.long (((((1103515245 : Int64) * (q0 - (q0 / (2147483648 : Int64)) * (2147483648 : Int64))) + (12345 : Int64)) - ((((1103515245 : Int64) * (q0 - (q0 / (2147483648 : Int64)) * (2147483648 : Int64))) + (12345 : Int64)) / (2147483648 : Int64)) * (2147483648 : Int64)) ^^^ (((p1.toInt64) &&& (4294967295 : Int64)) - (((p1.toInt64) &&& (4294967295 : Int64)) / (2147483648 : Int64)) * (2147483648 : Int64)))), .second] [(.long (((1103515245 : Int64) * (((((1103515245 : Int64) * (q0 - (q0 / (2147483648 : Int64)) * (2147483648 : Int64))) + (12345 : Int64)) - ((((1103515245 : Int64) * (q0 - (q0 / (2147483648 : Int64)) * (2147483648 : Int64))) + (12345 : Int64)) / (2147483648 : Int64)) * (2147483648 : Int64)) ^^^ (((p1.toInt64) &&& (4294967295 : Int64)) - (((p1.toInt64) &&& (4294967295 : Int64)) / (2147483648 : Int64)) * (2147483648 : Int64)))) + (12345 : Int64)))])) _
    refine X0.ldc2Long hx hown (mvT hZ (hw _ (List.mem_of_getElem? (i := 11) rfl))) (g := (mkF m 50 #[.val (.long q0), .second, .val (.int p1), .val (.long (q0 - (q0 / (2147483648 : Int64)) * (2147483648 : Int64))), .second, .val (.long (((p1.toInt64) &&& (4294967295 : Int64)) - (((p1.toInt64) &&& (4294967295 : Int64)) / (2147483648 : Int64)) * (2147483648 : Int64))), .second, .val (.long ((((1103515245 : Int64) * (q0 - (q0 / (2147483648 : Int64)) * (2147483648 : Int64))) + (12345 : Int64)) - ((((1103515245 : Int64) * (q0 - (q0 / (2147483648 : Int64)) * (2147483648 : Int64))) + (12345 : Int64)) / (2147483648 : Int64)) * (2147483648 : Int64))), .second, .val (.long (((((1103515245 : Int64) * (q0 - (q0 / (2147483648 : Int64)) * (2147483648 : Int64))) + (12345 : Int64)) - ((((1103515245 : Int64) * (q0 - (q0 / (2147483648 : Int64)) * (2147483648 : Int64))) + (12345 : Int64)) / (2147483648 : Int64)) * (2147483648 : Int64)) ^^^ (((p1.toInt64) &&& (4294967295 : Int64)) - (((p1.toInt64) &&& (4294967295 : Int64)) / (2147483648 : Int64)) * (2147483648 : Int64)))), .second] [(.long (((1103515245 : Int64) * (((((1103515245 : Int64) * (q0 - (q0 / (2147483648 : Int64)) * (2147483648 : Int64))) + (12345 : Int64)) - ((((1103515245 : Int64) * (q0 - (q0 / (2147483648 : Int64)) * (2147483648 : Int64))) + (12345 : Int64)) / (2147483648 : Int64)) * (2147483648 : Int64)) ^^^ (((p1.toInt64) &&& (4294967295 : Int64)) - (((p1.toInt64) &&& (4294967295 : Int64)) / (2147483648 : Int64)) * (2147483648 : Int64)))) + (12345 : Int64)))])) rfl (hb hby d2_50) _ ?_
    show Steps p.tables e below (s₁.setTop (mkF m 53 #[.val (.long q0), .second, .val (.int p1), .val (.long (q0 - (q0 / (2147483648 : Int64)) * (2147483648 : Int64))), .second, .val (.long (((p1.toInt64) &&& (4294967295 : Int64)) - (((p1.toInt64) &&& (4294967295 : Int64)) / (2147483648 : Int64)) * (2147483648 : Int64))), .second, .val (.long ((((1103515245 : Int64) * (q0 - (q0 / (2147483648 : Int64)) * (2147483648 : Int64))) + (12345 : Int64)) - ((((1103515245 : Int64) * (q0 - (q0 / (2147483648 : Int64)) * (2147483648 : Int64))) + (12345 : Int64)) / (2147483648 : Int64)) * (2147483648 : Int64))), .second, .val (.long (((((1103515245 : Int64) * (q0 - (q0 / (2147483648 : Int64)) * (2147483648 : Int64))) + (12345 : Int64)) - ((((1103515245 : Int64) * (q0 - (q0 / (2147483648 : Int64)) * (2147483648 : Int64))) + (12345 : Int64)) / (2147483648 : Int64)) * (2147483648 : Int64)) ^^^ (((p1.toInt64) &&& (4294967295 : Int64)) - (((p1.toInt64) &&& (4294967295 : Int64)) / (2147483648 : Int64)) * (2147483648 : Int64)))), .second] [(.long (2147483648 : Int64)), (.long (((1103515245 : Int64) * (((((1103515245 : Int64) * (q0 - (q0 / (2147483648 : Int64)) * (2147483648 : Int64))) + (12345 : Int64)) - ((((1103515245 : Int64) * (q0 - (q0 / (2147483648 : Int64)) * (2147483648 : Int64))) + (12345 : Int64)) / (2147483648 : Int64)) * (2147483648 : Int64)) ^^^ (((p1.toInt64) &&& (4294967295 : Int64)) - (((p1.toInt64) &&& (4294967295 : Int64)) / (2147483648 : Int64)) * (2147483648 : Int64)))) + (12345 : Int64)))])) _
    refine XS.lrem X0.here hx rfl (hb hby d2_53) rfl (by decide) ?_
    show Steps p.tables e below (s₁.setTop (mkF m 54 #[.val (.long q0), .second, .val (.int p1), .val (.long (q0 - (q0 / (2147483648 : Int64)) * (2147483648 : Int64))), .second, .val (.long (((p1.toInt64) &&& (4294967295 : Int64)) - (((p1.toInt64) &&& (4294967295 : Int64)) / (2147483648 : Int64)) * (2147483648 : Int64))), .second, .val (.long ((((1103515245 : Int64) * (q0 - (q0 / (2147483648 : Int64)) * (2147483648 : Int64))) + (12345 : Int64)) - ((((1103515245 : Int64) * (q0 - (q0 / (2147483648 : Int64)) * (2147483648 : Int64))) + (12345 : Int64)) / (2147483648 : Int64)) * (2147483648 : Int64))), .second, .val (.long (((((1103515245 : Int64) * (q0 - (q0 / (2147483648 : Int64)) * (2147483648 : Int64))) + (12345 : Int64)) - ((((1103515245 : Int64) * (q0 - (q0 / (2147483648 : Int64)) * (2147483648 : Int64))) + (12345 : Int64)) / (2147483648 : Int64)) * (2147483648 : Int64)) ^^^ (((p1.toInt64) &&& (4294967295 : Int64)) - (((p1.toInt64) &&& (4294967295 : Int64)) / (2147483648 : Int64)) * (2147483648 : Int64)))), .second] [(.long ((((1103515245 : Int64) * (((((1103515245 : Int64) * (q0 - (q0 / (2147483648 : Int64)) * (2147483648 : Int64))) + (12345 : Int64)) - ((((1103515245 : Int64) * (q0 - (q0 / (2147483648 : Int64)) * (2147483648 : Int64))) + (12345 : Int64)) / (2147483648 : Int64)) * (2147483648 : Int64)) ^^^ (((p1.toInt64) &&& (4294967295 : Int64)) - (((p1.toInt64) &&& (4294967295 : Int64)) / (2147483648 : Int64)) * (2147483648 : Int64)))) + (12345 : Int64)) - ((((1103515245 : Int64) * (((((1103515245 : Int64) * (q0 - (q0 / (2147483648 : Int64)) * (2147483648 : Int64))) + (12345 : Int64)) - ((((1103515245 : Int64) * (q0 - (q0 / (2147483648 : Int64)) * (2147483648 : Int64))) + (12345 : Int64)) / (2147483648 : Int64)) * (2147483648 : Int64)) ^^^ (((p1.toInt64) &&& (4294967295 : Int64)) - (((p1.toInt64) &&& (4294967295 : Int64)) / (2147483648 : Int64)) * (2147483648 : Int64)))) + (12345 : Int64)) / (2147483648 : Int64)) * (2147483648 : Int64)))])) _
    exact X0.lreturnOut hx Bd.returns (hb hby d2_54) hr
  · show Q2 Z q0 p1 h0 n0 _ s₁.heap _
    rw [e0]
    exact ⟨rfl, N0, rfl⟩
theorem ef_0 (m : MethodId) (x0 : Int64) (x1 : Int32) : entryFrame m #[(.long x0), (.int x1)] maxLocals = mkF m 0 #[.val (.long x0), .second, .val (.int x1), .unset, .unset, .unset, .unset, .unset, .unset] [] := by first | (simp [entryFrame, mkF, argsToLocals, Value.category, maxLocals]; done) | rfl
theorem pd_28JI29I : parseMethodDescriptor "(JI)I" = some ⟨[.long, .int], some .int⟩ := by decide +kernel
theorem pd_28JI29J : parseMethodDescriptor "(JI)J" = some ⟨[.long, .int], some .long⟩ := by decide +kernel
def Q0 (Z : State) (q0 : Int64) (p1 : Int32) (h0 : Heap) (n0 : Nat) (v : Option Value) (h : Heap) (L : List Loc) : Prop := v = some (.int 1) ∧ Fr n0 L
set_option maxRecDepth 65536 in
set_option maxHeartbeats 40000000 in
theorem rm0 (l : Launch) (Z : State) (a0 : Array Value) (hw : ∀ d ∈ tables_1, d.before a0 Z = true) (ws : List Jvm.Cond) (q0 : Int64) (p1 : Int32) (h0 : Heap) (n0 : Nat) (Z0 : n0 ≤ h0.size)  :
    MetFree l x (head1 (Jvm.Cond.code x code maxLocals ret :: ws) room_1) (fun a U => a = #[(.long q0), (.int p1)] ∧ Z.Warmed39 U.vm ∧ U.heap = h0) (fun _ _ _ _ _ => True) (fun _ U o U' => ∃ v L, o = .returned v ∧ Q0 Z q0 p1 h0 n0 v U'.heap L ∧ FrameEnd U o U' L room_1.cells room_1.slots) := by
  refine MetFree.of_bodySF (plainFor_of_name pn_com_example_sockeye_sockeye_WrandWeightPinLaw) hisR ?_
  intro p e s m args below meth c s₁ Bd hml0 hP hK
  obtain ⟨rfl, hZ, hh⟩ := hP
  have hx := Bd.exec
  have hby := Bd.bytes
  have hml : c.maxLocals = 9 := hml0
  have hown : s.vm.findClass "com/example/sockeye/sockeye/WrandWeightPinLaw" = some m.cls := findClass_of_methodNamed Bd.named
  have hnm := (name_of_methodNamed Bd.named Bd.method).1
  have X0 : Stand p l e room_1 s m #[(.long q0), (.int p1)] below meth c s₁ [] 0 0 := Stand.of_body Bd
  have e0 : s₁.heap = h0 := by rw [← hh, Bd.state]; rfl
  have N0 := Fr.nil n0
  have pre0 : ∀ t, Steps p.tables e below (s₁.setTop (mkF m 0 #[.val (.long q0), .second, .val (.int p1), .unset, .unset, .unset, .unset, .unset, .unset] [])) t → Steps p.tables e below (s₁.setTop (entryFrame m #[(.long q0), (.int p1)] maxLocals)) t := fun t k => castTop (ef_0 m q0 p1) k
  obtain ⟨_, _, ⟨T1, L1, k1, n1⟩, -, X1, ⟨Lc1, hQ1, l1, y1, z1⟩, st1⟩ := Jvm.LawKit.callS X0 hx (y := (⟨"com/example/sockeye/sockeye/Wrand", "weight", "(JI)I"⟩ : MethodName)) hown (mvT hZ (hw _ (List.mem_of_getElem? (i := 1) rfl))) (mvT hZ (hw _ (List.mem_of_getElem? (i := 2) rfl))) (mvT hZ (hw _ (List.mem_of_getElem? (i := 3) rfl))) (mvT hZ (hw _ (List.mem_of_getElem? (i := 4) rfl))) (by decide) (backOf (W := 0) (rm1 l Z a0 hw [] (q0 &&& (4294967295 : Int64)) p1 h0 n0 Z0) hZ (hw _ (List.mem_of_getElem? (i := 4) rfl)) (hw _ (List.mem_of_getElem? (i := 3) rfl)) (by decide) (by decide)) (g := (mkF m 8 #[.val (.long q0), .second, .val (.int p1), .val (.long (q0 &&& (4294967295 : Int64))), .second, .unset, .unset, .unset, .unset] [(.int p1), (.long (q0 &&& (4294967295 : Int64)))])) rfl (by rw [hml]; rfl) (argsL := [(.long (q0 &&& (4294967295 : Int64))), (.int p1)]) (rest := []) (lenOf pd_28JI29I rfl) rfl (by show 2 * 0 + _ ≤ _; exact Nat.le_of_eq rfl) (hb hby at_8) (fun _ _ => ⟨rfl, e0, (by decide : 0 + 0 ≤ _), (by decide : 0 + 0 ≤ _)⟩)
  dsimp only [Pt.U, Pt.locs, Pt.cells, Pt.slots] at X1 l1 y1 z1 st1 hQ1
  subst l1 y1 z1
  obtain ⟨rfl, N1q, e1⟩ := hQ1
  have N1 := Fr.app N0 N1q
  obtain ⟨_, _, ⟨T2, L2, k2, n2⟩, -, X2, ⟨Lc2, hQ2, l2, y2, z2⟩, st2⟩ := Jvm.LawKit.callS X1 hx (y := (⟨"com/example/sockeye/sockeye/WrandWeightPinLaw", "reference", "(JI)J"⟩ : MethodName)) hown (mvT hZ (hw _ (List.mem_of_getElem? (i := 7) rfl))) (mvT hZ (hw _ (List.mem_of_getElem? (i := 8) rfl))) (mvT hZ (hw _ (List.mem_of_getElem? (i := 9) rfl))) (mvT hZ (hw _ (List.mem_of_getElem? (i := 10) rfl))) (by decide) (backOf (W := 0) (rm2 l Z a0 hw [] (q0 &&& (4294967295 : Int64)) p1 h0 n0 Z0) hZ (hw _ (List.mem_of_getElem? (i := 10) rfl)) (hw _ (List.mem_of_getElem? (i := 9) rfl)) (by decide) (by decide)) (g := (mkF m 15 #[.val (.long q0), .second, .val (.int p1), .val (.long (q0 &&& (4294967295 : Int64))), .second, .val (.int (own_w (q0 &&& (4294967295 : Int64)) p1)), .unset, .unset, .unset] [(.int p1), (.long (q0 &&& (4294967295 : Int64)))])) rfl (by rw [hml]; rfl) (argsL := [(.long (q0 &&& (4294967295 : Int64))), (.int p1)]) (rest := []) (lenOf pd_28JI29J rfl) rfl (by show 2 * 0 + _ ≤ _; exact Nat.le_of_eq rfl) (hb hby at_15) (fun _ _ => ⟨rfl, e1, (by decide : 0 + 0 ≤ _), (by decide : 0 + 0 ≤ _)⟩)
  dsimp only [Pt.U, Pt.locs, Pt.cells, Pt.slots] at X2 l2 y2 z2 st2 hQ2
  subst l2 y2 z2
  obtain ⟨rfl, N2q, e2⟩ := hQ2
  have N2 := Fr.app N1 N2q
  obtain ⟨_, _, ⟨T3, L3, k3, n3⟩, -, X3, ⟨Lc3, hQ3, l3, y3, z3⟩, st3⟩ := Jvm.LawKit.callS X2 hx (y := (⟨"com/example/sockeye/sockeye/Wrand", "weight", "(JI)I"⟩ : MethodName)) hown (mvT hZ (hw _ (List.mem_of_getElem? (i := 1) rfl))) (mvT hZ (hw _ (List.mem_of_getElem? (i := 2) rfl))) (mvT hZ (hw _ (List.mem_of_getElem? (i := 3) rfl))) (mvT hZ (hw _ (List.mem_of_getElem? (i := 4) rfl))) (by decide) (backOf (W := 0) (rm1 l Z a0 hw [] ((q0 &&& (4294967295 : Int64)) ^^^ (2147483648 : Int64)) (p1 ^^^ (-2147483648 : Int32)) h0 n0 Z0) hZ (hw _ (List.mem_of_getElem? (i := 4) rfl)) (hw _ (List.mem_of_getElem? (i := 3) rfl)) (by decide) (by decide)) (g := (mkF m 40 #[.val (.long q0), .second, .val (.int p1), .val (.long (q0 &&& (4294967295 : Int64))), .second, .val (.int (own_w (q0 &&& (4294967295 : Int64)) p1)), .val (.long (own_r (q0 &&& (4294967295 : Int64)) p1)), .second, .unset] [(.int (p1 ^^^ (-2147483648 : Int32))), (.long ((q0 &&& (4294967295 : Int64)) ^^^ (2147483648 : Int64)))])) rfl (by rw [hml]; rfl) (argsL := [(.long ((q0 &&& (4294967295 : Int64)) ^^^ (2147483648 : Int64))), (.int (p1 ^^^ (-2147483648 : Int32)))]) (rest := []) (lenOf pd_28JI29I rfl) rfl (by show 2 * 0 + _ ≤ _; exact Nat.le_of_eq rfl) (hb hby at_40) (fun _ _ => ⟨rfl, e2, (by decide : 0 + 0 ≤ _), (by decide : 0 + 0 ≤ _)⟩)
  dsimp only [Pt.U, Pt.locs, Pt.cells, Pt.slots] at X3 l3 y3 z3 st3 hQ3
  subst l3 y3 z3
  obtain ⟨rfl, N3q, e3⟩ := hQ3
  have N3 := Fr.app N2 N3q
  obtain ⟨fs, hr, hrun, hended, hW, hsame⟩ := X3.leave (v := some (.int (1 : Int32))) (fun h => by rw [Bd.returns] at h; cases h)
  refine ⟨_, _, pre0 _ ?_, hrun, hended, _, _, rfl, ?_, ⟨_, rfl⟩, hW, hsame.mono (by decide) (by decide)⟩
  · show Steps p.tables e below (s₁.setTop (mkF m 0 #[.val (.long q0), .second, .val (.int p1), .unset, .unset, .unset, .unset, .unset, .unset] [])) _
    refine XS.lloadN X0.here hx rfl (hb hby at_0) rfl ?_
    show Steps p.tables e below (s₁.setTop (mkF m 1 #[.val (.long q0), .second, .val (.int p1), .unset, .unset, .unset, .unset, .unset, .unset] [(.long q0)])) _
    refine X0.ldc2Long hx hown (mvT hZ (hw _ (List.mem_of_getElem? (i := 0) rfl))) (g := (mkF m 1 #[.val (.long q0), .second, .val (.int p1), .unset, .unset, .unset, .unset, .unset, .unset] [(.long q0)])) rfl (hb hby at_1) _ ?_
    show Steps p.tables e below (s₁.setTop (mkF m 4 #[.val (.long q0), .second, .val (.int p1), .unset, .unset, .unset, .unset, .unset, .unset] [(.long (4294967295 : Int64)), (.long q0)])) _
    refine XS.land X0.here hx rfl (hb hby at_4) rfl ?_
    show Steps p.tables e below (s₁.setTop (mkF m 5 #[.val (.long q0), .second, .val (.int p1), .unset, .unset, .unset, .unset, .unset, .unset] [(.long (q0 &&& (4294967295 : Int64)))])) _
    refine XS.lstoreN X0.here hx rfl (hb hby at_5) rfl (l' := #[.val (.long q0), .second, .val (.int p1), .val (.long (q0 &&& (4294967295 : Int64))), .second, .unset, .unset, .unset, .unset]) rfl ?_
    show Steps p.tables e below (s₁.setTop (mkF m 6 #[.val (.long q0), .second, .val (.int p1), .val (.long (q0 &&& (4294967295 : Int64))), .second, .unset, .unset, .unset, .unset] [])) _
    refine XS.lloadN X0.here hx rfl (hb hby at_6) rfl ?_
    show Steps p.tables e below (s₁.setTop (mkF m 7 #[.val (.long q0), .second, .val (.int p1), .val (.long (q0 &&& (4294967295 : Int64))), .second, .unset, .unset, .unset, .unset] [(.long (q0 &&& (4294967295 : Int64)))])) _
    refine XS.iloadN X0.here hx rfl (hb hby at_7) rfl ?_
    show Steps p.tables e below (s₁.setTop (mkF m 8 #[.val (.long q0), .second, .val (.int p1), .val (.long (q0 &&& (4294967295 : Int64))), .second, .unset, .unset, .unset, .unset] [(.int p1), (.long (q0 &&& (4294967295 : Int64)))])) _
    refine st1 _ ?_
    show Steps p.tables e below (T1.setTop (mkF m 11 #[.val (.long q0), .second, .val (.int p1), .val (.long (q0 &&& (4294967295 : Int64))), .second, .unset, .unset, .unset, .unset] [(.int (own_w (q0 &&& (4294967295 : Int64)) p1))])) _
    refine XS.istore X1.here hx rfl (hb hby at_11) rfl (l' := #[.val (.long q0), .second, .val (.int p1), .val (.long (q0 &&& (4294967295 : Int64))), .second, .val (.int (own_w (q0 &&& (4294967295 : Int64)) p1)), .unset, .unset, .unset]) rfl ?_
    show Steps p.tables e below (T1.setTop (mkF m 13 #[.val (.long q0), .second, .val (.int p1), .val (.long (q0 &&& (4294967295 : Int64))), .second, .val (.int (own_w (q0 &&& (4294967295 : Int64)) p1)), .unset, .unset, .unset] [])) _
    refine XS.lloadN X1.here hx rfl (hb hby at_13) rfl ?_
    show Steps p.tables e below (T1.setTop (mkF m 14 #[.val (.long q0), .second, .val (.int p1), .val (.long (q0 &&& (4294967295 : Int64))), .second, .val (.int (own_w (q0 &&& (4294967295 : Int64)) p1)), .unset, .unset, .unset] [(.long (q0 &&& (4294967295 : Int64)))])) _
    refine XS.iloadN X1.here hx rfl (hb hby at_14) rfl ?_
    show Steps p.tables e below (T1.setTop (mkF m 15 #[.val (.long q0), .second, .val (.int p1), .val (.long (q0 &&& (4294967295 : Int64))), .second, .val (.int (own_w (q0 &&& (4294967295 : Int64)) p1)), .unset, .unset, .unset] [(.int p1), (.long (q0 &&& (4294967295 : Int64)))])) _
    refine st2 _ ?_
    show Steps p.tables e below (T2.setTop (mkF m 18 #[.val (.long q0), .second, .val (.int p1), .val (.long (q0 &&& (4294967295 : Int64))), .second, .val (.int (own_w (q0 &&& (4294967295 : Int64)) p1)), .unset, .unset, .unset] [(.long (own_r (q0 &&& (4294967295 : Int64)) p1))])) _
    refine XS.lstore X2.here hx rfl (hb hby at_18) rfl (l' := #[.val (.long q0), .second, .val (.int p1), .val (.long (q0 &&& (4294967295 : Int64))), .second, .val (.int (own_w (q0 &&& (4294967295 : Int64)) p1)), .val (.long (own_r (q0 &&& (4294967295 : Int64)) p1)), .second, .unset]) rfl ?_
    show Steps p.tables e below (T2.setTop (mkF m 20 #[.val (.long q0), .second, .val (.int p1), .val (.long (q0 &&& (4294967295 : Int64))), .second, .val (.int (own_w (q0 &&& (4294967295 : Int64)) p1)), .val (.long (own_r (q0 &&& (4294967295 : Int64)) p1)), .second, .unset] [])) _
    refine XS.iload X2.here hx rfl (hb hby at_20) rfl ?_
    show Steps p.tables e below (T2.setTop (mkF m 22 #[.val (.long q0), .second, .val (.int p1), .val (.long (q0 &&& (4294967295 : Int64))), .second, .val (.int (own_w (q0 &&& (4294967295 : Int64)) p1)), .val (.long (own_r (q0 &&& (4294967295 : Int64)) p1)), .second, .unset] [(.int (own_w (q0 &&& (4294967295 : Int64)) p1))])) _
    refine XS.i2l X2.here hx rfl (hb hby at_22) rfl ?_
    show Steps p.tables e below (T2.setTop (mkF m 23 #[.val (.long q0), .second, .val (.int p1), .val (.long (q0 &&& (4294967295 : Int64))), .second, .val (.int (own_w (q0 &&& (4294967295 : Int64)) p1)), .val (.long (own_r (q0 &&& (4294967295 : Int64)) p1)), .second, .unset] [(.long ((own_w (q0 &&& (4294967295 : Int64)) p1).toInt64))])) _
    refine XS.lload X2.here hx rfl (hb hby at_23) rfl ?_
    show Steps p.tables e below (T2.setTop (mkF m 25 #[.val (.long q0), .second, .val (.int p1), .val (.long (q0 &&& (4294967295 : Int64))), .second, .val (.int (own_w (q0 &&& (4294967295 : Int64)) p1)), .val (.long (own_r (q0 &&& (4294967295 : Int64)) p1)), .second, .unset] [(.long (own_r (q0 &&& (4294967295 : Int64)) p1)), (.long ((own_w (q0 &&& (4294967295 : Int64)) p1).toInt64))])) _
    refine XS.lcmp X2.here hx rfl (hb hby at_25) rfl ?_
    show Steps p.tables e below (T2.setTop (mkF m 26 #[.val (.long q0), .second, .val (.int p1), .val (.long (q0 &&& (4294967295 : Int64))), .second, .val (.int (own_w (q0 &&& (4294967295 : Int64)) p1)), .val (.long (own_r (q0 &&& (4294967295 : Int64)) p1)), .second, .unset] [(.int (lcmpW ((own_w (q0 &&& (4294967295 : Int64)) p1).toInt64) (own_r (q0 &&& (4294967295 : Int64)) p1)))])) _
    refine XS.ifYes X2.here hx rfl (pc0 := 26) (pc' := 31) rfl (hb hby at_26) rfl ((if0 _ _).trans (teq ((lw_eq _ _).mpr (own_a q0 p1))).1) (by decide) (by decide) ?_
    show Steps p.tables e below (T2.setTop (mkF m 31 #[.val (.long q0), .second, .val (.int p1), .val (.long (q0 &&& (4294967295 : Int64))), .second, .val (.int (own_w (q0 &&& (4294967295 : Int64)) p1)), .val (.long (own_r (q0 &&& (4294967295 : Int64)) p1)), .second, .unset] [])) _
    refine XS.lloadN X2.here hx rfl (hb hby at_31) rfl ?_
    show Steps p.tables e below (T2.setTop (mkF m 32 #[.val (.long q0), .second, .val (.int p1), .val (.long (q0 &&& (4294967295 : Int64))), .second, .val (.int (own_w (q0 &&& (4294967295 : Int64)) p1)), .val (.long (own_r (q0 &&& (4294967295 : Int64)) p1)), .second, .unset] [(.long (q0 &&& (4294967295 : Int64)))])) _
    refine X2.ldc2Long hx hown (mvT hZ (hw _ (List.mem_of_getElem? (i := 11) rfl))) (g := (mkF m 32 #[.val (.long q0), .second, .val (.int p1), .val (.long (q0 &&& (4294967295 : Int64))), .second, .val (.int (own_w (q0 &&& (4294967295 : Int64)) p1)), .val (.long (own_r (q0 &&& (4294967295 : Int64)) p1)), .second, .unset] [(.long (q0 &&& (4294967295 : Int64)))])) rfl (hb hby at_32) _ ?_
    show Steps p.tables e below (T2.setTop (mkF m 35 #[.val (.long q0), .second, .val (.int p1), .val (.long (q0 &&& (4294967295 : Int64))), .second, .val (.int (own_w (q0 &&& (4294967295 : Int64)) p1)), .val (.long (own_r (q0 &&& (4294967295 : Int64)) p1)), .second, .unset] [(.long (2147483648 : Int64)), (.long (q0 &&& (4294967295 : Int64)))])) _
    refine XS.lxor X2.here hx rfl (hb hby at_35) rfl ?_
    show Steps p.tables e below (T2.setTop (mkF m 36 #[.val (.long q0), .second, .val (.int p1), .val (.long (q0 &&& (4294967295 : Int64))), .second, .val (.int (own_w (q0 &&& (4294967295 : Int64)) p1)), .val (.long (own_r (q0 &&& (4294967295 : Int64)) p1)), .second, .unset] [(.long ((q0 &&& (4294967295 : Int64)) ^^^ (2147483648 : Int64)))])) _
    refine XS.iloadN X2.here hx rfl (hb hby at_36) rfl ?_
    show Steps p.tables e below (T2.setTop (mkF m 37 #[.val (.long q0), .second, .val (.int p1), .val (.long (q0 &&& (4294967295 : Int64))), .second, .val (.int (own_w (q0 &&& (4294967295 : Int64)) p1)), .val (.long (own_r (q0 &&& (4294967295 : Int64)) p1)), .second, .unset] [(.int p1), (.long ((q0 &&& (4294967295 : Int64)) ^^^ (2147483648 : Int64)))])) _
    refine X2.ldcInt hx hown (mvT hZ (hw _ (List.mem_of_getElem? (i := 14) rfl))) (g := (mkF m 37 #[.val (.long q0), .second, .val (.int p1), .val (.long (q0 &&& (4294967295 : Int64))), .second, .val (.int (own_w (q0 &&& (4294967295 : Int64)) p1)), .val (.long (own_r (q0 &&& (4294967295 : Int64)) p1)), .second, .unset] [(.int p1), (.long ((q0 &&& (4294967295 : Int64)) ^^^ (2147483648 : Int64)))])) rfl (hb hby at_37) _ ?_
    show Steps p.tables e below (T2.setTop (mkF m 39 #[.val (.long q0), .second, .val (.int p1), .val (.long (q0 &&& (4294967295 : Int64))), .second, .val (.int (own_w (q0 &&& (4294967295 : Int64)) p1)), .val (.long (own_r (q0 &&& (4294967295 : Int64)) p1)), .second, .unset] [(.int (-2147483648 : Int32)), (.int p1), (.long ((q0 &&& (4294967295 : Int64)) ^^^ (2147483648 : Int64)))])) _
    refine XS.ixor X2.here hx rfl (hb hby at_39) rfl ?_
    show Steps p.tables e below (T2.setTop (mkF m 40 #[.val (.long q0), .second, .val (.int p1), .val (.long (q0 &&& (4294967295 : Int64))), .second, .val (.int (own_w (q0 &&& (4294967295 : Int64)) p1)), .val (.long (own_r (q0 &&& (4294967295 : Int64)) p1)), .second, .unset] [(.int (p1 ^^^ (-2147483648 : Int32))), (.long ((q0 &&& (4294967295 : Int64)) ^^^ (2147483648 : Int64)))])) _
    refine st3 _ ?_
    show Steps p.tables e below (T3.setTop (mkF m 43 #[.val (.long q0), .second, .val (.int p1), .val (.long (q0 &&& (4294967295 : Int64))), .second, .val (.int (own_w (q0 &&& (4294967295 : Int64)) p1)), .val (.long (own_r (q0 &&& (4294967295 : Int64)) p1)), .second, .unset] [(.int (own_w ((q0 &&& (4294967295 : Int64)) ^^^ (2147483648 : Int64)) (p1 ^^^ (-2147483648 : Int32))))])) _
    refine XS.istore X3.here hx rfl (hb hby at_43) rfl (l' := #[.val (.long q0), .second, .val (.int p1), .val (.long (q0 &&& (4294967295 : Int64))), .second, .val (.int (own_w (q0 &&& (4294967295 : Int64)) p1)), .val (.long (own_r (q0 &&& (4294967295 : Int64)) p1)), .second, .val (.int (own_w ((q0 &&& (4294967295 : Int64)) ^^^ (2147483648 : Int64)) (p1 ^^^ (-2147483648 : Int32))))]) rfl ?_
    show Steps p.tables e below (T3.setTop (mkF m 45 #[.val (.long q0), .second, .val (.int p1), .val (.long (q0 &&& (4294967295 : Int64))), .second, .val (.int (own_w (q0 &&& (4294967295 : Int64)) p1)), .val (.long (own_r (q0 &&& (4294967295 : Int64)) p1)), .second, .val (.int (own_w ((q0 &&& (4294967295 : Int64)) ^^^ (2147483648 : Int64)) (p1 ^^^ (-2147483648 : Int32))))] [])) _
    refine XS.iload X3.here hx rfl (hb hby at_45) rfl ?_
    show Steps p.tables e below (T3.setTop (mkF m 47 #[.val (.long q0), .second, .val (.int p1), .val (.long (q0 &&& (4294967295 : Int64))), .second, .val (.int (own_w (q0 &&& (4294967295 : Int64)) p1)), .val (.long (own_r (q0 &&& (4294967295 : Int64)) p1)), .second, .val (.int (own_w ((q0 &&& (4294967295 : Int64)) ^^^ (2147483648 : Int64)) (p1 ^^^ (-2147483648 : Int32))))] [(.int (own_w ((q0 &&& (4294967295 : Int64)) ^^^ (2147483648 : Int64)) (p1 ^^^ (-2147483648 : Int32))))])) _
    refine XS.iload X3.here hx rfl (hb hby at_47) rfl ?_
    show Steps p.tables e below (T3.setTop (mkF m 49 #[.val (.long q0), .second, .val (.int p1), .val (.long (q0 &&& (4294967295 : Int64))), .second, .val (.int (own_w (q0 &&& (4294967295 : Int64)) p1)), .val (.long (own_r (q0 &&& (4294967295 : Int64)) p1)), .second, .val (.int (own_w ((q0 &&& (4294967295 : Int64)) ^^^ (2147483648 : Int64)) (p1 ^^^ (-2147483648 : Int32))))] [(.int (own_w (q0 &&& (4294967295 : Int64)) p1)), (.int (own_w ((q0 &&& (4294967295 : Int64)) ^^^ (2147483648 : Int64)) (p1 ^^^ (-2147483648 : Int32))))])) _
    refine XS.icmpNo X3.here hx rfl (hb hby at_49) rfl (teq (own_b _ p1)).2 ?_
    show Steps p.tables e below (T3.setTop (mkF m 52 #[.val (.long q0), .second, .val (.int p1), .val (.long (q0 &&& (4294967295 : Int64))), .second, .val (.int (own_w (q0 &&& (4294967295 : Int64)) p1)), .val (.long (own_r (q0 &&& (4294967295 : Int64)) p1)), .second, .val (.int (own_w ((q0 &&& (4294967295 : Int64)) ^^^ (2147483648 : Int64)) (p1 ^^^ (-2147483648 : Int32))))] [])) _
    refine XS.iconst X3.here hx rfl (hb hby at_52) ?_
    show Steps p.tables e below (T3.setTop (mkF m 53 #[.val (.long q0), .second, .val (.int p1), .val (.long (q0 &&& (4294967295 : Int64))), .second, .val (.int (own_w (q0 &&& (4294967295 : Int64)) p1)), .val (.long (own_r (q0 &&& (4294967295 : Int64)) p1)), .second, .val (.int (own_w ((q0 &&& (4294967295 : Int64)) ^^^ (2147483648 : Int64)) (p1 ^^^ (-2147483648 : Int32))))] [(.int (1 : Int32))])) _
    refine XS.goto X3.here hx rfl (pc0 := 53) (pc' := 57) rfl (hb hby at_53) (by decide) (by decide) ?_
    show Steps p.tables e below (T3.setTop (mkF m 57 #[.val (.long q0), .second, .val (.int p1), .val (.long (q0 &&& (4294967295 : Int64))), .second, .val (.int (own_w (q0 &&& (4294967295 : Int64)) p1)), .val (.long (own_r (q0 &&& (4294967295 : Int64)) p1)), .second, .val (.int (own_w ((q0 &&& (4294967295 : Int64)) ^^^ (2147483648 : Int64)) (p1 ^^^ (-2147483648 : Int32))))] [(.int (1 : Int32))])) _
    exact retN X3 hx (t := .boolean) Bd.returns (by simp) (hb hby at_57) hr
  · show Q0 Z q0 p1 h0 n0 _ T3.heap _
    rw [e3]
    exact ⟨rfl, N3⟩
set_option maxRecDepth 65536 in
set_option maxHeartbeats 40000000 in
theorem comes_1 {Post : Tables → Env → Array Value → State → Outcome → State → Prop} (hpost : ∀ tb e args s v u, (limb_1_1.after args s (.returned v) u = true ∧ limb_1_2.after args s (.returned v) u = true ∧ True) → FrameEnd s (.returned v) u (Jvm.fieldLocs frame_1_writes args s ++ Jvm.arrayLocs frame_1_arrays args s ++ Jvm.staticLocs frame_1_statics s) 0 0 → Post tb e args s (.returned v) u) :
    ArmFor flags0 classFile x code maxLocals ret World_1 tables_1 room_1 Calls_1 rest_1 Pre_1 Post := by
  intro l hfl _ _ p e ha hc hk s m args below hf hA hF happ hP
  obtain ⟨hcalls, hrest, hpre⟩ := hP
  obtain ⟨-, -, -, hnamed, -, -, -, hat⟩ := (Spec.applies_iff hf).mp happ
  obtain ⟨hg, hn⟩ := and_e (Cond.before_iff.mp (show (Jvm.Cond.and given_1 narrow_1).before args s = true from hpre))
  obtain ⟨gc, g0⟩ := and_e hg
  obtain ⟨ga0, g1⟩ := and_e g0
  obtain ⟨w0, w1, rfl⟩ : ∃ w0 w1 : Value, args = #[w0, w1] := by
    have hs : args.size = 2 := by simpa [Cond.value, given_1] using gc
    obtain ⟨L⟩ := args
    match L, hs with
    | [w0, w1], _ => exact ⟨w0, w1, rfl⟩
  have hw := fun d (hd : d ∈ tables_1) => atoms_spec (ws := Jvm.Cond.code x code maxLocals ret :: tables_1) hat d (List.mem_cons_of_mem _ hd)
  obtain ⟨i0, ei0⟩ := isL_v ga0
  obtain rfl : w0 = (.long i0) := Option.some.inj ei0
  obtain ⟨i1, ei1⟩ := is_v g1
  obtain rfl : w1 = (.int i1) := Option.some.inj ei1
  obtain ⟨n, o, h1, h2, h3, _, L, rfl, ⟨rfl, N⟩, hq⟩ := rm0 l s _ hw tables_1 i0 i1  s.heap s.heap.size (Nat.le_refl _)  p e ha hc hk s m _ below hf ((Spec.applies_iff_loose hf).mp happ).1 ⟨rfl, State.Warmed39.refl s, rfl⟩ trivial
  refine ⟨n, _, h1, h2, h3, hpost _ _ _ _ _ _ ⟨Cond.after_iff.mpr rfl, Cond.after_iff.mpr (eq_i res_at (Term.int_eval (1)) rfl), trivial⟩ ⟨hq.1, hq.2.1, (hq.2.2.sift fun y hy => Or.inr (N y hy)).mono (by decide) (by decide)⟩⟩
theorem main_1_1 : Claimed_1_1 := comes_1 fun _ _ _ _ _ _ h hF => ⟨h.1, hF⟩
theorem main_1_2 : Claimed_1_2 := comes_1 fun _ _ _ _ _ _ h hF => ⟨h.2.1, hF⟩
end Jvm.Pilot.@@N@@
namespace Jvm.Pilot.@@N@@
open Jvm Jvm.ClassFile Sem Op Lib Jvm.Free Jvm.Stand Jvm.Pilot.@@N@@.Jvm.D
/-! MADE BY PROGRAM (witnessworld.py) out of the Statement's table words and the real class files: 9 classes; the members and pool entries that the words name. The judged class is class 1, her method 2. -/
namespace start1
open Jvm.ClassFile
def u (s : String) : CpInfo := .utf8 (stringToUtf16 s)
/-- a pool by its gaps: so many unusable entries, then the entry; so many at the end -/
def gap : Nat → List CpInfo → List CpInfo
  | 0, r => r
  | n + 1, r => .unusable :: gap n r
def poolList (es : List (Nat × CpInfo)) (last : Nat) : List CpInfo := es.foldr (fun e r => gap e.1 (e.2 :: r)) (gap last [])
def pool (es : List (Nat × CpInfo)) (last : Nat) : Array CpInfo := ⟨poolList es last⟩
def fileOf (pool : Array CpInfo) (this : Nat) (attrs : Array Attribute := #[]) (ms : Array MethodInfo := #[]) (fl : Nat := 33) (sup : Nat := 0) (ifs : Array Nat := #[]) (fds : Array FieldInfo := #[]) : ClassFile where
  minorVersion := 0
  majorVersion := 65
  constantPool := pool
  accessFlags := fl
  thisClass := this
  superClass := sup
  interfaces := ifs
  fields := fds
  methods := ms
  attributes := attrs
def plain (name : String) (sup : Option ClassId) : Class where
  name := name
  kind := .ordinary
  loader := none
  accessFlags := 33
  super := sup
  interfaces := #[]
  cf := none
  fields := #[]
  methods := #[]
  instanceTypes := #[]
  staticTypes := #[]
  resolved := #[]
  callSites := []
  init := .initialized
  statics := none
  mirror := none

def pool0 : Array CpInfo := pool [(5, u "<init>"), (0, u "()V"), (1, .class_ 10), (1, u "java/lang/Object")] 113

def k0m0 : Method := { name := "<init>", desc := "()V", sig := { parameters := [], returnType := none }, accessFlags := 1, code := none }
/-- java/lang/Object -/
def k0 : Class := { plain "java/lang/Object" none with
  accessFlags := 33
  interfaces := #[]
  cf := some (fileOf pool0 8 #[] #[{ accessFlags := 1, nameIndex := 5, descriptorIndex := 6, attributes := #[] }] 33 0 #[] #[])
  fields := #[]
  methods := #[k0m0]
  instanceTypes := #[]
  staticTypes := #[]
  resolved := Array.replicate 124 none
  statics := none }

def pool1 : Array CpInfo := pool [(2, .class_ 4), (1, u "java/lang/Object"), (0, u "<init>"), (0, u "()V"), (0, .class_ 8), (0, u "com/example/sockeye/sockeye/WrandWeightPinLaw"), (0, .long 2147483648), (1, .long 4294967295), (1, .long 1103515245), (1, .long 12345), (1, .methodref 18 19), (0, .class_ 20), (0, .nameAndType 21 22), (0, u "com/example/sockeye/sockeye/Wrand"), (0, u "weight"), (0, u "(JI)I"), (0, .methodref 7 24), (0, .nameAndType 25 26), (0, u "reference"), (0, u "(JI)J"), (2, .integer 2147483648), (0, u "M31"), (0, u "J"), (3, u "law"), (0, u "(JI)Z")] 3

def k1m0 : Method := { name := "<init>", desc := "()V", sig := { parameters := [], returnType := none }, accessFlags := 1, code := none }
def k1c1 : Code := { maxStack := 4, maxLocals := 11, code := method_2_code, exceptionTable := #[], attributes := #[] }
def k1m1 : Method := { name := "reference", desc := "(JI)J", sig := { parameters := [.long, .int], returnType := some .long }, accessFlags := 10, code := some k1c1 }
def k1c2 : Code := { maxStack := 4, maxLocals := 9, code := code, exceptionTable := #[], attributes := #[] }
def k1m2 : Method := { name := "law", desc := "(JI)Z", sig := { parameters := [.long, .int], returnType := some .boolean }, accessFlags := 9, code := some k1c2 }
/-- com/example/sockeye/sockeye/WrandWeightPinLaw -/
def k1 : Class := { plain "com/example/sockeye/sockeye/WrandWeightPinLaw" (some 0) with
  accessFlags := 49
  interfaces := #[]
  cf := some (fileOf pool1 7 #[] #[{ accessFlags := 1, nameIndex := 5, descriptorIndex := 6, attributes := #[] }, { accessFlags := 10, nameIndex := 25, descriptorIndex := 26, attributes := #[] }, { accessFlags := 9, nameIndex := 35, descriptorIndex := 36, attributes := #[] }] 49 2 #[] #[{ accessFlags := 26, nameIndex := 30, descriptorIndex := 31, attributes := #[] }])
  fields := #[{ name := "M31", type := .long, accessFlags := 26, slot := 0, constantValue := 0 }]
  methods := #[k1m0, k1m1, k1m2]
  instanceTypes := #[]
  staticTypes := #[.long]
  resolved := Array.replicate 40 none
  statics := none }

def pool2 : Array CpInfo := pool [(2, .class_ 4), (1, u "java/lang/Object"), (0, u "<init>"), (0, u "()V"), (1, .class_ 10), (1, u "com/example/sockeye/sockeye/Wrand"), (7, .integer 1103515245), (0, .integer 2147483647), (41, u "MULTIPLIER"), (0, u "I"), (1, u "INCREMENT"), (1, u "LOW_31_BITS"), (6, u "weight"), (0, u "(JI)I")] 2

def k2m0 : Method := { name := "<init>", desc := "()V", sig := { parameters := [], returnType := none }, accessFlags := 2, code := none }
def k2c1 : Code := { maxStack := 3, maxLocals := 4, code := prog_11_method_4_code, exceptionTable := #[], attributes := #[] }
def k2m1 : Method := { name := "weight", desc := "(JI)I", sig := { parameters := [.long, .int], returnType := some .int }, accessFlags := 9, code := some k2c1 }
/-- com/example/sockeye/sockeye/Wrand -/
def k2 : Class := { plain "com/example/sockeye/sockeye/Wrand" (some 0) with
  accessFlags := 49
  interfaces := #[]
  cf := some (fileOf pool2 8 #[] #[{ accessFlags := 2, nameIndex := 5, descriptorIndex := 6, attributes := #[] }, { accessFlags := 9, nameIndex := 73, descriptorIndex := 74, attributes := #[] }] 49 2 #[] #[{ accessFlags := 26, nameIndex := 61, descriptorIndex := 62, attributes := #[] }, { accessFlags := 26, nameIndex := 64, descriptorIndex := 62, attributes := #[] }, { accessFlags := 26, nameIndex := 66, descriptorIndex := 62, attributes := #[] }])
  fields := #[{ name := "MULTIPLIER", type := .int, accessFlags := 26, slot := 0, constantValue := 0 }, { name := "INCREMENT", type := .int, accessFlags := 26, slot := 1, constantValue := 0 }, { name := "LOW_31_BITS", type := .int, accessFlags := 26, slot := 2, constantValue := 0 }]
  methods := #[k2m0, k2m1]
  instanceTypes := #[]
  staticTypes := #[.int, .int, .int]
  resolved := Array.replicate 77 none
  statics := none }

def pool3 : Array CpInfo := pool [(1, u "java/lang/Cloneable"), (0, .class_ 1), (0, u "java/lang/Object"), (0, .class_ 3)] 3

/-- java/lang/Cloneable -/
def k3 : Class := { plain "java/lang/Cloneable" (some 0) with
  accessFlags := 1537
  interfaces := #[]
  cf := some (fileOf pool3 2 #[] #[] 1537 4 #[] #[])
  fields := #[]
  methods := #[]
  instanceTypes := #[]
  staticTypes := #[]
  resolved := Array.replicate 8 none
  statics := none }

def pool4 : Array CpInfo := pool [(1, u "java/io/Serializable"), (0, .class_ 1), (0, u "java/lang/Object"), (0, .class_ 3)] 3

/-- java/io/Serializable -/
def k4 : Class := { plain "java/io/Serializable" (some 0) with
  accessFlags := 1537
  interfaces := #[]
  cf := some (fileOf pool4 2 #[] #[] 1537 4 #[] #[])
  fields := #[]
  methods := #[]
  instanceTypes := #[]
  staticTypes := #[]
  resolved := Array.replicate 8 none
  statics := none }

/-- the primitive byte -/
def k5 : Class := { plain "byte" none with kind := .primitive 'B', accessFlags := 0x411 }
/-- [B -/
def k6 : Class := { plain "[B" (some 0) with kind := .array 5 .byte, interfaces := #[3, 4], accessFlags := 1041 }

/-- the primitive int -/
def k7 : Class := { plain "int" none with kind := .primitive 'I', accessFlags := 0x411 }
/-- [I -/
def k8 : Class := { plain "[I" (some 0) with kind := .array 7 .int, interfaces := #[3, 4], accessFlags := 1041 }

def heap : Heap := #[]
def classes : Array Class := #[k0, k1, k2, k3, k4, k5, k6, k7, k8]
def interned : List (Array UInt16 × Addr) := []
def slotsUsed : Nat := 0
def theMethod : MethodId := ⟨1, 2⟩
def args0 : Array Value := #[.long 5, .int 7]
def aboutOver (below : List Frame) : State where
  vm := { classes := classes, interned := interned.toArray }
  heap := heap
  slotsUsed := slotsUsed
  threads := #[{ frames := .invoking theMethod args0 :: below }]
def below0 : List Frame := [.native { method := ⟨0, 0⟩, args := #[] }]
def about1 : State := aboutOver below0
def p0 : Program := .bare "" "" ""
def e0 : Env := launch0.env 0 0 0
theorem w_frames : about1.frames = Frame.invoking theMethod args0 :: below0 := rfl
set_option maxRecDepth 65536 in
theorem w_args : argsFit about1.vm theMethod args0 = true := by decide +kernel
set_option maxRecDepth 65536 in
theorem w_heap : heapFits about1 = true := by decide +kernel
set_option maxRecDepth 65536 in
theorem w_runnable : about1.curStatus? = some .runnable := by decide +kernel
set_option maxRecDepth 65536 in
theorem w_alone : about1.alone = true := by decide +kernel
set_option maxRecDepth 65536 in
theorem w_named : about1.methodNamed? x = some theMethod := by decide +kernel
set_option maxRecDepth 65536 in
theorem w_hears : about1.hears theMethod below0 = true := by decide +kernel
set_option maxRecDepth 65536 in
theorem w_ripe : about1.ripe theMethod args0 below0 = true := by decide +kernel
theorem w_running : about1.status = .running := rfl
set_option maxRecDepth 65536 in
theorem w_room : about1.hasRoom e0.platform room_1 = true :=
  launch0.hasRoom_least _ room_1 (by decide +kernel) (by decide +kernel) (by decide +kernel) (by decide +kernel) (by decide +kernel) (by decide +kernel)
theorem allAtoms_all (ts : List Jvm.Cond) (a : Array Jvm.Value) (st : Jvm.State) : (allAtoms ts).before a st = ts.all (fun c => c.before a st) := by
  induction ts with
  | nil => rfl
  | cons c t ih =>
    show (Jvm.Cond.and c (allAtoms t)).before a st = _
    rw [Jvm.Cond.before_and, ih, List.all_cons]
def words1 : List Jvm.Cond := Jvm.Cond.code x code maxLocals ret :: tables_1
/-- a 'code' word, met by the world's own term for the bytes: nothing is compared byte by byte -/
theorem code_word {y : MethodName} {bytes : ByteArray} {mx : Nat} {rt : Option FieldType} {a : Array Value} {s : State} {m : MethodId} {meth : Method} {c : Code} (h1 : s.methodNamed? y = some m) (h2 : s.vm.method? m = some meth) (h3 : meth.code = some c) (h4 : c.code = bytes)
    (h5 : (c.maxLocals == mx && c.exceptionTable.isEmpty && decide (c.maxStack ≤ mostOperands) && decide (meth.sig.returnType = rt) && !meth.locks && decide (parseMethodDescriptor y.desc = some meth.sig)) = true) : (Jvm.Cond.code y bytes mx rt).before a s = true := by
  simp only [Bool.and_eq_true, beq_iff_eq, Bool.not_eq_true', decide_eq_true_eq] at h5
  obtain ⟨⟨⟨⟨⟨g1, g2⟩, g3⟩, g4⟩, g5⟩, g6⟩ := h5
  simp [Cond.before, Cond.holds, Cond.value, h1, h2, h3, h4, g1, g2, g3, g4, g5, g6]
def isCode : Jvm.Cond → Bool
  | .code _ _ _ _ => true
  | _ => false
theorem all_split {L : List Jvm.Cond} {P : Jvm.Cond → Bool} (h1 : L.all (fun c => isCode c || P c) = true) (h2 : ∀ c ∈ L.filter isCode, P c = true) : L.all P = true := by
  refine List.all_eq_true.mpr fun c hc => ?_
  have h := List.all_eq_true.mp h1 c hc
  rcases Bool.eq_false_or_eq_true (isCode c) with hi | hi
  · exact h2 c (List.mem_filter.mpr ⟨hc, hi⟩)
  · simpa [hi] using h
set_option maxRecDepth 65536 in
theorem w_c0 : (Jvm.Cond.code x code maxLocals ret).before args0 about1 = true := code_word (m := ⟨1, 2⟩) (meth := k1m2) (c := k1c2) (by decide +kernel) rfl rfl rfl (by decide +kernel)
set_option maxRecDepth 65536 in
theorem w_c1 : (Jvm.Cond.code ({ cls := "com/example/sockeye/sockeye/Wrand", name := "weight", desc := "(JI)I" } : Jvm.MethodName) prog_11_method_4_code (4 : Nat) (Option.some Jvm.ClassFile.FieldType.int)).before args0 about1 = true := code_word (m := ⟨2, 1⟩) (meth := k2m1) (c := k2c1) (by decide +kernel) rfl rfl rfl (by decide +kernel)
set_option maxRecDepth 65536 in
theorem w_c2 : (Jvm.Cond.code ({ cls := "com/example/sockeye/sockeye/WrandWeightPinLaw", name := "reference", desc := "(JI)J" } : Jvm.MethodName) method_2_code (11 : Nat) (Option.some Jvm.ClassFile.FieldType.long)).before args0 about1 = true := code_word (m := ⟨1, 1⟩) (meth := k1m1) (c := k1c1) (by decide +kernel) rfl rfl rfl (by decide +kernel)
def codes1 : List Jvm.Cond := [Jvm.Cond.code x code maxLocals ret, Jvm.Cond.code ({ cls := "com/example/sockeye/sockeye/Wrand", name := "weight", desc := "(JI)I" } : Jvm.MethodName) prog_11_method_4_code (4 : Nat) (Option.some Jvm.ClassFile.FieldType.int), Jvm.Cond.code ({ cls := "com/example/sockeye/sockeye/WrandWeightPinLaw", name := "reference", desc := "(JI)J" } : Jvm.MethodName) method_2_code (11 : Nat) (Option.some Jvm.ClassFile.FieldType.long)]
set_option maxRecDepth 65536 in
theorem codes_eq : words1.filter isCode = codes1 := rfl
theorem w_codes : ∀ c ∈ words1.filter isCode, c.before args0 about1 = true := by
  rw [codes_eq]
  intro c hc
  simp only [codes1, List.mem_cons, List.not_mem_nil, or_false] at hc
  rcases hc with rfl | rfl | rfl
  · exact w_c0
  · exact w_c1
  · exact w_c2
set_option maxRecDepth 65536 in
theorem w_t1 : words1.all (fun c => isCode c || c.before args0 about1) = true := by decide +kernel
theorem w_tables : (allAtoms (Jvm.Cond.code x code maxLocals ret :: tables_1)).before args0 about1 = true := by
  rw [allAtoms_all]
  show words1.all (fun c => c.before args0 about1) = true
  refine all_split ?_ w_codes
  rw [w_t1]
set_option maxRecDepth 65536 in
theorem w_case : (Jvm.Cond.and given_1 narrow_1).before args0 about1 = true := by decide +kernel
theorem w_applies : (headSpec (Jvm.Cond.code x code maxLocals ret :: tables_1) room_1).applies x e0.platform about1 = true :=
  (Spec.applies_iff w_frames).mpr ⟨w_running, w_runnable, w_alone, w_named, w_hears, w_ripe, w_room, w_tables⟩
theorem atStart : AtStart classFile x code maxLocals ret World_1 tables_1 room_1 Calls_1 rest_1 Pre_1 launch0 p0 e0 about1 theMethod args0 below0 :=
  ⟨lists_1, trivial, launch0.admits_env _ _ _, launch0.least_env, fairChoices_fair.cas, fairChoices_fair.clock, w_frames, w_args, w_heap, w_applies, trivial, trivial, w_case⟩
end start1
theorem witness_1 : WitnessClaimed_1 := ⟨start1.p0, start1.e0, start1.about1, start1.theMethod, start1.args0, start1.below0, start1.atStart⟩
end Jvm.Pilot.@@N@@
