import JvmDerived
import JvmDerived.Pilot.@@N@@Statement
import JvmDerived.Pilot.@@N@@Code
set_option linter.unusedVariables false
set_option linter.unusedSimpArgs false
@@BLOCK:NumsL.lean.txt@@
namespace Jvm.RoadKit
open Sem ClassFile Op Lib Jvm.Stand Jvm.Free Jvm.LawKit
section New
variable {p : Program} {l : Launch} {e : Env} {R : Room} {s : State} {m : MethodId} {args : Array Value} {below : List Frame} {meth : Method} {c : Code} {T : State} {locs : List Loc} {cells slots : Nat}
theorem retI (X : Stand p l e R s m args below meth c T locs cells slots) (hx : p.tables.exec = Jvm.exec) {pc : Nat} {Ls : Array Slot} {z : Int32} {rest : List Value} (hret : meth.sig.returnType = some .int) (hd : decode c.code pc = .ok (.ireturn, 1)) {fs : List Frame}
    (hl : ∀ (f : JFrame) (acts : List Action), f.method = m → f.locked = none → f.entered = [] → (doReturn e (T.setTop f) acts (some (.int z))).1 = T.setFrames fs) : Steps p.tables e below (T.setTop (mkF m pc Ls (.int z :: rest))) (T.setFrames fs) := by
  have hm' : T.vm.method? m = some meth := X.method'
  have hn : narrow .int (.int z) = .int z := rfl
  show Steps p.tables e below (T.setTop { method := m, pc := pc, locals := Ls, stack := _ :: rest, locked := none }) _
  jvm_step X.here [X.here.top, hx, hd, hm', hret, hn]
  first | (intro acts; rw [hl _ acts rfl rfl rfl]) | rw [hl _ _ rfl rfl rfl]
  exact Steps.refl _
end New
end Jvm.RoadKit
namespace Jvm.Pilot.@@N@@
open Jvm Jvm.ClassFile Sem Op Lib Jvm.Free Jvm.Stand Jvm.LawKit Jvm.RoadKit Bundle Jvm.Pilot.@@N@@.Jvm.D

/-! the plain law -/
def own_us (z : Int64) (k : Int32) : Int64 := ((z.toUInt64 >>> (k &&& 0x3f).toInt64.toUInt64).toInt64)
def own_m1 (z : Int64) : Int64 := (z ^^^ own_us z (30 : Int32)) * (-4658895280553007687 : Int64)
def own_m2 (z : Int64) : Int64 := (z ^^^ own_us z (27 : Int32)) * (-7723592293110705685 : Int64)
def own_m3 (z : Int64) : Int64 := z ^^^ own_us z (31 : Int32)
def own_mix (z : Int64) : Int64 := own_m3 (own_m2 (own_m1 z))
def own_word (s n : Int64) : Int64 := own_mix (s + ((n + (1 : Int64)) * (-7046029254386353131 : Int64)))
def own_rd (x o mu mk : Int64) (hs : Int32) : Int64 := (((x + o) * mu) &&& mk) ^^^ own_us (((x + o) * mu) &&& mk) hs
def own_last (y : Int64) (h : Int32) (mk : Int64) : Int64 := (y ^^^ own_us y h) &&& mk
def own_round (x s : Int64) (r : Int32) (mk : Int64) (h : Int32) : Int64 :=
  own_last ((((x + own_word s ((2 : Int64) * (r.toInt64))) &&& mk) * ((own_word s (((2 : Int64) * (r.toInt64)) + (1 : Int64))) ||| (1 : Int64))) &&& mk) h mk
def own_mk (sc : Int32) : Int64 := ((1 : Int64) <<< (sc &&& 0x3f).toInt64) - (1 : Int64)
def own_hs (sc : Int32) : Int32 := (sc + (1 : Int32)) / (2 : Int32)
def own_ref (i s : Int64) (sc : Int32) : Int64 :=
  own_round (own_round (own_round (own_round (i &&& own_mk sc) s (0 : Int32) (own_mk sc) (own_hs sc)) s (1 : Int32) (own_mk sc) (own_hs sc)) s (2 : Int32) (own_mk sc) (own_hs sc)) s (3 : Int32) (own_mk sc) (own_hs sc)
def own_four (i s mk : Int64) (hs : Int32) : Int64 :=
  own_rd (own_rd (own_rd (own_rd i (own_word s (0 : Int64)) ((own_word s (1 : Int64)) ||| (1 : Int64)) mk hs) (own_word s (2 : Int64)) ((own_word s (3 : Int64)) ||| (1 : Int64)) mk hs) (own_word s (4 : Int64)) ((own_word s (5 : Int64)) ||| (1 : Int64)) mk hs) (own_word s (6 : Int64)) ((own_word s (7 : Int64)) ||| (1 : Int64)) mk hs
def own_perm (i s : Int64) (sc : Int32) : Int32 := (own_four i s (own_mk sc) (own_hs sc)).toInt32
def own_sc (s : Int32) : Int32 := (1 : Int32) + ((s &&& (2147483647 : Int32)) - ((s &&& (2147483647 : Int32)) / (31 : Int32)) * (31 : Int32))
theorem own_scI (s : Int32) : 1 ≤ (own_sc s).toInt ∧ (own_sc s).toInt ≤ 31 := by
  have e1 : (1 : Int32).toInt = 1 := by decide
  have e2 : (31 : Int32).toInt = 31 := by decide
  have m : (s &&& (2147483647 : Int32)).toInt = s.toInt % 2 ^ 31 := Jvm.Kit.i32_mask s _ (k := 31) (by decide) (by decide)
  rw [own_sc]
  generalize (s &&& (2147483647 : Int32)) = y at *
  have d : (y / (31 : Int32)).toInt = y.toInt / 31 := by
    rw [Jvm.Kit.i32_div (by rw [e2]; omega), e2, Int.tdiv_eq_ediv_of_nonneg (by omega)]
  have p : ((y / (31 : Int32)) * (31 : Int32)).toInt = y.toInt / 31 * 31 := by rw [Jvm.Kit.i32_mul (by rw [d, e2]; omega) (by rw [d, e2]; omega), d, e2]
  have q : (y - (y / (31 : Int32)) * (31 : Int32)).toInt = y.toInt - y.toInt / 31 * 31 := by rw [Jvm.Kit.i32_sub (by rw [p]; omega) (by rw [p]; omega), p]
  rw [Jvm.Kit.i32_add (by rw [q, e1]; omega) (by rw [q, e1]; omega), q, e1]
  omega
theorem own_sc1 (s : Int32) : ¬ (own_sc s < (1 : Int32)) := by
  have e1 : (1 : Int32).toInt = 1 := by decide
  have := own_scI s
  rw [Int32.lt_iff_toInt_lt, e1]; omega
theorem own_sc2 (s : Int32) : ¬ ((31 : Int32) < own_sc s) := by
  have e1 : (31 : Int32).toInt = 31 := by decide
  have := own_scI s
  rw [Int32.lt_iff_toInt_lt, e1]; omega
theorem own_sh : ∀ k : Fin 32, ((((Int32.ofNat k.val) &&& 0x3f).toInt64).toBitVec.smod 64).toNat = k.val := by decide +kernel
theorem own_mkN (k : Fin 32) (hk : 1 ≤ k.val) : (own_mk (Int32.ofNat k.val)).toBitVec.toNat = 2 ^ k.val - 1 := by
  have e1 : (1 : Int64).toInt = 1 := by decide
  have hp : (2 : Nat) ^ k.val ≤ 2 ^ 31 := Nat.pow_le_pow_right (by decide) (by have := k.isLt; omega)
  have hz : 0 < (2 : Nat) ^ k.val := Nat.two_pow_pos _
  have ec : ((2 : Int) ^ k.val) = (((2 : Nat) ^ k.val : Nat) : Int) := by rw [Int.natCast_pow]; rfl
  have s1 := Jvm.Kit.i64_shl (1 : Int64) (((Int32.ofNat k.val) &&& 0x3f).toInt64) (own_sh k) (by rw [e1, ec]; omega) (by rw [e1, ec]; omega)
  rw [e1, Int.one_mul, ec] at s1
  have s2 : (own_mk (Int32.ofNat k.val)).toInt = (((2 : Nat) ^ k.val : Nat) : Int) - 1 := by
    rw [own_mk, Jvm.Kit.i64_sub (by rw [s1, e1]; omega) (by rw [s1, e1]; omega), s1, e1]
  have e : (own_mk (Int32.ofNat k.val)).toInt = Int.bmod (own_mk (Int32.ofNat k.val)).toBitVec.toNat (2 ^ 64) := BitVec.toInt_eq_toNat_bmod _
  have hb := (own_mk (Int32.ofNat k.val)).toBitVec.isLt
  rw [s2, Int.bmod_def] at e
  omega
theorem own_and {a mk : Int64} {k : Nat} (h : mk.toBitVec.toNat = 2 ^ k - 1) : (a &&& mk).toBitVec.toNat = a.toBitVec.toNat % 2 ^ k := by
  rw [Int64.toBitVec_and, BitVec.toNat_and, h, Nat.and_two_pow_sub_one_eq_mod]
theorem own_usn (y : Int64) (h : Int32) : (own_us y h).toBitVec.toNat ≤ y.toBitVec.toNat := by
  rw [own_us]
  generalize (h &&& 0x3f).toInt64.toUInt64 = t
  have e : ((y.toUInt64 >>> t).toInt64).toBitVec.toNat = y.toBitVec.toNat / 2 ^ (t.toNat % 64) := by
    simp only [UInt64.toBitVec_toInt64, UInt64.toBitVec_shiftRight, Int64.toBitVec_toUInt64]
    simp [BitVec.toNat_ushiftRight, Nat.shiftRight_eq_div_pow]
  rw [e]; exact Nat.div_le_self _ _
theorem own_xlt {a b : Int64} {k : Nat} (ha : a.toBitVec.toNat < 2 ^ k) (hb : b.toBitVec.toNat < 2 ^ k) : (a ^^^ b).toBitVec.toNat < 2 ^ k := by
  rw [Int64.toBitVec_xor, BitVec.toNat_xor]; exact Nat.xor_lt_two_pow ha hb
theorem own_rdN {x o mu mk : Int64} {hs : Int32} {k : Nat} (h : mk.toBitVec.toNat = 2 ^ k - 1) : (own_rd x o mu mk hs).toBitVec.toNat < 2 ^ k := by
  have hp : 0 < 2 ^ k := Nat.two_pow_pos k
  have a : (((x + o) * mu) &&& mk).toBitVec.toNat < 2 ^ k := by rw [own_and h]; exact Nat.mod_lt _ hp
  rw [own_rd]
  exact own_xlt a (Nat.lt_of_le_of_lt (own_usn _ _) a)
theorem own_low {y mu mk : Int64} {k : Nat} (hk : k ≤ 64) (h : mk.toBitVec.toNat = 2 ^ k - 1) : (((y &&& mk) * mu) &&& mk) = ((y * mu) &&& mk) := by
  rw [← Int64.toBitVec_inj, ← BitVec.toNat_inj, own_and h, own_and h, Int64.toBitVec_mul, Int64.toBitVec_mul, BitVec.toNat_mul, BitVec.toNat_mul, own_and h]
  have hd : 2 ^ k ∣ 2 ^ 64 := Nat.pow_dvd_pow 2 hk
  rw [Nat.mod_mod_of_dvd _ hd, Nat.mod_mod_of_dvd _ hd, Nat.mod_mul_mod]
theorem own_same {y mk : Int64} {k : Nat} (h : mk.toBitVec.toNat = 2 ^ k - 1) (hy : y.toBitVec.toNat < 2 ^ k) : (y &&& mk) = y := by
  rw [← Int64.toBitVec_inj, ← BitVec.toNat_inj, own_and h, Nat.mod_eq_of_lt hy]
theorem own_roundE {x s mk : Int64} {r hs : Int32} {k : Nat} (hk : k ≤ 64) (h : mk.toBitVec.toNat = 2 ^ k - 1) :
    own_round x s r mk hs = own_rd x (own_word s ((2 : Int64) * (r.toInt64))) ((own_word s (((2 : Int64) * (r.toInt64)) + (1 : Int64))) ||| (1 : Int64)) mk hs := by
  rw [own_round, own_low hk h, own_last]
  exact own_same h (own_rdN h)
theorem own_refE {i s : Int64} {sc : Int32} {k : Nat} (hk : k ≤ 64) (h : (own_mk sc).toBitVec.toNat = 2 ^ k - 1) (hi : i.toBitVec.toNat < 2 ^ k) : own_ref i s sc = own_four i s (own_mk sc) (own_hs sc) := by
  have z0 : (2 : Int64) * ((0 : Int32).toInt64) = (0 : Int64) := by decide
  have z1 : (2 : Int64) * ((1 : Int32).toInt64) = (2 : Int64) := by decide
  have z2 : (2 : Int64) * ((2 : Int32).toInt64) = (4 : Int64) := by decide
  have z3 : (2 : Int64) * ((3 : Int32).toInt64) = (6 : Int64) := by decide
  have y0 : (0 : Int64) + (1 : Int64) = (1 : Int64) := by decide
  have y1 : (2 : Int64) + (1 : Int64) = (3 : Int64) := by decide
  have y2 : (4 : Int64) + (1 : Int64) = (5 : Int64) := by decide
  have y3 : (6 : Int64) + (1 : Int64) = (7 : Int64) := by decide
  rw [own_ref, own_same h hi, own_roundE hk h, own_roundE hk h, own_roundE hk h, own_roundE hk h, z0, z1, z2, z3, y0, y1, y2, y3, own_four]
theorem own_back {y : Int64} {k : Nat} (hk : k ≤ 31) (hy : y.toBitVec.toNat < 2 ^ k) : y.toInt = (y.toBitVec.toNat : Int) ∧ y.toInt32.toInt = (y.toBitVec.toNat : Int) := by
  have e : y.toInt = Int.bmod y.toBitVec.toNat (2 ^ 64) := BitVec.toInt_eq_toNat_bmod _
  have hp : 2 ^ k ≤ 2 ^ 31 := Nat.pow_le_pow_right (by decide) hk
  have e1 : y.toInt = (y.toBitVec.toNat : Int) := by rw [e, Int.bmod_def]; omega
  refine ⟨e1, ?_⟩
  rw [Int64.toInt_toInt32, e1, Int.bmod_def]; omega
theorem own_aux {m : Int64} {D : Nat} (h1 : 1 ≤ D) (hp : D ≤ 2147483648) (e : m.toBitVec.toNat = D - 1) : m.toInt = (D : Int) - 1 := by
  have e0 : m.toInt = Int.bmod m.toBitVec.toNat (2 ^ 64) := BitVec.toInt_eq_toNat_bmod _
  rw [e, Int.bmod_def] at e0
  omega
theorem own_aux2 {a b : Int} {n D : Nat} (e1 : a = (D : Int) - 1) (e2 : b = (n : Int)) (h : n < D) : ¬ a < b := by omega
theorem own_main (p : Int32) (s z : Int64) :
    (own_perm (z &&& own_mk (own_sc p)) s (own_sc p)).toInt64 = own_ref (z &&& own_mk (own_sc p)) s (own_sc p) ∧ ¬ (own_perm (z &&& own_mk (own_sc p)) s (own_sc p) < (0 : Int32)) ∧ ¬ (own_mk (own_sc p) < (own_perm (z &&& own_mk (own_sc p)) s (own_sc p)).toInt64) := by
  obtain ⟨h1, h2⟩ := own_scI p
  generalize own_sc p = sc at *
  obtain ⟨k, hk1, hk2, rfl⟩ : ∃ k : Nat, 1 ≤ k ∧ k ≤ 31 ∧ sc = Int32.ofNat k := by
    refine ⟨sc.toInt.toNat, by omega, by omega, ?_⟩
    rw [← Int32.toInt_inj, Int32.toInt_ofNat_of_lt (by omega)]; omega
  have hm : (own_mk (Int32.ofNat k)).toBitVec.toNat = 2 ^ k - 1 := own_mkN ⟨k, by omega⟩ hk1
  have hi : (z &&& own_mk (Int32.ofNat k)).toBitVec.toNat < 2 ^ k := by rw [own_and hm]; exact Nat.mod_lt _ (Nat.two_pow_pos k)
  rw [own_refE (by omega) hm hi, own_perm]
  have hf : (own_four (z &&& own_mk (Int32.ofNat k)) s (own_mk (Int32.ofNat k)) (own_hs (Int32.ofNat k))).toBitVec.toNat < 2 ^ k := own_rdN hm
  generalize own_four (z &&& own_mk (Int32.ofNat k)) s (own_mk (Int32.ofNat k)) (own_hs (Int32.ofNat k)) = y at *
  obtain ⟨b1, b2⟩ := own_back hk2 hf
  have hp : 2 ^ k ≤ 2 ^ 31 := Nat.pow_le_pow_right (by decide) hk2
  have e2 := own_aux (Nat.two_pow_pos k) hp hm
  refine ⟨?_, ?_, ?_⟩
  · rw [← Int64.toInt_inj, Int32.toInt_toInt64, b2, b1]
  · rw [Int32.lt_iff_toInt_lt, b2, Int32.toInt_zero]; exact Int.not_lt.mpr (Int.natCast_nonneg _)
  · rw [Int64.lt_iff_toInt_lt, Int32.toInt_toInt64]; exact own_aux2 e2 b2 hf
theorem own_sel {Z : State} {a0 : Array Value} (hw : ∀ d ∈ tables_1, d.before a0 Z = true) : (Jvm.Cond.selects "com/example/gangleri/gangleri/generate/KroneckerGenerator" (⟨"com/example/gangleri/gangleri/generate/KroneckerGenerator", "word", "(J)J"⟩ : MethodName) (⟨"com/example/gangleri/gangleri/generate/KroneckerGenerator", "word", "(J)J"⟩ : MethodName)).before a0 Z = true := by
  obtain ⟨c, k, hc, hk, -, hniab, -, -⟩ := Cond.instantiable_spec (hw _ (List.mem_of_getElem? (i := 2) rfl))
  exact selects_self_of_private (y := (⟨"com/example/gangleri/gangleri/generate/KroneckerGenerator", "word", "(J)J"⟩ : MethodName)) hc hk (Bool.or_eq_false_iff.mp hniab).1 (Cond.privateMethod_at (hw _ (List.mem_of_getElem? (i := 27) rfl))) (hw _ (List.mem_of_getElem? (i := 26) rfl)) (by decide)

theorem ef_4 (m : MethodId) (x0 : Int64) : entryFrame m #[(.long x0)] 4 = mkF m 0 #[.val (.long x0), .second, .unset, .unset] [] := by first | (simp [entryFrame, mkF, argsToLocals, Value.category]; done) | rfl
theorem pn_com_example_gangleri_gangleri_generate_KroneckerGenerator : plainName "com/example/gangleri/gangleri/generate/KroneckerGenerator" = true := by first | (simp [plainName, overriddenIn]; done) | decide +kernel
theorem d4_0 : decode prog_31_method_6_code 0 = .ok (.lload_n 0, 1) := by decide +kernel
theorem d4_1 : decode prog_31_method_6_code 1 = .ok (.lstore_n 2, 1) := by decide +kernel
theorem d4_2 : decode prog_31_method_6_code 2 = .ok (.lload_n 2, 1) := by decide +kernel
theorem d4_3 : decode prog_31_method_6_code 3 = .ok (.lload_n 2, 1) := by decide +kernel
theorem d4_4 : decode prog_31_method_6_code 4 = .ok (.bipush 30, 2) := by decide +kernel
theorem d4_6 : decode prog_31_method_6_code 6 = .ok (.lushr, 1) := by decide +kernel
theorem d4_7 : decode prog_31_method_6_code 7 = .ok (.lxor, 1) := by decide +kernel
theorem d4_8 : decode prog_31_method_6_code 8 = .ok (.ldc2_w 83, 3) := by decide +kernel
theorem d4_11 : decode prog_31_method_6_code 11 = .ok (.lmul, 1) := by decide +kernel
theorem d4_12 : decode prog_31_method_6_code 12 = .ok (.lstore_n 2, 1) := by decide +kernel
theorem d4_13 : decode prog_31_method_6_code 13 = .ok (.lload_n 2, 1) := by decide +kernel
theorem d4_14 : decode prog_31_method_6_code 14 = .ok (.lload_n 2, 1) := by decide +kernel
theorem d4_15 : decode prog_31_method_6_code 15 = .ok (.bipush 27, 2) := by decide +kernel
theorem d4_17 : decode prog_31_method_6_code 17 = .ok (.lushr, 1) := by decide +kernel
theorem d4_18 : decode prog_31_method_6_code 18 = .ok (.lxor, 1) := by decide +kernel
theorem d4_19 : decode prog_31_method_6_code 19 = .ok (.ldc2_w 85, 3) := by decide +kernel
theorem d4_22 : decode prog_31_method_6_code 22 = .ok (.lmul, 1) := by decide +kernel
theorem d4_23 : decode prog_31_method_6_code 23 = .ok (.lstore_n 2, 1) := by decide +kernel
theorem d4_24 : decode prog_31_method_6_code 24 = .ok (.lload_n 2, 1) := by decide +kernel
theorem d4_25 : decode prog_31_method_6_code 25 = .ok (.lload_n 2, 1) := by decide +kernel
theorem d4_26 : decode prog_31_method_6_code 26 = .ok (.bipush 31, 2) := by decide +kernel
theorem d4_28 : decode prog_31_method_6_code 28 = .ok (.lushr, 1) := by decide +kernel
theorem d4_29 : decode prog_31_method_6_code 29 = .ok (.lxor, 1) := by decide +kernel
theorem d4_30 : decode prog_31_method_6_code 30 = .ok (.lreturn, 1) := by decide +kernel
def Q4 (Z : State) (q0 : Int64) (h0 : Heap) (n0 : Nat) (v : Option Value) (h : Heap) (L : List Loc) : Prop := v = some (.long (own_mix q0)) ∧ Fr n0 L ∧ h = h0
set_option maxRecDepth 65536 in
set_option maxHeartbeats 40000000 in
theorem rm4 (l : Launch) (Z : State) (a0 : Array Value) (hw : ∀ d ∈ tables_1, d.before a0 Z = true) (ws : List Jvm.Cond) (q0 : Int64) (h0 : Heap) (n0 : Nat) (Z0 : n0 ≤ h0.size)  :
    MetFree l (⟨"com/example/gangleri/gangleri/generate/KroneckerGenerator", "mix", "(J)J"⟩ : MethodName) (head1 (Jvm.Cond.code (⟨"com/example/gangleri/gangleri/generate/KroneckerGenerator", "mix", "(J)J"⟩ : MethodName) prog_31_method_6_code 4 (some .long) :: ws) ({ frames := 0, cells := 0, slots := 0, locals := 0 } : Room)) (fun a U => a = #[(.long q0)] ∧ Z.Warmed39 U.vm ∧ U.heap = h0) (fun _ _ _ _ _ => True) (fun _ U o U' => ∃ v L, o = .returned v ∧ Q4 Z q0 h0 n0 v U'.heap L ∧ FrameEnd U o U' L ({ frames := 0, cells := 0, slots := 0, locals := 0 } : Room).cells ({ frames := 0, cells := 0, slots := 0, locals := 0 } : Room).slots) := by
  refine MetFree.of_bodySF (plainFor_of_name pn_com_example_gangleri_gangleri_generate_KroneckerGenerator) hisR ?_
  intro p e s m args below meth c s₁ Bd hml0 hP hK
  obtain ⟨rfl, hZ, hh⟩ := hP
  have hx := Bd.exec
  have hby := Bd.bytes
  have hml : c.maxLocals = 4 := hml0
  have hown : s.vm.findClass "com/example/gangleri/gangleri/generate/KroneckerGenerator" = some m.cls := findClass_of_methodNamed Bd.named
  have hnm := (name_of_methodNamed Bd.named Bd.method).1
  have X0 : Stand p l e ({ frames := 0, cells := 0, slots := 0, locals := 0 } : Room) s m #[(.long q0)] below meth c s₁ [] 0 0 := Stand.of_body Bd
  have e0 : s₁.heap = h0 := by rw [← hh, Bd.state]; rfl
  have N0 := Fr.nil n0
  have pre0 : ∀ t, Steps p.tables e below (s₁.setTop (mkF m 0 #[.val (.long q0), .second, .unset, .unset] [])) t → Steps p.tables e below (s₁.setTop (entryFrame m #[(.long q0)] 4)) t := fun t k => castTop (ef_4 m q0) k
  obtain ⟨fs, hr, hrun, hended, hW, hsame⟩ := X0.leave (v := some (.long (((((q0 ^^^ ((q0.toUInt64 >>> ((30 : Int32) &&& 0x3f).toInt64.toUInt64).toInt64)) * (-4658895280553007687 : Int64)) ^^^ ((((q0 ^^^ ((q0.toUInt64 >>> ((30 : Int32) &&& 0x3f).toInt64.toUInt64).toInt64)) * (-4658895280553007687 : Int64)).toUInt64 >>> ((27 : Int32) &&& 0x3f).toInt64.toUInt64).toInt64)) * (-7723592293110705685 : Int64)) ^^^ ((((((q0 ^^^ ((q0.toUInt64 >>> ((30 : Int32) &&& 0x3f).toInt64.toUInt64).toInt64)) * (-4658895280553007687 : Int64)) ^^^ ((((q0 ^^^ ((q0.toUInt64 >>> ((30 : Int32) &&& 0x3f).toInt64.toUInt64).toInt64)) * (-4658895280553007687 : Int64)).toUInt64 >>> ((27 : Int32) &&& 0x3f).toInt64.toUInt64).toInt64)) * (-7723592293110705685 : Int64)).toUInt64 >>> ((31 : Int32) &&& 0x3f).toInt64.toUInt64).toInt64)))) (fun h => by rw [Bd.returns] at h; cases h)
  refine ⟨_, _, pre0 _ ?_, hrun, hended, _, _, rfl, ?_, ⟨_, rfl⟩, hW, hsame.mono (by decide) (by decide)⟩
  · show Steps p.tables e below (s₁.setTop (mkF m 0 #[.val (.long q0), .second, .unset, .unset] [])) _
    refine XS.lloadN X0.here hx rfl (hb hby d4_0) rfl ?_
    show Steps p.tables e below (s₁.setTop (mkF m 1 #[.val (.long q0), .second, .unset, .unset] [(.long q0)])) _
    refine XS.lstoreN X0.here hx rfl (hb hby d4_1) rfl (l' := #[.val (.long q0), .second, .val (.long q0), .second]) rfl ?_
    show Steps p.tables e below (s₁.setTop (mkF m 2 #[.val (.long q0), .second, .val (.long q0), .second] [])) _
    refine XS.lloadN X0.here hx rfl (hb hby d4_2) rfl ?_
    show Steps p.tables e below (s₁.setTop (mkF m 3 #[.val (.long q0), .second, .val (.long q0), .second] [(.long q0)])) _
    refine XS.lloadN X0.here hx rfl (hb hby d4_3) rfl ?_
    show Steps p.tables e below (s₁.setTop (mkF m 4 #[.val (.long q0), .second, .val (.long q0), .second] [(.long q0), (.long q0)])) _
    refine XS.bipush X0.here hx rfl (hb hby d4_4) ?_
    show Steps p.tables e below (s₁.setTop (mkF m 6 #[.val (.long q0), .second, .val (.long q0), .second] [(.int (30 : Int32)), (.long q0), (.long q0)])) _
    refine XS.lushr X0.here hx rfl (hb hby d4_6) rfl ?_
    show Steps p.tables e below (s₁.setTop (mkF m 7 #[.val (.long q0), .second, .val (.long q0), .second] [(.long ((q0.toUInt64 >>> ((30 : Int32) &&& 0x3f).toInt64.toUInt64).toInt64)), (.long q0)])) _
    refine XS.lxor X0.here hx rfl (hb hby d4_7) rfl ?_
    show Steps p.tables e below (s₁.setTop (mkF m 8 #[.val (.long q0), .second, .val (.long q0), .second] [(.long (q0 ^^^ ((q0.toUInt64 >>> ((30 : Int32) &&& 0x3f).toInt64.toUInt64).toInt64)))])) _
    refine X0.ldc2Long hx hown (mvT hZ (hw _ (List.mem_of_getElem? (i := 33) rfl))) (g := (mkF m 8 #[.val (.long q0), .second, .val (.long q0), .second] [(.long (q0 ^^^ ((q0.toUInt64 >>> ((30 : Int32) &&& 0x3f).toInt64.toUInt64).toInt64)))])) rfl (hb hby d4_8) _ ?_
    show Steps p.tables e below (s₁.setTop (mkF m 11 #[.val (.long q0), .second, .val (.long q0), .second] [(.long (-4658895280553007687 : Int64)), (.long (q0 ^^^ ((q0.toUInt64 >>> ((30 : Int32) &&& 0x3f).toInt64.toUInt64).toInt64)))])) _
    refine XS.lmul X0.here hx rfl (hb hby d4_11) rfl ?_
    show Steps p.tables e below (s₁.setTop (mkF m 12 #[.val (.long q0), .second, .val (.long q0), .second] [(.long ((q0 ^^^ ((q0.toUInt64 >>> ((30 : Int32) &&& 0x3f).toInt64.toUInt64).toInt64)) * (-4658895280553007687 : Int64)))])) _
    refine XS.lstoreN X0.here hx rfl (hb hby d4_12) rfl (l' := #[.val (.long q0), .second, .val (.long ((q0 ^^^ ((q0.toUInt64 >>> ((30 : Int32) &&& 0x3f).toInt64.toUInt64).toInt64)) * (-4658895280553007687 : Int64))), .second]) rfl ?_
    show Steps p.tables e below (s₁.setTop (mkF m 13 #[.val (.long q0), .second, .val (.long ((q0 ^^^ ((q0.toUInt64 >>> ((30 : Int32) &&& 0x3f).toInt64.toUInt64).toInt64)) * (-4658895280553007687 : Int64))), .second] [])) _
    refine XS.lloadN X0.here hx rfl (hb hby d4_13) rfl ?_
    show Steps p.tables e below (s₁.setTop (mkF m 14 #[.val (.long q0), .second, .val (.long ((q0 ^^^ ((q0.toUInt64 >>> ((30 : Int32) &&& 0x3f).toInt64.toUInt64).toInt64)) * (-4658895280553007687 : Int64))), .second] [(.long ((q0 ^^^ ((q0.toUInt64 >>> ((30 : Int32) &&& 0x3f).toInt64.toUInt64).toInt64)) * (-4658895280553007687 : Int64)))])) _
    refine XS.lloadN X0.here hx rfl (hb hby d4_14) rfl ?_
    show Steps p.tables e below (s₁.setTop (mkF m 15 #[.val (.long q0), .second, .val (.long ((q0 ^^^ ((q0.toUInt64 >>> ((30 : Int32) &&& 0x3f).toInt64.toUInt64).toInt64)) * (-4658895280553007687 : Int64))), .second] [(.long ((q0 ^^^ ((q0.toUInt64 >>> ((30 : Int32) &&& 0x3f).toInt64.toUInt64).toInt64)) * (-4658895280553007687 : Int64))), (.long ((q0 ^^^ ((q0.toUInt64 >>> ((30 : Int32) &&& 0x3f).toInt64.toUInt64).toInt64)) * (-4658895280553007687 : Int64)))])) _
    refine XS.bipush X0.here hx rfl (hb hby d4_15) ?_
    show Steps p.tables e below (s₁.setTop (mkF m 17 #[.val (.long q0), .second, .val (.long ((q0 ^^^ ((q0.toUInt64 >>> ((30 : Int32) &&& 0x3f).toInt64.toUInt64).toInt64)) * (-4658895280553007687 : Int64))), .second] [(.int (27 : Int32)), (.long ((q0 ^^^ ((q0.toUInt64 >>> ((30 : Int32) &&& 0x3f).toInt64.toUInt64).toInt64)) * (-4658895280553007687 : Int64))), (.long ((q0 ^^^ ((q0.toUInt64 >>> ((30 : Int32) &&& 0x3f).toInt64.toUInt64).toInt64)) * (-4658895280553007687 : Int64)))])) _
    refine XS.lushr X0.here hx rfl (hb hby d4_17) rfl ?_
    show Steps p.tables e below (s₁.setTop (mkF m 18 #[.val (.long q0), .second, .val (.long ((q0 ^^^ ((q0.toUInt64 >>> ((30 : Int32) &&& 0x3f).toInt64.toUInt64).toInt64)) * (-4658895280553007687 : Int64))), .second] [(.long ((((q0 ^^^ ((q0.toUInt64 >>> ((30 : Int32) &&& 0x3f).toInt64.toUInt64).toInt64)) * (-4658895280553007687 : Int64)).toUInt64 >>> ((27 : Int32) &&& 0x3f).toInt64.toUInt64).toInt64)), (.long ((q0 ^^^ ((q0.toUInt64 >>> ((30 : Int32) &&& 0x3f).toInt64.toUInt64).toInt64)) * (-4658895280553007687 : Int64)))])) _
    refine XS.lxor X0.here hx rfl (hb hby d4_18) rfl ?_
    show Steps p.tables e below (s₁.setTop (mkF m 19 #[.val (.long q0), .second, .val (.long ((q0 ^^^ ((q0.toUInt64 >>> ((30 : Int32) &&& 0x3f).toInt64.toUInt64).toInt64)) * (-4658895280553007687 : Int64))), .second] [(.long (((q0 ^^^ ((q0.toUInt64 >>> ((30 : Int32) &&& 0x3f).toInt64.toUInt64).toInt64)) * (-4658895280553007687 : Int64)) ^^^ ((((q0 ^^^ ((q0.toUInt64 >>> ((30 : Int32) &&& 0x3f).toInt64.toUInt64).toInt64)) * (-4658895280553007687 : Int64)).toUInt64 >>> ((27 : Int32) &&& 0x3f).toInt64.toUInt64).toInt64)))])) _
    refine X0.ldc2Long hx hown (mvT hZ (hw _ (List.mem_of_getElem? (i := 34) rfl))) (g := (mkF m 19 #[.val (.long q0), .second, .val (.long ((q0 ^^^ ((q0.toUInt64 >>> ((30 : Int32) &&& 0x3f).toInt64.toUInt64).toInt64)) * (-4658895280553007687 : Int64))), .second] [(.long (((q0 ^^^ ((q0.toUInt64 >>> ((30 : Int32) &&& 0x3f).toInt64.toUInt64).toInt64)) * (-4658895280553007687 : Int64)) ^^^ ((((q0 ^^^ ((q0.toUInt64 >>> ((30 : Int32) &&& 0x3f).toInt64.toUInt64).toInt64)) * (-4658895280553007687 : Int64)).toUInt64 >>> ((27 : Int32) &&& 0x3f).toInt64.toUInt64).toInt64)))])) rfl (hb hby d4_19) _ ?_
    show Steps p.tables e below (s₁.setTop (mkF m 22 #[.val (.long q0), .second, .val (.long ((q0 ^^^ ((q0.toUInt64 >>> ((30 : Int32) &&& 0x3f).toInt64.toUInt64).toInt64)) * (-4658895280553007687 : Int64))), .second] [(.long (-7723592293110705685 : Int64)), (.long (((q0 ^^^ ((q0.toUInt64 >>> ((30 : Int32) &&& 0x3f).toInt64.toUInt64).toInt64)) * (-4658895280553007687 : Int64)) ^^^ ((((q0 ^^^ ((q0.toUInt64 >>> ((30 : Int32) &&& 0x3f).toInt64.toUInt64).toInt64)) * (-4658895280553007687 : Int64)).toUInt64 >>> ((27 : Int32) &&& 0x3f).toInt64.toUInt64).toInt64)))])) _
    refine XS.lmul X0.here hx rfl (hb hby d4_22) rfl ?_
    show Steps p.tables e below (s₁.setTop (mkF m 23 #[.val (.long q0), .second, .val (.long ((q0 ^^^ ((q0.toUInt64 >>> ((30 : Int32) &&& 0x3f).toInt64.toUInt64).toInt64)) * (-4658895280553007687 : Int64))), .second] [(.long ((((q0 ^^^ ((q0.toUInt64 >>> ((30 : Int32) &&& 0x3f).toInt64.toUInt64).toInt64)) * (-4658895280553007687 : Int64)) ^^^ ((((q0 ^^^ ((q0.toUInt64 >>> ((30 : Int32) &&& 0x3f).toInt64.toUInt64).toInt64)) * (-4658895280553007687 : Int64)).toUInt64 >>> ((27 : Int32) &&& 0x3f).toInt64.toUInt64).toInt64)) * (-7723592293110705685 : Int64)))])) _
    refine XS.lstoreN X0.here hx rfl (hb hby d4_23) rfl (l' := #[.val (.long q0), .second, .val (.long ((((q0 ^^^ ((q0.toUInt64 >>> ((30 : Int32) &&& 0x3f).toInt64.toUInt64).toInt64)) * (-4658895280553007687 : Int64)) ^^^ ((((q0 ^^^ ((q0.toUInt64 >>> ((30 : Int32) &&& 0x3f).toInt64.toUInt64).toInt64)) * (-4658895280553007687 : Int64)).toUInt64 >>> ((27 : Int32) &&& 0x3f).toInt64.toUInt64).toInt64)) * (-7723592293110705685 : Int64))), .second]) rfl ?_
    show Steps p.tables e below (s₁.setTop (mkF m 24 #[.val (.long q0), .second, .val (.long ((((q0 ^^^ ((q0.toUInt64 >>> ((30 : Int32) &&& 0x3f).toInt64.toUInt64).toInt64)) * (-4658895280553007687 : Int64)) ^^^ ((((q0 ^^^ ((q0.toUInt64 >>> ((30 : Int32) &&& 0x3f).toInt64.toUInt64).toInt64)) * (-4658895280553007687 : Int64)).toUInt64 >>> ((27 : Int32) &&& 0x3f).toInt64.toUInt64).toInt64)) * (-7723592293110705685 : Int64))), .second] [])) _
    refine XS.lloadN X0.here hx rfl (hb hby d4_24) rfl ?_
    show Steps p.tables e below (s₁.setTop (mkF m 25 #[.val (.long q0), .second, .val (.long ((((q0 ^^^ ((q0.toUInt64 >>> ((30 : Int32) &&& 0x3f).toInt64.toUInt64).toInt64)) * (-4658895280553007687 : Int64)) ^^^ ((((q0 ^^^ ((q0.toUInt64 >>> ((30 : Int32) &&& 0x3f).toInt64.toUInt64).toInt64)) * (-4658895280553007687 : Int64)).toUInt64 >>> ((27 : Int32) &&& 0x3f).toInt64.toUInt64).toInt64)) * (-7723592293110705685 : Int64))), .second] [(.long ((((q0 ^^^ ((q0.toUInt64 >>> ((30 : Int32) &&& 0x3f).toInt64.toUInt64).toInt64)) * (-4658895280553007687 : Int64)) ^^^ ((((q0 ^^^ ((q0.toUInt64 >>> ((30 : Int32) &&& 0x3f).toInt64.toUInt64).toInt64)) * (-4658895280553007687 : Int64)).toUInt64 >>> ((27 : Int32) &&& 0x3f).toInt64.toUInt64).toInt64)) * (-7723592293110705685 : Int64)))])) _
    refine XS.lloadN X0.here hx rfl (hb hby d4_25) rfl ?_
    show Steps p.tables e below (s₁.setTop (mkF m 26 #[.val (.long q0), .second, .val (.long ((((q0 ^^^ ((q0.toUInt64 >>> ((30 : Int32) &&& 0x3f).toInt64.toUInt64).toInt64)) * (-4658895280553007687 : Int64)) ^^^ ((((q0 ^^^ ((q0.toUInt64 >>> ((30 : Int32) &&& 0x3f).toInt64.toUInt64).toInt64)) * (-4658895280553007687 : Int64)).toUInt64 >>> ((27 : Int32) &&& 0x3f).toInt64.toUInt64).toInt64)) * (-7723592293110705685 : Int64))), .second] [(.long ((((q0 ^^^ ((q0.toUInt64 >>> ((30 : Int32) &&& 0x3f).toInt64.toUInt64).toInt64)) * (-4658895280553007687 : Int64)) ^^^ ((((q0 ^^^ ((q0.toUInt64 >>> ((30 : Int32) &&& 0x3f).toInt64.toUInt64).toInt64)) * (-4658895280553007687 : Int64)).toUInt64 >>> ((27 : Int32) &&& 0x3f).toInt64.toUInt64).toInt64)) * (-7723592293110705685 : Int64))), (.long ((((q0 ^^^ ((q0.toUInt64 >>> ((30 : Int32) &&& 0x3f).toInt64.toUInt64).toInt64)) * (-4658895280553007687 : Int64)) ^^^ ((((q0 ^^^ ((q0.toUInt64 >>> ((30 : Int32) &&& 0x3f).toInt64.toUInt64).toInt64)) * (-4658895280553007687 : Int64)).toUInt64 >>> ((27 : Int32) &&& 0x3f).toInt64.toUInt64).toInt64)) * (-7723592293110705685 : Int64)))])) _
    refine XS.bipush X0.here hx rfl (hb hby d4_26) ?_
    show Steps p.tables e below (s₁.setTop (mkF m 28 #[.val (.long q0), .second, .val (.long ((((q0 ^^^ ((q0.toUInt64 >>> ((30 : Int32) &&& 0x3f).toInt64.toUInt64).toInt64)) * (-4658895280553007687 : Int64)) ^^^ ((((q0 ^^^ ((q0.toUInt64 >>> ((30 : Int32) &&& 0x3f).toInt64.toUInt64).toInt64)) * (-4658895280553007687 : Int64)).toUInt64 >>> ((27 : Int32) &&& 0x3f).toInt64.toUInt64).toInt64)) * (-7723592293110705685 : Int64))), .second] [(.int (31 : Int32)), (.long ((((q0 ^^^ ((q0.toUInt64 >>> ((30 : Int32) &&& 0x3f).toInt64.toUInt64).toInt64)) * (-4658895280553007687 : Int64)) ^^^ ((((q0 ^^^ ((q0.toUInt64 >>> ((30 : Int32) &&& 0x3f).toInt64.toUInt64).toInt64)) * (-4658895280553007687 : Int64)).toUInt64 >>> ((27 : Int32) &&& 0x3f).toInt64.toUInt64).toInt64)) * (-7723592293110705685 : Int64))), (.long ((((q0 ^^^ ((q0.toUInt64 >>> ((30 : Int32) &&& 0x3f).toInt64.toUInt64).toInt64)) * (-4658895280553007687 : Int64)) ^^^ ((((q0 ^^^ ((q0.toUInt64 >>> ((30 : Int32) &&& 0x3f).toInt64.toUInt64).toInt64)) * (-4658895280553007687 : Int64)).toUInt64 >>> ((27 : Int32) &&& 0x3f).toInt64.toUInt64).toInt64)) * (-7723592293110705685 : Int64)))])) _
    refine XS.lushr X0.here hx rfl (hb hby d4_28) rfl ?_
    show Steps p.tables e below (s₁.setTop (mkF m 29 #[.val (.long q0), .second, .val (.long ((((q0 ^^^ ((q0.toUInt64 >>> ((30 : Int32) &&& 0x3f).toInt64.toUInt64).toInt64)) * (-4658895280553007687 : Int64)) ^^^ ((((q0 ^^^ ((q0.toUInt64 >>> ((30 : Int32) &&& 0x3f).toInt64.toUInt64).toInt64)) * (-4658895280553007687 : Int64)).toUInt64 >>> ((27 : Int32) &&& 0x3f).toInt64.toUInt64).toInt64)) * (-7723592293110705685 : Int64))), .second] [(.long ((((((q0 ^^^ ((q0.toUInt64 >>> ((30 : Int32) &&& 0x3f).toInt64.toUInt64).toInt64)) * (-4658895280553007687 : Int64)) ^^^ ((((q0 ^^^ ((q0.toUInt64 >>> ((30 : Int32) &&& 0x3f).toInt64.toUInt64).toInt64)) * (-4658895280553007687 : Int64)).toUInt64 >>> ((27 : Int32) &&& 0x3f).toInt64.toUInt64).toInt64)) * (-7723592293110705685 : Int64)).toUInt64 >>> ((31 : Int32) &&& 0x3f).toInt64.toUInt64).toInt64)), (.long ((((q0 ^^^ ((q0.toUInt64 >>> ((30 : Int32) &&& 0x3f).toInt64.toUInt64).toInt64)) * (-4658895280553007687 : Int64)) ^^^ ((((q0 ^^^ ((q0.toUInt64 >>> ((30 : Int32) &&& 0x3f).toInt64.toUInt64).toInt64)) * (-4658895280553007687 : Int64)).toUInt64 >>> ((27 : Int32) &&& 0x3f).toInt64.toUInt64).toInt64)) * (-7723592293110705685 : Int64)))])) _
    refine XS.lxor X0.here hx rfl (hb hby d4_29) rfl ?_
    show Steps p.tables e below (s₁.setTop (mkF m 30 #[.val (.long q0), .second, .val (.long ((((q0 ^^^ ((q0.toUInt64 >>> ((30 : Int32) &&& 0x3f).toInt64.toUInt64).toInt64)) * (-4658895280553007687 : Int64)) ^^^ ((((q0 ^^^ ((q0.toUInt64 >>> ((30 : Int32) &&& 0x3f).toInt64.toUInt64).toInt64)) * (-4658895280553007687 : Int64)).toUInt64 >>> ((27 : Int32) &&& 0x3f).toInt64.toUInt64).toInt64)) * (-7723592293110705685 : Int64))), .second] [(.long (((((q0 ^^^ ((q0.toUInt64 >>> ((30 : Int32) &&& 0x3f).toInt64.toUInt64).toInt64)) * (-4658895280553007687 : Int64)) ^^^ ((((q0 ^^^ ((q0.toUInt64 >>> ((30 : Int32) &&& 0x3f).toInt64.toUInt64).toInt64)) * (-4658895280553007687 : Int64)).toUInt64 >>> ((27 : Int32) &&& 0x3f).toInt64.toUInt64).toInt64)) * (-7723592293110705685 : Int64)) ^^^ ((((((q0 ^^^ ((q0.toUInt64 >>> ((30 : Int32) &&& 0x3f).toInt64.toUInt64).toInt64)) * (-4658895280553007687 : Int64)) ^^^ ((((q0 ^^^ ((q0.toUInt64 >>> ((30 : Int32) &&& 0x3f).toInt64.toUInt64).toInt64)) * (-4658895280553007687 : Int64)).toUInt64 >>> ((27 : Int32) &&& 0x3f).toInt64.toUInt64).toInt64)) * (-7723592293110705685 : Int64)).toUInt64 >>> ((31 : Int32) &&& 0x3f).toInt64.toUInt64).toInt64)))])) _
    exact X0.lreturnOut hx Bd.returns (hb hby d4_30) hr
  · show Q4 Z q0 h0 n0 _ s₁.heap _
    rw [e0]
    exact ⟨rfl, N0, rfl⟩
theorem ef_9 (m : MethodId) (x0 : Int64) : entryFrame m #[(.long x0)] 4 = mkF m 0 #[.val (.long x0), .second, .unset, .unset] [] := by first | (simp [entryFrame, mkF, argsToLocals, Value.category]; done) | rfl
theorem pn_com_example_gangleri_gangleri_generate_KroneckerGeneratorPermutePinLaw : plainName "com/example/gangleri/gangleri/generate/KroneckerGeneratorPermutePinLaw" = true := by first | (simp [plainName, overriddenIn]; done) | decide +kernel
theorem d9_0 : decode method_2_code 0 = .ok (.lload_n 0, 1) := by decide +kernel
theorem d9_1 : decode method_2_code 1 = .ok (.lstore_n 2, 1) := by decide +kernel
theorem d9_2 : decode method_2_code 2 = .ok (.lload_n 2, 1) := by decide +kernel
theorem d9_3 : decode method_2_code 3 = .ok (.lload_n 2, 1) := by decide +kernel
theorem d9_4 : decode method_2_code 4 = .ok (.bipush 30, 2) := by decide +kernel
theorem d9_6 : decode method_2_code 6 = .ok (.lushr, 1) := by decide +kernel
theorem d9_7 : decode method_2_code 7 = .ok (.lxor, 1) := by decide +kernel
theorem d9_8 : decode method_2_code 8 = .ok (.ldc2_w 7, 3) := by decide +kernel
theorem d9_11 : decode method_2_code 11 = .ok (.lmul, 1) := by decide +kernel
theorem d9_12 : decode method_2_code 12 = .ok (.lstore_n 2, 1) := by decide +kernel
theorem d9_13 : decode method_2_code 13 = .ok (.lload_n 2, 1) := by decide +kernel
theorem d9_14 : decode method_2_code 14 = .ok (.lload_n 2, 1) := by decide +kernel
theorem d9_15 : decode method_2_code 15 = .ok (.bipush 27, 2) := by decide +kernel
theorem d9_17 : decode method_2_code 17 = .ok (.lushr, 1) := by decide +kernel
theorem d9_18 : decode method_2_code 18 = .ok (.lxor, 1) := by decide +kernel
theorem d9_19 : decode method_2_code 19 = .ok (.ldc2_w 9, 3) := by decide +kernel
theorem d9_22 : decode method_2_code 22 = .ok (.lmul, 1) := by decide +kernel
theorem d9_23 : decode method_2_code 23 = .ok (.lstore_n 2, 1) := by decide +kernel
theorem d9_24 : decode method_2_code 24 = .ok (.lload_n 2, 1) := by decide +kernel
theorem d9_25 : decode method_2_code 25 = .ok (.lload_n 2, 1) := by decide +kernel
theorem d9_26 : decode method_2_code 26 = .ok (.bipush 31, 2) := by decide +kernel
theorem d9_28 : decode method_2_code 28 = .ok (.lushr, 1) := by decide +kernel
theorem d9_29 : decode method_2_code 29 = .ok (.lxor, 1) := by decide +kernel
theorem d9_30 : decode method_2_code 30 = .ok (.lreturn, 1) := by decide +kernel
def Q9 (Z : State) (q0 : Int64) (h0 : Heap) (n0 : Nat) (v : Option Value) (h : Heap) (L : List Loc) : Prop := v = some (.long (own_mix q0)) ∧ Fr n0 L ∧ h = h0
set_option maxRecDepth 65536 in
set_option maxHeartbeats 40000000 in
theorem rm9 (l : Launch) (Z : State) (a0 : Array Value) (hw : ∀ d ∈ tables_1, d.before a0 Z = true) (ws : List Jvm.Cond) (q0 : Int64) (h0 : Heap) (n0 : Nat) (Z0 : n0 ≤ h0.size)  :
    MetFree l (⟨"com/example/gangleri/gangleri/generate/KroneckerGeneratorPermutePinLaw", "mix", "(J)J"⟩ : MethodName) (head1 (Jvm.Cond.code (⟨"com/example/gangleri/gangleri/generate/KroneckerGeneratorPermutePinLaw", "mix", "(J)J"⟩ : MethodName) method_2_code 4 (some .long) :: ws) ({ frames := 0, cells := 0, slots := 0, locals := 0 } : Room)) (fun a U => a = #[(.long q0)] ∧ Z.Warmed39 U.vm ∧ U.heap = h0) (fun _ _ _ _ _ => True) (fun _ U o U' => ∃ v L, o = .returned v ∧ Q9 Z q0 h0 n0 v U'.heap L ∧ FrameEnd U o U' L ({ frames := 0, cells := 0, slots := 0, locals := 0 } : Room).cells ({ frames := 0, cells := 0, slots := 0, locals := 0 } : Room).slots) := by
  refine MetFree.of_bodySF (plainFor_of_name pn_com_example_gangleri_gangleri_generate_KroneckerGeneratorPermutePinLaw) hisR ?_
  intro p e s m args below meth c s₁ Bd hml0 hP hK
  obtain ⟨rfl, hZ, hh⟩ := hP
  have hx := Bd.exec
  have hby := Bd.bytes
  have hml : c.maxLocals = 4 := hml0
  have hown : s.vm.findClass "com/example/gangleri/gangleri/generate/KroneckerGeneratorPermutePinLaw" = some m.cls := findClass_of_methodNamed Bd.named
  have hnm := (name_of_methodNamed Bd.named Bd.method).1
  have X0 : Stand p l e ({ frames := 0, cells := 0, slots := 0, locals := 0 } : Room) s m #[(.long q0)] below meth c s₁ [] 0 0 := Stand.of_body Bd
  have e0 : s₁.heap = h0 := by rw [← hh, Bd.state]; rfl
  have N0 := Fr.nil n0
  have pre0 : ∀ t, Steps p.tables e below (s₁.setTop (mkF m 0 #[.val (.long q0), .second, .unset, .unset] [])) t → Steps p.tables e below (s₁.setTop (entryFrame m #[(.long q0)] 4)) t := fun t k => castTop (ef_9 m q0) k
  obtain ⟨fs, hr, hrun, hended, hW, hsame⟩ := X0.leave (v := some (.long (((((q0 ^^^ ((q0.toUInt64 >>> ((30 : Int32) &&& 0x3f).toInt64.toUInt64).toInt64)) * (-4658895280553007687 : Int64)) ^^^ ((((q0 ^^^ ((q0.toUInt64 >>> ((30 : Int32) &&& 0x3f).toInt64.toUInt64).toInt64)) * (-4658895280553007687 : Int64)).toUInt64 >>> ((27 : Int32) &&& 0x3f).toInt64.toUInt64).toInt64)) * (-7723592293110705685 : Int64)) ^^^ ((((((q0 ^^^ ((q0.toUInt64 >>> ((30 : Int32) &&& 0x3f).toInt64.toUInt64).toInt64)) * (-4658895280553007687 : Int64)) ^^^ ((((q0 ^^^ ((q0.toUInt64 >>> ((30 : Int32) &&& 0x3f).toInt64.toUInt64).toInt64)) * (-4658895280553007687 : Int64)).toUInt64 >>> ((27 : Int32) &&& 0x3f).toInt64.toUInt64).toInt64)) * (-7723592293110705685 : Int64)).toUInt64 >>> ((31 : Int32) &&& 0x3f).toInt64.toUInt64).toInt64)))) (fun h => by rw [Bd.returns] at h; cases h)
  refine ⟨_, _, pre0 _ ?_, hrun, hended, _, _, rfl, ?_, ⟨_, rfl⟩, hW, hsame.mono (by decide) (by decide)⟩
  · show Steps p.tables e below (s₁.setTop (mkF m 0 #[.val (.long q0), .second, .unset, .unset] [])) _
    refine XS.lloadN X0.here hx rfl (hb hby d9_0) rfl ?_
    show Steps p.tables e below (s₁.setTop (mkF m 1 #[.val (.long q0), .second, .unset, .unset] [(.long q0)])) _
    refine XS.lstoreN X0.here hx rfl (hb hby d9_1) rfl (l' := #[.val (.long q0), .second, .val (.long q0), .second]) rfl ?_
    show Steps p.tables e below (s₁.setTop (mkF m 2 #[.val (.long q0), .second, .val (.long q0), .second] [])) _
    refine XS.lloadN X0.here hx rfl (hb hby d9_2) rfl ?_
    show Steps p.tables e below (s₁.setTop (mkF m 3 #[.val (.long q0), .second, .val (.long q0), .second] [(.long q0)])) _
    refine XS.lloadN X0.here hx rfl (hb hby d9_3) rfl ?_
    show Steps p.tables e below (s₁.setTop (mkF m 4 #[.val (.long q0), .second, .val (.long q0), .second] [(.long q0), (.long q0)])) _
    refine XS.bipush X0.here hx rfl (hb hby d9_4) ?_
    show Steps p.tables e below (s₁.setTop (mkF m 6 #[.val (.long q0), .second, .val (.long q0), .second] [(.int (30 : Int32)), (.long q0), (.long q0)])) _
    refine XS.lushr X0.here hx rfl (hb hby d9_6) rfl ?_
    show Steps p.tables e below (s₁.setTop (mkF m 7 #[.val (.long q0), .second, .val (.long q0), .second] [(.long ((q0.toUInt64 >>> ((30 : Int32) &&& 0x3f).toInt64.toUInt64).toInt64)), (.long q0)])) _
    refine XS.lxor X0.here hx rfl (hb hby d9_7) rfl ?_
    show Steps p.tables e below (s₁.setTop (mkF m 8 #[.val (.long q0), .second, .val (.long q0), .second] [(.long (q0 ^^^ ((q0.toUInt64 >>> ((30 : Int32) &&& 0x3f).toInt64.toUInt64).toInt64)))])) _
    refine X0.ldc2Long hx hown (mvT hZ (hw _ (List.mem_of_getElem? (i := 55) rfl))) (g := (mkF m 8 #[.val (.long q0), .second, .val (.long q0), .second] [(.long (q0 ^^^ ((q0.toUInt64 >>> ((30 : Int32) &&& 0x3f).toInt64.toUInt64).toInt64)))])) rfl (hb hby d9_8) _ ?_
    show Steps p.tables e below (s₁.setTop (mkF m 11 #[.val (.long q0), .second, .val (.long q0), .second] [(.long (-4658895280553007687 : Int64)), (.long (q0 ^^^ ((q0.toUInt64 >>> ((30 : Int32) &&& 0x3f).toInt64.toUInt64).toInt64)))])) _
    refine XS.lmul X0.here hx rfl (hb hby d9_11) rfl ?_
    show Steps p.tables e below (s₁.setTop (mkF m 12 #[.val (.long q0), .second, .val (.long q0), .second] [(.long ((q0 ^^^ ((q0.toUInt64 >>> ((30 : Int32) &&& 0x3f).toInt64.toUInt64).toInt64)) * (-4658895280553007687 : Int64)))])) _
    refine XS.lstoreN X0.here hx rfl (hb hby d9_12) rfl (l' := #[.val (.long q0), .second, .val (.long ((q0 ^^^ ((q0.toUInt64 >>> ((30 : Int32) &&& 0x3f).toInt64.toUInt64).toInt64)) * (-4658895280553007687 : Int64))), .second]) rfl ?_
    show Steps p.tables e below (s₁.setTop (mkF m 13 #[.val (.long q0), .second, .val (.long ((q0 ^^^ ((q0.toUInt64 >>> ((30 : Int32) &&& 0x3f).toInt64.toUInt64).toInt64)) * (-4658895280553007687 : Int64))), .second] [])) _
    refine XS.lloadN X0.here hx rfl (hb hby d9_13) rfl ?_
    show Steps p.tables e below (s₁.setTop (mkF m 14 #[.val (.long q0), .second, .val (.long ((q0 ^^^ ((q0.toUInt64 >>> ((30 : Int32) &&& 0x3f).toInt64.toUInt64).toInt64)) * (-4658895280553007687 : Int64))), .second] [(.long ((q0 ^^^ ((q0.toUInt64 >>> ((30 : Int32) &&& 0x3f).toInt64.toUInt64).toInt64)) * (-4658895280553007687 : Int64)))])) _
    refine XS.lloadN X0.here hx rfl (hb hby d9_14) rfl ?_
    show Steps p.tables e below (s₁.setTop (mkF m 15 #[.val (.long q0), .second, .val (.long ((q0 ^^^ ((q0.toUInt64 >>> ((30 : Int32) &&& 0x3f).toInt64.toUInt64).toInt64)) * (-4658895280553007687 : Int64))), .second] [(.long ((q0 ^^^ ((q0.toUInt64 >>> ((30 : Int32) &&& 0x3f).toInt64.toUInt64).toInt64)) * (-4658895280553007687 : Int64))), (.long ((q0 ^^^ ((q0.toUInt64 >>> ((30 : Int32) &&& 0x3f).toInt64.toUInt64).toInt64)) * (-4658895280553007687 : Int64)))])) _
    refine XS.bipush X0.here hx rfl (hb hby d9_15) ?_
    show Steps p.tables e below (s₁.setTop (mkF m 17 #[.val (.long q0), .second, .val (.long ((q0 ^^^ ((q0.toUInt64 >>> ((30 : Int32) &&& 0x3f).toInt64.toUInt64).toInt64)) * (-4658895280553007687 : Int64))), .second] [(.int (27 : Int32)), (.long ((q0 ^^^ ((q0.toUInt64 >>> ((30 : Int32) &&& 0x3f).toInt64.toUInt64).toInt64)) * (-4658895280553007687 : Int64))), (.long ((q0 ^^^ ((q0.toUInt64 >>> ((30 : Int32) &&& 0x3f).toInt64.toUInt64).toInt64)) * (-4658895280553007687 : Int64)))])) _
    refine XS.lushr X0.here hx rfl (hb hby d9_17) rfl ?_
    show Steps p.tables e below (s₁.setTop (mkF m 18 #[.val (.long q0), .second, .val (.long ((q0 ^^^ ((q0.toUInt64 >>> ((30 : Int32) &&& 0x3f).toInt64.toUInt64).toInt64)) * (-4658895280553007687 : Int64))), .second] [(.long ((((q0 ^^^ ((q0.toUInt64 >>> ((30 : Int32) &&& 0x3f).toInt64.toUInt64).toInt64)) * (-4658895280553007687 : Int64)).toUInt64 >>> ((27 : Int32) &&& 0x3f).toInt64.toUInt64).toInt64)), (.long ((q0 ^^^ ((q0.toUInt64 >>> ((30 : Int32) &&& 0x3f).toInt64.toUInt64).toInt64)) * (-4658895280553007687 : Int64)))])) _
    refine XS.lxor X0.here hx rfl (hb hby d9_18) rfl ?_
    show Steps p.tables e below (s₁.setTop (mkF m 19 #[.val (.long q0), .second, .val (.long ((q0 ^^^ ((q0.toUInt64 >>> ((30 : Int32) &&& 0x3f).toInt64.toUInt64).toInt64)) * (-4658895280553007687 : Int64))), .second] [(.long (((q0 ^^^ ((q0.toUInt64 >>> ((30 : Int32) &&& 0x3f).toInt64.toUInt64).toInt64)) * (-4658895280553007687 : Int64)) ^^^ ((((q0 ^^^ ((q0.toUInt64 >>> ((30 : Int32) &&& 0x3f).toInt64.toUInt64).toInt64)) * (-4658895280553007687 : Int64)).toUInt64 >>> ((27 : Int32) &&& 0x3f).toInt64.toUInt64).toInt64)))])) _
    refine X0.ldc2Long hx hown (mvT hZ (hw _ (List.mem_of_getElem? (i := 56) rfl))) (g := (mkF m 19 #[.val (.long q0), .second, .val (.long ((q0 ^^^ ((q0.toUInt64 >>> ((30 : Int32) &&& 0x3f).toInt64.toUInt64).toInt64)) * (-4658895280553007687 : Int64))), .second] [(.long (((q0 ^^^ ((q0.toUInt64 >>> ((30 : Int32) &&& 0x3f).toInt64.toUInt64).toInt64)) * (-4658895280553007687 : Int64)) ^^^ ((((q0 ^^^ ((q0.toUInt64 >>> ((30 : Int32) &&& 0x3f).toInt64.toUInt64).toInt64)) * (-4658895280553007687 : Int64)).toUInt64 >>> ((27 : Int32) &&& 0x3f).toInt64.toUInt64).toInt64)))])) rfl (hb hby d9_19) _ ?_
    show Steps p.tables e below (s₁.setTop (mkF m 22 #[.val (.long q0), .second, .val (.long ((q0 ^^^ ((q0.toUInt64 >>> ((30 : Int32) &&& 0x3f).toInt64.toUInt64).toInt64)) * (-4658895280553007687 : Int64))), .second] [(.long (-7723592293110705685 : Int64)), (.long (((q0 ^^^ ((q0.toUInt64 >>> ((30 : Int32) &&& 0x3f).toInt64.toUInt64).toInt64)) * (-4658895280553007687 : Int64)) ^^^ ((((q0 ^^^ ((q0.toUInt64 >>> ((30 : Int32) &&& 0x3f).toInt64.toUInt64).toInt64)) * (-4658895280553007687 : Int64)).toUInt64 >>> ((27 : Int32) &&& 0x3f).toInt64.toUInt64).toInt64)))])) _
    refine XS.lmul X0.here hx rfl (hb hby d9_22) rfl ?_
    show Steps p.tables e below (s₁.setTop (mkF m 23 #[.val (.long q0), .second, .val (.long ((q0 ^^^ ((q0.toUInt64 >>> ((30 : Int32) &&& 0x3f).toInt64.toUInt64).toInt64)) * (-4658895280553007687 : Int64))), .second] [(.long ((((q0 ^^^ ((q0.toUInt64 >>> ((30 : Int32) &&& 0x3f).toInt64.toUInt64).toInt64)) * (-4658895280553007687 : Int64)) ^^^ ((((q0 ^^^ ((q0.toUInt64 >>> ((30 : Int32) &&& 0x3f).toInt64.toUInt64).toInt64)) * (-4658895280553007687 : Int64)).toUInt64 >>> ((27 : Int32) &&& 0x3f).toInt64.toUInt64).toInt64)) * (-7723592293110705685 : Int64)))])) _
    refine XS.lstoreN X0.here hx rfl (hb hby d9_23) rfl (l' := #[.val (.long q0), .second, .val (.long ((((q0 ^^^ ((q0.toUInt64 >>> ((30 : Int32) &&& 0x3f).toInt64.toUInt64).toInt64)) * (-4658895280553007687 : Int64)) ^^^ ((((q0 ^^^ ((q0.toUInt64 >>> ((30 : Int32) &&& 0x3f).toInt64.toUInt64).toInt64)) * (-4658895280553007687 : Int64)).toUInt64 >>> ((27 : Int32) &&& 0x3f).toInt64.toUInt64).toInt64)) * (-7723592293110705685 : Int64))), .second]) rfl ?_
    show Steps p.tables e below (s₁.setTop (mkF m 24 #[.val (.long q0), .second, .val (.long ((((q0 ^^^ ((q0.toUInt64 >>> ((30 : Int32) &&& 0x3f).toInt64.toUInt64).toInt64)) * (-4658895280553007687 : Int64)) ^^^ ((((q0 ^^^ ((q0.toUInt64 >>> ((30 : Int32) &&& 0x3f).toInt64.toUInt64).toInt64)) * (-4658895280553007687 : Int64)).toUInt64 >>> ((27 : Int32) &&& 0x3f).toInt64.toUInt64).toInt64)) * (-7723592293110705685 : Int64))), .second] [])) _
    refine XS.lloadN X0.here hx rfl (hb hby d9_24) rfl ?_
    show Steps p.tables e below (s₁.setTop (mkF m 25 #[.val (.long q0), .second, .val (.long ((((q0 ^^^ ((q0.toUInt64 >>> ((30 : Int32) &&& 0x3f).toInt64.toUInt64).toInt64)) * (-4658895280553007687 : Int64)) ^^^ ((((q0 ^^^ ((q0.toUInt64 >>> ((30 : Int32) &&& 0x3f).toInt64.toUInt64).toInt64)) * (-4658895280553007687 : Int64)).toUInt64 >>> ((27 : Int32) &&& 0x3f).toInt64.toUInt64).toInt64)) * (-7723592293110705685 : Int64))), .second] [(.long ((((q0 ^^^ ((q0.toUInt64 >>> ((30 : Int32) &&& 0x3f).toInt64.toUInt64).toInt64)) * (-4658895280553007687 : Int64)) ^^^ ((((q0 ^^^ ((q0.toUInt64 >>> ((30 : Int32) &&& 0x3f).toInt64.toUInt64).toInt64)) * (-4658895280553007687 : Int64)).toUInt64 >>> ((27 : Int32) &&& 0x3f).toInt64.toUInt64).toInt64)) * (-7723592293110705685 : Int64)))])) _
    refine XS.lloadN X0.here hx rfl (hb hby d9_25) rfl ?_
    show Steps p.tables e below (s₁.setTop (mkF m 26 #[.val (.long q0), .second, .val (.long ((((q0 ^^^ ((q0.toUInt64 >>> ((30 : Int32) &&& 0x3f).toInt64.toUInt64).toInt64)) * (-4658895280553007687 : Int64)) ^^^ ((((q0 ^^^ ((q0.toUInt64 >>> ((30 : Int32) &&& 0x3f).toInt64.toUInt64).toInt64)) * (-4658895280553007687 : Int64)).toUInt64 >>> ((27 : Int32) &&& 0x3f).toInt64.toUInt64).toInt64)) * (-7723592293110705685 : Int64))), .second] [(.long ((((q0 ^^^ ((q0.toUInt64 >>> ((30 : Int32) &&& 0x3f).toInt64.toUInt64).toInt64)) * (-4658895280553007687 : Int64)) ^^^ ((((q0 ^^^ ((q0.toUInt64 >>> ((30 : Int32) &&& 0x3f).toInt64.toUInt64).toInt64)) * (-4658895280553007687 : Int64)).toUInt64 >>> ((27 : Int32) &&& 0x3f).toInt64.toUInt64).toInt64)) * (-7723592293110705685 : Int64))), (.long ((((q0 ^^^ ((q0.toUInt64 >>> ((30 : Int32) &&& 0x3f).toInt64.toUInt64).toInt64)) * (-4658895280553007687 : Int64)) ^^^ ((((q0 ^^^ ((q0.toUInt64 >>> ((30 : Int32) &&& 0x3f).toInt64.toUInt64).toInt64)) * (-4658895280553007687 : Int64)).toUInt64 >>> ((27 : Int32) &&& 0x3f).toInt64.toUInt64).toInt64)) * (-7723592293110705685 : Int64)))])) _
    refine XS.bipush X0.here hx rfl (hb hby d9_26) ?_
    show Steps p.tables e below (s₁.setTop (mkF m 28 #[.val (.long q0), .second, .val (.long ((((q0 ^^^ ((q0.toUInt64 >>> ((30 : Int32) &&& 0x3f).toInt64.toUInt64).toInt64)) * (-4658895280553007687 : Int64)) ^^^ ((((q0 ^^^ ((q0.toUInt64 >>> ((30 : Int32) &&& 0x3f).toInt64.toUInt64).toInt64)) * (-4658895280553007687 : Int64)).toUInt64 >>> ((27 : Int32) &&& 0x3f).toInt64.toUInt64).toInt64)) * (-7723592293110705685 : Int64))), .second] [(.int (31 : Int32)), (.long ((((q0 ^^^ ((q0.toUInt64 >>> ((30 : Int32) &&& 0x3f).toInt64.toUInt64).toInt64)) * (-4658895280553007687 : Int64)) ^^^ ((((q0 ^^^ ((q0.toUInt64 >>> ((30 : Int32) &&& 0x3f).toInt64.toUInt64).toInt64)) * (-4658895280553007687 : Int64)).toUInt64 >>> ((27 : Int32) &&& 0x3f).toInt64.toUInt64).toInt64)) * (-7723592293110705685 : Int64))), (.long ((((q0 ^^^ ((q0.toUInt64 >>> ((30 : Int32) &&& 0x3f).toInt64.toUInt64).toInt64)) * (-4658895280553007687 : Int64)) ^^^ ((((q0 ^^^ ((q0.toUInt64 >>> ((30 : Int32) &&& 0x3f).toInt64.toUInt64).toInt64)) * (-4658895280553007687 : Int64)).toUInt64 >>> ((27 : Int32) &&& 0x3f).toInt64.toUInt64).toInt64)) * (-7723592293110705685 : Int64)))])) _
    refine XS.lushr X0.here hx rfl (hb hby d9_28) rfl ?_
    show Steps p.tables e below (s₁.setTop (mkF m 29 #[.val (.long q0), .second, .val (.long ((((q0 ^^^ ((q0.toUInt64 >>> ((30 : Int32) &&& 0x3f).toInt64.toUInt64).toInt64)) * (-4658895280553007687 : Int64)) ^^^ ((((q0 ^^^ ((q0.toUInt64 >>> ((30 : Int32) &&& 0x3f).toInt64.toUInt64).toInt64)) * (-4658895280553007687 : Int64)).toUInt64 >>> ((27 : Int32) &&& 0x3f).toInt64.toUInt64).toInt64)) * (-7723592293110705685 : Int64))), .second] [(.long ((((((q0 ^^^ ((q0.toUInt64 >>> ((30 : Int32) &&& 0x3f).toInt64.toUInt64).toInt64)) * (-4658895280553007687 : Int64)) ^^^ ((((q0 ^^^ ((q0.toUInt64 >>> ((30 : Int32) &&& 0x3f).toInt64.toUInt64).toInt64)) * (-4658895280553007687 : Int64)).toUInt64 >>> ((27 : Int32) &&& 0x3f).toInt64.toUInt64).toInt64)) * (-7723592293110705685 : Int64)).toUInt64 >>> ((31 : Int32) &&& 0x3f).toInt64.toUInt64).toInt64)), (.long ((((q0 ^^^ ((q0.toUInt64 >>> ((30 : Int32) &&& 0x3f).toInt64.toUInt64).toInt64)) * (-4658895280553007687 : Int64)) ^^^ ((((q0 ^^^ ((q0.toUInt64 >>> ((30 : Int32) &&& 0x3f).toInt64.toUInt64).toInt64)) * (-4658895280553007687 : Int64)).toUInt64 >>> ((27 : Int32) &&& 0x3f).toInt64.toUInt64).toInt64)) * (-7723592293110705685 : Int64)))])) _
    refine XS.lxor X0.here hx rfl (hb hby d9_29) rfl ?_
    show Steps p.tables e below (s₁.setTop (mkF m 30 #[.val (.long q0), .second, .val (.long ((((q0 ^^^ ((q0.toUInt64 >>> ((30 : Int32) &&& 0x3f).toInt64.toUInt64).toInt64)) * (-4658895280553007687 : Int64)) ^^^ ((((q0 ^^^ ((q0.toUInt64 >>> ((30 : Int32) &&& 0x3f).toInt64.toUInt64).toInt64)) * (-4658895280553007687 : Int64)).toUInt64 >>> ((27 : Int32) &&& 0x3f).toInt64.toUInt64).toInt64)) * (-7723592293110705685 : Int64))), .second] [(.long (((((q0 ^^^ ((q0.toUInt64 >>> ((30 : Int32) &&& 0x3f).toInt64.toUInt64).toInt64)) * (-4658895280553007687 : Int64)) ^^^ ((((q0 ^^^ ((q0.toUInt64 >>> ((30 : Int32) &&& 0x3f).toInt64.toUInt64).toInt64)) * (-4658895280553007687 : Int64)).toUInt64 >>> ((27 : Int32) &&& 0x3f).toInt64.toUInt64).toInt64)) * (-7723592293110705685 : Int64)) ^^^ ((((((q0 ^^^ ((q0.toUInt64 >>> ((30 : Int32) &&& 0x3f).toInt64.toUInt64).toInt64)) * (-4658895280553007687 : Int64)) ^^^ ((((q0 ^^^ ((q0.toUInt64 >>> ((30 : Int32) &&& 0x3f).toInt64.toUInt64).toInt64)) * (-4658895280553007687 : Int64)).toUInt64 >>> ((27 : Int32) &&& 0x3f).toInt64.toUInt64).toInt64)) * (-7723592293110705685 : Int64)).toUInt64 >>> ((31 : Int32) &&& 0x3f).toInt64.toUInt64).toInt64)))])) _
    exact X0.lreturnOut hx Bd.returns (hb hby d9_30) hr
  · show Q9 Z q0 h0 n0 _ s₁.heap _
    rw [e0]
    exact ⟨rfl, N0, rfl⟩
theorem ef_8 (m : MethodId) (x0 : Int64) (x1 : Int64) : entryFrame m #[(.long x0), (.long x1)] 4 = mkF m 0 #[.val (.long x0), .second, .val (.long x1), .second] [] := by first | (simp [entryFrame, mkF, argsToLocals, Value.category]; done) | rfl
theorem d8_0 : decode method_3_code 0 = .ok (.lload_n 0, 1) := by decide +kernel
theorem d8_1 : decode method_3_code 1 = .ok (.lload_n 2, 1) := by decide +kernel
theorem d8_2 : decode method_3_code 2 = .ok (.lconst 1, 1) := by decide +kernel
theorem d8_3 : decode method_3_code 3 = .ok (.ladd, 1) := by decide +kernel
theorem d8_4 : decode method_3_code 4 = .ok (.ldc2_w 13, 3) := by decide +kernel
theorem d8_7 : decode method_3_code 7 = .ok (.lmul, 1) := by decide +kernel
theorem d8_8 : decode method_3_code 8 = .ok (.ladd, 1) := by decide +kernel
theorem d8_9 : decode method_3_code 9 = .ok (.invokestatic 15, 3) := by decide +kernel
theorem pd_28J29J : parseMethodDescriptor "(J)J" = some ⟨[.long], some .long⟩ := by decide +kernel
theorem d8_12 : decode method_3_code 12 = .ok (.lreturn, 1) := by decide +kernel
def Q8 (Z : State) (q0 : Int64) (q1 : Int64) (h0 : Heap) (n0 : Nat) (v : Option Value) (h : Heap) (L : List Loc) : Prop := v = some (.long (own_word q0 q1)) ∧ Fr n0 L ∧ h = h0
set_option maxRecDepth 65536 in
set_option maxHeartbeats 40000000 in
theorem rm8 (l : Launch) (Z : State) (a0 : Array Value) (hw : ∀ d ∈ tables_1, d.before a0 Z = true) (ws : List Jvm.Cond) (q0 : Int64) (q1 : Int64) (h0 : Heap) (n0 : Nat) (Z0 : n0 ≤ h0.size)  :
    MetFree l (⟨"com/example/gangleri/gangleri/generate/KroneckerGeneratorPermutePinLaw", "word", "(JJ)J"⟩ : MethodName) (head1 (Jvm.Cond.code (⟨"com/example/gangleri/gangleri/generate/KroneckerGeneratorPermutePinLaw", "word", "(JJ)J"⟩ : MethodName) method_3_code 4 (some .long) :: ws) ({ frames := 1, cells := 0, slots := 0, locals := 15 } : Room)) (fun a U => a = #[(.long q0), (.long q1)] ∧ Z.Warmed39 U.vm ∧ U.heap = h0) (fun _ _ _ _ _ => True) (fun _ U o U' => ∃ v L, o = .returned v ∧ Q8 Z q0 q1 h0 n0 v U'.heap L ∧ FrameEnd U o U' L ({ frames := 1, cells := 0, slots := 0, locals := 15 } : Room).cells ({ frames := 1, cells := 0, slots := 0, locals := 15 } : Room).slots) := by
  refine MetFree.of_bodySF (plainFor_of_name pn_com_example_gangleri_gangleri_generate_KroneckerGeneratorPermutePinLaw) hisR ?_
  intro p e s m args below meth c s₁ Bd hml0 hP hK
  obtain ⟨rfl, hZ, hh⟩ := hP
  have hx := Bd.exec
  have hby := Bd.bytes
  have hml : c.maxLocals = 4 := hml0
  have hown : s.vm.findClass "com/example/gangleri/gangleri/generate/KroneckerGeneratorPermutePinLaw" = some m.cls := findClass_of_methodNamed Bd.named
  have hnm := (name_of_methodNamed Bd.named Bd.method).1
  have X0 : Stand p l e ({ frames := 1, cells := 0, slots := 0, locals := 15 } : Room) s m #[(.long q0), (.long q1)] below meth c s₁ [] 0 0 := Stand.of_body Bd
  have e0 : s₁.heap = h0 := by rw [← hh, Bd.state]; rfl
  have N0 := Fr.nil n0
  have pre0 : ∀ t, Steps p.tables e below (s₁.setTop (mkF m 0 #[.val (.long q0), .second, .val (.long q1), .second] [])) t → Steps p.tables e below (s₁.setTop (entryFrame m #[(.long q0), (.long q1)] 4)) t := fun t k => castTop (ef_8 m q0 q1) k
  obtain ⟨_, _, ⟨T1, L1, k1, n1⟩, -, X1, ⟨Lc1, hQ1, l1, y1, z1⟩, st1⟩ := Jvm.LawKit.callS X0 hx (y := (⟨"com/example/gangleri/gangleri/generate/KroneckerGeneratorPermutePinLaw", "mix", "(J)J"⟩ : MethodName)) hown (mvT hZ (hw _ (List.mem_of_getElem? (i := 52) rfl))) (mvT hZ (hw _ (List.mem_of_getElem? (i := 53) rfl))) (mvT hZ (hw _ (List.mem_of_getElem? (i := 42) rfl))) (mvT hZ (hw _ (List.mem_of_getElem? (i := 54) rfl))) (by decide) (backOf (W := 0) (rm9 l Z a0 hw [] (q0 + ((q1 + (1 : Int64)) * (-7046029254386353131 : Int64))) h0 n0 Z0) hZ (hw _ (List.mem_of_getElem? (i := 54) rfl)) (hw _ (List.mem_of_getElem? (i := 42) rfl)) (by decide) (by decide)) (g := (mkF m 9 #[.val (.long q0), .second, .val (.long q1), .second] [(.long (q0 + ((q1 + (1 : Int64)) * (-7046029254386353131 : Int64))))])) rfl (by rw [hml]; rfl) (argsL := [(.long (q0 + ((q1 + (1 : Int64)) * (-7046029254386353131 : Int64))))]) (rest := []) (lenOf pd_28J29J rfl) rfl (by show 2 * 0 + _ ≤ _; exact Nat.le_of_eq rfl) (hb hby d8_9) (fun _ _ => ⟨rfl, e0, (by decide : 0 + 0 ≤ _), (by decide : 0 + 0 ≤ _)⟩)
  dsimp only [Pt.U, Pt.locs, Pt.cells, Pt.slots] at X1 l1 y1 z1 st1 hQ1
  subst l1 y1 z1
  obtain ⟨rfl, N1q, e1⟩ := hQ1
  have N1 := Fr.app N0 N1q
  obtain ⟨fs, hr, hrun, hended, hW, hsame⟩ := X1.leave (v := some (.long (own_mix (q0 + ((q1 + (1 : Int64)) * (-7046029254386353131 : Int64)))))) (fun h => by rw [Bd.returns] at h; cases h)
  refine ⟨_, _, pre0 _ ?_, hrun, hended, _, _, rfl, ?_, ⟨_, rfl⟩, hW, hsame.mono (by decide) (by decide)⟩
  · show Steps p.tables e below (s₁.setTop (mkF m 0 #[.val (.long q0), .second, .val (.long q1), .second] [])) _
    refine XS.lloadN X0.here hx rfl (hb hby d8_0) rfl ?_
    show Steps p.tables e below (s₁.setTop (mkF m 1 #[.val (.long q0), .second, .val (.long q1), .second] [(.long q0)])) _
    refine XS.lloadN X0.here hx rfl (hb hby d8_1) rfl ?_
    show Steps p.tables e below (s₁.setTop (mkF m 2 #[.val (.long q0), .second, .val (.long q1), .second] [(.long q1), (.long q0)])) _
    refine XS.lconst X0.here hx rfl (hb hby d8_2) ?_
    show Steps p.tables e below (s₁.setTop (mkF m 3 #[.val (.long q0), .second, .val (.long q1), .second] [(.long (1 : Int64)), (.long q1), (.long q0)])) _
    refine XS.ladd X0.here hx rfl (hb hby d8_3) rfl ?_
    show Steps p.tables e below (s₁.setTop (mkF m 4 #[.val (.long q0), .second, .val (.long q1), .second] [(.long (q1 + (1 : Int64))), (.long q0)])) _
    refine X0.ldc2Long hx hown (mvT hZ (hw _ (List.mem_of_getElem? (i := 51) rfl))) (g := (mkF m 4 #[.val (.long q0), .second, .val (.long q1), .second] [(.long (q1 + (1 : Int64))), (.long q0)])) rfl (hb hby d8_4) _ ?_
    show Steps p.tables e below (s₁.setTop (mkF m 7 #[.val (.long q0), .second, .val (.long q1), .second] [(.long (-7046029254386353131 : Int64)), (.long (q1 + (1 : Int64))), (.long q0)])) _
    refine XS.lmul X0.here hx rfl (hb hby d8_7) rfl ?_
    show Steps p.tables e below (s₁.setTop (mkF m 8 #[.val (.long q0), .second, .val (.long q1), .second] [(.long ((q1 + (1 : Int64)) * (-7046029254386353131 : Int64))), (.long q0)])) _
    refine XS.ladd X0.here hx rfl (hb hby d8_8) rfl ?_
    show Steps p.tables e below (s₁.setTop (mkF m 9 #[.val (.long q0), .second, .val (.long q1), .second] [(.long (q0 + ((q1 + (1 : Int64)) * (-7046029254386353131 : Int64))))])) _
    refine st1 _ ?_
    show Steps p.tables e below (T1.setTop (mkF m 12 #[.val (.long q0), .second, .val (.long q1), .second] [(.long (own_mix (q0 + ((q1 + (1 : Int64)) * (-7046029254386353131 : Int64)))))])) _
    exact X1.lreturnOut hx Bd.returns (hb hby d8_12) hr
  · show Q8 Z q0 q1 h0 n0 _ T1.heap _
    rw [e1]
    exact ⟨rfl, N1, rfl⟩
theorem ef_7 (m : MethodId) (x0 : Int64) (x1 : Int64) (x2 : Int32) (x3 : Int64) (x4 : Int32) : entryFrame m #[(.long x0), (.long x1), (.int x2), (.long x3), (.int x4)] 14 = mkF m 0 #[.val (.long x0), .second, .val (.long x1), .second, .val (.int x2), .val (.long x3), .second, .val (.int x4), .unset, .unset, .unset, .unset, .unset, .unset] [] := by first | (simp [entryFrame, mkF, argsToLocals, Value.category]; done) | rfl
theorem d7_0 : decode method_4_code 0 = .ok (.lload_n 2, 1) := by decide +kernel
theorem d7_1 : decode method_4_code 1 = .ok (.ldc2_w 19, 3) := by decide +kernel
theorem d7_4 : decode method_4_code 4 = .ok (.iload 4, 2) := by decide +kernel
theorem d7_6 : decode method_4_code 6 = .ok (.i2l, 1) := by decide +kernel
theorem d7_7 : decode method_4_code 7 = .ok (.lmul, 1) := by decide +kernel
theorem d7_8 : decode method_4_code 8 = .ok (.invokestatic 21, 3) := by decide +kernel
theorem pd_28JJ29J : parseMethodDescriptor "(JJ)J" = some ⟨[.long, .long], some .long⟩ := by decide +kernel
theorem d7_11 : decode method_4_code 11 = .ok (.lstore 8, 2) := by decide +kernel
theorem d7_13 : decode method_4_code 13 = .ok (.lload_n 2, 1) := by decide +kernel
theorem d7_14 : decode method_4_code 14 = .ok (.ldc2_w 19, 3) := by decide +kernel
theorem d7_17 : decode method_4_code 17 = .ok (.iload 4, 2) := by decide +kernel
theorem d7_19 : decode method_4_code 19 = .ok (.i2l, 1) := by decide +kernel
theorem d7_20 : decode method_4_code 20 = .ok (.lmul, 1) := by decide +kernel
theorem d7_21 : decode method_4_code 21 = .ok (.lconst 1, 1) := by decide +kernel
theorem d7_22 : decode method_4_code 22 = .ok (.ladd, 1) := by decide +kernel
theorem d7_23 : decode method_4_code 23 = .ok (.invokestatic 21, 3) := by decide +kernel
theorem d7_26 : decode method_4_code 26 = .ok (.lconst 1, 1) := by decide +kernel
theorem d7_27 : decode method_4_code 27 = .ok (.lor, 1) := by decide +kernel
theorem d7_28 : decode method_4_code 28 = .ok (.lstore 10, 2) := by decide +kernel
theorem d7_30 : decode method_4_code 30 = .ok (.lload_n 0, 1) := by decide +kernel
theorem d7_31 : decode method_4_code 31 = .ok (.lload 8, 2) := by decide +kernel
theorem d7_33 : decode method_4_code 33 = .ok (.ladd, 1) := by decide +kernel
theorem d7_34 : decode method_4_code 34 = .ok (.lload 5, 2) := by decide +kernel
theorem d7_36 : decode method_4_code 36 = .ok (.land, 1) := by decide +kernel
theorem d7_37 : decode method_4_code 37 = .ok (.lstore 12, 2) := by decide +kernel
theorem d7_39 : decode method_4_code 39 = .ok (.lload 12, 2) := by decide +kernel
theorem d7_41 : decode method_4_code 41 = .ok (.lload 10, 2) := by decide +kernel
theorem d7_43 : decode method_4_code 43 = .ok (.lmul, 1) := by decide +kernel
theorem d7_44 : decode method_4_code 44 = .ok (.lload 5, 2) := by decide +kernel
theorem d7_46 : decode method_4_code 46 = .ok (.land, 1) := by decide +kernel
theorem d7_47 : decode method_4_code 47 = .ok (.lstore 12, 2) := by decide +kernel
theorem d7_49 : decode method_4_code 49 = .ok (.lload 12, 2) := by decide +kernel
theorem d7_51 : decode method_4_code 51 = .ok (.lload 12, 2) := by decide +kernel
theorem d7_53 : decode method_4_code 53 = .ok (.iload 7, 2) := by decide +kernel
theorem d7_55 : decode method_4_code 55 = .ok (.lushr, 1) := by decide +kernel
theorem d7_56 : decode method_4_code 56 = .ok (.lxor, 1) := by decide +kernel
theorem d7_57 : decode method_4_code 57 = .ok (.lload 5, 2) := by decide +kernel
theorem d7_59 : decode method_4_code 59 = .ok (.land, 1) := by decide +kernel
theorem d7_60 : decode method_4_code 60 = .ok (.lstore 12, 2) := by decide +kernel
theorem d7_62 : decode method_4_code 62 = .ok (.lload 12, 2) := by decide +kernel
theorem d7_64 : decode method_4_code 64 = .ok (.lreturn, 1) := by decide +kernel
def Q7 (Z : State) (q0 : Int64) (q1 : Int64) (p2 : Int32) (q3 : Int64) (p4 : Int32) (h0 : Heap) (n0 : Nat) (v : Option Value) (h : Heap) (L : List Loc) : Prop := v = some (.long (own_round q0 q1 p2 q3 p4)) ∧ Fr n0 L ∧ h = h0
set_option maxRecDepth 65536 in
set_option maxHeartbeats 40000000 in
theorem rm7 (l : Launch) (Z : State) (a0 : Array Value) (hw : ∀ d ∈ tables_1, d.before a0 Z = true) (ws : List Jvm.Cond) (q0 : Int64) (q1 : Int64) (p2 : Int32) (q3 : Int64) (p4 : Int32) (h0 : Heap) (n0 : Nat) (Z0 : n0 ≤ h0.size)  :
    MetFree l (⟨"com/example/gangleri/gangleri/generate/KroneckerGeneratorPermutePinLaw", "round", "(JJIJI)J"⟩ : MethodName) (head1 (Jvm.Cond.code (⟨"com/example/gangleri/gangleri/generate/KroneckerGeneratorPermutePinLaw", "round", "(JJIJI)J"⟩ : MethodName) method_4_code 14 (some .long) :: ws) ({ frames := 2, cells := 0, slots := 0, locals := 30 } : Room)) (fun a U => a = #[(.long q0), (.long q1), (.int p2), (.long q3), (.int p4)] ∧ Z.Warmed39 U.vm ∧ U.heap = h0) (fun _ _ _ _ _ => True) (fun _ U o U' => ∃ v L, o = .returned v ∧ Q7 Z q0 q1 p2 q3 p4 h0 n0 v U'.heap L ∧ FrameEnd U o U' L ({ frames := 2, cells := 0, slots := 0, locals := 30 } : Room).cells ({ frames := 2, cells := 0, slots := 0, locals := 30 } : Room).slots) := by
  refine MetFree.of_bodySF (plainFor_of_name pn_com_example_gangleri_gangleri_generate_KroneckerGeneratorPermutePinLaw) hisR ?_
  intro p e s m args below meth c s₁ Bd hml0 hP hK
  obtain ⟨rfl, hZ, hh⟩ := hP
  have hx := Bd.exec
  have hby := Bd.bytes
  have hml : c.maxLocals = 14 := hml0
  have hown : s.vm.findClass "com/example/gangleri/gangleri/generate/KroneckerGeneratorPermutePinLaw" = some m.cls := findClass_of_methodNamed Bd.named
  have hnm := (name_of_methodNamed Bd.named Bd.method).1
  have X0 : Stand p l e ({ frames := 2, cells := 0, slots := 0, locals := 30 } : Room) s m #[(.long q0), (.long q1), (.int p2), (.long q3), (.int p4)] below meth c s₁ [] 0 0 := Stand.of_body Bd
  have e0 : s₁.heap = h0 := by rw [← hh, Bd.state]; rfl
  have N0 := Fr.nil n0
  have pre0 : ∀ t, Steps p.tables e below (s₁.setTop (mkF m 0 #[.val (.long q0), .second, .val (.long q1), .second, .val (.int p2), .val (.long q3), .second, .val (.int p4), .unset, .unset, .unset, .unset, .unset, .unset] [])) t → Steps p.tables e below (s₁.setTop (entryFrame m #[(.long q0), (.long q1), (.int p2), (.long q3), (.int p4)] 14)) t := fun t k => castTop (ef_7 m q0 q1 p2 q3 p4) k
  obtain ⟨_, _, ⟨T1, L1, k1, n1⟩, -, X1, ⟨Lc1, hQ1, l1, y1, z1⟩, st1⟩ := Jvm.LawKit.callS X0 hx (y := (⟨"com/example/gangleri/gangleri/generate/KroneckerGeneratorPermutePinLaw", "word", "(JJ)J"⟩ : MethodName)) hown (mvT hZ (hw _ (List.mem_of_getElem? (i := 48) rfl))) (mvT hZ (hw _ (List.mem_of_getElem? (i := 49) rfl))) (mvT hZ (hw _ (List.mem_of_getElem? (i := 42) rfl))) (mvT hZ (hw _ (List.mem_of_getElem? (i := 50) rfl))) (by decide) (backOf (W := 0) (rm8 l Z a0 hw [] q1 ((2 : Int64) * (p2.toInt64)) h0 n0 Z0) hZ (hw _ (List.mem_of_getElem? (i := 50) rfl)) (hw _ (List.mem_of_getElem? (i := 42) rfl)) (by decide) (by decide)) (g := (mkF m 8 #[.val (.long q0), .second, .val (.long q1), .second, .val (.int p2), .val (.long q3), .second, .val (.int p4), .unset, .unset, .unset, .unset, .unset, .unset] [(.long ((2 : Int64) * (p2.toInt64))), (.long q1)])) rfl (by rw [hml]; rfl) (argsL := [(.long q1), (.long ((2 : Int64) * (p2.toInt64)))]) (rest := []) (lenOf pd_28JJ29J rfl) rfl (by show 2 * 0 + _ ≤ _; exact Nat.le_of_eq rfl) (hb hby d7_8) (fun _ _ => ⟨rfl, e0, (by decide : 0 + 0 ≤ _), (by decide : 0 + 0 ≤ _)⟩)
  dsimp only [Pt.U, Pt.locs, Pt.cells, Pt.slots] at X1 l1 y1 z1 st1 hQ1
  subst l1 y1 z1
  obtain ⟨rfl, N1q, e1⟩ := hQ1
  have N1 := Fr.app N0 N1q
  obtain ⟨_, _, ⟨T2, L2, k2, n2⟩, -, X2, ⟨Lc2, hQ2, l2, y2, z2⟩, st2⟩ := Jvm.LawKit.callS X1 hx (y := (⟨"com/example/gangleri/gangleri/generate/KroneckerGeneratorPermutePinLaw", "word", "(JJ)J"⟩ : MethodName)) hown (mvT hZ (hw _ (List.mem_of_getElem? (i := 48) rfl))) (mvT hZ (hw _ (List.mem_of_getElem? (i := 49) rfl))) (mvT hZ (hw _ (List.mem_of_getElem? (i := 42) rfl))) (mvT hZ (hw _ (List.mem_of_getElem? (i := 50) rfl))) (by decide) (backOf (W := 0) (rm8 l Z a0 hw [] q1 (((2 : Int64) * (p2.toInt64)) + (1 : Int64)) h0 n0 Z0) hZ (hw _ (List.mem_of_getElem? (i := 50) rfl)) (hw _ (List.mem_of_getElem? (i := 42) rfl)) (by decide) (by decide)) (g := (mkF m 23 #[.val (.long q0), .second, .val (.long q1), .second, .val (.int p2), .val (.long q3), .second, .val (.int p4), .val (.long (own_word q1 ((2 : Int64) * (p2.toInt64)))), .second, .unset, .unset, .unset, .unset] [(.long (((2 : Int64) * (p2.toInt64)) + (1 : Int64))), (.long q1)])) rfl (by rw [hml]; rfl) (argsL := [(.long q1), (.long (((2 : Int64) * (p2.toInt64)) + (1 : Int64)))]) (rest := []) (lenOf pd_28JJ29J rfl) rfl (by show 2 * 0 + _ ≤ _; exact Nat.le_of_eq rfl) (hb hby d7_23) (fun _ _ => ⟨rfl, e1, (by decide : 0 + 0 ≤ _), (by decide : 0 + 0 ≤ _)⟩)
  dsimp only [Pt.U, Pt.locs, Pt.cells, Pt.slots] at X2 l2 y2 z2 st2 hQ2
  subst l2 y2 z2
  obtain ⟨rfl, N2q, e2⟩ := hQ2
  have N2 := Fr.app N1 N2q
  obtain ⟨fs, hr, hrun, hended, hW, hsame⟩ := X2.leave (v := some (.long ((((((q0 + (own_word q1 ((2 : Int64) * (p2.toInt64)))) &&& q3) * ((own_word q1 (((2 : Int64) * (p2.toInt64)) + (1 : Int64))) ||| (1 : Int64))) &&& q3) ^^^ ((((((q0 + (own_word q1 ((2 : Int64) * (p2.toInt64)))) &&& q3) * ((own_word q1 (((2 : Int64) * (p2.toInt64)) + (1 : Int64))) ||| (1 : Int64))) &&& q3).toUInt64 >>> (p4 &&& 0x3f).toInt64.toUInt64).toInt64)) &&& q3))) (fun h => by rw [Bd.returns] at h; cases h)
  refine ⟨_, _, pre0 _ ?_, hrun, hended, _, _, rfl, ?_, ⟨_, rfl⟩, hW, hsame.mono (by decide) (by decide)⟩
  · show Steps p.tables e below (s₁.setTop (mkF m 0 #[.val (.long q0), .second, .val (.long q1), .second, .val (.int p2), .val (.long q3), .second, .val (.int p4), .unset, .unset, .unset, .unset, .unset, .unset] [])) _
    refine XS.lloadN X0.here hx rfl (hb hby d7_0) rfl ?_
    show Steps p.tables e below (s₁.setTop (mkF m 1 #[.val (.long q0), .second, .val (.long q1), .second, .val (.int p2), .val (.long q3), .second, .val (.int p4), .unset, .unset, .unset, .unset, .unset, .unset] [(.long q1)])) _
    refine X0.ldc2Long hx hown (mvT hZ (hw _ (List.mem_of_getElem? (i := 47) rfl))) (g := (mkF m 1 #[.val (.long q0), .second, .val (.long q1), .second, .val (.int p2), .val (.long q3), .second, .val (.int p4), .unset, .unset, .unset, .unset, .unset, .unset] [(.long q1)])) rfl (hb hby d7_1) _ ?_
    show Steps p.tables e below (s₁.setTop (mkF m 4 #[.val (.long q0), .second, .val (.long q1), .second, .val (.int p2), .val (.long q3), .second, .val (.int p4), .unset, .unset, .unset, .unset, .unset, .unset] [(.long (2 : Int64)), (.long q1)])) _
    refine XS.iload X0.here hx rfl (hb hby d7_4) rfl ?_
    show Steps p.tables e below (s₁.setTop (mkF m 6 #[.val (.long q0), .second, .val (.long q1), .second, .val (.int p2), .val (.long q3), .second, .val (.int p4), .unset, .unset, .unset, .unset, .unset, .unset] [(.int p2), (.long (2 : Int64)), (.long q1)])) _
    refine XS.i2l X0.here hx rfl (hb hby d7_6) rfl ?_
    show Steps p.tables e below (s₁.setTop (mkF m 7 #[.val (.long q0), .second, .val (.long q1), .second, .val (.int p2), .val (.long q3), .second, .val (.int p4), .unset, .unset, .unset, .unset, .unset, .unset] [(.long (p2.toInt64)), (.long (2 : Int64)), (.long q1)])) _
    refine XS.lmul X0.here hx rfl (hb hby d7_7) rfl ?_
    show Steps p.tables e below (s₁.setTop (mkF m 8 #[.val (.long q0), .second, .val (.long q1), .second, .val (.int p2), .val (.long q3), .second, .val (.int p4), .unset, .unset, .unset, .unset, .unset, .unset] [(.long ((2 : Int64) * (p2.toInt64))), (.long q1)])) _
    refine st1 _ ?_
    show Steps p.tables e below (T1.setTop (mkF m 11 #[.val (.long q0), .second, .val (.long q1), .second, .val (.int p2), .val (.long q3), .second, .val (.int p4), .unset, .unset, .unset, .unset, .unset, .unset] [(.long (own_word q1 ((2 : Int64) * (p2.toInt64))))])) _
    refine XS.lstore X1.here hx rfl (hb hby d7_11) rfl (l' := #[.val (.long q0), .second, .val (.long q1), .second, .val (.int p2), .val (.long q3), .second, .val (.int p4), .val (.long (own_word q1 ((2 : Int64) * (p2.toInt64)))), .second, .unset, .unset, .unset, .unset]) rfl ?_
    show Steps p.tables e below (T1.setTop (mkF m 13 #[.val (.long q0), .second, .val (.long q1), .second, .val (.int p2), .val (.long q3), .second, .val (.int p4), .val (.long (own_word q1 ((2 : Int64) * (p2.toInt64)))), .second, .unset, .unset, .unset, .unset] [])) _
    refine XS.lloadN X1.here hx rfl (hb hby d7_13) rfl ?_
    show Steps p.tables e below (T1.setTop (mkF m 14 #[.val (.long q0), .second, .val (.long q1), .second, .val (.int p2), .val (.long q3), .second, .val (.int p4), .val (.long (own_word q1 ((2 : Int64) * (p2.toInt64)))), .second, .unset, .unset, .unset, .unset] [(.long q1)])) _
    refine X1.ldc2Long hx hown (mvT hZ (hw _ (List.mem_of_getElem? (i := 47) rfl))) (g := (mkF m 14 #[.val (.long q0), .second, .val (.long q1), .second, .val (.int p2), .val (.long q3), .second, .val (.int p4), .val (.long (own_word q1 ((2 : Int64) * (p2.toInt64)))), .second, .unset, .unset, .unset, .unset] [(.long q1)])) rfl (hb hby d7_14) _ ?_
    show Steps p.tables e below (T1.setTop (mkF m 17 #[.val (.long q0), .second, .val (.long q1), .second, .val (.int p2), .val (.long q3), .second, .val (.int p4), .val (.long (own_word q1 ((2 : Int64) * (p2.toInt64)))), .second, .unset, .unset, .unset, .unset] [(.long (2 : Int64)), (.long q1)])) _
    refine XS.iload X1.here hx rfl (hb hby d7_17) rfl ?_
    show Steps p.tables e below (T1.setTop (mkF m 19 #[.val (.long q0), .second, .val (.long q1), .second, .val (.int p2), .val (.long q3), .second, .val (.int p4), .val (.long (own_word q1 ((2 : Int64) * (p2.toInt64)))), .second, .unset, .unset, .unset, .unset] [(.int p2), (.long (2 : Int64)), (.long q1)])) _
    refine XS.i2l X1.here hx rfl (hb hby d7_19) rfl ?_
    show Steps p.tables e below (T1.setTop (mkF m 20 #[.val (.long q0), .second, .val (.long q1), .second, .val (.int p2), .val (.long q3), .second, .val (.int p4), .val (.long (own_word q1 ((2 : Int64) * (p2.toInt64)))), .second, .unset, .unset, .unset, .unset] [(.long (p2.toInt64)), (.long (2 : Int64)), (.long q1)])) _
    refine XS.lmul X1.here hx rfl (hb hby d7_20) rfl ?_
    show Steps p.tables e below (T1.setTop (mkF m 21 #[.val (.long q0), .second, .val (.long q1), .second, .val (.int p2), .val (.long q3), .second, .val (.int p4), .val (.long (own_word q1 ((2 : Int64) * (p2.toInt64)))), .second, .unset, .unset, .unset, .unset] [(.long ((2 : Int64) * (p2.toInt64))), (.long q1)])) _
    refine XS.lconst X1.here hx rfl (hb hby d7_21) ?_
    show Steps p.tables e below (T1.setTop (mkF m 22 #[.val (.long q0), .second, .val (.long q1), .second, .val (.int p2), .val (.long q3), .second, .val (.int p4), .val (.long (own_word q1 ((2 : Int64) * (p2.toInt64)))), .second, .unset, .unset, .unset, .unset] [(.long (1 : Int64)), (.long ((2 : Int64) * (p2.toInt64))), (.long q1)])) _
    refine XS.ladd X1.here hx rfl (hb hby d7_22) rfl ?_
    show Steps p.tables e below (T1.setTop (mkF m 23 #[.val (.long q0), .second, .val (.long q1), .second, .val (.int p2), .val (.long q3), .second, .val (.int p4), .val (.long (own_word q1 ((2 : Int64) * (p2.toInt64)))), .second, .unset, .unset, .unset, .unset] [(.long (((2 : Int64) * (p2.toInt64)) + (1 : Int64))), (.long q1)])) _
    refine st2 _ ?_
    show Steps p.tables e below (T2.setTop (mkF m 26 #[.val (.long q0), .second, .val (.long q1), .second, .val (.int p2), .val (.long q3), .second, .val (.int p4), .val (.long (own_word q1 ((2 : Int64) * (p2.toInt64)))), .second, .unset, .unset, .unset, .unset] [(.long (own_word q1 (((2 : Int64) * (p2.toInt64)) + (1 : Int64))))])) _
    refine XS.lconst X2.here hx rfl (hb hby d7_26) ?_
    show Steps p.tables e below (T2.setTop (mkF m 27 #[.val (.long q0), .second, .val (.long q1), .second, .val (.int p2), .val (.long q3), .second, .val (.int p4), .val (.long (own_word q1 ((2 : Int64) * (p2.toInt64)))), .second, .unset, .unset, .unset, .unset] [(.long (1 : Int64)), (.long (own_word q1 (((2 : Int64) * (p2.toInt64)) + (1 : Int64))))])) _
    refine XS.lor X2.here hx rfl (hb hby d7_27) rfl ?_
    show Steps p.tables e below (T2.setTop (mkF m 28 #[.val (.long q0), .second, .val (.long q1), .second, .val (.int p2), .val (.long q3), .second, .val (.int p4), .val (.long (own_word q1 ((2 : Int64) * (p2.toInt64)))), .second, .unset, .unset, .unset, .unset] [(.long ((own_word q1 (((2 : Int64) * (p2.toInt64)) + (1 : Int64))) ||| (1 : Int64)))])) _
    refine XS.lstore X2.here hx rfl (hb hby d7_28) rfl (l' := #[.val (.long q0), .second, .val (.long q1), .second, .val (.int p2), .val (.long q3), .second, .val (.int p4), .val (.long (own_word q1 ((2 : Int64) * (p2.toInt64)))), .second, .val (.long ((own_word q1 (((2 : Int64) * (p2.toInt64)) + (1 : Int64))) ||| (1 : Int64))), .second, .unset, .unset]) rfl ?_
    show Steps p.tables e below (T2.setTop (mkF m 30 #[.val (.long q0), .second, .val (.long q1), .second, .val (.int p2), .val (.long q3), .second, .val (.int p4), .val (.long (own_word q1 ((2 : Int64) * (p2.toInt64)))), .second, .val (.long ((own_word q1 (((2 : Int64) * (p2.toInt64)) + (1 : Int64))) ||| (1 : Int64))), .second, .unset, .unset] [])) _
    refine XS.lloadN X2.here hx rfl (hb hby d7_30) rfl ?_
    show Steps p.tables e below (T2.setTop (mkF m 31 #[.val (.long q0), .second, .val (.long q1), .second, .val (.int p2), .val (.long q3), .second, .val (.int p4), .val (.long (own_word q1 ((2 : Int64) * (p2.toInt64)))), .second, .val (.long ((own_word q1 (((2 : Int64) * (p2.toInt64)) + (1 : Int64))) ||| (1 : Int64))), .second, .unset, .unset] [(.long q0)])) _
    refine XS.lload X2.here hx rfl (hb hby d7_31) rfl ?_
    show Steps p.tables e below (T2.setTop (mkF m 33 #[.val (.long q0), .second, .val (.long q1), .second, .val (.int p2), .val (.long q3), .second, .val (.int p4), .val (.long (own_word q1 ((2 : Int64) * (p2.toInt64)))), .second, .val (.long ((own_word q1 (((2 : Int64) * (p2.toInt64)) + (1 : Int64))) ||| (1 : Int64))), .second, .unset, .unset] [(.long (own_word q1 ((2 : Int64) * (p2.toInt64)))), (.long q0)])) _
    refine XS.ladd X2.here hx rfl (hb hby d7_33) rfl ?_
    show Steps p.tables e below (T2.setTop (mkF m 34 #[.val (.long q0), .second, .val (.long q1), .second, .val (.int p2), .val (.long q3), .second, .val (.int p4), .val (.long (own_word q1 ((2 : Int64) * (p2.toInt64)))), .second, .val (.long ((own_word q1 (((2 : Int64) * (p2.toInt64)) + (1 : Int64))) ||| (1 : Int64))), .second, .unset, .unset] [(.long (q0 + (own_word q1 ((2 : Int64) * (p2.toInt64)))))])) _
    refine XS.lload X2.here hx rfl (hb hby d7_34) rfl ?_
    show Steps p.tables e below (T2.setTop (mkF m 36 #[.val (.long q0), .second, .val (.long q1), .second, .val (.int p2), .val (.long q3), .second, .val (.int p4), .val (.long (own_word q1 ((2 : Int64) * (p2.toInt64)))), .second, .val (.long ((own_word q1 (((2 : Int64) * (p2.toInt64)) + (1 : Int64))) ||| (1 : Int64))), .second, .unset, .unset] [(.long q3), (.long (q0 + (own_word q1 ((2 : Int64) * (p2.toInt64)))))])) _
    refine XS.land X2.here hx rfl (hb hby d7_36) rfl ?_
    show Steps p.tables e below (T2.setTop (mkF m 37 #[.val (.long q0), .second, .val (.long q1), .second, .val (.int p2), .val (.long q3), .second, .val (.int p4), .val (.long (own_word q1 ((2 : Int64) * (p2.toInt64)))), .second, .val (.long ((own_word q1 (((2 : Int64) * (p2.toInt64)) + (1 : Int64))) ||| (1 : Int64))), .second, .unset, .unset] [(.long ((q0 + (own_word q1 ((2 : Int64) * (p2.toInt64)))) &&& q3))])) _
    refine XS.lstore X2.here hx rfl (hb hby d7_37) rfl (l' := #[.val (.long q0), .second, .val (.long q1), .second, .val (.int p2), .val (.long q3), .second, .val (.int p4), .val (.long (own_word q1 ((2 : Int64) * (p2.toInt64)))), .second, .val (.long ((own_word q1 (((2 : Int64) * (p2.toInt64)) + (1 : Int64))) ||| (1 : Int64))), .second, .val (.long ((q0 + (own_word q1 ((2 : Int64) * (p2.toInt64)))) &&& q3)), .second]) rfl ?_
    show Steps p.tables e below (T2.setTop (mkF m 39 #[.val (.long q0), .second, .val (.long q1), .second, .val (.int p2), .val (.long q3), .second, .val (.int p4), .val (.long (own_word q1 ((2 : Int64) * (p2.toInt64)))), .second, .val (.long ((own_word q1 (((2 : Int64) * (p2.toInt64)) + (1 : Int64))) ||| (1 : Int64))), .second, .val (.long ((q0 + (own_word q1 ((2 : Int64) * (p2.toInt64)))) &&& q3)), .second] [])) _
    refine XS.lload X2.here hx rfl (hb hby d7_39) rfl ?_
    show Steps p.tables e below (T2.setTop (mkF m 41 #[.val (.long q0), .second, .val (.long q1), .second, .val (.int p2), .val (.long q3), .second, .val (.int p4), .val (.long (own_word q1 ((2 : Int64) * (p2.toInt64)))), .second, .val (.long ((own_word q1 (((2 : Int64) * (p2.toInt64)) + (1 : Int64))) ||| (1 : Int64))), .second, .val (.long ((q0 + (own_word q1 ((2 : Int64) * (p2.toInt64)))) &&& q3)), .second] [(.long ((q0 + (own_word q1 ((2 : Int64) * (p2.toInt64)))) &&& q3))])) _
    refine XS.lload X2.here hx rfl (hb hby d7_41) rfl ?_
    show Steps p.tables e below (T2.setTop (mkF m 43 #[.val (.long q0), .second, .val (.long q1), .second, .val (.int p2), .val (.long q3), .second, .val (.int p4), .val (.long (own_word q1 ((2 : Int64) * (p2.toInt64)))), .second, .val (.long ((own_word q1 (((2 : Int64) * (p2.toInt64)) + (1 : Int64))) ||| (1 : Int64))), .second, .val (.long ((q0 + (own_word q1 ((2 : Int64) * (p2.toInt64)))) &&& q3)), .second] [(.long ((own_word q1 (((2 : Int64) * (p2.toInt64)) + (1 : Int64))) ||| (1 : Int64))), (.long ((q0 + (own_word q1 ((2 : Int64) * (p2.toInt64)))) &&& q3))])) _
    refine XS.lmul X2.here hx rfl (hb hby d7_43) rfl ?_
    show Steps p.tables e below (T2.setTop (mkF m 44 #[.val (.long q0), .second, .val (.long q1), .second, .val (.int p2), .val (.long q3), .second, .val (.int p4), .val (.long (own_word q1 ((2 : Int64) * (p2.toInt64)))), .second, .val (.long ((own_word q1 (((2 : Int64) * (p2.toInt64)) + (1 : Int64))) ||| (1 : Int64))), .second, .val (.long ((q0 + (own_word q1 ((2 : Int64) * (p2.toInt64)))) &&& q3)), .second] [(.long (((q0 + (own_word q1 ((2 : Int64) * (p2.toInt64)))) &&& q3) * ((own_word q1 (((2 : Int64) * (p2.toInt64)) + (1 : Int64))) ||| (1 : Int64))))])) _
    refine XS.lload X2.here hx rfl (hb hby d7_44) rfl ?_
    show Steps p.tables e below (T2.setTop (mkF m 46 #[.val (.long q0), .second, .val (.long q1), .second, .val (.int p2), .val (.long q3), .second, .val (.int p4), .val (.long (own_word q1 ((2 : Int64) * (p2.toInt64)))), .second, .val (.long ((own_word q1 (((2 : Int64) * (p2.toInt64)) + (1 : Int64))) ||| (1 : Int64))), .second, .val (.long ((q0 + (own_word q1 ((2 : Int64) * (p2.toInt64)))) &&& q3)), .second] [(.long q3), (.long (((q0 + (own_word q1 ((2 : Int64) * (p2.toInt64)))) &&& q3) * ((own_word q1 (((2 : Int64) * (p2.toInt64)) + (1 : Int64))) ||| (1 : Int64))))])) _
    refine XS.land X2.here hx rfl (hb hby d7_46) rfl ?_
    show Steps p.tables e below (T2.setTop (mkF m 47 #[.val (.long q0), .second, .val (.long q1), .second, .val (.int p2), .val (.long q3), .second, .val (.int p4), .val (.long (own_word q1 ((2 : Int64) * (p2.toInt64)))), .second, .val (.long ((own_word q1 (((2 : Int64) * (p2.toInt64)) + (1 : Int64))) ||| (1 : Int64))), .second, .val (.long ((q0 + (own_word q1 ((2 : Int64) * (p2.toInt64)))) &&& q3)), .second] [(.long ((((q0 + (own_word q1 ((2 : Int64) * (p2.toInt64)))) &&& q3) * ((own_word q1 (((2 : Int64) * (p2.toInt64)) + (1 : Int64))) ||| (1 : Int64))) &&& q3))])) _
    refine XS.lstore X2.here hx rfl (hb hby d7_47) rfl (l' := #[.val (.long q0), .second, .val (.long q1), .second, .val (.int p2), .val (.long q3), .second, .val (.int p4), .val (.long (own_word q1 ((2 : Int64) * (p2.toInt64)))), .second, .val (.long ((own_word q1 (((2 : Int64) * (p2.toInt64)) + (1 : Int64))) ||| (1 : Int64))), .second, .val (.long ((((q0 + (own_word q1 ((2 : Int64) * (p2.toInt64)))) &&& q3) * ((own_word q1 (((2 : Int64) * (p2.toInt64)) + (1 : Int64))) ||| (1 : Int64))) &&& q3)), .second]) rfl ?_
    show Steps p.tables e below (T2.setTop (mkF m 49 #[.val (.long q0), .second, .val (.long q1), .second, .val (.int p2), .val (.long q3), .second, .val (.int p4), .val (.long (own_word q1 ((2 : Int64) * (p2.toInt64)))), .second, .val (.long ((own_word q1 (((2 : Int64) * (p2.toInt64)) + (1 : Int64))) ||| (1 : Int64))), .second, .val (.long ((((q0 + (own_word q1 ((2 : Int64) * (p2.toInt64)))) &&& q3) * ((own_word q1 (((2 : Int64) * (p2.toInt64)) + (1 : Int64))) ||| (1 : Int64))) &&& q3)), .second] [])) _
    refine XS.lload X2.here hx rfl (hb hby d7_49) rfl ?_
    show Steps p.tables e below (T2.setTop (mkF m 51 #[.val (.long q0), .second, .val (.long q1), .second, .val (.int p2), .val (.long q3), .second, .val (.int p4), .val (.long (own_word q1 ((2 : Int64) * (p2.toInt64)))), .second, .val (.long ((own_word q1 (((2 : Int64) * (p2.toInt64)) + (1 : Int64))) ||| (1 : Int64))), .second, .val (.long ((((q0 + (own_word q1 ((2 : Int64) * (p2.toInt64)))) &&& q3) * ((own_word q1 (((2 : Int64) * (p2.toInt64)) + (1 : Int64))) ||| (1 : Int64))) &&& q3)), .second] [(.long ((((q0 + (own_word q1 ((2 : Int64) * (p2.toInt64)))) &&& q3) * ((own_word q1 (((2 : Int64) * (p2.toInt64)) + (1 : Int64))) ||| (1 : Int64))) &&& q3))])) _
    refine XS.lload X2.here hx rfl (hb hby d7_51) rfl ?_
    show Steps p.tables e below (T2.setTop (mkF m 53 #[.val (.long q0), .second, .val (.long q1), .second, .val (.int p2), .val (.long q3), .second, .val (.int p4), .val (.long (own_word q1 ((2 : Int64) * (p2.toInt64)))), .second, .val (.long ((own_word q1 (((2 : Int64) * (p2.toInt64)) + (1 : Int64))) ||| (1 : Int64))), .second, .val (.long ((((q0 + (own_word q1 ((2 : Int64) * (p2.toInt64)))) &&& q3) * ((own_word q1 (((2 : Int64) * (p2.toInt64)) + (1 : Int64))) ||| (1 : Int64))) &&& q3)), .second] [(.long ((((q0 + (own_word q1 ((2 : Int64) * (p2.toInt64)))) &&& q3) * ((own_word q1 (((2 : Int64) * (p2.toInt64)) + (1 : Int64))) ||| (1 : Int64))) &&& q3)), (.long ((((q0 + (own_word q1 ((2 : Int64) * (p2.toInt64)))) &&& q3) * ((own_word q1 (((2 : Int64) * (p2.toInt64)) + (1 : Int64))) ||| (1 : Int64))) &&& q3))])) _
    refine XS.iload X2.here hx rfl (hb hby d7_53) rfl ?_
    show Steps p.tables e below (T2.setTop (mkF m 55 #[.val (.long q0), .second, .val (.long q1), .second, .val (.int p2), .val (.long q3), .second, .val (.int p4), .val (.long (own_word q1 ((2 : Int64) * (p2.toInt64)))), .second, .val (.long ((own_word q1 (((2 : Int64) * (p2.toInt64)) + (1 : Int64))) ||| (1 : Int64))), .second, .val (.long ((((q0 + (own_word q1 ((2 : Int64) * (p2.toInt64)))) &&& q3) * ((own_word q1 (((2 : Int64) * (p2.toInt64)) + (1 : Int64))) ||| (1 : Int64))) &&& q3)), .second] [(.int p4), (.long ((((q0 + (own_word q1 ((2 : Int64) * (p2.toInt64)))) &&& q3) * ((own_word q1 (((2 : Int64) * (p2.toInt64)) + (1 : Int64))) ||| (1 : Int64))) &&& q3)), (.long ((((q0 + (own_word q1 ((2 : Int64) * (p2.toInt64)))) &&& q3) * ((own_word q1 (((2 : Int64) * (p2.toInt64)) + (1 : Int64))) ||| (1 : Int64))) &&& q3))])) _
    refine XS.lushr X2.here hx rfl (hb hby d7_55) rfl ?_
    show Steps p.tables e below (T2.setTop (mkF m 56 #[.val (.long q0), .second, .val (.long q1), .second, .val (.int p2), .val (.long q3), .second, .val (.int p4), .val (.long (own_word q1 ((2 : Int64) * (p2.toInt64)))), .second, .val (.long ((own_word q1 (((2 : Int64) * (p2.toInt64)) + (1 : Int64))) ||| (1 : Int64))), .second, .val (.long ((((q0 + (own_word q1 ((2 : Int64) * (p2.toInt64)))) &&& q3) * ((own_word q1 (((2 : Int64) * (p2.toInt64)) + (1 : Int64))) ||| (1 : Int64))) &&& q3)), .second] [(.long ((((((q0 + (own_word q1 ((2 : Int64) * (p2.toInt64)))) &&& q3) * ((own_word q1 (((2 : Int64) * (p2.toInt64)) + (1 : Int64))) ||| (1 : Int64))) &&& q3).toUInt64 >>> (p4 &&& 0x3f).toInt64.toUInt64).toInt64)), (.long ((((q0 + (own_word q1 ((2 : Int64) * (p2.toInt64)))) &&& q3) * ((own_word q1 (((2 : Int64) * (p2.toInt64)) + (1 : Int64))) ||| (1 : Int64))) &&& q3))])) _
    refine XS.lxor X2.here hx rfl (hb hby d7_56) rfl ?_
    show Steps p.tables e below (T2.setTop (mkF m 57 #[.val (.long q0), .second, .val (.long q1), .second, .val (.int p2), .val (.long q3), .second, .val (.int p4), .val (.long (own_word q1 ((2 : Int64) * (p2.toInt64)))), .second, .val (.long ((own_word q1 (((2 : Int64) * (p2.toInt64)) + (1 : Int64))) ||| (1 : Int64))), .second, .val (.long ((((q0 + (own_word q1 ((2 : Int64) * (p2.toInt64)))) &&& q3) * ((own_word q1 (((2 : Int64) * (p2.toInt64)) + (1 : Int64))) ||| (1 : Int64))) &&& q3)), .second] [(.long (((((q0 + (own_word q1 ((2 : Int64) * (p2.toInt64)))) &&& q3) * ((own_word q1 (((2 : Int64) * (p2.toInt64)) + (1 : Int64))) ||| (1 : Int64))) &&& q3) ^^^ ((((((q0 + (own_word q1 ((2 : Int64) * (p2.toInt64)))) &&& q3) * ((own_word q1 (((2 : Int64) * (p2.toInt64)) + (1 : Int64))) ||| (1 : Int64))) &&& q3).toUInt64 >>> (p4 &&& 0x3f).toInt64.toUInt64).toInt64)))])) _
    refine XS.lload X2.here hx rfl (hb hby d7_57) rfl ?_
    show Steps p.tables e below (T2.setTop (mkF m 59 #[.val (.long q0), .second, .val (.long q1), .second, .val (.int p2), .val (.long q3), .second, .val (.int p4), .val (.long (own_word q1 ((2 : Int64) * (p2.toInt64)))), .second, .val (.long ((own_word q1 (((2 : Int64) * (p2.toInt64)) + (1 : Int64))) ||| (1 : Int64))), .second, .val (.long ((((q0 + (own_word q1 ((2 : Int64) * (p2.toInt64)))) &&& q3) * ((own_word q1 (((2 : Int64) * (p2.toInt64)) + (1 : Int64))) ||| (1 : Int64))) &&& q3)), .second] [(.long q3), (.long (((((q0 + (own_word q1 ((2 : Int64) * (p2.toInt64)))) &&& q3) * ((own_word q1 (((2 : Int64) * (p2.toInt64)) + (1 : Int64))) ||| (1 : Int64))) &&& q3) ^^^ ((((((q0 + (own_word q1 ((2 : Int64) * (p2.toInt64)))) &&& q3) * ((own_word q1 (((2 : Int64) * (p2.toInt64)) + (1 : Int64))) ||| (1 : Int64))) &&& q3).toUInt64 >>> (p4 &&& 0x3f).toInt64.toUInt64).toInt64)))])) _
    refine XS.land X2.here hx rfl (hb hby d7_59) rfl ?_
    show Steps p.tables e below (T2.setTop (mkF m 60 #[.val (.long q0), .second, .val (.long q1), .second, .val (.int p2), .val (.long q3), .second, .val (.int p4), .val (.long (own_word q1 ((2 : Int64) * (p2.toInt64)))), .second, .val (.long ((own_word q1 (((2 : Int64) * (p2.toInt64)) + (1 : Int64))) ||| (1 : Int64))), .second, .val (.long ((((q0 + (own_word q1 ((2 : Int64) * (p2.toInt64)))) &&& q3) * ((own_word q1 (((2 : Int64) * (p2.toInt64)) + (1 : Int64))) ||| (1 : Int64))) &&& q3)), .second] [(.long ((((((q0 + (own_word q1 ((2 : Int64) * (p2.toInt64)))) &&& q3) * ((own_word q1 (((2 : Int64) * (p2.toInt64)) + (1 : Int64))) ||| (1 : Int64))) &&& q3) ^^^ ((((((q0 + (own_word q1 ((2 : Int64) * (p2.toInt64)))) &&& q3) * ((own_word q1 (((2 : Int64) * (p2.toInt64)) + (1 : Int64))) ||| (1 : Int64))) &&& q3).toUInt64 >>> (p4 &&& 0x3f).toInt64.toUInt64).toInt64)) &&& q3))])) _
    refine XS.lstore X2.here hx rfl (hb hby d7_60) rfl (l' := #[.val (.long q0), .second, .val (.long q1), .second, .val (.int p2), .val (.long q3), .second, .val (.int p4), .val (.long (own_word q1 ((2 : Int64) * (p2.toInt64)))), .second, .val (.long ((own_word q1 (((2 : Int64) * (p2.toInt64)) + (1 : Int64))) ||| (1 : Int64))), .second, .val (.long ((((((q0 + (own_word q1 ((2 : Int64) * (p2.toInt64)))) &&& q3) * ((own_word q1 (((2 : Int64) * (p2.toInt64)) + (1 : Int64))) ||| (1 : Int64))) &&& q3) ^^^ ((((((q0 + (own_word q1 ((2 : Int64) * (p2.toInt64)))) &&& q3) * ((own_word q1 (((2 : Int64) * (p2.toInt64)) + (1 : Int64))) ||| (1 : Int64))) &&& q3).toUInt64 >>> (p4 &&& 0x3f).toInt64.toUInt64).toInt64)) &&& q3)), .second]) rfl ?_
    show Steps p.tables e below (T2.setTop (mkF m 62 #[.val (.long q0), .second, .val (.long q1), .second, .val (.int p2), .val (.long q3), .second, .val (.int p4), .val (.long (own_word q1 ((2 : Int64) * (p2.toInt64)))), .second, .val (.long ((own_word q1 (((2 : Int64) * (p2.toInt64)) + (1 : Int64))) ||| (1 : Int64))), .second, .val (.long ((((((q0 + (own_word q1 ((2 : Int64) * (p2.toInt64)))) &&& q3) * ((own_word q1 (((2 : Int64) * (p2.toInt64)) + (1 : Int64))) ||| (1 : Int64))) &&& q3) ^^^ ((((((q0 + (own_word q1 ((2 : Int64) * (p2.toInt64)))) &&& q3) * ((own_word q1 (((2 : Int64) * (p2.toInt64)) + (1 : Int64))) ||| (1 : Int64))) &&& q3).toUInt64 >>> (p4 &&& 0x3f).toInt64.toUInt64).toInt64)) &&& q3)), .second] [])) _
    refine XS.lload X2.here hx rfl (hb hby d7_62) rfl ?_
    show Steps p.tables e below (T2.setTop (mkF m 64 #[.val (.long q0), .second, .val (.long q1), .second, .val (.int p2), .val (.long q3), .second, .val (.int p4), .val (.long (own_word q1 ((2 : Int64) * (p2.toInt64)))), .second, .val (.long ((own_word q1 (((2 : Int64) * (p2.toInt64)) + (1 : Int64))) ||| (1 : Int64))), .second, .val (.long ((((((q0 + (own_word q1 ((2 : Int64) * (p2.toInt64)))) &&& q3) * ((own_word q1 (((2 : Int64) * (p2.toInt64)) + (1 : Int64))) ||| (1 : Int64))) &&& q3) ^^^ ((((((q0 + (own_word q1 ((2 : Int64) * (p2.toInt64)))) &&& q3) * ((own_word q1 (((2 : Int64) * (p2.toInt64)) + (1 : Int64))) ||| (1 : Int64))) &&& q3).toUInt64 >>> (p4 &&& 0x3f).toInt64.toUInt64).toInt64)) &&& q3)), .second] [(.long ((((((q0 + (own_word q1 ((2 : Int64) * (p2.toInt64)))) &&& q3) * ((own_word q1 (((2 : Int64) * (p2.toInt64)) + (1 : Int64))) ||| (1 : Int64))) &&& q3) ^^^ ((((((q0 + (own_word q1 ((2 : Int64) * (p2.toInt64)))) &&& q3) * ((own_word q1 (((2 : Int64) * (p2.toInt64)) + (1 : Int64))) ||| (1 : Int64))) &&& q3).toUInt64 >>> (p4 &&& 0x3f).toInt64.toUInt64).toInt64)) &&& q3))])) _
    exact X2.lreturnOut hx Bd.returns (hb hby d7_64) hr
  · show Q7 Z q0 q1 p2 q3 p4 h0 n0 _ T2.heap _
    rw [e2]
    exact ⟨rfl, N2, rfl⟩
theorem ef_6 (m : MethodId) (x0 : Int64) (x1 : Int64) (x2 : Int32) : entryFrame m #[(.long x0), (.long x1), (.int x2)] 10 = mkF m 0 #[.val (.long x0), .second, .val (.long x1), .second, .val (.int x2), .unset, .unset, .unset, .unset, .unset] [] := by first | (simp [entryFrame, mkF, argsToLocals, Value.category]; done) | rfl
theorem d6_0 : decode method_5_code 0 = .ok (.lconst 1, 1) := by decide +kernel
theorem d6_1 : decode method_5_code 1 = .ok (.iload 4, 2) := by decide +kernel
theorem d6_3 : decode method_5_code 3 = .ok (.lshl, 1) := by decide +kernel
theorem d6_4 : decode method_5_code 4 = .ok (.lconst 1, 1) := by decide +kernel
theorem d6_5 : decode method_5_code 5 = .ok (.lsub, 1) := by decide +kernel
theorem d6_6 : decode method_5_code 6 = .ok (.lstore 5, 2) := by decide +kernel
theorem d6_8 : decode method_5_code 8 = .ok (.iload 4, 2) := by decide +kernel
theorem d6_10 : decode method_5_code 10 = .ok (.iconst 1, 1) := by decide +kernel
theorem d6_11 : decode method_5_code 11 = .ok (.iadd, 1) := by decide +kernel
theorem d6_12 : decode method_5_code 12 = .ok (.iconst 2, 1) := by decide +kernel
theorem d6_13 : decode method_5_code 13 = .ok (.idiv, 1) := by decide +kernel
theorem d6_14 : decode method_5_code 14 = .ok (.istore 7, 2) := by decide +kernel
theorem d6_16 : decode method_5_code 16 = .ok (.lload_n 0, 1) := by decide +kernel
theorem d6_17 : decode method_5_code 17 = .ok (.lload 5, 2) := by decide +kernel
theorem d6_19 : decode method_5_code 19 = .ok (.land, 1) := by decide +kernel
theorem d6_20 : decode method_5_code 20 = .ok (.lstore 8, 2) := by decide +kernel
theorem d6_22 : decode method_5_code 22 = .ok (.lload 8, 2) := by decide +kernel
theorem d6_24 : decode method_5_code 24 = .ok (.lload_n 2, 1) := by decide +kernel
theorem d6_25 : decode method_5_code 25 = .ok (.iconst 0, 1) := by decide +kernel
theorem d6_26 : decode method_5_code 26 = .ok (.lload 5, 2) := by decide +kernel
theorem d6_28 : decode method_5_code 28 = .ok (.iload 7, 2) := by decide +kernel
theorem d6_30 : decode method_5_code 30 = .ok (.invokestatic 25, 3) := by decide +kernel
theorem pd_28JJIJI29J : parseMethodDescriptor "(JJIJI)J" = some ⟨[.long, .long, .int, .long, .int], some .long⟩ := by decide +kernel
theorem d6_33 : decode method_5_code 33 = .ok (.lstore 8, 2) := by decide +kernel
theorem d6_35 : decode method_5_code 35 = .ok (.lload 8, 2) := by decide +kernel
theorem d6_37 : decode method_5_code 37 = .ok (.lload_n 2, 1) := by decide +kernel
theorem d6_38 : decode method_5_code 38 = .ok (.iconst 1, 1) := by decide +kernel
theorem d6_39 : decode method_5_code 39 = .ok (.lload 5, 2) := by decide +kernel
theorem d6_41 : decode method_5_code 41 = .ok (.iload 7, 2) := by decide +kernel
theorem d6_43 : decode method_5_code 43 = .ok (.invokestatic 25, 3) := by decide +kernel
theorem d6_46 : decode method_5_code 46 = .ok (.lstore 8, 2) := by decide +kernel
theorem d6_48 : decode method_5_code 48 = .ok (.lload 8, 2) := by decide +kernel
theorem d6_50 : decode method_5_code 50 = .ok (.lload_n 2, 1) := by decide +kernel
theorem d6_51 : decode method_5_code 51 = .ok (.iconst 2, 1) := by decide +kernel
theorem d6_52 : decode method_5_code 52 = .ok (.lload 5, 2) := by decide +kernel
theorem d6_54 : decode method_5_code 54 = .ok (.iload 7, 2) := by decide +kernel
theorem d6_56 : decode method_5_code 56 = .ok (.invokestatic 25, 3) := by decide +kernel
theorem d6_59 : decode method_5_code 59 = .ok (.lstore 8, 2) := by decide +kernel
theorem d6_61 : decode method_5_code 61 = .ok (.lload 8, 2) := by decide +kernel
theorem d6_63 : decode method_5_code 63 = .ok (.lload_n 2, 1) := by decide +kernel
theorem d6_64 : decode method_5_code 64 = .ok (.iconst 3, 1) := by decide +kernel
theorem d6_65 : decode method_5_code 65 = .ok (.lload 5, 2) := by decide +kernel
theorem d6_67 : decode method_5_code 67 = .ok (.iload 7, 2) := by decide +kernel
theorem d6_69 : decode method_5_code 69 = .ok (.invokestatic 25, 3) := by decide +kernel
theorem d6_72 : decode method_5_code 72 = .ok (.lstore 8, 2) := by decide +kernel
theorem d6_74 : decode method_5_code 74 = .ok (.lload 8, 2) := by decide +kernel
theorem d6_76 : decode method_5_code 76 = .ok (.lreturn, 1) := by decide +kernel
def Q6 (Z : State) (q0 : Int64) (q1 : Int64) (p2 : Int32) (h0 : Heap) (n0 : Nat) (v : Option Value) (h : Heap) (L : List Loc) : Prop := v = some (.long (own_ref q0 q1 p2)) ∧ Fr n0 L ∧ h = h0
set_option maxRecDepth 65536 in
set_option maxHeartbeats 40000000 in
theorem rm6 (l : Launch) (Z : State) (a0 : Array Value) (hw : ∀ d ∈ tables_1, d.before a0 Z = true) (ws : List Jvm.Cond) (q0 : Int64) (q1 : Int64) (p2 : Int32) (h0 : Heap) (n0 : Nat) (Z0 : n0 ≤ h0.size)  :
    MetFree l (⟨"com/example/gangleri/gangleri/generate/KroneckerGeneratorPermutePinLaw", "reference", "(JJI)J"⟩ : MethodName) (head1 (Jvm.Cond.code (⟨"com/example/gangleri/gangleri/generate/KroneckerGeneratorPermutePinLaw", "reference", "(JJI)J"⟩ : MethodName) method_5_code 10 (some .long) :: ws) ({ frames := 3, cells := 0, slots := 0, locals := 55 } : Room)) (fun a U => a = #[(.long q0), (.long q1), (.int p2)] ∧ Z.Warmed39 U.vm ∧ U.heap = h0) (fun _ _ _ _ _ => True) (fun _ U o U' => ∃ v L, o = .returned v ∧ Q6 Z q0 q1 p2 h0 n0 v U'.heap L ∧ FrameEnd U o U' L ({ frames := 3, cells := 0, slots := 0, locals := 55 } : Room).cells ({ frames := 3, cells := 0, slots := 0, locals := 55 } : Room).slots) := by
  refine MetFree.of_bodySF (plainFor_of_name pn_com_example_gangleri_gangleri_generate_KroneckerGeneratorPermutePinLaw) hisR ?_
  intro p e s m args below meth c s₁ Bd hml0 hP hK
  obtain ⟨rfl, hZ, hh⟩ := hP
  have hx := Bd.exec
  have hby := Bd.bytes
  have hml : c.maxLocals = 10 := hml0
  have hown : s.vm.findClass "com/example/gangleri/gangleri/generate/KroneckerGeneratorPermutePinLaw" = some m.cls := findClass_of_methodNamed Bd.named
  have hnm := (name_of_methodNamed Bd.named Bd.method).1
  have X0 : Stand p l e ({ frames := 3, cells := 0, slots := 0, locals := 55 } : Room) s m #[(.long q0), (.long q1), (.int p2)] below meth c s₁ [] 0 0 := Stand.of_body Bd
  have e0 : s₁.heap = h0 := by rw [← hh, Bd.state]; rfl
  have N0 := Fr.nil n0
  have pre0 : ∀ t, Steps p.tables e below (s₁.setTop (mkF m 0 #[.val (.long q0), .second, .val (.long q1), .second, .val (.int p2), .unset, .unset, .unset, .unset, .unset] [])) t → Steps p.tables e below (s₁.setTop (entryFrame m #[(.long q0), (.long q1), (.int p2)] 10)) t := fun t k => castTop (ef_6 m q0 q1 p2) k
  obtain ⟨_, _, ⟨T1, L1, k1, n1⟩, -, X1, ⟨Lc1, hQ1, l1, y1, z1⟩, st1⟩ := Jvm.LawKit.callS X0 hx (y := (⟨"com/example/gangleri/gangleri/generate/KroneckerGeneratorPermutePinLaw", "round", "(JJIJI)J"⟩ : MethodName)) hown (mvT hZ (hw _ (List.mem_of_getElem? (i := 44) rfl))) (mvT hZ (hw _ (List.mem_of_getElem? (i := 45) rfl))) (mvT hZ (hw _ (List.mem_of_getElem? (i := 42) rfl))) (mvT hZ (hw _ (List.mem_of_getElem? (i := 46) rfl))) (by decide) (backOf (W := 0) (rm7 l Z a0 hw [] (q0 &&& (((1 : Int64) <<< (p2 &&& 0x3f).toInt64) - (1 : Int64))) q1 (0 : Int32) (((1 : Int64) <<< (p2 &&& 0x3f).toInt64) - (1 : Int64)) ((p2 + (1 : Int32)) / (2 : Int32)) h0 n0 Z0) hZ (hw _ (List.mem_of_getElem? (i := 46) rfl)) (hw _ (List.mem_of_getElem? (i := 42) rfl)) (by decide) (by decide)) (g := (mkF m 30 #[.val (.long q0), .second, .val (.long q1), .second, .val (.int p2), .val (.long (((1 : Int64) <<< (p2 &&& 0x3f).toInt64) - (1 : Int64))), .second, .val (.int ((p2 + (1 : Int32)) / (2 : Int32))), .val (.long (q0 &&& (((1 : Int64) <<< (p2 &&& 0x3f).toInt64) - (1 : Int64)))), .second] [(.int ((p2 + (1 : Int32)) / (2 : Int32))), (.long (((1 : Int64) <<< (p2 &&& 0x3f).toInt64) - (1 : Int64))), (.int (0 : Int32)), (.long q1), (.long (q0 &&& (((1 : Int64) <<< (p2 &&& 0x3f).toInt64) - (1 : Int64))))])) rfl (by rw [hml]; rfl) (argsL := [(.long (q0 &&& (((1 : Int64) <<< (p2 &&& 0x3f).toInt64) - (1 : Int64)))), (.long q1), (.int (0 : Int32)), (.long (((1 : Int64) <<< (p2 &&& 0x3f).toInt64) - (1 : Int64))), (.int ((p2 + (1 : Int32)) / (2 : Int32)))]) (rest := []) (lenOf pd_28JJIJI29J rfl) rfl (by show 2 * 0 + _ ≤ _; exact Nat.le_of_eq rfl) (hb hby d6_30) (fun _ _ => ⟨rfl, e0, (by decide : 0 + 0 ≤ _), (by decide : 0 + 0 ≤ _)⟩)
  dsimp only [Pt.U, Pt.locs, Pt.cells, Pt.slots] at X1 l1 y1 z1 st1 hQ1
  subst l1 y1 z1
  obtain ⟨rfl, N1q, e1⟩ := hQ1
  have N1 := Fr.app N0 N1q
  obtain ⟨_, _, ⟨T2, L2, k2, n2⟩, -, X2, ⟨Lc2, hQ2, l2, y2, z2⟩, st2⟩ := Jvm.LawKit.callS X1 hx (y := (⟨"com/example/gangleri/gangleri/generate/KroneckerGeneratorPermutePinLaw", "round", "(JJIJI)J"⟩ : MethodName)) hown (mvT hZ (hw _ (List.mem_of_getElem? (i := 44) rfl))) (mvT hZ (hw _ (List.mem_of_getElem? (i := 45) rfl))) (mvT hZ (hw _ (List.mem_of_getElem? (i := 42) rfl))) (mvT hZ (hw _ (List.mem_of_getElem? (i := 46) rfl))) (by decide) (backOf (W := 0) (rm7 l Z a0 hw [] (own_round (q0 &&& (((1 : Int64) <<< (p2 &&& 0x3f).toInt64) - (1 : Int64))) q1 (0 : Int32) (((1 : Int64) <<< (p2 &&& 0x3f).toInt64) - (1 : Int64)) ((p2 + (1 : Int32)) / (2 : Int32))) q1 (1 : Int32) (((1 : Int64) <<< (p2 &&& 0x3f).toInt64) - (1 : Int64)) ((p2 + (1 : Int32)) / (2 : Int32)) h0 n0 Z0) hZ (hw _ (List.mem_of_getElem? (i := 46) rfl)) (hw _ (List.mem_of_getElem? (i := 42) rfl)) (by decide) (by decide)) (g := (mkF m 43 #[.val (.long q0), .second, .val (.long q1), .second, .val (.int p2), .val (.long (((1 : Int64) <<< (p2 &&& 0x3f).toInt64) - (1 : Int64))), .second, .val (.int ((p2 + (1 : Int32)) / (2 : Int32))), .val (.long (own_round (q0 &&& (((1 : Int64) <<< (p2 &&& 0x3f).toInt64) - (1 : Int64))) q1 (0 : Int32) (((1 : Int64) <<< (p2 &&& 0x3f).toInt64) - (1 : Int64)) ((p2 + (1 : Int32)) / (2 : Int32)))), .second] [(.int ((p2 + (1 : Int32)) / (2 : Int32))), (.long (((1 : Int64) <<< (p2 &&& 0x3f).toInt64) - (1 : Int64))), (.int (1 : Int32)), (.long q1), (.long (own_round (q0 &&& (((1 : Int64) <<< (p2 &&& 0x3f).toInt64) - (1 : Int64))) q1 (0 : Int32) (((1 : Int64) <<< (p2 &&& 0x3f).toInt64) - (1 : Int64)) ((p2 + (1 : Int32)) / (2 : Int32))))])) rfl (by rw [hml]; rfl) (argsL := [(.long (own_round (q0 &&& (((1 : Int64) <<< (p2 &&& 0x3f).toInt64) - (1 : Int64))) q1 (0 : Int32) (((1 : Int64) <<< (p2 &&& 0x3f).toInt64) - (1 : Int64)) ((p2 + (1 : Int32)) / (2 : Int32)))), (.long q1), (.int (1 : Int32)), (.long (((1 : Int64) <<< (p2 &&& 0x3f).toInt64) - (1 : Int64))), (.int ((p2 + (1 : Int32)) / (2 : Int32)))]) (rest := []) (lenOf pd_28JJIJI29J rfl) rfl (by show 2 * 0 + _ ≤ _; exact Nat.le_of_eq rfl) (hb hby d6_43) (fun _ _ => ⟨rfl, e1, (by decide : 0 + 0 ≤ _), (by decide : 0 + 0 ≤ _)⟩)
  dsimp only [Pt.U, Pt.locs, Pt.cells, Pt.slots] at X2 l2 y2 z2 st2 hQ2
  subst l2 y2 z2
  obtain ⟨rfl, N2q, e2⟩ := hQ2
  have N2 := Fr.app N1 N2q
  obtain ⟨_, _, ⟨T3, L3, k3, n3⟩, -, X3, ⟨Lc3, hQ3, l3, y3, z3⟩, st3⟩ := Jvm.LawKit.callS X2 hx (y := (⟨"com/example/gangleri/gangleri/generate/KroneckerGeneratorPermutePinLaw", "round", "(JJIJI)J"⟩ : MethodName)) hown (mvT hZ (hw _ (List.mem_of_getElem? (i := 44) rfl))) (mvT hZ (hw _ (List.mem_of_getElem? (i := 45) rfl))) (mvT hZ (hw _ (List.mem_of_getElem? (i := 42) rfl))) (mvT hZ (hw _ (List.mem_of_getElem? (i := 46) rfl))) (by decide) (backOf (W := 0) (rm7 l Z a0 hw [] (own_round (own_round (q0 &&& (((1 : Int64) <<< (p2 &&& 0x3f).toInt64) - (1 : Int64))) q1 (0 : Int32) (((1 : Int64) <<< (p2 &&& 0x3f).toInt64) - (1 : Int64)) ((p2 + (1 : Int32)) / (2 : Int32))) q1 (1 : Int32) (((1 : Int64) <<< (p2 &&& 0x3f).toInt64) - (1 : Int64)) ((p2 + (1 : Int32)) / (2 : Int32))) q1 (2 : Int32) (((1 : Int64) <<< (p2 &&& 0x3f).toInt64) - (1 : Int64)) ((p2 + (1 : Int32)) / (2 : Int32)) h0 n0 Z0) hZ (hw _ (List.mem_of_getElem? (i := 46) rfl)) (hw _ (List.mem_of_getElem? (i := 42) rfl)) (by decide) (by decide)) (g := (mkF m 56 #[.val (.long q0), .second, .val (.long q1), .second, .val (.int p2), .val (.long (((1 : Int64) <<< (p2 &&& 0x3f).toInt64) - (1 : Int64))), .second, .val (.int ((p2 + (1 : Int32)) / (2 : Int32))), .val (.long (own_round (own_round (q0 &&& (((1 : Int64) <<< (p2 &&& 0x3f).toInt64) - (1 : Int64))) q1 (0 : Int32) (((1 : Int64) <<< (p2 &&& 0x3f).toInt64) - (1 : Int64)) ((p2 + (1 : Int32)) / (2 : Int32))) q1 (1 : Int32) (((1 : Int64) <<< (p2 &&& 0x3f).toInt64) - (1 : Int64)) ((p2 + (1 : Int32)) / (2 : Int32)))), .second] [(.int ((p2 + (1 : Int32)) / (2 : Int32))), (.long (((1 : Int64) <<< (p2 &&& 0x3f).toInt64) - (1 : Int64))), (.int (2 : Int32)), (.long q1), (.long (own_round (own_round (q0 &&& (((1 : Int64) <<< (p2 &&& 0x3f).toInt64) - (1 : Int64))) q1 (0 : Int32) (((1 : Int64) <<< (p2 &&& 0x3f).toInt64) - (1 : Int64)) ((p2 + (1 : Int32)) / (2 : Int32))) q1 (1 : Int32) (((1 : Int64) <<< (p2 &&& 0x3f).toInt64) - (1 : Int64)) ((p2 + (1 : Int32)) / (2 : Int32))))])) rfl (by rw [hml]; rfl) (argsL := [(.long (own_round (own_round (q0 &&& (((1 : Int64) <<< (p2 &&& 0x3f).toInt64) - (1 : Int64))) q1 (0 : Int32) (((1 : Int64) <<< (p2 &&& 0x3f).toInt64) - (1 : Int64)) ((p2 + (1 : Int32)) / (2 : Int32))) q1 (1 : Int32) (((1 : Int64) <<< (p2 &&& 0x3f).toInt64) - (1 : Int64)) ((p2 + (1 : Int32)) / (2 : Int32)))), (.long q1), (.int (2 : Int32)), (.long (((1 : Int64) <<< (p2 &&& 0x3f).toInt64) - (1 : Int64))), (.int ((p2 + (1 : Int32)) / (2 : Int32)))]) (rest := []) (lenOf pd_28JJIJI29J rfl) rfl (by show 2 * 0 + _ ≤ _; exact Nat.le_of_eq rfl) (hb hby d6_56) (fun _ _ => ⟨rfl, e2, (by decide : 0 + 0 ≤ _), (by decide : 0 + 0 ≤ _)⟩)
  dsimp only [Pt.U, Pt.locs, Pt.cells, Pt.slots] at X3 l3 y3 z3 st3 hQ3
  subst l3 y3 z3
  obtain ⟨rfl, N3q, e3⟩ := hQ3
  have N3 := Fr.app N2 N3q
  obtain ⟨_, _, ⟨T4, L4, k4, n4⟩, -, X4, ⟨Lc4, hQ4, l4, y4, z4⟩, st4⟩ := Jvm.LawKit.callS X3 hx (y := (⟨"com/example/gangleri/gangleri/generate/KroneckerGeneratorPermutePinLaw", "round", "(JJIJI)J"⟩ : MethodName)) hown (mvT hZ (hw _ (List.mem_of_getElem? (i := 44) rfl))) (mvT hZ (hw _ (List.mem_of_getElem? (i := 45) rfl))) (mvT hZ (hw _ (List.mem_of_getElem? (i := 42) rfl))) (mvT hZ (hw _ (List.mem_of_getElem? (i := 46) rfl))) (by decide) (backOf (W := 0) (rm7 l Z a0 hw [] (own_round (own_round (own_round (q0 &&& (((1 : Int64) <<< (p2 &&& 0x3f).toInt64) - (1 : Int64))) q1 (0 : Int32) (((1 : Int64) <<< (p2 &&& 0x3f).toInt64) - (1 : Int64)) ((p2 + (1 : Int32)) / (2 : Int32))) q1 (1 : Int32) (((1 : Int64) <<< (p2 &&& 0x3f).toInt64) - (1 : Int64)) ((p2 + (1 : Int32)) / (2 : Int32))) q1 (2 : Int32) (((1 : Int64) <<< (p2 &&& 0x3f).toInt64) - (1 : Int64)) ((p2 + (1 : Int32)) / (2 : Int32))) q1 (3 : Int32) (((1 : Int64) <<< (p2 &&& 0x3f).toInt64) - (1 : Int64)) ((p2 + (1 : Int32)) / (2 : Int32)) h0 n0 Z0) hZ (hw _ (List.mem_of_getElem? (i := 46) rfl)) (hw _ (List.mem_of_getElem? (i := 42) rfl)) (by decide) (by decide)) (g := (mkF m 69 #[.val (.long q0), .second, .val (.long q1), .second, .val (.int p2), .val (.long (((1 : Int64) <<< (p2 &&& 0x3f).toInt64) - (1 : Int64))), .second, .val (.int ((p2 + (1 : Int32)) / (2 : Int32))), .val (.long (own_round (own_round (own_round (q0 &&& (((1 : Int64) <<< (p2 &&& 0x3f).toInt64) - (1 : Int64))) q1 (0 : Int32) (((1 : Int64) <<< (p2 &&& 0x3f).toInt64) - (1 : Int64)) ((p2 + (1 : Int32)) / (2 : Int32))) q1 (1 : Int32) (((1 : Int64) <<< (p2 &&& 0x3f).toInt64) - (1 : Int64)) ((p2 + (1 : Int32)) / (2 : Int32))) q1 (2 : Int32) (((1 : Int64) <<< (p2 &&& 0x3f).toInt64) - (1 : Int64)) ((p2 + (1 : Int32)) / (2 : Int32)))), .second] [(.int ((p2 + (1 : Int32)) / (2 : Int32))), (.long (((1 : Int64) <<< (p2 &&& 0x3f).toInt64) - (1 : Int64))), (.int (3 : Int32)), (.long q1), (.long (own_round (own_round (own_round (q0 &&& (((1 : Int64) <<< (p2 &&& 0x3f).toInt64) - (1 : Int64))) q1 (0 : Int32) (((1 : Int64) <<< (p2 &&& 0x3f).toInt64) - (1 : Int64)) ((p2 + (1 : Int32)) / (2 : Int32))) q1 (1 : Int32) (((1 : Int64) <<< (p2 &&& 0x3f).toInt64) - (1 : Int64)) ((p2 + (1 : Int32)) / (2 : Int32))) q1 (2 : Int32) (((1 : Int64) <<< (p2 &&& 0x3f).toInt64) - (1 : Int64)) ((p2 + (1 : Int32)) / (2 : Int32))))])) rfl (by rw [hml]; rfl) (argsL := [(.long (own_round (own_round (own_round (q0 &&& (((1 : Int64) <<< (p2 &&& 0x3f).toInt64) - (1 : Int64))) q1 (0 : Int32) (((1 : Int64) <<< (p2 &&& 0x3f).toInt64) - (1 : Int64)) ((p2 + (1 : Int32)) / (2 : Int32))) q1 (1 : Int32) (((1 : Int64) <<< (p2 &&& 0x3f).toInt64) - (1 : Int64)) ((p2 + (1 : Int32)) / (2 : Int32))) q1 (2 : Int32) (((1 : Int64) <<< (p2 &&& 0x3f).toInt64) - (1 : Int64)) ((p2 + (1 : Int32)) / (2 : Int32)))), (.long q1), (.int (3 : Int32)), (.long (((1 : Int64) <<< (p2 &&& 0x3f).toInt64) - (1 : Int64))), (.int ((p2 + (1 : Int32)) / (2 : Int32)))]) (rest := []) (lenOf pd_28JJIJI29J rfl) rfl (by show 2 * 0 + _ ≤ _; exact Nat.le_of_eq rfl) (hb hby d6_69) (fun _ _ => ⟨rfl, e3, (by decide : 0 + 0 ≤ _), (by decide : 0 + 0 ≤ _)⟩)
  dsimp only [Pt.U, Pt.locs, Pt.cells, Pt.slots] at X4 l4 y4 z4 st4 hQ4
  subst l4 y4 z4
  obtain ⟨rfl, N4q, e4⟩ := hQ4
  have N4 := Fr.app N3 N4q
  obtain ⟨fs, hr, hrun, hended, hW, hsame⟩ := X4.leave (v := some (.long (own_round (own_round (own_round (own_round (q0 &&& (((1 : Int64) <<< (p2 &&& 0x3f).toInt64) - (1 : Int64))) q1 (0 : Int32) (((1 : Int64) <<< (p2 &&& 0x3f).toInt64) - (1 : Int64)) ((p2 + (1 : Int32)) / (2 : Int32))) q1 (1 : Int32) (((1 : Int64) <<< (p2 &&& 0x3f).toInt64) - (1 : Int64)) ((p2 + (1 : Int32)) / (2 : Int32))) q1 (2 : Int32) (((1 : Int64) <<< (p2 &&& 0x3f).toInt64) - (1 : Int64)) ((p2 + (1 : Int32)) / (2 : Int32))) q1 (3 : Int32) (((1 : Int64) <<< (p2 &&& 0x3f).toInt64) - (1 : Int64)) ((p2 + (1 : Int32)) / (2 : Int32))))) (fun h => by rw [Bd.returns] at h; cases h)
  refine ⟨_, _, pre0 _ ?_, hrun, hended, _, _, rfl, ?_, ⟨_, rfl⟩, hW, hsame.mono (by decide) (by decide)⟩
  · show Steps p.tables e below (s₁.setTop (mkF m 0 #[.val (.long q0), .second, .val (.long q1), .second, .val (.int p2), .unset, .unset, .unset, .unset, .unset] [])) _
    refine XS.lconst X0.here hx rfl (hb hby d6_0) ?_
    show Steps p.tables e below (s₁.setTop (mkF m 1 #[.val (.long q0), .second, .val (.long q1), .second, .val (.int p2), .unset, .unset, .unset, .unset, .unset] [(.long (1 : Int64))])) _
    refine XS.iload X0.here hx rfl (hb hby d6_1) rfl ?_
    show Steps p.tables e below (s₁.setTop (mkF m 3 #[.val (.long q0), .second, .val (.long q1), .second, .val (.int p2), .unset, .unset, .unset, .unset, .unset] [(.int p2), (.long (1 : Int64))])) _
    refine XS.lshl X0.here hx rfl (hb hby d6_3) rfl ?_
    show Steps p.tables e below (s₁.setTop (mkF m 4 #[.val (.long q0), .second, .val (.long q1), .second, .val (.int p2), .unset, .unset, .unset, .unset, .unset] [(.long ((1 : Int64) <<< (p2 &&& 0x3f).toInt64))])) _
    refine XS.lconst X0.here hx rfl (hb hby d6_4) ?_
    show Steps p.tables e below (s₁.setTop (mkF m 5 #[.val (.long q0), .second, .val (.long q1), .second, .val (.int p2), .unset, .unset, .unset, .unset, .unset] [(.long (1 : Int64)), (.long ((1 : Int64) <<< (p2 &&& 0x3f).toInt64))])) _
    refine XS.lsub X0.here hx rfl (hb hby d6_5) rfl ?_
    show Steps p.tables e below (s₁.setTop (mkF m 6 #[.val (.long q0), .second, .val (.long q1), .second, .val (.int p2), .unset, .unset, .unset, .unset, .unset] [(.long (((1 : Int64) <<< (p2 &&& 0x3f).toInt64) - (1 : Int64)))])) _
    refine XS.lstore X0.here hx rfl (hb hby d6_6) rfl (l' := #[.val (.long q0), .second, .val (.long q1), .second, .val (.int p2), .val (.long (((1 : Int64) <<< (p2 &&& 0x3f).toInt64) - (1 : Int64))), .second, .unset, .unset, .unset]) rfl ?_
    show Steps p.tables e below (s₁.setTop (mkF m 8 #[.val (.long q0), .second, .val (.long q1), .second, .val (.int p2), .val (.long (((1 : Int64) <<< (p2 &&& 0x3f).toInt64) - (1 : Int64))), .second, .unset, .unset, .unset] [])) _
    refine XS.iload X0.here hx rfl (hb hby d6_8) rfl ?_
    show Steps p.tables e below (s₁.setTop (mkF m 10 #[.val (.long q0), .second, .val (.long q1), .second, .val (.int p2), .val (.long (((1 : Int64) <<< (p2 &&& 0x3f).toInt64) - (1 : Int64))), .second, .unset, .unset, .unset] [(.int p2)])) _
    refine XS.iconst X0.here hx rfl (hb hby d6_10) ?_
    show Steps p.tables e below (s₁.setTop (mkF m 11 #[.val (.long q0), .second, .val (.long q1), .second, .val (.int p2), .val (.long (((1 : Int64) <<< (p2 &&& 0x3f).toInt64) - (1 : Int64))), .second, .unset, .unset, .unset] [(.int (1 : Int32)), (.int p2)])) _
    refine XS.iadd X0.here hx rfl (hb hby d6_11) rfl ?_
    show Steps p.tables e below (s₁.setTop (mkF m 12 #[.val (.long q0), .second, .val (.long q1), .second, .val (.int p2), .val (.long (((1 : Int64) <<< (p2 &&& 0x3f).toInt64) - (1 : Int64))), .second, .unset, .unset, .unset] [(.int (p2 + (1 : Int32)))])) _
    refine XS.iconst X0.here hx rfl (hb hby d6_12) ?_
    show Steps p.tables e below (s₁.setTop (mkF m 13 #[.val (.long q0), .second, .val (.long q1), .second, .val (.int p2), .val (.long (((1 : Int64) <<< (p2 &&& 0x3f).toInt64) - (1 : Int64))), .second, .unset, .unset, .unset] [(.int (2 : Int32)), (.int (p2 + (1 : Int32)))])) _
    refine XS.idiv X0.here hx rfl (hb hby d6_13) rfl (by decide) ?_
    show Steps p.tables e below (s₁.setTop (mkF m 14 #[.val (.long q0), .second, .val (.long q1), .second, .val (.int p2), .val (.long (((1 : Int64) <<< (p2 &&& 0x3f).toInt64) - (1 : Int64))), .second, .unset, .unset, .unset] [(.int ((p2 + (1 : Int32)) / (2 : Int32)))])) _
    refine XS.istore X0.here hx rfl (hb hby d6_14) rfl (l' := #[.val (.long q0), .second, .val (.long q1), .second, .val (.int p2), .val (.long (((1 : Int64) <<< (p2 &&& 0x3f).toInt64) - (1 : Int64))), .second, .val (.int ((p2 + (1 : Int32)) / (2 : Int32))), .unset, .unset]) rfl ?_
    show Steps p.tables e below (s₁.setTop (mkF m 16 #[.val (.long q0), .second, .val (.long q1), .second, .val (.int p2), .val (.long (((1 : Int64) <<< (p2 &&& 0x3f).toInt64) - (1 : Int64))), .second, .val (.int ((p2 + (1 : Int32)) / (2 : Int32))), .unset, .unset] [])) _
    refine XS.lloadN X0.here hx rfl (hb hby d6_16) rfl ?_
    show Steps p.tables e below (s₁.setTop (mkF m 17 #[.val (.long q0), .second, .val (.long q1), .second, .val (.int p2), .val (.long (((1 : Int64) <<< (p2 &&& 0x3f).toInt64) - (1 : Int64))), .second, .val (.int ((p2 + (1 : Int32)) / (2 : Int32))), .unset, .unset] [(.long q0)])) _
    refine XS.lload X0.here hx rfl (hb hby d6_17) rfl ?_
    show Steps p.tables e below (s₁.setTop (mkF m 19 #[.val (.long q0), .second, .val (.long q1), .second, .val (.int p2), .val (.long (((1 : Int64) <<< (p2 &&& 0x3f).toInt64) - (1 : Int64))), .second, .val (.int ((p2 + (1 : Int32)) / (2 : Int32))), .unset, .unset] [(.long (((1 : Int64) <<< (p2 &&& 0x3f).toInt64) - (1 : Int64))), (.long q0)])) _
    refine XS.land X0.here hx rfl (hb hby d6_19) rfl ?_
    show Steps p.tables e below (s₁.setTop (mkF m 20 #[.val (.long q0), .second, .val (.long q1), .second, .val (.int p2), .val (.long (((1 : Int64) <<< (p2 &&& 0x3f).toInt64) - (1 : Int64))), .second, .val (.int ((p2 + (1 : Int32)) / (2 : Int32))), .unset, .unset] [(.long (q0 &&& (((1 : Int64) <<< (p2 &&& 0x3f).toInt64) - (1 : Int64))))])) _
    refine XS.lstore X0.here hx rfl (hb hby d6_20) rfl (l' := #[.val (.long q0), .second, .val (.long q1), .second, .val (.int p2), .val (.long (((1 : Int64) <<< (p2 &&& 0x3f).toInt64) - (1 : Int64))), .second, .val (.int ((p2 + (1 : Int32)) / (2 : Int32))), .val (.long (q0 &&& (((1 : Int64) <<< (p2 &&& 0x3f).toInt64) - (1 : Int64)))), .second]) rfl ?_
    show Steps p.tables e below (s₁.setTop (mkF m 22 #[.val (.long q0), .second, .val (.long q1), .second, .val (.int p2), .val (.long (((1 : Int64) <<< (p2 &&& 0x3f).toInt64) - (1 : Int64))), .second, .val (.int ((p2 + (1 : Int32)) / (2 : Int32))), .val (.long (q0 &&& (((1 : Int64) <<< (p2 &&& 0x3f).toInt64) - (1 : Int64)))), .second] [])) _
    refine XS.lload X0.here hx rfl (hb hby d6_22) rfl ?_
    show Steps p.tables e below (s₁.setTop (mkF m 24 #[.val (.long q0), .second, .val (.long q1), .second, .val (.int p2), .val (.long (((1 : Int64) <<< (p2 &&& 0x3f).toInt64) - (1 : Int64))), .second, .val (.int ((p2 + (1 : Int32)) / (2 : Int32))), .val (.long (q0 &&& (((1 : Int64) <<< (p2 &&& 0x3f).toInt64) - (1 : Int64)))), .second] [(.long (q0 &&& (((1 : Int64) <<< (p2 &&& 0x3f).toInt64) - (1 : Int64))))])) _
    refine XS.lloadN X0.here hx rfl (hb hby d6_24) rfl ?_
    show Steps p.tables e below (s₁.setTop (mkF m 25 #[.val (.long q0), .second, .val (.long q1), .second, .val (.int p2), .val (.long (((1 : Int64) <<< (p2 &&& 0x3f).toInt64) - (1 : Int64))), .second, .val (.int ((p2 + (1 : Int32)) / (2 : Int32))), .val (.long (q0 &&& (((1 : Int64) <<< (p2 &&& 0x3f).toInt64) - (1 : Int64)))), .second] [(.long q1), (.long (q0 &&& (((1 : Int64) <<< (p2 &&& 0x3f).toInt64) - (1 : Int64))))])) _
    refine XS.iconst X0.here hx rfl (hb hby d6_25) ?_
    show Steps p.tables e below (s₁.setTop (mkF m 26 #[.val (.long q0), .second, .val (.long q1), .second, .val (.int p2), .val (.long (((1 : Int64) <<< (p2 &&& 0x3f).toInt64) - (1 : Int64))), .second, .val (.int ((p2 + (1 : Int32)) / (2 : Int32))), .val (.long (q0 &&& (((1 : Int64) <<< (p2 &&& 0x3f).toInt64) - (1 : Int64)))), .second] [(.int (0 : Int32)), (.long q1), (.long (q0 &&& (((1 : Int64) <<< (p2 &&& 0x3f).toInt64) - (1 : Int64))))])) _
    refine XS.lload X0.here hx rfl (hb hby d6_26) rfl ?_
    show Steps p.tables e below (s₁.setTop (mkF m 28 #[.val (.long q0), .second, .val (.long q1), .second, .val (.int p2), .val (.long (((1 : Int64) <<< (p2 &&& 0x3f).toInt64) - (1 : Int64))), .second, .val (.int ((p2 + (1 : Int32)) / (2 : Int32))), .val (.long (q0 &&& (((1 : Int64) <<< (p2 &&& 0x3f).toInt64) - (1 : Int64)))), .second] [(.long (((1 : Int64) <<< (p2 &&& 0x3f).toInt64) - (1 : Int64))), (.int (0 : Int32)), (.long q1), (.long (q0 &&& (((1 : Int64) <<< (p2 &&& 0x3f).toInt64) - (1 : Int64))))])) _
    refine XS.iload X0.here hx rfl (hb hby d6_28) rfl ?_
    show Steps p.tables e below (s₁.setTop (mkF m 30 #[.val (.long q0), .second, .val (.long q1), .second, .val (.int p2), .val (.long (((1 : Int64) <<< (p2 &&& 0x3f).toInt64) - (1 : Int64))), .second, .val (.int ((p2 + (1 : Int32)) / (2 : Int32))), .val (.long (q0 &&& (((1 : Int64) <<< (p2 &&& 0x3f).toInt64) - (1 : Int64)))), .second] [(.int ((p2 + (1 : Int32)) / (2 : Int32))), (.long (((1 : Int64) <<< (p2 &&& 0x3f).toInt64) - (1 : Int64))), (.int (0 : Int32)), (.long q1), (.long (q0 &&& (((1 : Int64) <<< (p2 &&& 0x3f).toInt64) - (1 : Int64))))])) _
    refine st1 _ ?_
    show Steps p.tables e below (T1.setTop (mkF m 33 #[.val (.long q0), .second, .val (.long q1), .second, .val (.int p2), .val (.long (((1 : Int64) <<< (p2 &&& 0x3f).toInt64) - (1 : Int64))), .second, .val (.int ((p2 + (1 : Int32)) / (2 : Int32))), .val (.long (q0 &&& (((1 : Int64) <<< (p2 &&& 0x3f).toInt64) - (1 : Int64)))), .second] [(.long (own_round (q0 &&& (((1 : Int64) <<< (p2 &&& 0x3f).toInt64) - (1 : Int64))) q1 (0 : Int32) (((1 : Int64) <<< (p2 &&& 0x3f).toInt64) - (1 : Int64)) ((p2 + (1 : Int32)) / (2 : Int32))))])) _
    refine XS.lstore X1.here hx rfl (hb hby d6_33) rfl (l' := #[.val (.long q0), .second, .val (.long q1), .second, .val (.int p2), .val (.long (((1 : Int64) <<< (p2 &&& 0x3f).toInt64) - (1 : Int64))), .second, .val (.int ((p2 + (1 : Int32)) / (2 : Int32))), .val (.long (own_round (q0 &&& (((1 : Int64) <<< (p2 &&& 0x3f).toInt64) - (1 : Int64))) q1 (0 : Int32) (((1 : Int64) <<< (p2 &&& 0x3f).toInt64) - (1 : Int64)) ((p2 + (1 : Int32)) / (2 : Int32)))), .second]) rfl ?_
    show Steps p.tables e below (T1.setTop (mkF m 35 #[.val (.long q0), .second, .val (.long q1), .second, .val (.int p2), .val (.long (((1 : Int64) <<< (p2 &&& 0x3f).toInt64) - (1 : Int64))), .second, .val (.int ((p2 + (1 : Int32)) / (2 : Int32))), .val (.long (own_round (q0 &&& (((1 : Int64) <<< (p2 &&& 0x3f).toInt64) - (1 : Int64))) q1 (0 : Int32) (((1 : Int64) <<< (p2 &&& 0x3f).toInt64) - (1 : Int64)) ((p2 + (1 : Int32)) / (2 : Int32)))), .second] [])) _
    refine XS.lload X1.here hx rfl (hb hby d6_35) rfl ?_
    show Steps p.tables e below (T1.setTop (mkF m 37 #[.val (.long q0), .second, .val (.long q1), .second, .val (.int p2), .val (.long (((1 : Int64) <<< (p2 &&& 0x3f).toInt64) - (1 : Int64))), .second, .val (.int ((p2 + (1 : Int32)) / (2 : Int32))), .val (.long (own_round (q0 &&& (((1 : Int64) <<< (p2 &&& 0x3f).toInt64) - (1 : Int64))) q1 (0 : Int32) (((1 : Int64) <<< (p2 &&& 0x3f).toInt64) - (1 : Int64)) ((p2 + (1 : Int32)) / (2 : Int32)))), .second] [(.long (own_round (q0 &&& (((1 : Int64) <<< (p2 &&& 0x3f).toInt64) - (1 : Int64))) q1 (0 : Int32) (((1 : Int64) <<< (p2 &&& 0x3f).toInt64) - (1 : Int64)) ((p2 + (1 : Int32)) / (2 : Int32))))])) _
    refine XS.lloadN X1.here hx rfl (hb hby d6_37) rfl ?_
    show Steps p.tables e below (T1.setTop (mkF m 38 #[.val (.long q0), .second, .val (.long q1), .second, .val (.int p2), .val (.long (((1 : Int64) <<< (p2 &&& 0x3f).toInt64) - (1 : Int64))), .second, .val (.int ((p2 + (1 : Int32)) / (2 : Int32))), .val (.long (own_round (q0 &&& (((1 : Int64) <<< (p2 &&& 0x3f).toInt64) - (1 : Int64))) q1 (0 : Int32) (((1 : Int64) <<< (p2 &&& 0x3f).toInt64) - (1 : Int64)) ((p2 + (1 : Int32)) / (2 : Int32)))), .second] [(.long q1), (.long (own_round (q0 &&& (((1 : Int64) <<< (p2 &&& 0x3f).toInt64) - (1 : Int64))) q1 (0 : Int32) (((1 : Int64) <<< (p2 &&& 0x3f).toInt64) - (1 : Int64)) ((p2 + (1 : Int32)) / (2 : Int32))))])) _
    refine XS.iconst X1.here hx rfl (hb hby d6_38) ?_
    show Steps p.tables e below (T1.setTop (mkF m 39 #[.val (.long q0), .second, .val (.long q1), .second, .val (.int p2), .val (.long (((1 : Int64) <<< (p2 &&& 0x3f).toInt64) - (1 : Int64))), .second, .val (.int ((p2 + (1 : Int32)) / (2 : Int32))), .val (.long (own_round (q0 &&& (((1 : Int64) <<< (p2 &&& 0x3f).toInt64) - (1 : Int64))) q1 (0 : Int32) (((1 : Int64) <<< (p2 &&& 0x3f).toInt64) - (1 : Int64)) ((p2 + (1 : Int32)) / (2 : Int32)))), .second] [(.int (1 : Int32)), (.long q1), (.long (own_round (q0 &&& (((1 : Int64) <<< (p2 &&& 0x3f).toInt64) - (1 : Int64))) q1 (0 : Int32) (((1 : Int64) <<< (p2 &&& 0x3f).toInt64) - (1 : Int64)) ((p2 + (1 : Int32)) / (2 : Int32))))])) _
    refine XS.lload X1.here hx rfl (hb hby d6_39) rfl ?_
    show Steps p.tables e below (T1.setTop (mkF m 41 #[.val (.long q0), .second, .val (.long q1), .second, .val (.int p2), .val (.long (((1 : Int64) <<< (p2 &&& 0x3f).toInt64) - (1 : Int64))), .second, .val (.int ((p2 + (1 : Int32)) / (2 : Int32))), .val (.long (own_round (q0 &&& (((1 : Int64) <<< (p2 &&& 0x3f).toInt64) - (1 : Int64))) q1 (0 : Int32) (((1 : Int64) <<< (p2 &&& 0x3f).toInt64) - (1 : Int64)) ((p2 + (1 : Int32)) / (2 : Int32)))), .second] [(.long (((1 : Int64) <<< (p2 &&& 0x3f).toInt64) - (1 : Int64))), (.int (1 : Int32)), (.long q1), (.long (own_round (q0 &&& (((1 : Int64) <<< (p2 &&& 0x3f).toInt64) - (1 : Int64))) q1 (0 : Int32) (((1 : Int64) <<< (p2 &&& 0x3f).toInt64) - (1 : Int64)) ((p2 + (1 : Int32)) / (2 : Int32))))])) _
    refine XS.iload X1.here hx rfl (hb hby d6_41) rfl ?_
    show Steps p.tables e below (T1.setTop (mkF m 43 #[.val (.long q0), .second, .val (.long q1), .second, .val (.int p2), .val (.long (((1 : Int64) <<< (p2 &&& 0x3f).toInt64) - (1 : Int64))), .second, .val (.int ((p2 + (1 : Int32)) / (2 : Int32))), .val (.long (own_round (q0 &&& (((1 : Int64) <<< (p2 &&& 0x3f).toInt64) - (1 : Int64))) q1 (0 : Int32) (((1 : Int64) <<< (p2 &&& 0x3f).toInt64) - (1 : Int64)) ((p2 + (1 : Int32)) / (2 : Int32)))), .second] [(.int ((p2 + (1 : Int32)) / (2 : Int32))), (.long (((1 : Int64) <<< (p2 &&& 0x3f).toInt64) - (1 : Int64))), (.int (1 : Int32)), (.long q1), (.long (own_round (q0 &&& (((1 : Int64) <<< (p2 &&& 0x3f).toInt64) - (1 : Int64))) q1 (0 : Int32) (((1 : Int64) <<< (p2 &&& 0x3f).toInt64) - (1 : Int64)) ((p2 + (1 : Int32)) / (2 : Int32))))])) _
    refine st2 _ ?_
    show Steps p.tables e below (T2.setTop (mkF m 46 #[.val (.long q0), .second, .val (.long q1), .second, .val (.int p2), .val (.long (((1 : Int64) <<< (p2 &&& 0x3f).toInt64) - (1 : Int64))), .second, .val (.int ((p2 + (1 : Int32)) / (2 : Int32))), .val (.long (own_round (q0 &&& (((1 : Int64) <<< (p2 &&& 0x3f).toInt64) - (1 : Int64))) q1 (0 : Int32) (((1 : Int64) <<< (p2 &&& 0x3f).toInt64) - (1 : Int64)) ((p2 + (1 : Int32)) / (2 : Int32)))), .second] [(.long (own_round (own_round (q0 &&& (((1 : Int64) <<< (p2 &&& 0x3f).toInt64) - (1 : Int64))) q1 (0 : Int32) (((1 : Int64) <<< (p2 &&& 0x3f).toInt64) - (1 : Int64)) ((p2 + (1 : Int32)) / (2 : Int32))) q1 (1 : Int32) (((1 : Int64) <<< (p2 &&& 0x3f).toInt64) - (1 : Int64)) ((p2 + (1 : Int32)) / (2 : Int32))))])) _
    refine XS.lstore X2.here hx rfl (hb hby d6_46) rfl (l' := #[.val (.long q0), .second, .val (.long q1), .second, .val (.int p2), .val (.long (((1 : Int64) <<< (p2 &&& 0x3f).toInt64) - (1 : Int64))), .second, .val (.int ((p2 + (1 : Int32)) / (2 : Int32))), .val (.long (own_round (own_round (q0 &&& (((1 : Int64) <<< (p2 &&& 0x3f).toInt64) - (1 : Int64))) q1 (0 : Int32) (((1 : Int64) <<< (p2 &&& 0x3f).toInt64) - (1 : Int64)) ((p2 + (1 : Int32)) / (2 : Int32))) q1 (1 : Int32) (((1 : Int64) <<< (p2 &&& 0x3f).toInt64) - (1 : Int64)) ((p2 + (1 : Int32)) / (2 : Int32)))), .second]) rfl ?_
    show Steps p.tables e below (T2.setTop (mkF m 48 #[.val (.long q0), .second, .val (.long q1), .second, .val (.int p2), .val (.long (((1 : Int64) <<< (p2 &&& 0x3f).toInt64) - (1 : Int64))), .second, .val (.int ((p2 + (1 : Int32)) / (2 : Int32))), .val (.long (own_round (own_round (q0 &&& (((1 : Int64) <<< (p2 &&& 0x3f).toInt64) - (1 : Int64))) q1 (0 : Int32) (((1 : Int64) <<< (p2 &&& 0x3f).toInt64) - (1 : Int64)) ((p2 + (1 : Int32)) / (2 : Int32))) q1 (1 : Int32) (((1 : Int64) <<< (p2 &&& 0x3f).toInt64) - (1 : Int64)) ((p2 + (1 : Int32)) / (2 : Int32)))), .second] [])) _
    refine XS.lload X2.here hx rfl (hb hby d6_48) rfl ?_
    show Steps p.tables e below (T2.setTop (mkF m 50 #[.val (.long q0), .second, .val (.long q1), .second, .val (.int p2), .val (.long (((1 : Int64) <<< (p2 &&& 0x3f).toInt64) - (1 : Int64))), .second, .val (.int ((p2 + (1 : Int32)) / (2 : Int32))), .val (.long (own_round (own_round (q0 &&& (((1 : Int64) <<< (p2 &&& 0x3f).toInt64) - (1 : Int64))) q1 (0 : Int32) (((1 : Int64) <<< (p2 &&& 0x3f).toInt64) - (1 : Int64)) ((p2 + (1 : Int32)) / (2 : Int32))) q1 (1 : Int32) (((1 : Int64) <<< (p2 &&& 0x3f).toInt64) - (1 : Int64)) ((p2 + (1 : Int32)) / (2 : Int32)))), .second] [(.long (own_round (own_round (q0 &&& (((1 : Int64) <<< (p2 &&& 0x3f).toInt64) - (1 : Int64))) q1 (0 : Int32) (((1 : Int64) <<< (p2 &&& 0x3f).toInt64) - (1 : Int64)) ((p2 + (1 : Int32)) / (2 : Int32))) q1 (1 : Int32) (((1 : Int64) <<< (p2 &&& 0x3f).toInt64) - (1 : Int64)) ((p2 + (1 : Int32)) / (2 : Int32))))])) _
    refine XS.lloadN X2.here hx rfl (hb hby d6_50) rfl ?_
    show Steps p.tables e below (T2.setTop (mkF m 51 #[.val (.long q0), .second, .val (.long q1), .second, .val (.int p2), .val (.long (((1 : Int64) <<< (p2 &&& 0x3f).toInt64) - (1 : Int64))), .second, .val (.int ((p2 + (1 : Int32)) / (2 : Int32))), .val (.long (own_round (own_round (q0 &&& (((1 : Int64) <<< (p2 &&& 0x3f).toInt64) - (1 : Int64))) q1 (0 : Int32) (((1 : Int64) <<< (p2 &&& 0x3f).toInt64) - (1 : Int64)) ((p2 + (1 : Int32)) / (2 : Int32))) q1 (1 : Int32) (((1 : Int64) <<< (p2 &&& 0x3f).toInt64) - (1 : Int64)) ((p2 + (1 : Int32)) / (2 : Int32)))), .second] [(.long q1), (.long (own_round (own_round (q0 &&& (((1 : Int64) <<< (p2 &&& 0x3f).toInt64) - (1 : Int64))) q1 (0 : Int32) (((1 : Int64) <<< (p2 &&& 0x3f).toInt64) - (1 : Int64)) ((p2 + (1 : Int32)) / (2 : Int32))) q1 (1 : Int32) (((1 : Int64) <<< (p2 &&& 0x3f).toInt64) - (1 : Int64)) ((p2 + (1 : Int32)) / (2 : Int32))))])) _
    refine XS.iconst X2.here hx rfl (hb hby d6_51) ?_
    show Steps p.tables e below (T2.setTop (mkF m 52 #[.val (.long q0), .second, .val (.long q1), .second, .val (.int p2), .val (.long (((1 : Int64) <<< (p2 &&& 0x3f).toInt64) - (1 : Int64))), .second, .val (.int ((p2 + (1 : Int32)) / (2 : Int32))), .val (.long (own_round (own_round (q0 &&& (((1 : Int64) <<< (p2 &&& 0x3f).toInt64) - (1 : Int64))) q1 (0 : Int32) (((1 : Int64) <<< (p2 &&& 0x3f).toInt64) - (1 : Int64)) ((p2 + (1 : Int32)) / (2 : Int32))) q1 (1 : Int32) (((1 : Int64) <<< (p2 &&& 0x3f).toInt64) - (1 : Int64)) ((p2 + (1 : Int32)) / (2 : Int32)))), .second] [(.int (2 : Int32)), (.long q1), (.long (own_round (own_round (q0 &&& (((1 : Int64) <<< (p2 &&& 0x3f).toInt64) - (1 : Int64))) q1 (0 : Int32) (((1 : Int64) <<< (p2 &&& 0x3f).toInt64) - (1 : Int64)) ((p2 + (1 : Int32)) / (2 : Int32))) q1 (1 : Int32) (((1 : Int64) <<< (p2 &&& 0x3f).toInt64) - (1 : Int64)) ((p2 + (1 : Int32)) / (2 : Int32))))])) _
    refine XS.lload X2.here hx rfl (hb hby d6_52) rfl ?_
    show Steps p.tables e below (T2.setTop (mkF m 54 #[.val (.long q0), .second, .val (.long q1), .second, .val (.int p2), .val (.long (((1 : Int64) <<< (p2 &&& 0x3f).toInt64) - (1 : Int64))), .second, .val (.int ((p2 + (1 : Int32)) / (2 : Int32))), .val (.long (own_round (own_round (q0 &&& (((1 : Int64) <<< (p2 &&& 0x3f).toInt64) - (1 : Int64))) q1 (0 : Int32) (((1 : Int64) <<< (p2 &&& 0x3f).toInt64) - (1 : Int64)) ((p2 + (1 : Int32)) / (2 : Int32))) q1 (1 : Int32) (((1 : Int64) <<< (p2 &&& 0x3f).toInt64) - (1 : Int64)) ((p2 + (1 : Int32)) / (2 : Int32)))), .second] [(.long (((1 : Int64) <<< (p2 &&& 0x3f).toInt64) - (1 : Int64))), (.int (2 : Int32)), (.long q1), (.long (own_round (own_round (q0 &&& (((1 : Int64) <<< (p2 &&& 0x3f).toInt64) - (1 : Int64))) q1 (0 : Int32) (((1 : Int64) <<< (p2 &&& 0x3f).toInt64) - (1 : Int64)) ((p2 + (1 : Int32)) / (2 : Int32))) q1 (1 : Int32) (((1 : Int64) <<< (p2 &&& 0x3f).toInt64) - (1 : Int64)) ((p2 + (1 : Int32)) / (2 : Int32))))])) _
    refine XS.iload X2.here hx rfl (hb hby d6_54) rfl ?_
    show Steps p.tables e below (T2.setTop (mkF m 56 #[.val (.long q0), .second, .val (.long q1), .second, .val (.int p2), .val (.long (((1 : Int64) <<< (p2 &&& 0x3f).toInt64) - (1 : Int64))), .second, .val (.int ((p2 + (1 : Int32)) / (2 : Int32))), .val (.long (own_round (own_round (q0 &&& (((1 : Int64) <<< (p2 &&& 0x3f).toInt64) - (1 : Int64))) q1 (0 : Int32) (((1 : Int64) <<< (p2 &&& 0x3f).toInt64) - (1 : Int64)) ((p2 + (1 : Int32)) / (2 : Int32))) q1 (1 : Int32) (((1 : Int64) <<< (p2 &&& 0x3f).toInt64) - (1 : Int64)) ((p2 + (1 : Int32)) / (2 : Int32)))), .second] [(.int ((p2 + (1 : Int32)) / (2 : Int32))), (.long (((1 : Int64) <<< (p2 &&& 0x3f).toInt64) - (1 : Int64))), (.int (2 : Int32)), (.long q1), (.long (own_round (own_round (q0 &&& (((1 : Int64) <<< (p2 &&& 0x3f).toInt64) - (1 : Int64))) q1 (0 : Int32) (((1 : Int64) <<< (p2 &&& 0x3f).toInt64) - (1 : Int64)) ((p2 + (1 : Int32)) / (2 : Int32))) q1 (1 : Int32) (((1 : Int64) <<< (p2 &&& 0x3f).toInt64) - (1 : Int64)) ((p2 + (1 : Int32)) / (2 : Int32))))])) _
    refine st3 _ ?_
    show Steps p.tables e below (T3.setTop (mkF m 59 #[.val (.long q0), .second, .val (.long q1), .second, .val (.int p2), .val (.long (((1 : Int64) <<< (p2 &&& 0x3f).toInt64) - (1 : Int64))), .second, .val (.int ((p2 + (1 : Int32)) / (2 : Int32))), .val (.long (own_round (own_round (q0 &&& (((1 : Int64) <<< (p2 &&& 0x3f).toInt64) - (1 : Int64))) q1 (0 : Int32) (((1 : Int64) <<< (p2 &&& 0x3f).toInt64) - (1 : Int64)) ((p2 + (1 : Int32)) / (2 : Int32))) q1 (1 : Int32) (((1 : Int64) <<< (p2 &&& 0x3f).toInt64) - (1 : Int64)) ((p2 + (1 : Int32)) / (2 : Int32)))), .second] [(.long (own_round (own_round (own_round (q0 &&& (((1 : Int64) <<< (p2 &&& 0x3f).toInt64) - (1 : Int64))) q1 (0 : Int32) (((1 : Int64) <<< (p2 &&& 0x3f).toInt64) - (1 : Int64)) ((p2 + (1 : Int32)) / (2 : Int32))) q1 (1 : Int32) (((1 : Int64) <<< (p2 &&& 0x3f).toInt64) - (1 : Int64)) ((p2 + (1 : Int32)) / (2 : Int32))) q1 (2 : Int32) (((1 : Int64) <<< (p2 &&& 0x3f).toInt64) - (1 : Int64)) ((p2 + (1 : Int32)) / (2 : Int32))))])) _
    refine XS.lstore X3.here hx rfl (hb hby d6_59) rfl (l' := #[.val (.long q0), .second, .val (.long q1), .second, .val (.int p2), .val (.long (((1 : Int64) <<< (p2 &&& 0x3f).toInt64) - (1 : Int64))), .second, .val (.int ((p2 + (1 : Int32)) / (2 : Int32))), .val (.long (own_round (own_round (own_round (q0 &&& (((1 : Int64) <<< (p2 &&& 0x3f).toInt64) - (1 : Int64))) q1 (0 : Int32) (((1 : Int64) <<< (p2 &&& 0x3f).toInt64) - (1 : Int64)) ((p2 + (1 : Int32)) / (2 : Int32))) q1 (1 : Int32) (((1 : Int64) <<< (p2 &&& 0x3f).toInt64) - (1 : Int64)) ((p2 + (1 : Int32)) / (2 : Int32))) q1 (2 : Int32) (((1 : Int64) <<< (p2 &&& 0x3f).toInt64) - (1 : Int64)) ((p2 + (1 : Int32)) / (2 : Int32)))), .second]) rfl ?_
    show Steps p.tables e below (T3.setTop (mkF m 61 #[.val (.long q0), .second, .val (.long q1), .second, .val (.int p2), .val (.long (((1 : Int64) <<< (p2 &&& 0x3f).toInt64) - (1 : Int64))), .second, .val (.int ((p2 + (1 : Int32)) / (2 : Int32))), .val (.long (own_round (own_round (own_round (q0 &&& (((1 : Int64) <<< (p2 &&& 0x3f).toInt64) - (1 : Int64))) q1 (0 : Int32) (((1 : Int64) <<< (p2 &&& 0x3f).toInt64) - (1 : Int64)) ((p2 + (1 : Int32)) / (2 : Int32))) q1 (1 : Int32) (((1 : Int64) <<< (p2 &&& 0x3f).toInt64) - (1 : Int64)) ((p2 + (1 : Int32)) / (2 : Int32))) q1 (2 : Int32) (((1 : Int64) <<< (p2 &&& 0x3f).toInt64) - (1 : Int64)) ((p2 + (1 : Int32)) / (2 : Int32)))), .second] [])) _
    refine XS.lload X3.here hx rfl (hb hby d6_61) rfl ?_
    show Steps p.tables e below (T3.setTop (mkF m 63 #[.val (.long q0), .second, .val (.long q1), .second, .val (.int p2), .val (.long (((1 : Int64) <<< (p2 &&& 0x3f).toInt64) - (1 : Int64))), .second, .val (.int ((p2 + (1 : Int32)) / (2 : Int32))), .val (.long (own_round (own_round (own_round (q0 &&& (((1 : Int64) <<< (p2 &&& 0x3f).toInt64) - (1 : Int64))) q1 (0 : Int32) (((1 : Int64) <<< (p2 &&& 0x3f).toInt64) - (1 : Int64)) ((p2 + (1 : Int32)) / (2 : Int32))) q1 (1 : Int32) (((1 : Int64) <<< (p2 &&& 0x3f).toInt64) - (1 : Int64)) ((p2 + (1 : Int32)) / (2 : Int32))) q1 (2 : Int32) (((1 : Int64) <<< (p2 &&& 0x3f).toInt64) - (1 : Int64)) ((p2 + (1 : Int32)) / (2 : Int32)))), .second] [(.long (own_round (own_round (own_round (q0 &&& (((1 : Int64) <<< (p2 &&& 0x3f).toInt64) - (1 : Int64))) q1 (0 : Int32) (((1 : Int64) <<< (p2 &&& 0x3f).toInt64) - (1 : Int64)) ((p2 + (1 : Int32)) / (2 : Int32))) q1 (1 : Int32) (((1 : Int64) <<< (p2 &&& 0x3f).toInt64) - (1 : Int64)) ((p2 + (1 : Int32)) / (2 : Int32))) q1 (2 : Int32) (((1 : Int64) <<< (p2 &&& 0x3f).toInt64) - (1 : Int64)) ((p2 + (1 : Int32)) / (2 : Int32))))])) _
    refine XS.lloadN X3.here hx rfl (hb hby d6_63) rfl ?_
    show Steps p.tables e below (T3.setTop (mkF m 64 #[.val (.long q0), .second, .val (.long q1), .second, .val (.int p2), .val (.long (((1 : Int64) <<< (p2 &&& 0x3f).toInt64) - (1 : Int64))), .second, .val (.int ((p2 + (1 : Int32)) / (2 : Int32))), .val (.long (own_round (own_round (own_round (q0 &&& (((1 : Int64) <<< (p2 &&& 0x3f).toInt64) - (1 : Int64))) q1 (0 : Int32) (((1 : Int64) <<< (p2 &&& 0x3f).toInt64) - (1 : Int64)) ((p2 + (1 : Int32)) / (2 : Int32))) q1 (1 : Int32) (((1 : Int64) <<< (p2 &&& 0x3f).toInt64) - (1 : Int64)) ((p2 + (1 : Int32)) / (2 : Int32))) q1 (2 : Int32) (((1 : Int64) <<< (p2 &&& 0x3f).toInt64) - (1 : Int64)) ((p2 + (1 : Int32)) / (2 : Int32)))), .second] [(.long q1), (.long (own_round (own_round (own_round (q0 &&& (((1 : Int64) <<< (p2 &&& 0x3f).toInt64) - (1 : Int64))) q1 (0 : Int32) (((1 : Int64) <<< (p2 &&& 0x3f).toInt64) - (1 : Int64)) ((p2 + (1 : Int32)) / (2 : Int32))) q1 (1 : Int32) (((1 : Int64) <<< (p2 &&& 0x3f).toInt64) - (1 : Int64)) ((p2 + (1 : Int32)) / (2 : Int32))) q1 (2 : Int32) (((1 : Int64) <<< (p2 &&& 0x3f).toInt64) - (1 : Int64)) ((p2 + (1 : Int32)) / (2 : Int32))))])) _
    refine XS.iconst X3.here hx rfl (hb hby d6_64) ?_
    show Steps p.tables e below (T3.setTop (mkF m 65 #[.val (.long q0), .second, .val (.long q1), .second, .val (.int p2), .val (.long (((1 : Int64) <<< (p2 &&& 0x3f).toInt64) - (1 : Int64))), .second, .val (.int ((p2 + (1 : Int32)) / (2 : Int32))), .val (.long (own_round (own_round (own_round (q0 &&& (((1 : Int64) <<< (p2 &&& 0x3f).toInt64) - (1 : Int64))) q1 (0 : Int32) (((1 : Int64) <<< (p2 &&& 0x3f).toInt64) - (1 : Int64)) ((p2 + (1 : Int32)) / (2 : Int32))) q1 (1 : Int32) (((1 : Int64) <<< (p2 &&& 0x3f).toInt64) - (1 : Int64)) ((p2 + (1 : Int32)) / (2 : Int32))) q1 (2 : Int32) (((1 : Int64) <<< (p2 &&& 0x3f).toInt64) - (1 : Int64)) ((p2 + (1 : Int32)) / (2 : Int32)))), .second] [(.int (3 : Int32)), (.long q1), (.long (own_round (own_round (own_round (q0 &&& (((1 : Int64) <<< (p2 &&& 0x3f).toInt64) - (1 : Int64))) q1 (0 : Int32) (((1 : Int64) <<< (p2 &&& 0x3f).toInt64) - (1 : Int64)) ((p2 + (1 : Int32)) / (2 : Int32))) q1 (1 : Int32) (((1 : Int64) <<< (p2 &&& 0x3f).toInt64) - (1 : Int64)) ((p2 + (1 : Int32)) / (2 : Int32))) q1 (2 : Int32) (((1 : Int64) <<< (p2 &&& 0x3f).toInt64) - (1 : Int64)) ((p2 + (1 : Int32)) / (2 : Int32))))])) _
    refine XS.lload X3.here hx rfl (hb hby d6_65) rfl ?_
    show Steps p.tables e below (T3.setTop (mkF m 67 #[.val (.long q0), .second, .val (.long q1), .second, .val (.int p2), .val (.long (((1 : Int64) <<< (p2 &&& 0x3f).toInt64) - (1 : Int64))), .second, .val (.int ((p2 + (1 : Int32)) / (2 : Int32))), .val (.long (own_round (own_round (own_round (q0 &&& (((1 : Int64) <<< (p2 &&& 0x3f).toInt64) - (1 : Int64))) q1 (0 : Int32) (((1 : Int64) <<< (p2 &&& 0x3f).toInt64) - (1 : Int64)) ((p2 + (1 : Int32)) / (2 : Int32))) q1 (1 : Int32) (((1 : Int64) <<< (p2 &&& 0x3f).toInt64) - (1 : Int64)) ((p2 + (1 : Int32)) / (2 : Int32))) q1 (2 : Int32) (((1 : Int64) <<< (p2 &&& 0x3f).toInt64) - (1 : Int64)) ((p2 + (1 : Int32)) / (2 : Int32)))), .second] [(.long (((1 : Int64) <<< (p2 &&& 0x3f).toInt64) - (1 : Int64))), (.int (3 : Int32)), (.long q1), (.long (own_round (own_round (own_round (q0 &&& (((1 : Int64) <<< (p2 &&& 0x3f).toInt64) - (1 : Int64))) q1 (0 : Int32) (((1 : Int64) <<< (p2 &&& 0x3f).toInt64) - (1 : Int64)) ((p2 + (1 : Int32)) / (2 : Int32))) q1 (1 : Int32) (((1 : Int64) <<< (p2 &&& 0x3f).toInt64) - (1 : Int64)) ((p2 + (1 : Int32)) / (2 : Int32))) q1 (2 : Int32) (((1 : Int64) <<< (p2 &&& 0x3f).toInt64) - (1 : Int64)) ((p2 + (1 : Int32)) / (2 : Int32))))])) _
    refine XS.iload X3.here hx rfl (hb hby d6_67) rfl ?_
    show Steps p.tables e below (T3.setTop (mkF m 69 #[.val (.long q0), .second, .val (.long q1), .second, .val (.int p2), .val (.long (((1 : Int64) <<< (p2 &&& 0x3f).toInt64) - (1 : Int64))), .second, .val (.int ((p2 + (1 : Int32)) / (2 : Int32))), .val (.long (own_round (own_round (own_round (q0 &&& (((1 : Int64) <<< (p2 &&& 0x3f).toInt64) - (1 : Int64))) q1 (0 : Int32) (((1 : Int64) <<< (p2 &&& 0x3f).toInt64) - (1 : Int64)) ((p2 + (1 : Int32)) / (2 : Int32))) q1 (1 : Int32) (((1 : Int64) <<< (p2 &&& 0x3f).toInt64) - (1 : Int64)) ((p2 + (1 : Int32)) / (2 : Int32))) q1 (2 : Int32) (((1 : Int64) <<< (p2 &&& 0x3f).toInt64) - (1 : Int64)) ((p2 + (1 : Int32)) / (2 : Int32)))), .second] [(.int ((p2 + (1 : Int32)) / (2 : Int32))), (.long (((1 : Int64) <<< (p2 &&& 0x3f).toInt64) - (1 : Int64))), (.int (3 : Int32)), (.long q1), (.long (own_round (own_round (own_round (q0 &&& (((1 : Int64) <<< (p2 &&& 0x3f).toInt64) - (1 : Int64))) q1 (0 : Int32) (((1 : Int64) <<< (p2 &&& 0x3f).toInt64) - (1 : Int64)) ((p2 + (1 : Int32)) / (2 : Int32))) q1 (1 : Int32) (((1 : Int64) <<< (p2 &&& 0x3f).toInt64) - (1 : Int64)) ((p2 + (1 : Int32)) / (2 : Int32))) q1 (2 : Int32) (((1 : Int64) <<< (p2 &&& 0x3f).toInt64) - (1 : Int64)) ((p2 + (1 : Int32)) / (2 : Int32))))])) _
    refine st4 _ ?_
    show Steps p.tables e below (T4.setTop (mkF m 72 #[.val (.long q0), .second, .val (.long q1), .second, .val (.int p2), .val (.long (((1 : Int64) <<< (p2 &&& 0x3f).toInt64) - (1 : Int64))), .second, .val (.int ((p2 + (1 : Int32)) / (2 : Int32))), .val (.long (own_round (own_round (own_round (q0 &&& (((1 : Int64) <<< (p2 &&& 0x3f).toInt64) - (1 : Int64))) q1 (0 : Int32) (((1 : Int64) <<< (p2 &&& 0x3f).toInt64) - (1 : Int64)) ((p2 + (1 : Int32)) / (2 : Int32))) q1 (1 : Int32) (((1 : Int64) <<< (p2 &&& 0x3f).toInt64) - (1 : Int64)) ((p2 + (1 : Int32)) / (2 : Int32))) q1 (2 : Int32) (((1 : Int64) <<< (p2 &&& 0x3f).toInt64) - (1 : Int64)) ((p2 + (1 : Int32)) / (2 : Int32)))), .second] [(.long (own_round (own_round (own_round (own_round (q0 &&& (((1 : Int64) <<< (p2 &&& 0x3f).toInt64) - (1 : Int64))) q1 (0 : Int32) (((1 : Int64) <<< (p2 &&& 0x3f).toInt64) - (1 : Int64)) ((p2 + (1 : Int32)) / (2 : Int32))) q1 (1 : Int32) (((1 : Int64) <<< (p2 &&& 0x3f).toInt64) - (1 : Int64)) ((p2 + (1 : Int32)) / (2 : Int32))) q1 (2 : Int32) (((1 : Int64) <<< (p2 &&& 0x3f).toInt64) - (1 : Int64)) ((p2 + (1 : Int32)) / (2 : Int32))) q1 (3 : Int32) (((1 : Int64) <<< (p2 &&& 0x3f).toInt64) - (1 : Int64)) ((p2 + (1 : Int32)) / (2 : Int32))))])) _
    refine XS.lstore X4.here hx rfl (hb hby d6_72) rfl (l' := #[.val (.long q0), .second, .val (.long q1), .second, .val (.int p2), .val (.long (((1 : Int64) <<< (p2 &&& 0x3f).toInt64) - (1 : Int64))), .second, .val (.int ((p2 + (1 : Int32)) / (2 : Int32))), .val (.long (own_round (own_round (own_round (own_round (q0 &&& (((1 : Int64) <<< (p2 &&& 0x3f).toInt64) - (1 : Int64))) q1 (0 : Int32) (((1 : Int64) <<< (p2 &&& 0x3f).toInt64) - (1 : Int64)) ((p2 + (1 : Int32)) / (2 : Int32))) q1 (1 : Int32) (((1 : Int64) <<< (p2 &&& 0x3f).toInt64) - (1 : Int64)) ((p2 + (1 : Int32)) / (2 : Int32))) q1 (2 : Int32) (((1 : Int64) <<< (p2 &&& 0x3f).toInt64) - (1 : Int64)) ((p2 + (1 : Int32)) / (2 : Int32))) q1 (3 : Int32) (((1 : Int64) <<< (p2 &&& 0x3f).toInt64) - (1 : Int64)) ((p2 + (1 : Int32)) / (2 : Int32)))), .second]) rfl ?_
    show Steps p.tables e below (T4.setTop (mkF m 74 #[.val (.long q0), .second, .val (.long q1), .second, .val (.int p2), .val (.long (((1 : Int64) <<< (p2 &&& 0x3f).toInt64) - (1 : Int64))), .second, .val (.int ((p2 + (1 : Int32)) / (2 : Int32))), .val (.long (own_round (own_round (own_round (own_round (q0 &&& (((1 : Int64) <<< (p2 &&& 0x3f).toInt64) - (1 : Int64))) q1 (0 : Int32) (((1 : Int64) <<< (p2 &&& 0x3f).toInt64) - (1 : Int64)) ((p2 + (1 : Int32)) / (2 : Int32))) q1 (1 : Int32) (((1 : Int64) <<< (p2 &&& 0x3f).toInt64) - (1 : Int64)) ((p2 + (1 : Int32)) / (2 : Int32))) q1 (2 : Int32) (((1 : Int64) <<< (p2 &&& 0x3f).toInt64) - (1 : Int64)) ((p2 + (1 : Int32)) / (2 : Int32))) q1 (3 : Int32) (((1 : Int64) <<< (p2 &&& 0x3f).toInt64) - (1 : Int64)) ((p2 + (1 : Int32)) / (2 : Int32)))), .second] [])) _
    refine XS.lload X4.here hx rfl (hb hby d6_74) rfl ?_
    show Steps p.tables e below (T4.setTop (mkF m 76 #[.val (.long q0), .second, .val (.long q1), .second, .val (.int p2), .val (.long (((1 : Int64) <<< (p2 &&& 0x3f).toInt64) - (1 : Int64))), .second, .val (.int ((p2 + (1 : Int32)) / (2 : Int32))), .val (.long (own_round (own_round (own_round (own_round (q0 &&& (((1 : Int64) <<< (p2 &&& 0x3f).toInt64) - (1 : Int64))) q1 (0 : Int32) (((1 : Int64) <<< (p2 &&& 0x3f).toInt64) - (1 : Int64)) ((p2 + (1 : Int32)) / (2 : Int32))) q1 (1 : Int32) (((1 : Int64) <<< (p2 &&& 0x3f).toInt64) - (1 : Int64)) ((p2 + (1 : Int32)) / (2 : Int32))) q1 (2 : Int32) (((1 : Int64) <<< (p2 &&& 0x3f).toInt64) - (1 : Int64)) ((p2 + (1 : Int32)) / (2 : Int32))) q1 (3 : Int32) (((1 : Int64) <<< (p2 &&& 0x3f).toInt64) - (1 : Int64)) ((p2 + (1 : Int32)) / (2 : Int32)))), .second] [(.long (own_round (own_round (own_round (own_round (q0 &&& (((1 : Int64) <<< (p2 &&& 0x3f).toInt64) - (1 : Int64))) q1 (0 : Int32) (((1 : Int64) <<< (p2 &&& 0x3f).toInt64) - (1 : Int64)) ((p2 + (1 : Int32)) / (2 : Int32))) q1 (1 : Int32) (((1 : Int64) <<< (p2 &&& 0x3f).toInt64) - (1 : Int64)) ((p2 + (1 : Int32)) / (2 : Int32))) q1 (2 : Int32) (((1 : Int64) <<< (p2 &&& 0x3f).toInt64) - (1 : Int64)) ((p2 + (1 : Int32)) / (2 : Int32))) q1 (3 : Int32) (((1 : Int64) <<< (p2 &&& 0x3f).toInt64) - (1 : Int64)) ((p2 + (1 : Int32)) / (2 : Int32))))])) _
    exact X4.lreturnOut hx Bd.returns (hb hby d6_76) hr
  · show Q6 Z q0 q1 p2 h0 n0 _ T4.heap _
    rw [e4]
    exact ⟨rfl, N4, rfl⟩
theorem ef_3 (m : MethodId) (x0 : Addr) (x1 : Int64) : entryFrame m #[(.ref x0), (.long x1)] 3 = mkF m 0 #[.val (.ref x0), .val (.long x1), .second] [] := by first | (simp [entryFrame, mkF, argsToLocals, Value.category]; done) | rfl
theorem d3_0 : decode prog_31_method_5_code 0 = .ok (.aload_n 0, 1) := by decide +kernel
theorem d3_1 : decode prog_31_method_5_code 1 = .ok (.getfield 33, 3) := by decide +kernel
theorem d3_4 : decode prog_31_method_5_code 4 = .ok (.lload_n 1, 1) := by decide +kernel
theorem d3_5 : decode prog_31_method_5_code 5 = .ok (.lconst 1, 1) := by decide +kernel
theorem d3_6 : decode prog_31_method_5_code 6 = .ok (.ladd, 1) := by decide +kernel
theorem d3_7 : decode prog_31_method_5_code 7 = .ok (.ldc2_w 59, 3) := by decide +kernel
theorem d3_10 : decode prog_31_method_5_code 10 = .ok (.lmul, 1) := by decide +kernel
theorem d3_11 : decode prog_31_method_5_code 11 = .ok (.ladd, 1) := by decide +kernel
theorem d3_12 : decode prog_31_method_5_code 12 = .ok (.invokestatic 61, 3) := by decide +kernel
theorem d3_15 : decode prog_31_method_5_code 15 = .ok (.lreturn, 1) := by decide +kernel
def Q3 (Z : State) (r0 : Addr) (q1 : Int64) (sd : Int64) (h0 : Heap) (n0 : Nat) (v : Option Value) (h : Heap) (L : List Loc) : Prop := v = some (.long (own_word sd q1)) ∧ Fr n0 L ∧ h = h0
set_option maxRecDepth 65536 in
set_option maxHeartbeats 40000000 in
theorem rm3 (l : Launch) (Z : State) (a0 : Array Value) (hw : ∀ d ∈ tables_1, d.before a0 Z = true) (ws : List Jvm.Cond) (r0 : Addr) (q1 : Int64) (sd : Int64) (h0 : Heap) (n0 : Nat) (Z0 : n0 ≤ h0.size) (F_seed : Fld Z h0 r0 "com/example/gangleri/gangleri/generate/KroneckerGenerator" "seed" "J" (.long sd)) :
    MetFree l (⟨"com/example/gangleri/gangleri/generate/KroneckerGenerator", "word", "(J)J"⟩ : MethodName) (head1 (Jvm.Cond.code (⟨"com/example/gangleri/gangleri/generate/KroneckerGenerator", "word", "(J)J"⟩ : MethodName) prog_31_method_5_code 3 (some .long) :: ws) ({ frames := 1, cells := 0, slots := 0, locals := 15 } : Room)) (fun a U => a = #[(.ref r0), (.long q1)] ∧ Z.Warmed39 U.vm ∧ U.heap = h0) (fun _ _ _ _ _ => True) (fun _ U o U' => ∃ v L, o = .returned v ∧ Q3 Z r0 q1 sd h0 n0 v U'.heap L ∧ FrameEnd U o U' L ({ frames := 1, cells := 0, slots := 0, locals := 15 } : Room).cells ({ frames := 1, cells := 0, slots := 0, locals := 15 } : Room).slots) := by
  refine MetFree.of_bodySF (plainFor_of_name pn_com_example_gangleri_gangleri_generate_KroneckerGenerator) hisR ?_
  intro p e s m args below meth c s₁ Bd hml0 hP hK
  obtain ⟨rfl, hZ, hh⟩ := hP
  have hx := Bd.exec
  have hby := Bd.bytes
  have hml : c.maxLocals = 3 := hml0
  have hown : s.vm.findClass "com/example/gangleri/gangleri/generate/KroneckerGenerator" = some m.cls := findClass_of_methodNamed Bd.named
  have hnm := (name_of_methodNamed Bd.named Bd.method).1
  have X0 : Stand p l e ({ frames := 1, cells := 0, slots := 0, locals := 15 } : Room) s m #[(.ref r0), (.long q1)] below meth c s₁ [] 0 0 := Stand.of_body Bd
  have e0 : s₁.heap = h0 := by rw [← hh, Bd.state]; rfl
  have N0 := Fr.nil n0
  have pre0 : ∀ t, Steps p.tables e below (s₁.setTop (mkF m 0 #[.val (.ref r0), .val (.long q1), .second] [])) t → Steps p.tables e below (s₁.setTop (entryFrame m #[(.ref r0), (.long q1)] 3)) t := fun t k => castTop (ef_3 m r0 q1) k
  obtain ⟨T1, X1, e1, st1⟩ := getF X0 hx hZ hown (host := "") (Or.inl (hw _ (List.mem_of_getElem? (i := 19) rfl))) Via.refl e0 F_seed (g := (mkF m 1 #[.val (.ref r0), .val (.long q1), .second] [(.ref r0)])) rfl rfl (hb hby d3_1)
  obtain ⟨_, _, ⟨T2, L2, k2, n2⟩, -, X2, ⟨Lc2, hQ2, l2, y2, z2⟩, st2⟩ := Jvm.LawKit.callS X1 hx (y := (⟨"com/example/gangleri/gangleri/generate/KroneckerGenerator", "mix", "(J)J"⟩ : MethodName)) hown (mvT hZ (hw _ (List.mem_of_getElem? (i := 30) rfl))) (mvT hZ (hw _ (List.mem_of_getElem? (i := 31) rfl))) (mvT hZ (hw _ (List.mem_of_getElem? (i := 3) rfl))) (mvT hZ (hw _ (List.mem_of_getElem? (i := 32) rfl))) (by decide) (backOf (W := 0) (rm4 l Z a0 hw [] (sd + ((q1 + (1 : Int64)) * (-7046029254386353131 : Int64))) h0 n0 Z0) hZ (hw _ (List.mem_of_getElem? (i := 32) rfl)) (hw _ (List.mem_of_getElem? (i := 3) rfl)) (by decide) (by decide)) (g := (mkF m 12 #[.val (.ref r0), .val (.long q1), .second] [(.long (sd + ((q1 + (1 : Int64)) * (-7046029254386353131 : Int64))))])) rfl (by rw [hml]; rfl) (argsL := [(.long (sd + ((q1 + (1 : Int64)) * (-7046029254386353131 : Int64))))]) (rest := []) (lenOf pd_28J29J rfl) rfl (by show 2 * 0 + _ ≤ _; exact Nat.le_of_eq rfl) (hb hby d3_12) (fun _ _ => ⟨rfl, e1, (by decide : 0 + 0 ≤ _), (by decide : 0 + 0 ≤ _)⟩)
  dsimp only [Pt.U, Pt.locs, Pt.cells, Pt.slots] at X2 l2 y2 z2 st2 hQ2
  subst l2 y2 z2
  obtain ⟨rfl, N2q, e2⟩ := hQ2
  have N2 := Fr.app N0 N2q
  obtain ⟨fs, hr, hrun, hended, hW, hsame⟩ := X2.leave (v := some (.long (own_mix (sd + ((q1 + (1 : Int64)) * (-7046029254386353131 : Int64)))))) (fun h => by rw [Bd.returns] at h; cases h)
  refine ⟨_, _, pre0 _ ?_, hrun, hended, _, _, rfl, ?_, ⟨_, rfl⟩, hW, hsame.mono (by decide) (by decide)⟩
  · show Steps p.tables e below (s₁.setTop (mkF m 0 #[.val (.ref r0), .val (.long q1), .second] [])) _
    refine XS.aloadN X0.here hx rfl (hb hby d3_0) rfl rfl ?_
    show Steps p.tables e below (s₁.setTop (mkF m 1 #[.val (.ref r0), .val (.long q1), .second] [(.ref r0)])) _
    refine st1 _ ?_
    show Steps p.tables e below (T1.setTop (mkF m 4 #[.val (.ref r0), .val (.long q1), .second] [(.long sd)])) _
    refine XS.lloadN X1.here hx rfl (hb hby d3_4) rfl ?_
    show Steps p.tables e below (T1.setTop (mkF m 5 #[.val (.ref r0), .val (.long q1), .second] [(.long q1), (.long sd)])) _
    refine XS.lconst X1.here hx rfl (hb hby d3_5) ?_
    show Steps p.tables e below (T1.setTop (mkF m 6 #[.val (.ref r0), .val (.long q1), .second] [(.long (1 : Int64)), (.long q1), (.long sd)])) _
    refine XS.ladd X1.here hx rfl (hb hby d3_6) rfl ?_
    show Steps p.tables e below (T1.setTop (mkF m 7 #[.val (.ref r0), .val (.long q1), .second] [(.long (q1 + (1 : Int64))), (.long sd)])) _
    refine X1.ldc2Long hx hown (mvT hZ (hw _ (List.mem_of_getElem? (i := 29) rfl))) (g := (mkF m 7 #[.val (.ref r0), .val (.long q1), .second] [(.long (q1 + (1 : Int64))), (.long sd)])) rfl (hb hby d3_7) _ ?_
    show Steps p.tables e below (T1.setTop (mkF m 10 #[.val (.ref r0), .val (.long q1), .second] [(.long (-7046029254386353131 : Int64)), (.long (q1 + (1 : Int64))), (.long sd)])) _
    refine XS.lmul X1.here hx rfl (hb hby d3_10) rfl ?_
    show Steps p.tables e below (T1.setTop (mkF m 11 #[.val (.ref r0), .val (.long q1), .second] [(.long ((q1 + (1 : Int64)) * (-7046029254386353131 : Int64))), (.long sd)])) _
    refine XS.ladd X1.here hx rfl (hb hby d3_11) rfl ?_
    show Steps p.tables e below (T1.setTop (mkF m 12 #[.val (.ref r0), .val (.long q1), .second] [(.long (sd + ((q1 + (1 : Int64)) * (-7046029254386353131 : Int64))))])) _
    refine st2 _ ?_
    show Steps p.tables e below (T2.setTop (mkF m 15 #[.val (.ref r0), .val (.long q1), .second] [(.long (own_mix (sd + ((q1 + (1 : Int64)) * (-7046029254386353131 : Int64)))))])) _
    exact X2.lreturnOut hx Bd.returns (hb hby d3_15) hr
  · show Q3 Z r0 q1 sd h0 n0 _ T2.heap _
    rw [e2]
    exact ⟨rfl, N2, rfl⟩
theorem ef_1 (m : MethodId) (x0 : Addr) (x1 : Int32) (x2 : Int32) (x3 : Int64) : entryFrame m #[(.ref x0), (.int x1), (.int x2), (.long x3)] 6 = mkF m 0 #[.val (.ref x0), .val (.int x1), .val (.int x2), .val (.long x3), .second, .unset] [] := by first | (simp [entryFrame, mkF, argsToLocals, Value.category]; done) | rfl
theorem d1_0 : decode prog_31_method_1_code 0 = .ok (.aload_n 0, 1) := by decide +kernel
theorem d1_1 : decode prog_31_method_1_code 1 = .ok (.invokespecial 3, 3) := by decide +kernel
theorem d1_4 : decode prog_31_method_1_code 4 = .ok (.aload_n 0, 1) := by decide +kernel
theorem d1_5 : decode prog_31_method_1_code 5 = .ok (.iconst 4, 1) := by decide +kernel
theorem d1_6 : decode prog_31_method_1_code 6 = .ok (.newarray .long, 2) := by decide +kernel
theorem d1_8 : decode prog_31_method_1_code 8 = .ok (.putfield 9, 3) := by decide +kernel
theorem d1_11 : decode prog_31_method_1_code 11 = .ok (.aload_n 0, 1) := by decide +kernel
theorem d1_12 : decode prog_31_method_1_code 12 = .ok (.iconst 4, 1) := by decide +kernel
theorem d1_13 : decode prog_31_method_1_code 13 = .ok (.newarray .long, 2) := by decide +kernel
theorem d1_15 : decode prog_31_method_1_code 15 = .ok (.putfield 13, 3) := by decide +kernel
theorem d1_18 : decode prog_31_method_1_code 18 = .ok (.iload_n 1, 1) := by decide +kernel
theorem d1_19 : decode prog_31_method_1_code 19 = .ok (.iconst 1, 1) := by decide +kernel
theorem d1_20 : decode prog_31_method_1_code 20 = .ok (.if_icmp .lt 9, 3) := by decide +kernel
theorem d1_23 : decode prog_31_method_1_code 23 = .ok (.iload_n 1, 1) := by decide +kernel
theorem d1_24 : decode prog_31_method_1_code 24 = .ok (.bipush 31, 2) := by decide +kernel
theorem d1_26 : decode prog_31_method_1_code 26 = .ok (.if_icmp .le 17, 3) := by decide +kernel
theorem d1_43 : decode prog_31_method_1_code 43 = .ok (.iload_n 2, 1) := by decide +kernel
theorem d1_44 : decode prog_31_method_1_code 44 = .ok (.iconst 1, 1) := by decide +kernel
theorem d1_45 : decode prog_31_method_1_code 45 = .ok (.if_icmp .ge 17, 3) := by decide +kernel
theorem d1_62 : decode prog_31_method_1_code 62 = .ok (.aload_n 0, 1) := by decide +kernel
theorem d1_63 : decode prog_31_method_1_code 63 = .ok (.iload_n 1, 1) := by decide +kernel
theorem d1_64 : decode prog_31_method_1_code 64 = .ok (.putfield 26, 3) := by decide +kernel
theorem d1_67 : decode prog_31_method_1_code 67 = .ok (.aload_n 0, 1) := by decide +kernel
theorem d1_68 : decode prog_31_method_1_code 68 = .ok (.iload_n 2, 1) := by decide +kernel
theorem d1_69 : decode prog_31_method_1_code 69 = .ok (.putfield 30, 3) := by decide +kernel
theorem d1_72 : decode prog_31_method_1_code 72 = .ok (.aload_n 0, 1) := by decide +kernel
theorem d1_73 : decode prog_31_method_1_code 73 = .ok (.lload_n 3, 1) := by decide +kernel
theorem d1_74 : decode prog_31_method_1_code 74 = .ok (.putfield 33, 3) := by decide +kernel
theorem d1_77 : decode prog_31_method_1_code 77 = .ok (.aload_n 0, 1) := by decide +kernel
theorem d1_78 : decode prog_31_method_1_code 78 = .ok (.iload_n 1, 1) := by decide +kernel
theorem d1_79 : decode prog_31_method_1_code 79 = .ok (.iconst 1, 1) := by decide +kernel
theorem d1_80 : decode prog_31_method_1_code 80 = .ok (.iadd, 1) := by decide +kernel
theorem d1_81 : decode prog_31_method_1_code 81 = .ok (.iconst 2, 1) := by decide +kernel
theorem d1_82 : decode prog_31_method_1_code 82 = .ok (.idiv, 1) := by decide +kernel
theorem d1_83 : decode prog_31_method_1_code 83 = .ok (.putfield 37, 3) := by decide +kernel
theorem d1_86 : decode prog_31_method_1_code 86 = .ok (.aload_n 0, 1) := by decide +kernel
theorem d1_87 : decode prog_31_method_1_code 87 = .ok (.lconst 1, 1) := by decide +kernel
theorem d1_88 : decode prog_31_method_1_code 88 = .ok (.iload_n 1, 1) := by decide +kernel
theorem d1_89 : decode prog_31_method_1_code 89 = .ok (.lshl, 1) := by decide +kernel
theorem d1_90 : decode prog_31_method_1_code 90 = .ok (.lconst 1, 1) := by decide +kernel
theorem d1_91 : decode prog_31_method_1_code 91 = .ok (.lsub, 1) := by decide +kernel
theorem d1_92 : decode prog_31_method_1_code 92 = .ok (.putfield 40, 3) := by decide +kernel
theorem d1_95 : decode prog_31_method_1_code 95 = .ok (.iconst 0, 1) := by decide +kernel
theorem d1_96 : decode prog_31_method_1_code 96 = .ok (.istore 5, 2) := by decide +kernel
theorem d1_98 : decode prog_31_method_1_code 98 = .ok (.iload 5, 2) := by decide +kernel
theorem d1_100 : decode prog_31_method_1_code 100 = .ok (.iconst 4, 1) := by decide +kernel
theorem d1_101 : decode prog_31_method_1_code 101 = .ok (.if_icmp .ge 45, 3) := by decide +kernel
theorem d1_104 : decode prog_31_method_1_code 104 = .ok (.aload_n 0, 1) := by decide +kernel
theorem d1_105 : decode prog_31_method_1_code 105 = .ok (.getfield 9, 3) := by decide +kernel
theorem d1_108 : decode prog_31_method_1_code 108 = .ok (.iload 5, 2) := by decide +kernel
theorem d1_110 : decode prog_31_method_1_code 110 = .ok (.aload_n 0, 1) := by decide +kernel
theorem d1_111 : decode prog_31_method_1_code 111 = .ok (.iconst 2, 1) := by decide +kernel
theorem d1_112 : decode prog_31_method_1_code 112 = .ok (.iload 5, 2) := by decide +kernel
theorem d1_114 : decode prog_31_method_1_code 114 = .ok (.imul, 1) := by decide +kernel
theorem d1_115 : decode prog_31_method_1_code 115 = .ok (.i2l, 1) := by decide +kernel
theorem d1_116 : decode prog_31_method_1_code 116 = .ok (.invokevirtual 43, 3) := by decide +kernel
theorem d1_119 : decode prog_31_method_1_code 119 = .ok (.lastore, 1) := by decide +kernel
theorem d1_120 : decode prog_31_method_1_code 120 = .ok (.aload_n 0, 1) := by decide +kernel
theorem d1_121 : decode prog_31_method_1_code 121 = .ok (.getfield 13, 3) := by decide +kernel
theorem d1_124 : decode prog_31_method_1_code 124 = .ok (.iload 5, 2) := by decide +kernel
theorem d1_126 : decode prog_31_method_1_code 126 = .ok (.aload_n 0, 1) := by decide +kernel
theorem d1_127 : decode prog_31_method_1_code 127 = .ok (.iconst 2, 1) := by decide +kernel
theorem d1_128 : decode prog_31_method_1_code 128 = .ok (.iload 5, 2) := by decide +kernel
theorem d1_130 : decode prog_31_method_1_code 130 = .ok (.imul, 1) := by decide +kernel
theorem d1_131 : decode prog_31_method_1_code 131 = .ok (.iconst 1, 1) := by decide +kernel
theorem d1_132 : decode prog_31_method_1_code 132 = .ok (.iadd, 1) := by decide +kernel
theorem d1_133 : decode prog_31_method_1_code 133 = .ok (.i2l, 1) := by decide +kernel
theorem d1_134 : decode prog_31_method_1_code 134 = .ok (.invokevirtual 43, 3) := by decide +kernel
theorem d1_137 : decode prog_31_method_1_code 137 = .ok (.lconst 1, 1) := by decide +kernel
theorem d1_138 : decode prog_31_method_1_code 138 = .ok (.lor, 1) := by decide +kernel
theorem d1_139 : decode prog_31_method_1_code 139 = .ok (.lastore, 1) := by decide +kernel
theorem d1_140 : decode prog_31_method_1_code 140 = .ok (.iinc 5 1, 3) := by decide +kernel
theorem d1_143 : decode prog_31_method_1_code 143 = .ok (.goto (-45), 3) := by decide +kernel
theorem d1_146 : decode prog_31_method_1_code 146 = .ok (.return_, 1) := by decide +kernel
def Q1 (Z : State) (r0 : Addr) (p1 : Int32) (p2 : Int32) (q3 : Int64) (h0 : Heap) (n0 : Nat) (v : Option Value) (h : Heap) (L : List Loc) : Prop := v = none ∧ Fr n0 L ∧ Keep h0 h [r0] ∧ ∃ (ao am : Addr) (ko km : ClassId), Fld Z h r0 "com/example/gangleri/gangleri/generate/KroneckerGenerator" "offsets" "[J" (.ref ao) ∧ Fld Z h r0 "com/example/gangleri/gangleri/generate/KroneckerGenerator" "multipliers" "[J" (.ref am) ∧ Fld Z h r0 "com/example/gangleri/gangleri/generate/KroneckerGenerator" "halfScale" "I" (.int (own_hs p1)) ∧ Fld Z h r0 "com/example/gangleri/gangleri/generate/KroneckerGenerator" "idMask" "J" (.long (own_mk p1)) ∧ Arv Z h ao ko .long (4 : Int32) [(.long (own_word q3 (0 : Int64))), (.long (own_word q3 (2 : Int64))), (.long (own_word q3 (4 : Int64))), (.long (own_word q3 (6 : Int64)))] (.long (0 : Int64)) ∧ Arv Z h am km .long (4 : Int32) [(.long ((own_word q3 (1 : Int64)) ||| (1 : Int64))), (.long ((own_word q3 (3 : Int64)) ||| (1 : Int64))), (.long ((own_word q3 (5 : Int64)) ||| (1 : Int64))), (.long ((own_word q3 (7 : Int64)) ||| (1 : Int64)))] (.long (0 : Int64))
set_option maxRecDepth 65536 in
set_option maxHeartbeats 40000000 in
theorem rm1 (l : Launch) (Z : State) (a0 : Array Value) (hw : ∀ d ∈ tables_1, d.before a0 Z = true) (ws : List Jvm.Cond) (r0 : Addr) (p1 : Int32) (p2 : Int32) (q3 : Int64) (h0 : Heap) (n0 : Nat) (Z0 : n0 ≤ h0.size) (E_r0 : Exa Z h0 r0 "com/example/gangleri/gangleri/generate/KroneckerGenerator") (F_offsets : Fld Z h0 r0 "com/example/gangleri/gangleri/generate/KroneckerGenerator" "offsets" "[J" .null) (F_multipliers : Fld Z h0 r0 "com/example/gangleri/gangleri/generate/KroneckerGenerator" "multipliers" "[J" .null) (F_scale : Fld Z h0 r0 "com/example/gangleri/gangleri/generate/KroneckerGenerator" "scale" "I" (.int (0 : Int32))) (F_degree : Fld Z h0 r0 "com/example/gangleri/gangleri/generate/KroneckerGenerator" "degree" "I" (.int (0 : Int32))) (F_seed : Fld Z h0 r0 "com/example/gangleri/gangleri/generate/KroneckerGenerator" "seed" "J" (.long (0 : Int64))) (F_halfScale : Fld Z h0 r0 "com/example/gangleri/gangleri/generate/KroneckerGenerator" "halfScale" "I" (.int (0 : Int32))) (F_idMask : Fld Z h0 r0 "com/example/gangleri/gangleri/generate/KroneckerGenerator" "idMask" "J" (.long (0 : Int64))) (g_r0 : n0 ≤ r0) (hs1 : ¬ (p1 < (1 : Int32))) (hs2 : ¬ ((31 : Int32) < p1)) (hd1 : ¬ (p2 < (1 : Int32))) :
    MetFree l (⟨"com/example/gangleri/gangleri/generate/KroneckerGenerator", "<init>", "(IIJ)V"⟩ : MethodName) (head1 (Jvm.Cond.code (⟨"com/example/gangleri/gangleri/generate/KroneckerGenerator", "<init>", "(IIJ)V"⟩ : MethodName) prog_31_method_1_code 6 none :: ws) ({ frames := 2, cells := 2, slots := 8, locals := 31 } : Room)) (fun a U => a = #[(.ref r0), (.int p1), (.int p2), (.long q3)] ∧ Z.Warmed39 U.vm ∧ U.heap = h0) (fun _ _ _ _ _ => True) (fun _ U o U' => ∃ v L, o = .returned v ∧ Q1 Z r0 p1 p2 q3 h0 n0 v U'.heap L ∧ FrameEnd U o U' L ({ frames := 2, cells := 2, slots := 8, locals := 31 } : Room).cells ({ frames := 2, cells := 2, slots := 8, locals := 31 } : Room).slots) := by
  refine MetFree.of_bodySF (plainFor_of_name pn_com_example_gangleri_gangleri_generate_KroneckerGenerator) hisR ?_
  intro p e s m args below meth c s₁ Bd hml0 hP hK
  obtain ⟨rfl, hZ, hh⟩ := hP
  have hx := Bd.exec
  have hby := Bd.bytes
  have hml : c.maxLocals = 6 := hml0
  have hown : s.vm.findClass "com/example/gangleri/gangleri/generate/KroneckerGenerator" = some m.cls := findClass_of_methodNamed Bd.named
  have hnm := (name_of_methodNamed Bd.named Bd.method).1
  have X0 : Stand p l e ({ frames := 2, cells := 2, slots := 8, locals := 31 } : Room) s m #[(.ref r0), (.int p1), (.int p2), (.long q3)] below meth c s₁ [] 0 0 := Stand.of_body Bd
  have e0 : s₁.heap = h0 := by rw [← hh, Bd.state]; rfl
  have N0 := Fr.nil n0
  have pre0 : ∀ t, Steps p.tables e below (s₁.setTop (mkF m 0 #[.val (.ref r0), .val (.int p1), .val (.int p2), .val (.long q3), .second, .unset] [])) t → Steps p.tables e below (s₁.setTop (entryFrame m #[(.ref r0), (.int p1), (.int p2), (.long q3)] 6)) t := fun t k => castTop (ef_1 m r0 p1 p2 q3) k
  have K0 : Keep h0 h0 [r0] := Keep.refl h0 [r0]
  obtain ⟨T1, X1, e1, st1⟩ := initO X0 hx hZ hown (hw _ (List.mem_of_getElem? (i := 7) rfl)) (hw _ (List.mem_of_getElem? (i := 8) rfl)) (hw _ (List.mem_of_getElem? (i := 9) rfl)) e0 (g := (mkF m 1 #[.val (.ref r0), .val (.int p1), .val (.int p2), .val (.long q3), .second, .unset] [(.ref r0)])) rfl (by rw [hml]; rfl) rfl (hb hby d1_1) (by decide) (W := 0) (by show 2 * 0 + _ ≤ _; exact Nat.le_of_eq rfl) (by decide)
  obtain ⟨T2, h2, k2, X2, e2, E2, A2, st2⟩ := newP X1 hx hZ (hw _ (List.mem_of_getElem? (i := 10) rfl)) e1 (g := (mkF m 6 #[.val (.ref r0), .val (.int p1), .val (.int p2), .val (.long q3), .second, .unset] [(.int (4 : Int32)), (.ref r0)])) rfl (hb hby d1_6) rfl (by decide) (cap := 4) (by decide) (by decide) (by decide) (by decide)
  obtain ⟨b2, g2⟩ : ∃ z, z = h0.size := ⟨_, rfl⟩
  rw [← g2] at A2 st2
  have g_b2 : n0 ≤ b2 := Nat.le_trans Z0 (Nat.le_of_eq g2.symm)
  have sz_b2 : h0.size ≤ b2 := Nat.le_trans K0.1 (Nat.le_of_eq g2.symm)
  have ne_r0_b2 : r0 ≠ b2 := Nat.ne_of_lt (Nat.lt_of_lt_of_le E_r0.lt (Nat.le_of_eq g2.symm))
  have E_r0_at2 : Exa Z h2 r0 "com/example/gangleri/gangleri/generate/KroneckerGenerator" := E_r0.ext E2
  have F_offsets_at2 : Fld Z h2 r0 "com/example/gangleri/gangleri/generate/KroneckerGenerator" "offsets" "[J" .null := F_offsets.ext E2
  have F_multipliers_at2 : Fld Z h2 r0 "com/example/gangleri/gangleri/generate/KroneckerGenerator" "multipliers" "[J" .null := F_multipliers.ext E2
  have F_scale_at2 : Fld Z h2 r0 "com/example/gangleri/gangleri/generate/KroneckerGenerator" "scale" "I" (.int (0 : Int32)) := F_scale.ext E2
  have F_degree_at2 : Fld Z h2 r0 "com/example/gangleri/gangleri/generate/KroneckerGenerator" "degree" "I" (.int (0 : Int32)) := F_degree.ext E2
  have F_seed_at2 : Fld Z h2 r0 "com/example/gangleri/gangleri/generate/KroneckerGenerator" "seed" "J" (.long (0 : Int64)) := F_seed.ext E2
  have F_halfScale_at2 : Fld Z h2 r0 "com/example/gangleri/gangleri/generate/KroneckerGenerator" "halfScale" "I" (.int (0 : Int32)) := F_halfScale.ext E2
  have F_idMask_at2 : Fld Z h2 r0 "com/example/gangleri/gangleri/generate/KroneckerGenerator" "idMask" "J" (.long (0 : Int64)) := F_idMask.ext E2
  have K2 : Keep h0 h2 [r0] := K0.ext E2
  have Z2 : n0 ≤ h2.size := Nat.le_trans Z0 E2.1
  have xV_b2_at2 := (Arv.new A2 (by decide)).pad (pad_rep [] (.long (0 : Int64)) 4)
  have V_b2_at2 : Arv Z h2 b2 k2 .long (4 : Int32) [(.long (0 : Int64)), (.long (0 : Int64)), (.long (0 : Int64)), (.long (0 : Int64))] (.long (0 : Int64)) := xV_b2_at2
  obtain ⟨T3, h3, X3, e3, W3, st3⟩ := putF X2 hx hZ hown (host := "") (Or.inl (hw _ (List.mem_of_getElem? (i := 11) rfl))) Via.refl e2 F_offsets_at2 E_r0_at2 (Or.inr ⟨(hw _ (List.mem_of_getElem? (i := 12) rfl)), rfl, hnm⟩) (hw _ (List.mem_of_getElem? (i := 2) rfl)) (ty := (.array .long)) (by decide) rfl rfl (g := (mkF m 8 #[.val (.ref r0), .val (.int p1), .val (.int p2), .val (.long q3), .second, .unset] [(.ref b2), (.ref r0)])) rfl rfl (hb hby d1_8)
  have E_r0_at3 : Exa Z h3 r0 "com/example/gangleri/gangleri/generate/KroneckerGenerator" := E_r0_at2.wr W3
  have F_multipliers_at3 : Fld Z h3 r0 "com/example/gangleri/gangleri/generate/KroneckerGenerator" "multipliers" "[J" .null := F_multipliers_at2.other W3 (Or.inr (slot_ne (Or.inr (hw _ (List.mem_of_getElem? (i := 14) rfl))) (Or.inr (hw _ (List.mem_of_getElem? (i := 12) rfl))) (by decide) (t := (.array .long)) (t' := (.array .long)) (by decide) (by decide)))
  have F_scale_at3 : Fld Z h3 r0 "com/example/gangleri/gangleri/generate/KroneckerGenerator" "scale" "I" (.int (0 : Int32)) := F_scale_at2.other W3 (Or.inr (slot_ne (Or.inr (hw _ (List.mem_of_getElem? (i := 16) rfl))) (Or.inr (hw _ (List.mem_of_getElem? (i := 12) rfl))) (by decide) (t := .int) (t' := (.array .long)) (by decide) (by decide)))
  have F_degree_at3 : Fld Z h3 r0 "com/example/gangleri/gangleri/generate/KroneckerGenerator" "degree" "I" (.int (0 : Int32)) := F_degree_at2.other W3 (Or.inr (slot_ne (Or.inr (hw _ (List.mem_of_getElem? (i := 18) rfl))) (Or.inr (hw _ (List.mem_of_getElem? (i := 12) rfl))) (by decide) (t := .int) (t' := (.array .long)) (by decide) (by decide)))
  have F_seed_at3 : Fld Z h3 r0 "com/example/gangleri/gangleri/generate/KroneckerGenerator" "seed" "J" (.long (0 : Int64)) := F_seed_at2.other W3 (Or.inr (slot_ne (Or.inr (hw _ (List.mem_of_getElem? (i := 20) rfl))) (Or.inr (hw _ (List.mem_of_getElem? (i := 12) rfl))) (by decide) (t := .long) (t' := (.array .long)) (by decide) (by decide)))
  have F_halfScale_at3 : Fld Z h3 r0 "com/example/gangleri/gangleri/generate/KroneckerGenerator" "halfScale" "I" (.int (0 : Int32)) := F_halfScale_at2.other W3 (Or.inr (slot_ne (Or.inr (hw _ (List.mem_of_getElem? (i := 22) rfl))) (Or.inr (hw _ (List.mem_of_getElem? (i := 12) rfl))) (by decide) (t := .int) (t' := (.array .long)) (by decide) (by decide)))
  have F_idMask_at3 : Fld Z h3 r0 "com/example/gangleri/gangleri/generate/KroneckerGenerator" "idMask" "J" (.long (0 : Int64)) := F_idMask_at2.other W3 (Or.inr (slot_ne (Or.inr (hw _ (List.mem_of_getElem? (i := 24) rfl))) (Or.inr (hw _ (List.mem_of_getElem? (i := 12) rfl))) (by decide) (t := .long) (t' := (.array .long)) (by decide) (by decide)))
  have V_b2_at3 : Arv Z h3 b2 k2 .long (4 : Int32) [(.long (0 : Int64)), (.long (0 : Int64)), (.long (0 : Int64)), (.long (0 : Int64))] (.long (0 : Int64)) := V_b2_at2.other W3 (Ne.symm ne_r0_b2)
  have F_offsets_r0_at3 : Fld Z h3 r0 "com/example/gangleri/gangleri/generate/KroneckerGenerator" "offsets" "[J" (.ref b2) := F_offsets_at2.same W3
  have K3 : Keep h0 h3 [r0] := K2.wr W3 (Or.inl (List.mem_of_getElem? (i := 0) rfl))
  have Z3 : n0 ≤ h3.size := Nat.le_trans Z2 (Keep.of_wr W3).1
  have N3 := Fr.snoc X3 N0 g_r0
  obtain ⟨T4, h4, k4, X4, e4, E4, A4, st4⟩ := newP X3 hx hZ (hw _ (List.mem_of_getElem? (i := 10) rfl)) e3 (g := (mkF m 13 #[.val (.ref r0), .val (.int p1), .val (.int p2), .val (.long q3), .second, .unset] [(.int (4 : Int32)), (.ref r0)])) rfl (hb hby d1_13) rfl (by decide) (cap := 4) (by decide) (by decide) (by decide) (by decide)
  obtain ⟨b4, g4⟩ : ∃ z, z = h3.size := ⟨_, rfl⟩
  rw [← g4] at A4 st4
  have g_b4 : n0 ≤ b4 := Nat.le_trans Z3 (Nat.le_of_eq g4.symm)
  have sz_b4 : h0.size ≤ b4 := Nat.le_trans K3.1 (Nat.le_of_eq g4.symm)
  have ne_r0_b4 : r0 ≠ b4 := Nat.ne_of_lt (Nat.lt_of_lt_of_le E_r0_at3.lt (Nat.le_of_eq g4.symm))
  have ne_b2_b4 : b2 ≠ b4 := Nat.ne_of_lt (Nat.lt_of_lt_of_le V_b2_at3.lt (Nat.le_of_eq g4.symm))
  have E_r0_at4 : Exa Z h4 r0 "com/example/gangleri/gangleri/generate/KroneckerGenerator" := E_r0_at3.ext E4
  have F_multipliers_at4 : Fld Z h4 r0 "com/example/gangleri/gangleri/generate/KroneckerGenerator" "multipliers" "[J" .null := F_multipliers_at3.ext E4
  have F_scale_at4 : Fld Z h4 r0 "com/example/gangleri/gangleri/generate/KroneckerGenerator" "scale" "I" (.int (0 : Int32)) := F_scale_at3.ext E4
  have F_degree_at4 : Fld Z h4 r0 "com/example/gangleri/gangleri/generate/KroneckerGenerator" "degree" "I" (.int (0 : Int32)) := F_degree_at3.ext E4
  have F_seed_at4 : Fld Z h4 r0 "com/example/gangleri/gangleri/generate/KroneckerGenerator" "seed" "J" (.long (0 : Int64)) := F_seed_at3.ext E4
  have F_halfScale_at4 : Fld Z h4 r0 "com/example/gangleri/gangleri/generate/KroneckerGenerator" "halfScale" "I" (.int (0 : Int32)) := F_halfScale_at3.ext E4
  have F_idMask_at4 : Fld Z h4 r0 "com/example/gangleri/gangleri/generate/KroneckerGenerator" "idMask" "J" (.long (0 : Int64)) := F_idMask_at3.ext E4
  have V_b2_at4 : Arv Z h4 b2 k2 .long (4 : Int32) [(.long (0 : Int64)), (.long (0 : Int64)), (.long (0 : Int64)), (.long (0 : Int64))] (.long (0 : Int64)) := V_b2_at3.ext E4
  have F_offsets_r0_at4 : Fld Z h4 r0 "com/example/gangleri/gangleri/generate/KroneckerGenerator" "offsets" "[J" (.ref b2) := F_offsets_r0_at3.ext E4
  have K4 : Keep h0 h4 [r0] := K3.ext E4
  have Z4 : n0 ≤ h4.size := Nat.le_trans Z3 E4.1
  have xV_b4_at4 := (Arv.new A4 (by decide)).pad (pad_rep [] (.long (0 : Int64)) 4)
  have V_b4_at4 : Arv Z h4 b4 k4 .long (4 : Int32) [(.long (0 : Int64)), (.long (0 : Int64)), (.long (0 : Int64)), (.long (0 : Int64))] (.long (0 : Int64)) := xV_b4_at4
  obtain ⟨T5, h5, X5, e5, W5, st5⟩ := putF X4 hx hZ hown (host := "") (Or.inl (hw _ (List.mem_of_getElem? (i := 13) rfl))) Via.refl e4 F_multipliers_at4 E_r0_at4 (Or.inr ⟨(hw _ (List.mem_of_getElem? (i := 14) rfl)), rfl, hnm⟩) (hw _ (List.mem_of_getElem? (i := 2) rfl)) (ty := (.array .long)) (by decide) rfl rfl (g := (mkF m 15 #[.val (.ref r0), .val (.int p1), .val (.int p2), .val (.long q3), .second, .unset] [(.ref b4), (.ref r0)])) rfl rfl (hb hby d1_15)
  have E_r0_at5 : Exa Z h5 r0 "com/example/gangleri/gangleri/generate/KroneckerGenerator" := E_r0_at4.wr W5
  have F_scale_at5 : Fld Z h5 r0 "com/example/gangleri/gangleri/generate/KroneckerGenerator" "scale" "I" (.int (0 : Int32)) := F_scale_at4.other W5 (Or.inr (slot_ne (Or.inr (hw _ (List.mem_of_getElem? (i := 16) rfl))) (Or.inr (hw _ (List.mem_of_getElem? (i := 14) rfl))) (by decide) (t := .int) (t' := (.array .long)) (by decide) (by decide)))
  have F_degree_at5 : Fld Z h5 r0 "com/example/gangleri/gangleri/generate/KroneckerGenerator" "degree" "I" (.int (0 : Int32)) := F_degree_at4.other W5 (Or.inr (slot_ne (Or.inr (hw _ (List.mem_of_getElem? (i := 18) rfl))) (Or.inr (hw _ (List.mem_of_getElem? (i := 14) rfl))) (by decide) (t := .int) (t' := (.array .long)) (by decide) (by decide)))
  have F_seed_at5 : Fld Z h5 r0 "com/example/gangleri/gangleri/generate/KroneckerGenerator" "seed" "J" (.long (0 : Int64)) := F_seed_at4.other W5 (Or.inr (slot_ne (Or.inr (hw _ (List.mem_of_getElem? (i := 20) rfl))) (Or.inr (hw _ (List.mem_of_getElem? (i := 14) rfl))) (by decide) (t := .long) (t' := (.array .long)) (by decide) (by decide)))
  have F_halfScale_at5 : Fld Z h5 r0 "com/example/gangleri/gangleri/generate/KroneckerGenerator" "halfScale" "I" (.int (0 : Int32)) := F_halfScale_at4.other W5 (Or.inr (slot_ne (Or.inr (hw _ (List.mem_of_getElem? (i := 22) rfl))) (Or.inr (hw _ (List.mem_of_getElem? (i := 14) rfl))) (by decide) (t := .int) (t' := (.array .long)) (by decide) (by decide)))
  have F_idMask_at5 : Fld Z h5 r0 "com/example/gangleri/gangleri/generate/KroneckerGenerator" "idMask" "J" (.long (0 : Int64)) := F_idMask_at4.other W5 (Or.inr (slot_ne (Or.inr (hw _ (List.mem_of_getElem? (i := 24) rfl))) (Or.inr (hw _ (List.mem_of_getElem? (i := 14) rfl))) (by decide) (t := .long) (t' := (.array .long)) (by decide) (by decide)))
  have V_b2_at5 : Arv Z h5 b2 k2 .long (4 : Int32) [(.long (0 : Int64)), (.long (0 : Int64)), (.long (0 : Int64)), (.long (0 : Int64))] (.long (0 : Int64)) := V_b2_at4.other W5 (Ne.symm ne_r0_b2)
  have F_offsets_r0_at5 : Fld Z h5 r0 "com/example/gangleri/gangleri/generate/KroneckerGenerator" "offsets" "[J" (.ref b2) := F_offsets_r0_at4.other W5 (Or.inr (slot_ne (Or.inr (hw _ (List.mem_of_getElem? (i := 12) rfl))) (Or.inr (hw _ (List.mem_of_getElem? (i := 14) rfl))) (by decide) (t := (.array .long)) (t' := (.array .long)) (by decide) (by decide)))
  have V_b4_at5 : Arv Z h5 b4 k4 .long (4 : Int32) [(.long (0 : Int64)), (.long (0 : Int64)), (.long (0 : Int64)), (.long (0 : Int64))] (.long (0 : Int64)) := V_b4_at4.other W5 (Ne.symm ne_r0_b4)
  have F_multipliers_r0_at5 : Fld Z h5 r0 "com/example/gangleri/gangleri/generate/KroneckerGenerator" "multipliers" "[J" (.ref b4) := F_multipliers_at4.same W5
  have K5 : Keep h0 h5 [r0] := K4.wr W5 (Or.inl (List.mem_of_getElem? (i := 0) rfl))
  have Z5 : n0 ≤ h5.size := Nat.le_trans Z4 (Keep.of_wr W5).1
  have N5 := Fr.snoc X5 N3 g_r0
  obtain ⟨T6, h6, X6, e6, W6, st6⟩ := putF X5 hx hZ hown (host := "") (Or.inl (hw _ (List.mem_of_getElem? (i := 15) rfl))) Via.refl e5 F_scale_at5 E_r0_at5 (Or.inr ⟨(hw _ (List.mem_of_getElem? (i := 16) rfl)), rfl, hnm⟩) (hw _ (List.mem_of_getElem? (i := 2) rfl)) (ty := .int) (by decide) rfl rfl (g := (mkF m 64 #[.val (.ref r0), .val (.int p1), .val (.int p2), .val (.long q3), .second, .unset] [(.int p1), (.ref r0)])) rfl rfl (hb hby d1_64)
  have E_r0_at6 : Exa Z h6 r0 "com/example/gangleri/gangleri/generate/KroneckerGenerator" := E_r0_at5.wr W6
  have F_degree_at6 : Fld Z h6 r0 "com/example/gangleri/gangleri/generate/KroneckerGenerator" "degree" "I" (.int (0 : Int32)) := F_degree_at5.other W6 (Or.inr (slot_ne (Or.inr (hw _ (List.mem_of_getElem? (i := 18) rfl))) (Or.inr (hw _ (List.mem_of_getElem? (i := 16) rfl))) (by decide) (t := .int) (t' := .int) (by decide) (by decide)))
  have F_seed_at6 : Fld Z h6 r0 "com/example/gangleri/gangleri/generate/KroneckerGenerator" "seed" "J" (.long (0 : Int64)) := F_seed_at5.other W6 (Or.inr (slot_ne (Or.inr (hw _ (List.mem_of_getElem? (i := 20) rfl))) (Or.inr (hw _ (List.mem_of_getElem? (i := 16) rfl))) (by decide) (t := .long) (t' := .int) (by decide) (by decide)))
  have F_halfScale_at6 : Fld Z h6 r0 "com/example/gangleri/gangleri/generate/KroneckerGenerator" "halfScale" "I" (.int (0 : Int32)) := F_halfScale_at5.other W6 (Or.inr (slot_ne (Or.inr (hw _ (List.mem_of_getElem? (i := 22) rfl))) (Or.inr (hw _ (List.mem_of_getElem? (i := 16) rfl))) (by decide) (t := .int) (t' := .int) (by decide) (by decide)))
  have F_idMask_at6 : Fld Z h6 r0 "com/example/gangleri/gangleri/generate/KroneckerGenerator" "idMask" "J" (.long (0 : Int64)) := F_idMask_at5.other W6 (Or.inr (slot_ne (Or.inr (hw _ (List.mem_of_getElem? (i := 24) rfl))) (Or.inr (hw _ (List.mem_of_getElem? (i := 16) rfl))) (by decide) (t := .long) (t' := .int) (by decide) (by decide)))
  have V_b2_at6 : Arv Z h6 b2 k2 .long (4 : Int32) [(.long (0 : Int64)), (.long (0 : Int64)), (.long (0 : Int64)), (.long (0 : Int64))] (.long (0 : Int64)) := V_b2_at5.other W6 (Ne.symm ne_r0_b2)
  have F_offsets_r0_at6 : Fld Z h6 r0 "com/example/gangleri/gangleri/generate/KroneckerGenerator" "offsets" "[J" (.ref b2) := F_offsets_r0_at5.other W6 (Or.inr (slot_ne (Or.inr (hw _ (List.mem_of_getElem? (i := 12) rfl))) (Or.inr (hw _ (List.mem_of_getElem? (i := 16) rfl))) (by decide) (t := (.array .long)) (t' := .int) (by decide) (by decide)))
  have V_b4_at6 : Arv Z h6 b4 k4 .long (4 : Int32) [(.long (0 : Int64)), (.long (0 : Int64)), (.long (0 : Int64)), (.long (0 : Int64))] (.long (0 : Int64)) := V_b4_at5.other W6 (Ne.symm ne_r0_b4)
  have F_multipliers_r0_at6 : Fld Z h6 r0 "com/example/gangleri/gangleri/generate/KroneckerGenerator" "multipliers" "[J" (.ref b4) := F_multipliers_r0_at5.other W6 (Or.inr (slot_ne (Or.inr (hw _ (List.mem_of_getElem? (i := 14) rfl))) (Or.inr (hw _ (List.mem_of_getElem? (i := 16) rfl))) (by decide) (t := (.array .long)) (t' := .int) (by decide) (by decide)))
  have F_scale_r0_at6 : Fld Z h6 r0 "com/example/gangleri/gangleri/generate/KroneckerGenerator" "scale" "I" (.int p1) := F_scale_at5.same W6
  have K6 : Keep h0 h6 [r0] := K5.wr W6 (Or.inl (List.mem_of_getElem? (i := 0) rfl))
  have Z6 : n0 ≤ h6.size := Nat.le_trans Z5 (Keep.of_wr W6).1
  have N6 := Fr.snoc X6 N5 g_r0
  obtain ⟨T7, h7, X7, e7, W7, st7⟩ := putF X6 hx hZ hown (host := "") (Or.inl (hw _ (List.mem_of_getElem? (i := 17) rfl))) Via.refl e6 F_degree_at6 E_r0_at6 (Or.inr ⟨(hw _ (List.mem_of_getElem? (i := 18) rfl)), rfl, hnm⟩) (hw _ (List.mem_of_getElem? (i := 2) rfl)) (ty := .int) (by decide) rfl rfl (g := (mkF m 69 #[.val (.ref r0), .val (.int p1), .val (.int p2), .val (.long q3), .second, .unset] [(.int p2), (.ref r0)])) rfl rfl (hb hby d1_69)
  have E_r0_at7 : Exa Z h7 r0 "com/example/gangleri/gangleri/generate/KroneckerGenerator" := E_r0_at6.wr W7
  have F_seed_at7 : Fld Z h7 r0 "com/example/gangleri/gangleri/generate/KroneckerGenerator" "seed" "J" (.long (0 : Int64)) := F_seed_at6.other W7 (Or.inr (slot_ne (Or.inr (hw _ (List.mem_of_getElem? (i := 20) rfl))) (Or.inr (hw _ (List.mem_of_getElem? (i := 18) rfl))) (by decide) (t := .long) (t' := .int) (by decide) (by decide)))
  have F_halfScale_at7 : Fld Z h7 r0 "com/example/gangleri/gangleri/generate/KroneckerGenerator" "halfScale" "I" (.int (0 : Int32)) := F_halfScale_at6.other W7 (Or.inr (slot_ne (Or.inr (hw _ (List.mem_of_getElem? (i := 22) rfl))) (Or.inr (hw _ (List.mem_of_getElem? (i := 18) rfl))) (by decide) (t := .int) (t' := .int) (by decide) (by decide)))
  have F_idMask_at7 : Fld Z h7 r0 "com/example/gangleri/gangleri/generate/KroneckerGenerator" "idMask" "J" (.long (0 : Int64)) := F_idMask_at6.other W7 (Or.inr (slot_ne (Or.inr (hw _ (List.mem_of_getElem? (i := 24) rfl))) (Or.inr (hw _ (List.mem_of_getElem? (i := 18) rfl))) (by decide) (t := .long) (t' := .int) (by decide) (by decide)))
  have V_b2_at7 : Arv Z h7 b2 k2 .long (4 : Int32) [(.long (0 : Int64)), (.long (0 : Int64)), (.long (0 : Int64)), (.long (0 : Int64))] (.long (0 : Int64)) := V_b2_at6.other W7 (Ne.symm ne_r0_b2)
  have F_offsets_r0_at7 : Fld Z h7 r0 "com/example/gangleri/gangleri/generate/KroneckerGenerator" "offsets" "[J" (.ref b2) := F_offsets_r0_at6.other W7 (Or.inr (slot_ne (Or.inr (hw _ (List.mem_of_getElem? (i := 12) rfl))) (Or.inr (hw _ (List.mem_of_getElem? (i := 18) rfl))) (by decide) (t := (.array .long)) (t' := .int) (by decide) (by decide)))
  have V_b4_at7 : Arv Z h7 b4 k4 .long (4 : Int32) [(.long (0 : Int64)), (.long (0 : Int64)), (.long (0 : Int64)), (.long (0 : Int64))] (.long (0 : Int64)) := V_b4_at6.other W7 (Ne.symm ne_r0_b4)
  have F_multipliers_r0_at7 : Fld Z h7 r0 "com/example/gangleri/gangleri/generate/KroneckerGenerator" "multipliers" "[J" (.ref b4) := F_multipliers_r0_at6.other W7 (Or.inr (slot_ne (Or.inr (hw _ (List.mem_of_getElem? (i := 14) rfl))) (Or.inr (hw _ (List.mem_of_getElem? (i := 18) rfl))) (by decide) (t := (.array .long)) (t' := .int) (by decide) (by decide)))
  have F_scale_r0_at7 : Fld Z h7 r0 "com/example/gangleri/gangleri/generate/KroneckerGenerator" "scale" "I" (.int p1) := F_scale_r0_at6.other W7 (Or.inr (slot_ne (Or.inr (hw _ (List.mem_of_getElem? (i := 16) rfl))) (Or.inr (hw _ (List.mem_of_getElem? (i := 18) rfl))) (by decide) (t := .int) (t' := .int) (by decide) (by decide)))
  have F_degree_r0_at7 : Fld Z h7 r0 "com/example/gangleri/gangleri/generate/KroneckerGenerator" "degree" "I" (.int p2) := F_degree_at6.same W7
  have K7 : Keep h0 h7 [r0] := K6.wr W7 (Or.inl (List.mem_of_getElem? (i := 0) rfl))
  have Z7 : n0 ≤ h7.size := Nat.le_trans Z6 (Keep.of_wr W7).1
  have N7 := Fr.snoc X7 N6 g_r0
  obtain ⟨T8, h8, X8, e8, W8, st8⟩ := putF X7 hx hZ hown (host := "") (Or.inl (hw _ (List.mem_of_getElem? (i := 19) rfl))) Via.refl e7 F_seed_at7 E_r0_at7 (Or.inr ⟨(hw _ (List.mem_of_getElem? (i := 20) rfl)), rfl, hnm⟩) (hw _ (List.mem_of_getElem? (i := 2) rfl)) (ty := .long) (by decide) rfl rfl (g := (mkF m 74 #[.val (.ref r0), .val (.int p1), .val (.int p2), .val (.long q3), .second, .unset] [(.long q3), (.ref r0)])) rfl rfl (hb hby d1_74)
  have E_r0_at8 : Exa Z h8 r0 "com/example/gangleri/gangleri/generate/KroneckerGenerator" := E_r0_at7.wr W8
  have F_halfScale_at8 : Fld Z h8 r0 "com/example/gangleri/gangleri/generate/KroneckerGenerator" "halfScale" "I" (.int (0 : Int32)) := F_halfScale_at7.other W8 (Or.inr (slot_ne (Or.inr (hw _ (List.mem_of_getElem? (i := 22) rfl))) (Or.inr (hw _ (List.mem_of_getElem? (i := 20) rfl))) (by decide) (t := .int) (t' := .long) (by decide) (by decide)))
  have F_idMask_at8 : Fld Z h8 r0 "com/example/gangleri/gangleri/generate/KroneckerGenerator" "idMask" "J" (.long (0 : Int64)) := F_idMask_at7.other W8 (Or.inr (slot_ne (Or.inr (hw _ (List.mem_of_getElem? (i := 24) rfl))) (Or.inr (hw _ (List.mem_of_getElem? (i := 20) rfl))) (by decide) (t := .long) (t' := .long) (by decide) (by decide)))
  have V_b2_at8 : Arv Z h8 b2 k2 .long (4 : Int32) [(.long (0 : Int64)), (.long (0 : Int64)), (.long (0 : Int64)), (.long (0 : Int64))] (.long (0 : Int64)) := V_b2_at7.other W8 (Ne.symm ne_r0_b2)
  have F_offsets_r0_at8 : Fld Z h8 r0 "com/example/gangleri/gangleri/generate/KroneckerGenerator" "offsets" "[J" (.ref b2) := F_offsets_r0_at7.other W8 (Or.inr (slot_ne (Or.inr (hw _ (List.mem_of_getElem? (i := 12) rfl))) (Or.inr (hw _ (List.mem_of_getElem? (i := 20) rfl))) (by decide) (t := (.array .long)) (t' := .long) (by decide) (by decide)))
  have V_b4_at8 : Arv Z h8 b4 k4 .long (4 : Int32) [(.long (0 : Int64)), (.long (0 : Int64)), (.long (0 : Int64)), (.long (0 : Int64))] (.long (0 : Int64)) := V_b4_at7.other W8 (Ne.symm ne_r0_b4)
  have F_multipliers_r0_at8 : Fld Z h8 r0 "com/example/gangleri/gangleri/generate/KroneckerGenerator" "multipliers" "[J" (.ref b4) := F_multipliers_r0_at7.other W8 (Or.inr (slot_ne (Or.inr (hw _ (List.mem_of_getElem? (i := 14) rfl))) (Or.inr (hw _ (List.mem_of_getElem? (i := 20) rfl))) (by decide) (t := (.array .long)) (t' := .long) (by decide) (by decide)))
  have F_scale_r0_at8 : Fld Z h8 r0 "com/example/gangleri/gangleri/generate/KroneckerGenerator" "scale" "I" (.int p1) := F_scale_r0_at7.other W8 (Or.inr (slot_ne (Or.inr (hw _ (List.mem_of_getElem? (i := 16) rfl))) (Or.inr (hw _ (List.mem_of_getElem? (i := 20) rfl))) (by decide) (t := .int) (t' := .long) (by decide) (by decide)))
  have F_degree_r0_at8 : Fld Z h8 r0 "com/example/gangleri/gangleri/generate/KroneckerGenerator" "degree" "I" (.int p2) := F_degree_r0_at7.other W8 (Or.inr (slot_ne (Or.inr (hw _ (List.mem_of_getElem? (i := 18) rfl))) (Or.inr (hw _ (List.mem_of_getElem? (i := 20) rfl))) (by decide) (t := .int) (t' := .long) (by decide) (by decide)))
  have F_seed_r0_at8 : Fld Z h8 r0 "com/example/gangleri/gangleri/generate/KroneckerGenerator" "seed" "J" (.long q3) := F_seed_at7.same W8
  have K8 : Keep h0 h8 [r0] := K7.wr W8 (Or.inl (List.mem_of_getElem? (i := 0) rfl))
  have Z8 : n0 ≤ h8.size := Nat.le_trans Z7 (Keep.of_wr W8).1
  have N8 := Fr.snoc X8 N7 g_r0
  obtain ⟨T9, h9, X9, e9, W9, st9⟩ := putF X8 hx hZ hown (host := "") (Or.inl (hw _ (List.mem_of_getElem? (i := 21) rfl))) Via.refl e8 F_halfScale_at8 E_r0_at8 (Or.inr ⟨(hw _ (List.mem_of_getElem? (i := 22) rfl)), rfl, hnm⟩) (hw _ (List.mem_of_getElem? (i := 2) rfl)) (ty := .int) (by decide) rfl rfl (g := (mkF m 83 #[.val (.ref r0), .val (.int p1), .val (.int p2), .val (.long q3), .second, .unset] [(.int ((p1 + (1 : Int32)) / (2 : Int32))), (.ref r0)])) rfl rfl (hb hby d1_83)
  have E_r0_at9 : Exa Z h9 r0 "com/example/gangleri/gangleri/generate/KroneckerGenerator" := E_r0_at8.wr W9
  have F_idMask_at9 : Fld Z h9 r0 "com/example/gangleri/gangleri/generate/KroneckerGenerator" "idMask" "J" (.long (0 : Int64)) := F_idMask_at8.other W9 (Or.inr (slot_ne (Or.inr (hw _ (List.mem_of_getElem? (i := 24) rfl))) (Or.inr (hw _ (List.mem_of_getElem? (i := 22) rfl))) (by decide) (t := .long) (t' := .int) (by decide) (by decide)))
  have V_b2_at9 : Arv Z h9 b2 k2 .long (4 : Int32) [(.long (0 : Int64)), (.long (0 : Int64)), (.long (0 : Int64)), (.long (0 : Int64))] (.long (0 : Int64)) := V_b2_at8.other W9 (Ne.symm ne_r0_b2)
  have F_offsets_r0_at9 : Fld Z h9 r0 "com/example/gangleri/gangleri/generate/KroneckerGenerator" "offsets" "[J" (.ref b2) := F_offsets_r0_at8.other W9 (Or.inr (slot_ne (Or.inr (hw _ (List.mem_of_getElem? (i := 12) rfl))) (Or.inr (hw _ (List.mem_of_getElem? (i := 22) rfl))) (by decide) (t := (.array .long)) (t' := .int) (by decide) (by decide)))
  have V_b4_at9 : Arv Z h9 b4 k4 .long (4 : Int32) [(.long (0 : Int64)), (.long (0 : Int64)), (.long (0 : Int64)), (.long (0 : Int64))] (.long (0 : Int64)) := V_b4_at8.other W9 (Ne.symm ne_r0_b4)
  have F_multipliers_r0_at9 : Fld Z h9 r0 "com/example/gangleri/gangleri/generate/KroneckerGenerator" "multipliers" "[J" (.ref b4) := F_multipliers_r0_at8.other W9 (Or.inr (slot_ne (Or.inr (hw _ (List.mem_of_getElem? (i := 14) rfl))) (Or.inr (hw _ (List.mem_of_getElem? (i := 22) rfl))) (by decide) (t := (.array .long)) (t' := .int) (by decide) (by decide)))
  have F_scale_r0_at9 : Fld Z h9 r0 "com/example/gangleri/gangleri/generate/KroneckerGenerator" "scale" "I" (.int p1) := F_scale_r0_at8.other W9 (Or.inr (slot_ne (Or.inr (hw _ (List.mem_of_getElem? (i := 16) rfl))) (Or.inr (hw _ (List.mem_of_getElem? (i := 22) rfl))) (by decide) (t := .int) (t' := .int) (by decide) (by decide)))
  have F_degree_r0_at9 : Fld Z h9 r0 "com/example/gangleri/gangleri/generate/KroneckerGenerator" "degree" "I" (.int p2) := F_degree_r0_at8.other W9 (Or.inr (slot_ne (Or.inr (hw _ (List.mem_of_getElem? (i := 18) rfl))) (Or.inr (hw _ (List.mem_of_getElem? (i := 22) rfl))) (by decide) (t := .int) (t' := .int) (by decide) (by decide)))
  have F_seed_r0_at9 : Fld Z h9 r0 "com/example/gangleri/gangleri/generate/KroneckerGenerator" "seed" "J" (.long q3) := F_seed_r0_at8.other W9 (Or.inr (slot_ne (Or.inr (hw _ (List.mem_of_getElem? (i := 20) rfl))) (Or.inr (hw _ (List.mem_of_getElem? (i := 22) rfl))) (by decide) (t := .long) (t' := .int) (by decide) (by decide)))
  have F_halfScale_r0_at9 : Fld Z h9 r0 "com/example/gangleri/gangleri/generate/KroneckerGenerator" "halfScale" "I" (.int ((p1 + (1 : Int32)) / (2 : Int32))) := F_halfScale_at8.same W9
  have K9 : Keep h0 h9 [r0] := K8.wr W9 (Or.inl (List.mem_of_getElem? (i := 0) rfl))
  have Z9 : n0 ≤ h9.size := Nat.le_trans Z8 (Keep.of_wr W9).1
  have N9 := Fr.snoc X9 N8 g_r0
  obtain ⟨T10, h10, X10, e10, W10, st10⟩ := putF X9 hx hZ hown (host := "") (Or.inl (hw _ (List.mem_of_getElem? (i := 23) rfl))) Via.refl e9 F_idMask_at9 E_r0_at9 (Or.inr ⟨(hw _ (List.mem_of_getElem? (i := 24) rfl)), rfl, hnm⟩) (hw _ (List.mem_of_getElem? (i := 2) rfl)) (ty := .long) (by decide) rfl rfl (g := (mkF m 92 #[.val (.ref r0), .val (.int p1), .val (.int p2), .val (.long q3), .second, .unset] [(.long (((1 : Int64) <<< (p1 &&& 0x3f).toInt64) - (1 : Int64))), (.ref r0)])) rfl rfl (hb hby d1_92)
  have E_r0_at10 : Exa Z h10 r0 "com/example/gangleri/gangleri/generate/KroneckerGenerator" := E_r0_at9.wr W10
  have V_b2_at10 : Arv Z h10 b2 k2 .long (4 : Int32) [(.long (0 : Int64)), (.long (0 : Int64)), (.long (0 : Int64)), (.long (0 : Int64))] (.long (0 : Int64)) := V_b2_at9.other W10 (Ne.symm ne_r0_b2)
  have F_offsets_r0_at10 : Fld Z h10 r0 "com/example/gangleri/gangleri/generate/KroneckerGenerator" "offsets" "[J" (.ref b2) := F_offsets_r0_at9.other W10 (Or.inr (slot_ne (Or.inr (hw _ (List.mem_of_getElem? (i := 12) rfl))) (Or.inr (hw _ (List.mem_of_getElem? (i := 24) rfl))) (by decide) (t := (.array .long)) (t' := .long) (by decide) (by decide)))
  have V_b4_at10 : Arv Z h10 b4 k4 .long (4 : Int32) [(.long (0 : Int64)), (.long (0 : Int64)), (.long (0 : Int64)), (.long (0 : Int64))] (.long (0 : Int64)) := V_b4_at9.other W10 (Ne.symm ne_r0_b4)
  have F_multipliers_r0_at10 : Fld Z h10 r0 "com/example/gangleri/gangleri/generate/KroneckerGenerator" "multipliers" "[J" (.ref b4) := F_multipliers_r0_at9.other W10 (Or.inr (slot_ne (Or.inr (hw _ (List.mem_of_getElem? (i := 14) rfl))) (Or.inr (hw _ (List.mem_of_getElem? (i := 24) rfl))) (by decide) (t := (.array .long)) (t' := .long) (by decide) (by decide)))
  have F_scale_r0_at10 : Fld Z h10 r0 "com/example/gangleri/gangleri/generate/KroneckerGenerator" "scale" "I" (.int p1) := F_scale_r0_at9.other W10 (Or.inr (slot_ne (Or.inr (hw _ (List.mem_of_getElem? (i := 16) rfl))) (Or.inr (hw _ (List.mem_of_getElem? (i := 24) rfl))) (by decide) (t := .int) (t' := .long) (by decide) (by decide)))
  have F_degree_r0_at10 : Fld Z h10 r0 "com/example/gangleri/gangleri/generate/KroneckerGenerator" "degree" "I" (.int p2) := F_degree_r0_at9.other W10 (Or.inr (slot_ne (Or.inr (hw _ (List.mem_of_getElem? (i := 18) rfl))) (Or.inr (hw _ (List.mem_of_getElem? (i := 24) rfl))) (by decide) (t := .int) (t' := .long) (by decide) (by decide)))
  have F_seed_r0_at10 : Fld Z h10 r0 "com/example/gangleri/gangleri/generate/KroneckerGenerator" "seed" "J" (.long q3) := F_seed_r0_at9.other W10 (Or.inr (slot_ne (Or.inr (hw _ (List.mem_of_getElem? (i := 20) rfl))) (Or.inr (hw _ (List.mem_of_getElem? (i := 24) rfl))) (by decide) (t := .long) (t' := .long) (by decide) (by decide)))
  have F_halfScale_r0_at10 : Fld Z h10 r0 "com/example/gangleri/gangleri/generate/KroneckerGenerator" "halfScale" "I" (.int ((p1 + (1 : Int32)) / (2 : Int32))) := F_halfScale_r0_at9.other W10 (Or.inr (slot_ne (Or.inr (hw _ (List.mem_of_getElem? (i := 22) rfl))) (Or.inr (hw _ (List.mem_of_getElem? (i := 24) rfl))) (by decide) (t := .int) (t' := .long) (by decide) (by decide)))
  have F_idMask_r0_at10 : Fld Z h10 r0 "com/example/gangleri/gangleri/generate/KroneckerGenerator" "idMask" "J" (.long (((1 : Int64) <<< (p1 &&& 0x3f).toInt64) - (1 : Int64))) := F_idMask_at9.same W10
  have K10 : Keep h0 h10 [r0] := K9.wr W10 (Or.inl (List.mem_of_getElem? (i := 0) rfl))
  have Z10 : n0 ≤ h10.size := Nat.le_trans Z9 (Keep.of_wr W10).1
  have N10 := Fr.snoc X10 N9 g_r0
  obtain ⟨T11, X11, e11, st11⟩ := getF X10 hx hZ hown (host := "") (Or.inl (hw _ (List.mem_of_getElem? (i := 11) rfl))) Via.refl e10 F_offsets_r0_at10 (g := (mkF m 105 #[.val (.ref r0), .val (.int p1), .val (.int p2), .val (.long q3), .second, .val (.int (0 : Int32))] [(.ref r0)])) rfl rfl (hb hby d1_105)
  obtain ⟨cq12, q12, q12'⟩ := E_r0_at10.cell
  obtain ⟨_, _, ⟨T12, L12, k12, n12⟩, -, X12, ⟨Lc12, hQ12, l12, y12, z12⟩, st12⟩ := X11.privateBack hx (y := (⟨"com/example/gangleri/gangleri/generate/KroneckerGenerator", "word", "(J)J"⟩ : MethodName)) hown (mvT hZ (hw _ (List.mem_of_getElem? (i := 25) rfl))) (mvT hZ (hw _ (List.mem_of_getElem? (i := 26) rfl))) (mvT hZ (own_sel hw)) (Cond.privateMethod_at (mvP hZ (hw _ (List.mem_of_getElem? (i := 27) rfl)) (args := #[]))) (mvT hZ (hw _ (List.mem_of_getElem? (i := 28) rfl))) (by decide) (backOf (W := 2) (rm3 l Z a0 hw [] r0 (0 : Int64) q3 h10 n0 Z10 F_seed_r0_at10) hZ (hw _ (List.mem_of_getElem? (i := 28) rfl)) (hw _ (List.mem_of_getElem? (i := 3) rfl)) (by decide) (by decide)) (g := (mkF m 116 #[.val (.ref r0), .val (.int p1), .val (.int p2), .val (.long q3), .second, .val (.int (0 : Int32))] [(.long (0 : Int64)), (.ref r0), (.int (0 : Int32)), (.ref b2)])) rfl (by rw [hml]; rfl) (Steps.refl _) (a := r0) (by rw [e11]; exact q12) q12' (argsL := [(.long (0 : Int64))]) (rest := [(.int (0 : Int32)), (.ref b2)]) (lenOf pd_28J29J rfl) rfl (by show 2 * 0 + _ ≤ _; exact Nat.le_of_eq rfl) (hb hby d1_116) (fun _ _ => ⟨rfl, e11, (by decide : 2 + 0 ≤ _), (by decide : 8 + 0 ≤ _)⟩)
  dsimp only [Pt.U, Pt.locs, Pt.cells, Pt.slots] at X12 l12 y12 z12 st12 hQ12
  subst l12 y12 z12
  obtain ⟨rfl, N12q, e12⟩ := hQ12
  have N12 := Fr.app N10 N12q
  obtain ⟨cl_119, Ar_119, q_119, S_119, N_119, H_119, G_119⟩ := id V_b2_at10
  have hin119 : ¬ ((0 : Int32) < 0 ∨ cl_119.slots.size ≤ ((0 : Int32)).toNatClampNeg) := inb_of S_119 ⟨by decide, by decide⟩
  obtain ⟨T13, h13, X13, e13, W13, st13⟩ := stJ X12 hx hZ e12 Ar_119 (j := (0 : Int32)) hin119 (g := (mkF m 119 #[.val (.ref r0), .val (.int p1), .val (.int p2), .val (.long q3), .second, .val (.int (0 : Int32))] [(.long (own_word q3 (0 : Int64))), (.int (0 : Int32)), (.ref b2)])) rfl rfl (hb hby d1_119)
  have E_r0_at13 : Exa Z h13 r0 "com/example/gangleri/gangleri/generate/KroneckerGenerator" := E_r0_at10.wr W13
  have F_offsets_r0_at13 : Fld Z h13 r0 "com/example/gangleri/gangleri/generate/KroneckerGenerator" "offsets" "[J" (.ref b2) := F_offsets_r0_at10.other W13 (Or.inl ne_r0_b2)
  have V_b4_at13 : Arv Z h13 b4 k4 .long (4 : Int32) [(.long (0 : Int64)), (.long (0 : Int64)), (.long (0 : Int64)), (.long (0 : Int64))] (.long (0 : Int64)) := V_b4_at10.other W13 (Ne.symm ne_b2_b4)
  have F_multipliers_r0_at13 : Fld Z h13 r0 "com/example/gangleri/gangleri/generate/KroneckerGenerator" "multipliers" "[J" (.ref b4) := F_multipliers_r0_at10.other W13 (Or.inl ne_r0_b2)
  have F_scale_r0_at13 : Fld Z h13 r0 "com/example/gangleri/gangleri/generate/KroneckerGenerator" "scale" "I" (.int p1) := F_scale_r0_at10.other W13 (Or.inl ne_r0_b2)
  have F_degree_r0_at13 : Fld Z h13 r0 "com/example/gangleri/gangleri/generate/KroneckerGenerator" "degree" "I" (.int p2) := F_degree_r0_at10.other W13 (Or.inl ne_r0_b2)
  have F_seed_r0_at13 : Fld Z h13 r0 "com/example/gangleri/gangleri/generate/KroneckerGenerator" "seed" "J" (.long q3) := F_seed_r0_at10.other W13 (Or.inl ne_r0_b2)
  have F_halfScale_r0_at13 : Fld Z h13 r0 "com/example/gangleri/gangleri/generate/KroneckerGenerator" "halfScale" "I" (.int ((p1 + (1 : Int32)) / (2 : Int32))) := F_halfScale_r0_at10.other W13 (Or.inl ne_r0_b2)
  have F_idMask_r0_at13 : Fld Z h13 r0 "com/example/gangleri/gangleri/generate/KroneckerGenerator" "idMask" "J" (.long (((1 : Int64) <<< (p1 &&& 0x3f).toInt64) - (1 : Int64))) := F_idMask_r0_at10.other W13 (Or.inl ne_r0_b2)
  have xV_b2_at13 := Arv.set Ar_119 q_119 S_119 N_119 H_119 G_119 rfl W13 0 rfl (Nat.le_of_ble_eq_true rfl)
  have V_b2_at13 : Arv Z h13 b2 k2 .long (4 : Int32) [(.long (own_word q3 (0 : Int64))), (.long (0 : Int64)), (.long (0 : Int64)), (.long (0 : Int64))] (.long (0 : Int64)) := xV_b2_at13
  have K13 : Keep h0 h13 [r0] := K10.wr W13 (Or.inr sz_b2)
  have Z13 : n0 ≤ h13.size := Nat.le_trans Z10 (Keep.of_wr W13).1
  have N13 := Fr.snoc X13 N12 g_b2
  obtain ⟨T14, X14, e14, st14⟩ := getF X13 hx hZ hown (host := "") (Or.inl (hw _ (List.mem_of_getElem? (i := 13) rfl))) Via.refl e13 F_multipliers_r0_at13 (g := (mkF m 121 #[.val (.ref r0), .val (.int p1), .val (.int p2), .val (.long q3), .second, .val (.int (0 : Int32))] [(.ref r0)])) rfl rfl (hb hby d1_121)
  obtain ⟨cq15, q15, q15'⟩ := E_r0_at13.cell
  obtain ⟨_, _, ⟨T15, L15, k15, n15⟩, -, X15, ⟨Lc15, hQ15, l15, y15, z15⟩, st15⟩ := X14.privateBack hx (y := (⟨"com/example/gangleri/gangleri/generate/KroneckerGenerator", "word", "(J)J"⟩ : MethodName)) hown (mvT hZ (hw _ (List.mem_of_getElem? (i := 25) rfl))) (mvT hZ (hw _ (List.mem_of_getElem? (i := 26) rfl))) (mvT hZ (own_sel hw)) (Cond.privateMethod_at (mvP hZ (hw _ (List.mem_of_getElem? (i := 27) rfl)) (args := #[]))) (mvT hZ (hw _ (List.mem_of_getElem? (i := 28) rfl))) (by decide) (backOf (W := 2) (rm3 l Z a0 hw [] r0 (1 : Int64) q3 h13 n0 Z13 F_seed_r0_at13) hZ (hw _ (List.mem_of_getElem? (i := 28) rfl)) (hw _ (List.mem_of_getElem? (i := 3) rfl)) (by decide) (by decide)) (g := (mkF m 134 #[.val (.ref r0), .val (.int p1), .val (.int p2), .val (.long q3), .second, .val (.int (0 : Int32))] [(.long (1 : Int64)), (.ref r0), (.int (0 : Int32)), (.ref b4)])) rfl (by rw [hml]; rfl) (Steps.refl _) (a := r0) (by rw [e14]; exact q15) q15' (argsL := [(.long (1 : Int64))]) (rest := [(.int (0 : Int32)), (.ref b4)]) (lenOf pd_28J29J rfl) rfl (by show 2 * 0 + _ ≤ _; exact Nat.le_of_eq rfl) (hb hby d1_134) (fun _ _ => ⟨rfl, e14, (by decide : 2 + 0 ≤ _), (by decide : 8 + 0 ≤ _)⟩)
  dsimp only [Pt.U, Pt.locs, Pt.cells, Pt.slots] at X15 l15 y15 z15 st15 hQ15
  subst l15 y15 z15
  obtain ⟨rfl, N15q, e15⟩ := hQ15
  have N15 := Fr.app N13 N15q
  obtain ⟨cl_139, Ar_139, q_139, S_139, N_139, H_139, G_139⟩ := id V_b4_at13
  have hin139 : ¬ ((0 : Int32) < 0 ∨ cl_139.slots.size ≤ ((0 : Int32)).toNatClampNeg) := inb_of S_139 ⟨by decide, by decide⟩
  obtain ⟨T16, h16, X16, e16, W16, st16⟩ := stJ X15 hx hZ e15 Ar_139 (j := (0 : Int32)) hin139 (g := (mkF m 139 #[.val (.ref r0), .val (.int p1), .val (.int p2), .val (.long q3), .second, .val (.int (0 : Int32))] [(.long ((own_word q3 (1 : Int64)) ||| (1 : Int64))), (.int (0 : Int32)), (.ref b4)])) rfl rfl (hb hby d1_139)
  have E_r0_at16 : Exa Z h16 r0 "com/example/gangleri/gangleri/generate/KroneckerGenerator" := E_r0_at13.wr W16
  have F_offsets_r0_at16 : Fld Z h16 r0 "com/example/gangleri/gangleri/generate/KroneckerGenerator" "offsets" "[J" (.ref b2) := F_offsets_r0_at13.other W16 (Or.inl ne_r0_b4)
  have F_multipliers_r0_at16 : Fld Z h16 r0 "com/example/gangleri/gangleri/generate/KroneckerGenerator" "multipliers" "[J" (.ref b4) := F_multipliers_r0_at13.other W16 (Or.inl ne_r0_b4)
  have F_scale_r0_at16 : Fld Z h16 r0 "com/example/gangleri/gangleri/generate/KroneckerGenerator" "scale" "I" (.int p1) := F_scale_r0_at13.other W16 (Or.inl ne_r0_b4)
  have F_degree_r0_at16 : Fld Z h16 r0 "com/example/gangleri/gangleri/generate/KroneckerGenerator" "degree" "I" (.int p2) := F_degree_r0_at13.other W16 (Or.inl ne_r0_b4)
  have F_seed_r0_at16 : Fld Z h16 r0 "com/example/gangleri/gangleri/generate/KroneckerGenerator" "seed" "J" (.long q3) := F_seed_r0_at13.other W16 (Or.inl ne_r0_b4)
  have F_halfScale_r0_at16 : Fld Z h16 r0 "com/example/gangleri/gangleri/generate/KroneckerGenerator" "halfScale" "I" (.int ((p1 + (1 : Int32)) / (2 : Int32))) := F_halfScale_r0_at13.other W16 (Or.inl ne_r0_b4)
  have F_idMask_r0_at16 : Fld Z h16 r0 "com/example/gangleri/gangleri/generate/KroneckerGenerator" "idMask" "J" (.long (((1 : Int64) <<< (p1 &&& 0x3f).toInt64) - (1 : Int64))) := F_idMask_r0_at13.other W16 (Or.inl ne_r0_b4)
  have V_b2_at16 : Arv Z h16 b2 k2 .long (4 : Int32) [(.long (own_word q3 (0 : Int64))), (.long (0 : Int64)), (.long (0 : Int64)), (.long (0 : Int64))] (.long (0 : Int64)) := V_b2_at13.other W16 ne_b2_b4
  have xV_b4_at16 := Arv.set Ar_139 q_139 S_139 N_139 H_139 G_139 rfl W16 0 rfl (Nat.le_of_ble_eq_true rfl)
  have V_b4_at16 : Arv Z h16 b4 k4 .long (4 : Int32) [(.long ((own_word q3 (1 : Int64)) ||| (1 : Int64))), (.long (0 : Int64)), (.long (0 : Int64)), (.long (0 : Int64))] (.long (0 : Int64)) := xV_b4_at16
  have K16 : Keep h0 h16 [r0] := K13.wr W16 (Or.inr sz_b4)
  have Z16 : n0 ≤ h16.size := Nat.le_trans Z13 (Keep.of_wr W16).1
  have N16 := Fr.snoc X16 N15 g_b4
  obtain ⟨T17, X17, e17, st17⟩ := getF X16 hx hZ hown (host := "") (Or.inl (hw _ (List.mem_of_getElem? (i := 11) rfl))) Via.refl e16 F_offsets_r0_at16 (g := (mkF m 105 #[.val (.ref r0), .val (.int p1), .val (.int p2), .val (.long q3), .second, .val (.int (1 : Int32))] [(.ref r0)])) rfl rfl (hb hby d1_105)
  obtain ⟨cq18, q18, q18'⟩ := E_r0_at16.cell
  obtain ⟨_, _, ⟨T18, L18, k18, n18⟩, -, X18, ⟨Lc18, hQ18, l18, y18, z18⟩, st18⟩ := X17.privateBack hx (y := (⟨"com/example/gangleri/gangleri/generate/KroneckerGenerator", "word", "(J)J"⟩ : MethodName)) hown (mvT hZ (hw _ (List.mem_of_getElem? (i := 25) rfl))) (mvT hZ (hw _ (List.mem_of_getElem? (i := 26) rfl))) (mvT hZ (own_sel hw)) (Cond.privateMethod_at (mvP hZ (hw _ (List.mem_of_getElem? (i := 27) rfl)) (args := #[]))) (mvT hZ (hw _ (List.mem_of_getElem? (i := 28) rfl))) (by decide) (backOf (W := 2) (rm3 l Z a0 hw [] r0 (2 : Int64) q3 h16 n0 Z16 F_seed_r0_at16) hZ (hw _ (List.mem_of_getElem? (i := 28) rfl)) (hw _ (List.mem_of_getElem? (i := 3) rfl)) (by decide) (by decide)) (g := (mkF m 116 #[.val (.ref r0), .val (.int p1), .val (.int p2), .val (.long q3), .second, .val (.int (1 : Int32))] [(.long (2 : Int64)), (.ref r0), (.int (1 : Int32)), (.ref b2)])) rfl (by rw [hml]; rfl) (Steps.refl _) (a := r0) (by rw [e17]; exact q18) q18' (argsL := [(.long (2 : Int64))]) (rest := [(.int (1 : Int32)), (.ref b2)]) (lenOf pd_28J29J rfl) rfl (by show 2 * 0 + _ ≤ _; exact Nat.le_of_eq rfl) (hb hby d1_116) (fun _ _ => ⟨rfl, e17, (by decide : 2 + 0 ≤ _), (by decide : 8 + 0 ≤ _)⟩)
  dsimp only [Pt.U, Pt.locs, Pt.cells, Pt.slots] at X18 l18 y18 z18 st18 hQ18
  subst l18 y18 z18
  obtain ⟨rfl, N18q, e18⟩ := hQ18
  have N18 := Fr.app N16 N18q
  obtain ⟨cl_119, Ar_119, q_119, S_119, N_119, H_119, G_119⟩ := id V_b2_at16
  have hin119 : ¬ ((1 : Int32) < 0 ∨ cl_119.slots.size ≤ ((1 : Int32)).toNatClampNeg) := inb_of S_119 ⟨by decide, by decide⟩
  obtain ⟨T19, h19, X19, e19, W19, st19⟩ := stJ X18 hx hZ e18 Ar_119 (j := (1 : Int32)) hin119 (g := (mkF m 119 #[.val (.ref r0), .val (.int p1), .val (.int p2), .val (.long q3), .second, .val (.int (1 : Int32))] [(.long (own_word q3 (2 : Int64))), (.int (1 : Int32)), (.ref b2)])) rfl rfl (hb hby d1_119)
  have E_r0_at19 : Exa Z h19 r0 "com/example/gangleri/gangleri/generate/KroneckerGenerator" := E_r0_at16.wr W19
  have F_offsets_r0_at19 : Fld Z h19 r0 "com/example/gangleri/gangleri/generate/KroneckerGenerator" "offsets" "[J" (.ref b2) := F_offsets_r0_at16.other W19 (Or.inl ne_r0_b2)
  have F_multipliers_r0_at19 : Fld Z h19 r0 "com/example/gangleri/gangleri/generate/KroneckerGenerator" "multipliers" "[J" (.ref b4) := F_multipliers_r0_at16.other W19 (Or.inl ne_r0_b2)
  have F_scale_r0_at19 : Fld Z h19 r0 "com/example/gangleri/gangleri/generate/KroneckerGenerator" "scale" "I" (.int p1) := F_scale_r0_at16.other W19 (Or.inl ne_r0_b2)
  have F_degree_r0_at19 : Fld Z h19 r0 "com/example/gangleri/gangleri/generate/KroneckerGenerator" "degree" "I" (.int p2) := F_degree_r0_at16.other W19 (Or.inl ne_r0_b2)
  have F_seed_r0_at19 : Fld Z h19 r0 "com/example/gangleri/gangleri/generate/KroneckerGenerator" "seed" "J" (.long q3) := F_seed_r0_at16.other W19 (Or.inl ne_r0_b2)
  have F_halfScale_r0_at19 : Fld Z h19 r0 "com/example/gangleri/gangleri/generate/KroneckerGenerator" "halfScale" "I" (.int ((p1 + (1 : Int32)) / (2 : Int32))) := F_halfScale_r0_at16.other W19 (Or.inl ne_r0_b2)
  have F_idMask_r0_at19 : Fld Z h19 r0 "com/example/gangleri/gangleri/generate/KroneckerGenerator" "idMask" "J" (.long (((1 : Int64) <<< (p1 &&& 0x3f).toInt64) - (1 : Int64))) := F_idMask_r0_at16.other W19 (Or.inl ne_r0_b2)
  have V_b4_at19 : Arv Z h19 b4 k4 .long (4 : Int32) [(.long ((own_word q3 (1 : Int64)) ||| (1 : Int64))), (.long (0 : Int64)), (.long (0 : Int64)), (.long (0 : Int64))] (.long (0 : Int64)) := V_b4_at16.other W19 (Ne.symm ne_b2_b4)
  have xV_b2_at19 := Arv.set Ar_119 q_119 S_119 N_119 H_119 G_119 rfl W19 1 rfl (Nat.le_of_ble_eq_true rfl)
  have V_b2_at19 : Arv Z h19 b2 k2 .long (4 : Int32) [(.long (own_word q3 (0 : Int64))), (.long (own_word q3 (2 : Int64))), (.long (0 : Int64)), (.long (0 : Int64))] (.long (0 : Int64)) := xV_b2_at19
  have K19 : Keep h0 h19 [r0] := K16.wr W19 (Or.inr sz_b2)
  have Z19 : n0 ≤ h19.size := Nat.le_trans Z16 (Keep.of_wr W19).1
  have N19 := Fr.snoc X19 N18 g_b2
  obtain ⟨T20, X20, e20, st20⟩ := getF X19 hx hZ hown (host := "") (Or.inl (hw _ (List.mem_of_getElem? (i := 13) rfl))) Via.refl e19 F_multipliers_r0_at19 (g := (mkF m 121 #[.val (.ref r0), .val (.int p1), .val (.int p2), .val (.long q3), .second, .val (.int (1 : Int32))] [(.ref r0)])) rfl rfl (hb hby d1_121)
  obtain ⟨cq21, q21, q21'⟩ := E_r0_at19.cell
  obtain ⟨_, _, ⟨T21, L21, k21, n21⟩, -, X21, ⟨Lc21, hQ21, l21, y21, z21⟩, st21⟩ := X20.privateBack hx (y := (⟨"com/example/gangleri/gangleri/generate/KroneckerGenerator", "word", "(J)J"⟩ : MethodName)) hown (mvT hZ (hw _ (List.mem_of_getElem? (i := 25) rfl))) (mvT hZ (hw _ (List.mem_of_getElem? (i := 26) rfl))) (mvT hZ (own_sel hw)) (Cond.privateMethod_at (mvP hZ (hw _ (List.mem_of_getElem? (i := 27) rfl)) (args := #[]))) (mvT hZ (hw _ (List.mem_of_getElem? (i := 28) rfl))) (by decide) (backOf (W := 2) (rm3 l Z a0 hw [] r0 (3 : Int64) q3 h19 n0 Z19 F_seed_r0_at19) hZ (hw _ (List.mem_of_getElem? (i := 28) rfl)) (hw _ (List.mem_of_getElem? (i := 3) rfl)) (by decide) (by decide)) (g := (mkF m 134 #[.val (.ref r0), .val (.int p1), .val (.int p2), .val (.long q3), .second, .val (.int (1 : Int32))] [(.long (3 : Int64)), (.ref r0), (.int (1 : Int32)), (.ref b4)])) rfl (by rw [hml]; rfl) (Steps.refl _) (a := r0) (by rw [e20]; exact q21) q21' (argsL := [(.long (3 : Int64))]) (rest := [(.int (1 : Int32)), (.ref b4)]) (lenOf pd_28J29J rfl) rfl (by show 2 * 0 + _ ≤ _; exact Nat.le_of_eq rfl) (hb hby d1_134) (fun _ _ => ⟨rfl, e20, (by decide : 2 + 0 ≤ _), (by decide : 8 + 0 ≤ _)⟩)
  dsimp only [Pt.U, Pt.locs, Pt.cells, Pt.slots] at X21 l21 y21 z21 st21 hQ21
  subst l21 y21 z21
  obtain ⟨rfl, N21q, e21⟩ := hQ21
  have N21 := Fr.app N19 N21q
  obtain ⟨cl_139, Ar_139, q_139, S_139, N_139, H_139, G_139⟩ := id V_b4_at19
  have hin139 : ¬ ((1 : Int32) < 0 ∨ cl_139.slots.size ≤ ((1 : Int32)).toNatClampNeg) := inb_of S_139 ⟨by decide, by decide⟩
  obtain ⟨T22, h22, X22, e22, W22, st22⟩ := stJ X21 hx hZ e21 Ar_139 (j := (1 : Int32)) hin139 (g := (mkF m 139 #[.val (.ref r0), .val (.int p1), .val (.int p2), .val (.long q3), .second, .val (.int (1 : Int32))] [(.long ((own_word q3 (3 : Int64)) ||| (1 : Int64))), (.int (1 : Int32)), (.ref b4)])) rfl rfl (hb hby d1_139)
  have E_r0_at22 : Exa Z h22 r0 "com/example/gangleri/gangleri/generate/KroneckerGenerator" := E_r0_at19.wr W22
  have F_offsets_r0_at22 : Fld Z h22 r0 "com/example/gangleri/gangleri/generate/KroneckerGenerator" "offsets" "[J" (.ref b2) := F_offsets_r0_at19.other W22 (Or.inl ne_r0_b4)
  have F_multipliers_r0_at22 : Fld Z h22 r0 "com/example/gangleri/gangleri/generate/KroneckerGenerator" "multipliers" "[J" (.ref b4) := F_multipliers_r0_at19.other W22 (Or.inl ne_r0_b4)
  have F_scale_r0_at22 : Fld Z h22 r0 "com/example/gangleri/gangleri/generate/KroneckerGenerator" "scale" "I" (.int p1) := F_scale_r0_at19.other W22 (Or.inl ne_r0_b4)
  have F_degree_r0_at22 : Fld Z h22 r0 "com/example/gangleri/gangleri/generate/KroneckerGenerator" "degree" "I" (.int p2) := F_degree_r0_at19.other W22 (Or.inl ne_r0_b4)
  have F_seed_r0_at22 : Fld Z h22 r0 "com/example/gangleri/gangleri/generate/KroneckerGenerator" "seed" "J" (.long q3) := F_seed_r0_at19.other W22 (Or.inl ne_r0_b4)
  have F_halfScale_r0_at22 : Fld Z h22 r0 "com/example/gangleri/gangleri/generate/KroneckerGenerator" "halfScale" "I" (.int ((p1 + (1 : Int32)) / (2 : Int32))) := F_halfScale_r0_at19.other W22 (Or.inl ne_r0_b4)
  have F_idMask_r0_at22 : Fld Z h22 r0 "com/example/gangleri/gangleri/generate/KroneckerGenerator" "idMask" "J" (.long (((1 : Int64) <<< (p1 &&& 0x3f).toInt64) - (1 : Int64))) := F_idMask_r0_at19.other W22 (Or.inl ne_r0_b4)
  have V_b2_at22 : Arv Z h22 b2 k2 .long (4 : Int32) [(.long (own_word q3 (0 : Int64))), (.long (own_word q3 (2 : Int64))), (.long (0 : Int64)), (.long (0 : Int64))] (.long (0 : Int64)) := V_b2_at19.other W22 ne_b2_b4
  have xV_b4_at22 := Arv.set Ar_139 q_139 S_139 N_139 H_139 G_139 rfl W22 1 rfl (Nat.le_of_ble_eq_true rfl)
  have V_b4_at22 : Arv Z h22 b4 k4 .long (4 : Int32) [(.long ((own_word q3 (1 : Int64)) ||| (1 : Int64))), (.long ((own_word q3 (3 : Int64)) ||| (1 : Int64))), (.long (0 : Int64)), (.long (0 : Int64))] (.long (0 : Int64)) := xV_b4_at22
  have K22 : Keep h0 h22 [r0] := K19.wr W22 (Or.inr sz_b4)
  have Z22 : n0 ≤ h22.size := Nat.le_trans Z19 (Keep.of_wr W22).1
  have N22 := Fr.snoc X22 N21 g_b4
  obtain ⟨T23, X23, e23, st23⟩ := getF X22 hx hZ hown (host := "") (Or.inl (hw _ (List.mem_of_getElem? (i := 11) rfl))) Via.refl e22 F_offsets_r0_at22 (g := (mkF m 105 #[.val (.ref r0), .val (.int p1), .val (.int p2), .val (.long q3), .second, .val (.int (2 : Int32))] [(.ref r0)])) rfl rfl (hb hby d1_105)
  obtain ⟨cq24, q24, q24'⟩ := E_r0_at22.cell
  obtain ⟨_, _, ⟨T24, L24, k24, n24⟩, -, X24, ⟨Lc24, hQ24, l24, y24, z24⟩, st24⟩ := X23.privateBack hx (y := (⟨"com/example/gangleri/gangleri/generate/KroneckerGenerator", "word", "(J)J"⟩ : MethodName)) hown (mvT hZ (hw _ (List.mem_of_getElem? (i := 25) rfl))) (mvT hZ (hw _ (List.mem_of_getElem? (i := 26) rfl))) (mvT hZ (own_sel hw)) (Cond.privateMethod_at (mvP hZ (hw _ (List.mem_of_getElem? (i := 27) rfl)) (args := #[]))) (mvT hZ (hw _ (List.mem_of_getElem? (i := 28) rfl))) (by decide) (backOf (W := 2) (rm3 l Z a0 hw [] r0 (4 : Int64) q3 h22 n0 Z22 F_seed_r0_at22) hZ (hw _ (List.mem_of_getElem? (i := 28) rfl)) (hw _ (List.mem_of_getElem? (i := 3) rfl)) (by decide) (by decide)) (g := (mkF m 116 #[.val (.ref r0), .val (.int p1), .val (.int p2), .val (.long q3), .second, .val (.int (2 : Int32))] [(.long (4 : Int64)), (.ref r0), (.int (2 : Int32)), (.ref b2)])) rfl (by rw [hml]; rfl) (Steps.refl _) (a := r0) (by rw [e23]; exact q24) q24' (argsL := [(.long (4 : Int64))]) (rest := [(.int (2 : Int32)), (.ref b2)]) (lenOf pd_28J29J rfl) rfl (by show 2 * 0 + _ ≤ _; exact Nat.le_of_eq rfl) (hb hby d1_116) (fun _ _ => ⟨rfl, e23, (by decide : 2 + 0 ≤ _), (by decide : 8 + 0 ≤ _)⟩)
  dsimp only [Pt.U, Pt.locs, Pt.cells, Pt.slots] at X24 l24 y24 z24 st24 hQ24
  subst l24 y24 z24
  obtain ⟨rfl, N24q, e24⟩ := hQ24
  have N24 := Fr.app N22 N24q
  obtain ⟨cl_119, Ar_119, q_119, S_119, N_119, H_119, G_119⟩ := id V_b2_at22
  have hin119 : ¬ ((2 : Int32) < 0 ∨ cl_119.slots.size ≤ ((2 : Int32)).toNatClampNeg) := inb_of S_119 ⟨by decide, by decide⟩
  obtain ⟨T25, h25, X25, e25, W25, st25⟩ := stJ X24 hx hZ e24 Ar_119 (j := (2 : Int32)) hin119 (g := (mkF m 119 #[.val (.ref r0), .val (.int p1), .val (.int p2), .val (.long q3), .second, .val (.int (2 : Int32))] [(.long (own_word q3 (4 : Int64))), (.int (2 : Int32)), (.ref b2)])) rfl rfl (hb hby d1_119)
  have E_r0_at25 : Exa Z h25 r0 "com/example/gangleri/gangleri/generate/KroneckerGenerator" := E_r0_at22.wr W25
  have F_offsets_r0_at25 : Fld Z h25 r0 "com/example/gangleri/gangleri/generate/KroneckerGenerator" "offsets" "[J" (.ref b2) := F_offsets_r0_at22.other W25 (Or.inl ne_r0_b2)
  have F_multipliers_r0_at25 : Fld Z h25 r0 "com/example/gangleri/gangleri/generate/KroneckerGenerator" "multipliers" "[J" (.ref b4) := F_multipliers_r0_at22.other W25 (Or.inl ne_r0_b2)
  have F_scale_r0_at25 : Fld Z h25 r0 "com/example/gangleri/gangleri/generate/KroneckerGenerator" "scale" "I" (.int p1) := F_scale_r0_at22.other W25 (Or.inl ne_r0_b2)
  have F_degree_r0_at25 : Fld Z h25 r0 "com/example/gangleri/gangleri/generate/KroneckerGenerator" "degree" "I" (.int p2) := F_degree_r0_at22.other W25 (Or.inl ne_r0_b2)
  have F_seed_r0_at25 : Fld Z h25 r0 "com/example/gangleri/gangleri/generate/KroneckerGenerator" "seed" "J" (.long q3) := F_seed_r0_at22.other W25 (Or.inl ne_r0_b2)
  have F_halfScale_r0_at25 : Fld Z h25 r0 "com/example/gangleri/gangleri/generate/KroneckerGenerator" "halfScale" "I" (.int ((p1 + (1 : Int32)) / (2 : Int32))) := F_halfScale_r0_at22.other W25 (Or.inl ne_r0_b2)
  have F_idMask_r0_at25 : Fld Z h25 r0 "com/example/gangleri/gangleri/generate/KroneckerGenerator" "idMask" "J" (.long (((1 : Int64) <<< (p1 &&& 0x3f).toInt64) - (1 : Int64))) := F_idMask_r0_at22.other W25 (Or.inl ne_r0_b2)
  have V_b4_at25 : Arv Z h25 b4 k4 .long (4 : Int32) [(.long ((own_word q3 (1 : Int64)) ||| (1 : Int64))), (.long ((own_word q3 (3 : Int64)) ||| (1 : Int64))), (.long (0 : Int64)), (.long (0 : Int64))] (.long (0 : Int64)) := V_b4_at22.other W25 (Ne.symm ne_b2_b4)
  have xV_b2_at25 := Arv.set Ar_119 q_119 S_119 N_119 H_119 G_119 rfl W25 2 rfl (Nat.le_of_ble_eq_true rfl)
  have V_b2_at25 : Arv Z h25 b2 k2 .long (4 : Int32) [(.long (own_word q3 (0 : Int64))), (.long (own_word q3 (2 : Int64))), (.long (own_word q3 (4 : Int64))), (.long (0 : Int64))] (.long (0 : Int64)) := xV_b2_at25
  have K25 : Keep h0 h25 [r0] := K22.wr W25 (Or.inr sz_b2)
  have Z25 : n0 ≤ h25.size := Nat.le_trans Z22 (Keep.of_wr W25).1
  have N25 := Fr.snoc X25 N24 g_b2
  obtain ⟨T26, X26, e26, st26⟩ := getF X25 hx hZ hown (host := "") (Or.inl (hw _ (List.mem_of_getElem? (i := 13) rfl))) Via.refl e25 F_multipliers_r0_at25 (g := (mkF m 121 #[.val (.ref r0), .val (.int p1), .val (.int p2), .val (.long q3), .second, .val (.int (2 : Int32))] [(.ref r0)])) rfl rfl (hb hby d1_121)
  obtain ⟨cq27, q27, q27'⟩ := E_r0_at25.cell
  obtain ⟨_, _, ⟨T27, L27, k27, n27⟩, -, X27, ⟨Lc27, hQ27, l27, y27, z27⟩, st27⟩ := X26.privateBack hx (y := (⟨"com/example/gangleri/gangleri/generate/KroneckerGenerator", "word", "(J)J"⟩ : MethodName)) hown (mvT hZ (hw _ (List.mem_of_getElem? (i := 25) rfl))) (mvT hZ (hw _ (List.mem_of_getElem? (i := 26) rfl))) (mvT hZ (own_sel hw)) (Cond.privateMethod_at (mvP hZ (hw _ (List.mem_of_getElem? (i := 27) rfl)) (args := #[]))) (mvT hZ (hw _ (List.mem_of_getElem? (i := 28) rfl))) (by decide) (backOf (W := 2) (rm3 l Z a0 hw [] r0 (5 : Int64) q3 h25 n0 Z25 F_seed_r0_at25) hZ (hw _ (List.mem_of_getElem? (i := 28) rfl)) (hw _ (List.mem_of_getElem? (i := 3) rfl)) (by decide) (by decide)) (g := (mkF m 134 #[.val (.ref r0), .val (.int p1), .val (.int p2), .val (.long q3), .second, .val (.int (2 : Int32))] [(.long (5 : Int64)), (.ref r0), (.int (2 : Int32)), (.ref b4)])) rfl (by rw [hml]; rfl) (Steps.refl _) (a := r0) (by rw [e26]; exact q27) q27' (argsL := [(.long (5 : Int64))]) (rest := [(.int (2 : Int32)), (.ref b4)]) (lenOf pd_28J29J rfl) rfl (by show 2 * 0 + _ ≤ _; exact Nat.le_of_eq rfl) (hb hby d1_134) (fun _ _ => ⟨rfl, e26, (by decide : 2 + 0 ≤ _), (by decide : 8 + 0 ≤ _)⟩)
  dsimp only [Pt.U, Pt.locs, Pt.cells, Pt.slots] at X27 l27 y27 z27 st27 hQ27
  subst l27 y27 z27
  obtain ⟨rfl, N27q, e27⟩ := hQ27
  have N27 := Fr.app N25 N27q
  obtain ⟨cl_139, Ar_139, q_139, S_139, N_139, H_139, G_139⟩ := id V_b4_at25
  have hin139 : ¬ ((2 : Int32) < 0 ∨ cl_139.slots.size ≤ ((2 : Int32)).toNatClampNeg) := inb_of S_139 ⟨by decide, by decide⟩
  obtain ⟨T28, h28, X28, e28, W28, st28⟩ := stJ X27 hx hZ e27 Ar_139 (j := (2 : Int32)) hin139 (g := (mkF m 139 #[.val (.ref r0), .val (.int p1), .val (.int p2), .val (.long q3), .second, .val (.int (2 : Int32))] [(.long ((own_word q3 (5 : Int64)) ||| (1 : Int64))), (.int (2 : Int32)), (.ref b4)])) rfl rfl (hb hby d1_139)
  have E_r0_at28 : Exa Z h28 r0 "com/example/gangleri/gangleri/generate/KroneckerGenerator" := E_r0_at25.wr W28
  have F_offsets_r0_at28 : Fld Z h28 r0 "com/example/gangleri/gangleri/generate/KroneckerGenerator" "offsets" "[J" (.ref b2) := F_offsets_r0_at25.other W28 (Or.inl ne_r0_b4)
  have F_multipliers_r0_at28 : Fld Z h28 r0 "com/example/gangleri/gangleri/generate/KroneckerGenerator" "multipliers" "[J" (.ref b4) := F_multipliers_r0_at25.other W28 (Or.inl ne_r0_b4)
  have F_scale_r0_at28 : Fld Z h28 r0 "com/example/gangleri/gangleri/generate/KroneckerGenerator" "scale" "I" (.int p1) := F_scale_r0_at25.other W28 (Or.inl ne_r0_b4)
  have F_degree_r0_at28 : Fld Z h28 r0 "com/example/gangleri/gangleri/generate/KroneckerGenerator" "degree" "I" (.int p2) := F_degree_r0_at25.other W28 (Or.inl ne_r0_b4)
  have F_seed_r0_at28 : Fld Z h28 r0 "com/example/gangleri/gangleri/generate/KroneckerGenerator" "seed" "J" (.long q3) := F_seed_r0_at25.other W28 (Or.inl ne_r0_b4)
  have F_halfScale_r0_at28 : Fld Z h28 r0 "com/example/gangleri/gangleri/generate/KroneckerGenerator" "halfScale" "I" (.int ((p1 + (1 : Int32)) / (2 : Int32))) := F_halfScale_r0_at25.other W28 (Or.inl ne_r0_b4)
  have F_idMask_r0_at28 : Fld Z h28 r0 "com/example/gangleri/gangleri/generate/KroneckerGenerator" "idMask" "J" (.long (((1 : Int64) <<< (p1 &&& 0x3f).toInt64) - (1 : Int64))) := F_idMask_r0_at25.other W28 (Or.inl ne_r0_b4)
  have V_b2_at28 : Arv Z h28 b2 k2 .long (4 : Int32) [(.long (own_word q3 (0 : Int64))), (.long (own_word q3 (2 : Int64))), (.long (own_word q3 (4 : Int64))), (.long (0 : Int64))] (.long (0 : Int64)) := V_b2_at25.other W28 ne_b2_b4
  have xV_b4_at28 := Arv.set Ar_139 q_139 S_139 N_139 H_139 G_139 rfl W28 2 rfl (Nat.le_of_ble_eq_true rfl)
  have V_b4_at28 : Arv Z h28 b4 k4 .long (4 : Int32) [(.long ((own_word q3 (1 : Int64)) ||| (1 : Int64))), (.long ((own_word q3 (3 : Int64)) ||| (1 : Int64))), (.long ((own_word q3 (5 : Int64)) ||| (1 : Int64))), (.long (0 : Int64))] (.long (0 : Int64)) := xV_b4_at28
  have K28 : Keep h0 h28 [r0] := K25.wr W28 (Or.inr sz_b4)
  have Z28 : n0 ≤ h28.size := Nat.le_trans Z25 (Keep.of_wr W28).1
  have N28 := Fr.snoc X28 N27 g_b4
  obtain ⟨T29, X29, e29, st29⟩ := getF X28 hx hZ hown (host := "") (Or.inl (hw _ (List.mem_of_getElem? (i := 11) rfl))) Via.refl e28 F_offsets_r0_at28 (g := (mkF m 105 #[.val (.ref r0), .val (.int p1), .val (.int p2), .val (.long q3), .second, .val (.int (3 : Int32))] [(.ref r0)])) rfl rfl (hb hby d1_105)
  obtain ⟨cq30, q30, q30'⟩ := E_r0_at28.cell
  obtain ⟨_, _, ⟨T30, L30, k30, n30⟩, -, X30, ⟨Lc30, hQ30, l30, y30, z30⟩, st30⟩ := X29.privateBack hx (y := (⟨"com/example/gangleri/gangleri/generate/KroneckerGenerator", "word", "(J)J"⟩ : MethodName)) hown (mvT hZ (hw _ (List.mem_of_getElem? (i := 25) rfl))) (mvT hZ (hw _ (List.mem_of_getElem? (i := 26) rfl))) (mvT hZ (own_sel hw)) (Cond.privateMethod_at (mvP hZ (hw _ (List.mem_of_getElem? (i := 27) rfl)) (args := #[]))) (mvT hZ (hw _ (List.mem_of_getElem? (i := 28) rfl))) (by decide) (backOf (W := 2) (rm3 l Z a0 hw [] r0 (6 : Int64) q3 h28 n0 Z28 F_seed_r0_at28) hZ (hw _ (List.mem_of_getElem? (i := 28) rfl)) (hw _ (List.mem_of_getElem? (i := 3) rfl)) (by decide) (by decide)) (g := (mkF m 116 #[.val (.ref r0), .val (.int p1), .val (.int p2), .val (.long q3), .second, .val (.int (3 : Int32))] [(.long (6 : Int64)), (.ref r0), (.int (3 : Int32)), (.ref b2)])) rfl (by rw [hml]; rfl) (Steps.refl _) (a := r0) (by rw [e29]; exact q30) q30' (argsL := [(.long (6 : Int64))]) (rest := [(.int (3 : Int32)), (.ref b2)]) (lenOf pd_28J29J rfl) rfl (by show 2 * 0 + _ ≤ _; exact Nat.le_of_eq rfl) (hb hby d1_116) (fun _ _ => ⟨rfl, e29, (by decide : 2 + 0 ≤ _), (by decide : 8 + 0 ≤ _)⟩)
  dsimp only [Pt.U, Pt.locs, Pt.cells, Pt.slots] at X30 l30 y30 z30 st30 hQ30
  subst l30 y30 z30
  obtain ⟨rfl, N30q, e30⟩ := hQ30
  have N30 := Fr.app N28 N30q
  obtain ⟨cl_119, Ar_119, q_119, S_119, N_119, H_119, G_119⟩ := id V_b2_at28
  have hin119 : ¬ ((3 : Int32) < 0 ∨ cl_119.slots.size ≤ ((3 : Int32)).toNatClampNeg) := inb_of S_119 ⟨by decide, by decide⟩
  obtain ⟨T31, h31, X31, e31, W31, st31⟩ := stJ X30 hx hZ e30 Ar_119 (j := (3 : Int32)) hin119 (g := (mkF m 119 #[.val (.ref r0), .val (.int p1), .val (.int p2), .val (.long q3), .second, .val (.int (3 : Int32))] [(.long (own_word q3 (6 : Int64))), (.int (3 : Int32)), (.ref b2)])) rfl rfl (hb hby d1_119)
  have E_r0_at31 : Exa Z h31 r0 "com/example/gangleri/gangleri/generate/KroneckerGenerator" := E_r0_at28.wr W31
  have F_offsets_r0_at31 : Fld Z h31 r0 "com/example/gangleri/gangleri/generate/KroneckerGenerator" "offsets" "[J" (.ref b2) := F_offsets_r0_at28.other W31 (Or.inl ne_r0_b2)
  have F_multipliers_r0_at31 : Fld Z h31 r0 "com/example/gangleri/gangleri/generate/KroneckerGenerator" "multipliers" "[J" (.ref b4) := F_multipliers_r0_at28.other W31 (Or.inl ne_r0_b2)
  have F_scale_r0_at31 : Fld Z h31 r0 "com/example/gangleri/gangleri/generate/KroneckerGenerator" "scale" "I" (.int p1) := F_scale_r0_at28.other W31 (Or.inl ne_r0_b2)
  have F_degree_r0_at31 : Fld Z h31 r0 "com/example/gangleri/gangleri/generate/KroneckerGenerator" "degree" "I" (.int p2) := F_degree_r0_at28.other W31 (Or.inl ne_r0_b2)
  have F_seed_r0_at31 : Fld Z h31 r0 "com/example/gangleri/gangleri/generate/KroneckerGenerator" "seed" "J" (.long q3) := F_seed_r0_at28.other W31 (Or.inl ne_r0_b2)
  have F_halfScale_r0_at31 : Fld Z h31 r0 "com/example/gangleri/gangleri/generate/KroneckerGenerator" "halfScale" "I" (.int ((p1 + (1 : Int32)) / (2 : Int32))) := F_halfScale_r0_at28.other W31 (Or.inl ne_r0_b2)
  have F_idMask_r0_at31 : Fld Z h31 r0 "com/example/gangleri/gangleri/generate/KroneckerGenerator" "idMask" "J" (.long (((1 : Int64) <<< (p1 &&& 0x3f).toInt64) - (1 : Int64))) := F_idMask_r0_at28.other W31 (Or.inl ne_r0_b2)
  have V_b4_at31 : Arv Z h31 b4 k4 .long (4 : Int32) [(.long ((own_word q3 (1 : Int64)) ||| (1 : Int64))), (.long ((own_word q3 (3 : Int64)) ||| (1 : Int64))), (.long ((own_word q3 (5 : Int64)) ||| (1 : Int64))), (.long (0 : Int64))] (.long (0 : Int64)) := V_b4_at28.other W31 (Ne.symm ne_b2_b4)
  have xV_b2_at31 := Arv.set Ar_119 q_119 S_119 N_119 H_119 G_119 rfl W31 3 rfl (Nat.le_of_ble_eq_true rfl)
  have V_b2_at31 : Arv Z h31 b2 k2 .long (4 : Int32) [(.long (own_word q3 (0 : Int64))), (.long (own_word q3 (2 : Int64))), (.long (own_word q3 (4 : Int64))), (.long (own_word q3 (6 : Int64)))] (.long (0 : Int64)) := xV_b2_at31
  have K31 : Keep h0 h31 [r0] := K28.wr W31 (Or.inr sz_b2)
  have Z31 : n0 ≤ h31.size := Nat.le_trans Z28 (Keep.of_wr W31).1
  have N31 := Fr.snoc X31 N30 g_b2
  obtain ⟨T32, X32, e32, st32⟩ := getF X31 hx hZ hown (host := "") (Or.inl (hw _ (List.mem_of_getElem? (i := 13) rfl))) Via.refl e31 F_multipliers_r0_at31 (g := (mkF m 121 #[.val (.ref r0), .val (.int p1), .val (.int p2), .val (.long q3), .second, .val (.int (3 : Int32))] [(.ref r0)])) rfl rfl (hb hby d1_121)
  obtain ⟨cq33, q33, q33'⟩ := E_r0_at31.cell
  obtain ⟨_, _, ⟨T33, L33, k33, n33⟩, -, X33, ⟨Lc33, hQ33, l33, y33, z33⟩, st33⟩ := X32.privateBack hx (y := (⟨"com/example/gangleri/gangleri/generate/KroneckerGenerator", "word", "(J)J"⟩ : MethodName)) hown (mvT hZ (hw _ (List.mem_of_getElem? (i := 25) rfl))) (mvT hZ (hw _ (List.mem_of_getElem? (i := 26) rfl))) (mvT hZ (own_sel hw)) (Cond.privateMethod_at (mvP hZ (hw _ (List.mem_of_getElem? (i := 27) rfl)) (args := #[]))) (mvT hZ (hw _ (List.mem_of_getElem? (i := 28) rfl))) (by decide) (backOf (W := 2) (rm3 l Z a0 hw [] r0 (7 : Int64) q3 h31 n0 Z31 F_seed_r0_at31) hZ (hw _ (List.mem_of_getElem? (i := 28) rfl)) (hw _ (List.mem_of_getElem? (i := 3) rfl)) (by decide) (by decide)) (g := (mkF m 134 #[.val (.ref r0), .val (.int p1), .val (.int p2), .val (.long q3), .second, .val (.int (3 : Int32))] [(.long (7 : Int64)), (.ref r0), (.int (3 : Int32)), (.ref b4)])) rfl (by rw [hml]; rfl) (Steps.refl _) (a := r0) (by rw [e32]; exact q33) q33' (argsL := [(.long (7 : Int64))]) (rest := [(.int (3 : Int32)), (.ref b4)]) (lenOf pd_28J29J rfl) rfl (by show 2 * 0 + _ ≤ _; exact Nat.le_of_eq rfl) (hb hby d1_134) (fun _ _ => ⟨rfl, e32, (by decide : 2 + 0 ≤ _), (by decide : 8 + 0 ≤ _)⟩)
  dsimp only [Pt.U, Pt.locs, Pt.cells, Pt.slots] at X33 l33 y33 z33 st33 hQ33
  subst l33 y33 z33
  obtain ⟨rfl, N33q, e33⟩ := hQ33
  have N33 := Fr.app N31 N33q
  obtain ⟨cl_139, Ar_139, q_139, S_139, N_139, H_139, G_139⟩ := id V_b4_at31
  have hin139 : ¬ ((3 : Int32) < 0 ∨ cl_139.slots.size ≤ ((3 : Int32)).toNatClampNeg) := inb_of S_139 ⟨by decide, by decide⟩
  obtain ⟨T34, h34, X34, e34, W34, st34⟩ := stJ X33 hx hZ e33 Ar_139 (j := (3 : Int32)) hin139 (g := (mkF m 139 #[.val (.ref r0), .val (.int p1), .val (.int p2), .val (.long q3), .second, .val (.int (3 : Int32))] [(.long ((own_word q3 (7 : Int64)) ||| (1 : Int64))), (.int (3 : Int32)), (.ref b4)])) rfl rfl (hb hby d1_139)
  have E_r0_at34 : Exa Z h34 r0 "com/example/gangleri/gangleri/generate/KroneckerGenerator" := E_r0_at31.wr W34
  have F_offsets_r0_at34 : Fld Z h34 r0 "com/example/gangleri/gangleri/generate/KroneckerGenerator" "offsets" "[J" (.ref b2) := F_offsets_r0_at31.other W34 (Or.inl ne_r0_b4)
  have F_multipliers_r0_at34 : Fld Z h34 r0 "com/example/gangleri/gangleri/generate/KroneckerGenerator" "multipliers" "[J" (.ref b4) := F_multipliers_r0_at31.other W34 (Or.inl ne_r0_b4)
  have F_scale_r0_at34 : Fld Z h34 r0 "com/example/gangleri/gangleri/generate/KroneckerGenerator" "scale" "I" (.int p1) := F_scale_r0_at31.other W34 (Or.inl ne_r0_b4)
  have F_degree_r0_at34 : Fld Z h34 r0 "com/example/gangleri/gangleri/generate/KroneckerGenerator" "degree" "I" (.int p2) := F_degree_r0_at31.other W34 (Or.inl ne_r0_b4)
  have F_seed_r0_at34 : Fld Z h34 r0 "com/example/gangleri/gangleri/generate/KroneckerGenerator" "seed" "J" (.long q3) := F_seed_r0_at31.other W34 (Or.inl ne_r0_b4)
  have F_halfScale_r0_at34 : Fld Z h34 r0 "com/example/gangleri/gangleri/generate/KroneckerGenerator" "halfScale" "I" (.int ((p1 + (1 : Int32)) / (2 : Int32))) := F_halfScale_r0_at31.other W34 (Or.inl ne_r0_b4)
  have F_idMask_r0_at34 : Fld Z h34 r0 "com/example/gangleri/gangleri/generate/KroneckerGenerator" "idMask" "J" (.long (((1 : Int64) <<< (p1 &&& 0x3f).toInt64) - (1 : Int64))) := F_idMask_r0_at31.other W34 (Or.inl ne_r0_b4)
  have V_b2_at34 : Arv Z h34 b2 k2 .long (4 : Int32) [(.long (own_word q3 (0 : Int64))), (.long (own_word q3 (2 : Int64))), (.long (own_word q3 (4 : Int64))), (.long (own_word q3 (6 : Int64)))] (.long (0 : Int64)) := V_b2_at31.other W34 ne_b2_b4
  have xV_b4_at34 := Arv.set Ar_139 q_139 S_139 N_139 H_139 G_139 rfl W34 3 rfl (Nat.le_of_ble_eq_true rfl)
  have V_b4_at34 : Arv Z h34 b4 k4 .long (4 : Int32) [(.long ((own_word q3 (1 : Int64)) ||| (1 : Int64))), (.long ((own_word q3 (3 : Int64)) ||| (1 : Int64))), (.long ((own_word q3 (5 : Int64)) ||| (1 : Int64))), (.long ((own_word q3 (7 : Int64)) ||| (1 : Int64)))] (.long (0 : Int64)) := xV_b4_at34
  have K34 : Keep h0 h34 [r0] := K31.wr W34 (Or.inr sz_b4)
  have Z34 : n0 ≤ h34.size := Nat.le_trans Z31 (Keep.of_wr W34).1
  have N34 := Fr.snoc X34 N33 g_b4
  obtain ⟨fs, hr, hrun, hended, hW, hsame⟩ := X34.leave (v := none) (fun _ => rfl)
  refine ⟨_, _, pre0 _ ?_, hrun, hended, _, _, rfl, ?_, ⟨_, rfl⟩, hW, hsame.mono (by decide) (by decide)⟩
  · show Steps p.tables e below (s₁.setTop (mkF m 0 #[.val (.ref r0), .val (.int p1), .val (.int p2), .val (.long q3), .second, .unset] [])) _
    refine XS.aloadN X0.here hx rfl (hb hby d1_0) rfl rfl ?_
    show Steps p.tables e below (s₁.setTop (mkF m 1 #[.val (.ref r0), .val (.int p1), .val (.int p2), .val (.long q3), .second, .unset] [(.ref r0)])) _
    refine st1 _ ?_
    show Steps p.tables e below (T1.setTop (mkF m 4 #[.val (.ref r0), .val (.int p1), .val (.int p2), .val (.long q3), .second, .unset] [])) _
    refine XS.aloadN X1.here hx rfl (hb hby d1_4) rfl rfl ?_
    show Steps p.tables e below (T1.setTop (mkF m 5 #[.val (.ref r0), .val (.int p1), .val (.int p2), .val (.long q3), .second, .unset] [(.ref r0)])) _
    refine XS.iconst X1.here hx rfl (hb hby d1_5) ?_
    show Steps p.tables e below (T1.setTop (mkF m 6 #[.val (.ref r0), .val (.int p1), .val (.int p2), .val (.long q3), .second, .unset] [(.int (4 : Int32)), (.ref r0)])) _
    refine st2 _ ?_
    show Steps p.tables e below (T2.setTop (mkF m 8 #[.val (.ref r0), .val (.int p1), .val (.int p2), .val (.long q3), .second, .unset] [(.ref b2), (.ref r0)])) _
    refine st3 _ ?_
    show Steps p.tables e below (T3.setTop (mkF m 11 #[.val (.ref r0), .val (.int p1), .val (.int p2), .val (.long q3), .second, .unset] [])) _
    refine XS.aloadN X3.here hx rfl (hb hby d1_11) rfl rfl ?_
    show Steps p.tables e below (T3.setTop (mkF m 12 #[.val (.ref r0), .val (.int p1), .val (.int p2), .val (.long q3), .second, .unset] [(.ref r0)])) _
    refine XS.iconst X3.here hx rfl (hb hby d1_12) ?_
    show Steps p.tables e below (T3.setTop (mkF m 13 #[.val (.ref r0), .val (.int p1), .val (.int p2), .val (.long q3), .second, .unset] [(.int (4 : Int32)), (.ref r0)])) _
    refine st4 _ ?_
    show Steps p.tables e below (T4.setTop (mkF m 15 #[.val (.ref r0), .val (.int p1), .val (.int p2), .val (.long q3), .second, .unset] [(.ref b4), (.ref r0)])) _
    refine st5 _ ?_
    show Steps p.tables e below (T5.setTop (mkF m 18 #[.val (.ref r0), .val (.int p1), .val (.int p2), .val (.long q3), .second, .unset] [])) _
    refine XS.iloadN X5.here hx rfl (hb hby d1_18) rfl ?_
    show Steps p.tables e below (T5.setTop (mkF m 19 #[.val (.ref r0), .val (.int p1), .val (.int p2), .val (.long q3), .second, .unset] [(.int p1)])) _
    refine XS.iconst X5.here hx rfl (hb hby d1_19) ?_
    show Steps p.tables e below (T5.setTop (mkF m 20 #[.val (.ref r0), .val (.int p1), .val (.int p2), .val (.long q3), .second, .unset] [(.int (1 : Int32)), (.int p1)])) _
    refine XS.icmpNo X5.here hx rfl (hb hby d1_20) rfl (flt hs1).1 ?_
    show Steps p.tables e below (T5.setTop (mkF m 23 #[.val (.ref r0), .val (.int p1), .val (.int p2), .val (.long q3), .second, .unset] [])) _
    refine XS.iloadN X5.here hx rfl (hb hby d1_23) rfl ?_
    show Steps p.tables e below (T5.setTop (mkF m 24 #[.val (.ref r0), .val (.int p1), .val (.int p2), .val (.long q3), .second, .unset] [(.int p1)])) _
    refine XS.bipush X5.here hx rfl (hb hby d1_24) ?_
    show Steps p.tables e below (T5.setTop (mkF m 26 #[.val (.ref r0), .val (.int p1), .val (.int p2), .val (.long q3), .second, .unset] [(.int (31 : Int32)), (.int p1)])) _
    refine XS.icmpYes X5.here hx rfl (pc0 := 26) (pc' := 43) rfl (hb hby d1_26) rfl (flt hs2).2.2.2 (by decide) (by decide) ?_
    show Steps p.tables e below (T5.setTop (mkF m 43 #[.val (.ref r0), .val (.int p1), .val (.int p2), .val (.long q3), .second, .unset] [])) _
    refine XS.iloadN X5.here hx rfl (hb hby d1_43) rfl ?_
    show Steps p.tables e below (T5.setTop (mkF m 44 #[.val (.ref r0), .val (.int p1), .val (.int p2), .val (.long q3), .second, .unset] [(.int p2)])) _
    refine XS.iconst X5.here hx rfl (hb hby d1_44) ?_
    show Steps p.tables e below (T5.setTop (mkF m 45 #[.val (.ref r0), .val (.int p1), .val (.int p2), .val (.long q3), .second, .unset] [(.int (1 : Int32)), (.int p2)])) _
    refine XS.icmpYes X5.here hx rfl (pc0 := 45) (pc' := 62) rfl (hb hby d1_45) rfl (flt hd1).2.1 (by decide) (by decide) ?_
    show Steps p.tables e below (T5.setTop (mkF m 62 #[.val (.ref r0), .val (.int p1), .val (.int p2), .val (.long q3), .second, .unset] [])) _
    refine XS.aloadN X5.here hx rfl (hb hby d1_62) rfl rfl ?_
    show Steps p.tables e below (T5.setTop (mkF m 63 #[.val (.ref r0), .val (.int p1), .val (.int p2), .val (.long q3), .second, .unset] [(.ref r0)])) _
    refine XS.iloadN X5.here hx rfl (hb hby d1_63) rfl ?_
    show Steps p.tables e below (T5.setTop (mkF m 64 #[.val (.ref r0), .val (.int p1), .val (.int p2), .val (.long q3), .second, .unset] [(.int p1), (.ref r0)])) _
    refine st6 _ ?_
    show Steps p.tables e below (T6.setTop (mkF m 67 #[.val (.ref r0), .val (.int p1), .val (.int p2), .val (.long q3), .second, .unset] [])) _
    refine XS.aloadN X6.here hx rfl (hb hby d1_67) rfl rfl ?_
    show Steps p.tables e below (T6.setTop (mkF m 68 #[.val (.ref r0), .val (.int p1), .val (.int p2), .val (.long q3), .second, .unset] [(.ref r0)])) _
    refine XS.iloadN X6.here hx rfl (hb hby d1_68) rfl ?_
    show Steps p.tables e below (T6.setTop (mkF m 69 #[.val (.ref r0), .val (.int p1), .val (.int p2), .val (.long q3), .second, .unset] [(.int p2), (.ref r0)])) _
    refine st7 _ ?_
    show Steps p.tables e below (T7.setTop (mkF m 72 #[.val (.ref r0), .val (.int p1), .val (.int p2), .val (.long q3), .second, .unset] [])) _
    refine XS.aloadN X7.here hx rfl (hb hby d1_72) rfl rfl ?_
    show Steps p.tables e below (T7.setTop (mkF m 73 #[.val (.ref r0), .val (.int p1), .val (.int p2), .val (.long q3), .second, .unset] [(.ref r0)])) _
    refine XS.lloadN X7.here hx rfl (hb hby d1_73) rfl ?_
    show Steps p.tables e below (T7.setTop (mkF m 74 #[.val (.ref r0), .val (.int p1), .val (.int p2), .val (.long q3), .second, .unset] [(.long q3), (.ref r0)])) _
    refine st8 _ ?_
    show Steps p.tables e below (T8.setTop (mkF m 77 #[.val (.ref r0), .val (.int p1), .val (.int p2), .val (.long q3), .second, .unset] [])) _
    refine XS.aloadN X8.here hx rfl (hb hby d1_77) rfl rfl ?_
    show Steps p.tables e below (T8.setTop (mkF m 78 #[.val (.ref r0), .val (.int p1), .val (.int p2), .val (.long q3), .second, .unset] [(.ref r0)])) _
    refine XS.iloadN X8.here hx rfl (hb hby d1_78) rfl ?_
    show Steps p.tables e below (T8.setTop (mkF m 79 #[.val (.ref r0), .val (.int p1), .val (.int p2), .val (.long q3), .second, .unset] [(.int p1), (.ref r0)])) _
    refine XS.iconst X8.here hx rfl (hb hby d1_79) ?_
    show Steps p.tables e below (T8.setTop (mkF m 80 #[.val (.ref r0), .val (.int p1), .val (.int p2), .val (.long q3), .second, .unset] [(.int (1 : Int32)), (.int p1), (.ref r0)])) _
    refine XS.iadd X8.here hx rfl (hb hby d1_80) rfl ?_
    show Steps p.tables e below (T8.setTop (mkF m 81 #[.val (.ref r0), .val (.int p1), .val (.int p2), .val (.long q3), .second, .unset] [(.int (p1 + (1 : Int32))), (.ref r0)])) _
    refine XS.iconst X8.here hx rfl (hb hby d1_81) ?_
    show Steps p.tables e below (T8.setTop (mkF m 82 #[.val (.ref r0), .val (.int p1), .val (.int p2), .val (.long q3), .second, .unset] [(.int (2 : Int32)), (.int (p1 + (1 : Int32))), (.ref r0)])) _
    refine XS.idiv X8.here hx rfl (hb hby d1_82) rfl (by decide) ?_
    show Steps p.tables e below (T8.setTop (mkF m 83 #[.val (.ref r0), .val (.int p1), .val (.int p2), .val (.long q3), .second, .unset] [(.int ((p1 + (1 : Int32)) / (2 : Int32))), (.ref r0)])) _
    refine st9 _ ?_
    show Steps p.tables e below (T9.setTop (mkF m 86 #[.val (.ref r0), .val (.int p1), .val (.int p2), .val (.long q3), .second, .unset] [])) _
    refine XS.aloadN X9.here hx rfl (hb hby d1_86) rfl rfl ?_
    show Steps p.tables e below (T9.setTop (mkF m 87 #[.val (.ref r0), .val (.int p1), .val (.int p2), .val (.long q3), .second, .unset] [(.ref r0)])) _
    refine XS.lconst X9.here hx rfl (hb hby d1_87) ?_
    show Steps p.tables e below (T9.setTop (mkF m 88 #[.val (.ref r0), .val (.int p1), .val (.int p2), .val (.long q3), .second, .unset] [(.long (1 : Int64)), (.ref r0)])) _
    refine XS.iloadN X9.here hx rfl (hb hby d1_88) rfl ?_
    show Steps p.tables e below (T9.setTop (mkF m 89 #[.val (.ref r0), .val (.int p1), .val (.int p2), .val (.long q3), .second, .unset] [(.int p1), (.long (1 : Int64)), (.ref r0)])) _
    refine XS.lshl X9.here hx rfl (hb hby d1_89) rfl ?_
    show Steps p.tables e below (T9.setTop (mkF m 90 #[.val (.ref r0), .val (.int p1), .val (.int p2), .val (.long q3), .second, .unset] [(.long ((1 : Int64) <<< (p1 &&& 0x3f).toInt64)), (.ref r0)])) _
    refine XS.lconst X9.here hx rfl (hb hby d1_90) ?_
    show Steps p.tables e below (T9.setTop (mkF m 91 #[.val (.ref r0), .val (.int p1), .val (.int p2), .val (.long q3), .second, .unset] [(.long (1 : Int64)), (.long ((1 : Int64) <<< (p1 &&& 0x3f).toInt64)), (.ref r0)])) _
    refine XS.lsub X9.here hx rfl (hb hby d1_91) rfl ?_
    show Steps p.tables e below (T9.setTop (mkF m 92 #[.val (.ref r0), .val (.int p1), .val (.int p2), .val (.long q3), .second, .unset] [(.long (((1 : Int64) <<< (p1 &&& 0x3f).toInt64) - (1 : Int64))), (.ref r0)])) _
    refine st10 _ ?_
    show Steps p.tables e below (T10.setTop (mkF m 95 #[.val (.ref r0), .val (.int p1), .val (.int p2), .val (.long q3), .second, .unset] [])) _
    refine XS.iconst X10.here hx rfl (hb hby d1_95) ?_
    show Steps p.tables e below (T10.setTop (mkF m 96 #[.val (.ref r0), .val (.int p1), .val (.int p2), .val (.long q3), .second, .unset] [(.int (0 : Int32))])) _
    refine XS.istore X10.here hx rfl (hb hby d1_96) rfl (l' := #[.val (.ref r0), .val (.int p1), .val (.int p2), .val (.long q3), .second, .val (.int (0 : Int32))]) rfl ?_
    show Steps p.tables e below (T10.setTop (mkF m 98 #[.val (.ref r0), .val (.int p1), .val (.int p2), .val (.long q3), .second, .val (.int (0 : Int32))] [])) _
    refine XS.iload X10.here hx rfl (hb hby d1_98) rfl ?_
    show Steps p.tables e below (T10.setTop (mkF m 100 #[.val (.ref r0), .val (.int p1), .val (.int p2), .val (.long q3), .second, .val (.int (0 : Int32))] [(.int (0 : Int32))])) _
    refine XS.iconst X10.here hx rfl (hb hby d1_100) ?_
    show Steps p.tables e below (T10.setTop (mkF m 101 #[.val (.ref r0), .val (.int p1), .val (.int p2), .val (.long q3), .second, .val (.int (0 : Int32))] [(.int (4 : Int32)), (.int (0 : Int32))])) _
    refine XS.icmpNo X10.here hx rfl (hb hby d1_101) rfl (tlt (by decide : (0 : Int32) < (4 : Int32))).2.1 ?_
    show Steps p.tables e below (T10.setTop (mkF m 104 #[.val (.ref r0), .val (.int p1), .val (.int p2), .val (.long q3), .second, .val (.int (0 : Int32))] [])) _
    refine XS.aloadN X10.here hx rfl (hb hby d1_104) rfl rfl ?_
    show Steps p.tables e below (T10.setTop (mkF m 105 #[.val (.ref r0), .val (.int p1), .val (.int p2), .val (.long q3), .second, .val (.int (0 : Int32))] [(.ref r0)])) _
    refine st11 _ ?_
    show Steps p.tables e below (T11.setTop (mkF m 108 #[.val (.ref r0), .val (.int p1), .val (.int p2), .val (.long q3), .second, .val (.int (0 : Int32))] [(.ref b2)])) _
    refine XS.iload X11.here hx rfl (hb hby d1_108) rfl ?_
    show Steps p.tables e below (T11.setTop (mkF m 110 #[.val (.ref r0), .val (.int p1), .val (.int p2), .val (.long q3), .second, .val (.int (0 : Int32))] [(.int (0 : Int32)), (.ref b2)])) _
    refine XS.aloadN X11.here hx rfl (hb hby d1_110) rfl rfl ?_
    show Steps p.tables e below (T11.setTop (mkF m 111 #[.val (.ref r0), .val (.int p1), .val (.int p2), .val (.long q3), .second, .val (.int (0 : Int32))] [(.ref r0), (.int (0 : Int32)), (.ref b2)])) _
    refine XS.iconst X11.here hx rfl (hb hby d1_111) ?_
    show Steps p.tables e below (T11.setTop (mkF m 112 #[.val (.ref r0), .val (.int p1), .val (.int p2), .val (.long q3), .second, .val (.int (0 : Int32))] [(.int (2 : Int32)), (.ref r0), (.int (0 : Int32)), (.ref b2)])) _
    refine XS.iload X11.here hx rfl (hb hby d1_112) rfl ?_
    show Steps p.tables e below (T11.setTop (mkF m 114 #[.val (.ref r0), .val (.int p1), .val (.int p2), .val (.long q3), .second, .val (.int (0 : Int32))] [(.int (0 : Int32)), (.int (2 : Int32)), (.ref r0), (.int (0 : Int32)), (.ref b2)])) _
    refine XS.imul X11.here hx rfl (hb hby d1_114) rfl ?_
    show Steps p.tables e below (T11.setTop (mkF m 115 #[.val (.ref r0), .val (.int p1), .val (.int p2), .val (.long q3), .second, .val (.int (0 : Int32))] [(.int (0 : Int32)), (.ref r0), (.int (0 : Int32)), (.ref b2)])) _
    refine XS.i2l X11.here hx rfl (hb hby d1_115) rfl ?_
    show Steps p.tables e below (T11.setTop (mkF m 116 #[.val (.ref r0), .val (.int p1), .val (.int p2), .val (.long q3), .second, .val (.int (0 : Int32))] [(.long (0 : Int64)), (.ref r0), (.int (0 : Int32)), (.ref b2)])) _
    refine st12.trans ?_
    show Steps p.tables e below (T12.setTop (mkF m 119 #[.val (.ref r0), .val (.int p1), .val (.int p2), .val (.long q3), .second, .val (.int (0 : Int32))] [(.long (own_word q3 (0 : Int64))), (.int (0 : Int32)), (.ref b2)])) _
    refine st13 _ ?_
    show Steps p.tables e below (T13.setTop (mkF m 120 #[.val (.ref r0), .val (.int p1), .val (.int p2), .val (.long q3), .second, .val (.int (0 : Int32))] [])) _
    refine XS.aloadN X13.here hx rfl (hb hby d1_120) rfl rfl ?_
    show Steps p.tables e below (T13.setTop (mkF m 121 #[.val (.ref r0), .val (.int p1), .val (.int p2), .val (.long q3), .second, .val (.int (0 : Int32))] [(.ref r0)])) _
    refine st14 _ ?_
    show Steps p.tables e below (T14.setTop (mkF m 124 #[.val (.ref r0), .val (.int p1), .val (.int p2), .val (.long q3), .second, .val (.int (0 : Int32))] [(.ref b4)])) _
    refine XS.iload X14.here hx rfl (hb hby d1_124) rfl ?_
    show Steps p.tables e below (T14.setTop (mkF m 126 #[.val (.ref r0), .val (.int p1), .val (.int p2), .val (.long q3), .second, .val (.int (0 : Int32))] [(.int (0 : Int32)), (.ref b4)])) _
    refine XS.aloadN X14.here hx rfl (hb hby d1_126) rfl rfl ?_
    show Steps p.tables e below (T14.setTop (mkF m 127 #[.val (.ref r0), .val (.int p1), .val (.int p2), .val (.long q3), .second, .val (.int (0 : Int32))] [(.ref r0), (.int (0 : Int32)), (.ref b4)])) _
    refine XS.iconst X14.here hx rfl (hb hby d1_127) ?_
    show Steps p.tables e below (T14.setTop (mkF m 128 #[.val (.ref r0), .val (.int p1), .val (.int p2), .val (.long q3), .second, .val (.int (0 : Int32))] [(.int (2 : Int32)), (.ref r0), (.int (0 : Int32)), (.ref b4)])) _
    refine XS.iload X14.here hx rfl (hb hby d1_128) rfl ?_
    show Steps p.tables e below (T14.setTop (mkF m 130 #[.val (.ref r0), .val (.int p1), .val (.int p2), .val (.long q3), .second, .val (.int (0 : Int32))] [(.int (0 : Int32)), (.int (2 : Int32)), (.ref r0), (.int (0 : Int32)), (.ref b4)])) _
    refine XS.imul X14.here hx rfl (hb hby d1_130) rfl ?_
    show Steps p.tables e below (T14.setTop (mkF m 131 #[.val (.ref r0), .val (.int p1), .val (.int p2), .val (.long q3), .second, .val (.int (0 : Int32))] [(.int (0 : Int32)), (.ref r0), (.int (0 : Int32)), (.ref b4)])) _
    refine XS.iconst X14.here hx rfl (hb hby d1_131) ?_
    show Steps p.tables e below (T14.setTop (mkF m 132 #[.val (.ref r0), .val (.int p1), .val (.int p2), .val (.long q3), .second, .val (.int (0 : Int32))] [(.int (1 : Int32)), (.int (0 : Int32)), (.ref r0), (.int (0 : Int32)), (.ref b4)])) _
    refine XS.iadd X14.here hx rfl (hb hby d1_132) rfl ?_
    show Steps p.tables e below (T14.setTop (mkF m 133 #[.val (.ref r0), .val (.int p1), .val (.int p2), .val (.long q3), .second, .val (.int (0 : Int32))] [(.int (1 : Int32)), (.ref r0), (.int (0 : Int32)), (.ref b4)])) _
    refine XS.i2l X14.here hx rfl (hb hby d1_133) rfl ?_
    show Steps p.tables e below (T14.setTop (mkF m 134 #[.val (.ref r0), .val (.int p1), .val (.int p2), .val (.long q3), .second, .val (.int (0 : Int32))] [(.long (1 : Int64)), (.ref r0), (.int (0 : Int32)), (.ref b4)])) _
    refine st15.trans ?_
    show Steps p.tables e below (T15.setTop (mkF m 137 #[.val (.ref r0), .val (.int p1), .val (.int p2), .val (.long q3), .second, .val (.int (0 : Int32))] [(.long (own_word q3 (1 : Int64))), (.int (0 : Int32)), (.ref b4)])) _
    refine XS.lconst X15.here hx rfl (hb hby d1_137) ?_
    show Steps p.tables e below (T15.setTop (mkF m 138 #[.val (.ref r0), .val (.int p1), .val (.int p2), .val (.long q3), .second, .val (.int (0 : Int32))] [(.long (1 : Int64)), (.long (own_word q3 (1 : Int64))), (.int (0 : Int32)), (.ref b4)])) _
    refine XS.lor X15.here hx rfl (hb hby d1_138) rfl ?_
    show Steps p.tables e below (T15.setTop (mkF m 139 #[.val (.ref r0), .val (.int p1), .val (.int p2), .val (.long q3), .second, .val (.int (0 : Int32))] [(.long ((own_word q3 (1 : Int64)) ||| (1 : Int64))), (.int (0 : Int32)), (.ref b4)])) _
    refine st16 _ ?_
    show Steps p.tables e below (T16.setTop (mkF m 140 #[.val (.ref r0), .val (.int p1), .val (.int p2), .val (.long q3), .second, .val (.int (0 : Int32))] [])) _
    refine XS.iinc X16.here hx rfl (hb hby d1_140) rfl (l' := #[.val (.ref r0), .val (.int p1), .val (.int p2), .val (.long q3), .second, .val (.int (1 : Int32))]) rfl ?_
    show Steps p.tables e below (T16.setTop (mkF m 143 #[.val (.ref r0), .val (.int p1), .val (.int p2), .val (.long q3), .second, .val (.int (1 : Int32))] [])) _
    refine XS.goto X16.here hx rfl (pc0 := 143) (pc' := 98) rfl (hb hby d1_143) (by decide) (by decide) ?_
    show Steps p.tables e below (T16.setTop (mkF m 98 #[.val (.ref r0), .val (.int p1), .val (.int p2), .val (.long q3), .second, .val (.int (1 : Int32))] [])) _
    refine XS.iload X16.here hx rfl (hb hby d1_98) rfl ?_
    show Steps p.tables e below (T16.setTop (mkF m 100 #[.val (.ref r0), .val (.int p1), .val (.int p2), .val (.long q3), .second, .val (.int (1 : Int32))] [(.int (1 : Int32))])) _
    refine XS.iconst X16.here hx rfl (hb hby d1_100) ?_
    show Steps p.tables e below (T16.setTop (mkF m 101 #[.val (.ref r0), .val (.int p1), .val (.int p2), .val (.long q3), .second, .val (.int (1 : Int32))] [(.int (4 : Int32)), (.int (1 : Int32))])) _
    refine XS.icmpNo X16.here hx rfl (hb hby d1_101) rfl (tlt (by decide : (1 : Int32) < (4 : Int32))).2.1 ?_
    show Steps p.tables e below (T16.setTop (mkF m 104 #[.val (.ref r0), .val (.int p1), .val (.int p2), .val (.long q3), .second, .val (.int (1 : Int32))] [])) _
    refine XS.aloadN X16.here hx rfl (hb hby d1_104) rfl rfl ?_
    show Steps p.tables e below (T16.setTop (mkF m 105 #[.val (.ref r0), .val (.int p1), .val (.int p2), .val (.long q3), .second, .val (.int (1 : Int32))] [(.ref r0)])) _
    refine st17 _ ?_
    show Steps p.tables e below (T17.setTop (mkF m 108 #[.val (.ref r0), .val (.int p1), .val (.int p2), .val (.long q3), .second, .val (.int (1 : Int32))] [(.ref b2)])) _
    refine XS.iload X17.here hx rfl (hb hby d1_108) rfl ?_
    show Steps p.tables e below (T17.setTop (mkF m 110 #[.val (.ref r0), .val (.int p1), .val (.int p2), .val (.long q3), .second, .val (.int (1 : Int32))] [(.int (1 : Int32)), (.ref b2)])) _
    refine XS.aloadN X17.here hx rfl (hb hby d1_110) rfl rfl ?_
    show Steps p.tables e below (T17.setTop (mkF m 111 #[.val (.ref r0), .val (.int p1), .val (.int p2), .val (.long q3), .second, .val (.int (1 : Int32))] [(.ref r0), (.int (1 : Int32)), (.ref b2)])) _
    refine XS.iconst X17.here hx rfl (hb hby d1_111) ?_
    show Steps p.tables e below (T17.setTop (mkF m 112 #[.val (.ref r0), .val (.int p1), .val (.int p2), .val (.long q3), .second, .val (.int (1 : Int32))] [(.int (2 : Int32)), (.ref r0), (.int (1 : Int32)), (.ref b2)])) _
    refine XS.iload X17.here hx rfl (hb hby d1_112) rfl ?_
    show Steps p.tables e below (T17.setTop (mkF m 114 #[.val (.ref r0), .val (.int p1), .val (.int p2), .val (.long q3), .second, .val (.int (1 : Int32))] [(.int (1 : Int32)), (.int (2 : Int32)), (.ref r0), (.int (1 : Int32)), (.ref b2)])) _
    refine XS.imul X17.here hx rfl (hb hby d1_114) rfl ?_
    show Steps p.tables e below (T17.setTop (mkF m 115 #[.val (.ref r0), .val (.int p1), .val (.int p2), .val (.long q3), .second, .val (.int (1 : Int32))] [(.int (2 : Int32)), (.ref r0), (.int (1 : Int32)), (.ref b2)])) _
    refine XS.i2l X17.here hx rfl (hb hby d1_115) rfl ?_
    show Steps p.tables e below (T17.setTop (mkF m 116 #[.val (.ref r0), .val (.int p1), .val (.int p2), .val (.long q3), .second, .val (.int (1 : Int32))] [(.long (2 : Int64)), (.ref r0), (.int (1 : Int32)), (.ref b2)])) _
    refine st18.trans ?_
    show Steps p.tables e below (T18.setTop (mkF m 119 #[.val (.ref r0), .val (.int p1), .val (.int p2), .val (.long q3), .second, .val (.int (1 : Int32))] [(.long (own_word q3 (2 : Int64))), (.int (1 : Int32)), (.ref b2)])) _
    refine st19 _ ?_
    show Steps p.tables e below (T19.setTop (mkF m 120 #[.val (.ref r0), .val (.int p1), .val (.int p2), .val (.long q3), .second, .val (.int (1 : Int32))] [])) _
    refine XS.aloadN X19.here hx rfl (hb hby d1_120) rfl rfl ?_
    show Steps p.tables e below (T19.setTop (mkF m 121 #[.val (.ref r0), .val (.int p1), .val (.int p2), .val (.long q3), .second, .val (.int (1 : Int32))] [(.ref r0)])) _
    refine st20 _ ?_
    show Steps p.tables e below (T20.setTop (mkF m 124 #[.val (.ref r0), .val (.int p1), .val (.int p2), .val (.long q3), .second, .val (.int (1 : Int32))] [(.ref b4)])) _
    refine XS.iload X20.here hx rfl (hb hby d1_124) rfl ?_
    show Steps p.tables e below (T20.setTop (mkF m 126 #[.val (.ref r0), .val (.int p1), .val (.int p2), .val (.long q3), .second, .val (.int (1 : Int32))] [(.int (1 : Int32)), (.ref b4)])) _
    refine XS.aloadN X20.here hx rfl (hb hby d1_126) rfl rfl ?_
    show Steps p.tables e below (T20.setTop (mkF m 127 #[.val (.ref r0), .val (.int p1), .val (.int p2), .val (.long q3), .second, .val (.int (1 : Int32))] [(.ref r0), (.int (1 : Int32)), (.ref b4)])) _
    refine XS.iconst X20.here hx rfl (hb hby d1_127) ?_
    show Steps p.tables e below (T20.setTop (mkF m 128 #[.val (.ref r0), .val (.int p1), .val (.int p2), .val (.long q3), .second, .val (.int (1 : Int32))] [(.int (2 : Int32)), (.ref r0), (.int (1 : Int32)), (.ref b4)])) _
    refine XS.iload X20.here hx rfl (hb hby d1_128) rfl ?_
    show Steps p.tables e below (T20.setTop (mkF m 130 #[.val (.ref r0), .val (.int p1), .val (.int p2), .val (.long q3), .second, .val (.int (1 : Int32))] [(.int (1 : Int32)), (.int (2 : Int32)), (.ref r0), (.int (1 : Int32)), (.ref b4)])) _
    refine XS.imul X20.here hx rfl (hb hby d1_130) rfl ?_
    show Steps p.tables e below (T20.setTop (mkF m 131 #[.val (.ref r0), .val (.int p1), .val (.int p2), .val (.long q3), .second, .val (.int (1 : Int32))] [(.int (2 : Int32)), (.ref r0), (.int (1 : Int32)), (.ref b4)])) _
    refine XS.iconst X20.here hx rfl (hb hby d1_131) ?_
    show Steps p.tables e below (T20.setTop (mkF m 132 #[.val (.ref r0), .val (.int p1), .val (.int p2), .val (.long q3), .second, .val (.int (1 : Int32))] [(.int (1 : Int32)), (.int (2 : Int32)), (.ref r0), (.int (1 : Int32)), (.ref b4)])) _
    refine XS.iadd X20.here hx rfl (hb hby d1_132) rfl ?_
    show Steps p.tables e below (T20.setTop (mkF m 133 #[.val (.ref r0), .val (.int p1), .val (.int p2), .val (.long q3), .second, .val (.int (1 : Int32))] [(.int (3 : Int32)), (.ref r0), (.int (1 : Int32)), (.ref b4)])) _
    refine XS.i2l X20.here hx rfl (hb hby d1_133) rfl ?_
    show Steps p.tables e below (T20.setTop (mkF m 134 #[.val (.ref r0), .val (.int p1), .val (.int p2), .val (.long q3), .second, .val (.int (1 : Int32))] [(.long (3 : Int64)), (.ref r0), (.int (1 : Int32)), (.ref b4)])) _
    refine st21.trans ?_
    show Steps p.tables e below (T21.setTop (mkF m 137 #[.val (.ref r0), .val (.int p1), .val (.int p2), .val (.long q3), .second, .val (.int (1 : Int32))] [(.long (own_word q3 (3 : Int64))), (.int (1 : Int32)), (.ref b4)])) _
    refine XS.lconst X21.here hx rfl (hb hby d1_137) ?_
    show Steps p.tables e below (T21.setTop (mkF m 138 #[.val (.ref r0), .val (.int p1), .val (.int p2), .val (.long q3), .second, .val (.int (1 : Int32))] [(.long (1 : Int64)), (.long (own_word q3 (3 : Int64))), (.int (1 : Int32)), (.ref b4)])) _
    refine XS.lor X21.here hx rfl (hb hby d1_138) rfl ?_
    show Steps p.tables e below (T21.setTop (mkF m 139 #[.val (.ref r0), .val (.int p1), .val (.int p2), .val (.long q3), .second, .val (.int (1 : Int32))] [(.long ((own_word q3 (3 : Int64)) ||| (1 : Int64))), (.int (1 : Int32)), (.ref b4)])) _
    refine st22 _ ?_
    show Steps p.tables e below (T22.setTop (mkF m 140 #[.val (.ref r0), .val (.int p1), .val (.int p2), .val (.long q3), .second, .val (.int (1 : Int32))] [])) _
    refine XS.iinc X22.here hx rfl (hb hby d1_140) rfl (l' := #[.val (.ref r0), .val (.int p1), .val (.int p2), .val (.long q3), .second, .val (.int (2 : Int32))]) rfl ?_
    show Steps p.tables e below (T22.setTop (mkF m 143 #[.val (.ref r0), .val (.int p1), .val (.int p2), .val (.long q3), .second, .val (.int (2 : Int32))] [])) _
    refine XS.goto X22.here hx rfl (pc0 := 143) (pc' := 98) rfl (hb hby d1_143) (by decide) (by decide) ?_
    show Steps p.tables e below (T22.setTop (mkF m 98 #[.val (.ref r0), .val (.int p1), .val (.int p2), .val (.long q3), .second, .val (.int (2 : Int32))] [])) _
    refine XS.iload X22.here hx rfl (hb hby d1_98) rfl ?_
    show Steps p.tables e below (T22.setTop (mkF m 100 #[.val (.ref r0), .val (.int p1), .val (.int p2), .val (.long q3), .second, .val (.int (2 : Int32))] [(.int (2 : Int32))])) _
    refine XS.iconst X22.here hx rfl (hb hby d1_100) ?_
    show Steps p.tables e below (T22.setTop (mkF m 101 #[.val (.ref r0), .val (.int p1), .val (.int p2), .val (.long q3), .second, .val (.int (2 : Int32))] [(.int (4 : Int32)), (.int (2 : Int32))])) _
    refine XS.icmpNo X22.here hx rfl (hb hby d1_101) rfl (tlt (by decide : (2 : Int32) < (4 : Int32))).2.1 ?_
    show Steps p.tables e below (T22.setTop (mkF m 104 #[.val (.ref r0), .val (.int p1), .val (.int p2), .val (.long q3), .second, .val (.int (2 : Int32))] [])) _
    refine XS.aloadN X22.here hx rfl (hb hby d1_104) rfl rfl ?_
    show Steps p.tables e below (T22.setTop (mkF m 105 #[.val (.ref r0), .val (.int p1), .val (.int p2), .val (.long q3), .second, .val (.int (2 : Int32))] [(.ref r0)])) _
    refine st23 _ ?_
    show Steps p.tables e below (T23.setTop (mkF m 108 #[.val (.ref r0), .val (.int p1), .val (.int p2), .val (.long q3), .second, .val (.int (2 : Int32))] [(.ref b2)])) _
    refine XS.iload X23.here hx rfl (hb hby d1_108) rfl ?_
    show Steps p.tables e below (T23.setTop (mkF m 110 #[.val (.ref r0), .val (.int p1), .val (.int p2), .val (.long q3), .second, .val (.int (2 : Int32))] [(.int (2 : Int32)), (.ref b2)])) _
    refine XS.aloadN X23.here hx rfl (hb hby d1_110) rfl rfl ?_
    show Steps p.tables e below (T23.setTop (mkF m 111 #[.val (.ref r0), .val (.int p1), .val (.int p2), .val (.long q3), .second, .val (.int (2 : Int32))] [(.ref r0), (.int (2 : Int32)), (.ref b2)])) _
    refine XS.iconst X23.here hx rfl (hb hby d1_111) ?_
    show Steps p.tables e below (T23.setTop (mkF m 112 #[.val (.ref r0), .val (.int p1), .val (.int p2), .val (.long q3), .second, .val (.int (2 : Int32))] [(.int (2 : Int32)), (.ref r0), (.int (2 : Int32)), (.ref b2)])) _
    refine XS.iload X23.here hx rfl (hb hby d1_112) rfl ?_
    show Steps p.tables e below (T23.setTop (mkF m 114 #[.val (.ref r0), .val (.int p1), .val (.int p2), .val (.long q3), .second, .val (.int (2 : Int32))] [(.int (2 : Int32)), (.int (2 : Int32)), (.ref r0), (.int (2 : Int32)), (.ref b2)])) _
    refine XS.imul X23.here hx rfl (hb hby d1_114) rfl ?_
    show Steps p.tables e below (T23.setTop (mkF m 115 #[.val (.ref r0), .val (.int p1), .val (.int p2), .val (.long q3), .second, .val (.int (2 : Int32))] [(.int (4 : Int32)), (.ref r0), (.int (2 : Int32)), (.ref b2)])) _
    refine XS.i2l X23.here hx rfl (hb hby d1_115) rfl ?_
    show Steps p.tables e below (T23.setTop (mkF m 116 #[.val (.ref r0), .val (.int p1), .val (.int p2), .val (.long q3), .second, .val (.int (2 : Int32))] [(.long (4 : Int64)), (.ref r0), (.int (2 : Int32)), (.ref b2)])) _
    refine st24.trans ?_
    show Steps p.tables e below (T24.setTop (mkF m 119 #[.val (.ref r0), .val (.int p1), .val (.int p2), .val (.long q3), .second, .val (.int (2 : Int32))] [(.long (own_word q3 (4 : Int64))), (.int (2 : Int32)), (.ref b2)])) _
    refine st25 _ ?_
    show Steps p.tables e below (T25.setTop (mkF m 120 #[.val (.ref r0), .val (.int p1), .val (.int p2), .val (.long q3), .second, .val (.int (2 : Int32))] [])) _
    refine XS.aloadN X25.here hx rfl (hb hby d1_120) rfl rfl ?_
    show Steps p.tables e below (T25.setTop (mkF m 121 #[.val (.ref r0), .val (.int p1), .val (.int p2), .val (.long q3), .second, .val (.int (2 : Int32))] [(.ref r0)])) _
    refine st26 _ ?_
    show Steps p.tables e below (T26.setTop (mkF m 124 #[.val (.ref r0), .val (.int p1), .val (.int p2), .val (.long q3), .second, .val (.int (2 : Int32))] [(.ref b4)])) _
    refine XS.iload X26.here hx rfl (hb hby d1_124) rfl ?_
    show Steps p.tables e below (T26.setTop (mkF m 126 #[.val (.ref r0), .val (.int p1), .val (.int p2), .val (.long q3), .second, .val (.int (2 : Int32))] [(.int (2 : Int32)), (.ref b4)])) _
    refine XS.aloadN X26.here hx rfl (hb hby d1_126) rfl rfl ?_
    show Steps p.tables e below (T26.setTop (mkF m 127 #[.val (.ref r0), .val (.int p1), .val (.int p2), .val (.long q3), .second, .val (.int (2 : Int32))] [(.ref r0), (.int (2 : Int32)), (.ref b4)])) _
    refine XS.iconst X26.here hx rfl (hb hby d1_127) ?_
    show Steps p.tables e below (T26.setTop (mkF m 128 #[.val (.ref r0), .val (.int p1), .val (.int p2), .val (.long q3), .second, .val (.int (2 : Int32))] [(.int (2 : Int32)), (.ref r0), (.int (2 : Int32)), (.ref b4)])) _
    refine XS.iload X26.here hx rfl (hb hby d1_128) rfl ?_
    show Steps p.tables e below (T26.setTop (mkF m 130 #[.val (.ref r0), .val (.int p1), .val (.int p2), .val (.long q3), .second, .val (.int (2 : Int32))] [(.int (2 : Int32)), (.int (2 : Int32)), (.ref r0), (.int (2 : Int32)), (.ref b4)])) _
    refine XS.imul X26.here hx rfl (hb hby d1_130) rfl ?_
    show Steps p.tables e below (T26.setTop (mkF m 131 #[.val (.ref r0), .val (.int p1), .val (.int p2), .val (.long q3), .second, .val (.int (2 : Int32))] [(.int (4 : Int32)), (.ref r0), (.int (2 : Int32)), (.ref b4)])) _
    refine XS.iconst X26.here hx rfl (hb hby d1_131) ?_
    show Steps p.tables e below (T26.setTop (mkF m 132 #[.val (.ref r0), .val (.int p1), .val (.int p2), .val (.long q3), .second, .val (.int (2 : Int32))] [(.int (1 : Int32)), (.int (4 : Int32)), (.ref r0), (.int (2 : Int32)), (.ref b4)])) _
    refine XS.iadd X26.here hx rfl (hb hby d1_132) rfl ?_
    show Steps p.tables e below (T26.setTop (mkF m 133 #[.val (.ref r0), .val (.int p1), .val (.int p2), .val (.long q3), .second, .val (.int (2 : Int32))] [(.int (5 : Int32)), (.ref r0), (.int (2 : Int32)), (.ref b4)])) _
    refine XS.i2l X26.here hx rfl (hb hby d1_133) rfl ?_
    show Steps p.tables e below (T26.setTop (mkF m 134 #[.val (.ref r0), .val (.int p1), .val (.int p2), .val (.long q3), .second, .val (.int (2 : Int32))] [(.long (5 : Int64)), (.ref r0), (.int (2 : Int32)), (.ref b4)])) _
    refine st27.trans ?_
    show Steps p.tables e below (T27.setTop (mkF m 137 #[.val (.ref r0), .val (.int p1), .val (.int p2), .val (.long q3), .second, .val (.int (2 : Int32))] [(.long (own_word q3 (5 : Int64))), (.int (2 : Int32)), (.ref b4)])) _
    refine XS.lconst X27.here hx rfl (hb hby d1_137) ?_
    show Steps p.tables e below (T27.setTop (mkF m 138 #[.val (.ref r0), .val (.int p1), .val (.int p2), .val (.long q3), .second, .val (.int (2 : Int32))] [(.long (1 : Int64)), (.long (own_word q3 (5 : Int64))), (.int (2 : Int32)), (.ref b4)])) _
    refine XS.lor X27.here hx rfl (hb hby d1_138) rfl ?_
    show Steps p.tables e below (T27.setTop (mkF m 139 #[.val (.ref r0), .val (.int p1), .val (.int p2), .val (.long q3), .second, .val (.int (2 : Int32))] [(.long ((own_word q3 (5 : Int64)) ||| (1 : Int64))), (.int (2 : Int32)), (.ref b4)])) _
    refine st28 _ ?_
    show Steps p.tables e below (T28.setTop (mkF m 140 #[.val (.ref r0), .val (.int p1), .val (.int p2), .val (.long q3), .second, .val (.int (2 : Int32))] [])) _
    refine XS.iinc X28.here hx rfl (hb hby d1_140) rfl (l' := #[.val (.ref r0), .val (.int p1), .val (.int p2), .val (.long q3), .second, .val (.int (3 : Int32))]) rfl ?_
    show Steps p.tables e below (T28.setTop (mkF m 143 #[.val (.ref r0), .val (.int p1), .val (.int p2), .val (.long q3), .second, .val (.int (3 : Int32))] [])) _
    refine XS.goto X28.here hx rfl (pc0 := 143) (pc' := 98) rfl (hb hby d1_143) (by decide) (by decide) ?_
    show Steps p.tables e below (T28.setTop (mkF m 98 #[.val (.ref r0), .val (.int p1), .val (.int p2), .val (.long q3), .second, .val (.int (3 : Int32))] [])) _
    refine XS.iload X28.here hx rfl (hb hby d1_98) rfl ?_
    show Steps p.tables e below (T28.setTop (mkF m 100 #[.val (.ref r0), .val (.int p1), .val (.int p2), .val (.long q3), .second, .val (.int (3 : Int32))] [(.int (3 : Int32))])) _
    refine XS.iconst X28.here hx rfl (hb hby d1_100) ?_
    show Steps p.tables e below (T28.setTop (mkF m 101 #[.val (.ref r0), .val (.int p1), .val (.int p2), .val (.long q3), .second, .val (.int (3 : Int32))] [(.int (4 : Int32)), (.int (3 : Int32))])) _
    refine XS.icmpNo X28.here hx rfl (hb hby d1_101) rfl (tlt (by decide : (3 : Int32) < (4 : Int32))).2.1 ?_
    show Steps p.tables e below (T28.setTop (mkF m 104 #[.val (.ref r0), .val (.int p1), .val (.int p2), .val (.long q3), .second, .val (.int (3 : Int32))] [])) _
    refine XS.aloadN X28.here hx rfl (hb hby d1_104) rfl rfl ?_
    show Steps p.tables e below (T28.setTop (mkF m 105 #[.val (.ref r0), .val (.int p1), .val (.int p2), .val (.long q3), .second, .val (.int (3 : Int32))] [(.ref r0)])) _
    refine st29 _ ?_
    show Steps p.tables e below (T29.setTop (mkF m 108 #[.val (.ref r0), .val (.int p1), .val (.int p2), .val (.long q3), .second, .val (.int (3 : Int32))] [(.ref b2)])) _
    refine XS.iload X29.here hx rfl (hb hby d1_108) rfl ?_
    show Steps p.tables e below (T29.setTop (mkF m 110 #[.val (.ref r0), .val (.int p1), .val (.int p2), .val (.long q3), .second, .val (.int (3 : Int32))] [(.int (3 : Int32)), (.ref b2)])) _
    refine XS.aloadN X29.here hx rfl (hb hby d1_110) rfl rfl ?_
    show Steps p.tables e below (T29.setTop (mkF m 111 #[.val (.ref r0), .val (.int p1), .val (.int p2), .val (.long q3), .second, .val (.int (3 : Int32))] [(.ref r0), (.int (3 : Int32)), (.ref b2)])) _
    refine XS.iconst X29.here hx rfl (hb hby d1_111) ?_
    show Steps p.tables e below (T29.setTop (mkF m 112 #[.val (.ref r0), .val (.int p1), .val (.int p2), .val (.long q3), .second, .val (.int (3 : Int32))] [(.int (2 : Int32)), (.ref r0), (.int (3 : Int32)), (.ref b2)])) _
    refine XS.iload X29.here hx rfl (hb hby d1_112) rfl ?_
    show Steps p.tables e below (T29.setTop (mkF m 114 #[.val (.ref r0), .val (.int p1), .val (.int p2), .val (.long q3), .second, .val (.int (3 : Int32))] [(.int (3 : Int32)), (.int (2 : Int32)), (.ref r0), (.int (3 : Int32)), (.ref b2)])) _
    refine XS.imul X29.here hx rfl (hb hby d1_114) rfl ?_
    show Steps p.tables e below (T29.setTop (mkF m 115 #[.val (.ref r0), .val (.int p1), .val (.int p2), .val (.long q3), .second, .val (.int (3 : Int32))] [(.int (6 : Int32)), (.ref r0), (.int (3 : Int32)), (.ref b2)])) _
    refine XS.i2l X29.here hx rfl (hb hby d1_115) rfl ?_
    show Steps p.tables e below (T29.setTop (mkF m 116 #[.val (.ref r0), .val (.int p1), .val (.int p2), .val (.long q3), .second, .val (.int (3 : Int32))] [(.long (6 : Int64)), (.ref r0), (.int (3 : Int32)), (.ref b2)])) _
    refine st30.trans ?_
    show Steps p.tables e below (T30.setTop (mkF m 119 #[.val (.ref r0), .val (.int p1), .val (.int p2), .val (.long q3), .second, .val (.int (3 : Int32))] [(.long (own_word q3 (6 : Int64))), (.int (3 : Int32)), (.ref b2)])) _
    refine st31 _ ?_
    show Steps p.tables e below (T31.setTop (mkF m 120 #[.val (.ref r0), .val (.int p1), .val (.int p2), .val (.long q3), .second, .val (.int (3 : Int32))] [])) _
    refine XS.aloadN X31.here hx rfl (hb hby d1_120) rfl rfl ?_
    show Steps p.tables e below (T31.setTop (mkF m 121 #[.val (.ref r0), .val (.int p1), .val (.int p2), .val (.long q3), .second, .val (.int (3 : Int32))] [(.ref r0)])) _
    refine st32 _ ?_
    show Steps p.tables e below (T32.setTop (mkF m 124 #[.val (.ref r0), .val (.int p1), .val (.int p2), .val (.long q3), .second, .val (.int (3 : Int32))] [(.ref b4)])) _
    refine XS.iload X32.here hx rfl (hb hby d1_124) rfl ?_
    show Steps p.tables e below (T32.setTop (mkF m 126 #[.val (.ref r0), .val (.int p1), .val (.int p2), .val (.long q3), .second, .val (.int (3 : Int32))] [(.int (3 : Int32)), (.ref b4)])) _
    refine XS.aloadN X32.here hx rfl (hb hby d1_126) rfl rfl ?_
    show Steps p.tables e below (T32.setTop (mkF m 127 #[.val (.ref r0), .val (.int p1), .val (.int p2), .val (.long q3), .second, .val (.int (3 : Int32))] [(.ref r0), (.int (3 : Int32)), (.ref b4)])) _
    refine XS.iconst X32.here hx rfl (hb hby d1_127) ?_
    show Steps p.tables e below (T32.setTop (mkF m 128 #[.val (.ref r0), .val (.int p1), .val (.int p2), .val (.long q3), .second, .val (.int (3 : Int32))] [(.int (2 : Int32)), (.ref r0), (.int (3 : Int32)), (.ref b4)])) _
    refine XS.iload X32.here hx rfl (hb hby d1_128) rfl ?_
    show Steps p.tables e below (T32.setTop (mkF m 130 #[.val (.ref r0), .val (.int p1), .val (.int p2), .val (.long q3), .second, .val (.int (3 : Int32))] [(.int (3 : Int32)), (.int (2 : Int32)), (.ref r0), (.int (3 : Int32)), (.ref b4)])) _
    refine XS.imul X32.here hx rfl (hb hby d1_130) rfl ?_
    show Steps p.tables e below (T32.setTop (mkF m 131 #[.val (.ref r0), .val (.int p1), .val (.int p2), .val (.long q3), .second, .val (.int (3 : Int32))] [(.int (6 : Int32)), (.ref r0), (.int (3 : Int32)), (.ref b4)])) _
    refine XS.iconst X32.here hx rfl (hb hby d1_131) ?_
    show Steps p.tables e below (T32.setTop (mkF m 132 #[.val (.ref r0), .val (.int p1), .val (.int p2), .val (.long q3), .second, .val (.int (3 : Int32))] [(.int (1 : Int32)), (.int (6 : Int32)), (.ref r0), (.int (3 : Int32)), (.ref b4)])) _
    refine XS.iadd X32.here hx rfl (hb hby d1_132) rfl ?_
    show Steps p.tables e below (T32.setTop (mkF m 133 #[.val (.ref r0), .val (.int p1), .val (.int p2), .val (.long q3), .second, .val (.int (3 : Int32))] [(.int (7 : Int32)), (.ref r0), (.int (3 : Int32)), (.ref b4)])) _
    refine XS.i2l X32.here hx rfl (hb hby d1_133) rfl ?_
    show Steps p.tables e below (T32.setTop (mkF m 134 #[.val (.ref r0), .val (.int p1), .val (.int p2), .val (.long q3), .second, .val (.int (3 : Int32))] [(.long (7 : Int64)), (.ref r0), (.int (3 : Int32)), (.ref b4)])) _
    refine st33.trans ?_
    show Steps p.tables e below (T33.setTop (mkF m 137 #[.val (.ref r0), .val (.int p1), .val (.int p2), .val (.long q3), .second, .val (.int (3 : Int32))] [(.long (own_word q3 (7 : Int64))), (.int (3 : Int32)), (.ref b4)])) _
    refine XS.lconst X33.here hx rfl (hb hby d1_137) ?_
    show Steps p.tables e below (T33.setTop (mkF m 138 #[.val (.ref r0), .val (.int p1), .val (.int p2), .val (.long q3), .second, .val (.int (3 : Int32))] [(.long (1 : Int64)), (.long (own_word q3 (7 : Int64))), (.int (3 : Int32)), (.ref b4)])) _
    refine XS.lor X33.here hx rfl (hb hby d1_138) rfl ?_
    show Steps p.tables e below (T33.setTop (mkF m 139 #[.val (.ref r0), .val (.int p1), .val (.int p2), .val (.long q3), .second, .val (.int (3 : Int32))] [(.long ((own_word q3 (7 : Int64)) ||| (1 : Int64))), (.int (3 : Int32)), (.ref b4)])) _
    refine st34 _ ?_
    show Steps p.tables e below (T34.setTop (mkF m 140 #[.val (.ref r0), .val (.int p1), .val (.int p2), .val (.long q3), .second, .val (.int (3 : Int32))] [])) _
    refine XS.iinc X34.here hx rfl (hb hby d1_140) rfl (l' := #[.val (.ref r0), .val (.int p1), .val (.int p2), .val (.long q3), .second, .val (.int (4 : Int32))]) rfl ?_
    show Steps p.tables e below (T34.setTop (mkF m 143 #[.val (.ref r0), .val (.int p1), .val (.int p2), .val (.long q3), .second, .val (.int (4 : Int32))] [])) _
    refine XS.goto X34.here hx rfl (pc0 := 143) (pc' := 98) rfl (hb hby d1_143) (by decide) (by decide) ?_
    show Steps p.tables e below (T34.setTop (mkF m 98 #[.val (.ref r0), .val (.int p1), .val (.int p2), .val (.long q3), .second, .val (.int (4 : Int32))] [])) _
    refine XS.iload X34.here hx rfl (hb hby d1_98) rfl ?_
    show Steps p.tables e below (T34.setTop (mkF m 100 #[.val (.ref r0), .val (.int p1), .val (.int p2), .val (.long q3), .second, .val (.int (4 : Int32))] [(.int (4 : Int32))])) _
    refine XS.iconst X34.here hx rfl (hb hby d1_100) ?_
    show Steps p.tables e below (T34.setTop (mkF m 101 #[.val (.ref r0), .val (.int p1), .val (.int p2), .val (.long q3), .second, .val (.int (4 : Int32))] [(.int (4 : Int32)), (.int (4 : Int32))])) _
    refine XS.icmpYes X34.here hx rfl (pc0 := 101) (pc' := 146) rfl (hb hby d1_101) rfl (flt (by decide : ¬ ((4 : Int32) < (4 : Int32)))).2.1 (by decide) (by decide) ?_
    show Steps p.tables e below (T34.setTop (mkF m 146 #[.val (.ref r0), .val (.int p1), .val (.int p2), .val (.long q3), .second, .val (.int (4 : Int32))] [])) _
    exact X34.returnOut hx Bd.returns (hb hby d1_146) hr
  · show Q1 Z r0 p1 p2 q3 h0 n0 _ T34.heap _
    rw [e34]
    exact ⟨rfl, N34, K34, b2, b4, _, _, F_offsets_r0_at34, F_multipliers_r0_at34, F_halfScale_r0_at34, F_idMask_r0_at34, V_b2_at34, V_b4_at34⟩
theorem d5_5 : decode prog_31_method_4_code 5 = .ok (.iload 5, 2) := by decide +kernel
theorem d5_7 : decode prog_31_method_4_code 7 = .ok (.iconst 4, 1) := by decide +kernel
theorem d5_8 : decode prog_31_method_4_code 8 = .ok (.if_icmp .ge 41, 3) := by decide +kernel
theorem d5_11 : decode prog_31_method_4_code 11 = .ok (.lload_n 3, 1) := by decide +kernel
theorem d5_12 : decode prog_31_method_4_code 12 = .ok (.aload_n 0, 1) := by decide +kernel
theorem d5_13 : decode prog_31_method_4_code 13 = .ok (.getfield 9, 3) := by decide +kernel
theorem d5_16 : decode prog_31_method_4_code 16 = .ok (.iload 5, 2) := by decide +kernel
theorem d5_18 : decode prog_31_method_4_code 18 = .ok (.laload, 1) := by decide +kernel
theorem d5_19 : decode prog_31_method_4_code 19 = .ok (.ladd, 1) := by decide +kernel
theorem d5_20 : decode prog_31_method_4_code 20 = .ok (.aload_n 0, 1) := by decide +kernel
theorem d5_21 : decode prog_31_method_4_code 21 = .ok (.getfield 13, 3) := by decide +kernel
theorem d5_24 : decode prog_31_method_4_code 24 = .ok (.iload 5, 2) := by decide +kernel
theorem d5_26 : decode prog_31_method_4_code 26 = .ok (.laload, 1) := by decide +kernel
theorem d5_27 : decode prog_31_method_4_code 27 = .ok (.lmul, 1) := by decide +kernel
theorem d5_28 : decode prog_31_method_4_code 28 = .ok (.aload_n 0, 1) := by decide +kernel
theorem d5_29 : decode prog_31_method_4_code 29 = .ok (.getfield 40, 3) := by decide +kernel
theorem d5_32 : decode prog_31_method_4_code 32 = .ok (.land, 1) := by decide +kernel
theorem d5_33 : decode prog_31_method_4_code 33 = .ok (.lstore_n 3, 1) := by decide +kernel
theorem d5_34 : decode prog_31_method_4_code 34 = .ok (.lload_n 3, 1) := by decide +kernel
theorem d5_35 : decode prog_31_method_4_code 35 = .ok (.lload_n 3, 1) := by decide +kernel
theorem d5_36 : decode prog_31_method_4_code 36 = .ok (.aload_n 0, 1) := by decide +kernel
theorem d5_37 : decode prog_31_method_4_code 37 = .ok (.getfield 37, 3) := by decide +kernel
theorem d5_40 : decode prog_31_method_4_code 40 = .ok (.lushr, 1) := by decide +kernel
theorem d5_41 : decode prog_31_method_4_code 41 = .ok (.lxor, 1) := by decide +kernel
theorem d5_42 : decode prog_31_method_4_code 42 = .ok (.lstore_n 3, 1) := by decide +kernel
theorem d5_43 : decode prog_31_method_4_code 43 = .ok (.iinc 5 1, 3) := by decide +kernel
theorem d5_46 : decode prog_31_method_4_code 46 = .ok (.goto (-41), 3) := by decide +kernel
set_option maxRecDepth 65536 in
set_option maxHeartbeats 40000000 in
theorem turn_0 {p : Program} {l : Launch} {e : Env} {s : State} {m : MethodId} {args : Array Value} {below : List Frame} {meth : Method} {c : Code} {T0 : State} {locs : List Loc} {Z : State} {a0 : Array Value} {h0 : Heap} {n0 : Nat} (r0 : Addr) (q1 : Int64) (ao am : Addr) (ko km : ClassId) (o0 o1 o2 o3 m0 m1 m2 m3 mk : Int64) (hs : Int32) (x : Int64) {R : Room}
    (X0 : Stand p l e R s m args below meth c T0 locs 0 0) (hx : p.tables.exec = Jvm.exec) (hZ : Z.Warmed39 s.vm) (hw : ∀ d ∈ tables_1, d.before a0 Z = true) (hby : c.code = prog_31_method_4_code) (hml : c.maxLocals = 6) (hown : s.vm.findClass "com/example/gangleri/gangleri/generate/KroneckerGenerator" = some m.cls) (e0 : T0.heap = h0) (Z0 : n0 ≤ h0.size) (N0 : Fr n0 locs) (F_offsets : Fld Z h0 r0 "com/example/gangleri/gangleri/generate/KroneckerGenerator" "offsets" "[J" (.ref ao)) (F_multipliers : Fld Z h0 r0 "com/example/gangleri/gangleri/generate/KroneckerGenerator" "multipliers" "[J" (.ref am)) (F_halfScale : Fld Z h0 r0 "com/example/gangleri/gangleri/generate/KroneckerGenerator" "halfScale" "I" (.int hs)) (F_idMask : Fld Z h0 r0 "com/example/gangleri/gangleri/generate/KroneckerGenerator" "idMask" "J" (.long mk)) (V_ao : Arv Z h0 ao ko .long (4 : Int32) [(.long o0), (.long o1), (.long o2), (.long o3)] (.long (0 : Int64))) (V_am : Arv Z h0 am km .long (4 : Int32) [(.long m0), (.long m1), (.long m2), (.long m3)] (.long (0 : Int64))) :
    ∃ (T' : State) (locs' : List Loc), Stand p l e R s m args below meth c T' locs' 0 0 ∧ Fr n0 locs' ∧ T'.heap = h0 ∧ ∀ target, Steps p.tables e below (T'.setTop (mkF m 5 #[.val (.ref r0), .val (.long q1), .second, .val (.long (own_rd x o0 m0 mk hs)), .second, .val (.int (1 : Int32))] [])) target → Steps p.tables e below (T0.setTop (mkF m 5 #[.val (.ref r0), .val (.long q1), .second, .val (.long x), .second, .val (.int (0 : Int32))] [])) target := by
  obtain ⟨T1, X1, e1, st1⟩ := getF X0 hx hZ hown (host := "") (Or.inl (hw _ (List.mem_of_getElem? (i := 11) rfl))) Via.refl e0 F_offsets (g := (mkF m 13 #[.val (.ref r0), .val (.long q1), .second, .val (.long x), .second, .val (.int (0 : Int32))] [(.ref r0), (.long x)])) rfl rfl (hb hby d5_13)
  obtain ⟨cl_18_2, Ar_18_2, -, S_18_2, M_18_2, H_18_2, -⟩ := id V_ao
  have hin18_2 : ¬ ((0 : Int32) < 0 ∨ cl_18_2.slots.size ≤ ((0 : Int32)).toNatClampNeg) := inb_of S_18_2 ⟨by decide, by decide⟩
  have hat18_2 : cl_18_2.slots[((0 : Int32)).toNatClampNeg]? = some (.long o0) := H_18_2.at hin18_2 rfl
  obtain ⟨T3, X3, e3, st3⟩ := getF X1 hx hZ hown (host := "") (Or.inl (hw _ (List.mem_of_getElem? (i := 13) rfl))) Via.refl e1 F_multipliers (g := (mkF m 21 #[.val (.ref r0), .val (.long q1), .second, .val (.long x), .second, .val (.int (0 : Int32))] [(.ref r0), (.long (x + o0))])) rfl rfl (hb hby d5_21)
  obtain ⟨cl_26_4, Ar_26_4, -, S_26_4, M_26_4, H_26_4, -⟩ := id V_am
  have hin26_4 : ¬ ((0 : Int32) < 0 ∨ cl_26_4.slots.size ≤ ((0 : Int32)).toNatClampNeg) := inb_of S_26_4 ⟨by decide, by decide⟩
  have hat26_4 : cl_26_4.slots[((0 : Int32)).toNatClampNeg]? = some (.long m0) := H_26_4.at hin26_4 rfl
  obtain ⟨T5, X5, e5, st5⟩ := getF X3 hx hZ hown (host := "") (Or.inl (hw _ (List.mem_of_getElem? (i := 23) rfl))) Via.refl e3 F_idMask (g := (mkF m 29 #[.val (.ref r0), .val (.long q1), .second, .val (.long x), .second, .val (.int (0 : Int32))] [(.ref r0), (.long ((x + o0) * m0))])) rfl rfl (hb hby d5_29)
  obtain ⟨T6, X6, e6, st6⟩ := getF X5 hx hZ hown (host := "") (Or.inl (hw _ (List.mem_of_getElem? (i := 21) rfl))) Via.refl e5 F_halfScale (g := (mkF m 37 #[.val (.ref r0), .val (.long q1), .second, .val (.long (((x + o0) * m0) &&& mk)), .second, .val (.int (0 : Int32))] [(.ref r0), (.long (((x + o0) * m0) &&& mk)), (.long (((x + o0) * m0) &&& mk))])) rfl rfl (hb hby d5_37)
  refine ⟨T6, _, X6, N0, e6, fun target kt => ?_⟩
  show Steps p.tables e below (T0.setTop (mkF m 5 #[.val (.ref r0), .val (.long q1), .second, .val (.long x), .second, .val (.int (0 : Int32))] [])) _
  refine XS.iload X0.here hx rfl (hb hby d5_5) rfl ?_
  show Steps p.tables e below (T0.setTop (mkF m 7 #[.val (.ref r0), .val (.long q1), .second, .val (.long x), .second, .val (.int (0 : Int32))] [(.int (0 : Int32))])) _
  refine XS.iconst X0.here hx rfl (hb hby d5_7) ?_
  show Steps p.tables e below (T0.setTop (mkF m 8 #[.val (.ref r0), .val (.long q1), .second, .val (.long x), .second, .val (.int (0 : Int32))] [(.int (4 : Int32)), (.int (0 : Int32))])) _
  refine XS.icmpNo X0.here hx rfl (hb hby d5_8) rfl (tlt (by decide : (0 : Int32) < (4 : Int32))).2.1 ?_
  show Steps p.tables e below (T0.setTop (mkF m 11 #[.val (.ref r0), .val (.long q1), .second, .val (.long x), .second, .val (.int (0 : Int32))] [])) _
  refine XS.lloadN X0.here hx rfl (hb hby d5_11) rfl ?_
  show Steps p.tables e below (T0.setTop (mkF m 12 #[.val (.ref r0), .val (.long q1), .second, .val (.long x), .second, .val (.int (0 : Int32))] [(.long x)])) _
  refine XS.aloadN X0.here hx rfl (hb hby d5_12) rfl rfl ?_
  show Steps p.tables e below (T0.setTop (mkF m 13 #[.val (.ref r0), .val (.long q1), .second, .val (.long x), .second, .val (.int (0 : Int32))] [(.ref r0), (.long x)])) _
  refine st1 _ ?_
  show Steps p.tables e below (T1.setTop (mkF m 16 #[.val (.ref r0), .val (.long q1), .second, .val (.long x), .second, .val (.int (0 : Int32))] [(.ref ao), (.long x)])) _
  refine XS.iload X1.here hx rfl (hb hby d5_16) rfl ?_
  show Steps p.tables e below (T1.setTop (mkF m 18 #[.val (.ref r0), .val (.long q1), .second, .val (.long x), .second, .val (.int (0 : Int32))] [(.int (0 : Int32)), (.ref ao), (.long x)])) _
  refine X1.laload hx (j := (0 : Int32)) (v := (.long o0)) (by rw [e1]; exact Ar_18_2.1) (State.isArrayOf_alike hZ.alike Ar_18_2.2.1) Ar_18_2.2.2 hin18_2 hat18_2 (g := (mkF m 18 #[.val (.ref r0), .val (.long q1), .second, .val (.long x), .second, .val (.int (0 : Int32))] [(.int (0 : Int32)), (.ref ao), (.long x)])) rfl rfl (hb hby d5_18) _ ?_
  show Steps p.tables e below (T1.setTop (mkF m 19 #[.val (.ref r0), .val (.long q1), .second, .val (.long x), .second, .val (.int (0 : Int32))] [(.long o0), (.long x)])) _
  refine XS.ladd X1.here hx rfl (hb hby d5_19) rfl ?_
  show Steps p.tables e below (T1.setTop (mkF m 20 #[.val (.ref r0), .val (.long q1), .second, .val (.long x), .second, .val (.int (0 : Int32))] [(.long (x + o0))])) _
  refine XS.aloadN X1.here hx rfl (hb hby d5_20) rfl rfl ?_
  show Steps p.tables e below (T1.setTop (mkF m 21 #[.val (.ref r0), .val (.long q1), .second, .val (.long x), .second, .val (.int (0 : Int32))] [(.ref r0), (.long (x + o0))])) _
  refine st3 _ ?_
  show Steps p.tables e below (T3.setTop (mkF m 24 #[.val (.ref r0), .val (.long q1), .second, .val (.long x), .second, .val (.int (0 : Int32))] [(.ref am), (.long (x + o0))])) _
  refine XS.iload X3.here hx rfl (hb hby d5_24) rfl ?_
  show Steps p.tables e below (T3.setTop (mkF m 26 #[.val (.ref r0), .val (.long q1), .second, .val (.long x), .second, .val (.int (0 : Int32))] [(.int (0 : Int32)), (.ref am), (.long (x + o0))])) _
  refine X3.laload hx (j := (0 : Int32)) (v := (.long m0)) (by rw [e3]; exact Ar_26_4.1) (State.isArrayOf_alike hZ.alike Ar_26_4.2.1) Ar_26_4.2.2 hin26_4 hat26_4 (g := (mkF m 26 #[.val (.ref r0), .val (.long q1), .second, .val (.long x), .second, .val (.int (0 : Int32))] [(.int (0 : Int32)), (.ref am), (.long (x + o0))])) rfl rfl (hb hby d5_26) _ ?_
  show Steps p.tables e below (T3.setTop (mkF m 27 #[.val (.ref r0), .val (.long q1), .second, .val (.long x), .second, .val (.int (0 : Int32))] [(.long m0), (.long (x + o0))])) _
  refine XS.lmul X3.here hx rfl (hb hby d5_27) rfl ?_
  show Steps p.tables e below (T3.setTop (mkF m 28 #[.val (.ref r0), .val (.long q1), .second, .val (.long x), .second, .val (.int (0 : Int32))] [(.long ((x + o0) * m0))])) _
  refine XS.aloadN X3.here hx rfl (hb hby d5_28) rfl rfl ?_
  show Steps p.tables e below (T3.setTop (mkF m 29 #[.val (.ref r0), .val (.long q1), .second, .val (.long x), .second, .val (.int (0 : Int32))] [(.ref r0), (.long ((x + o0) * m0))])) _
  refine st5 _ ?_
  show Steps p.tables e below (T5.setTop (mkF m 32 #[.val (.ref r0), .val (.long q1), .second, .val (.long x), .second, .val (.int (0 : Int32))] [(.long mk), (.long ((x + o0) * m0))])) _
  refine XS.land X5.here hx rfl (hb hby d5_32) rfl ?_
  show Steps p.tables e below (T5.setTop (mkF m 33 #[.val (.ref r0), .val (.long q1), .second, .val (.long x), .second, .val (.int (0 : Int32))] [(.long (((x + o0) * m0) &&& mk))])) _
  refine XS.lstoreN X5.here hx rfl (hb hby d5_33) rfl (l' := #[.val (.ref r0), .val (.long q1), .second, .val (.long (((x + o0) * m0) &&& mk)), .second, .val (.int (0 : Int32))]) rfl ?_
  show Steps p.tables e below (T5.setTop (mkF m 34 #[.val (.ref r0), .val (.long q1), .second, .val (.long (((x + o0) * m0) &&& mk)), .second, .val (.int (0 : Int32))] [])) _
  refine XS.lloadN X5.here hx rfl (hb hby d5_34) rfl ?_
  show Steps p.tables e below (T5.setTop (mkF m 35 #[.val (.ref r0), .val (.long q1), .second, .val (.long (((x + o0) * m0) &&& mk)), .second, .val (.int (0 : Int32))] [(.long (((x + o0) * m0) &&& mk))])) _
  refine XS.lloadN X5.here hx rfl (hb hby d5_35) rfl ?_
  show Steps p.tables e below (T5.setTop (mkF m 36 #[.val (.ref r0), .val (.long q1), .second, .val (.long (((x + o0) * m0) &&& mk)), .second, .val (.int (0 : Int32))] [(.long (((x + o0) * m0) &&& mk)), (.long (((x + o0) * m0) &&& mk))])) _
  refine XS.aloadN X5.here hx rfl (hb hby d5_36) rfl rfl ?_
  show Steps p.tables e below (T5.setTop (mkF m 37 #[.val (.ref r0), .val (.long q1), .second, .val (.long (((x + o0) * m0) &&& mk)), .second, .val (.int (0 : Int32))] [(.ref r0), (.long (((x + o0) * m0) &&& mk)), (.long (((x + o0) * m0) &&& mk))])) _
  refine st6 _ ?_
  show Steps p.tables e below (T6.setTop (mkF m 40 #[.val (.ref r0), .val (.long q1), .second, .val (.long (((x + o0) * m0) &&& mk)), .second, .val (.int (0 : Int32))] [(.int hs), (.long (((x + o0) * m0) &&& mk)), (.long (((x + o0) * m0) &&& mk))])) _
  refine XS.lushr X6.here hx rfl (hb hby d5_40) rfl ?_
  show Steps p.tables e below (T6.setTop (mkF m 41 #[.val (.ref r0), .val (.long q1), .second, .val (.long (((x + o0) * m0) &&& mk)), .second, .val (.int (0 : Int32))] [(.long (((((x + o0) * m0) &&& mk).toUInt64 >>> (hs &&& 0x3f).toInt64.toUInt64).toInt64)), (.long (((x + o0) * m0) &&& mk))])) _
  refine XS.lxor X6.here hx rfl (hb hby d5_41) rfl ?_
  show Steps p.tables e below (T6.setTop (mkF m 42 #[.val (.ref r0), .val (.long q1), .second, .val (.long (((x + o0) * m0) &&& mk)), .second, .val (.int (0 : Int32))] [(.long ((((x + o0) * m0) &&& mk) ^^^ (((((x + o0) * m0) &&& mk).toUInt64 >>> (hs &&& 0x3f).toInt64.toUInt64).toInt64)))])) _
  refine XS.lstoreN X6.here hx rfl (hb hby d5_42) rfl (l' := #[.val (.ref r0), .val (.long q1), .second, .val (.long ((((x + o0) * m0) &&& mk) ^^^ (((((x + o0) * m0) &&& mk).toUInt64 >>> (hs &&& 0x3f).toInt64.toUInt64).toInt64))), .second, .val (.int (0 : Int32))]) rfl ?_
  show Steps p.tables e below (T6.setTop (mkF m 43 #[.val (.ref r0), .val (.long q1), .second, .val (.long ((((x + o0) * m0) &&& mk) ^^^ (((((x + o0) * m0) &&& mk).toUInt64 >>> (hs &&& 0x3f).toInt64.toUInt64).toInt64))), .second, .val (.int (0 : Int32))] [])) _
  refine XS.iinc X6.here hx rfl (hb hby d5_43) rfl (l' := #[.val (.ref r0), .val (.long q1), .second, .val (.long ((((x + o0) * m0) &&& mk) ^^^ (((((x + o0) * m0) &&& mk).toUInt64 >>> (hs &&& 0x3f).toInt64.toUInt64).toInt64))), .second, .val (.int (1 : Int32))]) rfl ?_
  show Steps p.tables e below (T6.setTop (mkF m 46 #[.val (.ref r0), .val (.long q1), .second, .val (.long ((((x + o0) * m0) &&& mk) ^^^ (((((x + o0) * m0) &&& mk).toUInt64 >>> (hs &&& 0x3f).toInt64.toUInt64).toInt64))), .second, .val (.int (1 : Int32))] [])) _
  refine XS.goto X6.here hx rfl (pc0 := 46) (pc' := 5) rfl (hb hby d5_46) (by decide) (by decide) ?_
  show Steps p.tables e below (T6.setTop (mkF m 5 #[.val (.ref r0), .val (.long q1), .second, .val (.long ((((x + o0) * m0) &&& mk) ^^^ (((((x + o0) * m0) &&& mk).toUInt64 >>> (hs &&& 0x3f).toInt64.toUInt64).toInt64))), .second, .val (.int (1 : Int32))] [])) _
  exact kt
set_option maxRecDepth 65536 in
set_option maxHeartbeats 40000000 in
theorem turn_1 {p : Program} {l : Launch} {e : Env} {s : State} {m : MethodId} {args : Array Value} {below : List Frame} {meth : Method} {c : Code} {T0 : State} {locs : List Loc} {Z : State} {a0 : Array Value} {h0 : Heap} {n0 : Nat} (r0 : Addr) (q1 : Int64) (ao am : Addr) (ko km : ClassId) (o0 o1 o2 o3 m0 m1 m2 m3 mk : Int64) (hs : Int32) (x : Int64) {R : Room}
    (X0 : Stand p l e R s m args below meth c T0 locs 0 0) (hx : p.tables.exec = Jvm.exec) (hZ : Z.Warmed39 s.vm) (hw : ∀ d ∈ tables_1, d.before a0 Z = true) (hby : c.code = prog_31_method_4_code) (hml : c.maxLocals = 6) (hown : s.vm.findClass "com/example/gangleri/gangleri/generate/KroneckerGenerator" = some m.cls) (e0 : T0.heap = h0) (Z0 : n0 ≤ h0.size) (N0 : Fr n0 locs) (F_offsets : Fld Z h0 r0 "com/example/gangleri/gangleri/generate/KroneckerGenerator" "offsets" "[J" (.ref ao)) (F_multipliers : Fld Z h0 r0 "com/example/gangleri/gangleri/generate/KroneckerGenerator" "multipliers" "[J" (.ref am)) (F_halfScale : Fld Z h0 r0 "com/example/gangleri/gangleri/generate/KroneckerGenerator" "halfScale" "I" (.int hs)) (F_idMask : Fld Z h0 r0 "com/example/gangleri/gangleri/generate/KroneckerGenerator" "idMask" "J" (.long mk)) (V_ao : Arv Z h0 ao ko .long (4 : Int32) [(.long o0), (.long o1), (.long o2), (.long o3)] (.long (0 : Int64))) (V_am : Arv Z h0 am km .long (4 : Int32) [(.long m0), (.long m1), (.long m2), (.long m3)] (.long (0 : Int64))) :
    ∃ (T' : State) (locs' : List Loc), Stand p l e R s m args below meth c T' locs' 0 0 ∧ Fr n0 locs' ∧ T'.heap = h0 ∧ ∀ target, Steps p.tables e below (T'.setTop (mkF m 5 #[.val (.ref r0), .val (.long q1), .second, .val (.long (own_rd x o1 m1 mk hs)), .second, .val (.int (2 : Int32))] [])) target → Steps p.tables e below (T0.setTop (mkF m 5 #[.val (.ref r0), .val (.long q1), .second, .val (.long x), .second, .val (.int (1 : Int32))] [])) target := by
  obtain ⟨T1, X1, e1, st1⟩ := getF X0 hx hZ hown (host := "") (Or.inl (hw _ (List.mem_of_getElem? (i := 11) rfl))) Via.refl e0 F_offsets (g := (mkF m 13 #[.val (.ref r0), .val (.long q1), .second, .val (.long x), .second, .val (.int (1 : Int32))] [(.ref r0), (.long x)])) rfl rfl (hb hby d5_13)
  obtain ⟨cl_18_2, Ar_18_2, -, S_18_2, M_18_2, H_18_2, -⟩ := id V_ao
  have hin18_2 : ¬ ((1 : Int32) < 0 ∨ cl_18_2.slots.size ≤ ((1 : Int32)).toNatClampNeg) := inb_of S_18_2 ⟨by decide, by decide⟩
  have hat18_2 : cl_18_2.slots[((1 : Int32)).toNatClampNeg]? = some (.long o1) := H_18_2.at hin18_2 rfl
  obtain ⟨T3, X3, e3, st3⟩ := getF X1 hx hZ hown (host := "") (Or.inl (hw _ (List.mem_of_getElem? (i := 13) rfl))) Via.refl e1 F_multipliers (g := (mkF m 21 #[.val (.ref r0), .val (.long q1), .second, .val (.long x), .second, .val (.int (1 : Int32))] [(.ref r0), (.long (x + o1))])) rfl rfl (hb hby d5_21)
  obtain ⟨cl_26_4, Ar_26_4, -, S_26_4, M_26_4, H_26_4, -⟩ := id V_am
  have hin26_4 : ¬ ((1 : Int32) < 0 ∨ cl_26_4.slots.size ≤ ((1 : Int32)).toNatClampNeg) := inb_of S_26_4 ⟨by decide, by decide⟩
  have hat26_4 : cl_26_4.slots[((1 : Int32)).toNatClampNeg]? = some (.long m1) := H_26_4.at hin26_4 rfl
  obtain ⟨T5, X5, e5, st5⟩ := getF X3 hx hZ hown (host := "") (Or.inl (hw _ (List.mem_of_getElem? (i := 23) rfl))) Via.refl e3 F_idMask (g := (mkF m 29 #[.val (.ref r0), .val (.long q1), .second, .val (.long x), .second, .val (.int (1 : Int32))] [(.ref r0), (.long ((x + o1) * m1))])) rfl rfl (hb hby d5_29)
  obtain ⟨T6, X6, e6, st6⟩ := getF X5 hx hZ hown (host := "") (Or.inl (hw _ (List.mem_of_getElem? (i := 21) rfl))) Via.refl e5 F_halfScale (g := (mkF m 37 #[.val (.ref r0), .val (.long q1), .second, .val (.long (((x + o1) * m1) &&& mk)), .second, .val (.int (1 : Int32))] [(.ref r0), (.long (((x + o1) * m1) &&& mk)), (.long (((x + o1) * m1) &&& mk))])) rfl rfl (hb hby d5_37)
  refine ⟨T6, _, X6, N0, e6, fun target kt => ?_⟩
  show Steps p.tables e below (T0.setTop (mkF m 5 #[.val (.ref r0), .val (.long q1), .second, .val (.long x), .second, .val (.int (1 : Int32))] [])) _
  refine XS.iload X0.here hx rfl (hb hby d5_5) rfl ?_
  show Steps p.tables e below (T0.setTop (mkF m 7 #[.val (.ref r0), .val (.long q1), .second, .val (.long x), .second, .val (.int (1 : Int32))] [(.int (1 : Int32))])) _
  refine XS.iconst X0.here hx rfl (hb hby d5_7) ?_
  show Steps p.tables e below (T0.setTop (mkF m 8 #[.val (.ref r0), .val (.long q1), .second, .val (.long x), .second, .val (.int (1 : Int32))] [(.int (4 : Int32)), (.int (1 : Int32))])) _
  refine XS.icmpNo X0.here hx rfl (hb hby d5_8) rfl (tlt (by decide : (1 : Int32) < (4 : Int32))).2.1 ?_
  show Steps p.tables e below (T0.setTop (mkF m 11 #[.val (.ref r0), .val (.long q1), .second, .val (.long x), .second, .val (.int (1 : Int32))] [])) _
  refine XS.lloadN X0.here hx rfl (hb hby d5_11) rfl ?_
  show Steps p.tables e below (T0.setTop (mkF m 12 #[.val (.ref r0), .val (.long q1), .second, .val (.long x), .second, .val (.int (1 : Int32))] [(.long x)])) _
  refine XS.aloadN X0.here hx rfl (hb hby d5_12) rfl rfl ?_
  show Steps p.tables e below (T0.setTop (mkF m 13 #[.val (.ref r0), .val (.long q1), .second, .val (.long x), .second, .val (.int (1 : Int32))] [(.ref r0), (.long x)])) _
  refine st1 _ ?_
  show Steps p.tables e below (T1.setTop (mkF m 16 #[.val (.ref r0), .val (.long q1), .second, .val (.long x), .second, .val (.int (1 : Int32))] [(.ref ao), (.long x)])) _
  refine XS.iload X1.here hx rfl (hb hby d5_16) rfl ?_
  show Steps p.tables e below (T1.setTop (mkF m 18 #[.val (.ref r0), .val (.long q1), .second, .val (.long x), .second, .val (.int (1 : Int32))] [(.int (1 : Int32)), (.ref ao), (.long x)])) _
  refine X1.laload hx (j := (1 : Int32)) (v := (.long o1)) (by rw [e1]; exact Ar_18_2.1) (State.isArrayOf_alike hZ.alike Ar_18_2.2.1) Ar_18_2.2.2 hin18_2 hat18_2 (g := (mkF m 18 #[.val (.ref r0), .val (.long q1), .second, .val (.long x), .second, .val (.int (1 : Int32))] [(.int (1 : Int32)), (.ref ao), (.long x)])) rfl rfl (hb hby d5_18) _ ?_
  show Steps p.tables e below (T1.setTop (mkF m 19 #[.val (.ref r0), .val (.long q1), .second, .val (.long x), .second, .val (.int (1 : Int32))] [(.long o1), (.long x)])) _
  refine XS.ladd X1.here hx rfl (hb hby d5_19) rfl ?_
  show Steps p.tables e below (T1.setTop (mkF m 20 #[.val (.ref r0), .val (.long q1), .second, .val (.long x), .second, .val (.int (1 : Int32))] [(.long (x + o1))])) _
  refine XS.aloadN X1.here hx rfl (hb hby d5_20) rfl rfl ?_
  show Steps p.tables e below (T1.setTop (mkF m 21 #[.val (.ref r0), .val (.long q1), .second, .val (.long x), .second, .val (.int (1 : Int32))] [(.ref r0), (.long (x + o1))])) _
  refine st3 _ ?_
  show Steps p.tables e below (T3.setTop (mkF m 24 #[.val (.ref r0), .val (.long q1), .second, .val (.long x), .second, .val (.int (1 : Int32))] [(.ref am), (.long (x + o1))])) _
  refine XS.iload X3.here hx rfl (hb hby d5_24) rfl ?_
  show Steps p.tables e below (T3.setTop (mkF m 26 #[.val (.ref r0), .val (.long q1), .second, .val (.long x), .second, .val (.int (1 : Int32))] [(.int (1 : Int32)), (.ref am), (.long (x + o1))])) _
  refine X3.laload hx (j := (1 : Int32)) (v := (.long m1)) (by rw [e3]; exact Ar_26_4.1) (State.isArrayOf_alike hZ.alike Ar_26_4.2.1) Ar_26_4.2.2 hin26_4 hat26_4 (g := (mkF m 26 #[.val (.ref r0), .val (.long q1), .second, .val (.long x), .second, .val (.int (1 : Int32))] [(.int (1 : Int32)), (.ref am), (.long (x + o1))])) rfl rfl (hb hby d5_26) _ ?_
  show Steps p.tables e below (T3.setTop (mkF m 27 #[.val (.ref r0), .val (.long q1), .second, .val (.long x), .second, .val (.int (1 : Int32))] [(.long m1), (.long (x + o1))])) _
  refine XS.lmul X3.here hx rfl (hb hby d5_27) rfl ?_
  show Steps p.tables e below (T3.setTop (mkF m 28 #[.val (.ref r0), .val (.long q1), .second, .val (.long x), .second, .val (.int (1 : Int32))] [(.long ((x + o1) * m1))])) _
  refine XS.aloadN X3.here hx rfl (hb hby d5_28) rfl rfl ?_
  show Steps p.tables e below (T3.setTop (mkF m 29 #[.val (.ref r0), .val (.long q1), .second, .val (.long x), .second, .val (.int (1 : Int32))] [(.ref r0), (.long ((x + o1) * m1))])) _
  refine st5 _ ?_
  show Steps p.tables e below (T5.setTop (mkF m 32 #[.val (.ref r0), .val (.long q1), .second, .val (.long x), .second, .val (.int (1 : Int32))] [(.long mk), (.long ((x + o1) * m1))])) _
  refine XS.land X5.here hx rfl (hb hby d5_32) rfl ?_
  show Steps p.tables e below (T5.setTop (mkF m 33 #[.val (.ref r0), .val (.long q1), .second, .val (.long x), .second, .val (.int (1 : Int32))] [(.long (((x + o1) * m1) &&& mk))])) _
  refine XS.lstoreN X5.here hx rfl (hb hby d5_33) rfl (l' := #[.val (.ref r0), .val (.long q1), .second, .val (.long (((x + o1) * m1) &&& mk)), .second, .val (.int (1 : Int32))]) rfl ?_
  show Steps p.tables e below (T5.setTop (mkF m 34 #[.val (.ref r0), .val (.long q1), .second, .val (.long (((x + o1) * m1) &&& mk)), .second, .val (.int (1 : Int32))] [])) _
  refine XS.lloadN X5.here hx rfl (hb hby d5_34) rfl ?_
  show Steps p.tables e below (T5.setTop (mkF m 35 #[.val (.ref r0), .val (.long q1), .second, .val (.long (((x + o1) * m1) &&& mk)), .second, .val (.int (1 : Int32))] [(.long (((x + o1) * m1) &&& mk))])) _
  refine XS.lloadN X5.here hx rfl (hb hby d5_35) rfl ?_
  show Steps p.tables e below (T5.setTop (mkF m 36 #[.val (.ref r0), .val (.long q1), .second, .val (.long (((x + o1) * m1) &&& mk)), .second, .val (.int (1 : Int32))] [(.long (((x + o1) * m1) &&& mk)), (.long (((x + o1) * m1) &&& mk))])) _
  refine XS.aloadN X5.here hx rfl (hb hby d5_36) rfl rfl ?_
  show Steps p.tables e below (T5.setTop (mkF m 37 #[.val (.ref r0), .val (.long q1), .second, .val (.long (((x + o1) * m1) &&& mk)), .second, .val (.int (1 : Int32))] [(.ref r0), (.long (((x + o1) * m1) &&& mk)), (.long (((x + o1) * m1) &&& mk))])) _
  refine st6 _ ?_
  show Steps p.tables e below (T6.setTop (mkF m 40 #[.val (.ref r0), .val (.long q1), .second, .val (.long (((x + o1) * m1) &&& mk)), .second, .val (.int (1 : Int32))] [(.int hs), (.long (((x + o1) * m1) &&& mk)), (.long (((x + o1) * m1) &&& mk))])) _
  refine XS.lushr X6.here hx rfl (hb hby d5_40) rfl ?_
  show Steps p.tables e below (T6.setTop (mkF m 41 #[.val (.ref r0), .val (.long q1), .second, .val (.long (((x + o1) * m1) &&& mk)), .second, .val (.int (1 : Int32))] [(.long (((((x + o1) * m1) &&& mk).toUInt64 >>> (hs &&& 0x3f).toInt64.toUInt64).toInt64)), (.long (((x + o1) * m1) &&& mk))])) _
  refine XS.lxor X6.here hx rfl (hb hby d5_41) rfl ?_
  show Steps p.tables e below (T6.setTop (mkF m 42 #[.val (.ref r0), .val (.long q1), .second, .val (.long (((x + o1) * m1) &&& mk)), .second, .val (.int (1 : Int32))] [(.long ((((x + o1) * m1) &&& mk) ^^^ (((((x + o1) * m1) &&& mk).toUInt64 >>> (hs &&& 0x3f).toInt64.toUInt64).toInt64)))])) _
  refine XS.lstoreN X6.here hx rfl (hb hby d5_42) rfl (l' := #[.val (.ref r0), .val (.long q1), .second, .val (.long ((((x + o1) * m1) &&& mk) ^^^ (((((x + o1) * m1) &&& mk).toUInt64 >>> (hs &&& 0x3f).toInt64.toUInt64).toInt64))), .second, .val (.int (1 : Int32))]) rfl ?_
  show Steps p.tables e below (T6.setTop (mkF m 43 #[.val (.ref r0), .val (.long q1), .second, .val (.long ((((x + o1) * m1) &&& mk) ^^^ (((((x + o1) * m1) &&& mk).toUInt64 >>> (hs &&& 0x3f).toInt64.toUInt64).toInt64))), .second, .val (.int (1 : Int32))] [])) _
  refine XS.iinc X6.here hx rfl (hb hby d5_43) rfl (l' := #[.val (.ref r0), .val (.long q1), .second, .val (.long ((((x + o1) * m1) &&& mk) ^^^ (((((x + o1) * m1) &&& mk).toUInt64 >>> (hs &&& 0x3f).toInt64.toUInt64).toInt64))), .second, .val (.int (2 : Int32))]) rfl ?_
  show Steps p.tables e below (T6.setTop (mkF m 46 #[.val (.ref r0), .val (.long q1), .second, .val (.long ((((x + o1) * m1) &&& mk) ^^^ (((((x + o1) * m1) &&& mk).toUInt64 >>> (hs &&& 0x3f).toInt64.toUInt64).toInt64))), .second, .val (.int (2 : Int32))] [])) _
  refine XS.goto X6.here hx rfl (pc0 := 46) (pc' := 5) rfl (hb hby d5_46) (by decide) (by decide) ?_
  show Steps p.tables e below (T6.setTop (mkF m 5 #[.val (.ref r0), .val (.long q1), .second, .val (.long ((((x + o1) * m1) &&& mk) ^^^ (((((x + o1) * m1) &&& mk).toUInt64 >>> (hs &&& 0x3f).toInt64.toUInt64).toInt64))), .second, .val (.int (2 : Int32))] [])) _
  exact kt
set_option maxRecDepth 65536 in
set_option maxHeartbeats 40000000 in
theorem turn_2 {p : Program} {l : Launch} {e : Env} {s : State} {m : MethodId} {args : Array Value} {below : List Frame} {meth : Method} {c : Code} {T0 : State} {locs : List Loc} {Z : State} {a0 : Array Value} {h0 : Heap} {n0 : Nat} (r0 : Addr) (q1 : Int64) (ao am : Addr) (ko km : ClassId) (o0 o1 o2 o3 m0 m1 m2 m3 mk : Int64) (hs : Int32) (x : Int64) {R : Room}
    (X0 : Stand p l e R s m args below meth c T0 locs 0 0) (hx : p.tables.exec = Jvm.exec) (hZ : Z.Warmed39 s.vm) (hw : ∀ d ∈ tables_1, d.before a0 Z = true) (hby : c.code = prog_31_method_4_code) (hml : c.maxLocals = 6) (hown : s.vm.findClass "com/example/gangleri/gangleri/generate/KroneckerGenerator" = some m.cls) (e0 : T0.heap = h0) (Z0 : n0 ≤ h0.size) (N0 : Fr n0 locs) (F_offsets : Fld Z h0 r0 "com/example/gangleri/gangleri/generate/KroneckerGenerator" "offsets" "[J" (.ref ao)) (F_multipliers : Fld Z h0 r0 "com/example/gangleri/gangleri/generate/KroneckerGenerator" "multipliers" "[J" (.ref am)) (F_halfScale : Fld Z h0 r0 "com/example/gangleri/gangleri/generate/KroneckerGenerator" "halfScale" "I" (.int hs)) (F_idMask : Fld Z h0 r0 "com/example/gangleri/gangleri/generate/KroneckerGenerator" "idMask" "J" (.long mk)) (V_ao : Arv Z h0 ao ko .long (4 : Int32) [(.long o0), (.long o1), (.long o2), (.long o3)] (.long (0 : Int64))) (V_am : Arv Z h0 am km .long (4 : Int32) [(.long m0), (.long m1), (.long m2), (.long m3)] (.long (0 : Int64))) :
    ∃ (T' : State) (locs' : List Loc), Stand p l e R s m args below meth c T' locs' 0 0 ∧ Fr n0 locs' ∧ T'.heap = h0 ∧ ∀ target, Steps p.tables e below (T'.setTop (mkF m 5 #[.val (.ref r0), .val (.long q1), .second, .val (.long (own_rd x o2 m2 mk hs)), .second, .val (.int (3 : Int32))] [])) target → Steps p.tables e below (T0.setTop (mkF m 5 #[.val (.ref r0), .val (.long q1), .second, .val (.long x), .second, .val (.int (2 : Int32))] [])) target := by
  obtain ⟨T1, X1, e1, st1⟩ := getF X0 hx hZ hown (host := "") (Or.inl (hw _ (List.mem_of_getElem? (i := 11) rfl))) Via.refl e0 F_offsets (g := (mkF m 13 #[.val (.ref r0), .val (.long q1), .second, .val (.long x), .second, .val (.int (2 : Int32))] [(.ref r0), (.long x)])) rfl rfl (hb hby d5_13)
  obtain ⟨cl_18_2, Ar_18_2, -, S_18_2, M_18_2, H_18_2, -⟩ := id V_ao
  have hin18_2 : ¬ ((2 : Int32) < 0 ∨ cl_18_2.slots.size ≤ ((2 : Int32)).toNatClampNeg) := inb_of S_18_2 ⟨by decide, by decide⟩
  have hat18_2 : cl_18_2.slots[((2 : Int32)).toNatClampNeg]? = some (.long o2) := H_18_2.at hin18_2 rfl
  obtain ⟨T3, X3, e3, st3⟩ := getF X1 hx hZ hown (host := "") (Or.inl (hw _ (List.mem_of_getElem? (i := 13) rfl))) Via.refl e1 F_multipliers (g := (mkF m 21 #[.val (.ref r0), .val (.long q1), .second, .val (.long x), .second, .val (.int (2 : Int32))] [(.ref r0), (.long (x + o2))])) rfl rfl (hb hby d5_21)
  obtain ⟨cl_26_4, Ar_26_4, -, S_26_4, M_26_4, H_26_4, -⟩ := id V_am
  have hin26_4 : ¬ ((2 : Int32) < 0 ∨ cl_26_4.slots.size ≤ ((2 : Int32)).toNatClampNeg) := inb_of S_26_4 ⟨by decide, by decide⟩
  have hat26_4 : cl_26_4.slots[((2 : Int32)).toNatClampNeg]? = some (.long m2) := H_26_4.at hin26_4 rfl
  obtain ⟨T5, X5, e5, st5⟩ := getF X3 hx hZ hown (host := "") (Or.inl (hw _ (List.mem_of_getElem? (i := 23) rfl))) Via.refl e3 F_idMask (g := (mkF m 29 #[.val (.ref r0), .val (.long q1), .second, .val (.long x), .second, .val (.int (2 : Int32))] [(.ref r0), (.long ((x + o2) * m2))])) rfl rfl (hb hby d5_29)
  obtain ⟨T6, X6, e6, st6⟩ := getF X5 hx hZ hown (host := "") (Or.inl (hw _ (List.mem_of_getElem? (i := 21) rfl))) Via.refl e5 F_halfScale (g := (mkF m 37 #[.val (.ref r0), .val (.long q1), .second, .val (.long (((x + o2) * m2) &&& mk)), .second, .val (.int (2 : Int32))] [(.ref r0), (.long (((x + o2) * m2) &&& mk)), (.long (((x + o2) * m2) &&& mk))])) rfl rfl (hb hby d5_37)
  refine ⟨T6, _, X6, N0, e6, fun target kt => ?_⟩
  show Steps p.tables e below (T0.setTop (mkF m 5 #[.val (.ref r0), .val (.long q1), .second, .val (.long x), .second, .val (.int (2 : Int32))] [])) _
  refine XS.iload X0.here hx rfl (hb hby d5_5) rfl ?_
  show Steps p.tables e below (T0.setTop (mkF m 7 #[.val (.ref r0), .val (.long q1), .second, .val (.long x), .second, .val (.int (2 : Int32))] [(.int (2 : Int32))])) _
  refine XS.iconst X0.here hx rfl (hb hby d5_7) ?_
  show Steps p.tables e below (T0.setTop (mkF m 8 #[.val (.ref r0), .val (.long q1), .second, .val (.long x), .second, .val (.int (2 : Int32))] [(.int (4 : Int32)), (.int (2 : Int32))])) _
  refine XS.icmpNo X0.here hx rfl (hb hby d5_8) rfl (tlt (by decide : (2 : Int32) < (4 : Int32))).2.1 ?_
  show Steps p.tables e below (T0.setTop (mkF m 11 #[.val (.ref r0), .val (.long q1), .second, .val (.long x), .second, .val (.int (2 : Int32))] [])) _
  refine XS.lloadN X0.here hx rfl (hb hby d5_11) rfl ?_
  show Steps p.tables e below (T0.setTop (mkF m 12 #[.val (.ref r0), .val (.long q1), .second, .val (.long x), .second, .val (.int (2 : Int32))] [(.long x)])) _
  refine XS.aloadN X0.here hx rfl (hb hby d5_12) rfl rfl ?_
  show Steps p.tables e below (T0.setTop (mkF m 13 #[.val (.ref r0), .val (.long q1), .second, .val (.long x), .second, .val (.int (2 : Int32))] [(.ref r0), (.long x)])) _
  refine st1 _ ?_
  show Steps p.tables e below (T1.setTop (mkF m 16 #[.val (.ref r0), .val (.long q1), .second, .val (.long x), .second, .val (.int (2 : Int32))] [(.ref ao), (.long x)])) _
  refine XS.iload X1.here hx rfl (hb hby d5_16) rfl ?_
  show Steps p.tables e below (T1.setTop (mkF m 18 #[.val (.ref r0), .val (.long q1), .second, .val (.long x), .second, .val (.int (2 : Int32))] [(.int (2 : Int32)), (.ref ao), (.long x)])) _
  refine X1.laload hx (j := (2 : Int32)) (v := (.long o2)) (by rw [e1]; exact Ar_18_2.1) (State.isArrayOf_alike hZ.alike Ar_18_2.2.1) Ar_18_2.2.2 hin18_2 hat18_2 (g := (mkF m 18 #[.val (.ref r0), .val (.long q1), .second, .val (.long x), .second, .val (.int (2 : Int32))] [(.int (2 : Int32)), (.ref ao), (.long x)])) rfl rfl (hb hby d5_18) _ ?_
  show Steps p.tables e below (T1.setTop (mkF m 19 #[.val (.ref r0), .val (.long q1), .second, .val (.long x), .second, .val (.int (2 : Int32))] [(.long o2), (.long x)])) _
  refine XS.ladd X1.here hx rfl (hb hby d5_19) rfl ?_
  show Steps p.tables e below (T1.setTop (mkF m 20 #[.val (.ref r0), .val (.long q1), .second, .val (.long x), .second, .val (.int (2 : Int32))] [(.long (x + o2))])) _
  refine XS.aloadN X1.here hx rfl (hb hby d5_20) rfl rfl ?_
  show Steps p.tables e below (T1.setTop (mkF m 21 #[.val (.ref r0), .val (.long q1), .second, .val (.long x), .second, .val (.int (2 : Int32))] [(.ref r0), (.long (x + o2))])) _
  refine st3 _ ?_
  show Steps p.tables e below (T3.setTop (mkF m 24 #[.val (.ref r0), .val (.long q1), .second, .val (.long x), .second, .val (.int (2 : Int32))] [(.ref am), (.long (x + o2))])) _
  refine XS.iload X3.here hx rfl (hb hby d5_24) rfl ?_
  show Steps p.tables e below (T3.setTop (mkF m 26 #[.val (.ref r0), .val (.long q1), .second, .val (.long x), .second, .val (.int (2 : Int32))] [(.int (2 : Int32)), (.ref am), (.long (x + o2))])) _
  refine X3.laload hx (j := (2 : Int32)) (v := (.long m2)) (by rw [e3]; exact Ar_26_4.1) (State.isArrayOf_alike hZ.alike Ar_26_4.2.1) Ar_26_4.2.2 hin26_4 hat26_4 (g := (mkF m 26 #[.val (.ref r0), .val (.long q1), .second, .val (.long x), .second, .val (.int (2 : Int32))] [(.int (2 : Int32)), (.ref am), (.long (x + o2))])) rfl rfl (hb hby d5_26) _ ?_
  show Steps p.tables e below (T3.setTop (mkF m 27 #[.val (.ref r0), .val (.long q1), .second, .val (.long x), .second, .val (.int (2 : Int32))] [(.long m2), (.long (x + o2))])) _
  refine XS.lmul X3.here hx rfl (hb hby d5_27) rfl ?_
  show Steps p.tables e below (T3.setTop (mkF m 28 #[.val (.ref r0), .val (.long q1), .second, .val (.long x), .second, .val (.int (2 : Int32))] [(.long ((x + o2) * m2))])) _
  refine XS.aloadN X3.here hx rfl (hb hby d5_28) rfl rfl ?_
  show Steps p.tables e below (T3.setTop (mkF m 29 #[.val (.ref r0), .val (.long q1), .second, .val (.long x), .second, .val (.int (2 : Int32))] [(.ref r0), (.long ((x + o2) * m2))])) _
  refine st5 _ ?_
  show Steps p.tables e below (T5.setTop (mkF m 32 #[.val (.ref r0), .val (.long q1), .second, .val (.long x), .second, .val (.int (2 : Int32))] [(.long mk), (.long ((x + o2) * m2))])) _
  refine XS.land X5.here hx rfl (hb hby d5_32) rfl ?_
  show Steps p.tables e below (T5.setTop (mkF m 33 #[.val (.ref r0), .val (.long q1), .second, .val (.long x), .second, .val (.int (2 : Int32))] [(.long (((x + o2) * m2) &&& mk))])) _
  refine XS.lstoreN X5.here hx rfl (hb hby d5_33) rfl (l' := #[.val (.ref r0), .val (.long q1), .second, .val (.long (((x + o2) * m2) &&& mk)), .second, .val (.int (2 : Int32))]) rfl ?_
  show Steps p.tables e below (T5.setTop (mkF m 34 #[.val (.ref r0), .val (.long q1), .second, .val (.long (((x + o2) * m2) &&& mk)), .second, .val (.int (2 : Int32))] [])) _
  refine XS.lloadN X5.here hx rfl (hb hby d5_34) rfl ?_
  show Steps p.tables e below (T5.setTop (mkF m 35 #[.val (.ref r0), .val (.long q1), .second, .val (.long (((x + o2) * m2) &&& mk)), .second, .val (.int (2 : Int32))] [(.long (((x + o2) * m2) &&& mk))])) _
  refine XS.lloadN X5.here hx rfl (hb hby d5_35) rfl ?_
  show Steps p.tables e below (T5.setTop (mkF m 36 #[.val (.ref r0), .val (.long q1), .second, .val (.long (((x + o2) * m2) &&& mk)), .second, .val (.int (2 : Int32))] [(.long (((x + o2) * m2) &&& mk)), (.long (((x + o2) * m2) &&& mk))])) _
  refine XS.aloadN X5.here hx rfl (hb hby d5_36) rfl rfl ?_
  show Steps p.tables e below (T5.setTop (mkF m 37 #[.val (.ref r0), .val (.long q1), .second, .val (.long (((x + o2) * m2) &&& mk)), .second, .val (.int (2 : Int32))] [(.ref r0), (.long (((x + o2) * m2) &&& mk)), (.long (((x + o2) * m2) &&& mk))])) _
  refine st6 _ ?_
  show Steps p.tables e below (T6.setTop (mkF m 40 #[.val (.ref r0), .val (.long q1), .second, .val (.long (((x + o2) * m2) &&& mk)), .second, .val (.int (2 : Int32))] [(.int hs), (.long (((x + o2) * m2) &&& mk)), (.long (((x + o2) * m2) &&& mk))])) _
  refine XS.lushr X6.here hx rfl (hb hby d5_40) rfl ?_
  show Steps p.tables e below (T6.setTop (mkF m 41 #[.val (.ref r0), .val (.long q1), .second, .val (.long (((x + o2) * m2) &&& mk)), .second, .val (.int (2 : Int32))] [(.long (((((x + o2) * m2) &&& mk).toUInt64 >>> (hs &&& 0x3f).toInt64.toUInt64).toInt64)), (.long (((x + o2) * m2) &&& mk))])) _
  refine XS.lxor X6.here hx rfl (hb hby d5_41) rfl ?_
  show Steps p.tables e below (T6.setTop (mkF m 42 #[.val (.ref r0), .val (.long q1), .second, .val (.long (((x + o2) * m2) &&& mk)), .second, .val (.int (2 : Int32))] [(.long ((((x + o2) * m2) &&& mk) ^^^ (((((x + o2) * m2) &&& mk).toUInt64 >>> (hs &&& 0x3f).toInt64.toUInt64).toInt64)))])) _
  refine XS.lstoreN X6.here hx rfl (hb hby d5_42) rfl (l' := #[.val (.ref r0), .val (.long q1), .second, .val (.long ((((x + o2) * m2) &&& mk) ^^^ (((((x + o2) * m2) &&& mk).toUInt64 >>> (hs &&& 0x3f).toInt64.toUInt64).toInt64))), .second, .val (.int (2 : Int32))]) rfl ?_
  show Steps p.tables e below (T6.setTop (mkF m 43 #[.val (.ref r0), .val (.long q1), .second, .val (.long ((((x + o2) * m2) &&& mk) ^^^ (((((x + o2) * m2) &&& mk).toUInt64 >>> (hs &&& 0x3f).toInt64.toUInt64).toInt64))), .second, .val (.int (2 : Int32))] [])) _
  refine XS.iinc X6.here hx rfl (hb hby d5_43) rfl (l' := #[.val (.ref r0), .val (.long q1), .second, .val (.long ((((x + o2) * m2) &&& mk) ^^^ (((((x + o2) * m2) &&& mk).toUInt64 >>> (hs &&& 0x3f).toInt64.toUInt64).toInt64))), .second, .val (.int (3 : Int32))]) rfl ?_
  show Steps p.tables e below (T6.setTop (mkF m 46 #[.val (.ref r0), .val (.long q1), .second, .val (.long ((((x + o2) * m2) &&& mk) ^^^ (((((x + o2) * m2) &&& mk).toUInt64 >>> (hs &&& 0x3f).toInt64.toUInt64).toInt64))), .second, .val (.int (3 : Int32))] [])) _
  refine XS.goto X6.here hx rfl (pc0 := 46) (pc' := 5) rfl (hb hby d5_46) (by decide) (by decide) ?_
  show Steps p.tables e below (T6.setTop (mkF m 5 #[.val (.ref r0), .val (.long q1), .second, .val (.long ((((x + o2) * m2) &&& mk) ^^^ (((((x + o2) * m2) &&& mk).toUInt64 >>> (hs &&& 0x3f).toInt64.toUInt64).toInt64))), .second, .val (.int (3 : Int32))] [])) _
  exact kt
set_option maxRecDepth 65536 in
set_option maxHeartbeats 40000000 in
theorem turn_3 {p : Program} {l : Launch} {e : Env} {s : State} {m : MethodId} {args : Array Value} {below : List Frame} {meth : Method} {c : Code} {T0 : State} {locs : List Loc} {Z : State} {a0 : Array Value} {h0 : Heap} {n0 : Nat} (r0 : Addr) (q1 : Int64) (ao am : Addr) (ko km : ClassId) (o0 o1 o2 o3 m0 m1 m2 m3 mk : Int64) (hs : Int32) (x : Int64) {R : Room}
    (X0 : Stand p l e R s m args below meth c T0 locs 0 0) (hx : p.tables.exec = Jvm.exec) (hZ : Z.Warmed39 s.vm) (hw : ∀ d ∈ tables_1, d.before a0 Z = true) (hby : c.code = prog_31_method_4_code) (hml : c.maxLocals = 6) (hown : s.vm.findClass "com/example/gangleri/gangleri/generate/KroneckerGenerator" = some m.cls) (e0 : T0.heap = h0) (Z0 : n0 ≤ h0.size) (N0 : Fr n0 locs) (F_offsets : Fld Z h0 r0 "com/example/gangleri/gangleri/generate/KroneckerGenerator" "offsets" "[J" (.ref ao)) (F_multipliers : Fld Z h0 r0 "com/example/gangleri/gangleri/generate/KroneckerGenerator" "multipliers" "[J" (.ref am)) (F_halfScale : Fld Z h0 r0 "com/example/gangleri/gangleri/generate/KroneckerGenerator" "halfScale" "I" (.int hs)) (F_idMask : Fld Z h0 r0 "com/example/gangleri/gangleri/generate/KroneckerGenerator" "idMask" "J" (.long mk)) (V_ao : Arv Z h0 ao ko .long (4 : Int32) [(.long o0), (.long o1), (.long o2), (.long o3)] (.long (0 : Int64))) (V_am : Arv Z h0 am km .long (4 : Int32) [(.long m0), (.long m1), (.long m2), (.long m3)] (.long (0 : Int64))) :
    ∃ (T' : State) (locs' : List Loc), Stand p l e R s m args below meth c T' locs' 0 0 ∧ Fr n0 locs' ∧ T'.heap = h0 ∧ ∀ target, Steps p.tables e below (T'.setTop (mkF m 5 #[.val (.ref r0), .val (.long q1), .second, .val (.long (own_rd x o3 m3 mk hs)), .second, .val (.int (4 : Int32))] [])) target → Steps p.tables e below (T0.setTop (mkF m 5 #[.val (.ref r0), .val (.long q1), .second, .val (.long x), .second, .val (.int (3 : Int32))] [])) target := by
  obtain ⟨T1, X1, e1, st1⟩ := getF X0 hx hZ hown (host := "") (Or.inl (hw _ (List.mem_of_getElem? (i := 11) rfl))) Via.refl e0 F_offsets (g := (mkF m 13 #[.val (.ref r0), .val (.long q1), .second, .val (.long x), .second, .val (.int (3 : Int32))] [(.ref r0), (.long x)])) rfl rfl (hb hby d5_13)
  obtain ⟨cl_18_2, Ar_18_2, -, S_18_2, M_18_2, H_18_2, -⟩ := id V_ao
  have hin18_2 : ¬ ((3 : Int32) < 0 ∨ cl_18_2.slots.size ≤ ((3 : Int32)).toNatClampNeg) := inb_of S_18_2 ⟨by decide, by decide⟩
  have hat18_2 : cl_18_2.slots[((3 : Int32)).toNatClampNeg]? = some (.long o3) := H_18_2.at hin18_2 rfl
  obtain ⟨T3, X3, e3, st3⟩ := getF X1 hx hZ hown (host := "") (Or.inl (hw _ (List.mem_of_getElem? (i := 13) rfl))) Via.refl e1 F_multipliers (g := (mkF m 21 #[.val (.ref r0), .val (.long q1), .second, .val (.long x), .second, .val (.int (3 : Int32))] [(.ref r0), (.long (x + o3))])) rfl rfl (hb hby d5_21)
  obtain ⟨cl_26_4, Ar_26_4, -, S_26_4, M_26_4, H_26_4, -⟩ := id V_am
  have hin26_4 : ¬ ((3 : Int32) < 0 ∨ cl_26_4.slots.size ≤ ((3 : Int32)).toNatClampNeg) := inb_of S_26_4 ⟨by decide, by decide⟩
  have hat26_4 : cl_26_4.slots[((3 : Int32)).toNatClampNeg]? = some (.long m3) := H_26_4.at hin26_4 rfl
  obtain ⟨T5, X5, e5, st5⟩ := getF X3 hx hZ hown (host := "") (Or.inl (hw _ (List.mem_of_getElem? (i := 23) rfl))) Via.refl e3 F_idMask (g := (mkF m 29 #[.val (.ref r0), .val (.long q1), .second, .val (.long x), .second, .val (.int (3 : Int32))] [(.ref r0), (.long ((x + o3) * m3))])) rfl rfl (hb hby d5_29)
  obtain ⟨T6, X6, e6, st6⟩ := getF X5 hx hZ hown (host := "") (Or.inl (hw _ (List.mem_of_getElem? (i := 21) rfl))) Via.refl e5 F_halfScale (g := (mkF m 37 #[.val (.ref r0), .val (.long q1), .second, .val (.long (((x + o3) * m3) &&& mk)), .second, .val (.int (3 : Int32))] [(.ref r0), (.long (((x + o3) * m3) &&& mk)), (.long (((x + o3) * m3) &&& mk))])) rfl rfl (hb hby d5_37)
  refine ⟨T6, _, X6, N0, e6, fun target kt => ?_⟩
  show Steps p.tables e below (T0.setTop (mkF m 5 #[.val (.ref r0), .val (.long q1), .second, .val (.long x), .second, .val (.int (3 : Int32))] [])) _
  refine XS.iload X0.here hx rfl (hb hby d5_5) rfl ?_
  show Steps p.tables e below (T0.setTop (mkF m 7 #[.val (.ref r0), .val (.long q1), .second, .val (.long x), .second, .val (.int (3 : Int32))] [(.int (3 : Int32))])) _
  refine XS.iconst X0.here hx rfl (hb hby d5_7) ?_
  show Steps p.tables e below (T0.setTop (mkF m 8 #[.val (.ref r0), .val (.long q1), .second, .val (.long x), .second, .val (.int (3 : Int32))] [(.int (4 : Int32)), (.int (3 : Int32))])) _
  refine XS.icmpNo X0.here hx rfl (hb hby d5_8) rfl (tlt (by decide : (3 : Int32) < (4 : Int32))).2.1 ?_
  show Steps p.tables e below (T0.setTop (mkF m 11 #[.val (.ref r0), .val (.long q1), .second, .val (.long x), .second, .val (.int (3 : Int32))] [])) _
  refine XS.lloadN X0.here hx rfl (hb hby d5_11) rfl ?_
  show Steps p.tables e below (T0.setTop (mkF m 12 #[.val (.ref r0), .val (.long q1), .second, .val (.long x), .second, .val (.int (3 : Int32))] [(.long x)])) _
  refine XS.aloadN X0.here hx rfl (hb hby d5_12) rfl rfl ?_
  show Steps p.tables e below (T0.setTop (mkF m 13 #[.val (.ref r0), .val (.long q1), .second, .val (.long x), .second, .val (.int (3 : Int32))] [(.ref r0), (.long x)])) _
  refine st1 _ ?_
  show Steps p.tables e below (T1.setTop (mkF m 16 #[.val (.ref r0), .val (.long q1), .second, .val (.long x), .second, .val (.int (3 : Int32))] [(.ref ao), (.long x)])) _
  refine XS.iload X1.here hx rfl (hb hby d5_16) rfl ?_
  show Steps p.tables e below (T1.setTop (mkF m 18 #[.val (.ref r0), .val (.long q1), .second, .val (.long x), .second, .val (.int (3 : Int32))] [(.int (3 : Int32)), (.ref ao), (.long x)])) _
  refine X1.laload hx (j := (3 : Int32)) (v := (.long o3)) (by rw [e1]; exact Ar_18_2.1) (State.isArrayOf_alike hZ.alike Ar_18_2.2.1) Ar_18_2.2.2 hin18_2 hat18_2 (g := (mkF m 18 #[.val (.ref r0), .val (.long q1), .second, .val (.long x), .second, .val (.int (3 : Int32))] [(.int (3 : Int32)), (.ref ao), (.long x)])) rfl rfl (hb hby d5_18) _ ?_
  show Steps p.tables e below (T1.setTop (mkF m 19 #[.val (.ref r0), .val (.long q1), .second, .val (.long x), .second, .val (.int (3 : Int32))] [(.long o3), (.long x)])) _
  refine XS.ladd X1.here hx rfl (hb hby d5_19) rfl ?_
  show Steps p.tables e below (T1.setTop (mkF m 20 #[.val (.ref r0), .val (.long q1), .second, .val (.long x), .second, .val (.int (3 : Int32))] [(.long (x + o3))])) _
  refine XS.aloadN X1.here hx rfl (hb hby d5_20) rfl rfl ?_
  show Steps p.tables e below (T1.setTop (mkF m 21 #[.val (.ref r0), .val (.long q1), .second, .val (.long x), .second, .val (.int (3 : Int32))] [(.ref r0), (.long (x + o3))])) _
  refine st3 _ ?_
  show Steps p.tables e below (T3.setTop (mkF m 24 #[.val (.ref r0), .val (.long q1), .second, .val (.long x), .second, .val (.int (3 : Int32))] [(.ref am), (.long (x + o3))])) _
  refine XS.iload X3.here hx rfl (hb hby d5_24) rfl ?_
  show Steps p.tables e below (T3.setTop (mkF m 26 #[.val (.ref r0), .val (.long q1), .second, .val (.long x), .second, .val (.int (3 : Int32))] [(.int (3 : Int32)), (.ref am), (.long (x + o3))])) _
  refine X3.laload hx (j := (3 : Int32)) (v := (.long m3)) (by rw [e3]; exact Ar_26_4.1) (State.isArrayOf_alike hZ.alike Ar_26_4.2.1) Ar_26_4.2.2 hin26_4 hat26_4 (g := (mkF m 26 #[.val (.ref r0), .val (.long q1), .second, .val (.long x), .second, .val (.int (3 : Int32))] [(.int (3 : Int32)), (.ref am), (.long (x + o3))])) rfl rfl (hb hby d5_26) _ ?_
  show Steps p.tables e below (T3.setTop (mkF m 27 #[.val (.ref r0), .val (.long q1), .second, .val (.long x), .second, .val (.int (3 : Int32))] [(.long m3), (.long (x + o3))])) _
  refine XS.lmul X3.here hx rfl (hb hby d5_27) rfl ?_
  show Steps p.tables e below (T3.setTop (mkF m 28 #[.val (.ref r0), .val (.long q1), .second, .val (.long x), .second, .val (.int (3 : Int32))] [(.long ((x + o3) * m3))])) _
  refine XS.aloadN X3.here hx rfl (hb hby d5_28) rfl rfl ?_
  show Steps p.tables e below (T3.setTop (mkF m 29 #[.val (.ref r0), .val (.long q1), .second, .val (.long x), .second, .val (.int (3 : Int32))] [(.ref r0), (.long ((x + o3) * m3))])) _
  refine st5 _ ?_
  show Steps p.tables e below (T5.setTop (mkF m 32 #[.val (.ref r0), .val (.long q1), .second, .val (.long x), .second, .val (.int (3 : Int32))] [(.long mk), (.long ((x + o3) * m3))])) _
  refine XS.land X5.here hx rfl (hb hby d5_32) rfl ?_
  show Steps p.tables e below (T5.setTop (mkF m 33 #[.val (.ref r0), .val (.long q1), .second, .val (.long x), .second, .val (.int (3 : Int32))] [(.long (((x + o3) * m3) &&& mk))])) _
  refine XS.lstoreN X5.here hx rfl (hb hby d5_33) rfl (l' := #[.val (.ref r0), .val (.long q1), .second, .val (.long (((x + o3) * m3) &&& mk)), .second, .val (.int (3 : Int32))]) rfl ?_
  show Steps p.tables e below (T5.setTop (mkF m 34 #[.val (.ref r0), .val (.long q1), .second, .val (.long (((x + o3) * m3) &&& mk)), .second, .val (.int (3 : Int32))] [])) _
  refine XS.lloadN X5.here hx rfl (hb hby d5_34) rfl ?_
  show Steps p.tables e below (T5.setTop (mkF m 35 #[.val (.ref r0), .val (.long q1), .second, .val (.long (((x + o3) * m3) &&& mk)), .second, .val (.int (3 : Int32))] [(.long (((x + o3) * m3) &&& mk))])) _
  refine XS.lloadN X5.here hx rfl (hb hby d5_35) rfl ?_
  show Steps p.tables e below (T5.setTop (mkF m 36 #[.val (.ref r0), .val (.long q1), .second, .val (.long (((x + o3) * m3) &&& mk)), .second, .val (.int (3 : Int32))] [(.long (((x + o3) * m3) &&& mk)), (.long (((x + o3) * m3) &&& mk))])) _
  refine XS.aloadN X5.here hx rfl (hb hby d5_36) rfl rfl ?_
  show Steps p.tables e below (T5.setTop (mkF m 37 #[.val (.ref r0), .val (.long q1), .second, .val (.long (((x + o3) * m3) &&& mk)), .second, .val (.int (3 : Int32))] [(.ref r0), (.long (((x + o3) * m3) &&& mk)), (.long (((x + o3) * m3) &&& mk))])) _
  refine st6 _ ?_
  show Steps p.tables e below (T6.setTop (mkF m 40 #[.val (.ref r0), .val (.long q1), .second, .val (.long (((x + o3) * m3) &&& mk)), .second, .val (.int (3 : Int32))] [(.int hs), (.long (((x + o3) * m3) &&& mk)), (.long (((x + o3) * m3) &&& mk))])) _
  refine XS.lushr X6.here hx rfl (hb hby d5_40) rfl ?_
  show Steps p.tables e below (T6.setTop (mkF m 41 #[.val (.ref r0), .val (.long q1), .second, .val (.long (((x + o3) * m3) &&& mk)), .second, .val (.int (3 : Int32))] [(.long (((((x + o3) * m3) &&& mk).toUInt64 >>> (hs &&& 0x3f).toInt64.toUInt64).toInt64)), (.long (((x + o3) * m3) &&& mk))])) _
  refine XS.lxor X6.here hx rfl (hb hby d5_41) rfl ?_
  show Steps p.tables e below (T6.setTop (mkF m 42 #[.val (.ref r0), .val (.long q1), .second, .val (.long (((x + o3) * m3) &&& mk)), .second, .val (.int (3 : Int32))] [(.long ((((x + o3) * m3) &&& mk) ^^^ (((((x + o3) * m3) &&& mk).toUInt64 >>> (hs &&& 0x3f).toInt64.toUInt64).toInt64)))])) _
  refine XS.lstoreN X6.here hx rfl (hb hby d5_42) rfl (l' := #[.val (.ref r0), .val (.long q1), .second, .val (.long ((((x + o3) * m3) &&& mk) ^^^ (((((x + o3) * m3) &&& mk).toUInt64 >>> (hs &&& 0x3f).toInt64.toUInt64).toInt64))), .second, .val (.int (3 : Int32))]) rfl ?_
  show Steps p.tables e below (T6.setTop (mkF m 43 #[.val (.ref r0), .val (.long q1), .second, .val (.long ((((x + o3) * m3) &&& mk) ^^^ (((((x + o3) * m3) &&& mk).toUInt64 >>> (hs &&& 0x3f).toInt64.toUInt64).toInt64))), .second, .val (.int (3 : Int32))] [])) _
  refine XS.iinc X6.here hx rfl (hb hby d5_43) rfl (l' := #[.val (.ref r0), .val (.long q1), .second, .val (.long ((((x + o3) * m3) &&& mk) ^^^ (((((x + o3) * m3) &&& mk).toUInt64 >>> (hs &&& 0x3f).toInt64.toUInt64).toInt64))), .second, .val (.int (4 : Int32))]) rfl ?_
  show Steps p.tables e below (T6.setTop (mkF m 46 #[.val (.ref r0), .val (.long q1), .second, .val (.long ((((x + o3) * m3) &&& mk) ^^^ (((((x + o3) * m3) &&& mk).toUInt64 >>> (hs &&& 0x3f).toInt64.toUInt64).toInt64))), .second, .val (.int (4 : Int32))] [])) _
  refine XS.goto X6.here hx rfl (pc0 := 46) (pc' := 5) rfl (hb hby d5_46) (by decide) (by decide) ?_
  show Steps p.tables e below (T6.setTop (mkF m 5 #[.val (.ref r0), .val (.long q1), .second, .val (.long ((((x + o3) * m3) &&& mk) ^^^ (((((x + o3) * m3) &&& mk).toUInt64 >>> (hs &&& 0x3f).toInt64.toUInt64).toInt64))), .second, .val (.int (4 : Int32))] [])) _
  exact kt
theorem ef_5 (m : MethodId) (x0 : Addr) (x1 : Int64) : entryFrame m #[(.ref x0), (.long x1)] 6 = mkF m 0 #[.val (.ref x0), .val (.long x1), .second, .unset, .unset, .unset] [] := by first | (simp [entryFrame, mkF, argsToLocals, Value.category]; done) | rfl
theorem d5_0 : decode prog_31_method_4_code 0 = .ok (.lload_n 1, 1) := by decide +kernel
theorem d5_1 : decode prog_31_method_4_code 1 = .ok (.lstore_n 3, 1) := by decide +kernel
theorem d5_2 : decode prog_31_method_4_code 2 = .ok (.iconst 0, 1) := by decide +kernel
theorem d5_3 : decode prog_31_method_4_code 3 = .ok (.istore 5, 2) := by decide +kernel
theorem d5_49 : decode prog_31_method_4_code 49 = .ok (.lload_n 3, 1) := by decide +kernel
theorem d5_50 : decode prog_31_method_4_code 50 = .ok (.l2i, 1) := by decide +kernel
theorem d5_51 : decode prog_31_method_4_code 51 = .ok (.ireturn, 1) := by decide +kernel
def Q5 (Z : State) (r0 : Addr) (q1 : Int64) (ao am : Addr) (ko km : ClassId) (o0 o1 o2 o3 m0 m1 m2 m3 mk : Int64) (hs : Int32) (h0 : Heap) (n0 : Nat) (v : Option Value) (h : Heap) (L : List Loc) : Prop := v = some (.int ((own_rd (own_rd (own_rd (own_rd q1 o0 m0 mk hs) o1 m1 mk hs) o2 m2 mk hs) o3 m3 mk hs).toInt32)) ∧ Fr n0 L ∧ h = h0
set_option maxRecDepth 65536 in
set_option maxHeartbeats 40000000 in
theorem rm5 (l : Launch) (Z : State) (a0 : Array Value) (hw : ∀ d ∈ tables_1, d.before a0 Z = true) (ws : List Jvm.Cond) (r0 : Addr) (q1 : Int64) (ao am : Addr) (ko km : ClassId) (o0 o1 o2 o3 m0 m1 m2 m3 mk : Int64) (hs : Int32) (h0 : Heap) (n0 : Nat) (Z0 : n0 ≤ h0.size) (F_offsets : Fld Z h0 r0 "com/example/gangleri/gangleri/generate/KroneckerGenerator" "offsets" "[J" (.ref ao)) (F_multipliers : Fld Z h0 r0 "com/example/gangleri/gangleri/generate/KroneckerGenerator" "multipliers" "[J" (.ref am)) (F_halfScale : Fld Z h0 r0 "com/example/gangleri/gangleri/generate/KroneckerGenerator" "halfScale" "I" (.int hs)) (F_idMask : Fld Z h0 r0 "com/example/gangleri/gangleri/generate/KroneckerGenerator" "idMask" "J" (.long mk)) (V_ao : Arv Z h0 ao ko .long (4 : Int32) [(.long o0), (.long o1), (.long o2), (.long o3)] (.long (0 : Int64))) (V_am : Arv Z h0 am km .long (4 : Int32) [(.long m0), (.long m1), (.long m2), (.long m3)] (.long (0 : Int64))) :
    MetFree l (⟨"com/example/gangleri/gangleri/generate/KroneckerGenerator", "permute", "(J)I"⟩ : MethodName) (head1 (Jvm.Cond.code (⟨"com/example/gangleri/gangleri/generate/KroneckerGenerator", "permute", "(J)I"⟩ : MethodName) prog_31_method_4_code 6 (some .int) :: ws) ({ frames := 0, cells := 0, slots := 0, locals := 0 } : Room)) (fun a U => a = #[(.ref r0), (.long q1)] ∧ Z.Warmed39 U.vm ∧ U.heap = h0) (fun _ _ _ _ _ => True) (fun _ U o U' => ∃ v L, o = .returned v ∧ Q5 Z r0 q1 ao am ko km o0 o1 o2 o3 m0 m1 m2 m3 mk hs h0 n0 v U'.heap L ∧ FrameEnd U o U' L ({ frames := 0, cells := 0, slots := 0, locals := 0 } : Room).cells ({ frames := 0, cells := 0, slots := 0, locals := 0 } : Room).slots) := by
  refine MetFree.of_bodySF (plainFor_of_name pn_com_example_gangleri_gangleri_generate_KroneckerGenerator) hisR ?_
  intro p e s m args below meth c s₁ Bd hml0 hP hK
  obtain ⟨rfl, hZ, hh⟩ := hP
  have hx := Bd.exec
  have hby := Bd.bytes
  have hml : c.maxLocals = 6 := hml0
  have hown : s.vm.findClass "com/example/gangleri/gangleri/generate/KroneckerGenerator" = some m.cls := findClass_of_methodNamed Bd.named
  have hnm := (name_of_methodNamed Bd.named Bd.method).1
  have X0 : Stand p l e ({ frames := 0, cells := 0, slots := 0, locals := 0 } : Room) s m #[(.ref r0), (.long q1)] below meth c s₁ [] 0 0 := Stand.of_body Bd
  have e0 : s₁.heap = h0 := by rw [← hh, Bd.state]; rfl
  have N0 := Fr.nil n0
  have pre0 : ∀ t, Steps p.tables e below (s₁.setTop (mkF m 0 #[.val (.ref r0), .val (.long q1), .second, .unset, .unset, .unset] [])) t → Steps p.tables e below (s₁.setTop (entryFrame m #[(.ref r0), (.long q1)] 6)) t := fun t k => castTop (ef_5 m r0 q1) k
  obtain ⟨TT0, locs0, XT0, NT0, eT0, stT0⟩ := turn_0 r0 q1 ao am ko km o0 o1 o2 o3 m0 m1 m2 m3 mk hs q1 X0 hx hZ hw hby hml hown e0 Z0 N0 F_offsets F_multipliers F_halfScale F_idMask V_ao V_am
  obtain ⟨TT1, locs1, XT1, NT1, eT1, stT1⟩ := turn_1 r0 q1 ao am ko km o0 o1 o2 o3 m0 m1 m2 m3 mk hs (own_rd q1 o0 m0 mk hs) XT0 hx hZ hw hby hml hown eT0 Z0 NT0 F_offsets F_multipliers F_halfScale F_idMask V_ao V_am
  obtain ⟨TT2, locs2, XT2, NT2, eT2, stT2⟩ := turn_2 r0 q1 ao am ko km o0 o1 o2 o3 m0 m1 m2 m3 mk hs (own_rd (own_rd q1 o0 m0 mk hs) o1 m1 mk hs) XT1 hx hZ hw hby hml hown eT1 Z0 NT1 F_offsets F_multipliers F_halfScale F_idMask V_ao V_am
  obtain ⟨TT3, locs3, XT3, NT3, eT3, stT3⟩ := turn_3 r0 q1 ao am ko km o0 o1 o2 o3 m0 m1 m2 m3 mk hs (own_rd (own_rd (own_rd q1 o0 m0 mk hs) o1 m1 mk hs) o2 m2 mk hs) XT2 hx hZ hw hby hml hown eT2 Z0 NT2 F_offsets F_multipliers F_halfScale F_idMask V_ao V_am
  obtain ⟨fs, hr, hrun, hended, hW, hsame⟩ := XT3.leave (v := some (.int ((own_rd (own_rd (own_rd (own_rd q1 o0 m0 mk hs) o1 m1 mk hs) o2 m2 mk hs) o3 m3 mk hs).toInt32))) (fun h => by rw [Bd.returns] at h; cases h)
  refine ⟨_, _, pre0 _ ?_, hrun, hended, _, _, rfl, ?_, ⟨_, rfl⟩, hW, hsame.mono (by decide) (by decide)⟩
  · show Steps p.tables e below (s₁.setTop (mkF m 0 #[.val (.ref r0), .val (.long q1), .second, .unset, .unset, .unset] [])) _
    refine XS.lloadN X0.here hx rfl (hb hby d5_0) rfl ?_
    show Steps p.tables e below (s₁.setTop (mkF m 1 #[.val (.ref r0), .val (.long q1), .second, .unset, .unset, .unset] [(.long q1)])) _
    refine XS.lstoreN X0.here hx rfl (hb hby d5_1) rfl (l' := #[.val (.ref r0), .val (.long q1), .second, .val (.long q1), .second, .unset]) rfl ?_
    show Steps p.tables e below (s₁.setTop (mkF m 2 #[.val (.ref r0), .val (.long q1), .second, .val (.long q1), .second, .unset] [])) _
    refine XS.iconst X0.here hx rfl (hb hby d5_2) ?_
    show Steps p.tables e below (s₁.setTop (mkF m 3 #[.val (.ref r0), .val (.long q1), .second, .val (.long q1), .second, .unset] [(.int (0 : Int32))])) _
    refine XS.istore X0.here hx rfl (hb hby d5_3) rfl (l' := #[.val (.ref r0), .val (.long q1), .second, .val (.long q1), .second, .val (.int (0 : Int32))]) rfl ?_
    show Steps p.tables e below (s₁.setTop (mkF m 5 #[.val (.ref r0), .val (.long q1), .second, .val (.long q1), .second, .val (.int (0 : Int32))] [])) _
    refine stT0 _ ?_
    show Steps p.tables e below (TT0.setTop (mkF m 5 #[.val (.ref r0), .val (.long q1), .second, .val (.long (own_rd q1 o0 m0 mk hs)), .second, .val (.int (1 : Int32))] [])) _
    refine stT1 _ ?_
    show Steps p.tables e below (TT1.setTop (mkF m 5 #[.val (.ref r0), .val (.long q1), .second, .val (.long (own_rd (own_rd q1 o0 m0 mk hs) o1 m1 mk hs)), .second, .val (.int (2 : Int32))] [])) _
    refine stT2 _ ?_
    show Steps p.tables e below (TT2.setTop (mkF m 5 #[.val (.ref r0), .val (.long q1), .second, .val (.long (own_rd (own_rd (own_rd q1 o0 m0 mk hs) o1 m1 mk hs) o2 m2 mk hs)), .second, .val (.int (3 : Int32))] [])) _
    refine stT3 _ ?_
    show Steps p.tables e below (TT3.setTop (mkF m 5 #[.val (.ref r0), .val (.long q1), .second, .val (.long (own_rd (own_rd (own_rd (own_rd q1 o0 m0 mk hs) o1 m1 mk hs) o2 m2 mk hs) o3 m3 mk hs)), .second, .val (.int (4 : Int32))] [])) _
    refine XS.iload XT3.here hx rfl (hb hby d5_5) rfl ?_
    show Steps p.tables e below (TT3.setTop (mkF m 7 #[.val (.ref r0), .val (.long q1), .second, .val (.long (own_rd (own_rd (own_rd (own_rd q1 o0 m0 mk hs) o1 m1 mk hs) o2 m2 mk hs) o3 m3 mk hs)), .second, .val (.int (4 : Int32))] [(.int (4 : Int32))])) _
    refine XS.iconst XT3.here hx rfl (hb hby d5_7) ?_
    show Steps p.tables e below (TT3.setTop (mkF m 8 #[.val (.ref r0), .val (.long q1), .second, .val (.long (own_rd (own_rd (own_rd (own_rd q1 o0 m0 mk hs) o1 m1 mk hs) o2 m2 mk hs) o3 m3 mk hs)), .second, .val (.int (4 : Int32))] [(.int (4 : Int32)), (.int (4 : Int32))])) _
    refine XS.icmpYes XT3.here hx rfl (pc0 := 8) (pc' := 49) rfl (hb hby d5_8) rfl (flt (by decide : ¬ ((4 : Int32) < (4 : Int32)))).2.1 (by decide) (by decide) ?_
    show Steps p.tables e below (TT3.setTop (mkF m 49 #[.val (.ref r0), .val (.long q1), .second, .val (.long (own_rd (own_rd (own_rd (own_rd q1 o0 m0 mk hs) o1 m1 mk hs) o2 m2 mk hs) o3 m3 mk hs)), .second, .val (.int (4 : Int32))] [])) _
    refine XS.lloadN XT3.here hx rfl (hb hby d5_49) rfl ?_
    show Steps p.tables e below (TT3.setTop (mkF m 50 #[.val (.ref r0), .val (.long q1), .second, .val (.long (own_rd (own_rd (own_rd (own_rd q1 o0 m0 mk hs) o1 m1 mk hs) o2 m2 mk hs) o3 m3 mk hs)), .second, .val (.int (4 : Int32))] [(.long (own_rd (own_rd (own_rd (own_rd q1 o0 m0 mk hs) o1 m1 mk hs) o2 m2 mk hs) o3 m3 mk hs))])) _
    refine XS.l2i XT3.here hx rfl (hb hby d5_50) rfl ?_
    show Steps p.tables e below (TT3.setTop (mkF m 51 #[.val (.ref r0), .val (.long q1), .second, .val (.long (own_rd (own_rd (own_rd (own_rd q1 o0 m0 mk hs) o1 m1 mk hs) o2 m2 mk hs) o3 m3 mk hs)), .second, .val (.int (4 : Int32))] [(.int ((own_rd (own_rd (own_rd (own_rd q1 o0 m0 mk hs) o1 m1 mk hs) o2 m2 mk hs) o3 m3 mk hs).toInt32))])) _
    exact retI XT3 hx Bd.returns (hb hby d5_51) hr
  · show Q5 Z r0 q1 ao am ko km o0 o1 o2 o3 m0 m1 m2 m3 mk hs h0 n0 _ TT3.heap _
    rw [eT3]
    exact ⟨rfl, NT3, rfl⟩
set_option maxRecDepth 65536 in
set_option maxHeartbeats 40000000 in
theorem pc_11 {p : Program} {l : Launch} {e : Env} {R : Room} {s : State} {m : MethodId} {args : Array Value} {below : List Frame} {meth : Method} {c : Code} {T0 : State} {locs : List Loc} {cells slots : Nat} {Z : State} {a0 : Array Value} (p0 : Int32) (q1 q2 q3 : Int64)
    (X0 : Stand p l e R s m args below meth c T0 locs cells slots) (hx : p.tables.exec = Jvm.exec) (hZ : Z.Warmed39 s.vm) (hw : ∀ d ∈ tables_1, d.before a0 Z = true) (hby : c.code = code) (hown : s.vm.findClass "com/example/gangleri/gangleri/generate/KroneckerGeneratorPermutePinLaw" = some m.cls)  :
    ∀ target, Steps p.tables e below (T0.setTop (mkF m 11 #[.val (.int p0), .val (.long q1), .second, .val (.long q2), .second, .val (.long q3), .second, .val (.int (own_sc p0)), .unset, .unset, .unset, .unset, .unset, .unset, .unset, .unset, .unset, .unset, .unset, .unset] [])) target → Steps p.tables e below (T0.setTop (mkF m 0 #[.val (.int p0), .val (.long q1), .second, .val (.long q2), .second, .val (.long q3), .second, .unset, .unset, .unset, .unset, .unset, .unset, .unset, .unset, .unset, .unset, .unset, .unset, .unset] [])) target := by
  intro target kt
  show Steps p.tables e below (T0.setTop (mkF m 0 #[.val (.int p0), .val (.long q1), .second, .val (.long q2), .second, .val (.long q3), .second, .unset, .unset, .unset, .unset, .unset, .unset, .unset, .unset, .unset, .unset, .unset, .unset, .unset] [])) _
  refine XS.iconst X0.here hx rfl (hb hby at_0) ?_
  show Steps p.tables e below (T0.setTop (mkF m 1 #[.val (.int p0), .val (.long q1), .second, .val (.long q2), .second, .val (.long q3), .second, .unset, .unset, .unset, .unset, .unset, .unset, .unset, .unset, .unset, .unset, .unset, .unset, .unset] [(.int (1 : Int32))])) _
  refine XS.iloadN X0.here hx rfl (hb hby at_1) rfl ?_
  show Steps p.tables e below (T0.setTop (mkF m 2 #[.val (.int p0), .val (.long q1), .second, .val (.long q2), .second, .val (.long q3), .second, .unset, .unset, .unset, .unset, .unset, .unset, .unset, .unset, .unset, .unset, .unset, .unset, .unset] [(.int p0), (.int (1 : Int32))])) _
  refine X0.ldcInt hx hown (mvT hZ (hw _ (List.mem_of_getElem? (i := 0) rfl))) (g := (mkF m 2 #[.val (.int p0), .val (.long q1), .second, .val (.long q2), .second, .val (.long q3), .second, .unset, .unset, .unset, .unset, .unset, .unset, .unset, .unset, .unset, .unset, .unset, .unset, .unset] [(.int p0), (.int (1 : Int32))])) rfl (hb hby at_2) _ ?_
  show Steps p.tables e below (T0.setTop (mkF m 4 #[.val (.int p0), .val (.long q1), .second, .val (.long q2), .second, .val (.long q3), .second, .unset, .unset, .unset, .unset, .unset, .unset, .unset, .unset, .unset, .unset, .unset, .unset, .unset] [(.int (2147483647 : Int32)), (.int p0), (.int (1 : Int32))])) _
  refine XS.iand X0.here hx rfl (hb hby at_4) rfl ?_
  show Steps p.tables e below (T0.setTop (mkF m 5 #[.val (.int p0), .val (.long q1), .second, .val (.long q2), .second, .val (.long q3), .second, .unset, .unset, .unset, .unset, .unset, .unset, .unset, .unset, .unset, .unset, .unset, .unset, .unset] [(.int (p0 &&& (2147483647 : Int32))), (.int (1 : Int32))])) _
  refine XS.bipush X0.here hx rfl (hb hby at_5) ?_
  show Steps p.tables e below (T0.setTop (mkF m 7 #[.val (.int p0), .val (.long q1), .second, .val (.long q2), .second, .val (.long q3), .second, .unset, .unset, .unset, .unset, .unset, .unset, .unset, .unset, .unset, .unset, .unset, .unset, .unset] [(.int (31 : Int32)), (.int (p0 &&& (2147483647 : Int32))), (.int (1 : Int32))])) _
  refine XS.irem X0.here hx rfl (hb hby at_7) rfl (by decide) ?_
  show Steps p.tables e below (T0.setTop (mkF m 8 #[.val (.int p0), .val (.long q1), .second, .val (.long q2), .second, .val (.long q3), .second, .unset, .unset, .unset, .unset, .unset, .unset, .unset, .unset, .unset, .unset, .unset, .unset, .unset] [(.int ((p0 &&& (2147483647 : Int32)) - ((p0 &&& (2147483647 : Int32)) / (31 : Int32)) * (31 : Int32))), (.int (1 : Int32))])) _
  refine XS.iadd X0.here hx rfl (hb hby at_8) rfl ?_
  show Steps p.tables e below (T0.setTop (mkF m 9 #[.val (.int p0), .val (.long q1), .second, .val (.long q2), .second, .val (.long q3), .second, .unset, .unset, .unset, .unset, .unset, .unset, .unset, .unset, .unset, .unset, .unset, .unset, .unset] [(.int ((1 : Int32) + ((p0 &&& (2147483647 : Int32)) - ((p0 &&& (2147483647 : Int32)) / (31 : Int32)) * (31 : Int32))))])) _
  refine XS.istore X0.here hx rfl (hb hby at_9) rfl (l' := #[.val (.int p0), .val (.long q1), .second, .val (.long q2), .second, .val (.long q3), .second, .val (.int ((1 : Int32) + ((p0 &&& (2147483647 : Int32)) - ((p0 &&& (2147483647 : Int32)) / (31 : Int32)) * (31 : Int32)))), .unset, .unset, .unset, .unset, .unset, .unset, .unset, .unset, .unset, .unset, .unset, .unset]) rfl ?_
  show Steps p.tables e below (T0.setTop (mkF m 11 #[.val (.int p0), .val (.long q1), .second, .val (.long q2), .second, .val (.long q3), .second, .val (.int ((1 : Int32) + ((p0 &&& (2147483647 : Int32)) - ((p0 &&& (2147483647 : Int32)) / (31 : Int32)) * (31 : Int32)))), .unset, .unset, .unset, .unset, .unset, .unset, .unset, .unset, .unset, .unset, .unset, .unset] [])) _
  exact kt
theorem ef_0 (m : MethodId) (x0 : Int32) (x1 : Int64) (x2 : Int64) (x3 : Int64) : entryFrame m #[(.int x0), (.long x1), (.long x2), (.long x3)] maxLocals = mkF m 0 #[.val (.int x0), .val (.long x1), .second, .val (.long x2), .second, .val (.long x3), .second, .unset, .unset, .unset, .unset, .unset, .unset, .unset, .unset, .unset, .unset, .unset, .unset, .unset] [] := by first | (simp [entryFrame, mkF, argsToLocals, Value.category, maxLocals]; done) | rfl
theorem pd_28IIJ29V : parseMethodDescriptor "(IIJ)V" = some ⟨[.int, .int, .long], none⟩ := by decide +kernel
theorem pd_28J29I : parseMethodDescriptor "(J)I" = some ⟨[.long], some .int⟩ := by decide +kernel
theorem pd_28JJI29J : parseMethodDescriptor "(JJI)J" = some ⟨[.long, .long, .int], some .long⟩ := by decide +kernel
def Q0 (Z : State) (p0 : Int32) (q1 : Int64) (q2 : Int64) (q3 : Int64) (h0 : Heap) (n0 : Nat) (v : Option Value) (h : Heap) (L : List Loc) : Prop := v = some (.int 1) ∧ Fr n0 L
set_option maxRecDepth 65536 in
set_option maxHeartbeats 40000000 in
theorem rm0 (l : Launch) (Z : State) (a0 : Array Value) (hw : ∀ d ∈ tables_1, d.before a0 Z = true) (ws : List Jvm.Cond) (p0 : Int32) (q1 : Int64) (q2 : Int64) (q3 : Int64) (h0 : Heap) (n0 : Nat) (Z0 : n0 ≤ h0.size)  :
    MetFree l x (head1 (Jvm.Cond.code x code maxLocals ret :: ws) room_1) (fun a U => a = #[(.int p0), (.long q1), (.long q2), (.long q3)] ∧ Z.Warmed39 U.vm ∧ U.heap = h0) (fun _ _ _ _ _ => True) (fun _ U o U' => ∃ v L, o = .returned v ∧ Q0 Z p0 q1 q2 q3 h0 n0 v U'.heap L ∧ FrameEnd U o U' L room_1.cells room_1.slots) := by
  refine MetFree.of_bodySF (plainFor_of_name pn_com_example_gangleri_gangleri_generate_KroneckerGeneratorPermutePinLaw) hisR ?_
  intro p e s m args below meth c s₁ Bd hml0 hP hK
  obtain ⟨rfl, hZ, hh⟩ := hP
  have hx := Bd.exec
  have hby := Bd.bytes
  have hml : c.maxLocals = 20 := hml0
  have hown : s.vm.findClass "com/example/gangleri/gangleri/generate/KroneckerGeneratorPermutePinLaw" = some m.cls := findClass_of_methodNamed Bd.named
  have hnm := (name_of_methodNamed Bd.named Bd.method).1
  have X0 : Stand p l e room_1 s m #[(.int p0), (.long q1), (.long q2), (.long q3)] below meth c s₁ [] 0 0 := Stand.of_body Bd
  have e0 : s₁.heap = h0 := by rw [← hh, Bd.state]; rfl
  have N0 := Fr.nil n0
  have pre0 : ∀ t, Steps p.tables e below (s₁.setTop (mkF m 0 #[.val (.int p0), .val (.long q1), .second, .val (.long q2), .second, .val (.long q3), .second, .unset, .unset, .unset, .unset, .unset, .unset, .unset, .unset, .unset, .unset, .unset, .unset, .unset] [])) t → Steps p.tables e below (s₁.setTop (entryFrame m #[(.int p0), (.long q1), (.long q2), (.long q3)] maxLocals)) t := fun t k => castTop (ef_0 m p0 q1 q2 q3) k
  have sp0 := pc_11 p0 q1 q2 q3 X0 hx hZ hw hby hown
  obtain ⟨T1, h1, X1, e1, E1, A1, D1, -, st1⟩ := newO X0 hx hZ hown (hw _ (List.mem_of_getElem? (i := 1) rfl)) (hw _ (List.mem_of_getElem? (i := 2) rfl)) (hw _ (List.mem_of_getElem? (i := 3) rfl)) e0 (g := (mkF m 32 #[.val (.int p0), .val (.long q1), .second, .val (.long q2), .second, .val (.long q3), .second, .val (.int (own_sc p0)), .val (.long (((1 : Int64) <<< ((own_sc p0) &&& 0x3f).toInt64) - (1 : Int64))), .second, .val (.long (q2 &&& (((1 : Int64) <<< ((own_sc p0) &&& 0x3f).toInt64) - (1 : Int64)))), .second, .val (.long (q3 &&& (((1 : Int64) <<< ((own_sc p0) &&& 0x3f).toInt64) - (1 : Int64)))), .second, .unset, .unset, .unset, .unset, .unset, .unset] [])) rfl (hb hby at_32) (by decide) (by decide)
  obtain ⟨b1, g1⟩ : ∃ z, z = h0.size := ⟨_, rfl⟩
  rw [← g1] at A1 D1 st1
  have g_b1 : n0 ≤ b1 := Nat.le_trans Z0 (Nat.le_of_eq g1.symm)
  have Z1 : n0 ≤ h1.size := Nat.le_trans Z0 E1.1
  have F_offsets_b1_at1 : Fld Z h1 b1 "com/example/gangleri/gangleri/generate/KroneckerGenerator" "offsets" "[J" .null := D1 (Or.inr (hw _ (List.mem_of_getElem? (i := 12) rfl))) (ty := (.array .long)) (by decide)
  have F_multipliers_b1_at1 : Fld Z h1 b1 "com/example/gangleri/gangleri/generate/KroneckerGenerator" "multipliers" "[J" .null := D1 (Or.inr (hw _ (List.mem_of_getElem? (i := 14) rfl))) (ty := (.array .long)) (by decide)
  have F_scale_b1_at1 : Fld Z h1 b1 "com/example/gangleri/gangleri/generate/KroneckerGenerator" "scale" "I" (.int (0 : Int32)) := D1 (Or.inr (hw _ (List.mem_of_getElem? (i := 16) rfl))) (ty := .int) (by decide)
  have F_degree_b1_at1 : Fld Z h1 b1 "com/example/gangleri/gangleri/generate/KroneckerGenerator" "degree" "I" (.int (0 : Int32)) := D1 (Or.inr (hw _ (List.mem_of_getElem? (i := 18) rfl))) (ty := .int) (by decide)
  have F_seed_b1_at1 : Fld Z h1 b1 "com/example/gangleri/gangleri/generate/KroneckerGenerator" "seed" "J" (.long (0 : Int64)) := D1 (Or.inr (hw _ (List.mem_of_getElem? (i := 20) rfl))) (ty := .long) (by decide)
  have F_halfScale_b1_at1 : Fld Z h1 b1 "com/example/gangleri/gangleri/generate/KroneckerGenerator" "halfScale" "I" (.int (0 : Int32)) := D1 (Or.inr (hw _ (List.mem_of_getElem? (i := 22) rfl))) (ty := .int) (by decide)
  have F_idMask_b1_at1 : Fld Z h1 b1 "com/example/gangleri/gangleri/generate/KroneckerGenerator" "idMask" "J" (.long (0 : Int64)) := D1 (Or.inr (hw _ (List.mem_of_getElem? (i := 24) rfl))) (ty := .long) (by decide)
  have E_b1_at1 : Exa Z h1 b1 "com/example/gangleri/gangleri/generate/KroneckerGenerator" := A1
  obtain ⟨_, _, ⟨T2, L2, k2, n2⟩, -, X2, ⟨Lc2, hQ2, l2, y2, z2⟩, st2⟩ := X1.specialBack hx (y := (⟨"com/example/gangleri/gangleri/generate/KroneckerGenerator", "<init>", "(IIJ)V"⟩ : MethodName)) rfl hown (mvT hZ (hw _ (List.mem_of_getElem? (i := 4) rfl))) (mvT hZ (hw _ (List.mem_of_getElem? (i := 5) rfl))) (mvT hZ (hw _ (List.mem_of_getElem? (i := 6) rfl))) (by decide) (backOf (W := 1) (rm1 l Z a0 hw [] b1 (own_sc p0) (1 : Int32) q1 h1 n0 Z1 E_b1_at1 F_offsets_b1_at1 F_multipliers_b1_at1 F_scale_b1_at1 F_degree_b1_at1 F_seed_b1_at1 F_halfScale_b1_at1 F_idMask_b1_at1 g_b1 (own_sc1 p0) (own_sc2 p0) (by decide)) hZ (hw _ (List.mem_of_getElem? (i := 6) rfl)) (hw _ (List.mem_of_getElem? (i := 3) rfl)) (by decide) (by decide)) (g := (mkF m 40 #[.val (.int p0), .val (.long q1), .second, .val (.long q2), .second, .val (.long q3), .second, .val (.int (own_sc p0)), .val (.long (((1 : Int64) <<< ((own_sc p0) &&& 0x3f).toInt64) - (1 : Int64))), .second, .val (.long (q2 &&& (((1 : Int64) <<< ((own_sc p0) &&& 0x3f).toInt64) - (1 : Int64)))), .second, .val (.long (q3 &&& (((1 : Int64) <<< ((own_sc p0) &&& 0x3f).toInt64) - (1 : Int64)))), .second, .unset, .unset, .unset, .unset, .unset, .unset] [(.long q1), (.int (1 : Int32)), (.int (own_sc p0)), (.ref b1), (.ref b1)])) rfl (by rw [hml]; rfl) (Steps.refl _) (a := b1) (argsL := [(.int (own_sc p0)), (.int (1 : Int32)), (.long q1)]) (rest := [(.ref b1)]) (lenOf pd_28IIJ29V rfl) rfl (by show 2 * 0 + _ ≤ _; exact Nat.le_of_eq rfl) (hb hby at_40) (fun _ _ => ⟨rfl, e1, (by decide : 1 + 2 ≤ _), (by decide : 7 + 8 ≤ _)⟩)
  dsimp only [Pt.U, Pt.locs, Pt.cells, Pt.slots] at X2 l2 y2 z2 st2 hQ2
  subst l2 y2 z2
  obtain ⟨rfl, N2q, KK2, ao2, am2, ko2, km2, FO2, FM2, FH2, FK2, VO2, VM2⟩ := hQ2
  obtain ⟨h2, e2⟩ : ∃ z, T2.heap = z := ⟨_, rfl⟩
  rw [e2] at KK2 FO2 FM2 FH2 FK2 VO2 VM2
  have E_b1_at2 : Exa Z h2 b1 "com/example/gangleri/gangleri/generate/KroneckerGenerator" := E_b1_at1.keep KK2
  have Z2 : n0 ≤ h2.size := Nat.le_trans Z1 KK2.1
  have N2 := Fr.app N0 N2q
  obtain ⟨cq3, kq3, q3a, q3b, q3c⟩ := isOf hZ e2 E_b1_at2
  obtain ⟨_, _, ⟨T3, L3, k3, n3⟩, -, X3, ⟨Lc3, hQ3, l3, y3, z3⟩, st3⟩ := X2.virtualBack hx (y := (⟨"com/example/gangleri/gangleri/generate/KroneckerGenerator", "permute", "(J)I"⟩ : MethodName)) (z := (⟨"com/example/gangleri/gangleri/generate/KroneckerGenerator", "permute", "(J)I"⟩ : MethodName)) hown (mvT hZ (hw _ (List.mem_of_getElem? (i := 35) rfl))) (mvT hZ (hw _ (List.mem_of_getElem? (i := 36) rfl))) (notFace_of_selects (args := #[]) (mvT hZ (hw _ (List.mem_of_getElem? (i := 38) rfl)))) (mvT hZ (hw _ (List.mem_of_getElem? (i := 38) rfl))) (mvT hZ (hw _ (List.mem_of_getElem? (i := 37) rfl))) (by decide) (backOf (W := 0) (rm5 l Z a0 hw [] b1 (q2 &&& (((1 : Int64) <<< ((own_sc p0) &&& 0x3f).toInt64) - (1 : Int64))) ao2 am2 ko2 km2 (own_word q1 (0 : Int64)) (own_word q1 (2 : Int64)) (own_word q1 (4 : Int64)) (own_word q1 (6 : Int64)) ((own_word q1 (1 : Int64)) ||| (1 : Int64)) ((own_word q1 (3 : Int64)) ||| (1 : Int64)) ((own_word q1 (5 : Int64)) ||| (1 : Int64)) ((own_word q1 (7 : Int64)) ||| (1 : Int64)) (own_mk (own_sc p0)) (own_hs (own_sc p0)) h2 n0 Z2 FO2 FM2 FH2 FK2 VO2 VM2) hZ (hw _ (List.mem_of_getElem? (i := 39) rfl)) (hw _ (List.mem_of_getElem? (i := 3) rfl)) (by decide) (by decide)) q3a q3c (g := (mkF m 49 #[.val (.int p0), .val (.long q1), .second, .val (.long q2), .second, .val (.long q3), .second, .val (.int (own_sc p0)), .val (.long (((1 : Int64) <<< ((own_sc p0) &&& 0x3f).toInt64) - (1 : Int64))), .second, .val (.long (q2 &&& (((1 : Int64) <<< ((own_sc p0) &&& 0x3f).toInt64) - (1 : Int64)))), .second, .val (.long (q3 &&& (((1 : Int64) <<< ((own_sc p0) &&& 0x3f).toInt64) - (1 : Int64)))), .second, .val (.ref b1), .unset, .unset, .unset, .unset, .unset] [(.long (q2 &&& (((1 : Int64) <<< ((own_sc p0) &&& 0x3f).toInt64) - (1 : Int64)))), (.ref b1)])) rfl (by rw [hml]; rfl) (Steps.refl _) (argsL := [(.long (q2 &&& (((1 : Int64) <<< ((own_sc p0) &&& 0x3f).toInt64) - (1 : Int64))))]) (rest := []) (lenOf pd_28J29I rfl) rfl (by show 2 * 0 + _ ≤ _; exact Nat.le_of_eq rfl) (hb hby at_49) (fun _ _ => ⟨rfl, e2, (by decide : 3 + 0 ≤ _), (by decide : 15 + 0 ≤ _)⟩)
  dsimp only [Pt.U, Pt.locs, Pt.cells, Pt.slots] at X3 l3 y3 z3 st3 hQ3
  subst l3 y3 z3
  obtain ⟨rfl, N3q, e3⟩ := hQ3
  have N3 := Fr.app N2 N3q
  obtain ⟨cq4, kq4, q4a, q4b, q4c⟩ := isOf hZ e3 E_b1_at2
  obtain ⟨_, _, ⟨T4, L4, k4, n4⟩, -, X4, ⟨Lc4, hQ4, l4, y4, z4⟩, st4⟩ := X3.virtualBack hx (y := (⟨"com/example/gangleri/gangleri/generate/KroneckerGenerator", "permute", "(J)I"⟩ : MethodName)) (z := (⟨"com/example/gangleri/gangleri/generate/KroneckerGenerator", "permute", "(J)I"⟩ : MethodName)) hown (mvT hZ (hw _ (List.mem_of_getElem? (i := 35) rfl))) (mvT hZ (hw _ (List.mem_of_getElem? (i := 36) rfl))) (notFace_of_selects (args := #[]) (mvT hZ (hw _ (List.mem_of_getElem? (i := 38) rfl)))) (mvT hZ (hw _ (List.mem_of_getElem? (i := 38) rfl))) (mvT hZ (hw _ (List.mem_of_getElem? (i := 37) rfl))) (by decide) (backOf (W := 0) (rm5 l Z a0 hw [] b1 (q3 &&& (((1 : Int64) <<< ((own_sc p0) &&& 0x3f).toInt64) - (1 : Int64))) ao2 am2 ko2 km2 (own_word q1 (0 : Int64)) (own_word q1 (2 : Int64)) (own_word q1 (4 : Int64)) (own_word q1 (6 : Int64)) ((own_word q1 (1 : Int64)) ||| (1 : Int64)) ((own_word q1 (3 : Int64)) ||| (1 : Int64)) ((own_word q1 (5 : Int64)) ||| (1 : Int64)) ((own_word q1 (7 : Int64)) ||| (1 : Int64)) (own_mk (own_sc p0)) (own_hs (own_sc p0)) h2 n0 Z2 FO2 FM2 FH2 FK2 VO2 VM2) hZ (hw _ (List.mem_of_getElem? (i := 39) rfl)) (hw _ (List.mem_of_getElem? (i := 3) rfl)) (by decide) (by decide)) q4a q4c (g := (mkF m 58 #[.val (.int p0), .val (.long q1), .second, .val (.long q2), .second, .val (.long q3), .second, .val (.int (own_sc p0)), .val (.long (((1 : Int64) <<< ((own_sc p0) &&& 0x3f).toInt64) - (1 : Int64))), .second, .val (.long (q2 &&& (((1 : Int64) <<< ((own_sc p0) &&& 0x3f).toInt64) - (1 : Int64)))), .second, .val (.long (q3 &&& (((1 : Int64) <<< ((own_sc p0) &&& 0x3f).toInt64) - (1 : Int64)))), .second, .val (.ref b1), .val (.int (own_perm (q2 &&& (((1 : Int64) <<< ((own_sc p0) &&& 0x3f).toInt64) - (1 : Int64))) q1 (own_sc p0))), .unset, .unset, .unset, .unset] [(.long (q3 &&& (((1 : Int64) <<< ((own_sc p0) &&& 0x3f).toInt64) - (1 : Int64)))), (.ref b1)])) rfl (by rw [hml]; rfl) (Steps.refl _) (argsL := [(.long (q3 &&& (((1 : Int64) <<< ((own_sc p0) &&& 0x3f).toInt64) - (1 : Int64))))]) (rest := []) (lenOf pd_28J29I rfl) rfl (by show 2 * 0 + _ ≤ _; exact Nat.le_of_eq rfl) (hb hby at_58) (fun _ _ => ⟨rfl, e3, (by decide : 3 + 0 ≤ _), (by decide : 15 + 0 ≤ _)⟩)
  dsimp only [Pt.U, Pt.locs, Pt.cells, Pt.slots] at X4 l4 y4 z4 st4 hQ4
  subst l4 y4 z4
  obtain ⟨rfl, N4q, e4⟩ := hQ4
  have N4 := Fr.app N3 N4q
  obtain ⟨_, _, ⟨T5, L5, k5, n5⟩, -, X5, ⟨Lc5, hQ5, l5, y5, z5⟩, st5⟩ := Jvm.LawKit.callS X4 hx (y := (⟨"com/example/gangleri/gangleri/generate/KroneckerGeneratorPermutePinLaw", "reference", "(JJI)J"⟩ : MethodName)) hown (mvT hZ (hw _ (List.mem_of_getElem? (i := 40) rfl))) (mvT hZ (hw _ (List.mem_of_getElem? (i := 41) rfl))) (mvT hZ (hw _ (List.mem_of_getElem? (i := 42) rfl))) (mvT hZ (hw _ (List.mem_of_getElem? (i := 43) rfl))) (by decide) (backOf (W := 2) (rm6 l Z a0 hw [] (q2 &&& (((1 : Int64) <<< ((own_sc p0) &&& 0x3f).toInt64) - (1 : Int64))) q1 (own_sc p0) h2 n0 Z2) hZ (hw _ (List.mem_of_getElem? (i := 43) rfl)) (hw _ (List.mem_of_getElem? (i := 42) rfl)) (by decide) (by decide)) (g := (mkF m 71 #[.val (.int p0), .val (.long q1), .second, .val (.long q2), .second, .val (.long q3), .second, .val (.int (own_sc p0)), .val (.long (((1 : Int64) <<< ((own_sc p0) &&& 0x3f).toInt64) - (1 : Int64))), .second, .val (.long (q2 &&& (((1 : Int64) <<< ((own_sc p0) &&& 0x3f).toInt64) - (1 : Int64)))), .second, .val (.long (q3 &&& (((1 : Int64) <<< ((own_sc p0) &&& 0x3f).toInt64) - (1 : Int64)))), .second, .val (.ref b1), .val (.int (own_perm (q2 &&& (((1 : Int64) <<< ((own_sc p0) &&& 0x3f).toInt64) - (1 : Int64))) q1 (own_sc p0))), .val (.int (own_perm (q3 &&& (((1 : Int64) <<< ((own_sc p0) &&& 0x3f).toInt64) - (1 : Int64))) q1 (own_sc p0))), .unset, .unset, .unset] [(.int (own_sc p0)), (.long q1), (.long (q2 &&& (((1 : Int64) <<< ((own_sc p0) &&& 0x3f).toInt64) - (1 : Int64)))), (.long ((own_perm (q2 &&& (((1 : Int64) <<< ((own_sc p0) &&& 0x3f).toInt64) - (1 : Int64))) q1 (own_sc p0)).toInt64))])) rfl (by rw [hml]; rfl) (argsL := [(.long (q2 &&& (((1 : Int64) <<< ((own_sc p0) &&& 0x3f).toInt64) - (1 : Int64)))), (.long q1), (.int (own_sc p0))]) (rest := [(.long ((own_perm (q2 &&& (((1 : Int64) <<< ((own_sc p0) &&& 0x3f).toInt64) - (1 : Int64))) q1 (own_sc p0)).toInt64))]) (lenOf pd_28JJI29J rfl) rfl (by show 2 * 0 + _ ≤ _; exact Nat.le_of_eq rfl) (hb hby at_71) (fun _ _ => ⟨rfl, e4, (by decide : 3 + 0 ≤ _), (by decide : 15 + 0 ≤ _)⟩)
  dsimp only [Pt.U, Pt.locs, Pt.cells, Pt.slots] at X5 l5 y5 z5 st5 hQ5
  subst l5 y5 z5
  obtain ⟨rfl, N5q, e5⟩ := hQ5
  have N5 := Fr.app N4 N5q
  obtain ⟨_, _, ⟨T6, L6, k6, n6⟩, -, X6, ⟨Lc6, hQ6, l6, y6, z6⟩, st6⟩ := Jvm.LawKit.callS X5 hx (y := (⟨"com/example/gangleri/gangleri/generate/KroneckerGeneratorPermutePinLaw", "reference", "(JJI)J"⟩ : MethodName)) hown (mvT hZ (hw _ (List.mem_of_getElem? (i := 40) rfl))) (mvT hZ (hw _ (List.mem_of_getElem? (i := 41) rfl))) (mvT hZ (hw _ (List.mem_of_getElem? (i := 42) rfl))) (mvT hZ (hw _ (List.mem_of_getElem? (i := 43) rfl))) (by decide) (backOf (W := 2) (rm6 l Z a0 hw [] (q3 &&& (((1 : Int64) <<< ((own_sc p0) &&& 0x3f).toInt64) - (1 : Int64))) q1 (own_sc p0) h2 n0 Z2) hZ (hw _ (List.mem_of_getElem? (i := 43) rfl)) (hw _ (List.mem_of_getElem? (i := 42) rfl)) (by decide) (by decide)) (g := (mkF m 93 #[.val (.int p0), .val (.long q1), .second, .val (.long q2), .second, .val (.long q3), .second, .val (.int (own_sc p0)), .val (.long (((1 : Int64) <<< ((own_sc p0) &&& 0x3f).toInt64) - (1 : Int64))), .second, .val (.long (q2 &&& (((1 : Int64) <<< ((own_sc p0) &&& 0x3f).toInt64) - (1 : Int64)))), .second, .val (.long (q3 &&& (((1 : Int64) <<< ((own_sc p0) &&& 0x3f).toInt64) - (1 : Int64)))), .second, .val (.ref b1), .val (.int (own_perm (q2 &&& (((1 : Int64) <<< ((own_sc p0) &&& 0x3f).toInt64) - (1 : Int64))) q1 (own_sc p0))), .val (.int (own_perm (q3 &&& (((1 : Int64) <<< ((own_sc p0) &&& 0x3f).toInt64) - (1 : Int64))) q1 (own_sc p0))), .val (.int (1 : Int32)), .unset, .unset] [(.int (own_sc p0)), (.long q1), (.long (q3 &&& (((1 : Int64) <<< ((own_sc p0) &&& 0x3f).toInt64) - (1 : Int64)))), (.long ((own_perm (q3 &&& (((1 : Int64) <<< ((own_sc p0) &&& 0x3f).toInt64) - (1 : Int64))) q1 (own_sc p0)).toInt64))])) rfl (by rw [hml]; rfl) (argsL := [(.long (q3 &&& (((1 : Int64) <<< ((own_sc p0) &&& 0x3f).toInt64) - (1 : Int64)))), (.long q1), (.int (own_sc p0))]) (rest := [(.long ((own_perm (q3 &&& (((1 : Int64) <<< ((own_sc p0) &&& 0x3f).toInt64) - (1 : Int64))) q1 (own_sc p0)).toInt64))]) (lenOf pd_28JJI29J rfl) rfl (by show 2 * 0 + _ ≤ _; exact Nat.le_of_eq rfl) (hb hby at_93) (fun _ _ => ⟨rfl, e5, (by decide : 3 + 0 ≤ _), (by decide : 15 + 0 ≤ _)⟩)
  dsimp only [Pt.U, Pt.locs, Pt.cells, Pt.slots] at X6 l6 y6 z6 st6 hQ6
  subst l6 y6 z6
  obtain ⟨rfl, N6q, e6⟩ := hQ6
  have N6 := Fr.app N5 N6q
  obtain ⟨fs, hr, hrun, hended, hW, hsame⟩ := X6.leave (v := some (.int (1 : Int32))) (fun h => by rw [Bd.returns] at h; cases h)
  refine ⟨_, _, pre0 _ ?_, hrun, hended, _, _, rfl, ?_, ⟨_, rfl⟩, hW, hsame.mono (by decide) (by decide)⟩
  · show Steps p.tables e below (s₁.setTop (mkF m 0 #[.val (.int p0), .val (.long q1), .second, .val (.long q2), .second, .val (.long q3), .second, .unset, .unset, .unset, .unset, .unset, .unset, .unset, .unset, .unset, .unset, .unset, .unset, .unset] [])) _
    refine sp0 _ ?_
    show Steps p.tables e below (s₁.setTop (mkF m 11 #[.val (.int p0), .val (.long q1), .second, .val (.long q2), .second, .val (.long q3), .second, .val (.int (own_sc p0)), .unset, .unset, .unset, .unset, .unset, .unset, .unset, .unset, .unset, .unset, .unset, .unset] [])) _
    refine XS.lconst X0.here hx rfl (hb hby at_11) ?_
    show Steps p.tables e below (s₁.setTop (mkF m 12 #[.val (.int p0), .val (.long q1), .second, .val (.long q2), .second, .val (.long q3), .second, .val (.int (own_sc p0)), .unset, .unset, .unset, .unset, .unset, .unset, .unset, .unset, .unset, .unset, .unset, .unset] [(.long (1 : Int64))])) _
    refine XS.iload X0.here hx rfl (hb hby at_12) rfl ?_
    show Steps p.tables e below (s₁.setTop (mkF m 14 #[.val (.int p0), .val (.long q1), .second, .val (.long q2), .second, .val (.long q3), .second, .val (.int (own_sc p0)), .unset, .unset, .unset, .unset, .unset, .unset, .unset, .unset, .unset, .unset, .unset, .unset] [(.int (own_sc p0)), (.long (1 : Int64))])) _
    refine XS.lshl X0.here hx rfl (hb hby at_14) rfl ?_
    show Steps p.tables e below (s₁.setTop (mkF m 15 #[.val (.int p0), .val (.long q1), .second, .val (.long q2), .second, .val (.long q3), .second, .val (.int (own_sc p0)), .unset, .unset, .unset, .unset, .unset, .unset, .unset, .unset, .unset, .unset, .unset, .unset] [(.long ((1 : Int64) <<< ((own_sc p0) &&& 0x3f).toInt64))])) _
    refine XS.lconst X0.here hx rfl (hb hby at_15) ?_
    show Steps p.tables e below (s₁.setTop (mkF m 16 #[.val (.int p0), .val (.long q1), .second, .val (.long q2), .second, .val (.long q3), .second, .val (.int (own_sc p0)), .unset, .unset, .unset, .unset, .unset, .unset, .unset, .unset, .unset, .unset, .unset, .unset] [(.long (1 : Int64)), (.long ((1 : Int64) <<< ((own_sc p0) &&& 0x3f).toInt64))])) _
    refine XS.lsub X0.here hx rfl (hb hby at_16) rfl ?_
    show Steps p.tables e below (s₁.setTop (mkF m 17 #[.val (.int p0), .val (.long q1), .second, .val (.long q2), .second, .val (.long q3), .second, .val (.int (own_sc p0)), .unset, .unset, .unset, .unset, .unset, .unset, .unset, .unset, .unset, .unset, .unset, .unset] [(.long (((1 : Int64) <<< ((own_sc p0) &&& 0x3f).toInt64) - (1 : Int64)))])) _
    refine XS.lstore X0.here hx rfl (hb hby at_17) rfl (l' := #[.val (.int p0), .val (.long q1), .second, .val (.long q2), .second, .val (.long q3), .second, .val (.int (own_sc p0)), .val (.long (((1 : Int64) <<< ((own_sc p0) &&& 0x3f).toInt64) - (1 : Int64))), .second, .unset, .unset, .unset, .unset, .unset, .unset, .unset, .unset, .unset, .unset]) rfl ?_
    show Steps p.tables e below (s₁.setTop (mkF m 19 #[.val (.int p0), .val (.long q1), .second, .val (.long q2), .second, .val (.long q3), .second, .val (.int (own_sc p0)), .val (.long (((1 : Int64) <<< ((own_sc p0) &&& 0x3f).toInt64) - (1 : Int64))), .second, .unset, .unset, .unset, .unset, .unset, .unset, .unset, .unset, .unset, .unset] [])) _
    refine XS.lloadN X0.here hx rfl (hb hby at_19) rfl ?_
    show Steps p.tables e below (s₁.setTop (mkF m 20 #[.val (.int p0), .val (.long q1), .second, .val (.long q2), .second, .val (.long q3), .second, .val (.int (own_sc p0)), .val (.long (((1 : Int64) <<< ((own_sc p0) &&& 0x3f).toInt64) - (1 : Int64))), .second, .unset, .unset, .unset, .unset, .unset, .unset, .unset, .unset, .unset, .unset] [(.long q2)])) _
    refine XS.lload X0.here hx rfl (hb hby at_20) rfl ?_
    show Steps p.tables e below (s₁.setTop (mkF m 22 #[.val (.int p0), .val (.long q1), .second, .val (.long q2), .second, .val (.long q3), .second, .val (.int (own_sc p0)), .val (.long (((1 : Int64) <<< ((own_sc p0) &&& 0x3f).toInt64) - (1 : Int64))), .second, .unset, .unset, .unset, .unset, .unset, .unset, .unset, .unset, .unset, .unset] [(.long (((1 : Int64) <<< ((own_sc p0) &&& 0x3f).toInt64) - (1 : Int64))), (.long q2)])) _
    refine XS.land X0.here hx rfl (hb hby at_22) rfl ?_
    show Steps p.tables e below (s₁.setTop (mkF m 23 #[.val (.int p0), .val (.long q1), .second, .val (.long q2), .second, .val (.long q3), .second, .val (.int (own_sc p0)), .val (.long (((1 : Int64) <<< ((own_sc p0) &&& 0x3f).toInt64) - (1 : Int64))), .second, .unset, .unset, .unset, .unset, .unset, .unset, .unset, .unset, .unset, .unset] [(.long (q2 &&& (((1 : Int64) <<< ((own_sc p0) &&& 0x3f).toInt64) - (1 : Int64))))])) _
    refine XS.lstore X0.here hx rfl (hb hby at_23) rfl (l' := #[.val (.int p0), .val (.long q1), .second, .val (.long q2), .second, .val (.long q3), .second, .val (.int (own_sc p0)), .val (.long (((1 : Int64) <<< ((own_sc p0) &&& 0x3f).toInt64) - (1 : Int64))), .second, .val (.long (q2 &&& (((1 : Int64) <<< ((own_sc p0) &&& 0x3f).toInt64) - (1 : Int64)))), .second, .unset, .unset, .unset, .unset, .unset, .unset, .unset, .unset]) rfl ?_
    show Steps p.tables e below (s₁.setTop (mkF m 25 #[.val (.int p0), .val (.long q1), .second, .val (.long q2), .second, .val (.long q3), .second, .val (.int (own_sc p0)), .val (.long (((1 : Int64) <<< ((own_sc p0) &&& 0x3f).toInt64) - (1 : Int64))), .second, .val (.long (q2 &&& (((1 : Int64) <<< ((own_sc p0) &&& 0x3f).toInt64) - (1 : Int64)))), .second, .unset, .unset, .unset, .unset, .unset, .unset, .unset, .unset] [])) _
    refine XS.lload X0.here hx rfl (hb hby at_25) rfl ?_
    show Steps p.tables e below (s₁.setTop (mkF m 27 #[.val (.int p0), .val (.long q1), .second, .val (.long q2), .second, .val (.long q3), .second, .val (.int (own_sc p0)), .val (.long (((1 : Int64) <<< ((own_sc p0) &&& 0x3f).toInt64) - (1 : Int64))), .second, .val (.long (q2 &&& (((1 : Int64) <<< ((own_sc p0) &&& 0x3f).toInt64) - (1 : Int64)))), .second, .unset, .unset, .unset, .unset, .unset, .unset, .unset, .unset] [(.long q3)])) _
    refine XS.lload X0.here hx rfl (hb hby at_27) rfl ?_
    show Steps p.tables e below (s₁.setTop (mkF m 29 #[.val (.int p0), .val (.long q1), .second, .val (.long q2), .second, .val (.long q3), .second, .val (.int (own_sc p0)), .val (.long (((1 : Int64) <<< ((own_sc p0) &&& 0x3f).toInt64) - (1 : Int64))), .second, .val (.long (q2 &&& (((1 : Int64) <<< ((own_sc p0) &&& 0x3f).toInt64) - (1 : Int64)))), .second, .unset, .unset, .unset, .unset, .unset, .unset, .unset, .unset] [(.long (((1 : Int64) <<< ((own_sc p0) &&& 0x3f).toInt64) - (1 : Int64))), (.long q3)])) _
    refine XS.land X0.here hx rfl (hb hby at_29) rfl ?_
    show Steps p.tables e below (s₁.setTop (mkF m 30 #[.val (.int p0), .val (.long q1), .second, .val (.long q2), .second, .val (.long q3), .second, .val (.int (own_sc p0)), .val (.long (((1 : Int64) <<< ((own_sc p0) &&& 0x3f).toInt64) - (1 : Int64))), .second, .val (.long (q2 &&& (((1 : Int64) <<< ((own_sc p0) &&& 0x3f).toInt64) - (1 : Int64)))), .second, .unset, .unset, .unset, .unset, .unset, .unset, .unset, .unset] [(.long (q3 &&& (((1 : Int64) <<< ((own_sc p0) &&& 0x3f).toInt64) - (1 : Int64))))])) _
    refine XS.lstore X0.here hx rfl (hb hby at_30) rfl (l' := #[.val (.int p0), .val (.long q1), .second, .val (.long q2), .second, .val (.long q3), .second, .val (.int (own_sc p0)), .val (.long (((1 : Int64) <<< ((own_sc p0) &&& 0x3f).toInt64) - (1 : Int64))), .second, .val (.long (q2 &&& (((1 : Int64) <<< ((own_sc p0) &&& 0x3f).toInt64) - (1 : Int64)))), .second, .val (.long (q3 &&& (((1 : Int64) <<< ((own_sc p0) &&& 0x3f).toInt64) - (1 : Int64)))), .second, .unset, .unset, .unset, .unset, .unset, .unset]) rfl ?_
    show Steps p.tables e below (s₁.setTop (mkF m 32 #[.val (.int p0), .val (.long q1), .second, .val (.long q2), .second, .val (.long q3), .second, .val (.int (own_sc p0)), .val (.long (((1 : Int64) <<< ((own_sc p0) &&& 0x3f).toInt64) - (1 : Int64))), .second, .val (.long (q2 &&& (((1 : Int64) <<< ((own_sc p0) &&& 0x3f).toInt64) - (1 : Int64)))), .second, .val (.long (q3 &&& (((1 : Int64) <<< ((own_sc p0) &&& 0x3f).toInt64) - (1 : Int64)))), .second, .unset, .unset, .unset, .unset, .unset, .unset] [])) _
    refine st1 _ ?_
    show Steps p.tables e below (T1.setTop (mkF m 35 #[.val (.int p0), .val (.long q1), .second, .val (.long q2), .second, .val (.long q3), .second, .val (.int (own_sc p0)), .val (.long (((1 : Int64) <<< ((own_sc p0) &&& 0x3f).toInt64) - (1 : Int64))), .second, .val (.long (q2 &&& (((1 : Int64) <<< ((own_sc p0) &&& 0x3f).toInt64) - (1 : Int64)))), .second, .val (.long (q3 &&& (((1 : Int64) <<< ((own_sc p0) &&& 0x3f).toInt64) - (1 : Int64)))), .second, .unset, .unset, .unset, .unset, .unset, .unset] [(.ref b1)])) _
    refine XS.dup X1.here hx rfl (hb hby at_35) rfl rfl ?_
    show Steps p.tables e below (T1.setTop (mkF m 36 #[.val (.int p0), .val (.long q1), .second, .val (.long q2), .second, .val (.long q3), .second, .val (.int (own_sc p0)), .val (.long (((1 : Int64) <<< ((own_sc p0) &&& 0x3f).toInt64) - (1 : Int64))), .second, .val (.long (q2 &&& (((1 : Int64) <<< ((own_sc p0) &&& 0x3f).toInt64) - (1 : Int64)))), .second, .val (.long (q3 &&& (((1 : Int64) <<< ((own_sc p0) &&& 0x3f).toInt64) - (1 : Int64)))), .second, .unset, .unset, .unset, .unset, .unset, .unset] [(.ref b1), (.ref b1)])) _
    refine XS.iload X1.here hx rfl (hb hby at_36) rfl ?_
    show Steps p.tables e below (T1.setTop (mkF m 38 #[.val (.int p0), .val (.long q1), .second, .val (.long q2), .second, .val (.long q3), .second, .val (.int (own_sc p0)), .val (.long (((1 : Int64) <<< ((own_sc p0) &&& 0x3f).toInt64) - (1 : Int64))), .second, .val (.long (q2 &&& (((1 : Int64) <<< ((own_sc p0) &&& 0x3f).toInt64) - (1 : Int64)))), .second, .val (.long (q3 &&& (((1 : Int64) <<< ((own_sc p0) &&& 0x3f).toInt64) - (1 : Int64)))), .second, .unset, .unset, .unset, .unset, .unset, .unset] [(.int (own_sc p0)), (.ref b1), (.ref b1)])) _
    refine XS.iconst X1.here hx rfl (hb hby at_38) ?_
    show Steps p.tables e below (T1.setTop (mkF m 39 #[.val (.int p0), .val (.long q1), .second, .val (.long q2), .second, .val (.long q3), .second, .val (.int (own_sc p0)), .val (.long (((1 : Int64) <<< ((own_sc p0) &&& 0x3f).toInt64) - (1 : Int64))), .second, .val (.long (q2 &&& (((1 : Int64) <<< ((own_sc p0) &&& 0x3f).toInt64) - (1 : Int64)))), .second, .val (.long (q3 &&& (((1 : Int64) <<< ((own_sc p0) &&& 0x3f).toInt64) - (1 : Int64)))), .second, .unset, .unset, .unset, .unset, .unset, .unset] [(.int (1 : Int32)), (.int (own_sc p0)), (.ref b1), (.ref b1)])) _
    refine XS.lloadN X1.here hx rfl (hb hby at_39) rfl ?_
    show Steps p.tables e below (T1.setTop (mkF m 40 #[.val (.int p0), .val (.long q1), .second, .val (.long q2), .second, .val (.long q3), .second, .val (.int (own_sc p0)), .val (.long (((1 : Int64) <<< ((own_sc p0) &&& 0x3f).toInt64) - (1 : Int64))), .second, .val (.long (q2 &&& (((1 : Int64) <<< ((own_sc p0) &&& 0x3f).toInt64) - (1 : Int64)))), .second, .val (.long (q3 &&& (((1 : Int64) <<< ((own_sc p0) &&& 0x3f).toInt64) - (1 : Int64)))), .second, .unset, .unset, .unset, .unset, .unset, .unset] [(.long q1), (.int (1 : Int32)), (.int (own_sc p0)), (.ref b1), (.ref b1)])) _
    refine st2.trans ?_
    show Steps p.tables e below (T2.setTop (mkF m 43 #[.val (.int p0), .val (.long q1), .second, .val (.long q2), .second, .val (.long q3), .second, .val (.int (own_sc p0)), .val (.long (((1 : Int64) <<< ((own_sc p0) &&& 0x3f).toInt64) - (1 : Int64))), .second, .val (.long (q2 &&& (((1 : Int64) <<< ((own_sc p0) &&& 0x3f).toInt64) - (1 : Int64)))), .second, .val (.long (q3 &&& (((1 : Int64) <<< ((own_sc p0) &&& 0x3f).toInt64) - (1 : Int64)))), .second, .unset, .unset, .unset, .unset, .unset, .unset] [(.ref b1)])) _
    refine XS.astore X2.here hx rfl (hb hby at_43) rfl rfl (l' := #[.val (.int p0), .val (.long q1), .second, .val (.long q2), .second, .val (.long q3), .second, .val (.int (own_sc p0)), .val (.long (((1 : Int64) <<< ((own_sc p0) &&& 0x3f).toInt64) - (1 : Int64))), .second, .val (.long (q2 &&& (((1 : Int64) <<< ((own_sc p0) &&& 0x3f).toInt64) - (1 : Int64)))), .second, .val (.long (q3 &&& (((1 : Int64) <<< ((own_sc p0) &&& 0x3f).toInt64) - (1 : Int64)))), .second, .val (.ref b1), .unset, .unset, .unset, .unset, .unset]) rfl ?_
    show Steps p.tables e below (T2.setTop (mkF m 45 #[.val (.int p0), .val (.long q1), .second, .val (.long q2), .second, .val (.long q3), .second, .val (.int (own_sc p0)), .val (.long (((1 : Int64) <<< ((own_sc p0) &&& 0x3f).toInt64) - (1 : Int64))), .second, .val (.long (q2 &&& (((1 : Int64) <<< ((own_sc p0) &&& 0x3f).toInt64) - (1 : Int64)))), .second, .val (.long (q3 &&& (((1 : Int64) <<< ((own_sc p0) &&& 0x3f).toInt64) - (1 : Int64)))), .second, .val (.ref b1), .unset, .unset, .unset, .unset, .unset] [])) _
    refine XS.aload X2.here hx rfl (hb hby at_45) rfl rfl ?_
    show Steps p.tables e below (T2.setTop (mkF m 47 #[.val (.int p0), .val (.long q1), .second, .val (.long q2), .second, .val (.long q3), .second, .val (.int (own_sc p0)), .val (.long (((1 : Int64) <<< ((own_sc p0) &&& 0x3f).toInt64) - (1 : Int64))), .second, .val (.long (q2 &&& (((1 : Int64) <<< ((own_sc p0) &&& 0x3f).toInt64) - (1 : Int64)))), .second, .val (.long (q3 &&& (((1 : Int64) <<< ((own_sc p0) &&& 0x3f).toInt64) - (1 : Int64)))), .second, .val (.ref b1), .unset, .unset, .unset, .unset, .unset] [(.ref b1)])) _
    refine XS.lload X2.here hx rfl (hb hby at_47) rfl ?_
    show Steps p.tables e below (T2.setTop (mkF m 49 #[.val (.int p0), .val (.long q1), .second, .val (.long q2), .second, .val (.long q3), .second, .val (.int (own_sc p0)), .val (.long (((1 : Int64) <<< ((own_sc p0) &&& 0x3f).toInt64) - (1 : Int64))), .second, .val (.long (q2 &&& (((1 : Int64) <<< ((own_sc p0) &&& 0x3f).toInt64) - (1 : Int64)))), .second, .val (.long (q3 &&& (((1 : Int64) <<< ((own_sc p0) &&& 0x3f).toInt64) - (1 : Int64)))), .second, .val (.ref b1), .unset, .unset, .unset, .unset, .unset] [(.long (q2 &&& (((1 : Int64) <<< ((own_sc p0) &&& 0x3f).toInt64) - (1 : Int64)))), (.ref b1)])) _
    refine st3.trans ?_
    show Steps p.tables e below (T3.setTop (mkF m 52 #[.val (.int p0), .val (.long q1), .second, .val (.long q2), .second, .val (.long q3), .second, .val (.int (own_sc p0)), .val (.long (((1 : Int64) <<< ((own_sc p0) &&& 0x3f).toInt64) - (1 : Int64))), .second, .val (.long (q2 &&& (((1 : Int64) <<< ((own_sc p0) &&& 0x3f).toInt64) - (1 : Int64)))), .second, .val (.long (q3 &&& (((1 : Int64) <<< ((own_sc p0) &&& 0x3f).toInt64) - (1 : Int64)))), .second, .val (.ref b1), .unset, .unset, .unset, .unset, .unset] [(.int (own_perm (q2 &&& (((1 : Int64) <<< ((own_sc p0) &&& 0x3f).toInt64) - (1 : Int64))) q1 (own_sc p0)))])) _
    refine XS.istore X3.here hx rfl (hb hby at_52) rfl (l' := #[.val (.int p0), .val (.long q1), .second, .val (.long q2), .second, .val (.long q3), .second, .val (.int (own_sc p0)), .val (.long (((1 : Int64) <<< ((own_sc p0) &&& 0x3f).toInt64) - (1 : Int64))), .second, .val (.long (q2 &&& (((1 : Int64) <<< ((own_sc p0) &&& 0x3f).toInt64) - (1 : Int64)))), .second, .val (.long (q3 &&& (((1 : Int64) <<< ((own_sc p0) &&& 0x3f).toInt64) - (1 : Int64)))), .second, .val (.ref b1), .val (.int (own_perm (q2 &&& (((1 : Int64) <<< ((own_sc p0) &&& 0x3f).toInt64) - (1 : Int64))) q1 (own_sc p0))), .unset, .unset, .unset, .unset]) rfl ?_
    show Steps p.tables e below (T3.setTop (mkF m 54 #[.val (.int p0), .val (.long q1), .second, .val (.long q2), .second, .val (.long q3), .second, .val (.int (own_sc p0)), .val (.long (((1 : Int64) <<< ((own_sc p0) &&& 0x3f).toInt64) - (1 : Int64))), .second, .val (.long (q2 &&& (((1 : Int64) <<< ((own_sc p0) &&& 0x3f).toInt64) - (1 : Int64)))), .second, .val (.long (q3 &&& (((1 : Int64) <<< ((own_sc p0) &&& 0x3f).toInt64) - (1 : Int64)))), .second, .val (.ref b1), .val (.int (own_perm (q2 &&& (((1 : Int64) <<< ((own_sc p0) &&& 0x3f).toInt64) - (1 : Int64))) q1 (own_sc p0))), .unset, .unset, .unset, .unset] [])) _
    refine XS.aload X3.here hx rfl (hb hby at_54) rfl rfl ?_
    show Steps p.tables e below (T3.setTop (mkF m 56 #[.val (.int p0), .val (.long q1), .second, .val (.long q2), .second, .val (.long q3), .second, .val (.int (own_sc p0)), .val (.long (((1 : Int64) <<< ((own_sc p0) &&& 0x3f).toInt64) - (1 : Int64))), .second, .val (.long (q2 &&& (((1 : Int64) <<< ((own_sc p0) &&& 0x3f).toInt64) - (1 : Int64)))), .second, .val (.long (q3 &&& (((1 : Int64) <<< ((own_sc p0) &&& 0x3f).toInt64) - (1 : Int64)))), .second, .val (.ref b1), .val (.int (own_perm (q2 &&& (((1 : Int64) <<< ((own_sc p0) &&& 0x3f).toInt64) - (1 : Int64))) q1 (own_sc p0))), .unset, .unset, .unset, .unset] [(.ref b1)])) _
    refine XS.lload X3.here hx rfl (hb hby at_56) rfl ?_
    show Steps p.tables e below (T3.setTop (mkF m 58 #[.val (.int p0), .val (.long q1), .second, .val (.long q2), .second, .val (.long q3), .second, .val (.int (own_sc p0)), .val (.long (((1 : Int64) <<< ((own_sc p0) &&& 0x3f).toInt64) - (1 : Int64))), .second, .val (.long (q2 &&& (((1 : Int64) <<< ((own_sc p0) &&& 0x3f).toInt64) - (1 : Int64)))), .second, .val (.long (q3 &&& (((1 : Int64) <<< ((own_sc p0) &&& 0x3f).toInt64) - (1 : Int64)))), .second, .val (.ref b1), .val (.int (own_perm (q2 &&& (((1 : Int64) <<< ((own_sc p0) &&& 0x3f).toInt64) - (1 : Int64))) q1 (own_sc p0))), .unset, .unset, .unset, .unset] [(.long (q3 &&& (((1 : Int64) <<< ((own_sc p0) &&& 0x3f).toInt64) - (1 : Int64)))), (.ref b1)])) _
    refine st4.trans ?_
    show Steps p.tables e below (T4.setTop (mkF m 61 #[.val (.int p0), .val (.long q1), .second, .val (.long q2), .second, .val (.long q3), .second, .val (.int (own_sc p0)), .val (.long (((1 : Int64) <<< ((own_sc p0) &&& 0x3f).toInt64) - (1 : Int64))), .second, .val (.long (q2 &&& (((1 : Int64) <<< ((own_sc p0) &&& 0x3f).toInt64) - (1 : Int64)))), .second, .val (.long (q3 &&& (((1 : Int64) <<< ((own_sc p0) &&& 0x3f).toInt64) - (1 : Int64)))), .second, .val (.ref b1), .val (.int (own_perm (q2 &&& (((1 : Int64) <<< ((own_sc p0) &&& 0x3f).toInt64) - (1 : Int64))) q1 (own_sc p0))), .unset, .unset, .unset, .unset] [(.int (own_perm (q3 &&& (((1 : Int64) <<< ((own_sc p0) &&& 0x3f).toInt64) - (1 : Int64))) q1 (own_sc p0)))])) _
    refine XS.istore X4.here hx rfl (hb hby at_61) rfl (l' := #[.val (.int p0), .val (.long q1), .second, .val (.long q2), .second, .val (.long q3), .second, .val (.int (own_sc p0)), .val (.long (((1 : Int64) <<< ((own_sc p0) &&& 0x3f).toInt64) - (1 : Int64))), .second, .val (.long (q2 &&& (((1 : Int64) <<< ((own_sc p0) &&& 0x3f).toInt64) - (1 : Int64)))), .second, .val (.long (q3 &&& (((1 : Int64) <<< ((own_sc p0) &&& 0x3f).toInt64) - (1 : Int64)))), .second, .val (.ref b1), .val (.int (own_perm (q2 &&& (((1 : Int64) <<< ((own_sc p0) &&& 0x3f).toInt64) - (1 : Int64))) q1 (own_sc p0))), .val (.int (own_perm (q3 &&& (((1 : Int64) <<< ((own_sc p0) &&& 0x3f).toInt64) - (1 : Int64))) q1 (own_sc p0))), .unset, .unset, .unset]) rfl ?_
    show Steps p.tables e below (T4.setTop (mkF m 63 #[.val (.int p0), .val (.long q1), .second, .val (.long q2), .second, .val (.long q3), .second, .val (.int (own_sc p0)), .val (.long (((1 : Int64) <<< ((own_sc p0) &&& 0x3f).toInt64) - (1 : Int64))), .second, .val (.long (q2 &&& (((1 : Int64) <<< ((own_sc p0) &&& 0x3f).toInt64) - (1 : Int64)))), .second, .val (.long (q3 &&& (((1 : Int64) <<< ((own_sc p0) &&& 0x3f).toInt64) - (1 : Int64)))), .second, .val (.ref b1), .val (.int (own_perm (q2 &&& (((1 : Int64) <<< ((own_sc p0) &&& 0x3f).toInt64) - (1 : Int64))) q1 (own_sc p0))), .val (.int (own_perm (q3 &&& (((1 : Int64) <<< ((own_sc p0) &&& 0x3f).toInt64) - (1 : Int64))) q1 (own_sc p0))), .unset, .unset, .unset] [])) _
    refine XS.iload X4.here hx rfl (hb hby at_63) rfl ?_
    show Steps p.tables e below (T4.setTop (mkF m 65 #[.val (.int p0), .val (.long q1), .second, .val (.long q2), .second, .val (.long q3), .second, .val (.int (own_sc p0)), .val (.long (((1 : Int64) <<< ((own_sc p0) &&& 0x3f).toInt64) - (1 : Int64))), .second, .val (.long (q2 &&& (((1 : Int64) <<< ((own_sc p0) &&& 0x3f).toInt64) - (1 : Int64)))), .second, .val (.long (q3 &&& (((1 : Int64) <<< ((own_sc p0) &&& 0x3f).toInt64) - (1 : Int64)))), .second, .val (.ref b1), .val (.int (own_perm (q2 &&& (((1 : Int64) <<< ((own_sc p0) &&& 0x3f).toInt64) - (1 : Int64))) q1 (own_sc p0))), .val (.int (own_perm (q3 &&& (((1 : Int64) <<< ((own_sc p0) &&& 0x3f).toInt64) - (1 : Int64))) q1 (own_sc p0))), .unset, .unset, .unset] [(.int (own_perm (q2 &&& (((1 : Int64) <<< ((own_sc p0) &&& 0x3f).toInt64) - (1 : Int64))) q1 (own_sc p0)))])) _
    refine XS.i2l X4.here hx rfl (hb hby at_65) rfl ?_
    show Steps p.tables e below (T4.setTop (mkF m 66 #[.val (.int p0), .val (.long q1), .second, .val (.long q2), .second, .val (.long q3), .second, .val (.int (own_sc p0)), .val (.long (((1 : Int64) <<< ((own_sc p0) &&& 0x3f).toInt64) - (1 : Int64))), .second, .val (.long (q2 &&& (((1 : Int64) <<< ((own_sc p0) &&& 0x3f).toInt64) - (1 : Int64)))), .second, .val (.long (q3 &&& (((1 : Int64) <<< ((own_sc p0) &&& 0x3f).toInt64) - (1 : Int64)))), .second, .val (.ref b1), .val (.int (own_perm (q2 &&& (((1 : Int64) <<< ((own_sc p0) &&& 0x3f).toInt64) - (1 : Int64))) q1 (own_sc p0))), .val (.int (own_perm (q3 &&& (((1 : Int64) <<< ((own_sc p0) &&& 0x3f).toInt64) - (1 : Int64))) q1 (own_sc p0))), .unset, .unset, .unset] [(.long ((own_perm (q2 &&& (((1 : Int64) <<< ((own_sc p0) &&& 0x3f).toInt64) - (1 : Int64))) q1 (own_sc p0)).toInt64))])) _
    refine XS.lload X4.here hx rfl (hb hby at_66) rfl ?_
    show Steps p.tables e below (T4.setTop (mkF m 68 #[.val (.int p0), .val (.long q1), .second, .val (.long q2), .second, .val (.long q3), .second, .val (.int (own_sc p0)), .val (.long (((1 : Int64) <<< ((own_sc p0) &&& 0x3f).toInt64) - (1 : Int64))), .second, .val (.long (q2 &&& (((1 : Int64) <<< ((own_sc p0) &&& 0x3f).toInt64) - (1 : Int64)))), .second, .val (.long (q3 &&& (((1 : Int64) <<< ((own_sc p0) &&& 0x3f).toInt64) - (1 : Int64)))), .second, .val (.ref b1), .val (.int (own_perm (q2 &&& (((1 : Int64) <<< ((own_sc p0) &&& 0x3f).toInt64) - (1 : Int64))) q1 (own_sc p0))), .val (.int (own_perm (q3 &&& (((1 : Int64) <<< ((own_sc p0) &&& 0x3f).toInt64) - (1 : Int64))) q1 (own_sc p0))), .unset, .unset, .unset] [(.long (q2 &&& (((1 : Int64) <<< ((own_sc p0) &&& 0x3f).toInt64) - (1 : Int64)))), (.long ((own_perm (q2 &&& (((1 : Int64) <<< ((own_sc p0) &&& 0x3f).toInt64) - (1 : Int64))) q1 (own_sc p0)).toInt64))])) _
    refine XS.lloadN X4.here hx rfl (hb hby at_68) rfl ?_
    show Steps p.tables e below (T4.setTop (mkF m 69 #[.val (.int p0), .val (.long q1), .second, .val (.long q2), .second, .val (.long q3), .second, .val (.int (own_sc p0)), .val (.long (((1 : Int64) <<< ((own_sc p0) &&& 0x3f).toInt64) - (1 : Int64))), .second, .val (.long (q2 &&& (((1 : Int64) <<< ((own_sc p0) &&& 0x3f).toInt64) - (1 : Int64)))), .second, .val (.long (q3 &&& (((1 : Int64) <<< ((own_sc p0) &&& 0x3f).toInt64) - (1 : Int64)))), .second, .val (.ref b1), .val (.int (own_perm (q2 &&& (((1 : Int64) <<< ((own_sc p0) &&& 0x3f).toInt64) - (1 : Int64))) q1 (own_sc p0))), .val (.int (own_perm (q3 &&& (((1 : Int64) <<< ((own_sc p0) &&& 0x3f).toInt64) - (1 : Int64))) q1 (own_sc p0))), .unset, .unset, .unset] [(.long q1), (.long (q2 &&& (((1 : Int64) <<< ((own_sc p0) &&& 0x3f).toInt64) - (1 : Int64)))), (.long ((own_perm (q2 &&& (((1 : Int64) <<< ((own_sc p0) &&& 0x3f).toInt64) - (1 : Int64))) q1 (own_sc p0)).toInt64))])) _
    refine XS.iload X4.here hx rfl (hb hby at_69) rfl ?_
    show Steps p.tables e below (T4.setTop (mkF m 71 #[.val (.int p0), .val (.long q1), .second, .val (.long q2), .second, .val (.long q3), .second, .val (.int (own_sc p0)), .val (.long (((1 : Int64) <<< ((own_sc p0) &&& 0x3f).toInt64) - (1 : Int64))), .second, .val (.long (q2 &&& (((1 : Int64) <<< ((own_sc p0) &&& 0x3f).toInt64) - (1 : Int64)))), .second, .val (.long (q3 &&& (((1 : Int64) <<< ((own_sc p0) &&& 0x3f).toInt64) - (1 : Int64)))), .second, .val (.ref b1), .val (.int (own_perm (q2 &&& (((1 : Int64) <<< ((own_sc p0) &&& 0x3f).toInt64) - (1 : Int64))) q1 (own_sc p0))), .val (.int (own_perm (q3 &&& (((1 : Int64) <<< ((own_sc p0) &&& 0x3f).toInt64) - (1 : Int64))) q1 (own_sc p0))), .unset, .unset, .unset] [(.int (own_sc p0)), (.long q1), (.long (q2 &&& (((1 : Int64) <<< ((own_sc p0) &&& 0x3f).toInt64) - (1 : Int64)))), (.long ((own_perm (q2 &&& (((1 : Int64) <<< ((own_sc p0) &&& 0x3f).toInt64) - (1 : Int64))) q1 (own_sc p0)).toInt64))])) _
    refine st5 _ ?_
    show Steps p.tables e below (T5.setTop (mkF m 74 #[.val (.int p0), .val (.long q1), .second, .val (.long q2), .second, .val (.long q3), .second, .val (.int (own_sc p0)), .val (.long (((1 : Int64) <<< ((own_sc p0) &&& 0x3f).toInt64) - (1 : Int64))), .second, .val (.long (q2 &&& (((1 : Int64) <<< ((own_sc p0) &&& 0x3f).toInt64) - (1 : Int64)))), .second, .val (.long (q3 &&& (((1 : Int64) <<< ((own_sc p0) &&& 0x3f).toInt64) - (1 : Int64)))), .second, .val (.ref b1), .val (.int (own_perm (q2 &&& (((1 : Int64) <<< ((own_sc p0) &&& 0x3f).toInt64) - (1 : Int64))) q1 (own_sc p0))), .val (.int (own_perm (q3 &&& (((1 : Int64) <<< ((own_sc p0) &&& 0x3f).toInt64) - (1 : Int64))) q1 (own_sc p0))), .unset, .unset, .unset] [(.long (own_ref (q2 &&& (((1 : Int64) <<< ((own_sc p0) &&& 0x3f).toInt64) - (1 : Int64))) q1 (own_sc p0))), (.long ((own_perm (q2 &&& (((1 : Int64) <<< ((own_sc p0) &&& 0x3f).toInt64) - (1 : Int64))) q1 (own_sc p0)).toInt64))])) _
    refine XS.lcmp X5.here hx rfl (hb hby at_74) rfl ?_
    show Steps p.tables e below (T5.setTop (mkF m 75 #[.val (.int p0), .val (.long q1), .second, .val (.long q2), .second, .val (.long q3), .second, .val (.int (own_sc p0)), .val (.long (((1 : Int64) <<< ((own_sc p0) &&& 0x3f).toInt64) - (1 : Int64))), .second, .val (.long (q2 &&& (((1 : Int64) <<< ((own_sc p0) &&& 0x3f).toInt64) - (1 : Int64)))), .second, .val (.long (q3 &&& (((1 : Int64) <<< ((own_sc p0) &&& 0x3f).toInt64) - (1 : Int64)))), .second, .val (.ref b1), .val (.int (own_perm (q2 &&& (((1 : Int64) <<< ((own_sc p0) &&& 0x3f).toInt64) - (1 : Int64))) q1 (own_sc p0))), .val (.int (own_perm (q3 &&& (((1 : Int64) <<< ((own_sc p0) &&& 0x3f).toInt64) - (1 : Int64))) q1 (own_sc p0))), .unset, .unset, .unset] [(.int (lcmpW ((own_perm (q2 &&& (((1 : Int64) <<< ((own_sc p0) &&& 0x3f).toInt64) - (1 : Int64))) q1 (own_sc p0)).toInt64) (own_ref (q2 &&& (((1 : Int64) <<< ((own_sc p0) &&& 0x3f).toInt64) - (1 : Int64))) q1 (own_sc p0))))])) _
    refine XS.ifNo X5.here hx rfl (hb hby at_75) rfl ((if0 _ _).trans (teq ((lw_eq _ _).mpr (own_main p0 q1 q2).1)).2) ?_
    show Steps p.tables e below (T5.setTop (mkF m 78 #[.val (.int p0), .val (.long q1), .second, .val (.long q2), .second, .val (.long q3), .second, .val (.int (own_sc p0)), .val (.long (((1 : Int64) <<< ((own_sc p0) &&& 0x3f).toInt64) - (1 : Int64))), .second, .val (.long (q2 &&& (((1 : Int64) <<< ((own_sc p0) &&& 0x3f).toInt64) - (1 : Int64)))), .second, .val (.long (q3 &&& (((1 : Int64) <<< ((own_sc p0) &&& 0x3f).toInt64) - (1 : Int64)))), .second, .val (.ref b1), .val (.int (own_perm (q2 &&& (((1 : Int64) <<< ((own_sc p0) &&& 0x3f).toInt64) - (1 : Int64))) q1 (own_sc p0))), .val (.int (own_perm (q3 &&& (((1 : Int64) <<< ((own_sc p0) &&& 0x3f).toInt64) - (1 : Int64))) q1 (own_sc p0))), .unset, .unset, .unset] [])) _
    refine XS.iconst X5.here hx rfl (hb hby at_78) ?_
    show Steps p.tables e below (T5.setTop (mkF m 79 #[.val (.int p0), .val (.long q1), .second, .val (.long q2), .second, .val (.long q3), .second, .val (.int (own_sc p0)), .val (.long (((1 : Int64) <<< ((own_sc p0) &&& 0x3f).toInt64) - (1 : Int64))), .second, .val (.long (q2 &&& (((1 : Int64) <<< ((own_sc p0) &&& 0x3f).toInt64) - (1 : Int64)))), .second, .val (.long (q3 &&& (((1 : Int64) <<< ((own_sc p0) &&& 0x3f).toInt64) - (1 : Int64)))), .second, .val (.ref b1), .val (.int (own_perm (q2 &&& (((1 : Int64) <<< ((own_sc p0) &&& 0x3f).toInt64) - (1 : Int64))) q1 (own_sc p0))), .val (.int (own_perm (q3 &&& (((1 : Int64) <<< ((own_sc p0) &&& 0x3f).toInt64) - (1 : Int64))) q1 (own_sc p0))), .unset, .unset, .unset] [(.int (1 : Int32))])) _
    refine XS.goto X5.here hx rfl (pc0 := 79) (pc' := 83) rfl (hb hby at_79) (by decide) (by decide) ?_
    show Steps p.tables e below (T5.setTop (mkF m 83 #[.val (.int p0), .val (.long q1), .second, .val (.long q2), .second, .val (.long q3), .second, .val (.int (own_sc p0)), .val (.long (((1 : Int64) <<< ((own_sc p0) &&& 0x3f).toInt64) - (1 : Int64))), .second, .val (.long (q2 &&& (((1 : Int64) <<< ((own_sc p0) &&& 0x3f).toInt64) - (1 : Int64)))), .second, .val (.long (q3 &&& (((1 : Int64) <<< ((own_sc p0) &&& 0x3f).toInt64) - (1 : Int64)))), .second, .val (.ref b1), .val (.int (own_perm (q2 &&& (((1 : Int64) <<< ((own_sc p0) &&& 0x3f).toInt64) - (1 : Int64))) q1 (own_sc p0))), .val (.int (own_perm (q3 &&& (((1 : Int64) <<< ((own_sc p0) &&& 0x3f).toInt64) - (1 : Int64))) q1 (own_sc p0))), .unset, .unset, .unset] [(.int (1 : Int32))])) _
    refine XS.istore X5.here hx rfl (hb hby at_83) rfl (l' := #[.val (.int p0), .val (.long q1), .second, .val (.long q2), .second, .val (.long q3), .second, .val (.int (own_sc p0)), .val (.long (((1 : Int64) <<< ((own_sc p0) &&& 0x3f).toInt64) - (1 : Int64))), .second, .val (.long (q2 &&& (((1 : Int64) <<< ((own_sc p0) &&& 0x3f).toInt64) - (1 : Int64)))), .second, .val (.long (q3 &&& (((1 : Int64) <<< ((own_sc p0) &&& 0x3f).toInt64) - (1 : Int64)))), .second, .val (.ref b1), .val (.int (own_perm (q2 &&& (((1 : Int64) <<< ((own_sc p0) &&& 0x3f).toInt64) - (1 : Int64))) q1 (own_sc p0))), .val (.int (own_perm (q3 &&& (((1 : Int64) <<< ((own_sc p0) &&& 0x3f).toInt64) - (1 : Int64))) q1 (own_sc p0))), .val (.int (1 : Int32)), .unset, .unset]) rfl ?_
    show Steps p.tables e below (T5.setTop (mkF m 85 #[.val (.int p0), .val (.long q1), .second, .val (.long q2), .second, .val (.long q3), .second, .val (.int (own_sc p0)), .val (.long (((1 : Int64) <<< ((own_sc p0) &&& 0x3f).toInt64) - (1 : Int64))), .second, .val (.long (q2 &&& (((1 : Int64) <<< ((own_sc p0) &&& 0x3f).toInt64) - (1 : Int64)))), .second, .val (.long (q3 &&& (((1 : Int64) <<< ((own_sc p0) &&& 0x3f).toInt64) - (1 : Int64)))), .second, .val (.ref b1), .val (.int (own_perm (q2 &&& (((1 : Int64) <<< ((own_sc p0) &&& 0x3f).toInt64) - (1 : Int64))) q1 (own_sc p0))), .val (.int (own_perm (q3 &&& (((1 : Int64) <<< ((own_sc p0) &&& 0x3f).toInt64) - (1 : Int64))) q1 (own_sc p0))), .val (.int (1 : Int32)), .unset, .unset] [])) _
    refine XS.iload X5.here hx rfl (hb hby at_85) rfl ?_
    show Steps p.tables e below (T5.setTop (mkF m 87 #[.val (.int p0), .val (.long q1), .second, .val (.long q2), .second, .val (.long q3), .second, .val (.int (own_sc p0)), .val (.long (((1 : Int64) <<< ((own_sc p0) &&& 0x3f).toInt64) - (1 : Int64))), .second, .val (.long (q2 &&& (((1 : Int64) <<< ((own_sc p0) &&& 0x3f).toInt64) - (1 : Int64)))), .second, .val (.long (q3 &&& (((1 : Int64) <<< ((own_sc p0) &&& 0x3f).toInt64) - (1 : Int64)))), .second, .val (.ref b1), .val (.int (own_perm (q2 &&& (((1 : Int64) <<< ((own_sc p0) &&& 0x3f).toInt64) - (1 : Int64))) q1 (own_sc p0))), .val (.int (own_perm (q3 &&& (((1 : Int64) <<< ((own_sc p0) &&& 0x3f).toInt64) - (1 : Int64))) q1 (own_sc p0))), .val (.int (1 : Int32)), .unset, .unset] [(.int (own_perm (q3 &&& (((1 : Int64) <<< ((own_sc p0) &&& 0x3f).toInt64) - (1 : Int64))) q1 (own_sc p0)))])) _
    refine XS.i2l X5.here hx rfl (hb hby at_87) rfl ?_
    show Steps p.tables e below (T5.setTop (mkF m 88 #[.val (.int p0), .val (.long q1), .second, .val (.long q2), .second, .val (.long q3), .second, .val (.int (own_sc p0)), .val (.long (((1 : Int64) <<< ((own_sc p0) &&& 0x3f).toInt64) - (1 : Int64))), .second, .val (.long (q2 &&& (((1 : Int64) <<< ((own_sc p0) &&& 0x3f).toInt64) - (1 : Int64)))), .second, .val (.long (q3 &&& (((1 : Int64) <<< ((own_sc p0) &&& 0x3f).toInt64) - (1 : Int64)))), .second, .val (.ref b1), .val (.int (own_perm (q2 &&& (((1 : Int64) <<< ((own_sc p0) &&& 0x3f).toInt64) - (1 : Int64))) q1 (own_sc p0))), .val (.int (own_perm (q3 &&& (((1 : Int64) <<< ((own_sc p0) &&& 0x3f).toInt64) - (1 : Int64))) q1 (own_sc p0))), .val (.int (1 : Int32)), .unset, .unset] [(.long ((own_perm (q3 &&& (((1 : Int64) <<< ((own_sc p0) &&& 0x3f).toInt64) - (1 : Int64))) q1 (own_sc p0)).toInt64))])) _
    refine XS.lload X5.here hx rfl (hb hby at_88) rfl ?_
    show Steps p.tables e below (T5.setTop (mkF m 90 #[.val (.int p0), .val (.long q1), .second, .val (.long q2), .second, .val (.long q3), .second, .val (.int (own_sc p0)), .val (.long (((1 : Int64) <<< ((own_sc p0) &&& 0x3f).toInt64) - (1 : Int64))), .second, .val (.long (q2 &&& (((1 : Int64) <<< ((own_sc p0) &&& 0x3f).toInt64) - (1 : Int64)))), .second, .val (.long (q3 &&& (((1 : Int64) <<< ((own_sc p0) &&& 0x3f).toInt64) - (1 : Int64)))), .second, .val (.ref b1), .val (.int (own_perm (q2 &&& (((1 : Int64) <<< ((own_sc p0) &&& 0x3f).toInt64) - (1 : Int64))) q1 (own_sc p0))), .val (.int (own_perm (q3 &&& (((1 : Int64) <<< ((own_sc p0) &&& 0x3f).toInt64) - (1 : Int64))) q1 (own_sc p0))), .val (.int (1 : Int32)), .unset, .unset] [(.long (q3 &&& (((1 : Int64) <<< ((own_sc p0) &&& 0x3f).toInt64) - (1 : Int64)))), (.long ((own_perm (q3 &&& (((1 : Int64) <<< ((own_sc p0) &&& 0x3f).toInt64) - (1 : Int64))) q1 (own_sc p0)).toInt64))])) _
    refine XS.lloadN X5.here hx rfl (hb hby at_90) rfl ?_
    show Steps p.tables e below (T5.setTop (mkF m 91 #[.val (.int p0), .val (.long q1), .second, .val (.long q2), .second, .val (.long q3), .second, .val (.int (own_sc p0)), .val (.long (((1 : Int64) <<< ((own_sc p0) &&& 0x3f).toInt64) - (1 : Int64))), .second, .val (.long (q2 &&& (((1 : Int64) <<< ((own_sc p0) &&& 0x3f).toInt64) - (1 : Int64)))), .second, .val (.long (q3 &&& (((1 : Int64) <<< ((own_sc p0) &&& 0x3f).toInt64) - (1 : Int64)))), .second, .val (.ref b1), .val (.int (own_perm (q2 &&& (((1 : Int64) <<< ((own_sc p0) &&& 0x3f).toInt64) - (1 : Int64))) q1 (own_sc p0))), .val (.int (own_perm (q3 &&& (((1 : Int64) <<< ((own_sc p0) &&& 0x3f).toInt64) - (1 : Int64))) q1 (own_sc p0))), .val (.int (1 : Int32)), .unset, .unset] [(.long q1), (.long (q3 &&& (((1 : Int64) <<< ((own_sc p0) &&& 0x3f).toInt64) - (1 : Int64)))), (.long ((own_perm (q3 &&& (((1 : Int64) <<< ((own_sc p0) &&& 0x3f).toInt64) - (1 : Int64))) q1 (own_sc p0)).toInt64))])) _
    refine XS.iload X5.here hx rfl (hb hby at_91) rfl ?_
    show Steps p.tables e below (T5.setTop (mkF m 93 #[.val (.int p0), .val (.long q1), .second, .val (.long q2), .second, .val (.long q3), .second, .val (.int (own_sc p0)), .val (.long (((1 : Int64) <<< ((own_sc p0) &&& 0x3f).toInt64) - (1 : Int64))), .second, .val (.long (q2 &&& (((1 : Int64) <<< ((own_sc p0) &&& 0x3f).toInt64) - (1 : Int64)))), .second, .val (.long (q3 &&& (((1 : Int64) <<< ((own_sc p0) &&& 0x3f).toInt64) - (1 : Int64)))), .second, .val (.ref b1), .val (.int (own_perm (q2 &&& (((1 : Int64) <<< ((own_sc p0) &&& 0x3f).toInt64) - (1 : Int64))) q1 (own_sc p0))), .val (.int (own_perm (q3 &&& (((1 : Int64) <<< ((own_sc p0) &&& 0x3f).toInt64) - (1 : Int64))) q1 (own_sc p0))), .val (.int (1 : Int32)), .unset, .unset] [(.int (own_sc p0)), (.long q1), (.long (q3 &&& (((1 : Int64) <<< ((own_sc p0) &&& 0x3f).toInt64) - (1 : Int64)))), (.long ((own_perm (q3 &&& (((1 : Int64) <<< ((own_sc p0) &&& 0x3f).toInt64) - (1 : Int64))) q1 (own_sc p0)).toInt64))])) _
    refine st6 _ ?_
    show Steps p.tables e below (T6.setTop (mkF m 96 #[.val (.int p0), .val (.long q1), .second, .val (.long q2), .second, .val (.long q3), .second, .val (.int (own_sc p0)), .val (.long (((1 : Int64) <<< ((own_sc p0) &&& 0x3f).toInt64) - (1 : Int64))), .second, .val (.long (q2 &&& (((1 : Int64) <<< ((own_sc p0) &&& 0x3f).toInt64) - (1 : Int64)))), .second, .val (.long (q3 &&& (((1 : Int64) <<< ((own_sc p0) &&& 0x3f).toInt64) - (1 : Int64)))), .second, .val (.ref b1), .val (.int (own_perm (q2 &&& (((1 : Int64) <<< ((own_sc p0) &&& 0x3f).toInt64) - (1 : Int64))) q1 (own_sc p0))), .val (.int (own_perm (q3 &&& (((1 : Int64) <<< ((own_sc p0) &&& 0x3f).toInt64) - (1 : Int64))) q1 (own_sc p0))), .val (.int (1 : Int32)), .unset, .unset] [(.long (own_ref (q3 &&& (((1 : Int64) <<< ((own_sc p0) &&& 0x3f).toInt64) - (1 : Int64))) q1 (own_sc p0))), (.long ((own_perm (q3 &&& (((1 : Int64) <<< ((own_sc p0) &&& 0x3f).toInt64) - (1 : Int64))) q1 (own_sc p0)).toInt64))])) _
    refine XS.lcmp X6.here hx rfl (hb hby at_96) rfl ?_
    show Steps p.tables e below (T6.setTop (mkF m 97 #[.val (.int p0), .val (.long q1), .second, .val (.long q2), .second, .val (.long q3), .second, .val (.int (own_sc p0)), .val (.long (((1 : Int64) <<< ((own_sc p0) &&& 0x3f).toInt64) - (1 : Int64))), .second, .val (.long (q2 &&& (((1 : Int64) <<< ((own_sc p0) &&& 0x3f).toInt64) - (1 : Int64)))), .second, .val (.long (q3 &&& (((1 : Int64) <<< ((own_sc p0) &&& 0x3f).toInt64) - (1 : Int64)))), .second, .val (.ref b1), .val (.int (own_perm (q2 &&& (((1 : Int64) <<< ((own_sc p0) &&& 0x3f).toInt64) - (1 : Int64))) q1 (own_sc p0))), .val (.int (own_perm (q3 &&& (((1 : Int64) <<< ((own_sc p0) &&& 0x3f).toInt64) - (1 : Int64))) q1 (own_sc p0))), .val (.int (1 : Int32)), .unset, .unset] [(.int (lcmpW ((own_perm (q3 &&& (((1 : Int64) <<< ((own_sc p0) &&& 0x3f).toInt64) - (1 : Int64))) q1 (own_sc p0)).toInt64) (own_ref (q3 &&& (((1 : Int64) <<< ((own_sc p0) &&& 0x3f).toInt64) - (1 : Int64))) q1 (own_sc p0))))])) _
    refine XS.ifNo X6.here hx rfl (hb hby at_97) rfl ((if0 _ _).trans (teq ((lw_eq _ _).mpr (own_main p0 q1 q3).1)).2) ?_
    show Steps p.tables e below (T6.setTop (mkF m 100 #[.val (.int p0), .val (.long q1), .second, .val (.long q2), .second, .val (.long q3), .second, .val (.int (own_sc p0)), .val (.long (((1 : Int64) <<< ((own_sc p0) &&& 0x3f).toInt64) - (1 : Int64))), .second, .val (.long (q2 &&& (((1 : Int64) <<< ((own_sc p0) &&& 0x3f).toInt64) - (1 : Int64)))), .second, .val (.long (q3 &&& (((1 : Int64) <<< ((own_sc p0) &&& 0x3f).toInt64) - (1 : Int64)))), .second, .val (.ref b1), .val (.int (own_perm (q2 &&& (((1 : Int64) <<< ((own_sc p0) &&& 0x3f).toInt64) - (1 : Int64))) q1 (own_sc p0))), .val (.int (own_perm (q3 &&& (((1 : Int64) <<< ((own_sc p0) &&& 0x3f).toInt64) - (1 : Int64))) q1 (own_sc p0))), .val (.int (1 : Int32)), .unset, .unset] [])) _
    refine XS.iconst X6.here hx rfl (hb hby at_100) ?_
    show Steps p.tables e below (T6.setTop (mkF m 101 #[.val (.int p0), .val (.long q1), .second, .val (.long q2), .second, .val (.long q3), .second, .val (.int (own_sc p0)), .val (.long (((1 : Int64) <<< ((own_sc p0) &&& 0x3f).toInt64) - (1 : Int64))), .second, .val (.long (q2 &&& (((1 : Int64) <<< ((own_sc p0) &&& 0x3f).toInt64) - (1 : Int64)))), .second, .val (.long (q3 &&& (((1 : Int64) <<< ((own_sc p0) &&& 0x3f).toInt64) - (1 : Int64)))), .second, .val (.ref b1), .val (.int (own_perm (q2 &&& (((1 : Int64) <<< ((own_sc p0) &&& 0x3f).toInt64) - (1 : Int64))) q1 (own_sc p0))), .val (.int (own_perm (q3 &&& (((1 : Int64) <<< ((own_sc p0) &&& 0x3f).toInt64) - (1 : Int64))) q1 (own_sc p0))), .val (.int (1 : Int32)), .unset, .unset] [(.int (1 : Int32))])) _
    refine XS.goto X6.here hx rfl (pc0 := 101) (pc' := 105) rfl (hb hby at_101) (by decide) (by decide) ?_
    show Steps p.tables e below (T6.setTop (mkF m 105 #[.val (.int p0), .val (.long q1), .second, .val (.long q2), .second, .val (.long q3), .second, .val (.int (own_sc p0)), .val (.long (((1 : Int64) <<< ((own_sc p0) &&& 0x3f).toInt64) - (1 : Int64))), .second, .val (.long (q2 &&& (((1 : Int64) <<< ((own_sc p0) &&& 0x3f).toInt64) - (1 : Int64)))), .second, .val (.long (q3 &&& (((1 : Int64) <<< ((own_sc p0) &&& 0x3f).toInt64) - (1 : Int64)))), .second, .val (.ref b1), .val (.int (own_perm (q2 &&& (((1 : Int64) <<< ((own_sc p0) &&& 0x3f).toInt64) - (1 : Int64))) q1 (own_sc p0))), .val (.int (own_perm (q3 &&& (((1 : Int64) <<< ((own_sc p0) &&& 0x3f).toInt64) - (1 : Int64))) q1 (own_sc p0))), .val (.int (1 : Int32)), .unset, .unset] [(.int (1 : Int32))])) _
    refine XS.istore X6.here hx rfl (hb hby at_105) rfl (l' := #[.val (.int p0), .val (.long q1), .second, .val (.long q2), .second, .val (.long q3), .second, .val (.int (own_sc p0)), .val (.long (((1 : Int64) <<< ((own_sc p0) &&& 0x3f).toInt64) - (1 : Int64))), .second, .val (.long (q2 &&& (((1 : Int64) <<< ((own_sc p0) &&& 0x3f).toInt64) - (1 : Int64)))), .second, .val (.long (q3 &&& (((1 : Int64) <<< ((own_sc p0) &&& 0x3f).toInt64) - (1 : Int64)))), .second, .val (.ref b1), .val (.int (own_perm (q2 &&& (((1 : Int64) <<< ((own_sc p0) &&& 0x3f).toInt64) - (1 : Int64))) q1 (own_sc p0))), .val (.int (own_perm (q3 &&& (((1 : Int64) <<< ((own_sc p0) &&& 0x3f).toInt64) - (1 : Int64))) q1 (own_sc p0))), .val (.int (1 : Int32)), .val (.int (1 : Int32)), .unset]) rfl ?_
    show Steps p.tables e below (T6.setTop (mkF m 107 #[.val (.int p0), .val (.long q1), .second, .val (.long q2), .second, .val (.long q3), .second, .val (.int (own_sc p0)), .val (.long (((1 : Int64) <<< ((own_sc p0) &&& 0x3f).toInt64) - (1 : Int64))), .second, .val (.long (q2 &&& (((1 : Int64) <<< ((own_sc p0) &&& 0x3f).toInt64) - (1 : Int64)))), .second, .val (.long (q3 &&& (((1 : Int64) <<< ((own_sc p0) &&& 0x3f).toInt64) - (1 : Int64)))), .second, .val (.ref b1), .val (.int (own_perm (q2 &&& (((1 : Int64) <<< ((own_sc p0) &&& 0x3f).toInt64) - (1 : Int64))) q1 (own_sc p0))), .val (.int (own_perm (q3 &&& (((1 : Int64) <<< ((own_sc p0) &&& 0x3f).toInt64) - (1 : Int64))) q1 (own_sc p0))), .val (.int (1 : Int32)), .val (.int (1 : Int32)), .unset] [])) _
    refine XS.iload X6.here hx rfl (hb hby at_107) rfl ?_
    show Steps p.tables e below (T6.setTop (mkF m 109 #[.val (.int p0), .val (.long q1), .second, .val (.long q2), .second, .val (.long q3), .second, .val (.int (own_sc p0)), .val (.long (((1 : Int64) <<< ((own_sc p0) &&& 0x3f).toInt64) - (1 : Int64))), .second, .val (.long (q2 &&& (((1 : Int64) <<< ((own_sc p0) &&& 0x3f).toInt64) - (1 : Int64)))), .second, .val (.long (q3 &&& (((1 : Int64) <<< ((own_sc p0) &&& 0x3f).toInt64) - (1 : Int64)))), .second, .val (.ref b1), .val (.int (own_perm (q2 &&& (((1 : Int64) <<< ((own_sc p0) &&& 0x3f).toInt64) - (1 : Int64))) q1 (own_sc p0))), .val (.int (own_perm (q3 &&& (((1 : Int64) <<< ((own_sc p0) &&& 0x3f).toInt64) - (1 : Int64))) q1 (own_sc p0))), .val (.int (1 : Int32)), .val (.int (1 : Int32)), .unset] [(.int (own_perm (q2 &&& (((1 : Int64) <<< ((own_sc p0) &&& 0x3f).toInt64) - (1 : Int64))) q1 (own_sc p0)))])) _
    refine XS.ifNo X6.here hx rfl (hb hby at_109) rfl ((if0 _ _).trans (flt (own_main p0 q1 q2).2.1).1) ?_
    show Steps p.tables e below (T6.setTop (mkF m 112 #[.val (.int p0), .val (.long q1), .second, .val (.long q2), .second, .val (.long q3), .second, .val (.int (own_sc p0)), .val (.long (((1 : Int64) <<< ((own_sc p0) &&& 0x3f).toInt64) - (1 : Int64))), .second, .val (.long (q2 &&& (((1 : Int64) <<< ((own_sc p0) &&& 0x3f).toInt64) - (1 : Int64)))), .second, .val (.long (q3 &&& (((1 : Int64) <<< ((own_sc p0) &&& 0x3f).toInt64) - (1 : Int64)))), .second, .val (.ref b1), .val (.int (own_perm (q2 &&& (((1 : Int64) <<< ((own_sc p0) &&& 0x3f).toInt64) - (1 : Int64))) q1 (own_sc p0))), .val (.int (own_perm (q3 &&& (((1 : Int64) <<< ((own_sc p0) &&& 0x3f).toInt64) - (1 : Int64))) q1 (own_sc p0))), .val (.int (1 : Int32)), .val (.int (1 : Int32)), .unset] [])) _
    refine XS.iload X6.here hx rfl (hb hby at_112) rfl ?_
    show Steps p.tables e below (T6.setTop (mkF m 114 #[.val (.int p0), .val (.long q1), .second, .val (.long q2), .second, .val (.long q3), .second, .val (.int (own_sc p0)), .val (.long (((1 : Int64) <<< ((own_sc p0) &&& 0x3f).toInt64) - (1 : Int64))), .second, .val (.long (q2 &&& (((1 : Int64) <<< ((own_sc p0) &&& 0x3f).toInt64) - (1 : Int64)))), .second, .val (.long (q3 &&& (((1 : Int64) <<< ((own_sc p0) &&& 0x3f).toInt64) - (1 : Int64)))), .second, .val (.ref b1), .val (.int (own_perm (q2 &&& (((1 : Int64) <<< ((own_sc p0) &&& 0x3f).toInt64) - (1 : Int64))) q1 (own_sc p0))), .val (.int (own_perm (q3 &&& (((1 : Int64) <<< ((own_sc p0) &&& 0x3f).toInt64) - (1 : Int64))) q1 (own_sc p0))), .val (.int (1 : Int32)), .val (.int (1 : Int32)), .unset] [(.int (own_perm (q2 &&& (((1 : Int64) <<< ((own_sc p0) &&& 0x3f).toInt64) - (1 : Int64))) q1 (own_sc p0)))])) _
    refine XS.i2l X6.here hx rfl (hb hby at_114) rfl ?_
    show Steps p.tables e below (T6.setTop (mkF m 115 #[.val (.int p0), .val (.long q1), .second, .val (.long q2), .second, .val (.long q3), .second, .val (.int (own_sc p0)), .val (.long (((1 : Int64) <<< ((own_sc p0) &&& 0x3f).toInt64) - (1 : Int64))), .second, .val (.long (q2 &&& (((1 : Int64) <<< ((own_sc p0) &&& 0x3f).toInt64) - (1 : Int64)))), .second, .val (.long (q3 &&& (((1 : Int64) <<< ((own_sc p0) &&& 0x3f).toInt64) - (1 : Int64)))), .second, .val (.ref b1), .val (.int (own_perm (q2 &&& (((1 : Int64) <<< ((own_sc p0) &&& 0x3f).toInt64) - (1 : Int64))) q1 (own_sc p0))), .val (.int (own_perm (q3 &&& (((1 : Int64) <<< ((own_sc p0) &&& 0x3f).toInt64) - (1 : Int64))) q1 (own_sc p0))), .val (.int (1 : Int32)), .val (.int (1 : Int32)), .unset] [(.long ((own_perm (q2 &&& (((1 : Int64) <<< ((own_sc p0) &&& 0x3f).toInt64) - (1 : Int64))) q1 (own_sc p0)).toInt64))])) _
    refine XS.lload X6.here hx rfl (hb hby at_115) rfl ?_
    show Steps p.tables e below (T6.setTop (mkF m 117 #[.val (.int p0), .val (.long q1), .second, .val (.long q2), .second, .val (.long q3), .second, .val (.int (own_sc p0)), .val (.long (((1 : Int64) <<< ((own_sc p0) &&& 0x3f).toInt64) - (1 : Int64))), .second, .val (.long (q2 &&& (((1 : Int64) <<< ((own_sc p0) &&& 0x3f).toInt64) - (1 : Int64)))), .second, .val (.long (q3 &&& (((1 : Int64) <<< ((own_sc p0) &&& 0x3f).toInt64) - (1 : Int64)))), .second, .val (.ref b1), .val (.int (own_perm (q2 &&& (((1 : Int64) <<< ((own_sc p0) &&& 0x3f).toInt64) - (1 : Int64))) q1 (own_sc p0))), .val (.int (own_perm (q3 &&& (((1 : Int64) <<< ((own_sc p0) &&& 0x3f).toInt64) - (1 : Int64))) q1 (own_sc p0))), .val (.int (1 : Int32)), .val (.int (1 : Int32)), .unset] [(.long (((1 : Int64) <<< ((own_sc p0) &&& 0x3f).toInt64) - (1 : Int64))), (.long ((own_perm (q2 &&& (((1 : Int64) <<< ((own_sc p0) &&& 0x3f).toInt64) - (1 : Int64))) q1 (own_sc p0)).toInt64))])) _
    refine XS.lcmp X6.here hx rfl (hb hby at_117) rfl ?_
    show Steps p.tables e below (T6.setTop (mkF m 118 #[.val (.int p0), .val (.long q1), .second, .val (.long q2), .second, .val (.long q3), .second, .val (.int (own_sc p0)), .val (.long (((1 : Int64) <<< ((own_sc p0) &&& 0x3f).toInt64) - (1 : Int64))), .second, .val (.long (q2 &&& (((1 : Int64) <<< ((own_sc p0) &&& 0x3f).toInt64) - (1 : Int64)))), .second, .val (.long (q3 &&& (((1 : Int64) <<< ((own_sc p0) &&& 0x3f).toInt64) - (1 : Int64)))), .second, .val (.ref b1), .val (.int (own_perm (q2 &&& (((1 : Int64) <<< ((own_sc p0) &&& 0x3f).toInt64) - (1 : Int64))) q1 (own_sc p0))), .val (.int (own_perm (q3 &&& (((1 : Int64) <<< ((own_sc p0) &&& 0x3f).toInt64) - (1 : Int64))) q1 (own_sc p0))), .val (.int (1 : Int32)), .val (.int (1 : Int32)), .unset] [(.int (lcmpW ((own_perm (q2 &&& (((1 : Int64) <<< ((own_sc p0) &&& 0x3f).toInt64) - (1 : Int64))) q1 (own_sc p0)).toInt64) (((1 : Int64) <<< ((own_sc p0) &&& 0x3f).toInt64) - (1 : Int64))))])) _
    refine XS.ifNo X6.here hx rfl (hb hby at_118) rfl ((if0 _ _).trans (flt (fun q => (own_main p0 q1 q2).2.2 ((lw_gt _ _).mp q))).2.2.1) ?_
    show Steps p.tables e below (T6.setTop (mkF m 121 #[.val (.int p0), .val (.long q1), .second, .val (.long q2), .second, .val (.long q3), .second, .val (.int (own_sc p0)), .val (.long (((1 : Int64) <<< ((own_sc p0) &&& 0x3f).toInt64) - (1 : Int64))), .second, .val (.long (q2 &&& (((1 : Int64) <<< ((own_sc p0) &&& 0x3f).toInt64) - (1 : Int64)))), .second, .val (.long (q3 &&& (((1 : Int64) <<< ((own_sc p0) &&& 0x3f).toInt64) - (1 : Int64)))), .second, .val (.ref b1), .val (.int (own_perm (q2 &&& (((1 : Int64) <<< ((own_sc p0) &&& 0x3f).toInt64) - (1 : Int64))) q1 (own_sc p0))), .val (.int (own_perm (q3 &&& (((1 : Int64) <<< ((own_sc p0) &&& 0x3f).toInt64) - (1 : Int64))) q1 (own_sc p0))), .val (.int (1 : Int32)), .val (.int (1 : Int32)), .unset] [])) _
    refine XS.iload X6.here hx rfl (hb hby at_121) rfl ?_
    show Steps p.tables e below (T6.setTop (mkF m 123 #[.val (.int p0), .val (.long q1), .second, .val (.long q2), .second, .val (.long q3), .second, .val (.int (own_sc p0)), .val (.long (((1 : Int64) <<< ((own_sc p0) &&& 0x3f).toInt64) - (1 : Int64))), .second, .val (.long (q2 &&& (((1 : Int64) <<< ((own_sc p0) &&& 0x3f).toInt64) - (1 : Int64)))), .second, .val (.long (q3 &&& (((1 : Int64) <<< ((own_sc p0) &&& 0x3f).toInt64) - (1 : Int64)))), .second, .val (.ref b1), .val (.int (own_perm (q2 &&& (((1 : Int64) <<< ((own_sc p0) &&& 0x3f).toInt64) - (1 : Int64))) q1 (own_sc p0))), .val (.int (own_perm (q3 &&& (((1 : Int64) <<< ((own_sc p0) &&& 0x3f).toInt64) - (1 : Int64))) q1 (own_sc p0))), .val (.int (1 : Int32)), .val (.int (1 : Int32)), .unset] [(.int (own_perm (q3 &&& (((1 : Int64) <<< ((own_sc p0) &&& 0x3f).toInt64) - (1 : Int64))) q1 (own_sc p0)))])) _
    refine XS.ifNo X6.here hx rfl (hb hby at_123) rfl ((if0 _ _).trans (flt (own_main p0 q1 q3).2.1).1) ?_
    show Steps p.tables e below (T6.setTop (mkF m 126 #[.val (.int p0), .val (.long q1), .second, .val (.long q2), .second, .val (.long q3), .second, .val (.int (own_sc p0)), .val (.long (((1 : Int64) <<< ((own_sc p0) &&& 0x3f).toInt64) - (1 : Int64))), .second, .val (.long (q2 &&& (((1 : Int64) <<< ((own_sc p0) &&& 0x3f).toInt64) - (1 : Int64)))), .second, .val (.long (q3 &&& (((1 : Int64) <<< ((own_sc p0) &&& 0x3f).toInt64) - (1 : Int64)))), .second, .val (.ref b1), .val (.int (own_perm (q2 &&& (((1 : Int64) <<< ((own_sc p0) &&& 0x3f).toInt64) - (1 : Int64))) q1 (own_sc p0))), .val (.int (own_perm (q3 &&& (((1 : Int64) <<< ((own_sc p0) &&& 0x3f).toInt64) - (1 : Int64))) q1 (own_sc p0))), .val (.int (1 : Int32)), .val (.int (1 : Int32)), .unset] [])) _
    refine XS.iload X6.here hx rfl (hb hby at_126) rfl ?_
    show Steps p.tables e below (T6.setTop (mkF m 128 #[.val (.int p0), .val (.long q1), .second, .val (.long q2), .second, .val (.long q3), .second, .val (.int (own_sc p0)), .val (.long (((1 : Int64) <<< ((own_sc p0) &&& 0x3f).toInt64) - (1 : Int64))), .second, .val (.long (q2 &&& (((1 : Int64) <<< ((own_sc p0) &&& 0x3f).toInt64) - (1 : Int64)))), .second, .val (.long (q3 &&& (((1 : Int64) <<< ((own_sc p0) &&& 0x3f).toInt64) - (1 : Int64)))), .second, .val (.ref b1), .val (.int (own_perm (q2 &&& (((1 : Int64) <<< ((own_sc p0) &&& 0x3f).toInt64) - (1 : Int64))) q1 (own_sc p0))), .val (.int (own_perm (q3 &&& (((1 : Int64) <<< ((own_sc p0) &&& 0x3f).toInt64) - (1 : Int64))) q1 (own_sc p0))), .val (.int (1 : Int32)), .val (.int (1 : Int32)), .unset] [(.int (own_perm (q3 &&& (((1 : Int64) <<< ((own_sc p0) &&& 0x3f).toInt64) - (1 : Int64))) q1 (own_sc p0)))])) _
    refine XS.i2l X6.here hx rfl (hb hby at_128) rfl ?_
    show Steps p.tables e below (T6.setTop (mkF m 129 #[.val (.int p0), .val (.long q1), .second, .val (.long q2), .second, .val (.long q3), .second, .val (.int (own_sc p0)), .val (.long (((1 : Int64) <<< ((own_sc p0) &&& 0x3f).toInt64) - (1 : Int64))), .second, .val (.long (q2 &&& (((1 : Int64) <<< ((own_sc p0) &&& 0x3f).toInt64) - (1 : Int64)))), .second, .val (.long (q3 &&& (((1 : Int64) <<< ((own_sc p0) &&& 0x3f).toInt64) - (1 : Int64)))), .second, .val (.ref b1), .val (.int (own_perm (q2 &&& (((1 : Int64) <<< ((own_sc p0) &&& 0x3f).toInt64) - (1 : Int64))) q1 (own_sc p0))), .val (.int (own_perm (q3 &&& (((1 : Int64) <<< ((own_sc p0) &&& 0x3f).toInt64) - (1 : Int64))) q1 (own_sc p0))), .val (.int (1 : Int32)), .val (.int (1 : Int32)), .unset] [(.long ((own_perm (q3 &&& (((1 : Int64) <<< ((own_sc p0) &&& 0x3f).toInt64) - (1 : Int64))) q1 (own_sc p0)).toInt64))])) _
    refine XS.lload X6.here hx rfl (hb hby at_129) rfl ?_
    show Steps p.tables e below (T6.setTop (mkF m 131 #[.val (.int p0), .val (.long q1), .second, .val (.long q2), .second, .val (.long q3), .second, .val (.int (own_sc p0)), .val (.long (((1 : Int64) <<< ((own_sc p0) &&& 0x3f).toInt64) - (1 : Int64))), .second, .val (.long (q2 &&& (((1 : Int64) <<< ((own_sc p0) &&& 0x3f).toInt64) - (1 : Int64)))), .second, .val (.long (q3 &&& (((1 : Int64) <<< ((own_sc p0) &&& 0x3f).toInt64) - (1 : Int64)))), .second, .val (.ref b1), .val (.int (own_perm (q2 &&& (((1 : Int64) <<< ((own_sc p0) &&& 0x3f).toInt64) - (1 : Int64))) q1 (own_sc p0))), .val (.int (own_perm (q3 &&& (((1 : Int64) <<< ((own_sc p0) &&& 0x3f).toInt64) - (1 : Int64))) q1 (own_sc p0))), .val (.int (1 : Int32)), .val (.int (1 : Int32)), .unset] [(.long (((1 : Int64) <<< ((own_sc p0) &&& 0x3f).toInt64) - (1 : Int64))), (.long ((own_perm (q3 &&& (((1 : Int64) <<< ((own_sc p0) &&& 0x3f).toInt64) - (1 : Int64))) q1 (own_sc p0)).toInt64))])) _
    refine XS.lcmp X6.here hx rfl (hb hby at_131) rfl ?_
    show Steps p.tables e below (T6.setTop (mkF m 132 #[.val (.int p0), .val (.long q1), .second, .val (.long q2), .second, .val (.long q3), .second, .val (.int (own_sc p0)), .val (.long (((1 : Int64) <<< ((own_sc p0) &&& 0x3f).toInt64) - (1 : Int64))), .second, .val (.long (q2 &&& (((1 : Int64) <<< ((own_sc p0) &&& 0x3f).toInt64) - (1 : Int64)))), .second, .val (.long (q3 &&& (((1 : Int64) <<< ((own_sc p0) &&& 0x3f).toInt64) - (1 : Int64)))), .second, .val (.ref b1), .val (.int (own_perm (q2 &&& (((1 : Int64) <<< ((own_sc p0) &&& 0x3f).toInt64) - (1 : Int64))) q1 (own_sc p0))), .val (.int (own_perm (q3 &&& (((1 : Int64) <<< ((own_sc p0) &&& 0x3f).toInt64) - (1 : Int64))) q1 (own_sc p0))), .val (.int (1 : Int32)), .val (.int (1 : Int32)), .unset] [(.int (lcmpW ((own_perm (q3 &&& (((1 : Int64) <<< ((own_sc p0) &&& 0x3f).toInt64) - (1 : Int64))) q1 (own_sc p0)).toInt64) (((1 : Int64) <<< ((own_sc p0) &&& 0x3f).toInt64) - (1 : Int64))))])) _
    refine XS.ifNo X6.here hx rfl (hb hby at_132) rfl ((if0 _ _).trans (flt (fun q => (own_main p0 q1 q3).2.2 ((lw_gt _ _).mp q))).2.2.1) ?_
    show Steps p.tables e below (T6.setTop (mkF m 135 #[.val (.int p0), .val (.long q1), .second, .val (.long q2), .second, .val (.long q3), .second, .val (.int (own_sc p0)), .val (.long (((1 : Int64) <<< ((own_sc p0) &&& 0x3f).toInt64) - (1 : Int64))), .second, .val (.long (q2 &&& (((1 : Int64) <<< ((own_sc p0) &&& 0x3f).toInt64) - (1 : Int64)))), .second, .val (.long (q3 &&& (((1 : Int64) <<< ((own_sc p0) &&& 0x3f).toInt64) - (1 : Int64)))), .second, .val (.ref b1), .val (.int (own_perm (q2 &&& (((1 : Int64) <<< ((own_sc p0) &&& 0x3f).toInt64) - (1 : Int64))) q1 (own_sc p0))), .val (.int (own_perm (q3 &&& (((1 : Int64) <<< ((own_sc p0) &&& 0x3f).toInt64) - (1 : Int64))) q1 (own_sc p0))), .val (.int (1 : Int32)), .val (.int (1 : Int32)), .unset] [])) _
    refine XS.iconst X6.here hx rfl (hb hby at_135) ?_
    show Steps p.tables e below (T6.setTop (mkF m 136 #[.val (.int p0), .val (.long q1), .second, .val (.long q2), .second, .val (.long q3), .second, .val (.int (own_sc p0)), .val (.long (((1 : Int64) <<< ((own_sc p0) &&& 0x3f).toInt64) - (1 : Int64))), .second, .val (.long (q2 &&& (((1 : Int64) <<< ((own_sc p0) &&& 0x3f).toInt64) - (1 : Int64)))), .second, .val (.long (q3 &&& (((1 : Int64) <<< ((own_sc p0) &&& 0x3f).toInt64) - (1 : Int64)))), .second, .val (.ref b1), .val (.int (own_perm (q2 &&& (((1 : Int64) <<< ((own_sc p0) &&& 0x3f).toInt64) - (1 : Int64))) q1 (own_sc p0))), .val (.int (own_perm (q3 &&& (((1 : Int64) <<< ((own_sc p0) &&& 0x3f).toInt64) - (1 : Int64))) q1 (own_sc p0))), .val (.int (1 : Int32)), .val (.int (1 : Int32)), .unset] [(.int (1 : Int32))])) _
    refine XS.goto X6.here hx rfl (pc0 := 136) (pc' := 140) rfl (hb hby at_136) (by decide) (by decide) ?_
    show Steps p.tables e below (T6.setTop (mkF m 140 #[.val (.int p0), .val (.long q1), .second, .val (.long q2), .second, .val (.long q3), .second, .val (.int (own_sc p0)), .val (.long (((1 : Int64) <<< ((own_sc p0) &&& 0x3f).toInt64) - (1 : Int64))), .second, .val (.long (q2 &&& (((1 : Int64) <<< ((own_sc p0) &&& 0x3f).toInt64) - (1 : Int64)))), .second, .val (.long (q3 &&& (((1 : Int64) <<< ((own_sc p0) &&& 0x3f).toInt64) - (1 : Int64)))), .second, .val (.ref b1), .val (.int (own_perm (q2 &&& (((1 : Int64) <<< ((own_sc p0) &&& 0x3f).toInt64) - (1 : Int64))) q1 (own_sc p0))), .val (.int (own_perm (q3 &&& (((1 : Int64) <<< ((own_sc p0) &&& 0x3f).toInt64) - (1 : Int64))) q1 (own_sc p0))), .val (.int (1 : Int32)), .val (.int (1 : Int32)), .unset] [(.int (1 : Int32))])) _
    refine XS.istore X6.here hx rfl (hb hby at_140) rfl (l' := #[.val (.int p0), .val (.long q1), .second, .val (.long q2), .second, .val (.long q3), .second, .val (.int (own_sc p0)), .val (.long (((1 : Int64) <<< ((own_sc p0) &&& 0x3f).toInt64) - (1 : Int64))), .second, .val (.long (q2 &&& (((1 : Int64) <<< ((own_sc p0) &&& 0x3f).toInt64) - (1 : Int64)))), .second, .val (.long (q3 &&& (((1 : Int64) <<< ((own_sc p0) &&& 0x3f).toInt64) - (1 : Int64)))), .second, .val (.ref b1), .val (.int (own_perm (q2 &&& (((1 : Int64) <<< ((own_sc p0) &&& 0x3f).toInt64) - (1 : Int64))) q1 (own_sc p0))), .val (.int (own_perm (q3 &&& (((1 : Int64) <<< ((own_sc p0) &&& 0x3f).toInt64) - (1 : Int64))) q1 (own_sc p0))), .val (.int (1 : Int32)), .val (.int (1 : Int32)), .val (.int (1 : Int32))]) rfl ?_
    show Steps p.tables e below (T6.setTop (mkF m 142 #[.val (.int p0), .val (.long q1), .second, .val (.long q2), .second, .val (.long q3), .second, .val (.int (own_sc p0)), .val (.long (((1 : Int64) <<< ((own_sc p0) &&& 0x3f).toInt64) - (1 : Int64))), .second, .val (.long (q2 &&& (((1 : Int64) <<< ((own_sc p0) &&& 0x3f).toInt64) - (1 : Int64)))), .second, .val (.long (q3 &&& (((1 : Int64) <<< ((own_sc p0) &&& 0x3f).toInt64) - (1 : Int64)))), .second, .val (.ref b1), .val (.int (own_perm (q2 &&& (((1 : Int64) <<< ((own_sc p0) &&& 0x3f).toInt64) - (1 : Int64))) q1 (own_sc p0))), .val (.int (own_perm (q3 &&& (((1 : Int64) <<< ((own_sc p0) &&& 0x3f).toInt64) - (1 : Int64))) q1 (own_sc p0))), .val (.int (1 : Int32)), .val (.int (1 : Int32)), .val (.int (1 : Int32))] [])) _
    refine XS.iload X6.here hx rfl (hb hby at_142) rfl ?_
    show Steps p.tables e below (T6.setTop (mkF m 144 #[.val (.int p0), .val (.long q1), .second, .val (.long q2), .second, .val (.long q3), .second, .val (.int (own_sc p0)), .val (.long (((1 : Int64) <<< ((own_sc p0) &&& 0x3f).toInt64) - (1 : Int64))), .second, .val (.long (q2 &&& (((1 : Int64) <<< ((own_sc p0) &&& 0x3f).toInt64) - (1 : Int64)))), .second, .val (.long (q3 &&& (((1 : Int64) <<< ((own_sc p0) &&& 0x3f).toInt64) - (1 : Int64)))), .second, .val (.ref b1), .val (.int (own_perm (q2 &&& (((1 : Int64) <<< ((own_sc p0) &&& 0x3f).toInt64) - (1 : Int64))) q1 (own_sc p0))), .val (.int (own_perm (q3 &&& (((1 : Int64) <<< ((own_sc p0) &&& 0x3f).toInt64) - (1 : Int64))) q1 (own_sc p0))), .val (.int (1 : Int32)), .val (.int (1 : Int32)), .val (.int (1 : Int32))] [(.int (1 : Int32))])) _
    refine XS.ifNo X6.here hx rfl (hb hby at_144) rfl ((if0 _ _).trans (feq (by decide : ¬ ((1 : Int32) = (0 : Int32)))).1) ?_
    show Steps p.tables e below (T6.setTop (mkF m 147 #[.val (.int p0), .val (.long q1), .second, .val (.long q2), .second, .val (.long q3), .second, .val (.int (own_sc p0)), .val (.long (((1 : Int64) <<< ((own_sc p0) &&& 0x3f).toInt64) - (1 : Int64))), .second, .val (.long (q2 &&& (((1 : Int64) <<< ((own_sc p0) &&& 0x3f).toInt64) - (1 : Int64)))), .second, .val (.long (q3 &&& (((1 : Int64) <<< ((own_sc p0) &&& 0x3f).toInt64) - (1 : Int64)))), .second, .val (.ref b1), .val (.int (own_perm (q2 &&& (((1 : Int64) <<< ((own_sc p0) &&& 0x3f).toInt64) - (1 : Int64))) q1 (own_sc p0))), .val (.int (own_perm (q3 &&& (((1 : Int64) <<< ((own_sc p0) &&& 0x3f).toInt64) - (1 : Int64))) q1 (own_sc p0))), .val (.int (1 : Int32)), .val (.int (1 : Int32)), .val (.int (1 : Int32))] [])) _
    refine XS.iload X6.here hx rfl (hb hby at_147) rfl ?_
    show Steps p.tables e below (T6.setTop (mkF m 149 #[.val (.int p0), .val (.long q1), .second, .val (.long q2), .second, .val (.long q3), .second, .val (.int (own_sc p0)), .val (.long (((1 : Int64) <<< ((own_sc p0) &&& 0x3f).toInt64) - (1 : Int64))), .second, .val (.long (q2 &&& (((1 : Int64) <<< ((own_sc p0) &&& 0x3f).toInt64) - (1 : Int64)))), .second, .val (.long (q3 &&& (((1 : Int64) <<< ((own_sc p0) &&& 0x3f).toInt64) - (1 : Int64)))), .second, .val (.ref b1), .val (.int (own_perm (q2 &&& (((1 : Int64) <<< ((own_sc p0) &&& 0x3f).toInt64) - (1 : Int64))) q1 (own_sc p0))), .val (.int (own_perm (q3 &&& (((1 : Int64) <<< ((own_sc p0) &&& 0x3f).toInt64) - (1 : Int64))) q1 (own_sc p0))), .val (.int (1 : Int32)), .val (.int (1 : Int32)), .val (.int (1 : Int32))] [(.int (1 : Int32))])) _
    refine XS.ifNo X6.here hx rfl (hb hby at_149) rfl ((if0 _ _).trans (feq (by decide : ¬ ((1 : Int32) = (0 : Int32)))).1) ?_
    show Steps p.tables e below (T6.setTop (mkF m 152 #[.val (.int p0), .val (.long q1), .second, .val (.long q2), .second, .val (.long q3), .second, .val (.int (own_sc p0)), .val (.long (((1 : Int64) <<< ((own_sc p0) &&& 0x3f).toInt64) - (1 : Int64))), .second, .val (.long (q2 &&& (((1 : Int64) <<< ((own_sc p0) &&& 0x3f).toInt64) - (1 : Int64)))), .second, .val (.long (q3 &&& (((1 : Int64) <<< ((own_sc p0) &&& 0x3f).toInt64) - (1 : Int64)))), .second, .val (.ref b1), .val (.int (own_perm (q2 &&& (((1 : Int64) <<< ((own_sc p0) &&& 0x3f).toInt64) - (1 : Int64))) q1 (own_sc p0))), .val (.int (own_perm (q3 &&& (((1 : Int64) <<< ((own_sc p0) &&& 0x3f).toInt64) - (1 : Int64))) q1 (own_sc p0))), .val (.int (1 : Int32)), .val (.int (1 : Int32)), .val (.int (1 : Int32))] [])) _
    refine XS.iload X6.here hx rfl (hb hby at_152) rfl ?_
    show Steps p.tables e below (T6.setTop (mkF m 154 #[.val (.int p0), .val (.long q1), .second, .val (.long q2), .second, .val (.long q3), .second, .val (.int (own_sc p0)), .val (.long (((1 : Int64) <<< ((own_sc p0) &&& 0x3f).toInt64) - (1 : Int64))), .second, .val (.long (q2 &&& (((1 : Int64) <<< ((own_sc p0) &&& 0x3f).toInt64) - (1 : Int64)))), .second, .val (.long (q3 &&& (((1 : Int64) <<< ((own_sc p0) &&& 0x3f).toInt64) - (1 : Int64)))), .second, .val (.ref b1), .val (.int (own_perm (q2 &&& (((1 : Int64) <<< ((own_sc p0) &&& 0x3f).toInt64) - (1 : Int64))) q1 (own_sc p0))), .val (.int (own_perm (q3 &&& (((1 : Int64) <<< ((own_sc p0) &&& 0x3f).toInt64) - (1 : Int64))) q1 (own_sc p0))), .val (.int (1 : Int32)), .val (.int (1 : Int32)), .val (.int (1 : Int32))] [(.int (1 : Int32))])) _
    refine XS.ifNo X6.here hx rfl (hb hby at_154) rfl ((if0 _ _).trans (feq (by decide : ¬ ((1 : Int32) = (0 : Int32)))).1) ?_
    show Steps p.tables e below (T6.setTop (mkF m 157 #[.val (.int p0), .val (.long q1), .second, .val (.long q2), .second, .val (.long q3), .second, .val (.int (own_sc p0)), .val (.long (((1 : Int64) <<< ((own_sc p0) &&& 0x3f).toInt64) - (1 : Int64))), .second, .val (.long (q2 &&& (((1 : Int64) <<< ((own_sc p0) &&& 0x3f).toInt64) - (1 : Int64)))), .second, .val (.long (q3 &&& (((1 : Int64) <<< ((own_sc p0) &&& 0x3f).toInt64) - (1 : Int64)))), .second, .val (.ref b1), .val (.int (own_perm (q2 &&& (((1 : Int64) <<< ((own_sc p0) &&& 0x3f).toInt64) - (1 : Int64))) q1 (own_sc p0))), .val (.int (own_perm (q3 &&& (((1 : Int64) <<< ((own_sc p0) &&& 0x3f).toInt64) - (1 : Int64))) q1 (own_sc p0))), .val (.int (1 : Int32)), .val (.int (1 : Int32)), .val (.int (1 : Int32))] [])) _
    refine XS.iconst X6.here hx rfl (hb hby at_157) ?_
    show Steps p.tables e below (T6.setTop (mkF m 158 #[.val (.int p0), .val (.long q1), .second, .val (.long q2), .second, .val (.long q3), .second, .val (.int (own_sc p0)), .val (.long (((1 : Int64) <<< ((own_sc p0) &&& 0x3f).toInt64) - (1 : Int64))), .second, .val (.long (q2 &&& (((1 : Int64) <<< ((own_sc p0) &&& 0x3f).toInt64) - (1 : Int64)))), .second, .val (.long (q3 &&& (((1 : Int64) <<< ((own_sc p0) &&& 0x3f).toInt64) - (1 : Int64)))), .second, .val (.ref b1), .val (.int (own_perm (q2 &&& (((1 : Int64) <<< ((own_sc p0) &&& 0x3f).toInt64) - (1 : Int64))) q1 (own_sc p0))), .val (.int (own_perm (q3 &&& (((1 : Int64) <<< ((own_sc p0) &&& 0x3f).toInt64) - (1 : Int64))) q1 (own_sc p0))), .val (.int (1 : Int32)), .val (.int (1 : Int32)), .val (.int (1 : Int32))] [(.int (1 : Int32))])) _
    refine XS.goto X6.here hx rfl (pc0 := 158) (pc' := 162) rfl (hb hby at_158) (by decide) (by decide) ?_
    show Steps p.tables e below (T6.setTop (mkF m 162 #[.val (.int p0), .val (.long q1), .second, .val (.long q2), .second, .val (.long q3), .second, .val (.int (own_sc p0)), .val (.long (((1 : Int64) <<< ((own_sc p0) &&& 0x3f).toInt64) - (1 : Int64))), .second, .val (.long (q2 &&& (((1 : Int64) <<< ((own_sc p0) &&& 0x3f).toInt64) - (1 : Int64)))), .second, .val (.long (q3 &&& (((1 : Int64) <<< ((own_sc p0) &&& 0x3f).toInt64) - (1 : Int64)))), .second, .val (.ref b1), .val (.int (own_perm (q2 &&& (((1 : Int64) <<< ((own_sc p0) &&& 0x3f).toInt64) - (1 : Int64))) q1 (own_sc p0))), .val (.int (own_perm (q3 &&& (((1 : Int64) <<< ((own_sc p0) &&& 0x3f).toInt64) - (1 : Int64))) q1 (own_sc p0))), .val (.int (1 : Int32)), .val (.int (1 : Int32)), .val (.int (1 : Int32))] [(.int (1 : Int32))])) _
    exact retN X6 hx (t := .boolean) Bd.returns (by simp) (hb hby at_162) hr
  · show Q0 Z p0 q1 q2 q3 h0 n0 _ T6.heap _
    rw [e6]
    exact ⟨rfl, N6⟩
set_option maxRecDepth 65536 in
set_option maxHeartbeats 40000000 in
theorem comes_1 {Post : Tables → Env → Array Value → State → Outcome → State → Prop} (hpost : ∀ tb e args s v u, (limb_1_1.after args s (.returned v) u = true ∧ limb_1_2.after args s (.returned v) u = true ∧ True) → FrameEnd s (.returned v) u (Jvm.fieldLocs frame_1_writes args s ++ Jvm.arrayLocs frame_1_arrays args s ++ Jvm.staticLocs frame_1_statics s) 16 128 → Post tb e args s (.returned v) u) :
    ArmFor flags0 classFile x code maxLocals ret World_1 tables_1 room_1 Calls_1 rest_1 Pre_1 Post := by
  intro l hfl _ _ p e ha hc hk s m args below hf hA hF happ hP
  obtain ⟨hcalls, hrest, hpre⟩ := hP
  obtain ⟨-, -, -, hnamed, -, -, -, hat⟩ := (Spec.applies_iff hf).mp happ
  obtain ⟨hg, hn⟩ := and_e (Cond.before_iff.mp (show (Jvm.Cond.and given_1 narrow_1).before args s = true from hpre))
  obtain ⟨gc, g0⟩ := and_e hg
  obtain ⟨ga0, g1⟩ := and_e g0
  obtain ⟨ga1, g2⟩ := and_e g1
  obtain ⟨ga2, g3⟩ := and_e g2
  obtain ⟨w0, w1, w2, w3, rfl⟩ : ∃ w0 w1 w2 w3 : Value, args = #[w0, w1, w2, w3] := by
    have hs : args.size = 4 := by simpa [Cond.value, given_1] using gc
    obtain ⟨L⟩ := args
    match L, hs with
    | [w0, w1, w2, w3], _ => exact ⟨w0, w1, w2, w3, rfl⟩
  have hw := fun d (hd : d ∈ tables_1) => atoms_spec (ws := Jvm.Cond.code x code maxLocals ret :: tables_1) hat d (List.mem_cons_of_mem _ hd)
  obtain ⟨i0, ei0⟩ := is_v ga0
  obtain rfl : w0 = (.int i0) := Option.some.inj ei0
  obtain ⟨i1, ei1⟩ := isL_v ga1
  obtain rfl : w1 = (.long i1) := Option.some.inj ei1
  obtain ⟨i2, ei2⟩ := isL_v ga2
  obtain rfl : w2 = (.long i2) := Option.some.inj ei2
  obtain ⟨i3, ei3⟩ := isL_v g3
  obtain rfl : w3 = (.long i3) := Option.some.inj ei3
  obtain ⟨n, o, h1, h2, h3, _, L, rfl, ⟨rfl, N⟩, hq⟩ := rm0 l s _ hw tables_1 i0 i1 i2 i3  s.heap s.heap.size (Nat.le_refl _)  p e ha hc hk s m _ below hf ((Spec.applies_iff_loose hf).mp happ).1 ⟨rfl, State.Warmed39.refl s, rfl⟩ trivial
  refine ⟨n, _, h1, h2, h3, hpost _ _ _ _ _ _ ⟨Cond.after_iff.mpr rfl, Cond.after_iff.mpr (eq_i res_at (Term.int_eval (1)) rfl), trivial⟩ ⟨hq.1, hq.2.1, (hq.2.2.sift fun y hy => Or.inr (N y hy)).mono (by decide) (by decide)⟩⟩
theorem main_1_1 : Claimed_1_1 := comes_1 fun _ _ _ _ _ _ h hF => ⟨h.1, hF⟩
theorem main_1_2 : Claimed_1_2 := comes_1 fun _ _ _ _ _ _ h hF => ⟨h.2.1, hF⟩
end Jvm.Pilot.@@N@@
namespace Jvm.Pilot.@@N@@
open Jvm Jvm.ClassFile Sem Op Lib Jvm.Free Jvm.Stand Jvm.Pilot.@@N@@.Jvm.D
/-! MADE BY PROGRAM (witnessworld.py) out of the Statement's table words and the real class files: 11 classes; the members and pool entries that the words name. The judged class is class 1, her method 5. -/
namespace start1
open Jvm.ClassFile
def u (s : String) : CpInfo := .utf8 (stringToUtf16 s)
/-- a pool by its gaps: so many unusable entries, then the entry; so many at the end -/
def gap : Nat → List CpInfo → List CpInfo
  | 0, r => r
  | n + 1, r => .unusable :: gap n r
def poolList (es : List (Nat × CpInfo)) (last : Nat) : List CpInfo := es.foldr (fun e r => gap e.1 (e.2 :: r)) (gap last [])
def pool (es : List (Nat × CpInfo)) (last : Nat) : Array CpInfo := ⟨poolList es last⟩
def fileOf (pool : Array CpInfo) (this : Nat) (attrs : Array Attribute := #[]) (ms : Array MethodInfo := #[]) (fl : Nat := 33) (sup : Nat := 0) (ifs : Array Nat := #[]) (fds : Array FieldInfo := #[]) : ClassFile where
  minorVersion := 0
  majorVersion := 65
  constantPool := pool
  accessFlags := fl
  thisClass := this
  superClass := sup
  interfaces := ifs
  fields := fds
  methods := ms
  attributes := attrs
def plain (name : String) (sup : Option ClassId) : Class where
  name := name
  kind := .ordinary
  loader := none
  accessFlags := 33
  super := sup
  interfaces := #[]
  cf := none
  fields := #[]
  methods := #[]
  instanceTypes := #[]
  staticTypes := #[]
  resolved := #[]
  callSites := []
  init := .initialized
  statics := none
  mirror := none

def pool0 : Array CpInfo := pool [(5, u "<init>"), (0, u "()V"), (1, .class_ 10), (1, u "java/lang/Object")] 113

def k0c0 : Code := { maxStack := 0, maxLocals := 1, code := object_method_1_code, exceptionTable := #[], attributes := #[] }
def k0m0 : Method := { name := "<init>", desc := "()V", sig := { parameters := [], returnType := none }, accessFlags := 1, code := some k0c0 }
/-- java/lang/Object -/
def k0 : Class := { plain "java/lang/Object" none with
  accessFlags := 33
  interfaces := #[]
  cf := some (fileOf pool0 8 #[] #[{ accessFlags := 1, nameIndex := 5, descriptorIndex := 6, attributes := #[] }] 33 0 #[] #[])
  fields := #[]
  methods := #[k0m0]
  instanceTypes := #[]
  staticTypes := #[]
  resolved := Array.replicate 124 none
  statics := none }

def pool1 : Array CpInfo := pool [(2, .class_ 4), (1, u "java/lang/Object"), (0, u "<init>"), (0, u "()V"), (0, .long 13787848793156543929), (1, .long 10723151780598845931), (1, .class_ 12), (0, u "com/example/gangleri/gangleri/generate/KroneckerGeneratorPermutePinLaw"), (0, .long 11400714819323198485), (1, .methodref 11 16), (0, .nameAndType 17 18), (0, u "mix"), (0, u "(J)J"), (0, .long 2), (1, .methodref 11 22), (0, .nameAndType 23 24), (0, u "word"), (0, u "(JJ)J"), (0, .methodref 11 26), (0, .nameAndType 27 28), (0, u "round"), (0, u "(JJIJI)J"), (0, .integer 2147483647), (0, .class_ 31), (0, u "com/example/gangleri/gangleri/generate/KroneckerGenerator"), (0, .methodref 30 33), (0, .nameAndType 5 34), (0, u "(IIJ)V"), (0, .methodref 30 36), (0, .nameAndType 37 38), (0, u "permute"), (0, u "(J)I"), (0, .methodref 11 40), (0, .nameAndType 41 42), (0, u "reference"), (0, u "(JJI)J"), (0, u "GAMMA"), (0, u "J"), (3, u "law"), (0, u "(IJJJ)Z")] 3

def k1m0 : Method := { name := "<init>", desc := "()V", sig := { parameters := [], returnType := none }, accessFlags := 1, code := none }
def k1c1 : Code := { maxStack := 5, maxLocals := 4, code := method_2_code, exceptionTable := #[], attributes := #[] }
def k1m1 : Method := { name := "mix", desc := "(J)J", sig := { parameters := [.long], returnType := some .long }, accessFlags := 10, code := some k1c1 }
def k1c2 : Code := { maxStack := 6, maxLocals := 4, code := method_3_code, exceptionTable := #[], attributes := #[] }
def k1m2 : Method := { name := "word", desc := "(JJ)J", sig := { parameters := [.long, .long], returnType := some .long }, accessFlags := 10, code := some k1c2 }
def k1c3 : Code := { maxStack := 6, maxLocals := 14, code := method_4_code, exceptionTable := #[], attributes := #[] }
def k1m3 : Method := { name := "round", desc := "(JJIJI)J", sig := { parameters := [.long, .long, .int, .long, .int], returnType := some .long }, accessFlags := 10, code := some k1c3 }
def k1c4 : Code := { maxStack := 8, maxLocals := 10, code := method_5_code, exceptionTable := #[], attributes := #[] }
def k1m4 : Method := { name := "reference", desc := "(JJI)J", sig := { parameters := [.long, .long, .int], returnType := some .long }, accessFlags := 10, code := some k1c4 }
def k1c5 : Code := { maxStack := 7, maxLocals := 20, code := code, exceptionTable := #[], attributes := #[] }
def k1m5 : Method := { name := "law", desc := "(IJJJ)Z", sig := { parameters := [.int, .long, .long, .long], returnType := some .boolean }, accessFlags := 9, code := some k1c5 }
/-- com/example/gangleri/gangleri/generate/KroneckerGeneratorPermutePinLaw -/
def k1 : Class := { plain "com/example/gangleri/gangleri/generate/KroneckerGeneratorPermutePinLaw" (some 0) with
  accessFlags := 49
  interfaces := #[]
  cf := some (fileOf pool1 11 #[] #[{ accessFlags := 1, nameIndex := 5, descriptorIndex := 6, attributes := #[] }, { accessFlags := 10, nameIndex := 17, descriptorIndex := 18, attributes := #[] }, { accessFlags := 10, nameIndex := 23, descriptorIndex := 24, attributes := #[] }, { accessFlags := 10, nameIndex := 27, descriptorIndex := 28, attributes := #[] }, { accessFlags := 10, nameIndex := 41, descriptorIndex := 42, attributes := #[] }, { accessFlags := 9, nameIndex := 48, descriptorIndex := 49, attributes := #[] }] 49 2 #[] #[{ accessFlags := 26, nameIndex := 43, descriptorIndex := 44, attributes := #[] }])
  fields := #[{ name := "GAMMA", type := .long, accessFlags := 26, slot := 0, constantValue := 0 }]
  methods := #[k1m0, k1m1, k1m2, k1m3, k1m4, k1m5]
  instanceTypes := #[]
  staticTypes := #[.long]
  resolved := Array.replicate 53 none
  statics := none }

def pool2 : Array CpInfo := pool [(1, .class_ 2), (0, u "com/example/gangleri/gangleri/generate/KroneckerGenerator"), (0, .methodref 4 5), (0, .class_ 6), (0, .nameAndType 7 8), (0, u "java/lang/Object"), (0, u "<init>"), (0, u "()V"), (0, .fieldref 1 10), (0, .nameAndType 11 12), (0, u "offsets"), (0, u "[J"), (0, .fieldref 1 14), (0, .nameAndType 15 12), (0, u "multipliers"), (10, .fieldref 1 27), (0, .nameAndType 28 29), (0, u "scale"), (0, u "I"), (0, .fieldref 1 31), (0, .nameAndType 32 29), (0, u "degree"), (0, .fieldref 1 34), (0, .nameAndType 35 36), (0, u "seed"), (0, u "J"), (0, .fieldref 1 38), (0, .nameAndType 39 29), (0, u "halfScale"), (0, .fieldref 1 41), (0, .nameAndType 42 36), (0, u "idMask"), (0, .methodref 1 44), (0, .nameAndType 45 46), (0, u "word"), (0, u "(J)J"), (12, .long 11400714819323198485), (1, .methodref 1 62), (0, .nameAndType 63 46), (0, u "mix"), (4, u "C_START"), (6, u "B_START"), (2, u "D_START"), (2, u "permute"), (0, u "(J)I"), (0, .long 13787848793156543929), (1, .long 10723151780598845931), (18, u "MIN_SCALE"), (2, u "MAX_SCALE"), (1, u "A"), (0, u "D"), (0, u "B"), (2, u "C"), (0, u "GAMMA"), (0, u "PERMUTATION_ROUNDS"), (1, u "PERMUTATION_WORDS"), (1, u "LOW_32_BITS"), (0, u "(IIJ)V")] 29

def k2c0 : Code := { maxStack := 6, maxLocals := 6, code := prog_31_method_1_code, exceptionTable := #[], attributes := #[] }
def k2m0 : Method := { name := "<init>", desc := "(IIJ)V", sig := { parameters := [.int, .int, .long], returnType := none }, accessFlags := 1, code := some k2c0 }
def k2c1 : Code := { maxStack := 5, maxLocals := 6, code := prog_31_method_4_code, exceptionTable := #[], attributes := #[] }
def k2m1 : Method := { name := "permute", desc := "(J)I", sig := { parameters := [.long], returnType := some .int }, accessFlags := 0, code := some k2c1 }
def k2c2 : Code := { maxStack := 6, maxLocals := 3, code := prog_31_method_5_code, exceptionTable := #[], attributes := #[] }
def k2m2 : Method := { name := "word", desc := "(J)J", sig := { parameters := [.long], returnType := some .long }, accessFlags := 2, code := some k2c2 }
def k2c3 : Code := { maxStack := 5, maxLocals := 4, code := prog_31_method_6_code, exceptionTable := #[], attributes := #[] }
def k2m3 : Method := { name := "mix", desc := "(J)J", sig := { parameters := [.long], returnType := some .long }, accessFlags := 10, code := some k2c3 }
/-- com/example/gangleri/gangleri/generate/KroneckerGenerator -/
def k2 : Class := { plain "com/example/gangleri/gangleri/generate/KroneckerGenerator" (some 0) with
  accessFlags := 49
  interfaces := #[]
  cf := some (fileOf pool2 1 #[] #[{ accessFlags := 1, nameIndex := 7, descriptorIndex := 121, attributes := #[] }, { accessFlags := 0, nameIndex := 81, descriptorIndex := 82, attributes := #[] }, { accessFlags := 2, nameIndex := 45, descriptorIndex := 46, attributes := #[] }, { accessFlags := 10, nameIndex := 63, descriptorIndex := 46, attributes := #[] }] 49 4 #[] #[{ accessFlags := 25, nameIndex := 104, descriptorIndex := 29, attributes := #[] }, { accessFlags := 25, nameIndex := 107, descriptorIndex := 29, attributes := #[] }, { accessFlags := 26, nameIndex := 109, descriptorIndex := 110, attributes := #[] }, { accessFlags := 26, nameIndex := 111, descriptorIndex := 110, attributes := #[] }, { accessFlags := 26, nameIndex := 114, descriptorIndex := 110, attributes := #[] }, { accessFlags := 26, nameIndex := 75, descriptorIndex := 36, attributes := #[] }, { accessFlags := 26, nameIndex := 68, descriptorIndex := 36, attributes := #[] }, { accessFlags := 26, nameIndex := 78, descriptorIndex := 36, attributes := #[] }, { accessFlags := 26, nameIndex := 115, descriptorIndex := 36, attributes := #[] }, { accessFlags := 26, nameIndex := 116, descriptorIndex := 29, attributes := #[] }, { accessFlags := 26, nameIndex := 118, descriptorIndex := 29, attributes := #[] }, { accessFlags := 26, nameIndex := 120, descriptorIndex := 36, attributes := #[] }, { accessFlags := 18, nameIndex := 28, descriptorIndex := 29, attributes := #[] }, { accessFlags := 18, nameIndex := 32, descriptorIndex := 29, attributes := #[] }, { accessFlags := 18, nameIndex := 35, descriptorIndex := 36, attributes := #[] }, { accessFlags := 18, nameIndex := 39, descriptorIndex := 29, attributes := #[] }, { accessFlags := 18, nameIndex := 42, descriptorIndex := 36, attributes := #[] }, { accessFlags := 18, nameIndex := 11, descriptorIndex := 12, attributes := #[] }, { accessFlags := 18, nameIndex := 15, descriptorIndex := 12, attributes := #[] }])
  fields := #[{ name := "MIN_SCALE", type := .int, accessFlags := 25, slot := 0, constantValue := 0 }, { name := "MAX_SCALE", type := .int, accessFlags := 25, slot := 1, constantValue := 0 }, { name := "A", type := .double, accessFlags := 26, slot := 2, constantValue := 0 }, { name := "B", type := .double, accessFlags := 26, slot := 3, constantValue := 0 }, { name := "C", type := .double, accessFlags := 26, slot := 4, constantValue := 0 }, { name := "B_START", type := .long, accessFlags := 26, slot := 5, constantValue := 0 }, { name := "C_START", type := .long, accessFlags := 26, slot := 6, constantValue := 0 }, { name := "D_START", type := .long, accessFlags := 26, slot := 7, constantValue := 0 }, { name := "GAMMA", type := .long, accessFlags := 26, slot := 8, constantValue := 0 }, { name := "PERMUTATION_ROUNDS", type := .int, accessFlags := 26, slot := 9, constantValue := 0 }, { name := "PERMUTATION_WORDS", type := .int, accessFlags := 26, slot := 10, constantValue := 0 }, { name := "LOW_32_BITS", type := .long, accessFlags := 26, slot := 11, constantValue := 0 }, { name := "scale", type := .int, accessFlags := 18, slot := 0, constantValue := 0 }, { name := "degree", type := .int, accessFlags := 18, slot := 1, constantValue := 0 }, { name := "seed", type := .long, accessFlags := 18, slot := 2, constantValue := 0 }, { name := "halfScale", type := .int, accessFlags := 18, slot := 3, constantValue := 0 }, { name := "idMask", type := .long, accessFlags := 18, slot := 4, constantValue := 0 }, { name := "offsets", type := (.array .long), accessFlags := 18, slot := 5, constantValue := 0 }, { name := "multipliers", type := (.array .long), accessFlags := 18, slot := 6, constantValue := 0 }]
  methods := #[k2m0, k2m1, k2m2, k2m3]
  instanceTypes := #[.int, .int, .long, .int, .long, (.array .long), (.array .long)]
  staticTypes := #[.int, .int, .double, .double, .double, .long, .long, .long, .long, .int, .int, .long]
  resolved := Array.replicate 151 none
  statics := none }

def pool3 : Array CpInfo := pool [(1, u "java/lang/Cloneable"), (0, .class_ 1), (0, u "java/lang/Object"), (0, .class_ 3)] 3

/-- java/lang/Cloneable -/
def k3 : Class := { plain "java/lang/Cloneable" (some 0) with
  accessFlags := 1537
  interfaces := #[]
  cf := some (fileOf pool3 2 #[] #[] 1537 4 #[] #[])
  fields := #[]
  methods := #[]
  instanceTypes := #[]
  staticTypes := #[]
  resolved := Array.replicate 8 none
  statics := none }

def pool4 : Array CpInfo := pool [(1, u "java/io/Serializable"), (0, .class_ 1), (0, u "java/lang/Object"), (0, .class_ 3)] 3

/-- java/io/Serializable -/
def k4 : Class := { plain "java/io/Serializable" (some 0) with
  accessFlags := 1537
  interfaces := #[]
  cf := some (fileOf pool4 2 #[] #[] 1537 4 #[] #[])
  fields := #[]
  methods := #[]
  instanceTypes := #[]
  staticTypes := #[]
  resolved := Array.replicate 8 none
  statics := none }

/-- the primitive byte -/
def k5 : Class := { plain "byte" none with kind := .primitive 'B', accessFlags := 0x411 }
/-- [B -/
def k6 : Class := { plain "[B" (some 0) with kind := .array 5 .byte, interfaces := #[3, 4], accessFlags := 1041 }

/-- the primitive int -/
def k7 : Class := { plain "int" none with kind := .primitive 'I', accessFlags := 0x411 }
/-- [I -/
def k8 : Class := { plain "[I" (some 0) with kind := .array 7 .int, interfaces := #[3, 4], accessFlags := 1041 }

/-- the primitive long -/
def k9 : Class := { plain "long" none with kind := .primitive 'J', accessFlags := 0x411 }
/-- [J -/
def k10 : Class := { plain "[J" (some 0) with kind := .array 9 .long, interfaces := #[3, 4], accessFlags := 1041 }

def heap : Heap := #[]
def classes : Array Class := #[k0, k1, k2, k3, k4, k5, k6, k7, k8, k9, k10]
def interned : List (Array UInt16 × Addr) := []
def slotsUsed : Nat := 0
def theMethod : MethodId := ⟨1, 5⟩
def args0 : Array Value := #[.int 5, .long 7, .long 2, .long 3]
def aboutOver (below : List Frame) : State where
  vm := { classes := classes, interned := interned.toArray }
  heap := heap
  slotsUsed := slotsUsed
  threads := #[{ frames := .invoking theMethod args0 :: below }]
def below0 : List Frame := [.native { method := ⟨0, 0⟩, args := #[] }]
def about1 : State := aboutOver below0
def p0 : Program := .bare "" "" ""
def e0 : Env := launch0.env 0 0 0
theorem w_frames : about1.frames = Frame.invoking theMethod args0 :: below0 := rfl
set_option maxRecDepth 65536 in
theorem w_args : argsFit about1.vm theMethod args0 = true := by decide +kernel
set_option maxRecDepth 65536 in
theorem w_heap : heapFits about1 = true := by decide +kernel
set_option maxRecDepth 65536 in
theorem w_runnable : about1.curStatus? = some .runnable := by decide +kernel
set_option maxRecDepth 65536 in
theorem w_alone : about1.alone = true := by decide +kernel
set_option maxRecDepth 65536 in
theorem w_named : about1.methodNamed? x = some theMethod := by decide +kernel
set_option maxRecDepth 65536 in
theorem w_hears : about1.hears theMethod below0 = true := by decide +kernel
set_option maxRecDepth 65536 in
theorem w_ripe : about1.ripe theMethod args0 below0 = true := by decide +kernel
theorem w_running : about1.status = .running := rfl
set_option maxRecDepth 65536 in
theorem w_room : about1.hasRoom e0.platform room_1 = true :=
  launch0.hasRoom_least _ room_1 (by decide +kernel) (by decide +kernel) (by decide +kernel) (by decide +kernel) (by decide +kernel) (by decide +kernel)
theorem allAtoms_all (ts : List Jvm.Cond) (a : Array Jvm.Value) (st : Jvm.State) : (allAtoms ts).before a st = ts.all (fun c => c.before a st) := by
  induction ts with
  | nil => rfl
  | cons c t ih =>
    show (Jvm.Cond.and c (allAtoms t)).before a st = _
    rw [Jvm.Cond.before_and, ih, List.all_cons]
def words1 : List Jvm.Cond := Jvm.Cond.code x code maxLocals ret :: tables_1
/-- a 'code' word, met by the world's own term for the bytes: nothing is compared byte by byte -/
theorem code_word {y : MethodName} {bytes : ByteArray} {mx : Nat} {rt : Option FieldType} {a : Array Value} {s : State} {m : MethodId} {meth : Method} {c : Code} (h1 : s.methodNamed? y = some m) (h2 : s.vm.method? m = some meth) (h3 : meth.code = some c) (h4 : c.code = bytes)
    (h5 : (c.maxLocals == mx && c.exceptionTable.isEmpty && decide (c.maxStack ≤ mostOperands) && decide (meth.sig.returnType = rt) && !meth.locks && decide (parseMethodDescriptor y.desc = some meth.sig)) = true) : (Jvm.Cond.code y bytes mx rt).before a s = true := by
  simp only [Bool.and_eq_true, beq_iff_eq, Bool.not_eq_true', decide_eq_true_eq] at h5
  obtain ⟨⟨⟨⟨⟨g1, g2⟩, g3⟩, g4⟩, g5⟩, g6⟩ := h5
  simp [Cond.before, Cond.holds, Cond.value, h1, h2, h3, h4, g1, g2, g3, g4, g5, g6]
def isCode : Jvm.Cond → Bool
  | .code _ _ _ _ => true
  | _ => false
theorem all_split {L : List Jvm.Cond} {P : Jvm.Cond → Bool} (h1 : L.all (fun c => isCode c || P c) = true) (h2 : ∀ c ∈ L.filter isCode, P c = true) : L.all P = true := by
  refine List.all_eq_true.mpr fun c hc => ?_
  have h := List.all_eq_true.mp h1 c hc
  rcases Bool.eq_false_or_eq_true (isCode c) with hi | hi
  · exact h2 c (List.mem_filter.mpr ⟨hc, hi⟩)
  · simpa [hi] using h
set_option maxRecDepth 65536 in
theorem w_c0 : (Jvm.Cond.code x code maxLocals ret).before args0 about1 = true := code_word (m := ⟨1, 5⟩) (meth := k1m5) (c := k1c5) (by decide +kernel) rfl rfl rfl (by decide +kernel)
set_option maxRecDepth 65536 in
theorem w_c1 : (Jvm.Cond.code ({ cls := "com/example/gangleri/gangleri/generate/KroneckerGenerator", name := "<init>", desc := "(IIJ)V" } : Jvm.MethodName) prog_31_method_1_code (6 : Nat) (Option.none : Option Jvm.ClassFile.FieldType)).before args0 about1 = true := code_word (m := ⟨2, 0⟩) (meth := k2m0) (c := k2c0) (by decide +kernel) rfl rfl rfl (by decide +kernel)
set_option maxRecDepth 65536 in
theorem w_c2 : (Jvm.Cond.code ({ cls := "java/lang/Object", name := "<init>", desc := "()V" } : Jvm.MethodName) object_method_1_code (1 : Nat) (Option.none : Option Jvm.ClassFile.FieldType)).before args0 about1 = true := code_word (m := ⟨0, 0⟩) (meth := k0m0) (c := k0c0) (by decide +kernel) rfl rfl rfl (by decide +kernel)
set_option maxRecDepth 65536 in
theorem w_c3 : (Jvm.Cond.code ({ cls := "com/example/gangleri/gangleri/generate/KroneckerGenerator", name := "word", desc := "(J)J" } : Jvm.MethodName) prog_31_method_5_code (3 : Nat) (Option.some Jvm.ClassFile.FieldType.long)).before args0 about1 = true := code_word (m := ⟨2, 2⟩) (meth := k2m2) (c := k2c2) (by decide +kernel) rfl rfl rfl (by decide +kernel)
set_option maxRecDepth 65536 in
theorem w_c4 : (Jvm.Cond.code ({ cls := "com/example/gangleri/gangleri/generate/KroneckerGenerator", name := "mix", desc := "(J)J" } : Jvm.MethodName) prog_31_method_6_code (4 : Nat) (Option.some Jvm.ClassFile.FieldType.long)).before args0 about1 = true := code_word (m := ⟨2, 3⟩) (meth := k2m3) (c := k2c3) (by decide +kernel) rfl rfl rfl (by decide +kernel)
set_option maxRecDepth 65536 in
theorem w_c5 : (Jvm.Cond.code ({ cls := "com/example/gangleri/gangleri/generate/KroneckerGenerator", name := "permute", desc := "(J)I" } : Jvm.MethodName) prog_31_method_4_code (6 : Nat) (Option.some Jvm.ClassFile.FieldType.int)).before args0 about1 = true := code_word (m := ⟨2, 1⟩) (meth := k2m1) (c := k2c1) (by decide +kernel) rfl rfl rfl (by decide +kernel)
set_option maxRecDepth 65536 in
theorem w_c6 : (Jvm.Cond.code ({ cls := "com/example/gangleri/gangleri/generate/KroneckerGeneratorPermutePinLaw", name := "reference", desc := "(JJI)J" } : Jvm.MethodName) method_5_code (10 : Nat) (Option.some Jvm.ClassFile.FieldType.long)).before args0 about1 = true := code_word (m := ⟨1, 4⟩) (meth := k1m4) (c := k1c4) (by decide +kernel) rfl rfl rfl (by decide +kernel)
set_option maxRecDepth 65536 in
theorem w_c7 : (Jvm.Cond.code ({ cls := "com/example/gangleri/gangleri/generate/KroneckerGeneratorPermutePinLaw", name := "round", desc := "(JJIJI)J" } : Jvm.MethodName) method_4_code (14 : Nat) (Option.some Jvm.ClassFile.FieldType.long)).before args0 about1 = true := code_word (m := ⟨1, 3⟩) (meth := k1m3) (c := k1c3) (by decide +kernel) rfl rfl rfl (by decide +kernel)
set_option maxRecDepth 65536 in
theorem w_c8 : (Jvm.Cond.code ({ cls := "com/example/gangleri/gangleri/generate/KroneckerGeneratorPermutePinLaw", name := "word", desc := "(JJ)J" } : Jvm.MethodName) method_3_code (4 : Nat) (Option.some Jvm.ClassFile.FieldType.long)).before args0 about1 = true := code_word (m := ⟨1, 2⟩) (meth := k1m2) (c := k1c2) (by decide +kernel) rfl rfl rfl (by decide +kernel)
set_option maxRecDepth 65536 in
theorem w_c9 : (Jvm.Cond.code ({ cls := "com/example/gangleri/gangleri/generate/KroneckerGeneratorPermutePinLaw", name := "mix", desc := "(J)J" } : Jvm.MethodName) method_2_code (4 : Nat) (Option.some Jvm.ClassFile.FieldType.long)).before args0 about1 = true := code_word (m := ⟨1, 1⟩) (meth := k1m1) (c := k1c1) (by decide +kernel) rfl rfl rfl (by decide +kernel)
def codes1 : List Jvm.Cond := [Jvm.Cond.code x code maxLocals ret, Jvm.Cond.code ({ cls := "com/example/gangleri/gangleri/generate/KroneckerGenerator", name := "<init>", desc := "(IIJ)V" } : Jvm.MethodName) prog_31_method_1_code (6 : Nat) (Option.none : Option Jvm.ClassFile.FieldType), Jvm.Cond.code ({ cls := "java/lang/Object", name := "<init>", desc := "()V" } : Jvm.MethodName) object_method_1_code (1 : Nat) (Option.none : Option Jvm.ClassFile.FieldType), Jvm.Cond.code ({ cls := "com/example/gangleri/gangleri/generate/KroneckerGenerator", name := "word", desc := "(J)J" } : Jvm.MethodName) prog_31_method_5_code (3 : Nat) (Option.some Jvm.ClassFile.FieldType.long), Jvm.Cond.code ({ cls := "com/example/gangleri/gangleri/generate/KroneckerGenerator", name := "mix", desc := "(J)J" } : Jvm.MethodName) prog_31_method_6_code (4 : Nat) (Option.some Jvm.ClassFile.FieldType.long), Jvm.Cond.code ({ cls := "com/example/gangleri/gangleri/generate/KroneckerGenerator", name := "permute", desc := "(J)I" } : Jvm.MethodName) prog_31_method_4_code (6 : Nat) (Option.some Jvm.ClassFile.FieldType.int), Jvm.Cond.code ({ cls := "com/example/gangleri/gangleri/generate/KroneckerGeneratorPermutePinLaw", name := "reference", desc := "(JJI)J" } : Jvm.MethodName) method_5_code (10 : Nat) (Option.some Jvm.ClassFile.FieldType.long), Jvm.Cond.code ({ cls := "com/example/gangleri/gangleri/generate/KroneckerGeneratorPermutePinLaw", name := "round", desc := "(JJIJI)J" } : Jvm.MethodName) method_4_code (14 : Nat) (Option.some Jvm.ClassFile.FieldType.long), Jvm.Cond.code ({ cls := "com/example/gangleri/gangleri/generate/KroneckerGeneratorPermutePinLaw", name := "word", desc := "(JJ)J" } : Jvm.MethodName) method_3_code (4 : Nat) (Option.some Jvm.ClassFile.FieldType.long), Jvm.Cond.code ({ cls := "com/example/gangleri/gangleri/generate/KroneckerGeneratorPermutePinLaw", name := "mix", desc := "(J)J" } : Jvm.MethodName) method_2_code (4 : Nat) (Option.some Jvm.ClassFile.FieldType.long)]
set_option maxRecDepth 65536 in
theorem codes_eq : words1.filter isCode = codes1 := rfl
theorem w_codes : ∀ c ∈ words1.filter isCode, c.before args0 about1 = true := by
  rw [codes_eq]
  intro c hc
  simp only [codes1, List.mem_cons, List.not_mem_nil, or_false] at hc
  rcases hc with rfl | rfl | rfl | rfl | rfl | rfl | rfl | rfl | rfl | rfl
  · exact w_c0
  · exact w_c1
  · exact w_c2
  · exact w_c3
  · exact w_c4
  · exact w_c5
  · exact w_c6
  · exact w_c7
  · exact w_c8
  · exact w_c9
set_option maxRecDepth 65536 in
theorem w_t1 : (words1.take 24).all (fun c => isCode c || c.before args0 about1) = true := by decide +kernel
set_option maxRecDepth 65536 in
theorem w_t2 : ((words1.drop 24).take 24).all (fun c => isCode c || c.before args0 about1) = true := by decide +kernel
set_option maxRecDepth 65536 in
theorem w_t3 : ((words1.drop 24).drop 24).all (fun c => isCode c || c.before args0 about1) = true := by decide +kernel
theorem w_tables : (allAtoms (Jvm.Cond.code x code maxLocals ret :: tables_1)).before args0 about1 = true := by
  rw [allAtoms_all]
  show words1.all (fun c => c.before args0 about1) = true
  refine all_split ?_ w_codes
  rw [← List.take_append_drop 24 words1, List.all_append, w_t1, ← List.take_append_drop 24 (words1.drop 24), List.all_append, w_t2, w_t3]
  rfl
set_option maxRecDepth 65536 in
theorem w_case : (Jvm.Cond.and given_1 narrow_1).before args0 about1 = true := by decide +kernel
theorem w_applies : (headSpec (Jvm.Cond.code x code maxLocals ret :: tables_1) room_1).applies x e0.platform about1 = true :=
  (Spec.applies_iff w_frames).mpr ⟨w_running, w_runnable, w_alone, w_named, w_hears, w_ripe, w_room, w_tables⟩
theorem atStart : AtStart classFile x code maxLocals ret World_1 tables_1 room_1 Calls_1 rest_1 Pre_1 launch0 p0 e0 about1 theMethod args0 below0 :=
  ⟨lists_1, trivial, launch0.admits_env _ _ _, launch0.least_env, fairChoices_fair.cas, fairChoices_fair.clock, w_frames, w_args, w_heap, w_applies, trivial, trivial, w_case⟩
end start1
theorem witness_1 : WitnessClaimed_1 := ⟨start1.p0, start1.e0, start1.about1, start1.theMethod, start1.args0, start1.below0, start1.atStart⟩
end Jvm.Pilot.@@N@@
