import JvmDerived
import JvmDerived.Pilot.@@N@@Statement
import JvmDerived.Pilot.@@N@@Code
set_option linter.unusedVariables false
set_option linter.unusedSimpArgs false
@@BLOCK:NumsL.lean.txt@@
namespace Jvm.RoadKit
open Sem ClassFile Op Lib Jvm.Stand Jvm.Free Jvm.LawKit
section New
variable {p : Program} {l : Launch} {e : Env} {R : Room} {s : State} {m : MethodId} {args : Array Value} {below : List Frame} {meth : Method} {c : Code} {T : State} {locs : List Loc} {cells slots : Nat}
theorem retI (X : Stand p l e R s m args below meth c T locs cells slots) (hx : p.tables.exec = Jvm.exec) {pc : Nat} {Ls : Array Slot} {z : Int32} {rest : List Value} (hret : meth.sig.returnType = some .int) (hd : decode c.code pc = .ok (.ireturn, 1)) {fs : List Frame}
    (hl : ∀ (f : JFrame) (acts : List Action), f.method = m → f.locked = none → f.entered = [] → (doReturn e (T.setTop f) acts (some (.int z))).1 = T.setFrames fs) : Steps p.tables e below (T.setTop (mkF m pc Ls (.int z :: rest))) (T.setFrames fs) := by
  have hm' : T.vm.method? m = some meth := X.method'
  have hn : narrow .int (.int z) = .int z := rfl
  show Steps p.tables e below (T.setTop { method := m, pc := pc, locals := Ls, stack := _ :: rest, locked := none }) _
  jvm_step X.here [X.here.top, hx, hd, hm', hret, hn]
  first | (intro acts; rw [hl _ acts rfl rfl rfl]) | rw [hl _ _ rfl rfl rfl]
  exact Steps.refl _
end New
end Jvm.RoadKit
namespace Jvm.Pilot.@@N@@
open Jvm Jvm.ClassFile Sem Op Lib Jvm.Free Jvm.Stand Jvm.LawKit Jvm.RoadKit Bundle Jvm.Pilot.@@N@@.Jvm.D

/-! chars, bytes, small numbers -/
def own_ch (c : Int32) : Prop := 0 ≤ c.toInt ∧ c.toInt ≤ 255
def own_by (c : Int32) : Int32 := c.toInt8.toInt32
theorem own_nn (x : Int32) : nar .byte (own_by x) = own_by x := by
  show (x.toInt8.toInt32).toInt8.toInt32 = x.toInt8.toInt32
  simp
theorem own_and255 {c : Int32} (h : own_ch c) : (c &&& (255 : Int32)) = c := by
  have h1 := h.1; have h2 := h.2
  rw [← Int32.toInt_inj, Jvm.Kit.i32_mask c _ (k := 8) (by decide) (by decide)]; omega
theorem own_cc {c : Int32} (h : own_ch c) : nar .char c = c := by
  have q := i2c_mask c
  rw [own_and255 h] at q; exact q
theorem own_le {c : Int32} (h : own_ch c) : ¬ ((255 : Int32) < c) := by
  have e : (255 : Int32).toInt = 255 := by decide
  have h2 := h.2
  rw [Int32.lt_iff_toInt_lt, e]; omega
theorem own_c8 {c : Int32} (h : own_ch c) : nar .char (((own_by c) &&& (255 : Int32)).toUInt32.toUInt16.toUInt32.toInt32) = c := by
  have e : ((own_by c) &&& (255 : Int32)) = c := by
    have h1 := h.1; have h2 := h.2
    rw [← Int32.toInt_inj, Jvm.Kit.i32_mask _ _ (k := 8) (by decide) (by decide), own_by, Int8.toInt_toInt32, Int32.toInt_toInt8, Int.bmod_def]; omega
  rw [i2c_mask, e]; exact own_cc h
theorem own_oI {k : Nat} (h : k < 100) : (Int32.ofNat k).toInt = (k : Int) := Int32.toInt_ofNat_of_lt (by omega)
theorem own_olt {i j : Nat} (hi : i < 100) (hj : j < 100) : Int32.ofNat i < Int32.ofNat j ↔ i < j := by
  rw [Int32.lt_iff_toInt_lt, own_oI hi, own_oI hj]; omega
theorem own_oeq {i j : Nat} (hi : i < 100) (hj : j < 100) : Int32.ofNat i = Int32.ofNat j ↔ i = j := by
  rw [← Int32.toInt_inj, own_oI hi, own_oI hj]; omega
theorem own_oN {k : Nat} (h : k < 100) : (Int32.ofNat k).toNatClampNeg = k := by
  rw [Int32.toNatClampNeg, own_oI h]; rfl
theorem own_o0 {k : Nat} (h : k < 100) : ¬ (Int32.ofNat k < (0 : Int32)) := by
  rw [Int32.lt_iff_toInt_lt, own_oI h, Int32.toInt_zero]; omega
theorem own_oadd {a b : Nat} (h : a + b < 100) : Int32.ofNat a + Int32.ofNat b = Int32.ofNat (a + b) := by
  rw [← Int32.toInt_inj, Jvm.Kit.i32_add (by rw [own_oI (by omega), own_oI (by omega)]; omega) (by rw [own_oI (by omega), own_oI (by omega)]; omega), own_oI (by omega), own_oI (by omega), own_oI h]; omega
theorem own_osub {a b : Nat} (hb : b ≤ a) (h : a < 100) : Int32.ofNat a - Int32.ofNat b = Int32.ofNat (a - b) := by
  rw [← Int32.toInt_inj, Jvm.Kit.i32_sub (by rw [own_oI (by omega), own_oI (by omega)]; omega) (by rw [own_oI (by omega), own_oI (by omega)]; omega), own_oI (by omega), own_oI (by omega), own_oI (by omega)]; omega
theorem own_sh0 (z : Int32) : (z >>> ((0 : Int32) &&& 31)) = z := by
  rw [← Int32.toInt_inj, Jvm.Kit.i32_shr z _ (k := 0) (by decide)]; omega
def own_bys (cs : List Int32) : List Value := cs.map fun c => Value.int (own_by c)
def own_mn (a b : Int32) : Int32 := if b < a then b else a
def own_mx (a b : Int32) : Int32 := if a < b then b else a
theorem own_osub2 {a b : Nat} (h : a + b < 100) : Int32.ofNat (a + b) - Int32.ofNat a = Int32.ofNat b := by
  rw [own_osub (by omega) h, Nat.add_sub_cancel_left]
theorem own_mnE {a b : Nat} (hb : b ≤ a) (h : a < 100) : own_mn (Int32.ofNat a) (Int32.ofNat b) = Int32.ofNat b := by
  rw [own_mn]
  split
  · rfl
  · rename_i q
    rw [own_olt (by omega) h] at q
    have : a = b := by omega
    rw [this]
theorem own_cpy (vs : List Value) (dv : Value) (vd : List Value) {sp nn : Int32} {ib k : Nat} (h1 : sp.toNatClampNeg = ib) (h2 : nn.toNatClampNeg = k) :
    ∀ i, i < k → (vd.take (0 : Int32).toNatClampNeg ++ ((List.range nn.toNatClampNeg).map fun i => vs.getD (sp.toNatClampNeg + i) dv) ++ vd.drop ((0 : Int32).toNatClampNeg + nn.toNatClampNeg)).getD i dv = vs.getD (ib + i) dv := by
  intro i hi
  rw [h1, h2]
  have e0 : (0 : Int32).toNatClampNeg = 0 := rfl
  rw [e0, List.take_zero, List.nil_append]
  simp only [List.getD_eq_getElem?_getD]
  rw [List.getElem?_append_left (by simpa using hi)]
  simp [hi]
theorem own_ne0 {k : Nat} (hk : 0 < k) (h : k < 100) : ¬ (Int32.ofNat k = (0 : Int32)) := fun q => by
  have := (own_oeq (j := 0) h (by decide)).mp q; omega
theorem own_is0 {k : Nat} (h : k < 100) (q : Int32.ofNat k = (0 : Int32)) : k = 0 := (own_oeq (j := 0) h (by decide)).mp q
theorem own_z {k : Nat} (h : k = 0) : Int32.ofNat k = (0 : Int32) := by rw [h]; rfl
theorem own_fc {c : Int32} (h : own_ch c) : fits .char (.int c) = true := by
  have q := fits_nar_char c
  rw [own_cc h] at q; exact q

/-! the plain law -/
def own_EL : List (String × Nat) := [("java/lang/String", 7), ("java/lang/StringLatin1", 151)]
theorem own_EW {Z : State} {a0 : Array Value} (hw : ∀ d ∈ tables_1, d.before a0 Z = true) : EW Z a0 own_EL :=
  EW.cons (hw _ (List.mem_of_getElem? (i := 22) rfl)) (by simp) (EW.cons (hw _ (List.mem_of_getElem? (i := 125) rfl)) (by simp) EW.nil)
/-- a String whose value is still null is no booked one -/
theorem own_safe {Z : State} {a0 : Array Value} (hw : ∀ d ∈ tables_1, d.before a0 Z = true) {vm : Vm} {h : Heap} {x : Addr} (hal : Z.vm.Alike vm) (F : Fld Z h x "java/lang/String" "value" "[B" .null) (E : Exa Z h x "java/lang/String") : Safe Z own_EL vm h x := by
  intro B
  obtain ⟨p, hp, u, a, hb, q, hq, G, hy⟩ := B
  obtain ⟨cS, ⟨⟨s1, s2, s3, ⟨cv, kv, iv, s4, s4'⟩, ⟨cc, kc, ic, s5, s5'⟩, s6, s7, s8, s9, s10, s11, s12, s13, s14, s15, s16⟩, hfS, hcS⟩, ⟨kS, k1, k2, k3⟩, hB, hbyt⟩ := G
  obtain ⟨kv', z4⟩ := ff_back (U := Wst Z vm h) hal s4
  rcases hy with rfl | rfl
  · have F2 : Fld Z h q.sa "java/lang/String" "value" "[B" (.ref q.sd) := ⟨q.sC, cv, kv', iv, q.fSV, s1, z4, s6, s2, s3, by rw [← hal.assignable]; exact s4', s8⟩
    exact (F.ne F2 (by simp)) rfl
  · have hB' : vm.findClass "[B" = some q.SA.cls := hB
    have hBZ : Z.vm.findClass "[B" = some q.SA.cls := by rw [← hal.findClass]; exact hB'
    obtain ⟨kb, hkb, -⟩ := Vm.findClass_spec hBZ
    obtain ⟨kb', hkb', ekb⟩ := hal.2.2 _ _ hkb
    obtain ⟨hst, k9, hk9, comp, hkind9⟩ := s11
    have hk9' : vm.classes[q.SA.cls]? = some k9 := hk9
    have ek9 : k9 = kb' := Option.some.inj (hk9'.symm.trans hkb')
    have hAZ : Z.isArrayOf q.SA .byte := ⟨hst, kb, hkb, comp, by rw [ek9, ekb] at hkind9; exact hkind9⟩
    exact (ne_arr E (hw _ (List.mem_of_getElem? (i := 10) rfl)) (⟨s10, hAZ, s12⟩ : Arr Z h q.sd q.SA .byte)) rfl
def own_sp (c : Int32) : Int32 := if c = (32 : Int32) then (1 : Int32) else if c = (9 : Int32) then (1 : Int32) else (0 : Int32)
def own_chr (x : Int32) : Int32 :=
  if (x &&& (3 : Int32)) = (0 : Int32) then (32 : Int32) else if (x &&& (3 : Int32)) = (1 : Int32) then (9 : Int32)
  else nar .char ((((x.toUInt32 >>> ((2 : Int32) &&& 31).toUInt32).toInt32) &&& (255 : Int32)).toUInt32.toUInt16.toUInt32.toInt32)
theorem own_m255 (y : Int32) : own_ch (y &&& (255 : Int32)) := by
  have m : (y &&& (255 : Int32)).toInt = y.toInt % 2 ^ 8 := Jvm.Kit.i32_mask y _ (k := 8) (by decide) (by decide)
  constructor <;> rw [m] <;> omega
theorem own_chI (x : Int32) : own_ch (own_chr x) := by
  rw [own_chr]
  split
  · exact ⟨by decide, by decide⟩
  · split
    · exact ⟨by decide, by decide⟩
    · rw [i2c_mask, own_cc (own_m255 _)]; exact own_m255 _
def own_n5 (s : Int32) : Int32 := ((s &&& (2147483647 : Int32)) - ((s &&& (2147483647 : Int32)) / (5 : Int32)) * (5 : Int32))
theorem own_n5I (s : Int32) : ∃ n : Nat, n ≤ 4 ∧ own_n5 s = Int32.ofNat n := by
  have e2 : (5 : Int32).toInt = 5 := by decide
  have m : (s &&& (2147483647 : Int32)).toInt = s.toInt % 2 ^ 31 := Jvm.Kit.i32_mask s _ (k := 31) (by decide) (by decide)
  rw [own_n5]
  generalize (s &&& (2147483647 : Int32)) = y at *
  have d : (y / (5 : Int32)).toInt = y.toInt / 5 := by
    rw [Jvm.Kit.i32_div (by rw [e2]; omega), e2, Int.tdiv_eq_ediv_of_nonneg (by omega)]
  have p : ((y / (5 : Int32)) * (5 : Int32)).toInt = y.toInt / 5 * 5 := by rw [Jvm.Kit.i32_mul (by rw [d, e2]; omega) (by rw [d, e2]; omega), d, e2]
  have q : (y - (y / (5 : Int32)) * (5 : Int32)).toInt = y.toInt - y.toInt / 5 * 5 := by rw [Jvm.Kit.i32_sub (by rw [p]; omega) (by rw [p]; omega), p]
  refine ⟨(y.toInt - y.toInt / 5 * 5).toNat, by omega, ?_⟩
  rw [← Int32.toInt_inj, q, own_oI (by omega)]; omega
def own_ns (c : Int32) : Bool := decide (own_sp c = (0 : Int32))
def own_ldb : List Bool → Nat
  | [] => 0
  | b :: r => if b = true then 0 else own_ldb r + 1
def own_tlb (bs : List Bool) (i : Nat) : Nat → Nat
  | 0 => 0
  | j + 1 => if i < j + 1 then (if bs.getD j true = true then j + 1 else own_tlb bs i j) else j + 1
def own_lead (cs : List Int32) : Nat := own_ldb (cs.map own_ns)
def own_tail (cs : List Int32) (i j : Nat) : Nat := own_tlb (cs.map own_ns) i j
def own_st (n : Nat) (b0 b1 b2 b3 : Bool) : Nat := if 0 < n ∧ b0 = true then 0 else if 1 < n ∧ b1 = true then 1 else if 2 < n ∧ b2 = true then 2 else if 3 < n ∧ b3 = true then 3 else n
def own_en (n : Nat) (b0 b1 b2 b3 : Bool) : Nat := if 3 < n ∧ b3 = true then 4 else if 2 < n ∧ b2 = true then 3 else if 1 < n ∧ b1 = true then 2 else if 0 < n ∧ b0 = true then 1 else 0
theorem own_fin : ∀ (n : Fin 5) (b0 b1 b2 b3 : Bool), own_ldb ([b0, b1, b2, b3].take n.val) ≤ own_tlb ([b0, b1, b2, b3].take n.val) (own_ldb ([b0, b1, b2, b3].take n.val)) n.val ∧ own_tlb ([b0, b1, b2, b3].take n.val) (own_ldb ([b0, b1, b2, b3].take n.val)) n.val ≤ n.val ∧
    (own_ldb ([b0, b1, b2, b3].take n.val) < own_tlb ([b0, b1, b2, b3].take n.val) (own_ldb ([b0, b1, b2, b3].take n.val)) n.val → own_st n.val b0 b1 b2 b3 = own_ldb ([b0, b1, b2, b3].take n.val)) ∧
    own_mx (0 : Int32) (Int32.ofNat (own_en n.val b0 b1 b2 b3) - Int32.ofNat (own_st n.val b0 b1 b2 b3)) = Int32.ofNat (own_tlb ([b0, b1, b2, b3].take n.val) (own_ldb ([b0, b1, b2, b3].take n.val)) n.val - own_ldb ([b0, b1, b2, b3].take n.val)) ∧ own_st n.val b0 b1 b2 b3 ≤ 4 ∧ own_en n.val b0 b1 b2 b3 ≤ 4 := by decide +kernel
def own_el (c0 c1 c2 c3 : Int32) (i : Nat) : Int32 := [c0, c1, c2, c3].getD i 0
theorem own_elv (c0 c1 c2 c3 : Int32) {i : Nat} (h : i < 4) : [Value.int c0, .int c1, .int c2, .int c3].getD i (.int (0 : Int32)) = .int (own_el c0 c1 c2 c3 i) := by
  match i, h with
  | 0, _ => rfl
  | 1, _ => rfl
  | 2, _ => rfl
  | 3, _ => rfl
theorem own_elc {c0 c1 c2 c3 : Int32} (h0 : own_ch c0) (h1 : own_ch c1) (h2 : own_ch c2) (h3 : own_ch c3) {i : Nat} (h : i < 4) : own_ch (own_el c0 c1 c2 c3 i) := by
  match i, h with
  | 0, _ => exact h0
  | 1, _ => exact h1
  | 2, _ => exact h2
  | 3, _ => exact h3
theorem own_byt (c0 c1 c2 c3 : Int32) {n i : Nat} (hn : n ≤ 4) (h : i < n) : (own_bys ([c0, c1, c2, c3].take n)).getD i (.int (0 : Int32)) = .int (own_by (own_el c0 c1 c2 c3 i)) := by
  match n, i, hn, h with
  | 1, 0, _, _ => rfl
  | 2, 0, _, _ => rfl
  | 2, 1, _, _ => rfl
  | 3, 0, _, _ => rfl
  | 3, 1, _, _ => rfl
  | 3, 2, _, _ => rfl
  | 4, 0, _, _ => rfl
  | 4, 1, _, _ => rfl
  | 4, 2, _, _ => rfl
  | 4, 3, _, _ => rfl
/-- what the trimmed text has to do with the law's own start and end -/
theorem own_all (c0 c1 c2 c3 : Int32) (h0 : own_ch c0) (h1 : own_ch c1) (h2 : own_ch c2) (h3 : own_ch c3) {n : Nat} (hn : n ≤ 4) :
    ∃ k : Nat, own_tail ([c0, c1, c2, c3].take n) (own_lead ([c0, c1, c2, c3].take n)) n = own_lead ([c0, c1, c2, c3].take n) + k ∧ own_lead ([c0, c1, c2, c3].take n) + k ≤ n ∧
      own_mx (0 : Int32) (Int32.ofNat (own_en n (own_ns c0) (own_ns c1) (own_ns c2) (own_ns c3)) - Int32.ofNat (own_st n (own_ns c0) (own_ns c1) (own_ns c2) (own_ns c3))) = Int32.ofNat k ∧
      ∀ rl : List Value, (∀ i, i < k → rl.getD i (.int (0 : Int32)) = (own_bys ([c0, c1, c2, c3].take n)).getD (own_lead ([c0, c1, c2, c3].take n) + i) (.int (0 : Int32))) →
        ∀ i, i < k → own_st n (own_ns c0) (own_ns c1) (own_ns c2) (own_ns c3) + i < 4 ∧ own_ch (own_el c0 c1 c2 c3 (own_st n (own_ns c0) (own_ns c1) (own_ns c2) (own_ns c3) + i)) ∧
          rl.getD i (.int (0 : Int32)) = .int (own_by (own_el c0 c1 c2 c3 (own_st n (own_ns c0) (own_ns c1) (own_ns c2) (own_ns c3) + i))) := by
  obtain ⟨f1, f2, f3, f4, f5, f6⟩ := own_fin ⟨n, by omega⟩ (own_ns c0) (own_ns c1) (own_ns c2) (own_ns c3)
  simp only at f1 f2 f3 f4 f5 f6
  have em : ([c0, c1, c2, c3].take n).map own_ns = [own_ns c0, own_ns c1, own_ns c2, own_ns c3].take n := by rw [List.map_take]; rfl
  simp only [own_lead, own_tail, em]
  generalize own_ldb ([own_ns c0, own_ns c1, own_ns c2, own_ns c3].take n) = ld at *
  generalize own_tlb ([own_ns c0, own_ns c1, own_ns c2, own_ns c3].take n) ld n = tl at *
  refine ⟨tl - ld, by omega, by omega, f4, fun rl hrl i hi => ?_⟩
  have e := f3 (by omega)
  rw [e]
  refine ⟨by omega, own_elc h0 h1 h2 h3 (by omega), ?_⟩
  rw [hrl i hi, own_byt c0 c1 c2 c3 hn (by omega)]
theorem own_osucc {i : Nat} (h : i < 99) : Int32.ofNat i + (1 : Int32) = Int32.ofNat (i + 1) := own_oadd (b := 1) (by omega)
theorem own_opred {i : Nat} (h : i < 99) : Int32.ofNat (i + 1) - (1 : Int32) = Int32.ofNat i := own_osub (b := 1) (by omega) (by omega)
theorem own_omin {i : Nat} (h : i < 99) : Int32.ofNat (i + 1) + (-1 : Int32) = Int32.ofNat i := by
  have e : (-1 : Int32).toInt = -1 := by decide
  rw [← Int32.toInt_inj, Jvm.Kit.i32_add (by rw [own_oI (by omega), e]; omega) (by rw [own_oI (by omega), e]; omega), own_oI (by omega), e, own_oI (by omega)]; omega
theorem own_oadd2 {i : Nat} (h : i < 90) : Int32.ofNat i + (2 : Int32) = Int32.ofNat (i + 2) := own_oadd (b := 2) (by omega)
theorem own_oadd3 {i : Nat} (h : i < 90) : Int32.ofNat i + (3 : Int32) = Int32.ofNat (i + 3) := own_oadd (b := 3) (by omega)
theorem own_getb (cs : List Int32) (i : Nat) (h : i < cs.length) : (own_bys cs).getD i (.int (0 : Int32)) = .int (own_by (cs.getD i 0)) := by
  simp [own_bys, List.getD_eq_getElem?_getD, List.getElem?_map, h]
theorem own_nsg (cs : List Int32) (i : Nat) (h : i < cs.length) : (cs.map own_ns).getD i true = own_ns (cs.getD i 0) := by
  simp [List.getD_eq_getElem?_getD, List.getElem?_map, h]
theorem own_tail_hit {cs : List Int32} {i j : Nat} (hj : j < cs.length) (hi : i < j + 1) (h : own_sp (cs.getD j 0) = (0 : Int32)) : own_tail cs i (j + 1) = j + 1 := by
  rw [own_tail, own_tlb, if_pos hi, own_nsg cs j hj, if_pos (show own_ns (cs.getD j 0) = true from decide_eq_true h)]
theorem own_tail_go {cs : List Int32} {i j : Nat} (hj : j < cs.length) (hi : i < j + 1) (h : ¬ own_sp (cs.getD j 0) = (0 : Int32)) : own_tail cs i (j + 1) = own_tail cs i j := by
  rw [own_tail, own_tlb, if_pos hi, own_nsg cs j hj, if_neg (by rw [own_ns, decide_eq_false h]; decide)]; rfl
theorem own_tail_end {cs : List Int32} {i j : Nat} (hi : ¬ i < j) : own_tail cs i j = j := by
  cases j with
  | zero => rfl
  | succ j => rw [own_tail, own_tlb, if_neg hi]
theorem own_lead_hit {c : Int32} {r : List Int32} (h : own_sp c = (0 : Int32)) : own_lead (c :: r) = 0 := by
  rw [own_lead, List.map_cons, own_ldb, if_pos (by simp [own_ns, h])]
theorem own_lead_go {c : Int32} {r : List Int32} (h : ¬ own_sp c = (0 : Int32)) : own_lead (c :: r) = own_lead r + 1 := by
  rw [own_lead, List.map_cons, own_ldb, if_neg (by simp [own_ns, h])]; rfl
theorem own_drop {xs : List Int32} {i : Nat} (h : i < xs.length) : xs.drop i = xs.getD i 0 :: xs.drop (i + 1) := by
  rw [List.drop_eq_getElem_cons h]; simp [List.getD_eq_getElem?_getD, h]
theorem own_xlen (c0 c1 c2 c3 : Int32) {n : Nat} (hn : n ≤ 4) : ([c0, c1, c2, c3].take n).length = n := by
  rw [List.length_take]; simp; omega
theorem own_xch {c0 c1 c2 c3 : Int32} (h0 : own_ch c0) (h1 : own_ch c1) (h2 : own_ch c2) (h3 : own_ch c3) {n : Nat} (hn : n ≤ 4) : ∀ i, i < ([c0, c1, c2, c3].take n).length → own_ch (([c0, c1, c2, c3].take n).getD i 0) := by
  intro i hi
  rw [own_xlen c0 c1 c2 c3 hn] at hi
  have e : ([c0, c1, c2, c3].take n).getD i 0 = own_el c0 c1 c2 c3 i := by
    rw [own_el, List.getD_eq_getElem?_getD, List.getD_eq_getElem?_getD, List.getElem?_take_of_lt hi]
  rw [e]; exact own_elc h0 h1 h2 h3 (by omega)

theorem ef_14_1 (m : MethodId) (x0 : Addr) (x1 : Int32) (x2 : Addr) (x3 : Int32) (x4 : Int32) : entryFrame m #[(.ref x0), (.int x1), (.ref x2), (.int x3), (.int x4)] 7 = mkF m 0 #[.val (.ref x0), .val (.int x1), .val (.ref x2), .val (.int x3), .val (.int x4), .unset, .unset] [] := by first | (simp [entryFrame, mkF, argsToLocals, Value.category]; done) | rfl
theorem pn_java_lang_StringUTF16 : plainName "java/lang/StringUTF16" = true := by first | (simp [plainName, overriddenIn]; done) | decide +kernel
theorem d14_0 : decode jdk_52_method_21_code 0 = .ok (.iconst 0, 1) := by decide +kernel
theorem d14_1 : decode jdk_52_method_21_code 1 = .ok (.istore 5, 2) := by decide +kernel
theorem d14_3 : decode jdk_52_method_21_code 3 = .ok (.iload 5, 2) := by decide +kernel
theorem d14_5 : decode jdk_52_method_21_code 5 = .ok (.iload 4, 2) := by decide +kernel
theorem d14_7 : decode jdk_52_method_21_code 7 = .ok (.if_icmp .ge 37, 3) := by decide +kernel
theorem d14_10 : decode jdk_52_method_21_code 10 = .ok (.aload_n 0, 1) := by decide +kernel
theorem d14_11 : decode jdk_52_method_21_code 11 = .ok (.iload_n 1, 1) := by decide +kernel
theorem d14_12 : decode jdk_52_method_21_code 12 = .ok (.caload, 1) := by decide +kernel
theorem d14_13 : decode jdk_52_method_21_code 13 = .ok (.istore 6, 2) := by decide +kernel
theorem d14_15 : decode jdk_52_method_21_code 15 = .ok (.iload 6, 2) := by decide +kernel
theorem d14_17 : decode jdk_52_method_21_code 17 = .ok (.sipush 255, 3) := by decide +kernel
theorem d14_20 : decode jdk_52_method_21_code 20 = .ok (.if_icmp .le 6, 3) := by decide +kernel
theorem d14_26 : decode jdk_52_method_21_code 26 = .ok (.aload_n 2, 1) := by decide +kernel
theorem d14_27 : decode jdk_52_method_21_code 27 = .ok (.iload_n 3, 1) := by decide +kernel
theorem d14_28 : decode jdk_52_method_21_code 28 = .ok (.iload 6, 2) := by decide +kernel
theorem d14_30 : decode jdk_52_method_21_code 30 = .ok (.i2b, 1) := by decide +kernel
theorem d14_31 : decode jdk_52_method_21_code 31 = .ok (.bastore, 1) := by decide +kernel
theorem d14_32 : decode jdk_52_method_21_code 32 = .ok (.iinc 1 1, 3) := by decide +kernel
theorem d14_35 : decode jdk_52_method_21_code 35 = .ok (.iinc 3 1, 3) := by decide +kernel
theorem d14_38 : decode jdk_52_method_21_code 38 = .ok (.iinc 5 1, 3) := by decide +kernel
theorem d14_41 : decode jdk_52_method_21_code 41 = .ok (.goto (-38), 3) := by decide +kernel
theorem d14_44 : decode jdk_52_method_21_code 44 = .ok (.iload 4, 2) := by decide +kernel
theorem d14_46 : decode jdk_52_method_21_code 46 = .ok (.ireturn, 1) := by decide +kernel
def Q14_1 (Z : State) (r0 : Addr) (r2 : Addr) (ka kb : ClassId) (c0 : Int32) (h0 : Heap) (n0 : Nat) (v : Option Value) (h : Heap) (L : List Loc) : Prop := v = some (.int (1 : Int32)) ∧ Fr n0 L ∧ Keep h0 h [r2] ∧ Arv Z h r2 kb .byte (1 : Int32) [(.int (own_by c0))] (.int (0 : Int32))
set_option maxRecDepth 65536 in
set_option maxHeartbeats 40000000 in
theorem rm14_1 (l : Launch) (Z : State) (a0 : Array Value) (hw : ∀ d ∈ tables_1, d.before a0 Z = true) (ws : List Jvm.Cond) (r0 : Addr) (r2 : Addr) (ka kb : ClassId) (c0 : Int32) (h0 : Heap) (n0 : Nat) (Z0 : n0 ≤ h0.size) (V_r0 : Arv Z h0 r0 ka .char (1 : Int32) [(.int c0)] (.int (0 : Int32))) (V_r2 : Arv Z h0 r2 kb .byte (1 : Int32) [(.int (0 : Int32))] (.int (0 : Int32))) (g_r2 : n0 ≤ r2) (ne_r0_r2 : r0 ≠ r2) (hc0 : own_ch c0) :
    MetFree l (⟨"java/lang/StringUTF16", "compress", "([CI[BII)I"⟩ : MethodName) (head1 (Jvm.Cond.code (⟨"java/lang/StringUTF16", "compress", "([CI[BII)I"⟩ : MethodName) jdk_52_method_21_code 7 (some .int) :: ws) ({ frames := 0, cells := 0, slots := 0, locals := 0 } : Room)) (fun a U => a = #[(.ref r0), (.int (0 : Int32)), (.ref r2), (.int (0 : Int32)), (.int (1 : Int32))] ∧ Z.Warmed39 U.vm ∧ U.heap = h0) (fun _ _ _ _ _ => True) (fun _ U o U' => ∃ v L, o = .returned v ∧ Q14_1 Z r0 r2 ka kb c0 h0 n0 v U'.heap L ∧ FrameEnd U o U' L ({ frames := 0, cells := 0, slots := 0, locals := 0 } : Room).cells ({ frames := 0, cells := 0, slots := 0, locals := 0 } : Room).slots) := by
  refine MetFree.of_bodySF (plainFor_of_name pn_java_lang_StringUTF16) hisR ?_
  intro p e s m args below meth c s₁ Bd hml0 hP hK
  obtain ⟨rfl, hZ, hh⟩ := hP
  have hx := Bd.exec
  have hby := Bd.bytes
  have hml : c.maxLocals = 7 := hml0
  have hown : s.vm.findClass "java/lang/StringUTF16" = some m.cls := findClass_of_methodNamed Bd.named
  have hnm := (name_of_methodNamed Bd.named Bd.method).1
  have X0 : Stand p l e ({ frames := 0, cells := 0, slots := 0, locals := 0 } : Room) s m #[(.ref r0), (.int (0 : Int32)), (.ref r2), (.int (0 : Int32)), (.int (1 : Int32))] below meth c s₁ [] 0 0 := Stand.of_body Bd
  have e0 : s₁.heap = h0 := by rw [← hh, Bd.state]; rfl
  have N0 := Fr.nil n0
  have pre0 : ∀ t, Steps p.tables e below (s₁.setTop (mkF m 0 #[.val (.ref r0), .val (.int (0 : Int32)), .val (.ref r2), .val (.int (0 : Int32)), .val (.int (1 : Int32)), .unset, .unset] [])) t → Steps p.tables e below (s₁.setTop (entryFrame m #[(.ref r0), (.int (0 : Int32)), (.ref r2), (.int (0 : Int32)), (.int (1 : Int32))] 7)) t := fun tt kt_ => castTop (ef_14_1 m r0 (0 : Int32) r2 (0 : Int32) (1 : Int32)) kt_
  have K0 : Keep h0 h0 [r2] := Keep.refl h0 [r2]
  obtain ⟨cl_12_1, Ar_12_1, -, S_12_1, M_12_1, H_12_1, -⟩ := id V_r0
  have hin12_1 : ¬ ((0 : Int32) < 0 ∨ cl_12_1.slots.size ≤ ((0 : Int32)).toNatClampNeg) := inb_of S_12_1 ⟨by decide, by decide⟩
  have hat12_1 : cl_12_1.slots[((0 : Int32)).toNatClampNeg]? = some (.int c0) := H_12_1.at hin12_1 rfl
  obtain ⟨cl_31_2, Ar_31_2, q_31_2, S_31_2, N_31_2, H_31_2, G_31_2⟩ := id V_r2
  have hin31_2 : ¬ ((0 : Int32) < 0 ∨ cl_31_2.slots.size ≤ ((0 : Int32)).toNatClampNeg) := inb_of S_31_2 ⟨by decide, by decide⟩
  obtain ⟨T3, h3, X3, e3, W3, st3⟩ := stB X0 hx hZ e0 Ar_31_2 (j := (0 : Int32)) hin31_2 (g := (mkF m 31 #[.val (.ref r0), .val (.int (0 : Int32)), .val (.ref r2), .val (.int (0 : Int32)), .val (.int (1 : Int32)), .val (.int (0 : Int32)), .val (.int c0)] [(.int (c0.toInt8.toInt32)), (.int (0 : Int32)), (.ref r2)])) rfl rfl (hb hby d14_31)
  rw [show nar .byte (c0.toInt8.toInt32) = own_by c0 from own_nn c0] at W3
  have V_r0_at3 : Arv Z h3 r0 ka .char (1 : Int32) [(.int c0)] (.int (0 : Int32)) := V_r0.other W3 ne_r0_r2
  have xV_r2_at3 := Arv.set Ar_31_2 q_31_2 S_31_2 N_31_2 H_31_2 G_31_2 (fits_nar_byte _) W3 0 rfl (Nat.le_of_ble_eq_true rfl)
  have V_r2_at3 : Arv Z h3 r2 kb .byte (1 : Int32) [(.int (own_by c0))] (.int (0 : Int32)) := xV_r2_at3
  have K3 : Keep h0 h3 [r2] := K0.wr W3 (Or.inl (List.mem_of_getElem? (i := 0) rfl))
  have Z3 : n0 ≤ h3.size := Nat.le_trans Z0 (Keep.of_wr W3).1
  have N3 := Fr.snoc X3 N0 g_r2
  obtain ⟨fs, hr, hrun, hended, hW, hsame⟩ := X3.leave (v := some (.int (1 : Int32))) (fun h => by rw [Bd.returns] at h; cases h)
  refine ⟨_, _, pre0 _ ?_, hrun, hended, _, _, rfl, ?_, ⟨_, rfl⟩, hW, hsame.mono (by decide) (by decide)⟩
  · show Steps p.tables e below (s₁.setTop (mkF m 0 #[.val (.ref r0), .val (.int (0 : Int32)), .val (.ref r2), .val (.int (0 : Int32)), .val (.int (1 : Int32)), .unset, .unset] [])) _
    refine XS.iconst X0.here hx rfl (hb hby d14_0) ?_
    show Steps p.tables e below (s₁.setTop (mkF m 1 #[.val (.ref r0), .val (.int (0 : Int32)), .val (.ref r2), .val (.int (0 : Int32)), .val (.int (1 : Int32)), .unset, .unset] [(.int (0 : Int32))])) _
    refine XS.istore X0.here hx rfl (hb hby d14_1) rfl (l' := #[.val (.ref r0), .val (.int (0 : Int32)), .val (.ref r2), .val (.int (0 : Int32)), .val (.int (1 : Int32)), .val (.int (0 : Int32)), .unset]) rfl ?_
    refine XS.iload X0.here hx rfl (hb hby d14_3) rfl ?_
    refine XS.iload X0.here hx rfl (hb hby d14_5) rfl ?_
    show Steps p.tables e below (s₁.setTop (mkF m 7 #[.val (.ref r0), .val (.int (0 : Int32)), .val (.ref r2), .val (.int (0 : Int32)), .val (.int (1 : Int32)), .val (.int (0 : Int32)), .unset] [(.int (1 : Int32)), (.int (0 : Int32))])) _
    refine XS.icmpNo X0.here hx rfl (hb hby d14_7) rfl (tlt (by decide : (0 : Int32) < (1 : Int32))).2.1 ?_
    refine XS.aloadN X0.here hx rfl (hb hby d14_10) rfl rfl ?_
    refine XS.iloadN X0.here hx rfl (hb hby d14_11) rfl ?_
    show Steps p.tables e below (s₁.setTop (mkF m 12 #[.val (.ref r0), .val (.int (0 : Int32)), .val (.ref r2), .val (.int (0 : Int32)), .val (.int (1 : Int32)), .val (.int (0 : Int32)), .unset] [(.int (0 : Int32)), (.ref r0)])) _
    refine X0.caload hx (j := (0 : Int32)) (v := (.int c0)) (by rw [e0]; exact Ar_12_1.1) (State.isArrayOf_alike hZ.alike Ar_12_1.2.1) Ar_12_1.2.2 hin12_1 hat12_1 (g := (mkF m 12 #[.val (.ref r0), .val (.int (0 : Int32)), .val (.ref r2), .val (.int (0 : Int32)), .val (.int (1 : Int32)), .val (.int (0 : Int32)), .unset] [(.int (0 : Int32)), (.ref r0)])) rfl rfl (hb hby d14_12) _ ?_
    show Steps p.tables e below (s₁.setTop (mkF m 13 #[.val (.ref r0), .val (.int (0 : Int32)), .val (.ref r2), .val (.int (0 : Int32)), .val (.int (1 : Int32)), .val (.int (0 : Int32)), .unset] [(.int c0)])) _
    refine XS.istore X0.here hx rfl (hb hby d14_13) rfl (l' := #[.val (.ref r0), .val (.int (0 : Int32)), .val (.ref r2), .val (.int (0 : Int32)), .val (.int (1 : Int32)), .val (.int (0 : Int32)), .val (.int c0)]) rfl ?_
    refine XS.iload X0.here hx rfl (hb hby d14_15) rfl ?_
    refine XS.sipush X0.here hx rfl (hb hby d14_17) ?_
    show Steps p.tables e below (s₁.setTop (mkF m 20 #[.val (.ref r0), .val (.int (0 : Int32)), .val (.ref r2), .val (.int (0 : Int32)), .val (.int (1 : Int32)), .val (.int (0 : Int32)), .val (.int c0)] [(.int (255 : Int32)), (.int c0)])) _
    refine XS.icmpYes X0.here hx rfl (pc0 := 20) (pc' := 26) rfl (hb hby d14_20) rfl (flt (own_le hc0)).2.2.2 (by decide) (by decide) ?_
    refine XS.aloadN X0.here hx rfl (hb hby d14_26) rfl rfl ?_
    refine XS.iloadN X0.here hx rfl (hb hby d14_27) rfl ?_
    refine XS.iload X0.here hx rfl (hb hby d14_28) rfl ?_
    show Steps p.tables e below (s₁.setTop (mkF m 30 #[.val (.ref r0), .val (.int (0 : Int32)), .val (.ref r2), .val (.int (0 : Int32)), .val (.int (1 : Int32)), .val (.int (0 : Int32)), .val (.int c0)] [(.int c0), (.int (0 : Int32)), (.ref r2)])) _
    refine XS.i2b X0.here hx rfl (hb hby d14_30) rfl ?_
    show Steps p.tables e below (s₁.setTop (mkF m 31 #[.val (.ref r0), .val (.int (0 : Int32)), .val (.ref r2), .val (.int (0 : Int32)), .val (.int (1 : Int32)), .val (.int (0 : Int32)), .val (.int c0)] [(.int (c0.toInt8.toInt32)), (.int (0 : Int32)), (.ref r2)])) _
    refine st3 _ ?_
    show Steps p.tables e below (T3.setTop (mkF m 32 #[.val (.ref r0), .val (.int (0 : Int32)), .val (.ref r2), .val (.int (0 : Int32)), .val (.int (1 : Int32)), .val (.int (0 : Int32)), .val (.int c0)] [])) _
    refine XS.iinc X3.here hx rfl (hb hby d14_32) rfl (l' := #[.val (.ref r0), .val (.int (1 : Int32)), .val (.ref r2), .val (.int (0 : Int32)), .val (.int (1 : Int32)), .val (.int (0 : Int32)), .val (.int c0)]) rfl ?_
    show Steps p.tables e below (T3.setTop (mkF m 35 #[.val (.ref r0), .val (.int (1 : Int32)), .val (.ref r2), .val (.int (0 : Int32)), .val (.int (1 : Int32)), .val (.int (0 : Int32)), .val (.int c0)] [])) _
    refine XS.iinc X3.here hx rfl (hb hby d14_35) rfl (l' := #[.val (.ref r0), .val (.int (1 : Int32)), .val (.ref r2), .val (.int (1 : Int32)), .val (.int (1 : Int32)), .val (.int (0 : Int32)), .val (.int c0)]) rfl ?_
    show Steps p.tables e below (T3.setTop (mkF m 38 #[.val (.ref r0), .val (.int (1 : Int32)), .val (.ref r2), .val (.int (1 : Int32)), .val (.int (1 : Int32)), .val (.int (0 : Int32)), .val (.int c0)] [])) _
    refine XS.iinc X3.here hx rfl (hb hby d14_38) rfl (l' := #[.val (.ref r0), .val (.int (1 : Int32)), .val (.ref r2), .val (.int (1 : Int32)), .val (.int (1 : Int32)), .val (.int (1 : Int32)), .val (.int c0)]) rfl ?_
    show Steps p.tables e below (T3.setTop (mkF m 41 #[.val (.ref r0), .val (.int (1 : Int32)), .val (.ref r2), .val (.int (1 : Int32)), .val (.int (1 : Int32)), .val (.int (1 : Int32)), .val (.int c0)] [])) _
    refine XS.goto X3.here hx rfl (pc0 := 41) (pc' := 3) rfl (hb hby d14_41) (by decide) (by decide) ?_
    refine XS.iload X3.here hx rfl (hb hby d14_3) rfl ?_
    refine XS.iload X3.here hx rfl (hb hby d14_5) rfl ?_
    show Steps p.tables e below (T3.setTop (mkF m 7 #[.val (.ref r0), .val (.int (1 : Int32)), .val (.ref r2), .val (.int (1 : Int32)), .val (.int (1 : Int32)), .val (.int (1 : Int32)), .val (.int c0)] [(.int (1 : Int32)), (.int (1 : Int32))])) _
    refine XS.icmpYes X3.here hx rfl (pc0 := 7) (pc' := 44) rfl (hb hby d14_7) rfl (flt (by decide : ¬ ((1 : Int32) < (1 : Int32)))).2.1 (by decide) (by decide) ?_
    refine XS.iload X3.here hx rfl (hb hby d14_44) rfl ?_
    show Steps p.tables e below (T3.setTop (mkF m 46 #[.val (.ref r0), .val (.int (1 : Int32)), .val (.ref r2), .val (.int (1 : Int32)), .val (.int (1 : Int32)), .val (.int (1 : Int32)), .val (.int c0)] [(.int (1 : Int32))])) _
    exact retI X3 hx Bd.returns (hb hby d14_46) hr
  · show Q14_1 Z r0 r2 ka kb c0 h0 n0 _ T3.heap _
    rw [e3]
    exact ⟨rfl, N3, K3, V_r2_at3⟩
theorem ef_13_1 (m : MethodId) (x0 : Addr) (x1 : Int32) (x2 : Int32) : entryFrame m #[(.ref x0), (.int x1), (.int x2)] 6 = mkF m 0 #[.val (.ref x0), .val (.int x1), .val (.int x2), .unset, .unset, .unset] [] := by first | (simp [entryFrame, mkF, argsToLocals, Value.category]; done) | rfl
theorem d13_0 : decode jdk_52_method_16_code 0 = .ok (.iload_n 2, 1) := by decide +kernel
theorem d13_1 : decode jdk_52_method_16_code 1 = .ok (.newarray .byte, 2) := by decide +kernel
theorem d13_3 : decode jdk_52_method_16_code 3 = .ok (.astore_n 3, 1) := by decide +kernel
theorem d13_4 : decode jdk_52_method_16_code 4 = .ok (.aload_n 0, 1) := by decide +kernel
theorem d13_5 : decode jdk_52_method_16_code 5 = .ok (.iload_n 1, 1) := by decide +kernel
theorem d13_6 : decode jdk_52_method_16_code 6 = .ok (.aload_n 3, 1) := by decide +kernel
theorem d13_7 : decode jdk_52_method_16_code 7 = .ok (.iconst 0, 1) := by decide +kernel
theorem d13_8 : decode jdk_52_method_16_code 8 = .ok (.iload_n 2, 1) := by decide +kernel
theorem d13_9 : decode jdk_52_method_16_code 9 = .ok (.invokestatic 115, 3) := by decide +kernel
theorem pd_285bCI5bBII29I : parseMethodDescriptor "([CI[BII)I" = some ⟨[(.array .char), .int, (.array .byte), .int, .int], some .int⟩ := by decide +kernel
theorem d13_12 : decode jdk_52_method_16_code 12 = .ok (.istore 4, 2) := by decide +kernel
theorem d13_14 : decode jdk_52_method_16_code 14 = .ok (.iload 4, 2) := by decide +kernel
theorem d13_16 : decode jdk_52_method_16_code 16 = .ok (.iload_n 2, 1) := by decide +kernel
theorem d13_17 : decode jdk_52_method_16_code 17 = .ok (.if_icmp .eq 40, 3) := by decide +kernel
theorem d13_57 : decode jdk_52_method_16_code 57 = .ok (.aload_n 3, 1) := by decide +kernel
theorem d13_58 : decode jdk_52_method_16_code 58 = .ok (.areturn, 1) := by decide +kernel
def Q13_1 (Z : State) (r0 : Addr) (ka : ClassId) (c0 : Int32) (h0 : Heap) (n0 : Nat) (v : Option Value) (h : Heap) (L : List Loc) : Prop := ∃ (b : Addr) (kb : ClassId), v = some (.ref b) ∧ Fr n0 L ∧ Keep h0 h [] ∧ h0.size ≤ b ∧ Arv Z h b kb .byte (1 : Int32) [(.int (own_by c0))] (.int (0 : Int32))
set_option maxRecDepth 65536 in
set_option maxHeartbeats 40000000 in
theorem rm13_1 (l : Launch) (Z : State) (a0 : Array Value) (hw : ∀ d ∈ tables_1, d.before a0 Z = true) (ws : List Jvm.Cond) (r0 : Addr) (ka : ClassId) (c0 : Int32) (h0 : Heap) (n0 : Nat) (Z0 : n0 ≤ h0.size) (V_r0 : Arv Z h0 r0 ka .char (1 : Int32) [(.int c0)] (.int (0 : Int32))) (hc0 : own_ch c0) :
    MetFree l (⟨"java/lang/StringUTF16", "compress", "([CII)[B"⟩ : MethodName) (head1 (Jvm.Cond.code (⟨"java/lang/StringUTF16", "compress", "([CII)[B"⟩ : MethodName) jdk_52_method_16_code 6 (some (.array .byte)) :: ws) ({ frames := 1, cells := 1, slots := 1, locals := 18 } : Room)) (fun a U => a = #[(.ref r0), (.int (0 : Int32)), (.int (1 : Int32))] ∧ Z.Warmed39 U.vm ∧ U.heap = h0) (fun _ _ _ _ _ => True) (fun _ U o U' => ∃ v L, o = .returned v ∧ Q13_1 Z r0 ka c0 h0 n0 v U'.heap L ∧ FrameEnd U o U' L ({ frames := 1, cells := 1, slots := 1, locals := 18 } : Room).cells ({ frames := 1, cells := 1, slots := 1, locals := 18 } : Room).slots) := by
  refine MetFree.of_bodySF (plainFor_of_name pn_java_lang_StringUTF16) hisR ?_
  intro p e s m args below meth c s₁ Bd hml0 hP hK
  obtain ⟨rfl, hZ, hh⟩ := hP
  have hx := Bd.exec
  have hby := Bd.bytes
  have hml : c.maxLocals = 6 := hml0
  have hown : s.vm.findClass "java/lang/StringUTF16" = some m.cls := findClass_of_methodNamed Bd.named
  have hnm := (name_of_methodNamed Bd.named Bd.method).1
  have X0 : Stand p l e ({ frames := 1, cells := 1, slots := 1, locals := 18 } : Room) s m #[(.ref r0), (.int (0 : Int32)), (.int (1 : Int32))] below meth c s₁ [] 0 0 := Stand.of_body Bd
  have e0 : s₁.heap = h0 := by rw [← hh, Bd.state]; rfl
  have N0 := Fr.nil n0
  have pre0 : ∀ t, Steps p.tables e below (s₁.setTop (mkF m 0 #[.val (.ref r0), .val (.int (0 : Int32)), .val (.int (1 : Int32)), .unset, .unset, .unset] [])) t → Steps p.tables e below (s₁.setTop (entryFrame m #[(.ref r0), (.int (0 : Int32)), (.int (1 : Int32))] 6)) t := fun tt kt_ => castTop (ef_13_1 m r0 (0 : Int32) (1 : Int32)) kt_
  have K0 : Keep h0 h0 [] := Keep.refl h0 []
  obtain ⟨T1, h1, k1, X1, e1, E1, A1, st1⟩ := newP X0 hx hZ (hw _ (List.mem_of_getElem? (i := 23) rfl)) e0 (g := (mkF m 1 #[.val (.ref r0), .val (.int (0 : Int32)), .val (.int (1 : Int32)), .unset, .unset, .unset] [(.int (1 : Int32))])) rfl (hb hby d13_1) rfl (by decide) (cap := 1) (by decide) (by decide) (by decide) (by decide)
  obtain ⟨b1, g1⟩ : ∃ z, z = h0.size := ⟨_, rfl⟩
  rw [← g1] at A1 st1
  have g_b1 : n0 ≤ b1 := Nat.le_trans Z0 (Nat.le_of_eq g1.symm)
  have sz_b1 : h0.size ≤ b1 := Nat.le_trans K0.1 (Nat.le_of_eq g1.symm)
  have ne_r0_b1 : r0 ≠ b1 := Nat.ne_of_lt (Nat.lt_of_lt_of_le V_r0.lt (Nat.le_of_eq g1.symm))
  have V_r0_at1 : Arv Z h1 r0 ka .char (1 : Int32) [(.int c0)] (.int (0 : Int32)) := V_r0.ext E1
  have K1 : Keep h0 h1 [] := K0.ext E1
  have Z1 : n0 ≤ h1.size := Nat.le_trans Z0 E1.1
  have xV_b1_at1 := (Arv.new A1 (by decide)).pad (pad_rep [] (.int (0 : Int32)) 1)
  have V_b1_at1 : Arv Z h1 b1 k1 .byte (1 : Int32) [(.int (0 : Int32))] (.int (0 : Int32)) := xV_b1_at1
  obtain ⟨_, _, ⟨T2, L2, k2, n2⟩, -, X2, ⟨Lc2, hQ2, l2, y2, z2⟩, st2⟩ := Jvm.LawKit.callS X1 hx (y := (⟨"java/lang/StringUTF16", "compress", "([CI[BII)I"⟩ : MethodName)) hown (mvT hZ (hw _ (List.mem_of_getElem? (i := 68) rfl))) (mvT hZ (hw _ (List.mem_of_getElem? (i := 69) rfl))) (mvT hZ (hw _ (List.mem_of_getElem? (i := 66) rfl))) (mvT hZ (hw _ (List.mem_of_getElem? (i := 70) rfl))) (by decide) (backOf (W := 0) (rm14_1 l Z a0 hw [] r0 b1 ka k1 c0 h1 n0 Z1 V_r0_at1 V_b1_at1 g_b1 ne_r0_b1 hc0) hZ (hw _ (List.mem_of_getElem? (i := 70) rfl)) (hw _ (List.mem_of_getElem? (i := 66) rfl)) (by decide) (by decide)) (g := (mkF m 9 #[.val (.ref r0), .val (.int (0 : Int32)), .val (.int (1 : Int32)), .val (.ref b1), .unset, .unset] [(.int (1 : Int32)), (.int (0 : Int32)), (.ref b1), (.int (0 : Int32)), (.ref r0)])) rfl (by rw [hml]; rfl) (argsL := [(.ref r0), (.int (0 : Int32)), (.ref b1), (.int (0 : Int32)), (.int (1 : Int32))]) (rest := []) (lenOf pd_285bCI5bBII29I rfl) rfl (by show 2 * 0 + _ ≤ _; exact Nat.le_of_eq rfl) (hb hby d13_9) (fun _ _ => ⟨rfl, e1, (by decide : 1 + 0 ≤ _), (by decide : 1 + 0 ≤ _)⟩)
  dsimp only [Pt.U, Pt.locs, Pt.cells, Pt.slots] at X2 l2 y2 z2 st2 hQ2
  subst l2 y2 z2
  obtain ⟨rfl, N2q, KK2, VB2⟩ := hQ2
  obtain ⟨h2, e2⟩ : ∃ z, T2.heap = z := ⟨_, rfl⟩
  rw [e2] at KK2 VB2
  have V_r0_at2 : Arv Z h2 r0 ka .char (1 : Int32) [(.int c0)] (.int (0 : Int32)) := V_r0_at1.keep KK2 (ninS ne_r0_b1 nin0)
  have K2 : Keep h0 h2 [] := K1.trans KK2 (allS (Or.inr sz_b1) all0)
  have Z2 : n0 ≤ h2.size := Nat.le_trans Z1 KK2.1
  have N2 := Fr.app N0 N2q
  obtain ⟨fs, hr, hrun, hended, hW, hsame⟩ := X2.leave (v := some (.ref b1)) (fun h => by rw [Bd.returns] at h; cases h)
  refine ⟨_, _, pre0 _ ?_, hrun, hended, _, _, rfl, ?_, ⟨_, rfl⟩, hW, hsame.mono (by decide) (by decide)⟩
  · show Steps p.tables e below (s₁.setTop (mkF m 0 #[.val (.ref r0), .val (.int (0 : Int32)), .val (.int (1 : Int32)), .unset, .unset, .unset] [])) _
    refine XS.iloadN X0.here hx rfl (hb hby d13_0) rfl ?_
    show Steps p.tables e below (s₁.setTop (mkF m 1 #[.val (.ref r0), .val (.int (0 : Int32)), .val (.int (1 : Int32)), .unset, .unset, .unset] [(.int (1 : Int32))])) _
    refine st1 _ ?_
    show Steps p.tables e below (T1.setTop (mkF m 3 #[.val (.ref r0), .val (.int (0 : Int32)), .val (.int (1 : Int32)), .unset, .unset, .unset] [(.ref b1)])) _
    refine XS.astoreN X1.here hx rfl (hb hby d13_3) rfl rfl (l' := #[.val (.ref r0), .val (.int (0 : Int32)), .val (.int (1 : Int32)), .val (.ref b1), .unset, .unset]) rfl ?_
    refine XS.aloadN X1.here hx rfl (hb hby d13_4) rfl rfl ?_
    refine XS.iloadN X1.here hx rfl (hb hby d13_5) rfl ?_
    refine XS.aloadN X1.here hx rfl (hb hby d13_6) rfl rfl ?_
    show Steps p.tables e below (T1.setTop (mkF m 7 #[.val (.ref r0), .val (.int (0 : Int32)), .val (.int (1 : Int32)), .val (.ref b1), .unset, .unset] [(.ref b1), (.int (0 : Int32)), (.ref r0)])) _
    refine XS.iconst X1.here hx rfl (hb hby d13_7) ?_
    refine XS.iloadN X1.here hx rfl (hb hby d13_8) rfl ?_
    show Steps p.tables e below (T1.setTop (mkF m 9 #[.val (.ref r0), .val (.int (0 : Int32)), .val (.int (1 : Int32)), .val (.ref b1), .unset, .unset] [(.int (1 : Int32)), (.int (0 : Int32)), (.ref b1), (.int (0 : Int32)), (.ref r0)])) _
    refine st2 _ ?_
    show Steps p.tables e below (T2.setTop (mkF m 12 #[.val (.ref r0), .val (.int (0 : Int32)), .val (.int (1 : Int32)), .val (.ref b1), .unset, .unset] [(.int (1 : Int32))])) _
    refine XS.istore X2.here hx rfl (hb hby d13_12) rfl (l' := #[.val (.ref r0), .val (.int (0 : Int32)), .val (.int (1 : Int32)), .val (.ref b1), .val (.int (1 : Int32)), .unset]) rfl ?_
    refine XS.iload X2.here hx rfl (hb hby d13_14) rfl ?_
    refine XS.iloadN X2.here hx rfl (hb hby d13_16) rfl ?_
    show Steps p.tables e below (T2.setTop (mkF m 17 #[.val (.ref r0), .val (.int (0 : Int32)), .val (.int (1 : Int32)), .val (.ref b1), .val (.int (1 : Int32)), .unset] [(.int (1 : Int32)), (.int (1 : Int32))])) _
    refine XS.icmpYes X2.here hx rfl (pc0 := 17) (pc' := 57) rfl (hb hby d13_17) rfl (teq (by decide : (1 : Int32) = (1 : Int32))).1 (by decide) (by decide) ?_
    refine XS.aloadN X2.here hx rfl (hb hby d13_57) rfl rfl ?_
    show Steps p.tables e below (T2.setTop (mkF m 58 #[.val (.ref r0), .val (.int (0 : Int32)), .val (.int (1 : Int32)), .val (.ref b1), .val (.int (1 : Int32)), .unset] [(.ref b1)])) _
    jvm_step X2.here [X2.here.top, hx, (hb hby d13_58), X2.method', Bd.returns, Value.isRef, FieldType.isReference]
    first | (intro acts; rw [hr _ acts rfl rfl rfl]) | rw [hr _ _ rfl rfl rfl]
    exact Steps.refl _
  · show Q13_1 Z r0 ka c0 h0 n0 _ T2.heap _
    rw [e2]
    exact ⟨b1, _, rfl, N2, K2, sz_b1, VB2⟩
theorem ef_15_1 (m : MethodId) (x0 : Addr) (x1 : Int32) : entryFrame m #[(.ref x0), (.int x1)] 2 = mkF m 0 #[.val (.ref x0), .val (.int x1)] [] := by first | (simp [entryFrame, mkF, argsToLocals, Value.category]; done) | rfl
theorem d15_0 : decode jdk_52_method_15_code 0 = .ok (.iload_n 1, 1) := by decide +kernel
theorem d15_1 : decode jdk_52_method_15_code 1 = .ok (.aload_n 0, 1) := by decide +kernel
theorem d15_2 : decode jdk_52_method_15_code 2 = .ok (.arraylength, 1) := by decide +kernel
theorem d15_3 : decode jdk_52_method_15_code 3 = .ok (.isub, 1) := by decide +kernel
theorem d15_4 : decode jdk_52_method_15_code 4 = .ok (.bipush 31, 2) := by decide +kernel
theorem d15_6 : decode jdk_52_method_15_code 6 = .ok (.iushr, 1) := by decide +kernel
theorem d15_7 : decode jdk_52_method_15_code 7 = .ok (.i2b, 1) := by decide +kernel
theorem d15_8 : decode jdk_52_method_15_code 8 = .ok (.ireturn, 1) := by decide +kernel
def Q15_1 (Z : State) (r0 : Addr) (ka : ClassId) (vs : List Value) (h0 : Heap) (n0 : Nat) (v : Option Value) (h : Heap) (L : List Loc) : Prop := v = some (.int (0 : Int32)) ∧ Fr n0 L ∧ h = h0
set_option maxRecDepth 65536 in
set_option maxHeartbeats 40000000 in
theorem rm15_1 (l : Launch) (Z : State) (a0 : Array Value) (hw : ∀ d ∈ tables_1, d.before a0 Z = true) (ws : List Jvm.Cond) (r0 : Addr) (ka : ClassId) (vs : List Value) (h0 : Heap) (n0 : Nat) (Z0 : n0 ≤ h0.size) (V_r0 : Arv Z h0 r0 ka .byte (1 : Int32) vs (.int (0 : Int32))) :
    MetFree l (⟨"java/lang/StringUTF16", "coderFromArrayLen", "([BI)B"⟩ : MethodName) (head1 (Jvm.Cond.code (⟨"java/lang/StringUTF16", "coderFromArrayLen", "([BI)B"⟩ : MethodName) jdk_52_method_15_code 2 (some .byte) :: ws) ({ frames := 0, cells := 0, slots := 0, locals := 0 } : Room)) (fun a U => a = #[(.ref r0), (.int (1 : Int32))] ∧ Z.Warmed39 U.vm ∧ U.heap = h0) (fun _ _ _ _ _ => True) (fun _ U o U' => ∃ v L, o = .returned v ∧ Q15_1 Z r0 ka vs h0 n0 v U'.heap L ∧ FrameEnd U o U' L ({ frames := 0, cells := 0, slots := 0, locals := 0 } : Room).cells ({ frames := 0, cells := 0, slots := 0, locals := 0 } : Room).slots) := by
  refine MetFree.of_bodySF (plainFor_of_name pn_java_lang_StringUTF16) hisR ?_
  intro p e s m args below meth c s₁ Bd hml0 hP hK
  obtain ⟨rfl, hZ, hh⟩ := hP
  have hx := Bd.exec
  have hby := Bd.bytes
  have hml : c.maxLocals = 2 := hml0
  have hown : s.vm.findClass "java/lang/StringUTF16" = some m.cls := findClass_of_methodNamed Bd.named
  have hnm := (name_of_methodNamed Bd.named Bd.method).1
  have X0 : Stand p l e ({ frames := 0, cells := 0, slots := 0, locals := 0 } : Room) s m #[(.ref r0), (.int (1 : Int32))] below meth c s₁ [] 0 0 := Stand.of_body Bd
  have e0 : s₁.heap = h0 := by rw [← hh, Bd.state]; rfl
  have N0 := Fr.nil n0
  have pre0 : ∀ t, Steps p.tables e below (s₁.setTop (mkF m 0 #[.val (.ref r0), .val (.int (1 : Int32))] [])) t → Steps p.tables e below (s₁.setTop (entryFrame m #[(.ref r0), (.int (1 : Int32))] 2)) t := fun tt kt_ => castTop (ef_15_1 m r0 (1 : Int32)) kt_
  obtain ⟨cl_2_1, Ar_2_1, -, S_2_1, M_2_1, -, -⟩ := id V_r0
  obtain ⟨fs, hr, hrun, hended, hW, hsame⟩ := X0.leave (v := some (.int (nar .byte ((((0 : Int32).toUInt32 >>> ((31 : Int32) &&& 31).toUInt32).toInt32).toInt8.toInt32)))) (fun h => by rw [Bd.returns] at h; cases h)
  refine ⟨_, _, pre0 _ ?_, hrun, hended, _, _, rfl, ?_, ⟨_, rfl⟩, hW, hsame.mono (by decide) (by decide)⟩
  · show Steps p.tables e below (s₁.setTop (mkF m 0 #[.val (.ref r0), .val (.int (1 : Int32))] [])) _
    refine XS.iloadN X0.here hx rfl (hb hby d15_0) rfl ?_
    refine XS.aloadN X0.here hx rfl (hb hby d15_1) rfl rfl ?_
    show Steps p.tables e below (s₁.setTop (mkF m 2 #[.val (.ref r0), .val (.int (1 : Int32))] [(.ref r0), (.int (1 : Int32))])) _
    refine X0.arraylength hx (by rw [e0]; exact Ar_2_1.1) (State.isArrayOf_alike hZ.alike Ar_2_1.2.1) (g := (mkF m 2 #[.val (.ref r0), .val (.int (1 : Int32))] [(.ref r0), (.int (1 : Int32))])) rfl rfl (hb hby d15_2) _ ?_
    rw [len_of S_2_1 M_2_1]
    show Steps p.tables e below (s₁.setTop (mkF m 3 #[.val (.ref r0), .val (.int (1 : Int32))] [(.int (1 : Int32)), (.int (1 : Int32))])) _
    refine XS.isub X0.here hx rfl (hb hby d15_3) rfl ?_
    refine XS.bipush X0.here hx rfl (hb hby d15_4) ?_
    show Steps p.tables e below (s₁.setTop (mkF m 6 #[.val (.ref r0), .val (.int (1 : Int32))] [(.int (31 : Int32)), (.int (0 : Int32))])) _
    refine XS.iushr X0.here hx rfl (hb hby d15_6) rfl ?_
    show Steps p.tables e below (s₁.setTop (mkF m 7 #[.val (.ref r0), .val (.int (1 : Int32))] [(.int (((0 : Int32).toUInt32 >>> ((31 : Int32) &&& 31).toUInt32).toInt32))])) _
    refine XS.i2b X0.here hx rfl (hb hby d15_7) rfl ?_
    show Steps p.tables e below (s₁.setTop (mkF m 8 #[.val (.ref r0), .val (.int (1 : Int32))] [(.int ((((0 : Int32).toUInt32 >>> ((31 : Int32) &&& 31).toUInt32).toInt32).toInt8.toInt32))])) _
    exact retN X0 hx (t := .byte) Bd.returns (by simp) (hb hby d15_8) hr
  · show Q15_1 Z r0 ka vs h0 n0 _ s₁.heap _
    rw [e0]
    exact ⟨rfl, N0, rfl⟩
theorem ef_4_1 (m : MethodId) (x0 : Addr) (x1 : Addr) (x2 : Int32) (x3 : Int32) : entryFrame m #[(.ref x0), (.ref x1), (.int x2), (.int x3), .null] 6 = mkF m 0 #[.val (.ref x0), .val (.ref x1), .val (.int x2), .val (.int x3), .val .null, .unset] [] := by first | (simp [entryFrame, mkF, argsToLocals, Value.category]; done) | rfl
theorem pn_java_lang_String : plainName "java/lang/String" = true := by first | (simp [plainName, overriddenIn]; done) | decide +kernel
theorem d4_0 : decode jdk_42_method_149_code 0 = .ok (.aload_n 0, 1) := by decide +kernel
theorem d4_1 : decode jdk_42_method_149_code 1 = .ok (.invokespecial 1, 3) := by decide +kernel
theorem d4_4 : decode jdk_42_method_149_code 4 = .ok (.iload_n 3, 1) := by decide +kernel
theorem d4_5 : decode jdk_42_method_149_code 5 = .ok (.ifCond .ne 22, 3) := by decide +kernel
theorem d4_27 : decode jdk_42_method_149_code 27 = .ok (.getstatic 38, 3) := by decide +kernel
theorem d4_30 : decode jdk_42_method_149_code 30 = .ok (.ifCond .eq 28, 3) := by decide +kernel
theorem d4_33 : decode jdk_42_method_149_code 33 = .ok (.aload_n 1, 1) := by decide +kernel
theorem d4_34 : decode jdk_42_method_149_code 34 = .ok (.iload_n 2, 1) := by decide +kernel
theorem d4_35 : decode jdk_42_method_149_code 35 = .ok (.iload_n 3, 1) := by decide +kernel
theorem d4_36 : decode jdk_42_method_149_code 36 = .ok (.invokestatic 177, 3) := by decide +kernel
theorem pd_285bCII295bB : parseMethodDescriptor "([CII)[B" = some ⟨[(.array .char), .int, .int], some (.array .byte)⟩ := by decide +kernel
theorem d4_39 : decode jdk_42_method_149_code 39 = .ok (.astore 5, 2) := by decide +kernel
theorem d4_41 : decode jdk_42_method_149_code 41 = .ok (.aload_n 0, 1) := by decide +kernel
theorem d4_42 : decode jdk_42_method_149_code 42 = .ok (.aload 5, 2) := by decide +kernel
theorem d4_44 : decode jdk_42_method_149_code 44 = .ok (.iload_n 3, 1) := by decide +kernel
theorem d4_45 : decode jdk_42_method_149_code 45 = .ok (.invokestatic 47, 3) := by decide +kernel
theorem pd_285bBI29B : parseMethodDescriptor "([BI)B" = some ⟨[(.array .byte), .int], some .byte⟩ := by decide +kernel
theorem d4_48 : decode jdk_42_method_149_code 48 = .ok (.putfield 15, 3) := by decide +kernel
theorem d4_51 : decode jdk_42_method_149_code 51 = .ok (.aload_n 0, 1) := by decide +kernel
theorem d4_52 : decode jdk_42_method_149_code 52 = .ok (.aload 5, 2) := by decide +kernel
theorem d4_54 : decode jdk_42_method_149_code 54 = .ok (.putfield 9, 3) := by decide +kernel
theorem d4_57 : decode jdk_42_method_149_code 57 = .ok (.return_, 1) := by decide +kernel
def Q4_1 (Z : State) (r0 : Addr) (r1 : Addr) (ka : ClassId) (c0 : Int32) (cs : Int32) (h0 : Heap) (n0 : Nat) (v : Option Value) (h : Heap) (L : List Loc) : Prop := v = none ∧ Fr n0 L ∧ Keep h0 h [r0] ∧ ∃ (b : Addr) (kb : ClassId), h0.size ≤ b ∧ Fld Z h r0 "java/lang/String" "coder" "B" (.int (0 : Int32)) ∧ Fld Z h r0 "java/lang/String" "value" "[B" (.ref b) ∧ Arv Z h b kb .byte (1 : Int32) [(.int (own_by c0))] (.int (0 : Int32))
set_option maxRecDepth 65536 in
set_option maxHeartbeats 40000000 in
theorem rm4_1 (l : Launch) (Z : State) (a0 : Array Value) (hw : ∀ d ∈ tables_1, d.before a0 Z = true) (ws : List Jvm.Cond) (r0 : Addr) (r1 : Addr) (ka : ClassId) (c0 : Int32) (cs : Int32) (h0 : Heap) (n0 : Nat) (Z0 : n0 ≤ h0.size) (E_r0 : Exa Z h0 r0 "java/lang/String") (F_value : Fld Z h0 r0 "java/lang/String" "value" "[B" .null) (F_coder : Fld Z h0 r0 "java/lang/String" "coder" "B" (.int (0 : Int32))) (g_r0 : n0 ≤ r0) (V_r1 : Arv Z h0 r1 ka .char (1 : Int32) [(.int c0)] (.int (0 : Int32))) (ne_r0_r1 : r0 ≠ r1) (O_0 : Old Z n0 h0) (S_cs : Sta Z Z.heap "java/lang/String" "COMPACT_STRINGS" "Z" (.int cs)) (hcs : ¬ (cs = (0 : Int32))) (hc0 : own_ch c0) :
    MetFree l (⟨"java/lang/String", "<init>", "([CIILjava/lang/Void;)V"⟩ : MethodName) (head1 (Jvm.Cond.code (⟨"java/lang/String", "<init>", "([CIILjava/lang/Void;)V"⟩ : MethodName) jdk_42_method_149_code 6 none :: ws) ({ frames := 2, cells := 1, slots := 1, locals := 35 } : Room)) (fun a U => a = #[(.ref r0), (.ref r1), (.int (0 : Int32)), (.int (1 : Int32)), .null] ∧ Z.Warmed39 U.vm ∧ U.heap = h0) (fun _ _ _ _ _ => True) (fun _ U o U' => ∃ v L, o = .returned v ∧ Q4_1 Z r0 r1 ka c0 cs h0 n0 v U'.heap L ∧ FrameEnd U o U' L ({ frames := 2, cells := 1, slots := 1, locals := 35 } : Room).cells ({ frames := 2, cells := 1, slots := 1, locals := 35 } : Room).slots) := by
  refine MetFree.of_bodySF (plainFor_of_name pn_java_lang_String) hisR ?_
  intro p e s m args below meth c s₁ Bd hml0 hP hK
  obtain ⟨rfl, hZ, hh⟩ := hP
  have hx := Bd.exec
  have hby := Bd.bytes
  have hml : c.maxLocals = 6 := hml0
  have hown : s.vm.findClass "java/lang/String" = some m.cls := findClass_of_methodNamed Bd.named
  have hnm := (name_of_methodNamed Bd.named Bd.method).1
  have X0 : Stand p l e ({ frames := 2, cells := 1, slots := 1, locals := 35 } : Room) s m #[(.ref r0), (.ref r1), (.int (0 : Int32)), (.int (1 : Int32)), .null] below meth c s₁ [] 0 0 := Stand.of_body Bd
  have e0 : s₁.heap = h0 := by rw [← hh, Bd.state]; rfl
  have N0 := Fr.nil n0
  have pre0 : ∀ t, Steps p.tables e below (s₁.setTop (mkF m 0 #[.val (.ref r0), .val (.ref r1), .val (.int (0 : Int32)), .val (.int (1 : Int32)), .val .null, .unset] [])) t → Steps p.tables e below (s₁.setTop (entryFrame m #[(.ref r0), (.ref r1), (.int (0 : Int32)), (.int (1 : Int32)), .null] 6)) t := fun tt kt_ => castTop (ef_4_1 m r0 r1 (0 : Int32) (1 : Int32)) kt_
  have K0 : Keep h0 h0 [r0] := Keep.refl h0 [r0]
  obtain ⟨T1, X1, e1, st1⟩ := initO X0 hx hZ hown (hw _ (List.mem_of_getElem? (i := 19) rfl)) (hw _ (List.mem_of_getElem? (i := 20) rfl)) (hw _ (List.mem_of_getElem? (i := 21) rfl)) e0 (g := (mkF m 1 #[.val (.ref r0), .val (.ref r1), .val (.int (0 : Int32)), .val (.int (1 : Int32)), .val .null, .unset] [(.ref r0)])) rfl (by rw [hml]; rfl) rfl (hb hby d4_1) (by decide) (W := 0) (by show 2 * 0 + _ ≤ _; exact Nat.le_of_eq rfl) (by decide)
  obtain ⟨T2, X2, e2, st2⟩ := getS2 X1 hx hZ hown (host := "") (Or.inl (hw _ (List.mem_of_getElem? (i := 44) rfl))) Via.refl e1 (Sta.ext O_0.2 S_cs) (g := (mkF m 27 #[.val (.ref r0), .val (.ref r1), .val (.int (0 : Int32)), .val (.int (1 : Int32)), .val .null, .unset] [])) rfl (hb hby d4_27)
  obtain ⟨_, _, ⟨T3, L3, k3, n3⟩, -, X3, ⟨Lc3, hQ3, l3, y3, z3⟩, st3⟩ := Jvm.LawKit.callS X2 hx (y := (⟨"java/lang/StringUTF16", "compress", "([CII)[B"⟩ : MethodName)) hown (mvT hZ (hw _ (List.mem_of_getElem? (i := 64) rfl))) (mvT hZ (hw _ (List.mem_of_getElem? (i := 65) rfl))) (mvT hZ (hw _ (List.mem_of_getElem? (i := 66) rfl))) (mvT hZ (hw _ (List.mem_of_getElem? (i := 67) rfl))) (by decide) (backOf (W := 0) (rm13_1 l Z a0 hw [] r1 ka c0 h0 n0 Z0 V_r1 hc0) hZ (hw _ (List.mem_of_getElem? (i := 67) rfl)) (hw _ (List.mem_of_getElem? (i := 66) rfl)) (by decide) (by decide)) (g := (mkF m 36 #[.val (.ref r0), .val (.ref r1), .val (.int (0 : Int32)), .val (.int (1 : Int32)), .val .null, .unset] [(.int (1 : Int32)), (.int (0 : Int32)), (.ref r1)])) rfl (by rw [hml]; rfl) (argsL := [(.ref r1), (.int (0 : Int32)), (.int (1 : Int32))]) (rest := []) (lenOf pd_285bCII295bB rfl) rfl (by show 2 * 0 + _ ≤ _; exact Nat.le_of_eq rfl) (hb hby d4_36) (fun _ _ => ⟨rfl, e2, (by decide : 0 + 1 ≤ _), (by decide : 0 + 1 ≤ _)⟩)
  dsimp only [Pt.U, Pt.locs, Pt.cells, Pt.slots] at X3 l3 y3 z3 st3 hQ3
  subst l3 y3 z3
  obtain ⟨b3, kb3, rfl, N3q, KK3, gb3, VB3⟩ := hQ3
  obtain ⟨h3, e3⟩ : ∃ z, T3.heap = z := ⟨_, rfl⟩
  rw [e3] at KK3 VB3
  have E_r0_at3 : Exa Z h3 r0 "java/lang/String" := E_r0.keep KK3
  have O_0_at3 : Old Z n0 h3 := O_0.keep KK3 all0
  have F_value_at3 : Fld Z h3 r0 "java/lang/String" "value" "[B" .null := F_value.keep KK3 nin0
  have F_coder_at3 : Fld Z h3 r0 "java/lang/String" "coder" "B" (.int (0 : Int32)) := F_coder.keep KK3 nin0
  have V_r1_at3 : Arv Z h3 r1 ka .char (1 : Int32) [(.int c0)] (.int (0 : Int32)) := V_r1.keep KK3 nin0
  have K3 : Keep h0 h3 [r0] := K0.trans KK3 all0
  have Z3 : n0 ≤ h3.size := Nat.le_trans Z0 KK3.1
  have ne_r0_b3 : r0 ≠ b3 := Nat.ne_of_lt (Nat.lt_of_lt_of_le E_r0.lt gb3)
  have ne_r1_b3 : r1 ≠ b3 := Nat.ne_of_lt (Nat.lt_of_lt_of_le V_r1.lt gb3)
  have g_b3 : n0 ≤ b3 := Nat.le_trans Z0 gb3
  have sz_b3 : h0.size ≤ b3 := Nat.le_trans K0.1 gb3
  have N3 := Fr.app N0 N3q
  obtain ⟨_, _, ⟨T4, L4, k4, n4⟩, -, X4, ⟨Lc4, hQ4, l4, y4, z4⟩, st4⟩ := Jvm.LawKit.callS X3 hx (y := (⟨"java/lang/StringUTF16", "coderFromArrayLen", "([BI)B"⟩ : MethodName)) hown (mvT hZ (hw _ (List.mem_of_getElem? (i := 71) rfl))) (mvT hZ (hw _ (List.mem_of_getElem? (i := 72) rfl))) (mvT hZ (hw _ (List.mem_of_getElem? (i := 66) rfl))) (mvT hZ (hw _ (List.mem_of_getElem? (i := 73) rfl))) (by decide) (backOf (W := 1) (rm15_1 l Z a0 hw [] b3 kb3 [(.int (own_by c0))] h3 n0 Z3 VB3) hZ (hw _ (List.mem_of_getElem? (i := 73) rfl)) (hw _ (List.mem_of_getElem? (i := 66) rfl)) (by decide) (by decide)) (g := (mkF m 45 #[.val (.ref r0), .val (.ref r1), .val (.int (0 : Int32)), .val (.int (1 : Int32)), .val .null, .val (.ref b3)] [(.int (1 : Int32)), (.ref b3), (.ref r0)])) rfl (by rw [hml]; rfl) (argsL := [(.ref b3), (.int (1 : Int32))]) (rest := [(.ref r0)]) (lenOf pd_285bBI29B rfl) rfl (by show 2 * 0 + _ ≤ _; exact Nat.le_of_eq rfl) (hb hby d4_45) (fun _ _ => ⟨rfl, e3, (by decide : 1 + 0 ≤ _), (by decide : 1 + 0 ≤ _)⟩)
  dsimp only [Pt.U, Pt.locs, Pt.cells, Pt.slots] at X4 l4 y4 z4 st4 hQ4
  subst l4 y4 z4
  obtain ⟨rfl, N4q, e4⟩ := hQ4
  have N4 := Fr.app N3 N4q
  obtain ⟨T5, h5, X5, e5, W5, st5⟩ := putFN X4 hx hZ hown (hw _ (List.mem_of_getElem? (i := 29) rfl)) Via.refl e4 F_coder_at3 E_r0_at3 (Or.inr ⟨(hw _ (List.mem_of_getElem? (i := 25) rfl)), rfl, hnm⟩) (hw _ (List.mem_of_getElem? (i := 10) rfl)) (ty := .byte) (v' := (.int (0 : Int32).toInt8.toInt32)) (by decide) rfl (fits_nar_byte _) (g := (mkF m 48 #[.val (.ref r0), .val (.ref r1), .val (.int (0 : Int32)), .val (.int (1 : Int32)), .val .null, .val (.ref b3)] [(.int (0 : Int32)), (.ref r0)])) rfl rfl (hb hby d4_48)
  have E_r0_at5 : Exa Z h5 r0 "java/lang/String" := E_r0_at3.wr W5
  have O_0_at5 : Old Z n0 h5 := O_0_at3.wr W5 g_r0
  have F_value_at5 : Fld Z h5 r0 "java/lang/String" "value" "[B" .null := F_value_at3.other W5 (Or.inr (slot_ne (Or.inr (hw _ (List.mem_of_getElem? (i := 24) rfl))) (Or.inr (hw _ (List.mem_of_getElem? (i := 25) rfl))) (by decide) (t := (.array .byte)) (t' := .byte) (by decide) (by decide)))
  have V_r1_at5 : Arv Z h5 r1 ka .char (1 : Int32) [(.int c0)] (.int (0 : Int32)) := V_r1_at3.other W5 (Ne.symm ne_r0_r1)
  have VB3_at5 : Arv Z h5 b3 kb3 .byte (1 : Int32) [(.int (own_by c0))] (.int (0 : Int32)) := VB3.other W5 (Ne.symm ne_r0_b3)
  have F_coder_r0_at5 : Fld Z h5 r0 "java/lang/String" "coder" "B" (.int (0 : Int32).toInt8.toInt32) := F_coder_at3.same W5
  have K5 : Keep h0 h5 [r0] := K3.wr W5 (Or.inl (List.mem_of_getElem? (i := 0) rfl))
  have Z5 : n0 ≤ h5.size := Nat.le_trans Z3 (Keep.of_wr W5).1
  have N5 := Fr.snoc X5 N4 g_r0
  obtain ⟨T6, h6, X6, e6, W6, st6⟩ := putF X5 hx hZ hown (host := "") (Or.inl (hw _ (List.mem_of_getElem? (i := 28) rfl))) Via.refl e5 F_value_at5 E_r0_at5 (Or.inr ⟨(hw _ (List.mem_of_getElem? (i := 24) rfl)), rfl, hnm⟩) (hw _ (List.mem_of_getElem? (i := 10) rfl)) (ty := (.array .byte)) (by decide) rfl rfl (g := (mkF m 54 #[.val (.ref r0), .val (.ref r1), .val (.int (0 : Int32)), .val (.int (1 : Int32)), .val .null, .val (.ref b3)] [(.ref b3), (.ref r0)])) rfl rfl (hb hby d4_54)
  have E_r0_at6 : Exa Z h6 r0 "java/lang/String" := E_r0_at5.wr W6
  have O_0_at6 : Old Z n0 h6 := O_0_at5.wr W6 g_r0
  have V_r1_at6 : Arv Z h6 r1 ka .char (1 : Int32) [(.int c0)] (.int (0 : Int32)) := V_r1_at5.other W6 (Ne.symm ne_r0_r1)
  have VB3_at6 : Arv Z h6 b3 kb3 .byte (1 : Int32) [(.int (own_by c0))] (.int (0 : Int32)) := VB3_at5.other W6 (Ne.symm ne_r0_b3)
  have F_coder_r0_at6 : Fld Z h6 r0 "java/lang/String" "coder" "B" (.int (0 : Int32).toInt8.toInt32) := F_coder_r0_at5.other W6 (Or.inr (slot_ne (Or.inr (hw _ (List.mem_of_getElem? (i := 25) rfl))) (Or.inr (hw _ (List.mem_of_getElem? (i := 24) rfl))) (by decide) (t := .byte) (t' := (.array .byte)) (by decide) (by decide)))
  have F_value_r0_at6 : Fld Z h6 r0 "java/lang/String" "value" "[B" (.ref b3) := F_value_at5.same W6
  have K6 : Keep h0 h6 [r0] := K5.wr W6 (Or.inl (List.mem_of_getElem? (i := 0) rfl))
  have Z6 : n0 ≤ h6.size := Nat.le_trans Z5 (Keep.of_wr W6).1
  have N6 := Fr.snoc X6 N5 g_r0
  obtain ⟨fs, hr, hrun, hended, hW, hsame⟩ := X6.leave (v := none) (fun _ => rfl)
  refine ⟨_, _, pre0 _ ?_, hrun, hended, _, _, rfl, ?_, ⟨_, rfl⟩, hW, hsame.mono (by decide) (by decide)⟩
  · show Steps p.tables e below (s₁.setTop (mkF m 0 #[.val (.ref r0), .val (.ref r1), .val (.int (0 : Int32)), .val (.int (1 : Int32)), .val .null, .unset] [])) _
    refine XS.aloadN X0.here hx rfl (hb hby d4_0) rfl rfl ?_
    show Steps p.tables e below (s₁.setTop (mkF m 1 #[.val (.ref r0), .val (.ref r1), .val (.int (0 : Int32)), .val (.int (1 : Int32)), .val .null, .unset] [(.ref r0)])) _
    refine st1 _ ?_
    show Steps p.tables e below (T1.setTop (mkF m 4 #[.val (.ref r0), .val (.ref r1), .val (.int (0 : Int32)), .val (.int (1 : Int32)), .val .null, .unset] [])) _
    refine XS.iloadN X1.here hx rfl (hb hby d4_4) rfl ?_
    show Steps p.tables e below (T1.setTop (mkF m 5 #[.val (.ref r0), .val (.ref r1), .val (.int (0 : Int32)), .val (.int (1 : Int32)), .val .null, .unset] [(.int (1 : Int32))])) _
    refine XS.ifYes X1.here hx rfl (pc0 := 5) (pc' := 27) rfl (hb hby d4_5) rfl ((if0 _ _).trans (feq (by decide : ¬ ((1 : Int32) = (0 : Int32)))).2) (by decide) (by decide) ?_
    show Steps p.tables e below (T1.setTop (mkF m 27 #[.val (.ref r0), .val (.ref r1), .val (.int (0 : Int32)), .val (.int (1 : Int32)), .val .null, .unset] [])) _
    refine st2 _ ?_
    show Steps p.tables e below (T2.setTop (mkF m 30 #[.val (.ref r0), .val (.ref r1), .val (.int (0 : Int32)), .val (.int (1 : Int32)), .val .null, .unset] [(.int cs)])) _
    refine XS.ifNo X2.here hx rfl (hb hby d4_30) rfl ((if0 _ _).trans (feq hcs).1) ?_
    refine XS.aloadN X2.here hx rfl (hb hby d4_33) rfl rfl ?_
    refine XS.iloadN X2.here hx rfl (hb hby d4_34) rfl ?_
    refine XS.iloadN X2.here hx rfl (hb hby d4_35) rfl ?_
    show Steps p.tables e below (T2.setTop (mkF m 36 #[.val (.ref r0), .val (.ref r1), .val (.int (0 : Int32)), .val (.int (1 : Int32)), .val .null, .unset] [(.int (1 : Int32)), (.int (0 : Int32)), (.ref r1)])) _
    refine st3 _ ?_
    show Steps p.tables e below (T3.setTop (mkF m 39 #[.val (.ref r0), .val (.ref r1), .val (.int (0 : Int32)), .val (.int (1 : Int32)), .val .null, .unset] [(.ref b3)])) _
    refine XS.astore X3.here hx rfl (hb hby d4_39) rfl rfl (l' := #[.val (.ref r0), .val (.ref r1), .val (.int (0 : Int32)), .val (.int (1 : Int32)), .val .null, .val (.ref b3)]) rfl ?_
    refine XS.aloadN X3.here hx rfl (hb hby d4_41) rfl rfl ?_
    refine XS.aload X3.here hx rfl (hb hby d4_42) rfl rfl ?_
    refine XS.iloadN X3.here hx rfl (hb hby d4_44) rfl ?_
    show Steps p.tables e below (T3.setTop (mkF m 45 #[.val (.ref r0), .val (.ref r1), .val (.int (0 : Int32)), .val (.int (1 : Int32)), .val .null, .val (.ref b3)] [(.int (1 : Int32)), (.ref b3), (.ref r0)])) _
    refine st4 _ ?_
    show Steps p.tables e below (T4.setTop (mkF m 48 #[.val (.ref r0), .val (.ref r1), .val (.int (0 : Int32)), .val (.int (1 : Int32)), .val .null, .val (.ref b3)] [(.int (0 : Int32)), (.ref r0)])) _
    refine st5 _ ?_
    show Steps p.tables e below (T5.setTop (mkF m 51 #[.val (.ref r0), .val (.ref r1), .val (.int (0 : Int32)), .val (.int (1 : Int32)), .val .null, .val (.ref b3)] [])) _
    refine XS.aloadN X5.here hx rfl (hb hby d4_51) rfl rfl ?_
    refine XS.aload X5.here hx rfl (hb hby d4_52) rfl rfl ?_
    show Steps p.tables e below (T5.setTop (mkF m 54 #[.val (.ref r0), .val (.ref r1), .val (.int (0 : Int32)), .val (.int (1 : Int32)), .val .null, .val (.ref b3)] [(.ref b3), (.ref r0)])) _
    refine st6 _ ?_
    show Steps p.tables e below (T6.setTop (mkF m 57 #[.val (.ref r0), .val (.ref r1), .val (.int (0 : Int32)), .val (.int (1 : Int32)), .val .null, .val (.ref b3)] [])) _
    exact X6.returnOut hx Bd.returns (hb hby d4_57) hr
  · show Q4_1 Z r0 r1 ka c0 cs h0 n0 _ T6.heap _
    rw [e6]
    exact ⟨rfl, N6, K6, b3, _, sz_b3, F_coder_r0_at6, F_value_r0_at6, VB3_at6⟩
theorem ef_3_1 (m : MethodId) (x0 : Addr) (x1 : Addr) : entryFrame m #[(.ref x0), (.ref x1)] 2 = mkF m 0 #[.val (.ref x0), .val (.ref x1)] [] := by first | (simp [entryFrame, mkF, argsToLocals, Value.category]; done) | rfl
theorem d3_0 : decode jdk_42_method_3_code 0 = .ok (.aload_n 0, 1) := by decide +kernel
theorem d3_1 : decode jdk_42_method_3_code 1 = .ok (.aload_n 1, 1) := by decide +kernel
theorem d3_2 : decode jdk_42_method_3_code 2 = .ok (.iconst 0, 1) := by decide +kernel
theorem d3_3 : decode jdk_42_method_3_code 3 = .ok (.aload_n 1, 1) := by decide +kernel
theorem d3_4 : decode jdk_42_method_3_code 4 = .ok (.arraylength, 1) := by decide +kernel
theorem d3_5 : decode jdk_42_method_3_code 5 = .ok (.aconst_null, 1) := by decide +kernel
theorem d3_6 : decode jdk_42_method_3_code 6 = .ok (.invokespecial 27, 3) := by decide +kernel
theorem pd_285bCIILjava2flang2fVoid3b29V : parseMethodDescriptor "([CIILjava/lang/Void;)V" = some ⟨[(.array .char), .int, .int, (.object "java/lang/Void")], none⟩ := by decide +kernel
theorem d3_9 : decode jdk_42_method_3_code 9 = .ok (.return_, 1) := by decide +kernel
def Q3_1 (Z : State) (r0 : Addr) (r1 : Addr) (ka : ClassId) (c0 : Int32) (cs : Int32) (h0 : Heap) (n0 : Nat) (v : Option Value) (h : Heap) (L : List Loc) : Prop := v = none ∧ Fr n0 L ∧ Keep h0 h [r0] ∧ ∃ (b : Addr) (kb : ClassId), h0.size ≤ b ∧ Fld Z h r0 "java/lang/String" "coder" "B" (.int (0 : Int32)) ∧ Fld Z h r0 "java/lang/String" "value" "[B" (.ref b) ∧ Arv Z h b kb .byte (1 : Int32) [(.int (own_by c0))] (.int (0 : Int32))
set_option maxRecDepth 65536 in
set_option maxHeartbeats 40000000 in
theorem rm3_1 (l : Launch) (Z : State) (a0 : Array Value) (hw : ∀ d ∈ tables_1, d.before a0 Z = true) (ws : List Jvm.Cond) (r0 : Addr) (r1 : Addr) (ka : ClassId) (c0 : Int32) (cs : Int32) (h0 : Heap) (n0 : Nat) (Z0 : n0 ≤ h0.size) (E_r0 : Exa Z h0 r0 "java/lang/String") (F_value : Fld Z h0 r0 "java/lang/String" "value" "[B" .null) (F_coder : Fld Z h0 r0 "java/lang/String" "coder" "B" (.int (0 : Int32))) (g_r0 : n0 ≤ r0) (V_r1 : Arv Z h0 r1 ka .char (1 : Int32) [(.int c0)] (.int (0 : Int32))) (ne_r0_r1 : r0 ≠ r1) (O_0 : Old Z n0 h0) (S_cs : Sta Z Z.heap "java/lang/String" "COMPACT_STRINGS" "Z" (.int cs)) (hcs : ¬ (cs = (0 : Int32))) (hc0 : own_ch c0) :
    MetFree l (⟨"java/lang/String", "<init>", "([C)V"⟩ : MethodName) (head1 (Jvm.Cond.code (⟨"java/lang/String", "<init>", "([C)V"⟩ : MethodName) jdk_42_method_3_code 2 none :: ws) ({ frames := 3, cells := 1, slots := 1, locals := 52 } : Room)) (fun a U => a = #[(.ref r0), (.ref r1)] ∧ Z.Warmed39 U.vm ∧ U.heap = h0) (fun _ _ _ _ _ => True) (fun _ U o U' => ∃ v L, o = .returned v ∧ Q3_1 Z r0 r1 ka c0 cs h0 n0 v U'.heap L ∧ FrameEnd U o U' L ({ frames := 3, cells := 1, slots := 1, locals := 52 } : Room).cells ({ frames := 3, cells := 1, slots := 1, locals := 52 } : Room).slots) := by
  refine MetFree.of_bodySF (plainFor_of_name pn_java_lang_String) hisR ?_
  intro p e s m args below meth c s₁ Bd hml0 hP hK
  obtain ⟨rfl, hZ, hh⟩ := hP
  have hx := Bd.exec
  have hby := Bd.bytes
  have hml : c.maxLocals = 2 := hml0
  have hown : s.vm.findClass "java/lang/String" = some m.cls := findClass_of_methodNamed Bd.named
  have hnm := (name_of_methodNamed Bd.named Bd.method).1
  have X0 : Stand p l e ({ frames := 3, cells := 1, slots := 1, locals := 52 } : Room) s m #[(.ref r0), (.ref r1)] below meth c s₁ [] 0 0 := Stand.of_body Bd
  have e0 : s₁.heap = h0 := by rw [← hh, Bd.state]; rfl
  have N0 := Fr.nil n0
  have pre0 : ∀ t, Steps p.tables e below (s₁.setTop (mkF m 0 #[.val (.ref r0), .val (.ref r1)] [])) t → Steps p.tables e below (s₁.setTop (entryFrame m #[(.ref r0), (.ref r1)] 2)) t := fun tt kt_ => castTop (ef_3_1 m r0 r1) kt_
  have K0 : Keep h0 h0 [r0] := Keep.refl h0 [r0]
  obtain ⟨cl_4_1, Ar_4_1, -, S_4_1, M_4_1, -, -⟩ := id V_r1
  obtain ⟨_, _, ⟨T2, L2, k2, n2⟩, -, X2, ⟨Lc2, hQ2, l2, y2, z2⟩, st2⟩ := X0.specialBack hx (y := (⟨"java/lang/String", "<init>", "([CIILjava/lang/Void;)V"⟩ : MethodName)) rfl hown (mvT hZ (hw _ (List.mem_of_getElem? (i := 15) rfl))) (mvT hZ (hw _ (List.mem_of_getElem? (i := 16) rfl))) (mvT hZ (hw _ (List.mem_of_getElem? (i := 18) rfl))) (by decide) (backOf (W := 0) (rm4_1 l Z a0 hw [] r0 r1 ka c0 cs h0 n0 Z0 E_r0 F_value F_coder g_r0 V_r1 ne_r0_r1 O_0 S_cs hcs hc0) hZ (hw _ (List.mem_of_getElem? (i := 18) rfl)) (hw _ (List.mem_of_getElem? (i := 11) rfl)) (by decide) (by decide)) (g := (mkF m 6 #[.val (.ref r0), .val (.ref r1)] [.null, (.int (1 : Int32)), (.int (0 : Int32)), (.ref r1), (.ref r0)])) rfl (by rw [hml]; rfl) (Steps.refl _) (a := r0) (argsL := [(.ref r1), (.int (0 : Int32)), (.int (1 : Int32)), .null]) (rest := []) (lenOf pd_285bCIILjava2flang2fVoid3b29V rfl) rfl (by show 2 * 0 + _ ≤ _; exact Nat.le_of_eq rfl) (hb hby d3_6) (fun _ _ => ⟨rfl, e0, (by decide : 0 + 1 ≤ _), (by decide : 0 + 1 ≤ _)⟩)
  dsimp only [Pt.U, Pt.locs, Pt.cells, Pt.slots] at X2 l2 y2 z2 st2 hQ2
  subst l2 y2 z2
  obtain ⟨rfl, N2q, KK2, b2, kb2, gb2, FC2, FV2, VB2⟩ := hQ2
  obtain ⟨h2, e2⟩ : ∃ z, T2.heap = z := ⟨_, rfl⟩
  rw [e2] at KK2 FC2 FV2 VB2
  have E_r0_at2 : Exa Z h2 r0 "java/lang/String" := E_r0.keep KK2
  have O_0_at2 : Old Z n0 h2 := O_0.keep KK2 (allS g_r0 all0)
  have V_r1_at2 : Arv Z h2 r1 ka .char (1 : Int32) [(.int c0)] (.int (0 : Int32)) := V_r1.keep KK2 (ninS (Ne.symm ne_r0_r1) nin0)
  have K2 : Keep h0 h2 [r0] := K0.trans KK2 (allS (Or.inl (List.mem_of_getElem? (i := 0) rfl)) all0)
  have Z2 : n0 ≤ h2.size := Nat.le_trans Z0 KK2.1
  have ne_r0_b2 : r0 ≠ b2 := Nat.ne_of_lt (Nat.lt_of_lt_of_le E_r0.lt gb2)
  have ne_r1_b2 : r1 ≠ b2 := Nat.ne_of_lt (Nat.lt_of_lt_of_le V_r1.lt gb2)
  have g_b2 : n0 ≤ b2 := Nat.le_trans Z0 gb2
  have sz_b2 : h0.size ≤ b2 := Nat.le_trans K0.1 gb2
  have N2 := Fr.app N0 N2q
  obtain ⟨fs, hr, hrun, hended, hW, hsame⟩ := X2.leave (v := none) (fun _ => rfl)
  refine ⟨_, _, pre0 _ ?_, hrun, hended, _, _, rfl, ?_, ⟨_, rfl⟩, hW, hsame.mono (by decide) (by decide)⟩
  · show Steps p.tables e below (s₁.setTop (mkF m 0 #[.val (.ref r0), .val (.ref r1)] [])) _
    refine XS.aloadN X0.here hx rfl (hb hby d3_0) rfl rfl ?_
    refine XS.aloadN X0.here hx rfl (hb hby d3_1) rfl rfl ?_
    refine XS.iconst X0.here hx rfl (hb hby d3_2) ?_
    refine XS.aloadN X0.here hx rfl (hb hby d3_3) rfl rfl ?_
    show Steps p.tables e below (s₁.setTop (mkF m 4 #[.val (.ref r0), .val (.ref r1)] [(.ref r1), (.int (0 : Int32)), (.ref r1), (.ref r0)])) _
    refine X0.arraylength hx (by rw [e0]; exact Ar_4_1.1) (State.isArrayOf_alike hZ.alike Ar_4_1.2.1) (g := (mkF m 4 #[.val (.ref r0), .val (.ref r1)] [(.ref r1), (.int (0 : Int32)), (.ref r1), (.ref r0)])) rfl rfl (hb hby d3_4) _ ?_
    rw [len_of S_4_1 M_4_1]
    show Steps p.tables e below (s₁.setTop (mkF m 5 #[.val (.ref r0), .val (.ref r1)] [(.int (1 : Int32)), (.int (0 : Int32)), (.ref r1), (.ref r0)])) _
    refine XS.aconstNull X0.here hx rfl (hb hby d3_5) ?_
    show Steps p.tables e below (s₁.setTop (mkF m 6 #[.val (.ref r0), .val (.ref r1)] [.null, (.int (1 : Int32)), (.int (0 : Int32)), (.ref r1), (.ref r0)])) _
    refine st2.trans ?_
    show Steps p.tables e below (T2.setTop (mkF m 9 #[.val (.ref r0), .val (.ref r1)] [])) _
    exact X2.returnOut hx Bd.returns (hb hby d3_9) hr
  · show Q3_1 Z r0 r1 ka c0 cs h0 n0 _ T2.heap _
    rw [e2]
    exact ⟨rfl, N2, K2, b2, _, sz_b2, FC2, FV2, VB2⟩
theorem ef_14_2 (m : MethodId) (x0 : Addr) (x1 : Int32) (x2 : Addr) (x3 : Int32) (x4 : Int32) : entryFrame m #[(.ref x0), (.int x1), (.ref x2), (.int x3), (.int x4)] 7 = mkF m 0 #[.val (.ref x0), .val (.int x1), .val (.ref x2), .val (.int x3), .val (.int x4), .unset, .unset] [] := by first | (simp [entryFrame, mkF, argsToLocals, Value.category]; done) | rfl
def Q14_2 (Z : State) (r0 : Addr) (r2 : Addr) (ka kb : ClassId) (c0 c1 : Int32) (h0 : Heap) (n0 : Nat) (v : Option Value) (h : Heap) (L : List Loc) : Prop := v = some (.int (2 : Int32)) ∧ Fr n0 L ∧ Keep h0 h [r2] ∧ Arv Z h r2 kb .byte (2 : Int32) [(.int (own_by c0)), (.int (own_by c1))] (.int (0 : Int32))
set_option maxRecDepth 65536 in
set_option maxHeartbeats 40000000 in
theorem rm14_2 (l : Launch) (Z : State) (a0 : Array Value) (hw : ∀ d ∈ tables_1, d.before a0 Z = true) (ws : List Jvm.Cond) (r0 : Addr) (r2 : Addr) (ka kb : ClassId) (c0 c1 : Int32) (h0 : Heap) (n0 : Nat) (Z0 : n0 ≤ h0.size) (V_r0 : Arv Z h0 r0 ka .char (2 : Int32) [(.int c0), (.int c1)] (.int (0 : Int32))) (V_r2 : Arv Z h0 r2 kb .byte (2 : Int32) [(.int (0 : Int32)), (.int (0 : Int32))] (.int (0 : Int32))) (g_r2 : n0 ≤ r2) (ne_r0_r2 : r0 ≠ r2) (hc0 : own_ch c0) (hc1 : own_ch c1) :
    MetFree l (⟨"java/lang/StringUTF16", "compress", "([CI[BII)I"⟩ : MethodName) (head1 (Jvm.Cond.code (⟨"java/lang/StringUTF16", "compress", "([CI[BII)I"⟩ : MethodName) jdk_52_method_21_code 7 (some .int) :: ws) ({ frames := 0, cells := 0, slots := 0, locals := 0 } : Room)) (fun a U => a = #[(.ref r0), (.int (0 : Int32)), (.ref r2), (.int (0 : Int32)), (.int (2 : Int32))] ∧ Z.Warmed39 U.vm ∧ U.heap = h0) (fun _ _ _ _ _ => True) (fun _ U o U' => ∃ v L, o = .returned v ∧ Q14_2 Z r0 r2 ka kb c0 c1 h0 n0 v U'.heap L ∧ FrameEnd U o U' L ({ frames := 0, cells := 0, slots := 0, locals := 0 } : Room).cells ({ frames := 0, cells := 0, slots := 0, locals := 0 } : Room).slots) := by
  refine MetFree.of_bodySF (plainFor_of_name pn_java_lang_StringUTF16) hisR ?_
  intro p e s m args below meth c s₁ Bd hml0 hP hK
  obtain ⟨rfl, hZ, hh⟩ := hP
  have hx := Bd.exec
  have hby := Bd.bytes
  have hml : c.maxLocals = 7 := hml0
  have hown : s.vm.findClass "java/lang/StringUTF16" = some m.cls := findClass_of_methodNamed Bd.named
  have hnm := (name_of_methodNamed Bd.named Bd.method).1
  have X0 : Stand p l e ({ frames := 0, cells := 0, slots := 0, locals := 0 } : Room) s m #[(.ref r0), (.int (0 : Int32)), (.ref r2), (.int (0 : Int32)), (.int (2 : Int32))] below meth c s₁ [] 0 0 := Stand.of_body Bd
  have e0 : s₁.heap = h0 := by rw [← hh, Bd.state]; rfl
  have N0 := Fr.nil n0
  have pre0 : ∀ t, Steps p.tables e below (s₁.setTop (mkF m 0 #[.val (.ref r0), .val (.int (0 : Int32)), .val (.ref r2), .val (.int (0 : Int32)), .val (.int (2 : Int32)), .unset, .unset] [])) t → Steps p.tables e below (s₁.setTop (entryFrame m #[(.ref r0), (.int (0 : Int32)), (.ref r2), (.int (0 : Int32)), (.int (2 : Int32))] 7)) t := fun tt kt_ => castTop (ef_14_2 m r0 (0 : Int32) r2 (0 : Int32) (2 : Int32)) kt_
  have K0 : Keep h0 h0 [r2] := Keep.refl h0 [r2]
  obtain ⟨cl_12_1, Ar_12_1, -, S_12_1, M_12_1, H_12_1, -⟩ := id V_r0
  have hin12_1 : ¬ ((0 : Int32) < 0 ∨ cl_12_1.slots.size ≤ ((0 : Int32)).toNatClampNeg) := inb_of S_12_1 ⟨by decide, by decide⟩
  have hat12_1 : cl_12_1.slots[((0 : Int32)).toNatClampNeg]? = some (.int c0) := H_12_1.at hin12_1 rfl
  obtain ⟨cl_31_2, Ar_31_2, q_31_2, S_31_2, N_31_2, H_31_2, G_31_2⟩ := id V_r2
  have hin31_2 : ¬ ((0 : Int32) < 0 ∨ cl_31_2.slots.size ≤ ((0 : Int32)).toNatClampNeg) := inb_of S_31_2 ⟨by decide, by decide⟩
  obtain ⟨T3, h3, X3, e3, W3, st3⟩ := stB X0 hx hZ e0 Ar_31_2 (j := (0 : Int32)) hin31_2 (g := (mkF m 31 #[.val (.ref r0), .val (.int (0 : Int32)), .val (.ref r2), .val (.int (0 : Int32)), .val (.int (2 : Int32)), .val (.int (0 : Int32)), .val (.int c0)] [(.int (c0.toInt8.toInt32)), (.int (0 : Int32)), (.ref r2)])) rfl rfl (hb hby d14_31)
  rw [show nar .byte (c0.toInt8.toInt32) = own_by c0 from own_nn c0] at W3
  have V_r0_at3 : Arv Z h3 r0 ka .char (2 : Int32) [(.int c0), (.int c1)] (.int (0 : Int32)) := V_r0.other W3 ne_r0_r2
  have xV_r2_at3 := Arv.set Ar_31_2 q_31_2 S_31_2 N_31_2 H_31_2 G_31_2 (fits_nar_byte _) W3 0 rfl (Nat.le_of_ble_eq_true rfl)
  have V_r2_at3 : Arv Z h3 r2 kb .byte (2 : Int32) [(.int (own_by c0)), (.int (0 : Int32))] (.int (0 : Int32)) := xV_r2_at3
  have K3 : Keep h0 h3 [r2] := K0.wr W3 (Or.inl (List.mem_of_getElem? (i := 0) rfl))
  have Z3 : n0 ≤ h3.size := Nat.le_trans Z0 (Keep.of_wr W3).1
  have N3 := Fr.snoc X3 N0 g_r2
  obtain ⟨cl_12_4, Ar_12_4, -, S_12_4, M_12_4, H_12_4, -⟩ := id V_r0_at3
  have hin12_4 : ¬ ((1 : Int32) < 0 ∨ cl_12_4.slots.size ≤ ((1 : Int32)).toNatClampNeg) := inb_of S_12_4 ⟨by decide, by decide⟩
  have hat12_4 : cl_12_4.slots[((1 : Int32)).toNatClampNeg]? = some (.int c1) := H_12_4.at hin12_4 rfl
  obtain ⟨cl_31_5, Ar_31_5, q_31_5, S_31_5, N_31_5, H_31_5, G_31_5⟩ := id V_r2_at3
  have hin31_5 : ¬ ((1 : Int32) < 0 ∨ cl_31_5.slots.size ≤ ((1 : Int32)).toNatClampNeg) := inb_of S_31_5 ⟨by decide, by decide⟩
  obtain ⟨T6, h6, X6, e6, W6, st6⟩ := stB X3 hx hZ e3 Ar_31_5 (j := (1 : Int32)) hin31_5 (g := (mkF m 31 #[.val (.ref r0), .val (.int (1 : Int32)), .val (.ref r2), .val (.int (1 : Int32)), .val (.int (2 : Int32)), .val (.int (1 : Int32)), .val (.int c1)] [(.int (c1.toInt8.toInt32)), (.int (1 : Int32)), (.ref r2)])) rfl rfl (hb hby d14_31)
  rw [show nar .byte (c1.toInt8.toInt32) = own_by c1 from own_nn c1] at W6
  have V_r0_at6 : Arv Z h6 r0 ka .char (2 : Int32) [(.int c0), (.int c1)] (.int (0 : Int32)) := V_r0_at3.other W6 ne_r0_r2
  have xV_r2_at6 := Arv.set Ar_31_5 q_31_5 S_31_5 N_31_5 H_31_5 G_31_5 (fits_nar_byte _) W6 1 rfl (Nat.le_of_ble_eq_true rfl)
  have V_r2_at6 : Arv Z h6 r2 kb .byte (2 : Int32) [(.int (own_by c0)), (.int (own_by c1))] (.int (0 : Int32)) := xV_r2_at6
  have K6 : Keep h0 h6 [r2] := K3.wr W6 (Or.inl (List.mem_of_getElem? (i := 0) rfl))
  have Z6 : n0 ≤ h6.size := Nat.le_trans Z3 (Keep.of_wr W6).1
  have N6 := Fr.snoc X6 N3 g_r2
  obtain ⟨fs, hr, hrun, hended, hW, hsame⟩ := X6.leave (v := some (.int (2 : Int32))) (fun h => by rw [Bd.returns] at h; cases h)
  refine ⟨_, _, pre0 _ ?_, hrun, hended, _, _, rfl, ?_, ⟨_, rfl⟩, hW, hsame.mono (by decide) (by decide)⟩
  · show Steps p.tables e below (s₁.setTop (mkF m 0 #[.val (.ref r0), .val (.int (0 : Int32)), .val (.ref r2), .val (.int (0 : Int32)), .val (.int (2 : Int32)), .unset, .unset] [])) _
    refine XS.iconst X0.here hx rfl (hb hby d14_0) ?_
    show Steps p.tables e below (s₁.setTop (mkF m 1 #[.val (.ref r0), .val (.int (0 : Int32)), .val (.ref r2), .val (.int (0 : Int32)), .val (.int (2 : Int32)), .unset, .unset] [(.int (0 : Int32))])) _
    refine XS.istore X0.here hx rfl (hb hby d14_1) rfl (l' := #[.val (.ref r0), .val (.int (0 : Int32)), .val (.ref r2), .val (.int (0 : Int32)), .val (.int (2 : Int32)), .val (.int (0 : Int32)), .unset]) rfl ?_
    refine XS.iload X0.here hx rfl (hb hby d14_3) rfl ?_
    refine XS.iload X0.here hx rfl (hb hby d14_5) rfl ?_
    show Steps p.tables e below (s₁.setTop (mkF m 7 #[.val (.ref r0), .val (.int (0 : Int32)), .val (.ref r2), .val (.int (0 : Int32)), .val (.int (2 : Int32)), .val (.int (0 : Int32)), .unset] [(.int (2 : Int32)), (.int (0 : Int32))])) _
    refine XS.icmpNo X0.here hx rfl (hb hby d14_7) rfl (tlt (by decide : (0 : Int32) < (2 : Int32))).2.1 ?_
    refine XS.aloadN X0.here hx rfl (hb hby d14_10) rfl rfl ?_
    refine XS.iloadN X0.here hx rfl (hb hby d14_11) rfl ?_
    show Steps p.tables e below (s₁.setTop (mkF m 12 #[.val (.ref r0), .val (.int (0 : Int32)), .val (.ref r2), .val (.int (0 : Int32)), .val (.int (2 : Int32)), .val (.int (0 : Int32)), .unset] [(.int (0 : Int32)), (.ref r0)])) _
    refine X0.caload hx (j := (0 : Int32)) (v := (.int c0)) (by rw [e0]; exact Ar_12_1.1) (State.isArrayOf_alike hZ.alike Ar_12_1.2.1) Ar_12_1.2.2 hin12_1 hat12_1 (g := (mkF m 12 #[.val (.ref r0), .val (.int (0 : Int32)), .val (.ref r2), .val (.int (0 : Int32)), .val (.int (2 : Int32)), .val (.int (0 : Int32)), .unset] [(.int (0 : Int32)), (.ref r0)])) rfl rfl (hb hby d14_12) _ ?_
    show Steps p.tables e below (s₁.setTop (mkF m 13 #[.val (.ref r0), .val (.int (0 : Int32)), .val (.ref r2), .val (.int (0 : Int32)), .val (.int (2 : Int32)), .val (.int (0 : Int32)), .unset] [(.int c0)])) _
    refine XS.istore X0.here hx rfl (hb hby d14_13) rfl (l' := #[.val (.ref r0), .val (.int (0 : Int32)), .val (.ref r2), .val (.int (0 : Int32)), .val (.int (2 : Int32)), .val (.int (0 : Int32)), .val (.int c0)]) rfl ?_
    refine XS.iload X0.here hx rfl (hb hby d14_15) rfl ?_
    refine XS.sipush X0.here hx rfl (hb hby d14_17) ?_
    show Steps p.tables e below (s₁.setTop (mkF m 20 #[.val (.ref r0), .val (.int (0 : Int32)), .val (.ref r2), .val (.int (0 : Int32)), .val (.int (2 : Int32)), .val (.int (0 : Int32)), .val (.int c0)] [(.int (255 : Int32)), (.int c0)])) _
    refine XS.icmpYes X0.here hx rfl (pc0 := 20) (pc' := 26) rfl (hb hby d14_20) rfl (flt (own_le hc0)).2.2.2 (by decide) (by decide) ?_
    refine XS.aloadN X0.here hx rfl (hb hby d14_26) rfl rfl ?_
    refine XS.iloadN X0.here hx rfl (hb hby d14_27) rfl ?_
    refine XS.iload X0.here hx rfl (hb hby d14_28) rfl ?_
    show Steps p.tables e below (s₁.setTop (mkF m 30 #[.val (.ref r0), .val (.int (0 : Int32)), .val (.ref r2), .val (.int (0 : Int32)), .val (.int (2 : Int32)), .val (.int (0 : Int32)), .val (.int c0)] [(.int c0), (.int (0 : Int32)), (.ref r2)])) _
    refine XS.i2b X0.here hx rfl (hb hby d14_30) rfl ?_
    show Steps p.tables e below (s₁.setTop (mkF m 31 #[.val (.ref r0), .val (.int (0 : Int32)), .val (.ref r2), .val (.int (0 : Int32)), .val (.int (2 : Int32)), .val (.int (0 : Int32)), .val (.int c0)] [(.int (c0.toInt8.toInt32)), (.int (0 : Int32)), (.ref r2)])) _
    refine st3 _ ?_
    show Steps p.tables e below (T3.setTop (mkF m 32 #[.val (.ref r0), .val (.int (0 : Int32)), .val (.ref r2), .val (.int (0 : Int32)), .val (.int (2 : Int32)), .val (.int (0 : Int32)), .val (.int c0)] [])) _
    refine XS.iinc X3.here hx rfl (hb hby d14_32) rfl (l' := #[.val (.ref r0), .val (.int (1 : Int32)), .val (.ref r2), .val (.int (0 : Int32)), .val (.int (2 : Int32)), .val (.int (0 : Int32)), .val (.int c0)]) rfl ?_
    show Steps p.tables e below (T3.setTop (mkF m 35 #[.val (.ref r0), .val (.int (1 : Int32)), .val (.ref r2), .val (.int (0 : Int32)), .val (.int (2 : Int32)), .val (.int (0 : Int32)), .val (.int c0)] [])) _
    refine XS.iinc X3.here hx rfl (hb hby d14_35) rfl (l' := #[.val (.ref r0), .val (.int (1 : Int32)), .val (.ref r2), .val (.int (1 : Int32)), .val (.int (2 : Int32)), .val (.int (0 : Int32)), .val (.int c0)]) rfl ?_
    show Steps p.tables e below (T3.setTop (mkF m 38 #[.val (.ref r0), .val (.int (1 : Int32)), .val (.ref r2), .val (.int (1 : Int32)), .val (.int (2 : Int32)), .val (.int (0 : Int32)), .val (.int c0)] [])) _
    refine XS.iinc X3.here hx rfl (hb hby d14_38) rfl (l' := #[.val (.ref r0), .val (.int (1 : Int32)), .val (.ref r2), .val (.int (1 : Int32)), .val (.int (2 : Int32)), .val (.int (1 : Int32)), .val (.int c0)]) rfl ?_
    show Steps p.tables e below (T3.setTop (mkF m 41 #[.val (.ref r0), .val (.int (1 : Int32)), .val (.ref r2), .val (.int (1 : Int32)), .val (.int (2 : Int32)), .val (.int (1 : Int32)), .val (.int c0)] [])) _
    refine XS.goto X3.here hx rfl (pc0 := 41) (pc' := 3) rfl (hb hby d14_41) (by decide) (by decide) ?_
    refine XS.iload X3.here hx rfl (hb hby d14_3) rfl ?_
    refine XS.iload X3.here hx rfl (hb hby d14_5) rfl ?_
    show Steps p.tables e below (T3.setTop (mkF m 7 #[.val (.ref r0), .val (.int (1 : Int32)), .val (.ref r2), .val (.int (1 : Int32)), .val (.int (2 : Int32)), .val (.int (1 : Int32)), .val (.int c0)] [(.int (2 : Int32)), (.int (1 : Int32))])) _
    refine XS.icmpNo X3.here hx rfl (hb hby d14_7) rfl (tlt (by decide : (1 : Int32) < (2 : Int32))).2.1 ?_
    refine XS.aloadN X3.here hx rfl (hb hby d14_10) rfl rfl ?_
    refine XS.iloadN X3.here hx rfl (hb hby d14_11) rfl ?_
    show Steps p.tables e below (T3.setTop (mkF m 12 #[.val (.ref r0), .val (.int (1 : Int32)), .val (.ref r2), .val (.int (1 : Int32)), .val (.int (2 : Int32)), .val (.int (1 : Int32)), .val (.int c0)] [(.int (1 : Int32)), (.ref r0)])) _
    refine X3.caload hx (j := (1 : Int32)) (v := (.int c1)) (by rw [e3]; exact Ar_12_4.1) (State.isArrayOf_alike hZ.alike Ar_12_4.2.1) Ar_12_4.2.2 hin12_4 hat12_4 (g := (mkF m 12 #[.val (.ref r0), .val (.int (1 : Int32)), .val (.ref r2), .val (.int (1 : Int32)), .val (.int (2 : Int32)), .val (.int (1 : Int32)), .val (.int c0)] [(.int (1 : Int32)), (.ref r0)])) rfl rfl (hb hby d14_12) _ ?_
    show Steps p.tables e below (T3.setTop (mkF m 13 #[.val (.ref r0), .val (.int (1 : Int32)), .val (.ref r2), .val (.int (1 : Int32)), .val (.int (2 : Int32)), .val (.int (1 : Int32)), .val (.int c0)] [(.int c1)])) _
    refine XS.istore X3.here hx rfl (hb hby d14_13) rfl (l' := #[.val (.ref r0), .val (.int (1 : Int32)), .val (.ref r2), .val (.int (1 : Int32)), .val (.int (2 : Int32)), .val (.int (1 : Int32)), .val (.int c1)]) rfl ?_
    refine XS.iload X3.here hx rfl (hb hby d14_15) rfl ?_
    refine XS.sipush X3.here hx rfl (hb hby d14_17) ?_
    show Steps p.tables e below (T3.setTop (mkF m 20 #[.val (.ref r0), .val (.int (1 : Int32)), .val (.ref r2), .val (.int (1 : Int32)), .val (.int (2 : Int32)), .val (.int (1 : Int32)), .val (.int c1)] [(.int (255 : Int32)), (.int c1)])) _
    refine XS.icmpYes X3.here hx rfl (pc0 := 20) (pc' := 26) rfl (hb hby d14_20) rfl (flt (own_le hc1)).2.2.2 (by decide) (by decide) ?_
    refine XS.aloadN X3.here hx rfl (hb hby d14_26) rfl rfl ?_
    refine XS.iloadN X3.here hx rfl (hb hby d14_27) rfl ?_
    refine XS.iload X3.here hx rfl (hb hby d14_28) rfl ?_
    show Steps p.tables e below (T3.setTop (mkF m 30 #[.val (.ref r0), .val (.int (1 : Int32)), .val (.ref r2), .val (.int (1 : Int32)), .val (.int (2 : Int32)), .val (.int (1 : Int32)), .val (.int c1)] [(.int c1), (.int (1 : Int32)), (.ref r2)])) _
    refine XS.i2b X3.here hx rfl (hb hby d14_30) rfl ?_
    show Steps p.tables e below (T3.setTop (mkF m 31 #[.val (.ref r0), .val (.int (1 : Int32)), .val (.ref r2), .val (.int (1 : Int32)), .val (.int (2 : Int32)), .val (.int (1 : Int32)), .val (.int c1)] [(.int (c1.toInt8.toInt32)), (.int (1 : Int32)), (.ref r2)])) _
    refine st6 _ ?_
    show Steps p.tables e below (T6.setTop (mkF m 32 #[.val (.ref r0), .val (.int (1 : Int32)), .val (.ref r2), .val (.int (1 : Int32)), .val (.int (2 : Int32)), .val (.int (1 : Int32)), .val (.int c1)] [])) _
    refine XS.iinc X6.here hx rfl (hb hby d14_32) rfl (l' := #[.val (.ref r0), .val (.int (2 : Int32)), .val (.ref r2), .val (.int (1 : Int32)), .val (.int (2 : Int32)), .val (.int (1 : Int32)), .val (.int c1)]) rfl ?_
    show Steps p.tables e below (T6.setTop (mkF m 35 #[.val (.ref r0), .val (.int (2 : Int32)), .val (.ref r2), .val (.int (1 : Int32)), .val (.int (2 : Int32)), .val (.int (1 : Int32)), .val (.int c1)] [])) _
    refine XS.iinc X6.here hx rfl (hb hby d14_35) rfl (l' := #[.val (.ref r0), .val (.int (2 : Int32)), .val (.ref r2), .val (.int (2 : Int32)), .val (.int (2 : Int32)), .val (.int (1 : Int32)), .val (.int c1)]) rfl ?_
    show Steps p.tables e below (T6.setTop (mkF m 38 #[.val (.ref r0), .val (.int (2 : Int32)), .val (.ref r2), .val (.int (2 : Int32)), .val (.int (2 : Int32)), .val (.int (1 : Int32)), .val (.int c1)] [])) _
    refine XS.iinc X6.here hx rfl (hb hby d14_38) rfl (l' := #[.val (.ref r0), .val (.int (2 : Int32)), .val (.ref r2), .val (.int (2 : Int32)), .val (.int (2 : Int32)), .val (.int (2 : Int32)), .val (.int c1)]) rfl ?_
    show Steps p.tables e below (T6.setTop (mkF m 41 #[.val (.ref r0), .val (.int (2 : Int32)), .val (.ref r2), .val (.int (2 : Int32)), .val (.int (2 : Int32)), .val (.int (2 : Int32)), .val (.int c1)] [])) _
    refine XS.goto X6.here hx rfl (pc0 := 41) (pc' := 3) rfl (hb hby d14_41) (by decide) (by decide) ?_
    refine XS.iload X6.here hx rfl (hb hby d14_3) rfl ?_
    refine XS.iload X6.here hx rfl (hb hby d14_5) rfl ?_
    show Steps p.tables e below (T6.setTop (mkF m 7 #[.val (.ref r0), .val (.int (2 : Int32)), .val (.ref r2), .val (.int (2 : Int32)), .val (.int (2 : Int32)), .val (.int (2 : Int32)), .val (.int c1)] [(.int (2 : Int32)), (.int (2 : Int32))])) _
    refine XS.icmpYes X6.here hx rfl (pc0 := 7) (pc' := 44) rfl (hb hby d14_7) rfl (flt (by decide : ¬ ((2 : Int32) < (2 : Int32)))).2.1 (by decide) (by decide) ?_
    refine XS.iload X6.here hx rfl (hb hby d14_44) rfl ?_
    show Steps p.tables e below (T6.setTop (mkF m 46 #[.val (.ref r0), .val (.int (2 : Int32)), .val (.ref r2), .val (.int (2 : Int32)), .val (.int (2 : Int32)), .val (.int (2 : Int32)), .val (.int c1)] [(.int (2 : Int32))])) _
    exact retI X6 hx Bd.returns (hb hby d14_46) hr
  · show Q14_2 Z r0 r2 ka kb c0 c1 h0 n0 _ T6.heap _
    rw [e6]
    exact ⟨rfl, N6, K6, V_r2_at6⟩
theorem ef_13_2 (m : MethodId) (x0 : Addr) (x1 : Int32) (x2 : Int32) : entryFrame m #[(.ref x0), (.int x1), (.int x2)] 6 = mkF m 0 #[.val (.ref x0), .val (.int x1), .val (.int x2), .unset, .unset, .unset] [] := by first | (simp [entryFrame, mkF, argsToLocals, Value.category]; done) | rfl
def Q13_2 (Z : State) (r0 : Addr) (ka : ClassId) (c0 c1 : Int32) (h0 : Heap) (n0 : Nat) (v : Option Value) (h : Heap) (L : List Loc) : Prop := ∃ (b : Addr) (kb : ClassId), v = some (.ref b) ∧ Fr n0 L ∧ Keep h0 h [] ∧ h0.size ≤ b ∧ Arv Z h b kb .byte (2 : Int32) [(.int (own_by c0)), (.int (own_by c1))] (.int (0 : Int32))
set_option maxRecDepth 65536 in
set_option maxHeartbeats 40000000 in
theorem rm13_2 (l : Launch) (Z : State) (a0 : Array Value) (hw : ∀ d ∈ tables_1, d.before a0 Z = true) (ws : List Jvm.Cond) (r0 : Addr) (ka : ClassId) (c0 c1 : Int32) (h0 : Heap) (n0 : Nat) (Z0 : n0 ≤ h0.size) (V_r0 : Arv Z h0 r0 ka .char (2 : Int32) [(.int c0), (.int c1)] (.int (0 : Int32))) (hc0 : own_ch c0) (hc1 : own_ch c1) :
    MetFree l (⟨"java/lang/StringUTF16", "compress", "([CII)[B"⟩ : MethodName) (head1 (Jvm.Cond.code (⟨"java/lang/StringUTF16", "compress", "([CII)[B"⟩ : MethodName) jdk_52_method_16_code 6 (some (.array .byte)) :: ws) ({ frames := 1, cells := 1, slots := 2, locals := 18 } : Room)) (fun a U => a = #[(.ref r0), (.int (0 : Int32)), (.int (2 : Int32))] ∧ Z.Warmed39 U.vm ∧ U.heap = h0) (fun _ _ _ _ _ => True) (fun _ U o U' => ∃ v L, o = .returned v ∧ Q13_2 Z r0 ka c0 c1 h0 n0 v U'.heap L ∧ FrameEnd U o U' L ({ frames := 1, cells := 1, slots := 2, locals := 18 } : Room).cells ({ frames := 1, cells := 1, slots := 2, locals := 18 } : Room).slots) := by
  refine MetFree.of_bodySF (plainFor_of_name pn_java_lang_StringUTF16) hisR ?_
  intro p e s m args below meth c s₁ Bd hml0 hP hK
  obtain ⟨rfl, hZ, hh⟩ := hP
  have hx := Bd.exec
  have hby := Bd.bytes
  have hml : c.maxLocals = 6 := hml0
  have hown : s.vm.findClass "java/lang/StringUTF16" = some m.cls := findClass_of_methodNamed Bd.named
  have hnm := (name_of_methodNamed Bd.named Bd.method).1
  have X0 : Stand p l e ({ frames := 1, cells := 1, slots := 2, locals := 18 } : Room) s m #[(.ref r0), (.int (0 : Int32)), (.int (2 : Int32))] below meth c s₁ [] 0 0 := Stand.of_body Bd
  have e0 : s₁.heap = h0 := by rw [← hh, Bd.state]; rfl
  have N0 := Fr.nil n0
  have pre0 : ∀ t, Steps p.tables e below (s₁.setTop (mkF m 0 #[.val (.ref r0), .val (.int (0 : Int32)), .val (.int (2 : Int32)), .unset, .unset, .unset] [])) t → Steps p.tables e below (s₁.setTop (entryFrame m #[(.ref r0), (.int (0 : Int32)), (.int (2 : Int32))] 6)) t := fun tt kt_ => castTop (ef_13_2 m r0 (0 : Int32) (2 : Int32)) kt_
  have K0 : Keep h0 h0 [] := Keep.refl h0 []
  obtain ⟨T1, h1, k1, X1, e1, E1, A1, st1⟩ := newP X0 hx hZ (hw _ (List.mem_of_getElem? (i := 23) rfl)) e0 (g := (mkF m 1 #[.val (.ref r0), .val (.int (0 : Int32)), .val (.int (2 : Int32)), .unset, .unset, .unset] [(.int (2 : Int32))])) rfl (hb hby d13_1) rfl (by decide) (cap := 2) (by decide) (by decide) (by decide) (by decide)
  obtain ⟨b1, g1⟩ : ∃ z, z = h0.size := ⟨_, rfl⟩
  rw [← g1] at A1 st1
  have g_b1 : n0 ≤ b1 := Nat.le_trans Z0 (Nat.le_of_eq g1.symm)
  have sz_b1 : h0.size ≤ b1 := Nat.le_trans K0.1 (Nat.le_of_eq g1.symm)
  have ne_r0_b1 : r0 ≠ b1 := Nat.ne_of_lt (Nat.lt_of_lt_of_le V_r0.lt (Nat.le_of_eq g1.symm))
  have V_r0_at1 : Arv Z h1 r0 ka .char (2 : Int32) [(.int c0), (.int c1)] (.int (0 : Int32)) := V_r0.ext E1
  have K1 : Keep h0 h1 [] := K0.ext E1
  have Z1 : n0 ≤ h1.size := Nat.le_trans Z0 E1.1
  have xV_b1_at1 := (Arv.new A1 (by decide)).pad (pad_rep [] (.int (0 : Int32)) 2)
  have V_b1_at1 : Arv Z h1 b1 k1 .byte (2 : Int32) [(.int (0 : Int32)), (.int (0 : Int32))] (.int (0 : Int32)) := xV_b1_at1
  obtain ⟨_, _, ⟨T2, L2, k2, n2⟩, -, X2, ⟨Lc2, hQ2, l2, y2, z2⟩, st2⟩ := Jvm.LawKit.callS X1 hx (y := (⟨"java/lang/StringUTF16", "compress", "([CI[BII)I"⟩ : MethodName)) hown (mvT hZ (hw _ (List.mem_of_getElem? (i := 68) rfl))) (mvT hZ (hw _ (List.mem_of_getElem? (i := 69) rfl))) (mvT hZ (hw _ (List.mem_of_getElem? (i := 66) rfl))) (mvT hZ (hw _ (List.mem_of_getElem? (i := 70) rfl))) (by decide) (backOf (W := 0) (rm14_2 l Z a0 hw [] r0 b1 ka k1 c0 c1 h1 n0 Z1 V_r0_at1 V_b1_at1 g_b1 ne_r0_b1 hc0 hc1) hZ (hw _ (List.mem_of_getElem? (i := 70) rfl)) (hw _ (List.mem_of_getElem? (i := 66) rfl)) (by decide) (by decide)) (g := (mkF m 9 #[.val (.ref r0), .val (.int (0 : Int32)), .val (.int (2 : Int32)), .val (.ref b1), .unset, .unset] [(.int (2 : Int32)), (.int (0 : Int32)), (.ref b1), (.int (0 : Int32)), (.ref r0)])) rfl (by rw [hml]; rfl) (argsL := [(.ref r0), (.int (0 : Int32)), (.ref b1), (.int (0 : Int32)), (.int (2 : Int32))]) (rest := []) (lenOf pd_285bCI5bBII29I rfl) rfl (by show 2 * 0 + _ ≤ _; exact Nat.le_of_eq rfl) (hb hby d13_9) (fun _ _ => ⟨rfl, e1, (by decide : 1 + 0 ≤ _), (by decide : 2 + 0 ≤ _)⟩)
  dsimp only [Pt.U, Pt.locs, Pt.cells, Pt.slots] at X2 l2 y2 z2 st2 hQ2
  subst l2 y2 z2
  obtain ⟨rfl, N2q, KK2, VB2⟩ := hQ2
  obtain ⟨h2, e2⟩ : ∃ z, T2.heap = z := ⟨_, rfl⟩
  rw [e2] at KK2 VB2
  have V_r0_at2 : Arv Z h2 r0 ka .char (2 : Int32) [(.int c0), (.int c1)] (.int (0 : Int32)) := V_r0_at1.keep KK2 (ninS ne_r0_b1 nin0)
  have K2 : Keep h0 h2 [] := K1.trans KK2 (allS (Or.inr sz_b1) all0)
  have Z2 : n0 ≤ h2.size := Nat.le_trans Z1 KK2.1
  have N2 := Fr.app N0 N2q
  obtain ⟨fs, hr, hrun, hended, hW, hsame⟩ := X2.leave (v := some (.ref b1)) (fun h => by rw [Bd.returns] at h; cases h)
  refine ⟨_, _, pre0 _ ?_, hrun, hended, _, _, rfl, ?_, ⟨_, rfl⟩, hW, hsame.mono (by decide) (by decide)⟩
  · show Steps p.tables e below (s₁.setTop (mkF m 0 #[.val (.ref r0), .val (.int (0 : Int32)), .val (.int (2 : Int32)), .unset, .unset, .unset] [])) _
    refine XS.iloadN X0.here hx rfl (hb hby d13_0) rfl ?_
    show Steps p.tables e below (s₁.setTop (mkF m 1 #[.val (.ref r0), .val (.int (0 : Int32)), .val (.int (2 : Int32)), .unset, .unset, .unset] [(.int (2 : Int32))])) _
    refine st1 _ ?_
    show Steps p.tables e below (T1.setTop (mkF m 3 #[.val (.ref r0), .val (.int (0 : Int32)), .val (.int (2 : Int32)), .unset, .unset, .unset] [(.ref b1)])) _
    refine XS.astoreN X1.here hx rfl (hb hby d13_3) rfl rfl (l' := #[.val (.ref r0), .val (.int (0 : Int32)), .val (.int (2 : Int32)), .val (.ref b1), .unset, .unset]) rfl ?_
    refine XS.aloadN X1.here hx rfl (hb hby d13_4) rfl rfl ?_
    refine XS.iloadN X1.here hx rfl (hb hby d13_5) rfl ?_
    refine XS.aloadN X1.here hx rfl (hb hby d13_6) rfl rfl ?_
    show Steps p.tables e below (T1.setTop (mkF m 7 #[.val (.ref r0), .val (.int (0 : Int32)), .val (.int (2 : Int32)), .val (.ref b1), .unset, .unset] [(.ref b1), (.int (0 : Int32)), (.ref r0)])) _
    refine XS.iconst X1.here hx rfl (hb hby d13_7) ?_
    refine XS.iloadN X1.here hx rfl (hb hby d13_8) rfl ?_
    show Steps p.tables e below (T1.setTop (mkF m 9 #[.val (.ref r0), .val (.int (0 : Int32)), .val (.int (2 : Int32)), .val (.ref b1), .unset, .unset] [(.int (2 : Int32)), (.int (0 : Int32)), (.ref b1), (.int (0 : Int32)), (.ref r0)])) _
    refine st2 _ ?_
    show Steps p.tables e below (T2.setTop (mkF m 12 #[.val (.ref r0), .val (.int (0 : Int32)), .val (.int (2 : Int32)), .val (.ref b1), .unset, .unset] [(.int (2 : Int32))])) _
    refine XS.istore X2.here hx rfl (hb hby d13_12) rfl (l' := #[.val (.ref r0), .val (.int (0 : Int32)), .val (.int (2 : Int32)), .val (.ref b1), .val (.int (2 : Int32)), .unset]) rfl ?_
    refine XS.iload X2.here hx rfl (hb hby d13_14) rfl ?_
    refine XS.iloadN X2.here hx rfl (hb hby d13_16) rfl ?_
    show Steps p.tables e below (T2.setTop (mkF m 17 #[.val (.ref r0), .val (.int (0 : Int32)), .val (.int (2 : Int32)), .val (.ref b1), .val (.int (2 : Int32)), .unset] [(.int (2 : Int32)), (.int (2 : Int32))])) _
    refine XS.icmpYes X2.here hx rfl (pc0 := 17) (pc' := 57) rfl (hb hby d13_17) rfl (teq (by decide : (2 : Int32) = (2 : Int32))).1 (by decide) (by decide) ?_
    refine XS.aloadN X2.here hx rfl (hb hby d13_57) rfl rfl ?_
    show Steps p.tables e below (T2.setTop (mkF m 58 #[.val (.ref r0), .val (.int (0 : Int32)), .val (.int (2 : Int32)), .val (.ref b1), .val (.int (2 : Int32)), .unset] [(.ref b1)])) _
    jvm_step X2.here [X2.here.top, hx, (hb hby d13_58), X2.method', Bd.returns, Value.isRef, FieldType.isReference]
    first | (intro acts; rw [hr _ acts rfl rfl rfl]) | rw [hr _ _ rfl rfl rfl]
    exact Steps.refl _
  · show Q13_2 Z r0 ka c0 c1 h0 n0 _ T2.heap _
    rw [e2]
    exact ⟨b1, _, rfl, N2, K2, sz_b1, VB2⟩
theorem ef_15_2 (m : MethodId) (x0 : Addr) (x1 : Int32) : entryFrame m #[(.ref x0), (.int x1)] 2 = mkF m 0 #[.val (.ref x0), .val (.int x1)] [] := by first | (simp [entryFrame, mkF, argsToLocals, Value.category]; done) | rfl
def Q15_2 (Z : State) (r0 : Addr) (ka : ClassId) (vs : List Value) (h0 : Heap) (n0 : Nat) (v : Option Value) (h : Heap) (L : List Loc) : Prop := v = some (.int (0 : Int32)) ∧ Fr n0 L ∧ h = h0
set_option maxRecDepth 65536 in
set_option maxHeartbeats 40000000 in
theorem rm15_2 (l : Launch) (Z : State) (a0 : Array Value) (hw : ∀ d ∈ tables_1, d.before a0 Z = true) (ws : List Jvm.Cond) (r0 : Addr) (ka : ClassId) (vs : List Value) (h0 : Heap) (n0 : Nat) (Z0 : n0 ≤ h0.size) (V_r0 : Arv Z h0 r0 ka .byte (2 : Int32) vs (.int (0 : Int32))) :
    MetFree l (⟨"java/lang/StringUTF16", "coderFromArrayLen", "([BI)B"⟩ : MethodName) (head1 (Jvm.Cond.code (⟨"java/lang/StringUTF16", "coderFromArrayLen", "([BI)B"⟩ : MethodName) jdk_52_method_15_code 2 (some .byte) :: ws) ({ frames := 0, cells := 0, slots := 0, locals := 0 } : Room)) (fun a U => a = #[(.ref r0), (.int (2 : Int32))] ∧ Z.Warmed39 U.vm ∧ U.heap = h0) (fun _ _ _ _ _ => True) (fun _ U o U' => ∃ v L, o = .returned v ∧ Q15_2 Z r0 ka vs h0 n0 v U'.heap L ∧ FrameEnd U o U' L ({ frames := 0, cells := 0, slots := 0, locals := 0 } : Room).cells ({ frames := 0, cells := 0, slots := 0, locals := 0 } : Room).slots) := by
  refine MetFree.of_bodySF (plainFor_of_name pn_java_lang_StringUTF16) hisR ?_
  intro p e s m args below meth c s₁ Bd hml0 hP hK
  obtain ⟨rfl, hZ, hh⟩ := hP
  have hx := Bd.exec
  have hby := Bd.bytes
  have hml : c.maxLocals = 2 := hml0
  have hown : s.vm.findClass "java/lang/StringUTF16" = some m.cls := findClass_of_methodNamed Bd.named
  have hnm := (name_of_methodNamed Bd.named Bd.method).1
  have X0 : Stand p l e ({ frames := 0, cells := 0, slots := 0, locals := 0 } : Room) s m #[(.ref r0), (.int (2 : Int32))] below meth c s₁ [] 0 0 := Stand.of_body Bd
  have e0 : s₁.heap = h0 := by rw [← hh, Bd.state]; rfl
  have N0 := Fr.nil n0
  have pre0 : ∀ t, Steps p.tables e below (s₁.setTop (mkF m 0 #[.val (.ref r0), .val (.int (2 : Int32))] [])) t → Steps p.tables e below (s₁.setTop (entryFrame m #[(.ref r0), (.int (2 : Int32))] 2)) t := fun tt kt_ => castTop (ef_15_2 m r0 (2 : Int32)) kt_
  obtain ⟨cl_2_1, Ar_2_1, -, S_2_1, M_2_1, -, -⟩ := id V_r0
  obtain ⟨fs, hr, hrun, hended, hW, hsame⟩ := X0.leave (v := some (.int (nar .byte ((((0 : Int32).toUInt32 >>> ((31 : Int32) &&& 31).toUInt32).toInt32).toInt8.toInt32)))) (fun h => by rw [Bd.returns] at h; cases h)
  refine ⟨_, _, pre0 _ ?_, hrun, hended, _, _, rfl, ?_, ⟨_, rfl⟩, hW, hsame.mono (by decide) (by decide)⟩
  · show Steps p.tables e below (s₁.setTop (mkF m 0 #[.val (.ref r0), .val (.int (2 : Int32))] [])) _
    refine XS.iloadN X0.here hx rfl (hb hby d15_0) rfl ?_
    refine XS.aloadN X0.here hx rfl (hb hby d15_1) rfl rfl ?_
    show Steps p.tables e below (s₁.setTop (mkF m 2 #[.val (.ref r0), .val (.int (2 : Int32))] [(.ref r0), (.int (2 : Int32))])) _
    refine X0.arraylength hx (by rw [e0]; exact Ar_2_1.1) (State.isArrayOf_alike hZ.alike Ar_2_1.2.1) (g := (mkF m 2 #[.val (.ref r0), .val (.int (2 : Int32))] [(.ref r0), (.int (2 : Int32))])) rfl rfl (hb hby d15_2) _ ?_
    rw [len_of S_2_1 M_2_1]
    show Steps p.tables e below (s₁.setTop (mkF m 3 #[.val (.ref r0), .val (.int (2 : Int32))] [(.int (2 : Int32)), (.int (2 : Int32))])) _
    refine XS.isub X0.here hx rfl (hb hby d15_3) rfl ?_
    refine XS.bipush X0.here hx rfl (hb hby d15_4) ?_
    show Steps p.tables e below (s₁.setTop (mkF m 6 #[.val (.ref r0), .val (.int (2 : Int32))] [(.int (31 : Int32)), (.int (0 : Int32))])) _
    refine XS.iushr X0.here hx rfl (hb hby d15_6) rfl ?_
    show Steps p.tables e below (s₁.setTop (mkF m 7 #[.val (.ref r0), .val (.int (2 : Int32))] [(.int (((0 : Int32).toUInt32 >>> ((31 : Int32) &&& 31).toUInt32).toInt32))])) _
    refine XS.i2b X0.here hx rfl (hb hby d15_7) rfl ?_
    show Steps p.tables e below (s₁.setTop (mkF m 8 #[.val (.ref r0), .val (.int (2 : Int32))] [(.int ((((0 : Int32).toUInt32 >>> ((31 : Int32) &&& 31).toUInt32).toInt32).toInt8.toInt32))])) _
    exact retN X0 hx (t := .byte) Bd.returns (by simp) (hb hby d15_8) hr
  · show Q15_2 Z r0 ka vs h0 n0 _ s₁.heap _
    rw [e0]
    exact ⟨rfl, N0, rfl⟩
theorem ef_4_2 (m : MethodId) (x0 : Addr) (x1 : Addr) (x2 : Int32) (x3 : Int32) : entryFrame m #[(.ref x0), (.ref x1), (.int x2), (.int x3), .null] 6 = mkF m 0 #[.val (.ref x0), .val (.ref x1), .val (.int x2), .val (.int x3), .val .null, .unset] [] := by first | (simp [entryFrame, mkF, argsToLocals, Value.category]; done) | rfl
def Q4_2 (Z : State) (r0 : Addr) (r1 : Addr) (ka : ClassId) (c0 c1 : Int32) (cs : Int32) (h0 : Heap) (n0 : Nat) (v : Option Value) (h : Heap) (L : List Loc) : Prop := v = none ∧ Fr n0 L ∧ Keep h0 h [r0] ∧ ∃ (b : Addr) (kb : ClassId), h0.size ≤ b ∧ Fld Z h r0 "java/lang/String" "coder" "B" (.int (0 : Int32)) ∧ Fld Z h r0 "java/lang/String" "value" "[B" (.ref b) ∧ Arv Z h b kb .byte (2 : Int32) [(.int (own_by c0)), (.int (own_by c1))] (.int (0 : Int32))
set_option maxRecDepth 65536 in
set_option maxHeartbeats 40000000 in
theorem rm4_2 (l : Launch) (Z : State) (a0 : Array Value) (hw : ∀ d ∈ tables_1, d.before a0 Z = true) (ws : List Jvm.Cond) (r0 : Addr) (r1 : Addr) (ka : ClassId) (c0 c1 : Int32) (cs : Int32) (h0 : Heap) (n0 : Nat) (Z0 : n0 ≤ h0.size) (E_r0 : Exa Z h0 r0 "java/lang/String") (F_value : Fld Z h0 r0 "java/lang/String" "value" "[B" .null) (F_coder : Fld Z h0 r0 "java/lang/String" "coder" "B" (.int (0 : Int32))) (g_r0 : n0 ≤ r0) (V_r1 : Arv Z h0 r1 ka .char (2 : Int32) [(.int c0), (.int c1)] (.int (0 : Int32))) (ne_r0_r1 : r0 ≠ r1) (O_0 : Old Z n0 h0) (S_cs : Sta Z Z.heap "java/lang/String" "COMPACT_STRINGS" "Z" (.int cs)) (hcs : ¬ (cs = (0 : Int32))) (hc0 : own_ch c0) (hc1 : own_ch c1) :
    MetFree l (⟨"java/lang/String", "<init>", "([CIILjava/lang/Void;)V"⟩ : MethodName) (head1 (Jvm.Cond.code (⟨"java/lang/String", "<init>", "([CIILjava/lang/Void;)V"⟩ : MethodName) jdk_42_method_149_code 6 none :: ws) ({ frames := 2, cells := 1, slots := 2, locals := 35 } : Room)) (fun a U => a = #[(.ref r0), (.ref r1), (.int (0 : Int32)), (.int (2 : Int32)), .null] ∧ Z.Warmed39 U.vm ∧ U.heap = h0) (fun _ _ _ _ _ => True) (fun _ U o U' => ∃ v L, o = .returned v ∧ Q4_2 Z r0 r1 ka c0 c1 cs h0 n0 v U'.heap L ∧ FrameEnd U o U' L ({ frames := 2, cells := 1, slots := 2, locals := 35 } : Room).cells ({ frames := 2, cells := 1, slots := 2, locals := 35 } : Room).slots) := by
  refine MetFree.of_bodySF (plainFor_of_name pn_java_lang_String) hisR ?_
  intro p e s m args below meth c s₁ Bd hml0 hP hK
  obtain ⟨rfl, hZ, hh⟩ := hP
  have hx := Bd.exec
  have hby := Bd.bytes
  have hml : c.maxLocals = 6 := hml0
  have hown : s.vm.findClass "java/lang/String" = some m.cls := findClass_of_methodNamed Bd.named
  have hnm := (name_of_methodNamed Bd.named Bd.method).1
  have X0 : Stand p l e ({ frames := 2, cells := 1, slots := 2, locals := 35 } : Room) s m #[(.ref r0), (.ref r1), (.int (0 : Int32)), (.int (2 : Int32)), .null] below meth c s₁ [] 0 0 := Stand.of_body Bd
  have e0 : s₁.heap = h0 := by rw [← hh, Bd.state]; rfl
  have N0 := Fr.nil n0
  have pre0 : ∀ t, Steps p.tables e below (s₁.setTop (mkF m 0 #[.val (.ref r0), .val (.ref r1), .val (.int (0 : Int32)), .val (.int (2 : Int32)), .val .null, .unset] [])) t → Steps p.tables e below (s₁.setTop (entryFrame m #[(.ref r0), (.ref r1), (.int (0 : Int32)), (.int (2 : Int32)), .null] 6)) t := fun tt kt_ => castTop (ef_4_2 m r0 r1 (0 : Int32) (2 : Int32)) kt_
  have K0 : Keep h0 h0 [r0] := Keep.refl h0 [r0]
  obtain ⟨T1, X1, e1, st1⟩ := initO X0 hx hZ hown (hw _ (List.mem_of_getElem? (i := 19) rfl)) (hw _ (List.mem_of_getElem? (i := 20) rfl)) (hw _ (List.mem_of_getElem? (i := 21) rfl)) e0 (g := (mkF m 1 #[.val (.ref r0), .val (.ref r1), .val (.int (0 : Int32)), .val (.int (2 : Int32)), .val .null, .unset] [(.ref r0)])) rfl (by rw [hml]; rfl) rfl (hb hby d4_1) (by decide) (W := 0) (by show 2 * 0 + _ ≤ _; exact Nat.le_of_eq rfl) (by decide)
  obtain ⟨T2, X2, e2, st2⟩ := getS2 X1 hx hZ hown (host := "") (Or.inl (hw _ (List.mem_of_getElem? (i := 44) rfl))) Via.refl e1 (Sta.ext O_0.2 S_cs) (g := (mkF m 27 #[.val (.ref r0), .val (.ref r1), .val (.int (0 : Int32)), .val (.int (2 : Int32)), .val .null, .unset] [])) rfl (hb hby d4_27)
  obtain ⟨_, _, ⟨T3, L3, k3, n3⟩, -, X3, ⟨Lc3, hQ3, l3, y3, z3⟩, st3⟩ := Jvm.LawKit.callS X2 hx (y := (⟨"java/lang/StringUTF16", "compress", "([CII)[B"⟩ : MethodName)) hown (mvT hZ (hw _ (List.mem_of_getElem? (i := 64) rfl))) (mvT hZ (hw _ (List.mem_of_getElem? (i := 65) rfl))) (mvT hZ (hw _ (List.mem_of_getElem? (i := 66) rfl))) (mvT hZ (hw _ (List.mem_of_getElem? (i := 67) rfl))) (by decide) (backOf (W := 0) (rm13_2 l Z a0 hw [] r1 ka c0 c1 h0 n0 Z0 V_r1 hc0 hc1) hZ (hw _ (List.mem_of_getElem? (i := 67) rfl)) (hw _ (List.mem_of_getElem? (i := 66) rfl)) (by decide) (by decide)) (g := (mkF m 36 #[.val (.ref r0), .val (.ref r1), .val (.int (0 : Int32)), .val (.int (2 : Int32)), .val .null, .unset] [(.int (2 : Int32)), (.int (0 : Int32)), (.ref r1)])) rfl (by rw [hml]; rfl) (argsL := [(.ref r1), (.int (0 : Int32)), (.int (2 : Int32))]) (rest := []) (lenOf pd_285bCII295bB rfl) rfl (by show 2 * 0 + _ ≤ _; exact Nat.le_of_eq rfl) (hb hby d4_36) (fun _ _ => ⟨rfl, e2, (by decide : 0 + 1 ≤ _), (by decide : 0 + 2 ≤ _)⟩)
  dsimp only [Pt.U, Pt.locs, Pt.cells, Pt.slots] at X3 l3 y3 z3 st3 hQ3
  subst l3 y3 z3
  obtain ⟨b3, kb3, rfl, N3q, KK3, gb3, VB3⟩ := hQ3
  obtain ⟨h3, e3⟩ : ∃ z, T3.heap = z := ⟨_, rfl⟩
  rw [e3] at KK3 VB3
  have E_r0_at3 : Exa Z h3 r0 "java/lang/String" := E_r0.keep KK3
  have O_0_at3 : Old Z n0 h3 := O_0.keep KK3 all0
  have F_value_at3 : Fld Z h3 r0 "java/lang/String" "value" "[B" .null := F_value.keep KK3 nin0
  have F_coder_at3 : Fld Z h3 r0 "java/lang/String" "coder" "B" (.int (0 : Int32)) := F_coder.keep KK3 nin0
  have V_r1_at3 : Arv Z h3 r1 ka .char (2 : Int32) [(.int c0), (.int c1)] (.int (0 : Int32)) := V_r1.keep KK3 nin0
  have K3 : Keep h0 h3 [r0] := K0.trans KK3 all0
  have Z3 : n0 ≤ h3.size := Nat.le_trans Z0 KK3.1
  have ne_r0_b3 : r0 ≠ b3 := Nat.ne_of_lt (Nat.lt_of_lt_of_le E_r0.lt gb3)
  have ne_r1_b3 : r1 ≠ b3 := Nat.ne_of_lt (Nat.lt_of_lt_of_le V_r1.lt gb3)
  have g_b3 : n0 ≤ b3 := Nat.le_trans Z0 gb3
  have sz_b3 : h0.size ≤ b3 := Nat.le_trans K0.1 gb3
  have N3 := Fr.app N0 N3q
  obtain ⟨_, _, ⟨T4, L4, k4, n4⟩, -, X4, ⟨Lc4, hQ4, l4, y4, z4⟩, st4⟩ := Jvm.LawKit.callS X3 hx (y := (⟨"java/lang/StringUTF16", "coderFromArrayLen", "([BI)B"⟩ : MethodName)) hown (mvT hZ (hw _ (List.mem_of_getElem? (i := 71) rfl))) (mvT hZ (hw _ (List.mem_of_getElem? (i := 72) rfl))) (mvT hZ (hw _ (List.mem_of_getElem? (i := 66) rfl))) (mvT hZ (hw _ (List.mem_of_getElem? (i := 73) rfl))) (by decide) (backOf (W := 1) (rm15_2 l Z a0 hw [] b3 kb3 [(.int (own_by c0)), (.int (own_by c1))] h3 n0 Z3 VB3) hZ (hw _ (List.mem_of_getElem? (i := 73) rfl)) (hw _ (List.mem_of_getElem? (i := 66) rfl)) (by decide) (by decide)) (g := (mkF m 45 #[.val (.ref r0), .val (.ref r1), .val (.int (0 : Int32)), .val (.int (2 : Int32)), .val .null, .val (.ref b3)] [(.int (2 : Int32)), (.ref b3), (.ref r0)])) rfl (by rw [hml]; rfl) (argsL := [(.ref b3), (.int (2 : Int32))]) (rest := [(.ref r0)]) (lenOf pd_285bBI29B rfl) rfl (by show 2 * 0 + _ ≤ _; exact Nat.le_of_eq rfl) (hb hby d4_45) (fun _ _ => ⟨rfl, e3, (by decide : 1 + 0 ≤ _), (by decide : 2 + 0 ≤ _)⟩)
  dsimp only [Pt.U, Pt.locs, Pt.cells, Pt.slots] at X4 l4 y4 z4 st4 hQ4
  subst l4 y4 z4
  obtain ⟨rfl, N4q, e4⟩ := hQ4
  have N4 := Fr.app N3 N4q
  obtain ⟨T5, h5, X5, e5, W5, st5⟩ := putFN X4 hx hZ hown (hw _ (List.mem_of_getElem? (i := 29) rfl)) Via.refl e4 F_coder_at3 E_r0_at3 (Or.inr ⟨(hw _ (List.mem_of_getElem? (i := 25) rfl)), rfl, hnm⟩) (hw _ (List.mem_of_getElem? (i := 10) rfl)) (ty := .byte) (v' := (.int (0 : Int32).toInt8.toInt32)) (by decide) rfl (fits_nar_byte _) (g := (mkF m 48 #[.val (.ref r0), .val (.ref r1), .val (.int (0 : Int32)), .val (.int (2 : Int32)), .val .null, .val (.ref b3)] [(.int (0 : Int32)), (.ref r0)])) rfl rfl (hb hby d4_48)
  have E_r0_at5 : Exa Z h5 r0 "java/lang/String" := E_r0_at3.wr W5
  have O_0_at5 : Old Z n0 h5 := O_0_at3.wr W5 g_r0
  have F_value_at5 : Fld Z h5 r0 "java/lang/String" "value" "[B" .null := F_value_at3.other W5 (Or.inr (slot_ne (Or.inr (hw _ (List.mem_of_getElem? (i := 24) rfl))) (Or.inr (hw _ (List.mem_of_getElem? (i := 25) rfl))) (by decide) (t := (.array .byte)) (t' := .byte) (by decide) (by decide)))
  have V_r1_at5 : Arv Z h5 r1 ka .char (2 : Int32) [(.int c0), (.int c1)] (.int (0 : Int32)) := V_r1_at3.other W5 (Ne.symm ne_r0_r1)
  have VB3_at5 : Arv Z h5 b3 kb3 .byte (2 : Int32) [(.int (own_by c0)), (.int (own_by c1))] (.int (0 : Int32)) := VB3.other W5 (Ne.symm ne_r0_b3)
  have F_coder_r0_at5 : Fld Z h5 r0 "java/lang/String" "coder" "B" (.int (0 : Int32).toInt8.toInt32) := F_coder_at3.same W5
  have K5 : Keep h0 h5 [r0] := K3.wr W5 (Or.inl (List.mem_of_getElem? (i := 0) rfl))
  have Z5 : n0 ≤ h5.size := Nat.le_trans Z3 (Keep.of_wr W5).1
  have N5 := Fr.snoc X5 N4 g_r0
  obtain ⟨T6, h6, X6, e6, W6, st6⟩ := putF X5 hx hZ hown (host := "") (Or.inl (hw _ (List.mem_of_getElem? (i := 28) rfl))) Via.refl e5 F_value_at5 E_r0_at5 (Or.inr ⟨(hw _ (List.mem_of_getElem? (i := 24) rfl)), rfl, hnm⟩) (hw _ (List.mem_of_getElem? (i := 10) rfl)) (ty := (.array .byte)) (by decide) rfl rfl (g := (mkF m 54 #[.val (.ref r0), .val (.ref r1), .val (.int (0 : Int32)), .val (.int (2 : Int32)), .val .null, .val (.ref b3)] [(.ref b3), (.ref r0)])) rfl rfl (hb hby d4_54)
  have E_r0_at6 : Exa Z h6 r0 "java/lang/String" := E_r0_at5.wr W6
  have O_0_at6 : Old Z n0 h6 := O_0_at5.wr W6 g_r0
  have V_r1_at6 : Arv Z h6 r1 ka .char (2 : Int32) [(.int c0), (.int c1)] (.int (0 : Int32)) := V_r1_at5.other W6 (Ne.symm ne_r0_r1)
  have VB3_at6 : Arv Z h6 b3 kb3 .byte (2 : Int32) [(.int (own_by c0)), (.int (own_by c1))] (.int (0 : Int32)) := VB3_at5.other W6 (Ne.symm ne_r0_b3)
  have F_coder_r0_at6 : Fld Z h6 r0 "java/lang/String" "coder" "B" (.int (0 : Int32).toInt8.toInt32) := F_coder_r0_at5.other W6 (Or.inr (slot_ne (Or.inr (hw _ (List.mem_of_getElem? (i := 25) rfl))) (Or.inr (hw _ (List.mem_of_getElem? (i := 24) rfl))) (by decide) (t := .byte) (t' := (.array .byte)) (by decide) (by decide)))
  have F_value_r0_at6 : Fld Z h6 r0 "java/lang/String" "value" "[B" (.ref b3) := F_value_at5.same W6
  have K6 : Keep h0 h6 [r0] := K5.wr W6 (Or.inl (List.mem_of_getElem? (i := 0) rfl))
  have Z6 : n0 ≤ h6.size := Nat.le_trans Z5 (Keep.of_wr W6).1
  have N6 := Fr.snoc X6 N5 g_r0
  obtain ⟨fs, hr, hrun, hended, hW, hsame⟩ := X6.leave (v := none) (fun _ => rfl)
  refine ⟨_, _, pre0 _ ?_, hrun, hended, _, _, rfl, ?_, ⟨_, rfl⟩, hW, hsame.mono (by decide) (by decide)⟩
  · show Steps p.tables e below (s₁.setTop (mkF m 0 #[.val (.ref r0), .val (.ref r1), .val (.int (0 : Int32)), .val (.int (2 : Int32)), .val .null, .unset] [])) _
    refine XS.aloadN X0.here hx rfl (hb hby d4_0) rfl rfl ?_
    show Steps p.tables e below (s₁.setTop (mkF m 1 #[.val (.ref r0), .val (.ref r1), .val (.int (0 : Int32)), .val (.int (2 : Int32)), .val .null, .unset] [(.ref r0)])) _
    refine st1 _ ?_
    show Steps p.tables e below (T1.setTop (mkF m 4 #[.val (.ref r0), .val (.ref r1), .val (.int (0 : Int32)), .val (.int (2 : Int32)), .val .null, .unset] [])) _
    refine XS.iloadN X1.here hx rfl (hb hby d4_4) rfl ?_
    show Steps p.tables e below (T1.setTop (mkF m 5 #[.val (.ref r0), .val (.ref r1), .val (.int (0 : Int32)), .val (.int (2 : Int32)), .val .null, .unset] [(.int (2 : Int32))])) _
    refine XS.ifYes X1.here hx rfl (pc0 := 5) (pc' := 27) rfl (hb hby d4_5) rfl ((if0 _ _).trans (feq (by decide : ¬ ((2 : Int32) = (0 : Int32)))).2) (by decide) (by decide) ?_
    show Steps p.tables e below (T1.setTop (mkF m 27 #[.val (.ref r0), .val (.ref r1), .val (.int (0 : Int32)), .val (.int (2 : Int32)), .val .null, .unset] [])) _
    refine st2 _ ?_
    show Steps p.tables e below (T2.setTop (mkF m 30 #[.val (.ref r0), .val (.ref r1), .val (.int (0 : Int32)), .val (.int (2 : Int32)), .val .null, .unset] [(.int cs)])) _
    refine XS.ifNo X2.here hx rfl (hb hby d4_30) rfl ((if0 _ _).trans (feq hcs).1) ?_
    refine XS.aloadN X2.here hx rfl (hb hby d4_33) rfl rfl ?_
    refine XS.iloadN X2.here hx rfl (hb hby d4_34) rfl ?_
    refine XS.iloadN X2.here hx rfl (hb hby d4_35) rfl ?_
    show Steps p.tables e below (T2.setTop (mkF m 36 #[.val (.ref r0), .val (.ref r1), .val (.int (0 : Int32)), .val (.int (2 : Int32)), .val .null, .unset] [(.int (2 : Int32)), (.int (0 : Int32)), (.ref r1)])) _
    refine st3 _ ?_
    show Steps p.tables e below (T3.setTop (mkF m 39 #[.val (.ref r0), .val (.ref r1), .val (.int (0 : Int32)), .val (.int (2 : Int32)), .val .null, .unset] [(.ref b3)])) _
    refine XS.astore X3.here hx rfl (hb hby d4_39) rfl rfl (l' := #[.val (.ref r0), .val (.ref r1), .val (.int (0 : Int32)), .val (.int (2 : Int32)), .val .null, .val (.ref b3)]) rfl ?_
    refine XS.aloadN X3.here hx rfl (hb hby d4_41) rfl rfl ?_
    refine XS.aload X3.here hx rfl (hb hby d4_42) rfl rfl ?_
    refine XS.iloadN X3.here hx rfl (hb hby d4_44) rfl ?_
    show Steps p.tables e below (T3.setTop (mkF m 45 #[.val (.ref r0), .val (.ref r1), .val (.int (0 : Int32)), .val (.int (2 : Int32)), .val .null, .val (.ref b3)] [(.int (2 : Int32)), (.ref b3), (.ref r0)])) _
    refine st4 _ ?_
    show Steps p.tables e below (T4.setTop (mkF m 48 #[.val (.ref r0), .val (.ref r1), .val (.int (0 : Int32)), .val (.int (2 : Int32)), .val .null, .val (.ref b3)] [(.int (0 : Int32)), (.ref r0)])) _
    refine st5 _ ?_
    show Steps p.tables e below (T5.setTop (mkF m 51 #[.val (.ref r0), .val (.ref r1), .val (.int (0 : Int32)), .val (.int (2 : Int32)), .val .null, .val (.ref b3)] [])) _
    refine XS.aloadN X5.here hx rfl (hb hby d4_51) rfl rfl ?_
    refine XS.aload X5.here hx rfl (hb hby d4_52) rfl rfl ?_
    show Steps p.tables e below (T5.setTop (mkF m 54 #[.val (.ref r0), .val (.ref r1), .val (.int (0 : Int32)), .val (.int (2 : Int32)), .val .null, .val (.ref b3)] [(.ref b3), (.ref r0)])) _
    refine st6 _ ?_
    show Steps p.tables e below (T6.setTop (mkF m 57 #[.val (.ref r0), .val (.ref r1), .val (.int (0 : Int32)), .val (.int (2 : Int32)), .val .null, .val (.ref b3)] [])) _
    exact X6.returnOut hx Bd.returns (hb hby d4_57) hr
  · show Q4_2 Z r0 r1 ka c0 c1 cs h0 n0 _ T6.heap _
    rw [e6]
    exact ⟨rfl, N6, K6, b3, _, sz_b3, F_coder_r0_at6, F_value_r0_at6, VB3_at6⟩
theorem ef_3_2 (m : MethodId) (x0 : Addr) (x1 : Addr) : entryFrame m #[(.ref x0), (.ref x1)] 2 = mkF m 0 #[.val (.ref x0), .val (.ref x1)] [] := by first | (simp [entryFrame, mkF, argsToLocals, Value.category]; done) | rfl
def Q3_2 (Z : State) (r0 : Addr) (r1 : Addr) (ka : ClassId) (c0 c1 : Int32) (cs : Int32) (h0 : Heap) (n0 : Nat) (v : Option Value) (h : Heap) (L : List Loc) : Prop := v = none ∧ Fr n0 L ∧ Keep h0 h [r0] ∧ ∃ (b : Addr) (kb : ClassId), h0.size ≤ b ∧ Fld Z h r0 "java/lang/String" "coder" "B" (.int (0 : Int32)) ∧ Fld Z h r0 "java/lang/String" "value" "[B" (.ref b) ∧ Arv Z h b kb .byte (2 : Int32) [(.int (own_by c0)), (.int (own_by c1))] (.int (0 : Int32))
set_option maxRecDepth 65536 in
set_option maxHeartbeats 40000000 in
theorem rm3_2 (l : Launch) (Z : State) (a0 : Array Value) (hw : ∀ d ∈ tables_1, d.before a0 Z = true) (ws : List Jvm.Cond) (r0 : Addr) (r1 : Addr) (ka : ClassId) (c0 c1 : Int32) (cs : Int32) (h0 : Heap) (n0 : Nat) (Z0 : n0 ≤ h0.size) (E_r0 : Exa Z h0 r0 "java/lang/String") (F_value : Fld Z h0 r0 "java/lang/String" "value" "[B" .null) (F_coder : Fld Z h0 r0 "java/lang/String" "coder" "B" (.int (0 : Int32))) (g_r0 : n0 ≤ r0) (V_r1 : Arv Z h0 r1 ka .char (2 : Int32) [(.int c0), (.int c1)] (.int (0 : Int32))) (ne_r0_r1 : r0 ≠ r1) (O_0 : Old Z n0 h0) (S_cs : Sta Z Z.heap "java/lang/String" "COMPACT_STRINGS" "Z" (.int cs)) (hcs : ¬ (cs = (0 : Int32))) (hc0 : own_ch c0) (hc1 : own_ch c1) :
    MetFree l (⟨"java/lang/String", "<init>", "([C)V"⟩ : MethodName) (head1 (Jvm.Cond.code (⟨"java/lang/String", "<init>", "([C)V"⟩ : MethodName) jdk_42_method_3_code 2 none :: ws) ({ frames := 3, cells := 1, slots := 2, locals := 52 } : Room)) (fun a U => a = #[(.ref r0), (.ref r1)] ∧ Z.Warmed39 U.vm ∧ U.heap = h0) (fun _ _ _ _ _ => True) (fun _ U o U' => ∃ v L, o = .returned v ∧ Q3_2 Z r0 r1 ka c0 c1 cs h0 n0 v U'.heap L ∧ FrameEnd U o U' L ({ frames := 3, cells := 1, slots := 2, locals := 52 } : Room).cells ({ frames := 3, cells := 1, slots := 2, locals := 52 } : Room).slots) := by
  refine MetFree.of_bodySF (plainFor_of_name pn_java_lang_String) hisR ?_
  intro p e s m args below meth c s₁ Bd hml0 hP hK
  obtain ⟨rfl, hZ, hh⟩ := hP
  have hx := Bd.exec
  have hby := Bd.bytes
  have hml : c.maxLocals = 2 := hml0
  have hown : s.vm.findClass "java/lang/String" = some m.cls := findClass_of_methodNamed Bd.named
  have hnm := (name_of_methodNamed Bd.named Bd.method).1
  have X0 : Stand p l e ({ frames := 3, cells := 1, slots := 2, locals := 52 } : Room) s m #[(.ref r0), (.ref r1)] below meth c s₁ [] 0 0 := Stand.of_body Bd
  have e0 : s₁.heap = h0 := by rw [← hh, Bd.state]; rfl
  have N0 := Fr.nil n0
  have pre0 : ∀ t, Steps p.tables e below (s₁.setTop (mkF m 0 #[.val (.ref r0), .val (.ref r1)] [])) t → Steps p.tables e below (s₁.setTop (entryFrame m #[(.ref r0), (.ref r1)] 2)) t := fun tt kt_ => castTop (ef_3_2 m r0 r1) kt_
  have K0 : Keep h0 h0 [r0] := Keep.refl h0 [r0]
  obtain ⟨cl_4_1, Ar_4_1, -, S_4_1, M_4_1, -, -⟩ := id V_r1
  obtain ⟨_, _, ⟨T2, L2, k2, n2⟩, -, X2, ⟨Lc2, hQ2, l2, y2, z2⟩, st2⟩ := X0.specialBack hx (y := (⟨"java/lang/String", "<init>", "([CIILjava/lang/Void;)V"⟩ : MethodName)) rfl hown (mvT hZ (hw _ (List.mem_of_getElem? (i := 15) rfl))) (mvT hZ (hw _ (List.mem_of_getElem? (i := 16) rfl))) (mvT hZ (hw _ (List.mem_of_getElem? (i := 18) rfl))) (by decide) (backOf (W := 0) (rm4_2 l Z a0 hw [] r0 r1 ka c0 c1 cs h0 n0 Z0 E_r0 F_value F_coder g_r0 V_r1 ne_r0_r1 O_0 S_cs hcs hc0 hc1) hZ (hw _ (List.mem_of_getElem? (i := 18) rfl)) (hw _ (List.mem_of_getElem? (i := 11) rfl)) (by decide) (by decide)) (g := (mkF m 6 #[.val (.ref r0), .val (.ref r1)] [.null, (.int (2 : Int32)), (.int (0 : Int32)), (.ref r1), (.ref r0)])) rfl (by rw [hml]; rfl) (Steps.refl _) (a := r0) (argsL := [(.ref r1), (.int (0 : Int32)), (.int (2 : Int32)), .null]) (rest := []) (lenOf pd_285bCIILjava2flang2fVoid3b29V rfl) rfl (by show 2 * 0 + _ ≤ _; exact Nat.le_of_eq rfl) (hb hby d3_6) (fun _ _ => ⟨rfl, e0, (by decide : 0 + 1 ≤ _), (by decide : 0 + 2 ≤ _)⟩)
  dsimp only [Pt.U, Pt.locs, Pt.cells, Pt.slots] at X2 l2 y2 z2 st2 hQ2
  subst l2 y2 z2
  obtain ⟨rfl, N2q, KK2, b2, kb2, gb2, FC2, FV2, VB2⟩ := hQ2
  obtain ⟨h2, e2⟩ : ∃ z, T2.heap = z := ⟨_, rfl⟩
  rw [e2] at KK2 FC2 FV2 VB2
  have E_r0_at2 : Exa Z h2 r0 "java/lang/String" := E_r0.keep KK2
  have O_0_at2 : Old Z n0 h2 := O_0.keep KK2 (allS g_r0 all0)
  have V_r1_at2 : Arv Z h2 r1 ka .char (2 : Int32) [(.int c0), (.int c1)] (.int (0 : Int32)) := V_r1.keep KK2 (ninS (Ne.symm ne_r0_r1) nin0)
  have K2 : Keep h0 h2 [r0] := K0.trans KK2 (allS (Or.inl (List.mem_of_getElem? (i := 0) rfl)) all0)
  have Z2 : n0 ≤ h2.size := Nat.le_trans Z0 KK2.1
  have ne_r0_b2 : r0 ≠ b2 := Nat.ne_of_lt (Nat.lt_of_lt_of_le E_r0.lt gb2)
  have ne_r1_b2 : r1 ≠ b2 := Nat.ne_of_lt (Nat.lt_of_lt_of_le V_r1.lt gb2)
  have g_b2 : n0 ≤ b2 := Nat.le_trans Z0 gb2
  have sz_b2 : h0.size ≤ b2 := Nat.le_trans K0.1 gb2
  have N2 := Fr.app N0 N2q
  obtain ⟨fs, hr, hrun, hended, hW, hsame⟩ := X2.leave (v := none) (fun _ => rfl)
  refine ⟨_, _, pre0 _ ?_, hrun, hended, _, _, rfl, ?_, ⟨_, rfl⟩, hW, hsame.mono (by decide) (by decide)⟩
  · show Steps p.tables e below (s₁.setTop (mkF m 0 #[.val (.ref r0), .val (.ref r1)] [])) _
    refine XS.aloadN X0.here hx rfl (hb hby d3_0) rfl rfl ?_
    refine XS.aloadN X0.here hx rfl (hb hby d3_1) rfl rfl ?_
    refine XS.iconst X0.here hx rfl (hb hby d3_2) ?_
    refine XS.aloadN X0.here hx rfl (hb hby d3_3) rfl rfl ?_
    show Steps p.tables e below (s₁.setTop (mkF m 4 #[.val (.ref r0), .val (.ref r1)] [(.ref r1), (.int (0 : Int32)), (.ref r1), (.ref r0)])) _
    refine X0.arraylength hx (by rw [e0]; exact Ar_4_1.1) (State.isArrayOf_alike hZ.alike Ar_4_1.2.1) (g := (mkF m 4 #[.val (.ref r0), .val (.ref r1)] [(.ref r1), (.int (0 : Int32)), (.ref r1), (.ref r0)])) rfl rfl (hb hby d3_4) _ ?_
    rw [len_of S_4_1 M_4_1]
    show Steps p.tables e below (s₁.setTop (mkF m 5 #[.val (.ref r0), .val (.ref r1)] [(.int (2 : Int32)), (.int (0 : Int32)), (.ref r1), (.ref r0)])) _
    refine XS.aconstNull X0.here hx rfl (hb hby d3_5) ?_
    show Steps p.tables e below (s₁.setTop (mkF m 6 #[.val (.ref r0), .val (.ref r1)] [.null, (.int (2 : Int32)), (.int (0 : Int32)), (.ref r1), (.ref r0)])) _
    refine st2.trans ?_
    show Steps p.tables e below (T2.setTop (mkF m 9 #[.val (.ref r0), .val (.ref r1)] [])) _
    exact X2.returnOut hx Bd.returns (hb hby d3_9) hr
  · show Q3_2 Z r0 r1 ka c0 c1 cs h0 n0 _ T2.heap _
    rw [e2]
    exact ⟨rfl, N2, K2, b2, _, sz_b2, FC2, FV2, VB2⟩
theorem ef_14_3 (m : MethodId) (x0 : Addr) (x1 : Int32) (x2 : Addr) (x3 : Int32) (x4 : Int32) : entryFrame m #[(.ref x0), (.int x1), (.ref x2), (.int x3), (.int x4)] 7 = mkF m 0 #[.val (.ref x0), .val (.int x1), .val (.ref x2), .val (.int x3), .val (.int x4), .unset, .unset] [] := by first | (simp [entryFrame, mkF, argsToLocals, Value.category]; done) | rfl
def Q14_3 (Z : State) (r0 : Addr) (r2 : Addr) (ka kb : ClassId) (c0 c1 c2 : Int32) (h0 : Heap) (n0 : Nat) (v : Option Value) (h : Heap) (L : List Loc) : Prop := v = some (.int (3 : Int32)) ∧ Fr n0 L ∧ Keep h0 h [r2] ∧ Arv Z h r2 kb .byte (3 : Int32) [(.int (own_by c0)), (.int (own_by c1)), (.int (own_by c2))] (.int (0 : Int32))
set_option maxRecDepth 65536 in
set_option maxHeartbeats 40000000 in
theorem rm14_3 (l : Launch) (Z : State) (a0 : Array Value) (hw : ∀ d ∈ tables_1, d.before a0 Z = true) (ws : List Jvm.Cond) (r0 : Addr) (r2 : Addr) (ka kb : ClassId) (c0 c1 c2 : Int32) (h0 : Heap) (n0 : Nat) (Z0 : n0 ≤ h0.size) (V_r0 : Arv Z h0 r0 ka .char (3 : Int32) [(.int c0), (.int c1), (.int c2)] (.int (0 : Int32))) (V_r2 : Arv Z h0 r2 kb .byte (3 : Int32) [(.int (0 : Int32)), (.int (0 : Int32)), (.int (0 : Int32))] (.int (0 : Int32))) (g_r2 : n0 ≤ r2) (ne_r0_r2 : r0 ≠ r2) (hc0 : own_ch c0) (hc1 : own_ch c1) (hc2 : own_ch c2) :
    MetFree l (⟨"java/lang/StringUTF16", "compress", "([CI[BII)I"⟩ : MethodName) (head1 (Jvm.Cond.code (⟨"java/lang/StringUTF16", "compress", "([CI[BII)I"⟩ : MethodName) jdk_52_method_21_code 7 (some .int) :: ws) ({ frames := 0, cells := 0, slots := 0, locals := 0 } : Room)) (fun a U => a = #[(.ref r0), (.int (0 : Int32)), (.ref r2), (.int (0 : Int32)), (.int (3 : Int32))] ∧ Z.Warmed39 U.vm ∧ U.heap = h0) (fun _ _ _ _ _ => True) (fun _ U o U' => ∃ v L, o = .returned v ∧ Q14_3 Z r0 r2 ka kb c0 c1 c2 h0 n0 v U'.heap L ∧ FrameEnd U o U' L ({ frames := 0, cells := 0, slots := 0, locals := 0 } : Room).cells ({ frames := 0, cells := 0, slots := 0, locals := 0 } : Room).slots) := by
  refine MetFree.of_bodySF (plainFor_of_name pn_java_lang_StringUTF16) hisR ?_
  intro p e s m args below meth c s₁ Bd hml0 hP hK
  obtain ⟨rfl, hZ, hh⟩ := hP
  have hx := Bd.exec
  have hby := Bd.bytes
  have hml : c.maxLocals = 7 := hml0
  have hown : s.vm.findClass "java/lang/StringUTF16" = some m.cls := findClass_of_methodNamed Bd.named
  have hnm := (name_of_methodNamed Bd.named Bd.method).1
  have X0 : Stand p l e ({ frames := 0, cells := 0, slots := 0, locals := 0 } : Room) s m #[(.ref r0), (.int (0 : Int32)), (.ref r2), (.int (0 : Int32)), (.int (3 : Int32))] below meth c s₁ [] 0 0 := Stand.of_body Bd
  have e0 : s₁.heap = h0 := by rw [← hh, Bd.state]; rfl
  have N0 := Fr.nil n0
  have pre0 : ∀ t, Steps p.tables e below (s₁.setTop (mkF m 0 #[.val (.ref r0), .val (.int (0 : Int32)), .val (.ref r2), .val (.int (0 : Int32)), .val (.int (3 : Int32)), .unset, .unset] [])) t → Steps p.tables e below (s₁.setTop (entryFrame m #[(.ref r0), (.int (0 : Int32)), (.ref r2), (.int (0 : Int32)), (.int (3 : Int32))] 7)) t := fun tt kt_ => castTop (ef_14_3 m r0 (0 : Int32) r2 (0 : Int32) (3 : Int32)) kt_
  have K0 : Keep h0 h0 [r2] := Keep.refl h0 [r2]
  obtain ⟨cl_12_1, Ar_12_1, -, S_12_1, M_12_1, H_12_1, -⟩ := id V_r0
  have hin12_1 : ¬ ((0 : Int32) < 0 ∨ cl_12_1.slots.size ≤ ((0 : Int32)).toNatClampNeg) := inb_of S_12_1 ⟨by decide, by decide⟩
  have hat12_1 : cl_12_1.slots[((0 : Int32)).toNatClampNeg]? = some (.int c0) := H_12_1.at hin12_1 rfl
  obtain ⟨cl_31_2, Ar_31_2, q_31_2, S_31_2, N_31_2, H_31_2, G_31_2⟩ := id V_r2
  have hin31_2 : ¬ ((0 : Int32) < 0 ∨ cl_31_2.slots.size ≤ ((0 : Int32)).toNatClampNeg) := inb_of S_31_2 ⟨by decide, by decide⟩
  obtain ⟨T3, h3, X3, e3, W3, st3⟩ := stB X0 hx hZ e0 Ar_31_2 (j := (0 : Int32)) hin31_2 (g := (mkF m 31 #[.val (.ref r0), .val (.int (0 : Int32)), .val (.ref r2), .val (.int (0 : Int32)), .val (.int (3 : Int32)), .val (.int (0 : Int32)), .val (.int c0)] [(.int (c0.toInt8.toInt32)), (.int (0 : Int32)), (.ref r2)])) rfl rfl (hb hby d14_31)
  rw [show nar .byte (c0.toInt8.toInt32) = own_by c0 from own_nn c0] at W3
  have V_r0_at3 : Arv Z h3 r0 ka .char (3 : Int32) [(.int c0), (.int c1), (.int c2)] (.int (0 : Int32)) := V_r0.other W3 ne_r0_r2
  have xV_r2_at3 := Arv.set Ar_31_2 q_31_2 S_31_2 N_31_2 H_31_2 G_31_2 (fits_nar_byte _) W3 0 rfl (Nat.le_of_ble_eq_true rfl)
  have V_r2_at3 : Arv Z h3 r2 kb .byte (3 : Int32) [(.int (own_by c0)), (.int (0 : Int32)), (.int (0 : Int32))] (.int (0 : Int32)) := xV_r2_at3
  have K3 : Keep h0 h3 [r2] := K0.wr W3 (Or.inl (List.mem_of_getElem? (i := 0) rfl))
  have Z3 : n0 ≤ h3.size := Nat.le_trans Z0 (Keep.of_wr W3).1
  have N3 := Fr.snoc X3 N0 g_r2
  obtain ⟨cl_12_4, Ar_12_4, -, S_12_4, M_12_4, H_12_4, -⟩ := id V_r0_at3
  have hin12_4 : ¬ ((1 : Int32) < 0 ∨ cl_12_4.slots.size ≤ ((1 : Int32)).toNatClampNeg) := inb_of S_12_4 ⟨by decide, by decide⟩
  have hat12_4 : cl_12_4.slots[((1 : Int32)).toNatClampNeg]? = some (.int c1) := H_12_4.at hin12_4 rfl
  obtain ⟨cl_31_5, Ar_31_5, q_31_5, S_31_5, N_31_5, H_31_5, G_31_5⟩ := id V_r2_at3
  have hin31_5 : ¬ ((1 : Int32) < 0 ∨ cl_31_5.slots.size ≤ ((1 : Int32)).toNatClampNeg) := inb_of S_31_5 ⟨by decide, by decide⟩
  obtain ⟨T6, h6, X6, e6, W6, st6⟩ := stB X3 hx hZ e3 Ar_31_5 (j := (1 : Int32)) hin31_5 (g := (mkF m 31 #[.val (.ref r0), .val (.int (1 : Int32)), .val (.ref r2), .val (.int (1 : Int32)), .val (.int (3 : Int32)), .val (.int (1 : Int32)), .val (.int c1)] [(.int (c1.toInt8.toInt32)), (.int (1 : Int32)), (.ref r2)])) rfl rfl (hb hby d14_31)
  rw [show nar .byte (c1.toInt8.toInt32) = own_by c1 from own_nn c1] at W6
  have V_r0_at6 : Arv Z h6 r0 ka .char (3 : Int32) [(.int c0), (.int c1), (.int c2)] (.int (0 : Int32)) := V_r0_at3.other W6 ne_r0_r2
  have xV_r2_at6 := Arv.set Ar_31_5 q_31_5 S_31_5 N_31_5 H_31_5 G_31_5 (fits_nar_byte _) W6 1 rfl (Nat.le_of_ble_eq_true rfl)
  have V_r2_at6 : Arv Z h6 r2 kb .byte (3 : Int32) [(.int (own_by c0)), (.int (own_by c1)), (.int (0 : Int32))] (.int (0 : Int32)) := xV_r2_at6
  have K6 : Keep h0 h6 [r2] := K3.wr W6 (Or.inl (List.mem_of_getElem? (i := 0) rfl))
  have Z6 : n0 ≤ h6.size := Nat.le_trans Z3 (Keep.of_wr W6).1
  have N6 := Fr.snoc X6 N3 g_r2
  obtain ⟨cl_12_7, Ar_12_7, -, S_12_7, M_12_7, H_12_7, -⟩ := id V_r0_at6
  have hin12_7 : ¬ ((2 : Int32) < 0 ∨ cl_12_7.slots.size ≤ ((2 : Int32)).toNatClampNeg) := inb_of S_12_7 ⟨by decide, by decide⟩
  have hat12_7 : cl_12_7.slots[((2 : Int32)).toNatClampNeg]? = some (.int c2) := H_12_7.at hin12_7 rfl
  obtain ⟨cl_31_8, Ar_31_8, q_31_8, S_31_8, N_31_8, H_31_8, G_31_8⟩ := id V_r2_at6
  have hin31_8 : ¬ ((2 : Int32) < 0 ∨ cl_31_8.slots.size ≤ ((2 : Int32)).toNatClampNeg) := inb_of S_31_8 ⟨by decide, by decide⟩
  obtain ⟨T9, h9, X9, e9, W9, st9⟩ := stB X6 hx hZ e6 Ar_31_8 (j := (2 : Int32)) hin31_8 (g := (mkF m 31 #[.val (.ref r0), .val (.int (2 : Int32)), .val (.ref r2), .val (.int (2 : Int32)), .val (.int (3 : Int32)), .val (.int (2 : Int32)), .val (.int c2)] [(.int (c2.toInt8.toInt32)), (.int (2 : Int32)), (.ref r2)])) rfl rfl (hb hby d14_31)
  rw [show nar .byte (c2.toInt8.toInt32) = own_by c2 from own_nn c2] at W9
  have V_r0_at9 : Arv Z h9 r0 ka .char (3 : Int32) [(.int c0), (.int c1), (.int c2)] (.int (0 : Int32)) := V_r0_at6.other W9 ne_r0_r2
  have xV_r2_at9 := Arv.set Ar_31_8 q_31_8 S_31_8 N_31_8 H_31_8 G_31_8 (fits_nar_byte _) W9 2 rfl (Nat.le_of_ble_eq_true rfl)
  have V_r2_at9 : Arv Z h9 r2 kb .byte (3 : Int32) [(.int (own_by c0)), (.int (own_by c1)), (.int (own_by c2))] (.int (0 : Int32)) := xV_r2_at9
  have K9 : Keep h0 h9 [r2] := K6.wr W9 (Or.inl (List.mem_of_getElem? (i := 0) rfl))
  have Z9 : n0 ≤ h9.size := Nat.le_trans Z6 (Keep.of_wr W9).1
  have N9 := Fr.snoc X9 N6 g_r2
  obtain ⟨fs, hr, hrun, hended, hW, hsame⟩ := X9.leave (v := some (.int (3 : Int32))) (fun h => by rw [Bd.returns] at h; cases h)
  refine ⟨_, _, pre0 _ ?_, hrun, hended, _, _, rfl, ?_, ⟨_, rfl⟩, hW, hsame.mono (by decide) (by decide)⟩
  · show Steps p.tables e below (s₁.setTop (mkF m 0 #[.val (.ref r0), .val (.int (0 : Int32)), .val (.ref r2), .val (.int (0 : Int32)), .val (.int (3 : Int32)), .unset, .unset] [])) _
    refine XS.iconst X0.here hx rfl (hb hby d14_0) ?_
    show Steps p.tables e below (s₁.setTop (mkF m 1 #[.val (.ref r0), .val (.int (0 : Int32)), .val (.ref r2), .val (.int (0 : Int32)), .val (.int (3 : Int32)), .unset, .unset] [(.int (0 : Int32))])) _
    refine XS.istore X0.here hx rfl (hb hby d14_1) rfl (l' := #[.val (.ref r0), .val (.int (0 : Int32)), .val (.ref r2), .val (.int (0 : Int32)), .val (.int (3 : Int32)), .val (.int (0 : Int32)), .unset]) rfl ?_
    refine XS.iload X0.here hx rfl (hb hby d14_3) rfl ?_
    refine XS.iload X0.here hx rfl (hb hby d14_5) rfl ?_
    show Steps p.tables e below (s₁.setTop (mkF m 7 #[.val (.ref r0), .val (.int (0 : Int32)), .val (.ref r2), .val (.int (0 : Int32)), .val (.int (3 : Int32)), .val (.int (0 : Int32)), .unset] [(.int (3 : Int32)), (.int (0 : Int32))])) _
    refine XS.icmpNo X0.here hx rfl (hb hby d14_7) rfl (tlt (by decide : (0 : Int32) < (3 : Int32))).2.1 ?_
    refine XS.aloadN X0.here hx rfl (hb hby d14_10) rfl rfl ?_
    refine XS.iloadN X0.here hx rfl (hb hby d14_11) rfl ?_
    show Steps p.tables e below (s₁.setTop (mkF m 12 #[.val (.ref r0), .val (.int (0 : Int32)), .val (.ref r2), .val (.int (0 : Int32)), .val (.int (3 : Int32)), .val (.int (0 : Int32)), .unset] [(.int (0 : Int32)), (.ref r0)])) _
    refine X0.caload hx (j := (0 : Int32)) (v := (.int c0)) (by rw [e0]; exact Ar_12_1.1) (State.isArrayOf_alike hZ.alike Ar_12_1.2.1) Ar_12_1.2.2 hin12_1 hat12_1 (g := (mkF m 12 #[.val (.ref r0), .val (.int (0 : Int32)), .val (.ref r2), .val (.int (0 : Int32)), .val (.int (3 : Int32)), .val (.int (0 : Int32)), .unset] [(.int (0 : Int32)), (.ref r0)])) rfl rfl (hb hby d14_12) _ ?_
    show Steps p.tables e below (s₁.setTop (mkF m 13 #[.val (.ref r0), .val (.int (0 : Int32)), .val (.ref r2), .val (.int (0 : Int32)), .val (.int (3 : Int32)), .val (.int (0 : Int32)), .unset] [(.int c0)])) _
    refine XS.istore X0.here hx rfl (hb hby d14_13) rfl (l' := #[.val (.ref r0), .val (.int (0 : Int32)), .val (.ref r2), .val (.int (0 : Int32)), .val (.int (3 : Int32)), .val (.int (0 : Int32)), .val (.int c0)]) rfl ?_
    refine XS.iload X0.here hx rfl (hb hby d14_15) rfl ?_
    refine XS.sipush X0.here hx rfl (hb hby d14_17) ?_
    show Steps p.tables e below (s₁.setTop (mkF m 20 #[.val (.ref r0), .val (.int (0 : Int32)), .val (.ref r2), .val (.int (0 : Int32)), .val (.int (3 : Int32)), .val (.int (0 : Int32)), .val (.int c0)] [(.int (255 : Int32)), (.int c0)])) _
    refine XS.icmpYes X0.here hx rfl (pc0 := 20) (pc' := 26) rfl (hb hby d14_20) rfl (flt (own_le hc0)).2.2.2 (by decide) (by decide) ?_
    refine XS.aloadN X0.here hx rfl (hb hby d14_26) rfl rfl ?_
    refine XS.iloadN X0.here hx rfl (hb hby d14_27) rfl ?_
    refine XS.iload X0.here hx rfl (hb hby d14_28) rfl ?_
    show Steps p.tables e below (s₁.setTop (mkF m 30 #[.val (.ref r0), .val (.int (0 : Int32)), .val (.ref r2), .val (.int (0 : Int32)), .val (.int (3 : Int32)), .val (.int (0 : Int32)), .val (.int c0)] [(.int c0), (.int (0 : Int32)), (.ref r2)])) _
    refine XS.i2b X0.here hx rfl (hb hby d14_30) rfl ?_
    show Steps p.tables e below (s₁.setTop (mkF m 31 #[.val (.ref r0), .val (.int (0 : Int32)), .val (.ref r2), .val (.int (0 : Int32)), .val (.int (3 : Int32)), .val (.int (0 : Int32)), .val (.int c0)] [(.int (c0.toInt8.toInt32)), (.int (0 : Int32)), (.ref r2)])) _
    refine st3 _ ?_
    show Steps p.tables e below (T3.setTop (mkF m 32 #[.val (.ref r0), .val (.int (0 : Int32)), .val (.ref r2), .val (.int (0 : Int32)), .val (.int (3 : Int32)), .val (.int (0 : Int32)), .val (.int c0)] [])) _
    refine XS.iinc X3.here hx rfl (hb hby d14_32) rfl (l' := #[.val (.ref r0), .val (.int (1 : Int32)), .val (.ref r2), .val (.int (0 : Int32)), .val (.int (3 : Int32)), .val (.int (0 : Int32)), .val (.int c0)]) rfl ?_
    show Steps p.tables e below (T3.setTop (mkF m 35 #[.val (.ref r0), .val (.int (1 : Int32)), .val (.ref r2), .val (.int (0 : Int32)), .val (.int (3 : Int32)), .val (.int (0 : Int32)), .val (.int c0)] [])) _
    refine XS.iinc X3.here hx rfl (hb hby d14_35) rfl (l' := #[.val (.ref r0), .val (.int (1 : Int32)), .val (.ref r2), .val (.int (1 : Int32)), .val (.int (3 : Int32)), .val (.int (0 : Int32)), .val (.int c0)]) rfl ?_
    show Steps p.tables e below (T3.setTop (mkF m 38 #[.val (.ref r0), .val (.int (1 : Int32)), .val (.ref r2), .val (.int (1 : Int32)), .val (.int (3 : Int32)), .val (.int (0 : Int32)), .val (.int c0)] [])) _
    refine XS.iinc X3.here hx rfl (hb hby d14_38) rfl (l' := #[.val (.ref r0), .val (.int (1 : Int32)), .val (.ref r2), .val (.int (1 : Int32)), .val (.int (3 : Int32)), .val (.int (1 : Int32)), .val (.int c0)]) rfl ?_
    show Steps p.tables e below (T3.setTop (mkF m 41 #[.val (.ref r0), .val (.int (1 : Int32)), .val (.ref r2), .val (.int (1 : Int32)), .val (.int (3 : Int32)), .val (.int (1 : Int32)), .val (.int c0)] [])) _
    refine XS.goto X3.here hx rfl (pc0 := 41) (pc' := 3) rfl (hb hby d14_41) (by decide) (by decide) ?_
    refine XS.iload X3.here hx rfl (hb hby d14_3) rfl ?_
    refine XS.iload X3.here hx rfl (hb hby d14_5) rfl ?_
    show Steps p.tables e below (T3.setTop (mkF m 7 #[.val (.ref r0), .val (.int (1 : Int32)), .val (.ref r2), .val (.int (1 : Int32)), .val (.int (3 : Int32)), .val (.int (1 : Int32)), .val (.int c0)] [(.int (3 : Int32)), (.int (1 : Int32))])) _
    refine XS.icmpNo X3.here hx rfl (hb hby d14_7) rfl (tlt (by decide : (1 : Int32) < (3 : Int32))).2.1 ?_
    refine XS.aloadN X3.here hx rfl (hb hby d14_10) rfl rfl ?_
    refine XS.iloadN X3.here hx rfl (hb hby d14_11) rfl ?_
    show Steps p.tables e below (T3.setTop (mkF m 12 #[.val (.ref r0), .val (.int (1 : Int32)), .val (.ref r2), .val (.int (1 : Int32)), .val (.int (3 : Int32)), .val (.int (1 : Int32)), .val (.int c0)] [(.int (1 : Int32)), (.ref r0)])) _
    refine X3.caload hx (j := (1 : Int32)) (v := (.int c1)) (by rw [e3]; exact Ar_12_4.1) (State.isArrayOf_alike hZ.alike Ar_12_4.2.1) Ar_12_4.2.2 hin12_4 hat12_4 (g := (mkF m 12 #[.val (.ref r0), .val (.int (1 : Int32)), .val (.ref r2), .val (.int (1 : Int32)), .val (.int (3 : Int32)), .val (.int (1 : Int32)), .val (.int c0)] [(.int (1 : Int32)), (.ref r0)])) rfl rfl (hb hby d14_12) _ ?_
    show Steps p.tables e below (T3.setTop (mkF m 13 #[.val (.ref r0), .val (.int (1 : Int32)), .val (.ref r2), .val (.int (1 : Int32)), .val (.int (3 : Int32)), .val (.int (1 : Int32)), .val (.int c0)] [(.int c1)])) _
    refine XS.istore X3.here hx rfl (hb hby d14_13) rfl (l' := #[.val (.ref r0), .val (.int (1 : Int32)), .val (.ref r2), .val (.int (1 : Int32)), .val (.int (3 : Int32)), .val (.int (1 : Int32)), .val (.int c1)]) rfl ?_
    refine XS.iload X3.here hx rfl (hb hby d14_15) rfl ?_
    refine XS.sipush X3.here hx rfl (hb hby d14_17) ?_
    show Steps p.tables e below (T3.setTop (mkF m 20 #[.val (.ref r0), .val (.int (1 : Int32)), .val (.ref r2), .val (.int (1 : Int32)), .val (.int (3 : Int32)), .val (.int (1 : Int32)), .val (.int c1)] [(.int (255 : Int32)), (.int c1)])) _
    refine XS.icmpYes X3.here hx rfl (pc0 := 20) (pc' := 26) rfl (hb hby d14_20) rfl (flt (own_le hc1)).2.2.2 (by decide) (by decide) ?_
    refine XS.aloadN X3.here hx rfl (hb hby d14_26) rfl rfl ?_
    refine XS.iloadN X3.here hx rfl (hb hby d14_27) rfl ?_
    refine XS.iload X3.here hx rfl (hb hby d14_28) rfl ?_
    show Steps p.tables e below (T3.setTop (mkF m 30 #[.val (.ref r0), .val (.int (1 : Int32)), .val (.ref r2), .val (.int (1 : Int32)), .val (.int (3 : Int32)), .val (.int (1 : Int32)), .val (.int c1)] [(.int c1), (.int (1 : Int32)), (.ref r2)])) _
    refine XS.i2b X3.here hx rfl (hb hby d14_30) rfl ?_
    show Steps p.tables e below (T3.setTop (mkF m 31 #[.val (.ref r0), .val (.int (1 : Int32)), .val (.ref r2), .val (.int (1 : Int32)), .val (.int (3 : Int32)), .val (.int (1 : Int32)), .val (.int c1)] [(.int (c1.toInt8.toInt32)), (.int (1 : Int32)), (.ref r2)])) _
    refine st6 _ ?_
    show Steps p.tables e below (T6.setTop (mkF m 32 #[.val (.ref r0), .val (.int (1 : Int32)), .val (.ref r2), .val (.int (1 : Int32)), .val (.int (3 : Int32)), .val (.int (1 : Int32)), .val (.int c1)] [])) _
    refine XS.iinc X6.here hx rfl (hb hby d14_32) rfl (l' := #[.val (.ref r0), .val (.int (2 : Int32)), .val (.ref r2), .val (.int (1 : Int32)), .val (.int (3 : Int32)), .val (.int (1 : Int32)), .val (.int c1)]) rfl ?_
    show Steps p.tables e below (T6.setTop (mkF m 35 #[.val (.ref r0), .val (.int (2 : Int32)), .val (.ref r2), .val (.int (1 : Int32)), .val (.int (3 : Int32)), .val (.int (1 : Int32)), .val (.int c1)] [])) _
    refine XS.iinc X6.here hx rfl (hb hby d14_35) rfl (l' := #[.val (.ref r0), .val (.int (2 : Int32)), .val (.ref r2), .val (.int (2 : Int32)), .val (.int (3 : Int32)), .val (.int (1 : Int32)), .val (.int c1)]) rfl ?_
    show Steps p.tables e below (T6.setTop (mkF m 38 #[.val (.ref r0), .val (.int (2 : Int32)), .val (.ref r2), .val (.int (2 : Int32)), .val (.int (3 : Int32)), .val (.int (1 : Int32)), .val (.int c1)] [])) _
    refine XS.iinc X6.here hx rfl (hb hby d14_38) rfl (l' := #[.val (.ref r0), .val (.int (2 : Int32)), .val (.ref r2), .val (.int (2 : Int32)), .val (.int (3 : Int32)), .val (.int (2 : Int32)), .val (.int c1)]) rfl ?_
    show Steps p.tables e below (T6.setTop (mkF m 41 #[.val (.ref r0), .val (.int (2 : Int32)), .val (.ref r2), .val (.int (2 : Int32)), .val (.int (3 : Int32)), .val (.int (2 : Int32)), .val (.int c1)] [])) _
    refine XS.goto X6.here hx rfl (pc0 := 41) (pc' := 3) rfl (hb hby d14_41) (by decide) (by decide) ?_
    refine XS.iload X6.here hx rfl (hb hby d14_3) rfl ?_
    refine XS.iload X6.here hx rfl (hb hby d14_5) rfl ?_
    show Steps p.tables e below (T6.setTop (mkF m 7 #[.val (.ref r0), .val (.int (2 : Int32)), .val (.ref r2), .val (.int (2 : Int32)), .val (.int (3 : Int32)), .val (.int (2 : Int32)), .val (.int c1)] [(.int (3 : Int32)), (.int (2 : Int32))])) _
    refine XS.icmpNo X6.here hx rfl (hb hby d14_7) rfl (tlt (by decide : (2 : Int32) < (3 : Int32))).2.1 ?_
    refine XS.aloadN X6.here hx rfl (hb hby d14_10) rfl rfl ?_
    refine XS.iloadN X6.here hx rfl (hb hby d14_11) rfl ?_
    show Steps p.tables e below (T6.setTop (mkF m 12 #[.val (.ref r0), .val (.int (2 : Int32)), .val (.ref r2), .val (.int (2 : Int32)), .val (.int (3 : Int32)), .val (.int (2 : Int32)), .val (.int c1)] [(.int (2 : Int32)), (.ref r0)])) _
    refine X6.caload hx (j := (2 : Int32)) (v := (.int c2)) (by rw [e6]; exact Ar_12_7.1) (State.isArrayOf_alike hZ.alike Ar_12_7.2.1) Ar_12_7.2.2 hin12_7 hat12_7 (g := (mkF m 12 #[.val (.ref r0), .val (.int (2 : Int32)), .val (.ref r2), .val (.int (2 : Int32)), .val (.int (3 : Int32)), .val (.int (2 : Int32)), .val (.int c1)] [(.int (2 : Int32)), (.ref r0)])) rfl rfl (hb hby d14_12) _ ?_
    show Steps p.tables e below (T6.setTop (mkF m 13 #[.val (.ref r0), .val (.int (2 : Int32)), .val (.ref r2), .val (.int (2 : Int32)), .val (.int (3 : Int32)), .val (.int (2 : Int32)), .val (.int c1)] [(.int c2)])) _
    refine XS.istore X6.here hx rfl (hb hby d14_13) rfl (l' := #[.val (.ref r0), .val (.int (2 : Int32)), .val (.ref r2), .val (.int (2 : Int32)), .val (.int (3 : Int32)), .val (.int (2 : Int32)), .val (.int c2)]) rfl ?_
    refine XS.iload X6.here hx rfl (hb hby d14_15) rfl ?_
    refine XS.sipush X6.here hx rfl (hb hby d14_17) ?_
    show Steps p.tables e below (T6.setTop (mkF m 20 #[.val (.ref r0), .val (.int (2 : Int32)), .val (.ref r2), .val (.int (2 : Int32)), .val (.int (3 : Int32)), .val (.int (2 : Int32)), .val (.int c2)] [(.int (255 : Int32)), (.int c2)])) _
    refine XS.icmpYes X6.here hx rfl (pc0 := 20) (pc' := 26) rfl (hb hby d14_20) rfl (flt (own_le hc2)).2.2.2 (by decide) (by decide) ?_
    refine XS.aloadN X6.here hx rfl (hb hby d14_26) rfl rfl ?_
    refine XS.iloadN X6.here hx rfl (hb hby d14_27) rfl ?_
    refine XS.iload X6.here hx rfl (hb hby d14_28) rfl ?_
    show Steps p.tables e below (T6.setTop (mkF m 30 #[.val (.ref r0), .val (.int (2 : Int32)), .val (.ref r2), .val (.int (2 : Int32)), .val (.int (3 : Int32)), .val (.int (2 : Int32)), .val (.int c2)] [(.int c2), (.int (2 : Int32)), (.ref r2)])) _
    refine XS.i2b X6.here hx rfl (hb hby d14_30) rfl ?_
    show Steps p.tables e below (T6.setTop (mkF m 31 #[.val (.ref r0), .val (.int (2 : Int32)), .val (.ref r2), .val (.int (2 : Int32)), .val (.int (3 : Int32)), .val (.int (2 : Int32)), .val (.int c2)] [(.int (c2.toInt8.toInt32)), (.int (2 : Int32)), (.ref r2)])) _
    refine st9 _ ?_
    show Steps p.tables e below (T9.setTop (mkF m 32 #[.val (.ref r0), .val (.int (2 : Int32)), .val (.ref r2), .val (.int (2 : Int32)), .val (.int (3 : Int32)), .val (.int (2 : Int32)), .val (.int c2)] [])) _
    refine XS.iinc X9.here hx rfl (hb hby d14_32) rfl (l' := #[.val (.ref r0), .val (.int (3 : Int32)), .val (.ref r2), .val (.int (2 : Int32)), .val (.int (3 : Int32)), .val (.int (2 : Int32)), .val (.int c2)]) rfl ?_
    show Steps p.tables e below (T9.setTop (mkF m 35 #[.val (.ref r0), .val (.int (3 : Int32)), .val (.ref r2), .val (.int (2 : Int32)), .val (.int (3 : Int32)), .val (.int (2 : Int32)), .val (.int c2)] [])) _
    refine XS.iinc X9.here hx rfl (hb hby d14_35) rfl (l' := #[.val (.ref r0), .val (.int (3 : Int32)), .val (.ref r2), .val (.int (3 : Int32)), .val (.int (3 : Int32)), .val (.int (2 : Int32)), .val (.int c2)]) rfl ?_
    show Steps p.tables e below (T9.setTop (mkF m 38 #[.val (.ref r0), .val (.int (3 : Int32)), .val (.ref r2), .val (.int (3 : Int32)), .val (.int (3 : Int32)), .val (.int (2 : Int32)), .val (.int c2)] [])) _
    refine XS.iinc X9.here hx rfl (hb hby d14_38) rfl (l' := #[.val (.ref r0), .val (.int (3 : Int32)), .val (.ref r2), .val (.int (3 : Int32)), .val (.int (3 : Int32)), .val (.int (3 : Int32)), .val (.int c2)]) rfl ?_
    show Steps p.tables e below (T9.setTop (mkF m 41 #[.val (.ref r0), .val (.int (3 : Int32)), .val (.ref r2), .val (.int (3 : Int32)), .val (.int (3 : Int32)), .val (.int (3 : Int32)), .val (.int c2)] [])) _
    refine XS.goto X9.here hx rfl (pc0 := 41) (pc' := 3) rfl (hb hby d14_41) (by decide) (by decide) ?_
    refine XS.iload X9.here hx rfl (hb hby d14_3) rfl ?_
    refine XS.iload X9.here hx rfl (hb hby d14_5) rfl ?_
    show Steps p.tables e below (T9.setTop (mkF m 7 #[.val (.ref r0), .val (.int (3 : Int32)), .val (.ref r2), .val (.int (3 : Int32)), .val (.int (3 : Int32)), .val (.int (3 : Int32)), .val (.int c2)] [(.int (3 : Int32)), (.int (3 : Int32))])) _
    refine XS.icmpYes X9.here hx rfl (pc0 := 7) (pc' := 44) rfl (hb hby d14_7) rfl (flt (by decide : ¬ ((3 : Int32) < (3 : Int32)))).2.1 (by decide) (by decide) ?_
    refine XS.iload X9.here hx rfl (hb hby d14_44) rfl ?_
    show Steps p.tables e below (T9.setTop (mkF m 46 #[.val (.ref r0), .val (.int (3 : Int32)), .val (.ref r2), .val (.int (3 : Int32)), .val (.int (3 : Int32)), .val (.int (3 : Int32)), .val (.int c2)] [(.int (3 : Int32))])) _
    exact retI X9 hx Bd.returns (hb hby d14_46) hr
  · show Q14_3 Z r0 r2 ka kb c0 c1 c2 h0 n0 _ T9.heap _
    rw [e9]
    exact ⟨rfl, N9, K9, V_r2_at9⟩
theorem ef_13_3 (m : MethodId) (x0 : Addr) (x1 : Int32) (x2 : Int32) : entryFrame m #[(.ref x0), (.int x1), (.int x2)] 6 = mkF m 0 #[.val (.ref x0), .val (.int x1), .val (.int x2), .unset, .unset, .unset] [] := by first | (simp [entryFrame, mkF, argsToLocals, Value.category]; done) | rfl
def Q13_3 (Z : State) (r0 : Addr) (ka : ClassId) (c0 c1 c2 : Int32) (h0 : Heap) (n0 : Nat) (v : Option Value) (h : Heap) (L : List Loc) : Prop := ∃ (b : Addr) (kb : ClassId), v = some (.ref b) ∧ Fr n0 L ∧ Keep h0 h [] ∧ h0.size ≤ b ∧ Arv Z h b kb .byte (3 : Int32) [(.int (own_by c0)), (.int (own_by c1)), (.int (own_by c2))] (.int (0 : Int32))
set_option maxRecDepth 65536 in
set_option maxHeartbeats 40000000 in
theorem rm13_3 (l : Launch) (Z : State) (a0 : Array Value) (hw : ∀ d ∈ tables_1, d.before a0 Z = true) (ws : List Jvm.Cond) (r0 : Addr) (ka : ClassId) (c0 c1 c2 : Int32) (h0 : Heap) (n0 : Nat) (Z0 : n0 ≤ h0.size) (V_r0 : Arv Z h0 r0 ka .char (3 : Int32) [(.int c0), (.int c1), (.int c2)] (.int (0 : Int32))) (hc0 : own_ch c0) (hc1 : own_ch c1) (hc2 : own_ch c2) :
    MetFree l (⟨"java/lang/StringUTF16", "compress", "([CII)[B"⟩ : MethodName) (head1 (Jvm.Cond.code (⟨"java/lang/StringUTF16", "compress", "([CII)[B"⟩ : MethodName) jdk_52_method_16_code 6 (some (.array .byte)) :: ws) ({ frames := 1, cells := 1, slots := 3, locals := 18 } : Room)) (fun a U => a = #[(.ref r0), (.int (0 : Int32)), (.int (3 : Int32))] ∧ Z.Warmed39 U.vm ∧ U.heap = h0) (fun _ _ _ _ _ => True) (fun _ U o U' => ∃ v L, o = .returned v ∧ Q13_3 Z r0 ka c0 c1 c2 h0 n0 v U'.heap L ∧ FrameEnd U o U' L ({ frames := 1, cells := 1, slots := 3, locals := 18 } : Room).cells ({ frames := 1, cells := 1, slots := 3, locals := 18 } : Room).slots) := by
  refine MetFree.of_bodySF (plainFor_of_name pn_java_lang_StringUTF16) hisR ?_
  intro p e s m args below meth c s₁ Bd hml0 hP hK
  obtain ⟨rfl, hZ, hh⟩ := hP
  have hx := Bd.exec
  have hby := Bd.bytes
  have hml : c.maxLocals = 6 := hml0
  have hown : s.vm.findClass "java/lang/StringUTF16" = some m.cls := findClass_of_methodNamed Bd.named
  have hnm := (name_of_methodNamed Bd.named Bd.method).1
  have X0 : Stand p l e ({ frames := 1, cells := 1, slots := 3, locals := 18 } : Room) s m #[(.ref r0), (.int (0 : Int32)), (.int (3 : Int32))] below meth c s₁ [] 0 0 := Stand.of_body Bd
  have e0 : s₁.heap = h0 := by rw [← hh, Bd.state]; rfl
  have N0 := Fr.nil n0
  have pre0 : ∀ t, Steps p.tables e below (s₁.setTop (mkF m 0 #[.val (.ref r0), .val (.int (0 : Int32)), .val (.int (3 : Int32)), .unset, .unset, .unset] [])) t → Steps p.tables e below (s₁.setTop (entryFrame m #[(.ref r0), (.int (0 : Int32)), (.int (3 : Int32))] 6)) t := fun tt kt_ => castTop (ef_13_3 m r0 (0 : Int32) (3 : Int32)) kt_
  have K0 : Keep h0 h0 [] := Keep.refl h0 []
  obtain ⟨T1, h1, k1, X1, e1, E1, A1, st1⟩ := newP X0 hx hZ (hw _ (List.mem_of_getElem? (i := 23) rfl)) e0 (g := (mkF m 1 #[.val (.ref r0), .val (.int (0 : Int32)), .val (.int (3 : Int32)), .unset, .unset, .unset] [(.int (3 : Int32))])) rfl (hb hby d13_1) rfl (by decide) (cap := 3) (by decide) (by decide) (by decide) (by decide)
  obtain ⟨b1, g1⟩ : ∃ z, z = h0.size := ⟨_, rfl⟩
  rw [← g1] at A1 st1
  have g_b1 : n0 ≤ b1 := Nat.le_trans Z0 (Nat.le_of_eq g1.symm)
  have sz_b1 : h0.size ≤ b1 := Nat.le_trans K0.1 (Nat.le_of_eq g1.symm)
  have ne_r0_b1 : r0 ≠ b1 := Nat.ne_of_lt (Nat.lt_of_lt_of_le V_r0.lt (Nat.le_of_eq g1.symm))
  have V_r0_at1 : Arv Z h1 r0 ka .char (3 : Int32) [(.int c0), (.int c1), (.int c2)] (.int (0 : Int32)) := V_r0.ext E1
  have K1 : Keep h0 h1 [] := K0.ext E1
  have Z1 : n0 ≤ h1.size := Nat.le_trans Z0 E1.1
  have xV_b1_at1 := (Arv.new A1 (by decide)).pad (pad_rep [] (.int (0 : Int32)) 3)
  have V_b1_at1 : Arv Z h1 b1 k1 .byte (3 : Int32) [(.int (0 : Int32)), (.int (0 : Int32)), (.int (0 : Int32))] (.int (0 : Int32)) := xV_b1_at1
  obtain ⟨_, _, ⟨T2, L2, k2, n2⟩, -, X2, ⟨Lc2, hQ2, l2, y2, z2⟩, st2⟩ := Jvm.LawKit.callS X1 hx (y := (⟨"java/lang/StringUTF16", "compress", "([CI[BII)I"⟩ : MethodName)) hown (mvT hZ (hw _ (List.mem_of_getElem? (i := 68) rfl))) (mvT hZ (hw _ (List.mem_of_getElem? (i := 69) rfl))) (mvT hZ (hw _ (List.mem_of_getElem? (i := 66) rfl))) (mvT hZ (hw _ (List.mem_of_getElem? (i := 70) rfl))) (by decide) (backOf (W := 0) (rm14_3 l Z a0 hw [] r0 b1 ka k1 c0 c1 c2 h1 n0 Z1 V_r0_at1 V_b1_at1 g_b1 ne_r0_b1 hc0 hc1 hc2) hZ (hw _ (List.mem_of_getElem? (i := 70) rfl)) (hw _ (List.mem_of_getElem? (i := 66) rfl)) (by decide) (by decide)) (g := (mkF m 9 #[.val (.ref r0), .val (.int (0 : Int32)), .val (.int (3 : Int32)), .val (.ref b1), .unset, .unset] [(.int (3 : Int32)), (.int (0 : Int32)), (.ref b1), (.int (0 : Int32)), (.ref r0)])) rfl (by rw [hml]; rfl) (argsL := [(.ref r0), (.int (0 : Int32)), (.ref b1), (.int (0 : Int32)), (.int (3 : Int32))]) (rest := []) (lenOf pd_285bCI5bBII29I rfl) rfl (by show 2 * 0 + _ ≤ _; exact Nat.le_of_eq rfl) (hb hby d13_9) (fun _ _ => ⟨rfl, e1, (by decide : 1 + 0 ≤ _), (by decide : 3 + 0 ≤ _)⟩)
  dsimp only [Pt.U, Pt.locs, Pt.cells, Pt.slots] at X2 l2 y2 z2 st2 hQ2
  subst l2 y2 z2
  obtain ⟨rfl, N2q, KK2, VB2⟩ := hQ2
  obtain ⟨h2, e2⟩ : ∃ z, T2.heap = z := ⟨_, rfl⟩
  rw [e2] at KK2 VB2
  have V_r0_at2 : Arv Z h2 r0 ka .char (3 : Int32) [(.int c0), (.int c1), (.int c2)] (.int (0 : Int32)) := V_r0_at1.keep KK2 (ninS ne_r0_b1 nin0)
  have K2 : Keep h0 h2 [] := K1.trans KK2 (allS (Or.inr sz_b1) all0)
  have Z2 : n0 ≤ h2.size := Nat.le_trans Z1 KK2.1
  have N2 := Fr.app N0 N2q
  obtain ⟨fs, hr, hrun, hended, hW, hsame⟩ := X2.leave (v := some (.ref b1)) (fun h => by rw [Bd.returns] at h; cases h)
  refine ⟨_, _, pre0 _ ?_, hrun, hended, _, _, rfl, ?_, ⟨_, rfl⟩, hW, hsame.mono (by decide) (by decide)⟩
  · show Steps p.tables e below (s₁.setTop (mkF m 0 #[.val (.ref r0), .val (.int (0 : Int32)), .val (.int (3 : Int32)), .unset, .unset, .unset] [])) _
    refine XS.iloadN X0.here hx rfl (hb hby d13_0) rfl ?_
    show Steps p.tables e below (s₁.setTop (mkF m 1 #[.val (.ref r0), .val (.int (0 : Int32)), .val (.int (3 : Int32)), .unset, .unset, .unset] [(.int (3 : Int32))])) _
    refine st1 _ ?_
    show Steps p.tables e below (T1.setTop (mkF m 3 #[.val (.ref r0), .val (.int (0 : Int32)), .val (.int (3 : Int32)), .unset, .unset, .unset] [(.ref b1)])) _
    refine XS.astoreN X1.here hx rfl (hb hby d13_3) rfl rfl (l' := #[.val (.ref r0), .val (.int (0 : Int32)), .val (.int (3 : Int32)), .val (.ref b1), .unset, .unset]) rfl ?_
    refine XS.aloadN X1.here hx rfl (hb hby d13_4) rfl rfl ?_
    refine XS.iloadN X1.here hx rfl (hb hby d13_5) rfl ?_
    refine XS.aloadN X1.here hx rfl (hb hby d13_6) rfl rfl ?_
    show Steps p.tables e below (T1.setTop (mkF m 7 #[.val (.ref r0), .val (.int (0 : Int32)), .val (.int (3 : Int32)), .val (.ref b1), .unset, .unset] [(.ref b1), (.int (0 : Int32)), (.ref r0)])) _
    refine XS.iconst X1.here hx rfl (hb hby d13_7) ?_
    refine XS.iloadN X1.here hx rfl (hb hby d13_8) rfl ?_
    show Steps p.tables e below (T1.setTop (mkF m 9 #[.val (.ref r0), .val (.int (0 : Int32)), .val (.int (3 : Int32)), .val (.ref b1), .unset, .unset] [(.int (3 : Int32)), (.int (0 : Int32)), (.ref b1), (.int (0 : Int32)), (.ref r0)])) _
    refine st2 _ ?_
    show Steps p.tables e below (T2.setTop (mkF m 12 #[.val (.ref r0), .val (.int (0 : Int32)), .val (.int (3 : Int32)), .val (.ref b1), .unset, .unset] [(.int (3 : Int32))])) _
    refine XS.istore X2.here hx rfl (hb hby d13_12) rfl (l' := #[.val (.ref r0), .val (.int (0 : Int32)), .val (.int (3 : Int32)), .val (.ref b1), .val (.int (3 : Int32)), .unset]) rfl ?_
    refine XS.iload X2.here hx rfl (hb hby d13_14) rfl ?_
    refine XS.iloadN X2.here hx rfl (hb hby d13_16) rfl ?_
    show Steps p.tables e below (T2.setTop (mkF m 17 #[.val (.ref r0), .val (.int (0 : Int32)), .val (.int (3 : Int32)), .val (.ref b1), .val (.int (3 : Int32)), .unset] [(.int (3 : Int32)), (.int (3 : Int32))])) _
    refine XS.icmpYes X2.here hx rfl (pc0 := 17) (pc' := 57) rfl (hb hby d13_17) rfl (teq (by decide : (3 : Int32) = (3 : Int32))).1 (by decide) (by decide) ?_
    refine XS.aloadN X2.here hx rfl (hb hby d13_57) rfl rfl ?_
    show Steps p.tables e below (T2.setTop (mkF m 58 #[.val (.ref r0), .val (.int (0 : Int32)), .val (.int (3 : Int32)), .val (.ref b1), .val (.int (3 : Int32)), .unset] [(.ref b1)])) _
    jvm_step X2.here [X2.here.top, hx, (hb hby d13_58), X2.method', Bd.returns, Value.isRef, FieldType.isReference]
    first | (intro acts; rw [hr _ acts rfl rfl rfl]) | rw [hr _ _ rfl rfl rfl]
    exact Steps.refl _
  · show Q13_3 Z r0 ka c0 c1 c2 h0 n0 _ T2.heap _
    rw [e2]
    exact ⟨b1, _, rfl, N2, K2, sz_b1, VB2⟩
theorem ef_15_3 (m : MethodId) (x0 : Addr) (x1 : Int32) : entryFrame m #[(.ref x0), (.int x1)] 2 = mkF m 0 #[.val (.ref x0), .val (.int x1)] [] := by first | (simp [entryFrame, mkF, argsToLocals, Value.category]; done) | rfl
def Q15_3 (Z : State) (r0 : Addr) (ka : ClassId) (vs : List Value) (h0 : Heap) (n0 : Nat) (v : Option Value) (h : Heap) (L : List Loc) : Prop := v = some (.int (0 : Int32)) ∧ Fr n0 L ∧ h = h0
set_option maxRecDepth 65536 in
set_option maxHeartbeats 40000000 in
theorem rm15_3 (l : Launch) (Z : State) (a0 : Array Value) (hw : ∀ d ∈ tables_1, d.before a0 Z = true) (ws : List Jvm.Cond) (r0 : Addr) (ka : ClassId) (vs : List Value) (h0 : Heap) (n0 : Nat) (Z0 : n0 ≤ h0.size) (V_r0 : Arv Z h0 r0 ka .byte (3 : Int32) vs (.int (0 : Int32))) :
    MetFree l (⟨"java/lang/StringUTF16", "coderFromArrayLen", "([BI)B"⟩ : MethodName) (head1 (Jvm.Cond.code (⟨"java/lang/StringUTF16", "coderFromArrayLen", "([BI)B"⟩ : MethodName) jdk_52_method_15_code 2 (some .byte) :: ws) ({ frames := 0, cells := 0, slots := 0, locals := 0 } : Room)) (fun a U => a = #[(.ref r0), (.int (3 : Int32))] ∧ Z.Warmed39 U.vm ∧ U.heap = h0) (fun _ _ _ _ _ => True) (fun _ U o U' => ∃ v L, o = .returned v ∧ Q15_3 Z r0 ka vs h0 n0 v U'.heap L ∧ FrameEnd U o U' L ({ frames := 0, cells := 0, slots := 0, locals := 0 } : Room).cells ({ frames := 0, cells := 0, slots := 0, locals := 0 } : Room).slots) := by
  refine MetFree.of_bodySF (plainFor_of_name pn_java_lang_StringUTF16) hisR ?_
  intro p e s m args below meth c s₁ Bd hml0 hP hK
  obtain ⟨rfl, hZ, hh⟩ := hP
  have hx := Bd.exec
  have hby := Bd.bytes
  have hml : c.maxLocals = 2 := hml0
  have hown : s.vm.findClass "java/lang/StringUTF16" = some m.cls := findClass_of_methodNamed Bd.named
  have hnm := (name_of_methodNamed Bd.named Bd.method).1
  have X0 : Stand p l e ({ frames := 0, cells := 0, slots := 0, locals := 0 } : Room) s m #[(.ref r0), (.int (3 : Int32))] below meth c s₁ [] 0 0 := Stand.of_body Bd
  have e0 : s₁.heap = h0 := by rw [← hh, Bd.state]; rfl
  have N0 := Fr.nil n0
  have pre0 : ∀ t, Steps p.tables e below (s₁.setTop (mkF m 0 #[.val (.ref r0), .val (.int (3 : Int32))] [])) t → Steps p.tables e below (s₁.setTop (entryFrame m #[(.ref r0), (.int (3 : Int32))] 2)) t := fun tt kt_ => castTop (ef_15_3 m r0 (3 : Int32)) kt_
  obtain ⟨cl_2_1, Ar_2_1, -, S_2_1, M_2_1, -, -⟩ := id V_r0
  obtain ⟨fs, hr, hrun, hended, hW, hsame⟩ := X0.leave (v := some (.int (nar .byte ((((0 : Int32).toUInt32 >>> ((31 : Int32) &&& 31).toUInt32).toInt32).toInt8.toInt32)))) (fun h => by rw [Bd.returns] at h; cases h)
  refine ⟨_, _, pre0 _ ?_, hrun, hended, _, _, rfl, ?_, ⟨_, rfl⟩, hW, hsame.mono (by decide) (by decide)⟩
  · show Steps p.tables e below (s₁.setTop (mkF m 0 #[.val (.ref r0), .val (.int (3 : Int32))] [])) _
    refine XS.iloadN X0.here hx rfl (hb hby d15_0) rfl ?_
    refine XS.aloadN X0.here hx rfl (hb hby d15_1) rfl rfl ?_
    show Steps p.tables e below (s₁.setTop (mkF m 2 #[.val (.ref r0), .val (.int (3 : Int32))] [(.ref r0), (.int (3 : Int32))])) _
    refine X0.arraylength hx (by rw [e0]; exact Ar_2_1.1) (State.isArrayOf_alike hZ.alike Ar_2_1.2.1) (g := (mkF m 2 #[.val (.ref r0), .val (.int (3 : Int32))] [(.ref r0), (.int (3 : Int32))])) rfl rfl (hb hby d15_2) _ ?_
    rw [len_of S_2_1 M_2_1]
    show Steps p.tables e below (s₁.setTop (mkF m 3 #[.val (.ref r0), .val (.int (3 : Int32))] [(.int (3 : Int32)), (.int (3 : Int32))])) _
    refine XS.isub X0.here hx rfl (hb hby d15_3) rfl ?_
    refine XS.bipush X0.here hx rfl (hb hby d15_4) ?_
    show Steps p.tables e below (s₁.setTop (mkF m 6 #[.val (.ref r0), .val (.int (3 : Int32))] [(.int (31 : Int32)), (.int (0 : Int32))])) _
    refine XS.iushr X0.here hx rfl (hb hby d15_6) rfl ?_
    show Steps p.tables e below (s₁.setTop (mkF m 7 #[.val (.ref r0), .val (.int (3 : Int32))] [(.int (((0 : Int32).toUInt32 >>> ((31 : Int32) &&& 31).toUInt32).toInt32))])) _
    refine XS.i2b X0.here hx rfl (hb hby d15_7) rfl ?_
    show Steps p.tables e below (s₁.setTop (mkF m 8 #[.val (.ref r0), .val (.int (3 : Int32))] [(.int ((((0 : Int32).toUInt32 >>> ((31 : Int32) &&& 31).toUInt32).toInt32).toInt8.toInt32))])) _
    exact retN X0 hx (t := .byte) Bd.returns (by simp) (hb hby d15_8) hr
  · show Q15_3 Z r0 ka vs h0 n0 _ s₁.heap _
    rw [e0]
    exact ⟨rfl, N0, rfl⟩
theorem ef_4_3 (m : MethodId) (x0 : Addr) (x1 : Addr) (x2 : Int32) (x3 : Int32) : entryFrame m #[(.ref x0), (.ref x1), (.int x2), (.int x3), .null] 6 = mkF m 0 #[.val (.ref x0), .val (.ref x1), .val (.int x2), .val (.int x3), .val .null, .unset] [] := by first | (simp [entryFrame, mkF, argsToLocals, Value.category]; done) | rfl
def Q4_3 (Z : State) (r0 : Addr) (r1 : Addr) (ka : ClassId) (c0 c1 c2 : Int32) (cs : Int32) (h0 : Heap) (n0 : Nat) (v : Option Value) (h : Heap) (L : List Loc) : Prop := v = none ∧ Fr n0 L ∧ Keep h0 h [r0] ∧ ∃ (b : Addr) (kb : ClassId), h0.size ≤ b ∧ Fld Z h r0 "java/lang/String" "coder" "B" (.int (0 : Int32)) ∧ Fld Z h r0 "java/lang/String" "value" "[B" (.ref b) ∧ Arv Z h b kb .byte (3 : Int32) [(.int (own_by c0)), (.int (own_by c1)), (.int (own_by c2))] (.int (0 : Int32))
set_option maxRecDepth 65536 in
set_option maxHeartbeats 40000000 in
theorem rm4_3 (l : Launch) (Z : State) (a0 : Array Value) (hw : ∀ d ∈ tables_1, d.before a0 Z = true) (ws : List Jvm.Cond) (r0 : Addr) (r1 : Addr) (ka : ClassId) (c0 c1 c2 : Int32) (cs : Int32) (h0 : Heap) (n0 : Nat) (Z0 : n0 ≤ h0.size) (E_r0 : Exa Z h0 r0 "java/lang/String") (F_value : Fld Z h0 r0 "java/lang/String" "value" "[B" .null) (F_coder : Fld Z h0 r0 "java/lang/String" "coder" "B" (.int (0 : Int32))) (g_r0 : n0 ≤ r0) (V_r1 : Arv Z h0 r1 ka .char (3 : Int32) [(.int c0), (.int c1), (.int c2)] (.int (0 : Int32))) (ne_r0_r1 : r0 ≠ r1) (O_0 : Old Z n0 h0) (S_cs : Sta Z Z.heap "java/lang/String" "COMPACT_STRINGS" "Z" (.int cs)) (hcs : ¬ (cs = (0 : Int32))) (hc0 : own_ch c0) (hc1 : own_ch c1) (hc2 : own_ch c2) :
    MetFree l (⟨"java/lang/String", "<init>", "([CIILjava/lang/Void;)V"⟩ : MethodName) (head1 (Jvm.Cond.code (⟨"java/lang/String", "<init>", "([CIILjava/lang/Void;)V"⟩ : MethodName) jdk_42_method_149_code 6 none :: ws) ({ frames := 2, cells := 1, slots := 3, locals := 35 } : Room)) (fun a U => a = #[(.ref r0), (.ref r1), (.int (0 : Int32)), (.int (3 : Int32)), .null] ∧ Z.Warmed39 U.vm ∧ U.heap = h0) (fun _ _ _ _ _ => True) (fun _ U o U' => ∃ v L, o = .returned v ∧ Q4_3 Z r0 r1 ka c0 c1 c2 cs h0 n0 v U'.heap L ∧ FrameEnd U o U' L ({ frames := 2, cells := 1, slots := 3, locals := 35 } : Room).cells ({ frames := 2, cells := 1, slots := 3, locals := 35 } : Room).slots) := by
  refine MetFree.of_bodySF (plainFor_of_name pn_java_lang_String) hisR ?_
  intro p e s m args below meth c s₁ Bd hml0 hP hK
  obtain ⟨rfl, hZ, hh⟩ := hP
  have hx := Bd.exec
  have hby := Bd.bytes
  have hml : c.maxLocals = 6 := hml0
  have hown : s.vm.findClass "java/lang/String" = some m.cls := findClass_of_methodNamed Bd.named
  have hnm := (name_of_methodNamed Bd.named Bd.method).1
  have X0 : Stand p l e ({ frames := 2, cells := 1, slots := 3, locals := 35 } : Room) s m #[(.ref r0), (.ref r1), (.int (0 : Int32)), (.int (3 : Int32)), .null] below meth c s₁ [] 0 0 := Stand.of_body Bd
  have e0 : s₁.heap = h0 := by rw [← hh, Bd.state]; rfl
  have N0 := Fr.nil n0
  have pre0 : ∀ t, Steps p.tables e below (s₁.setTop (mkF m 0 #[.val (.ref r0), .val (.ref r1), .val (.int (0 : Int32)), .val (.int (3 : Int32)), .val .null, .unset] [])) t → Steps p.tables e below (s₁.setTop (entryFrame m #[(.ref r0), (.ref r1), (.int (0 : Int32)), (.int (3 : Int32)), .null] 6)) t := fun tt kt_ => castTop (ef_4_3 m r0 r1 (0 : Int32) (3 : Int32)) kt_
  have K0 : Keep h0 h0 [r0] := Keep.refl h0 [r0]
  obtain ⟨T1, X1, e1, st1⟩ := initO X0 hx hZ hown (hw _ (List.mem_of_getElem? (i := 19) rfl)) (hw _ (List.mem_of_getElem? (i := 20) rfl)) (hw _ (List.mem_of_getElem? (i := 21) rfl)) e0 (g := (mkF m 1 #[.val (.ref r0), .val (.ref r1), .val (.int (0 : Int32)), .val (.int (3 : Int32)), .val .null, .unset] [(.ref r0)])) rfl (by rw [hml]; rfl) rfl (hb hby d4_1) (by decide) (W := 0) (by show 2 * 0 + _ ≤ _; exact Nat.le_of_eq rfl) (by decide)
  obtain ⟨T2, X2, e2, st2⟩ := getS2 X1 hx hZ hown (host := "") (Or.inl (hw _ (List.mem_of_getElem? (i := 44) rfl))) Via.refl e1 (Sta.ext O_0.2 S_cs) (g := (mkF m 27 #[.val (.ref r0), .val (.ref r1), .val (.int (0 : Int32)), .val (.int (3 : Int32)), .val .null, .unset] [])) rfl (hb hby d4_27)
  obtain ⟨_, _, ⟨T3, L3, k3, n3⟩, -, X3, ⟨Lc3, hQ3, l3, y3, z3⟩, st3⟩ := Jvm.LawKit.callS X2 hx (y := (⟨"java/lang/StringUTF16", "compress", "([CII)[B"⟩ : MethodName)) hown (mvT hZ (hw _ (List.mem_of_getElem? (i := 64) rfl))) (mvT hZ (hw _ (List.mem_of_getElem? (i := 65) rfl))) (mvT hZ (hw _ (List.mem_of_getElem? (i := 66) rfl))) (mvT hZ (hw _ (List.mem_of_getElem? (i := 67) rfl))) (by decide) (backOf (W := 0) (rm13_3 l Z a0 hw [] r1 ka c0 c1 c2 h0 n0 Z0 V_r1 hc0 hc1 hc2) hZ (hw _ (List.mem_of_getElem? (i := 67) rfl)) (hw _ (List.mem_of_getElem? (i := 66) rfl)) (by decide) (by decide)) (g := (mkF m 36 #[.val (.ref r0), .val (.ref r1), .val (.int (0 : Int32)), .val (.int (3 : Int32)), .val .null, .unset] [(.int (3 : Int32)), (.int (0 : Int32)), (.ref r1)])) rfl (by rw [hml]; rfl) (argsL := [(.ref r1), (.int (0 : Int32)), (.int (3 : Int32))]) (rest := []) (lenOf pd_285bCII295bB rfl) rfl (by show 2 * 0 + _ ≤ _; exact Nat.le_of_eq rfl) (hb hby d4_36) (fun _ _ => ⟨rfl, e2, (by decide : 0 + 1 ≤ _), (by decide : 0 + 3 ≤ _)⟩)
  dsimp only [Pt.U, Pt.locs, Pt.cells, Pt.slots] at X3 l3 y3 z3 st3 hQ3
  subst l3 y3 z3
  obtain ⟨b3, kb3, rfl, N3q, KK3, gb3, VB3⟩ := hQ3
  obtain ⟨h3, e3⟩ : ∃ z, T3.heap = z := ⟨_, rfl⟩
  rw [e3] at KK3 VB3
  have E_r0_at3 : Exa Z h3 r0 "java/lang/String" := E_r0.keep KK3
  have O_0_at3 : Old Z n0 h3 := O_0.keep KK3 all0
  have F_value_at3 : Fld Z h3 r0 "java/lang/String" "value" "[B" .null := F_value.keep KK3 nin0
  have F_coder_at3 : Fld Z h3 r0 "java/lang/String" "coder" "B" (.int (0 : Int32)) := F_coder.keep KK3 nin0
  have V_r1_at3 : Arv Z h3 r1 ka .char (3 : Int32) [(.int c0), (.int c1), (.int c2)] (.int (0 : Int32)) := V_r1.keep KK3 nin0
  have K3 : Keep h0 h3 [r0] := K0.trans KK3 all0
  have Z3 : n0 ≤ h3.size := Nat.le_trans Z0 KK3.1
  have ne_r0_b3 : r0 ≠ b3 := Nat.ne_of_lt (Nat.lt_of_lt_of_le E_r0.lt gb3)
  have ne_r1_b3 : r1 ≠ b3 := Nat.ne_of_lt (Nat.lt_of_lt_of_le V_r1.lt gb3)
  have g_b3 : n0 ≤ b3 := Nat.le_trans Z0 gb3
  have sz_b3 : h0.size ≤ b3 := Nat.le_trans K0.1 gb3
  have N3 := Fr.app N0 N3q
  obtain ⟨_, _, ⟨T4, L4, k4, n4⟩, -, X4, ⟨Lc4, hQ4, l4, y4, z4⟩, st4⟩ := Jvm.LawKit.callS X3 hx (y := (⟨"java/lang/StringUTF16", "coderFromArrayLen", "([BI)B"⟩ : MethodName)) hown (mvT hZ (hw _ (List.mem_of_getElem? (i := 71) rfl))) (mvT hZ (hw _ (List.mem_of_getElem? (i := 72) rfl))) (mvT hZ (hw _ (List.mem_of_getElem? (i := 66) rfl))) (mvT hZ (hw _ (List.mem_of_getElem? (i := 73) rfl))) (by decide) (backOf (W := 1) (rm15_3 l Z a0 hw [] b3 kb3 [(.int (own_by c0)), (.int (own_by c1)), (.int (own_by c2))] h3 n0 Z3 VB3) hZ (hw _ (List.mem_of_getElem? (i := 73) rfl)) (hw _ (List.mem_of_getElem? (i := 66) rfl)) (by decide) (by decide)) (g := (mkF m 45 #[.val (.ref r0), .val (.ref r1), .val (.int (0 : Int32)), .val (.int (3 : Int32)), .val .null, .val (.ref b3)] [(.int (3 : Int32)), (.ref b3), (.ref r0)])) rfl (by rw [hml]; rfl) (argsL := [(.ref b3), (.int (3 : Int32))]) (rest := [(.ref r0)]) (lenOf pd_285bBI29B rfl) rfl (by show 2 * 0 + _ ≤ _; exact Nat.le_of_eq rfl) (hb hby d4_45) (fun _ _ => ⟨rfl, e3, (by decide : 1 + 0 ≤ _), (by decide : 3 + 0 ≤ _)⟩)
  dsimp only [Pt.U, Pt.locs, Pt.cells, Pt.slots] at X4 l4 y4 z4 st4 hQ4
  subst l4 y4 z4
  obtain ⟨rfl, N4q, e4⟩ := hQ4
  have N4 := Fr.app N3 N4q
  obtain ⟨T5, h5, X5, e5, W5, st5⟩ := putFN X4 hx hZ hown (hw _ (List.mem_of_getElem? (i := 29) rfl)) Via.refl e4 F_coder_at3 E_r0_at3 (Or.inr ⟨(hw _ (List.mem_of_getElem? (i := 25) rfl)), rfl, hnm⟩) (hw _ (List.mem_of_getElem? (i := 10) rfl)) (ty := .byte) (v' := (.int (0 : Int32).toInt8.toInt32)) (by decide) rfl (fits_nar_byte _) (g := (mkF m 48 #[.val (.ref r0), .val (.ref r1), .val (.int (0 : Int32)), .val (.int (3 : Int32)), .val .null, .val (.ref b3)] [(.int (0 : Int32)), (.ref r0)])) rfl rfl (hb hby d4_48)
  have E_r0_at5 : Exa Z h5 r0 "java/lang/String" := E_r0_at3.wr W5
  have O_0_at5 : Old Z n0 h5 := O_0_at3.wr W5 g_r0
  have F_value_at5 : Fld Z h5 r0 "java/lang/String" "value" "[B" .null := F_value_at3.other W5 (Or.inr (slot_ne (Or.inr (hw _ (List.mem_of_getElem? (i := 24) rfl))) (Or.inr (hw _ (List.mem_of_getElem? (i := 25) rfl))) (by decide) (t := (.array .byte)) (t' := .byte) (by decide) (by decide)))
  have V_r1_at5 : Arv Z h5 r1 ka .char (3 : Int32) [(.int c0), (.int c1), (.int c2)] (.int (0 : Int32)) := V_r1_at3.other W5 (Ne.symm ne_r0_r1)
  have VB3_at5 : Arv Z h5 b3 kb3 .byte (3 : Int32) [(.int (own_by c0)), (.int (own_by c1)), (.int (own_by c2))] (.int (0 : Int32)) := VB3.other W5 (Ne.symm ne_r0_b3)
  have F_coder_r0_at5 : Fld Z h5 r0 "java/lang/String" "coder" "B" (.int (0 : Int32).toInt8.toInt32) := F_coder_at3.same W5
  have K5 : Keep h0 h5 [r0] := K3.wr W5 (Or.inl (List.mem_of_getElem? (i := 0) rfl))
  have Z5 : n0 ≤ h5.size := Nat.le_trans Z3 (Keep.of_wr W5).1
  have N5 := Fr.snoc X5 N4 g_r0
  obtain ⟨T6, h6, X6, e6, W6, st6⟩ := putF X5 hx hZ hown (host := "") (Or.inl (hw _ (List.mem_of_getElem? (i := 28) rfl))) Via.refl e5 F_value_at5 E_r0_at5 (Or.inr ⟨(hw _ (List.mem_of_getElem? (i := 24) rfl)), rfl, hnm⟩) (hw _ (List.mem_of_getElem? (i := 10) rfl)) (ty := (.array .byte)) (by decide) rfl rfl (g := (mkF m 54 #[.val (.ref r0), .val (.ref r1), .val (.int (0 : Int32)), .val (.int (3 : Int32)), .val .null, .val (.ref b3)] [(.ref b3), (.ref r0)])) rfl rfl (hb hby d4_54)
  have E_r0_at6 : Exa Z h6 r0 "java/lang/String" := E_r0_at5.wr W6
  have O_0_at6 : Old Z n0 h6 := O_0_at5.wr W6 g_r0
  have V_r1_at6 : Arv Z h6 r1 ka .char (3 : Int32) [(.int c0), (.int c1), (.int c2)] (.int (0 : Int32)) := V_r1_at5.other W6 (Ne.symm ne_r0_r1)
  have VB3_at6 : Arv Z h6 b3 kb3 .byte (3 : Int32) [(.int (own_by c0)), (.int (own_by c1)), (.int (own_by c2))] (.int (0 : Int32)) := VB3_at5.other W6 (Ne.symm ne_r0_b3)
  have F_coder_r0_at6 : Fld Z h6 r0 "java/lang/String" "coder" "B" (.int (0 : Int32).toInt8.toInt32) := F_coder_r0_at5.other W6 (Or.inr (slot_ne (Or.inr (hw _ (List.mem_of_getElem? (i := 25) rfl))) (Or.inr (hw _ (List.mem_of_getElem? (i := 24) rfl))) (by decide) (t := .byte) (t' := (.array .byte)) (by decide) (by decide)))
  have F_value_r0_at6 : Fld Z h6 r0 "java/lang/String" "value" "[B" (.ref b3) := F_value_at5.same W6
  have K6 : Keep h0 h6 [r0] := K5.wr W6 (Or.inl (List.mem_of_getElem? (i := 0) rfl))
  have Z6 : n0 ≤ h6.size := Nat.le_trans Z5 (Keep.of_wr W6).1
  have N6 := Fr.snoc X6 N5 g_r0
  obtain ⟨fs, hr, hrun, hended, hW, hsame⟩ := X6.leave (v := none) (fun _ => rfl)
  refine ⟨_, _, pre0 _ ?_, hrun, hended, _, _, rfl, ?_, ⟨_, rfl⟩, hW, hsame.mono (by decide) (by decide)⟩
  · show Steps p.tables e below (s₁.setTop (mkF m 0 #[.val (.ref r0), .val (.ref r1), .val (.int (0 : Int32)), .val (.int (3 : Int32)), .val .null, .unset] [])) _
    refine XS.aloadN X0.here hx rfl (hb hby d4_0) rfl rfl ?_
    show Steps p.tables e below (s₁.setTop (mkF m 1 #[.val (.ref r0), .val (.ref r1), .val (.int (0 : Int32)), .val (.int (3 : Int32)), .val .null, .unset] [(.ref r0)])) _
    refine st1 _ ?_
    show Steps p.tables e below (T1.setTop (mkF m 4 #[.val (.ref r0), .val (.ref r1), .val (.int (0 : Int32)), .val (.int (3 : Int32)), .val .null, .unset] [])) _
    refine XS.iloadN X1.here hx rfl (hb hby d4_4) rfl ?_
    show Steps p.tables e below (T1.setTop (mkF m 5 #[.val (.ref r0), .val (.ref r1), .val (.int (0 : Int32)), .val (.int (3 : Int32)), .val .null, .unset] [(.int (3 : Int32))])) _
    refine XS.ifYes X1.here hx rfl (pc0 := 5) (pc' := 27) rfl (hb hby d4_5) rfl ((if0 _ _).trans (feq (by decide : ¬ ((3 : Int32) = (0 : Int32)))).2) (by decide) (by decide) ?_
    show Steps p.tables e below (T1.setTop (mkF m 27 #[.val (.ref r0), .val (.ref r1), .val (.int (0 : Int32)), .val (.int (3 : Int32)), .val .null, .unset] [])) _
    refine st2 _ ?_
    show Steps p.tables e below (T2.setTop (mkF m 30 #[.val (.ref r0), .val (.ref r1), .val (.int (0 : Int32)), .val (.int (3 : Int32)), .val .null, .unset] [(.int cs)])) _
    refine XS.ifNo X2.here hx rfl (hb hby d4_30) rfl ((if0 _ _).trans (feq hcs).1) ?_
    refine XS.aloadN X2.here hx rfl (hb hby d4_33) rfl rfl ?_
    refine XS.iloadN X2.here hx rfl (hb hby d4_34) rfl ?_
    refine XS.iloadN X2.here hx rfl (hb hby d4_35) rfl ?_
    show Steps p.tables e below (T2.setTop (mkF m 36 #[.val (.ref r0), .val (.ref r1), .val (.int (0 : Int32)), .val (.int (3 : Int32)), .val .null, .unset] [(.int (3 : Int32)), (.int (0 : Int32)), (.ref r1)])) _
    refine st3 _ ?_
    show Steps p.tables e below (T3.setTop (mkF m 39 #[.val (.ref r0), .val (.ref r1), .val (.int (0 : Int32)), .val (.int (3 : Int32)), .val .null, .unset] [(.ref b3)])) _
    refine XS.astore X3.here hx rfl (hb hby d4_39) rfl rfl (l' := #[.val (.ref r0), .val (.ref r1), .val (.int (0 : Int32)), .val (.int (3 : Int32)), .val .null, .val (.ref b3)]) rfl ?_
    refine XS.aloadN X3.here hx rfl (hb hby d4_41) rfl rfl ?_
    refine XS.aload X3.here hx rfl (hb hby d4_42) rfl rfl ?_
    refine XS.iloadN X3.here hx rfl (hb hby d4_44) rfl ?_
    show Steps p.tables e below (T3.setTop (mkF m 45 #[.val (.ref r0), .val (.ref r1), .val (.int (0 : Int32)), .val (.int (3 : Int32)), .val .null, .val (.ref b3)] [(.int (3 : Int32)), (.ref b3), (.ref r0)])) _
    refine st4 _ ?_
    show Steps p.tables e below (T4.setTop (mkF m 48 #[.val (.ref r0), .val (.ref r1), .val (.int (0 : Int32)), .val (.int (3 : Int32)), .val .null, .val (.ref b3)] [(.int (0 : Int32)), (.ref r0)])) _
    refine st5 _ ?_
    show Steps p.tables e below (T5.setTop (mkF m 51 #[.val (.ref r0), .val (.ref r1), .val (.int (0 : Int32)), .val (.int (3 : Int32)), .val .null, .val (.ref b3)] [])) _
    refine XS.aloadN X5.here hx rfl (hb hby d4_51) rfl rfl ?_
    refine XS.aload X5.here hx rfl (hb hby d4_52) rfl rfl ?_
    show Steps p.tables e below (T5.setTop (mkF m 54 #[.val (.ref r0), .val (.ref r1), .val (.int (0 : Int32)), .val (.int (3 : Int32)), .val .null, .val (.ref b3)] [(.ref b3), (.ref r0)])) _
    refine st6 _ ?_
    show Steps p.tables e below (T6.setTop (mkF m 57 #[.val (.ref r0), .val (.ref r1), .val (.int (0 : Int32)), .val (.int (3 : Int32)), .val .null, .val (.ref b3)] [])) _
    exact X6.returnOut hx Bd.returns (hb hby d4_57) hr
  · show Q4_3 Z r0 r1 ka c0 c1 c2 cs h0 n0 _ T6.heap _
    rw [e6]
    exact ⟨rfl, N6, K6, b3, _, sz_b3, F_coder_r0_at6, F_value_r0_at6, VB3_at6⟩
theorem ef_3_3 (m : MethodId) (x0 : Addr) (x1 : Addr) : entryFrame m #[(.ref x0), (.ref x1)] 2 = mkF m 0 #[.val (.ref x0), .val (.ref x1)] [] := by first | (simp [entryFrame, mkF, argsToLocals, Value.category]; done) | rfl
def Q3_3 (Z : State) (r0 : Addr) (r1 : Addr) (ka : ClassId) (c0 c1 c2 : Int32) (cs : Int32) (h0 : Heap) (n0 : Nat) (v : Option Value) (h : Heap) (L : List Loc) : Prop := v = none ∧ Fr n0 L ∧ Keep h0 h [r0] ∧ ∃ (b : Addr) (kb : ClassId), h0.size ≤ b ∧ Fld Z h r0 "java/lang/String" "coder" "B" (.int (0 : Int32)) ∧ Fld Z h r0 "java/lang/String" "value" "[B" (.ref b) ∧ Arv Z h b kb .byte (3 : Int32) [(.int (own_by c0)), (.int (own_by c1)), (.int (own_by c2))] (.int (0 : Int32))
set_option maxRecDepth 65536 in
set_option maxHeartbeats 40000000 in
theorem rm3_3 (l : Launch) (Z : State) (a0 : Array Value) (hw : ∀ d ∈ tables_1, d.before a0 Z = true) (ws : List Jvm.Cond) (r0 : Addr) (r1 : Addr) (ka : ClassId) (c0 c1 c2 : Int32) (cs : Int32) (h0 : Heap) (n0 : Nat) (Z0 : n0 ≤ h0.size) (E_r0 : Exa Z h0 r0 "java/lang/String") (F_value : Fld Z h0 r0 "java/lang/String" "value" "[B" .null) (F_coder : Fld Z h0 r0 "java/lang/String" "coder" "B" (.int (0 : Int32))) (g_r0 : n0 ≤ r0) (V_r1 : Arv Z h0 r1 ka .char (3 : Int32) [(.int c0), (.int c1), (.int c2)] (.int (0 : Int32))) (ne_r0_r1 : r0 ≠ r1) (O_0 : Old Z n0 h0) (S_cs : Sta Z Z.heap "java/lang/String" "COMPACT_STRINGS" "Z" (.int cs)) (hcs : ¬ (cs = (0 : Int32))) (hc0 : own_ch c0) (hc1 : own_ch c1) (hc2 : own_ch c2) :
    MetFree l (⟨"java/lang/String", "<init>", "([C)V"⟩ : MethodName) (head1 (Jvm.Cond.code (⟨"java/lang/String", "<init>", "([C)V"⟩ : MethodName) jdk_42_method_3_code 2 none :: ws) ({ frames := 3, cells := 1, slots := 3, locals := 52 } : Room)) (fun a U => a = #[(.ref r0), (.ref r1)] ∧ Z.Warmed39 U.vm ∧ U.heap = h0) (fun _ _ _ _ _ => True) (fun _ U o U' => ∃ v L, o = .returned v ∧ Q3_3 Z r0 r1 ka c0 c1 c2 cs h0 n0 v U'.heap L ∧ FrameEnd U o U' L ({ frames := 3, cells := 1, slots := 3, locals := 52 } : Room).cells ({ frames := 3, cells := 1, slots := 3, locals := 52 } : Room).slots) := by
  refine MetFree.of_bodySF (plainFor_of_name pn_java_lang_String) hisR ?_
  intro p e s m args below meth c s₁ Bd hml0 hP hK
  obtain ⟨rfl, hZ, hh⟩ := hP
  have hx := Bd.exec
  have hby := Bd.bytes
  have hml : c.maxLocals = 2 := hml0
  have hown : s.vm.findClass "java/lang/String" = some m.cls := findClass_of_methodNamed Bd.named
  have hnm := (name_of_methodNamed Bd.named Bd.method).1
  have X0 : Stand p l e ({ frames := 3, cells := 1, slots := 3, locals := 52 } : Room) s m #[(.ref r0), (.ref r1)] below meth c s₁ [] 0 0 := Stand.of_body Bd
  have e0 : s₁.heap = h0 := by rw [← hh, Bd.state]; rfl
  have N0 := Fr.nil n0
  have pre0 : ∀ t, Steps p.tables e below (s₁.setTop (mkF m 0 #[.val (.ref r0), .val (.ref r1)] [])) t → Steps p.tables e below (s₁.setTop (entryFrame m #[(.ref r0), (.ref r1)] 2)) t := fun tt kt_ => castTop (ef_3_3 m r0 r1) kt_
  have K0 : Keep h0 h0 [r0] := Keep.refl h0 [r0]
  obtain ⟨cl_4_1, Ar_4_1, -, S_4_1, M_4_1, -, -⟩ := id V_r1
  obtain ⟨_, _, ⟨T2, L2, k2, n2⟩, -, X2, ⟨Lc2, hQ2, l2, y2, z2⟩, st2⟩ := X0.specialBack hx (y := (⟨"java/lang/String", "<init>", "([CIILjava/lang/Void;)V"⟩ : MethodName)) rfl hown (mvT hZ (hw _ (List.mem_of_getElem? (i := 15) rfl))) (mvT hZ (hw _ (List.mem_of_getElem? (i := 16) rfl))) (mvT hZ (hw _ (List.mem_of_getElem? (i := 18) rfl))) (by decide) (backOf (W := 0) (rm4_3 l Z a0 hw [] r0 r1 ka c0 c1 c2 cs h0 n0 Z0 E_r0 F_value F_coder g_r0 V_r1 ne_r0_r1 O_0 S_cs hcs hc0 hc1 hc2) hZ (hw _ (List.mem_of_getElem? (i := 18) rfl)) (hw _ (List.mem_of_getElem? (i := 11) rfl)) (by decide) (by decide)) (g := (mkF m 6 #[.val (.ref r0), .val (.ref r1)] [.null, (.int (3 : Int32)), (.int (0 : Int32)), (.ref r1), (.ref r0)])) rfl (by rw [hml]; rfl) (Steps.refl _) (a := r0) (argsL := [(.ref r1), (.int (0 : Int32)), (.int (3 : Int32)), .null]) (rest := []) (lenOf pd_285bCIILjava2flang2fVoid3b29V rfl) rfl (by show 2 * 0 + _ ≤ _; exact Nat.le_of_eq rfl) (hb hby d3_6) (fun _ _ => ⟨rfl, e0, (by decide : 0 + 1 ≤ _), (by decide : 0 + 3 ≤ _)⟩)
  dsimp only [Pt.U, Pt.locs, Pt.cells, Pt.slots] at X2 l2 y2 z2 st2 hQ2
  subst l2 y2 z2
  obtain ⟨rfl, N2q, KK2, b2, kb2, gb2, FC2, FV2, VB2⟩ := hQ2
  obtain ⟨h2, e2⟩ : ∃ z, T2.heap = z := ⟨_, rfl⟩
  rw [e2] at KK2 FC2 FV2 VB2
  have E_r0_at2 : Exa Z h2 r0 "java/lang/String" := E_r0.keep KK2
  have O_0_at2 : Old Z n0 h2 := O_0.keep KK2 (allS g_r0 all0)
  have V_r1_at2 : Arv Z h2 r1 ka .char (3 : Int32) [(.int c0), (.int c1), (.int c2)] (.int (0 : Int32)) := V_r1.keep KK2 (ninS (Ne.symm ne_r0_r1) nin0)
  have K2 : Keep h0 h2 [r0] := K0.trans KK2 (allS (Or.inl (List.mem_of_getElem? (i := 0) rfl)) all0)
  have Z2 : n0 ≤ h2.size := Nat.le_trans Z0 KK2.1
  have ne_r0_b2 : r0 ≠ b2 := Nat.ne_of_lt (Nat.lt_of_lt_of_le E_r0.lt gb2)
  have ne_r1_b2 : r1 ≠ b2 := Nat.ne_of_lt (Nat.lt_of_lt_of_le V_r1.lt gb2)
  have g_b2 : n0 ≤ b2 := Nat.le_trans Z0 gb2
  have sz_b2 : h0.size ≤ b2 := Nat.le_trans K0.1 gb2
  have N2 := Fr.app N0 N2q
  obtain ⟨fs, hr, hrun, hended, hW, hsame⟩ := X2.leave (v := none) (fun _ => rfl)
  refine ⟨_, _, pre0 _ ?_, hrun, hended, _, _, rfl, ?_, ⟨_, rfl⟩, hW, hsame.mono (by decide) (by decide)⟩
  · show Steps p.tables e below (s₁.setTop (mkF m 0 #[.val (.ref r0), .val (.ref r1)] [])) _
    refine XS.aloadN X0.here hx rfl (hb hby d3_0) rfl rfl ?_
    refine XS.aloadN X0.here hx rfl (hb hby d3_1) rfl rfl ?_
    refine XS.iconst X0.here hx rfl (hb hby d3_2) ?_
    refine XS.aloadN X0.here hx rfl (hb hby d3_3) rfl rfl ?_
    show Steps p.tables e below (s₁.setTop (mkF m 4 #[.val (.ref r0), .val (.ref r1)] [(.ref r1), (.int (0 : Int32)), (.ref r1), (.ref r0)])) _
    refine X0.arraylength hx (by rw [e0]; exact Ar_4_1.1) (State.isArrayOf_alike hZ.alike Ar_4_1.2.1) (g := (mkF m 4 #[.val (.ref r0), .val (.ref r1)] [(.ref r1), (.int (0 : Int32)), (.ref r1), (.ref r0)])) rfl rfl (hb hby d3_4) _ ?_
    rw [len_of S_4_1 M_4_1]
    show Steps p.tables e below (s₁.setTop (mkF m 5 #[.val (.ref r0), .val (.ref r1)] [(.int (3 : Int32)), (.int (0 : Int32)), (.ref r1), (.ref r0)])) _
    refine XS.aconstNull X0.here hx rfl (hb hby d3_5) ?_
    show Steps p.tables e below (s₁.setTop (mkF m 6 #[.val (.ref r0), .val (.ref r1)] [.null, (.int (3 : Int32)), (.int (0 : Int32)), (.ref r1), (.ref r0)])) _
    refine st2.trans ?_
    show Steps p.tables e below (T2.setTop (mkF m 9 #[.val (.ref r0), .val (.ref r1)] [])) _
    exact X2.returnOut hx Bd.returns (hb hby d3_9) hr
  · show Q3_3 Z r0 r1 ka c0 c1 c2 cs h0 n0 _ T2.heap _
    rw [e2]
    exact ⟨rfl, N2, K2, b2, _, sz_b2, FC2, FV2, VB2⟩
theorem ef_14_4 (m : MethodId) (x0 : Addr) (x1 : Int32) (x2 : Addr) (x3 : Int32) (x4 : Int32) : entryFrame m #[(.ref x0), (.int x1), (.ref x2), (.int x3), (.int x4)] 7 = mkF m 0 #[.val (.ref x0), .val (.int x1), .val (.ref x2), .val (.int x3), .val (.int x4), .unset, .unset] [] := by first | (simp [entryFrame, mkF, argsToLocals, Value.category]; done) | rfl
def Q14_4 (Z : State) (r0 : Addr) (r2 : Addr) (ka kb : ClassId) (c0 c1 c2 c3 : Int32) (h0 : Heap) (n0 : Nat) (v : Option Value) (h : Heap) (L : List Loc) : Prop := v = some (.int (4 : Int32)) ∧ Fr n0 L ∧ Keep h0 h [r2] ∧ Arv Z h r2 kb .byte (4 : Int32) [(.int (own_by c0)), (.int (own_by c1)), (.int (own_by c2)), (.int (own_by c3))] (.int (0 : Int32))
set_option maxRecDepth 65536 in
set_option maxHeartbeats 40000000 in
theorem rm14_4 (l : Launch) (Z : State) (a0 : Array Value) (hw : ∀ d ∈ tables_1, d.before a0 Z = true) (ws : List Jvm.Cond) (r0 : Addr) (r2 : Addr) (ka kb : ClassId) (c0 c1 c2 c3 : Int32) (h0 : Heap) (n0 : Nat) (Z0 : n0 ≤ h0.size) (V_r0 : Arv Z h0 r0 ka .char (4 : Int32) [(.int c0), (.int c1), (.int c2), (.int c3)] (.int (0 : Int32))) (V_r2 : Arv Z h0 r2 kb .byte (4 : Int32) [(.int (0 : Int32)), (.int (0 : Int32)), (.int (0 : Int32)), (.int (0 : Int32))] (.int (0 : Int32))) (g_r2 : n0 ≤ r2) (ne_r0_r2 : r0 ≠ r2) (hc0 : own_ch c0) (hc1 : own_ch c1) (hc2 : own_ch c2) (hc3 : own_ch c3) :
    MetFree l (⟨"java/lang/StringUTF16", "compress", "([CI[BII)I"⟩ : MethodName) (head1 (Jvm.Cond.code (⟨"java/lang/StringUTF16", "compress", "([CI[BII)I"⟩ : MethodName) jdk_52_method_21_code 7 (some .int) :: ws) ({ frames := 0, cells := 0, slots := 0, locals := 0 } : Room)) (fun a U => a = #[(.ref r0), (.int (0 : Int32)), (.ref r2), (.int (0 : Int32)), (.int (4 : Int32))] ∧ Z.Warmed39 U.vm ∧ U.heap = h0) (fun _ _ _ _ _ => True) (fun _ U o U' => ∃ v L, o = .returned v ∧ Q14_4 Z r0 r2 ka kb c0 c1 c2 c3 h0 n0 v U'.heap L ∧ FrameEnd U o U' L ({ frames := 0, cells := 0, slots := 0, locals := 0 } : Room).cells ({ frames := 0, cells := 0, slots := 0, locals := 0 } : Room).slots) := by
  refine MetFree.of_bodySF (plainFor_of_name pn_java_lang_StringUTF16) hisR ?_
  intro p e s m args below meth c s₁ Bd hml0 hP hK
  obtain ⟨rfl, hZ, hh⟩ := hP
  have hx := Bd.exec
  have hby := Bd.bytes
  have hml : c.maxLocals = 7 := hml0
  have hown : s.vm.findClass "java/lang/StringUTF16" = some m.cls := findClass_of_methodNamed Bd.named
  have hnm := (name_of_methodNamed Bd.named Bd.method).1
  have X0 : Stand p l e ({ frames := 0, cells := 0, slots := 0, locals := 0 } : Room) s m #[(.ref r0), (.int (0 : Int32)), (.ref r2), (.int (0 : Int32)), (.int (4 : Int32))] below meth c s₁ [] 0 0 := Stand.of_body Bd
  have e0 : s₁.heap = h0 := by rw [← hh, Bd.state]; rfl
  have N0 := Fr.nil n0
  have pre0 : ∀ t, Steps p.tables e below (s₁.setTop (mkF m 0 #[.val (.ref r0), .val (.int (0 : Int32)), .val (.ref r2), .val (.int (0 : Int32)), .val (.int (4 : Int32)), .unset, .unset] [])) t → Steps p.tables e below (s₁.setTop (entryFrame m #[(.ref r0), (.int (0 : Int32)), (.ref r2), (.int (0 : Int32)), (.int (4 : Int32))] 7)) t := fun tt kt_ => castTop (ef_14_4 m r0 (0 : Int32) r2 (0 : Int32) (4 : Int32)) kt_
  have K0 : Keep h0 h0 [r2] := Keep.refl h0 [r2]
  obtain ⟨cl_12_1, Ar_12_1, -, S_12_1, M_12_1, H_12_1, -⟩ := id V_r0
  have hin12_1 : ¬ ((0 : Int32) < 0 ∨ cl_12_1.slots.size ≤ ((0 : Int32)).toNatClampNeg) := inb_of S_12_1 ⟨by decide, by decide⟩
  have hat12_1 : cl_12_1.slots[((0 : Int32)).toNatClampNeg]? = some (.int c0) := H_12_1.at hin12_1 rfl
  obtain ⟨cl_31_2, Ar_31_2, q_31_2, S_31_2, N_31_2, H_31_2, G_31_2⟩ := id V_r2
  have hin31_2 : ¬ ((0 : Int32) < 0 ∨ cl_31_2.slots.size ≤ ((0 : Int32)).toNatClampNeg) := inb_of S_31_2 ⟨by decide, by decide⟩
  obtain ⟨T3, h3, X3, e3, W3, st3⟩ := stB X0 hx hZ e0 Ar_31_2 (j := (0 : Int32)) hin31_2 (g := (mkF m 31 #[.val (.ref r0), .val (.int (0 : Int32)), .val (.ref r2), .val (.int (0 : Int32)), .val (.int (4 : Int32)), .val (.int (0 : Int32)), .val (.int c0)] [(.int (c0.toInt8.toInt32)), (.int (0 : Int32)), (.ref r2)])) rfl rfl (hb hby d14_31)
  rw [show nar .byte (c0.toInt8.toInt32) = own_by c0 from own_nn c0] at W3
  have V_r0_at3 : Arv Z h3 r0 ka .char (4 : Int32) [(.int c0), (.int c1), (.int c2), (.int c3)] (.int (0 : Int32)) := V_r0.other W3 ne_r0_r2
  have xV_r2_at3 := Arv.set Ar_31_2 q_31_2 S_31_2 N_31_2 H_31_2 G_31_2 (fits_nar_byte _) W3 0 rfl (Nat.le_of_ble_eq_true rfl)
  have V_r2_at3 : Arv Z h3 r2 kb .byte (4 : Int32) [(.int (own_by c0)), (.int (0 : Int32)), (.int (0 : Int32)), (.int (0 : Int32))] (.int (0 : Int32)) := xV_r2_at3
  have K3 : Keep h0 h3 [r2] := K0.wr W3 (Or.inl (List.mem_of_getElem? (i := 0) rfl))
  have Z3 : n0 ≤ h3.size := Nat.le_trans Z0 (Keep.of_wr W3).1
  have N3 := Fr.snoc X3 N0 g_r2
  obtain ⟨cl_12_4, Ar_12_4, -, S_12_4, M_12_4, H_12_4, -⟩ := id V_r0_at3
  have hin12_4 : ¬ ((1 : Int32) < 0 ∨ cl_12_4.slots.size ≤ ((1 : Int32)).toNatClampNeg) := inb_of S_12_4 ⟨by decide, by decide⟩
  have hat12_4 : cl_12_4.slots[((1 : Int32)).toNatClampNeg]? = some (.int c1) := H_12_4.at hin12_4 rfl
  obtain ⟨cl_31_5, Ar_31_5, q_31_5, S_31_5, N_31_5, H_31_5, G_31_5⟩ := id V_r2_at3
  have hin31_5 : ¬ ((1 : Int32) < 0 ∨ cl_31_5.slots.size ≤ ((1 : Int32)).toNatClampNeg) := inb_of S_31_5 ⟨by decide, by decide⟩
  obtain ⟨T6, h6, X6, e6, W6, st6⟩ := stB X3 hx hZ e3 Ar_31_5 (j := (1 : Int32)) hin31_5 (g := (mkF m 31 #[.val (.ref r0), .val (.int (1 : Int32)), .val (.ref r2), .val (.int (1 : Int32)), .val (.int (4 : Int32)), .val (.int (1 : Int32)), .val (.int c1)] [(.int (c1.toInt8.toInt32)), (.int (1 : Int32)), (.ref r2)])) rfl rfl (hb hby d14_31)
  rw [show nar .byte (c1.toInt8.toInt32) = own_by c1 from own_nn c1] at W6
  have V_r0_at6 : Arv Z h6 r0 ka .char (4 : Int32) [(.int c0), (.int c1), (.int c2), (.int c3)] (.int (0 : Int32)) := V_r0_at3.other W6 ne_r0_r2
  have xV_r2_at6 := Arv.set Ar_31_5 q_31_5 S_31_5 N_31_5 H_31_5 G_31_5 (fits_nar_byte _) W6 1 rfl (Nat.le_of_ble_eq_true rfl)
  have V_r2_at6 : Arv Z h6 r2 kb .byte (4 : Int32) [(.int (own_by c0)), (.int (own_by c1)), (.int (0 : Int32)), (.int (0 : Int32))] (.int (0 : Int32)) := xV_r2_at6
  have K6 : Keep h0 h6 [r2] := K3.wr W6 (Or.inl (List.mem_of_getElem? (i := 0) rfl))
  have Z6 : n0 ≤ h6.size := Nat.le_trans Z3 (Keep.of_wr W6).1
  have N6 := Fr.snoc X6 N3 g_r2
  obtain ⟨cl_12_7, Ar_12_7, -, S_12_7, M_12_7, H_12_7, -⟩ := id V_r0_at6
  have hin12_7 : ¬ ((2 : Int32) < 0 ∨ cl_12_7.slots.size ≤ ((2 : Int32)).toNatClampNeg) := inb_of S_12_7 ⟨by decide, by decide⟩
  have hat12_7 : cl_12_7.slots[((2 : Int32)).toNatClampNeg]? = some (.int c2) := H_12_7.at hin12_7 rfl
  obtain ⟨cl_31_8, Ar_31_8, q_31_8, S_31_8, N_31_8, H_31_8, G_31_8⟩ := id V_r2_at6
  have hin31_8 : ¬ ((2 : Int32) < 0 ∨ cl_31_8.slots.size ≤ ((2 : Int32)).toNatClampNeg) := inb_of S_31_8 ⟨by decide, by decide⟩
  obtain ⟨T9, h9, X9, e9, W9, st9⟩ := stB X6 hx hZ e6 Ar_31_8 (j := (2 : Int32)) hin31_8 (g := (mkF m 31 #[.val (.ref r0), .val (.int (2 : Int32)), .val (.ref r2), .val (.int (2 : Int32)), .val (.int (4 : Int32)), .val (.int (2 : Int32)), .val (.int c2)] [(.int (c2.toInt8.toInt32)), (.int (2 : Int32)), (.ref r2)])) rfl rfl (hb hby d14_31)
  rw [show nar .byte (c2.toInt8.toInt32) = own_by c2 from own_nn c2] at W9
  have V_r0_at9 : Arv Z h9 r0 ka .char (4 : Int32) [(.int c0), (.int c1), (.int c2), (.int c3)] (.int (0 : Int32)) := V_r0_at6.other W9 ne_r0_r2
  have xV_r2_at9 := Arv.set Ar_31_8 q_31_8 S_31_8 N_31_8 H_31_8 G_31_8 (fits_nar_byte _) W9 2 rfl (Nat.le_of_ble_eq_true rfl)
  have V_r2_at9 : Arv Z h9 r2 kb .byte (4 : Int32) [(.int (own_by c0)), (.int (own_by c1)), (.int (own_by c2)), (.int (0 : Int32))] (.int (0 : Int32)) := xV_r2_at9
  have K9 : Keep h0 h9 [r2] := K6.wr W9 (Or.inl (List.mem_of_getElem? (i := 0) rfl))
  have Z9 : n0 ≤ h9.size := Nat.le_trans Z6 (Keep.of_wr W9).1
  have N9 := Fr.snoc X9 N6 g_r2
  obtain ⟨cl_12_10, Ar_12_10, -, S_12_10, M_12_10, H_12_10, -⟩ := id V_r0_at9
  have hin12_10 : ¬ ((3 : Int32) < 0 ∨ cl_12_10.slots.size ≤ ((3 : Int32)).toNatClampNeg) := inb_of S_12_10 ⟨by decide, by decide⟩
  have hat12_10 : cl_12_10.slots[((3 : Int32)).toNatClampNeg]? = some (.int c3) := H_12_10.at hin12_10 rfl
  obtain ⟨cl_31_11, Ar_31_11, q_31_11, S_31_11, N_31_11, H_31_11, G_31_11⟩ := id V_r2_at9
  have hin31_11 : ¬ ((3 : Int32) < 0 ∨ cl_31_11.slots.size ≤ ((3 : Int32)).toNatClampNeg) := inb_of S_31_11 ⟨by decide, by decide⟩
  obtain ⟨T12, h12, X12, e12, W12, st12⟩ := stB X9 hx hZ e9 Ar_31_11 (j := (3 : Int32)) hin31_11 (g := (mkF m 31 #[.val (.ref r0), .val (.int (3 : Int32)), .val (.ref r2), .val (.int (3 : Int32)), .val (.int (4 : Int32)), .val (.int (3 : Int32)), .val (.int c3)] [(.int (c3.toInt8.toInt32)), (.int (3 : Int32)), (.ref r2)])) rfl rfl (hb hby d14_31)
  rw [show nar .byte (c3.toInt8.toInt32) = own_by c3 from own_nn c3] at W12
  have V_r0_at12 : Arv Z h12 r0 ka .char (4 : Int32) [(.int c0), (.int c1), (.int c2), (.int c3)] (.int (0 : Int32)) := V_r0_at9.other W12 ne_r0_r2
  have xV_r2_at12 := Arv.set Ar_31_11 q_31_11 S_31_11 N_31_11 H_31_11 G_31_11 (fits_nar_byte _) W12 3 rfl (Nat.le_of_ble_eq_true rfl)
  have V_r2_at12 : Arv Z h12 r2 kb .byte (4 : Int32) [(.int (own_by c0)), (.int (own_by c1)), (.int (own_by c2)), (.int (own_by c3))] (.int (0 : Int32)) := xV_r2_at12
  have K12 : Keep h0 h12 [r2] := K9.wr W12 (Or.inl (List.mem_of_getElem? (i := 0) rfl))
  have Z12 : n0 ≤ h12.size := Nat.le_trans Z9 (Keep.of_wr W12).1
  have N12 := Fr.snoc X12 N9 g_r2
  obtain ⟨fs, hr, hrun, hended, hW, hsame⟩ := X12.leave (v := some (.int (4 : Int32))) (fun h => by rw [Bd.returns] at h; cases h)
  refine ⟨_, _, pre0 _ ?_, hrun, hended, _, _, rfl, ?_, ⟨_, rfl⟩, hW, hsame.mono (by decide) (by decide)⟩
  · show Steps p.tables e below (s₁.setTop (mkF m 0 #[.val (.ref r0), .val (.int (0 : Int32)), .val (.ref r2), .val (.int (0 : Int32)), .val (.int (4 : Int32)), .unset, .unset] [])) _
    refine XS.iconst X0.here hx rfl (hb hby d14_0) ?_
    show Steps p.tables e below (s₁.setTop (mkF m 1 #[.val (.ref r0), .val (.int (0 : Int32)), .val (.ref r2), .val (.int (0 : Int32)), .val (.int (4 : Int32)), .unset, .unset] [(.int (0 : Int32))])) _
    refine XS.istore X0.here hx rfl (hb hby d14_1) rfl (l' := #[.val (.ref r0), .val (.int (0 : Int32)), .val (.ref r2), .val (.int (0 : Int32)), .val (.int (4 : Int32)), .val (.int (0 : Int32)), .unset]) rfl ?_
    refine XS.iload X0.here hx rfl (hb hby d14_3) rfl ?_
    refine XS.iload X0.here hx rfl (hb hby d14_5) rfl ?_
    show Steps p.tables e below (s₁.setTop (mkF m 7 #[.val (.ref r0), .val (.int (0 : Int32)), .val (.ref r2), .val (.int (0 : Int32)), .val (.int (4 : Int32)), .val (.int (0 : Int32)), .unset] [(.int (4 : Int32)), (.int (0 : Int32))])) _
    refine XS.icmpNo X0.here hx rfl (hb hby d14_7) rfl (tlt (by decide : (0 : Int32) < (4 : Int32))).2.1 ?_
    refine XS.aloadN X0.here hx rfl (hb hby d14_10) rfl rfl ?_
    refine XS.iloadN X0.here hx rfl (hb hby d14_11) rfl ?_
    show Steps p.tables e below (s₁.setTop (mkF m 12 #[.val (.ref r0), .val (.int (0 : Int32)), .val (.ref r2), .val (.int (0 : Int32)), .val (.int (4 : Int32)), .val (.int (0 : Int32)), .unset] [(.int (0 : Int32)), (.ref r0)])) _
    refine X0.caload hx (j := (0 : Int32)) (v := (.int c0)) (by rw [e0]; exact Ar_12_1.1) (State.isArrayOf_alike hZ.alike Ar_12_1.2.1) Ar_12_1.2.2 hin12_1 hat12_1 (g := (mkF m 12 #[.val (.ref r0), .val (.int (0 : Int32)), .val (.ref r2), .val (.int (0 : Int32)), .val (.int (4 : Int32)), .val (.int (0 : Int32)), .unset] [(.int (0 : Int32)), (.ref r0)])) rfl rfl (hb hby d14_12) _ ?_
    show Steps p.tables e below (s₁.setTop (mkF m 13 #[.val (.ref r0), .val (.int (0 : Int32)), .val (.ref r2), .val (.int (0 : Int32)), .val (.int (4 : Int32)), .val (.int (0 : Int32)), .unset] [(.int c0)])) _
    refine XS.istore X0.here hx rfl (hb hby d14_13) rfl (l' := #[.val (.ref r0), .val (.int (0 : Int32)), .val (.ref r2), .val (.int (0 : Int32)), .val (.int (4 : Int32)), .val (.int (0 : Int32)), .val (.int c0)]) rfl ?_
    refine XS.iload X0.here hx rfl (hb hby d14_15) rfl ?_
    refine XS.sipush X0.here hx rfl (hb hby d14_17) ?_
    show Steps p.tables e below (s₁.setTop (mkF m 20 #[.val (.ref r0), .val (.int (0 : Int32)), .val (.ref r2), .val (.int (0 : Int32)), .val (.int (4 : Int32)), .val (.int (0 : Int32)), .val (.int c0)] [(.int (255 : Int32)), (.int c0)])) _
    refine XS.icmpYes X0.here hx rfl (pc0 := 20) (pc' := 26) rfl (hb hby d14_20) rfl (flt (own_le hc0)).2.2.2 (by decide) (by decide) ?_
    refine XS.aloadN X0.here hx rfl (hb hby d14_26) rfl rfl ?_
    refine XS.iloadN X0.here hx rfl (hb hby d14_27) rfl ?_
    refine XS.iload X0.here hx rfl (hb hby d14_28) rfl ?_
    show Steps p.tables e below (s₁.setTop (mkF m 30 #[.val (.ref r0), .val (.int (0 : Int32)), .val (.ref r2), .val (.int (0 : Int32)), .val (.int (4 : Int32)), .val (.int (0 : Int32)), .val (.int c0)] [(.int c0), (.int (0 : Int32)), (.ref r2)])) _
    refine XS.i2b X0.here hx rfl (hb hby d14_30) rfl ?_
    show Steps p.tables e below (s₁.setTop (mkF m 31 #[.val (.ref r0), .val (.int (0 : Int32)), .val (.ref r2), .val (.int (0 : Int32)), .val (.int (4 : Int32)), .val (.int (0 : Int32)), .val (.int c0)] [(.int (c0.toInt8.toInt32)), (.int (0 : Int32)), (.ref r2)])) _
    refine st3 _ ?_
    show Steps p.tables e below (T3.setTop (mkF m 32 #[.val (.ref r0), .val (.int (0 : Int32)), .val (.ref r2), .val (.int (0 : Int32)), .val (.int (4 : Int32)), .val (.int (0 : Int32)), .val (.int c0)] [])) _
    refine XS.iinc X3.here hx rfl (hb hby d14_32) rfl (l' := #[.val (.ref r0), .val (.int (1 : Int32)), .val (.ref r2), .val (.int (0 : Int32)), .val (.int (4 : Int32)), .val (.int (0 : Int32)), .val (.int c0)]) rfl ?_
    show Steps p.tables e below (T3.setTop (mkF m 35 #[.val (.ref r0), .val (.int (1 : Int32)), .val (.ref r2), .val (.int (0 : Int32)), .val (.int (4 : Int32)), .val (.int (0 : Int32)), .val (.int c0)] [])) _
    refine XS.iinc X3.here hx rfl (hb hby d14_35) rfl (l' := #[.val (.ref r0), .val (.int (1 : Int32)), .val (.ref r2), .val (.int (1 : Int32)), .val (.int (4 : Int32)), .val (.int (0 : Int32)), .val (.int c0)]) rfl ?_
    show Steps p.tables e below (T3.setTop (mkF m 38 #[.val (.ref r0), .val (.int (1 : Int32)), .val (.ref r2), .val (.int (1 : Int32)), .val (.int (4 : Int32)), .val (.int (0 : Int32)), .val (.int c0)] [])) _
    refine XS.iinc X3.here hx rfl (hb hby d14_38) rfl (l' := #[.val (.ref r0), .val (.int (1 : Int32)), .val (.ref r2), .val (.int (1 : Int32)), .val (.int (4 : Int32)), .val (.int (1 : Int32)), .val (.int c0)]) rfl ?_
    show Steps p.tables e below (T3.setTop (mkF m 41 #[.val (.ref r0), .val (.int (1 : Int32)), .val (.ref r2), .val (.int (1 : Int32)), .val (.int (4 : Int32)), .val (.int (1 : Int32)), .val (.int c0)] [])) _
    refine XS.goto X3.here hx rfl (pc0 := 41) (pc' := 3) rfl (hb hby d14_41) (by decide) (by decide) ?_
    refine XS.iload X3.here hx rfl (hb hby d14_3) rfl ?_
    refine XS.iload X3.here hx rfl (hb hby d14_5) rfl ?_
    show Steps p.tables e below (T3.setTop (mkF m 7 #[.val (.ref r0), .val (.int (1 : Int32)), .val (.ref r2), .val (.int (1 : Int32)), .val (.int (4 : Int32)), .val (.int (1 : Int32)), .val (.int c0)] [(.int (4 : Int32)), (.int (1 : Int32))])) _
    refine XS.icmpNo X3.here hx rfl (hb hby d14_7) rfl (tlt (by decide : (1 : Int32) < (4 : Int32))).2.1 ?_
    refine XS.aloadN X3.here hx rfl (hb hby d14_10) rfl rfl ?_
    refine XS.iloadN X3.here hx rfl (hb hby d14_11) rfl ?_
    show Steps p.tables e below (T3.setTop (mkF m 12 #[.val (.ref r0), .val (.int (1 : Int32)), .val (.ref r2), .val (.int (1 : Int32)), .val (.int (4 : Int32)), .val (.int (1 : Int32)), .val (.int c0)] [(.int (1 : Int32)), (.ref r0)])) _
    refine X3.caload hx (j := (1 : Int32)) (v := (.int c1)) (by rw [e3]; exact Ar_12_4.1) (State.isArrayOf_alike hZ.alike Ar_12_4.2.1) Ar_12_4.2.2 hin12_4 hat12_4 (g := (mkF m 12 #[.val (.ref r0), .val (.int (1 : Int32)), .val (.ref r2), .val (.int (1 : Int32)), .val (.int (4 : Int32)), .val (.int (1 : Int32)), .val (.int c0)] [(.int (1 : Int32)), (.ref r0)])) rfl rfl (hb hby d14_12) _ ?_
    show Steps p.tables e below (T3.setTop (mkF m 13 #[.val (.ref r0), .val (.int (1 : Int32)), .val (.ref r2), .val (.int (1 : Int32)), .val (.int (4 : Int32)), .val (.int (1 : Int32)), .val (.int c0)] [(.int c1)])) _
    refine XS.istore X3.here hx rfl (hb hby d14_13) rfl (l' := #[.val (.ref r0), .val (.int (1 : Int32)), .val (.ref r2), .val (.int (1 : Int32)), .val (.int (4 : Int32)), .val (.int (1 : Int32)), .val (.int c1)]) rfl ?_
    refine XS.iload X3.here hx rfl (hb hby d14_15) rfl ?_
    refine XS.sipush X3.here hx rfl (hb hby d14_17) ?_
    show Steps p.tables e below (T3.setTop (mkF m 20 #[.val (.ref r0), .val (.int (1 : Int32)), .val (.ref r2), .val (.int (1 : Int32)), .val (.int (4 : Int32)), .val (.int (1 : Int32)), .val (.int c1)] [(.int (255 : Int32)), (.int c1)])) _
    refine XS.icmpYes X3.here hx rfl (pc0 := 20) (pc' := 26) rfl (hb hby d14_20) rfl (flt (own_le hc1)).2.2.2 (by decide) (by decide) ?_
    refine XS.aloadN X3.here hx rfl (hb hby d14_26) rfl rfl ?_
    refine XS.iloadN X3.here hx rfl (hb hby d14_27) rfl ?_
    refine XS.iload X3.here hx rfl (hb hby d14_28) rfl ?_
    show Steps p.tables e below (T3.setTop (mkF m 30 #[.val (.ref r0), .val (.int (1 : Int32)), .val (.ref r2), .val (.int (1 : Int32)), .val (.int (4 : Int32)), .val (.int (1 : Int32)), .val (.int c1)] [(.int c1), (.int (1 : Int32)), (.ref r2)])) _
    refine XS.i2b X3.here hx rfl (hb hby d14_30) rfl ?_
    show Steps p.tables e below (T3.setTop (mkF m 31 #[.val (.ref r0), .val (.int (1 : Int32)), .val (.ref r2), .val (.int (1 : Int32)), .val (.int (4 : Int32)), .val (.int (1 : Int32)), .val (.int c1)] [(.int (c1.toInt8.toInt32)), (.int (1 : Int32)), (.ref r2)])) _
    refine st6 _ ?_
    show Steps p.tables e below (T6.setTop (mkF m 32 #[.val (.ref r0), .val (.int (1 : Int32)), .val (.ref r2), .val (.int (1 : Int32)), .val (.int (4 : Int32)), .val (.int (1 : Int32)), .val (.int c1)] [])) _
    refine XS.iinc X6.here hx rfl (hb hby d14_32) rfl (l' := #[.val (.ref r0), .val (.int (2 : Int32)), .val (.ref r2), .val (.int (1 : Int32)), .val (.int (4 : Int32)), .val (.int (1 : Int32)), .val (.int c1)]) rfl ?_
    show Steps p.tables e below (T6.setTop (mkF m 35 #[.val (.ref r0), .val (.int (2 : Int32)), .val (.ref r2), .val (.int (1 : Int32)), .val (.int (4 : Int32)), .val (.int (1 : Int32)), .val (.int c1)] [])) _
    refine XS.iinc X6.here hx rfl (hb hby d14_35) rfl (l' := #[.val (.ref r0), .val (.int (2 : Int32)), .val (.ref r2), .val (.int (2 : Int32)), .val (.int (4 : Int32)), .val (.int (1 : Int32)), .val (.int c1)]) rfl ?_
    show Steps p.tables e below (T6.setTop (mkF m 38 #[.val (.ref r0), .val (.int (2 : Int32)), .val (.ref r2), .val (.int (2 : Int32)), .val (.int (4 : Int32)), .val (.int (1 : Int32)), .val (.int c1)] [])) _
    refine XS.iinc X6.here hx rfl (hb hby d14_38) rfl (l' := #[.val (.ref r0), .val (.int (2 : Int32)), .val (.ref r2), .val (.int (2 : Int32)), .val (.int (4 : Int32)), .val (.int (2 : Int32)), .val (.int c1)]) rfl ?_
    show Steps p.tables e below (T6.setTop (mkF m 41 #[.val (.ref r0), .val (.int (2 : Int32)), .val (.ref r2), .val (.int (2 : Int32)), .val (.int (4 : Int32)), .val (.int (2 : Int32)), .val (.int c1)] [])) _
    refine XS.goto X6.here hx rfl (pc0 := 41) (pc' := 3) rfl (hb hby d14_41) (by decide) (by decide) ?_
    refine XS.iload X6.here hx rfl (hb hby d14_3) rfl ?_
    refine XS.iload X6.here hx rfl (hb hby d14_5) rfl ?_
    show Steps p.tables e below (T6.setTop (mkF m 7 #[.val (.ref r0), .val (.int (2 : Int32)), .val (.ref r2), .val (.int (2 : Int32)), .val (.int (4 : Int32)), .val (.int (2 : Int32)), .val (.int c1)] [(.int (4 : Int32)), (.int (2 : Int32))])) _
    refine XS.icmpNo X6.here hx rfl (hb hby d14_7) rfl (tlt (by decide : (2 : Int32) < (4 : Int32))).2.1 ?_
    refine XS.aloadN X6.here hx rfl (hb hby d14_10) rfl rfl ?_
    refine XS.iloadN X6.here hx rfl (hb hby d14_11) rfl ?_
    show Steps p.tables e below (T6.setTop (mkF m 12 #[.val (.ref r0), .val (.int (2 : Int32)), .val (.ref r2), .val (.int (2 : Int32)), .val (.int (4 : Int32)), .val (.int (2 : Int32)), .val (.int c1)] [(.int (2 : Int32)), (.ref r0)])) _
    refine X6.caload hx (j := (2 : Int32)) (v := (.int c2)) (by rw [e6]; exact Ar_12_7.1) (State.isArrayOf_alike hZ.alike Ar_12_7.2.1) Ar_12_7.2.2 hin12_7 hat12_7 (g := (mkF m 12 #[.val (.ref r0), .val (.int (2 : Int32)), .val (.ref r2), .val (.int (2 : Int32)), .val (.int (4 : Int32)), .val (.int (2 : Int32)), .val (.int c1)] [(.int (2 : Int32)), (.ref r0)])) rfl rfl (hb hby d14_12) _ ?_
    show Steps p.tables e below (T6.setTop (mkF m 13 #[.val (.ref r0), .val (.int (2 : Int32)), .val (.ref r2), .val (.int (2 : Int32)), .val (.int (4 : Int32)), .val (.int (2 : Int32)), .val (.int c1)] [(.int c2)])) _
    refine XS.istore X6.here hx rfl (hb hby d14_13) rfl (l' := #[.val (.ref r0), .val (.int (2 : Int32)), .val (.ref r2), .val (.int (2 : Int32)), .val (.int (4 : Int32)), .val (.int (2 : Int32)), .val (.int c2)]) rfl ?_
    refine XS.iload X6.here hx rfl (hb hby d14_15) rfl ?_
    refine XS.sipush X6.here hx rfl (hb hby d14_17) ?_
    show Steps p.tables e below (T6.setTop (mkF m 20 #[.val (.ref r0), .val (.int (2 : Int32)), .val (.ref r2), .val (.int (2 : Int32)), .val (.int (4 : Int32)), .val (.int (2 : Int32)), .val (.int c2)] [(.int (255 : Int32)), (.int c2)])) _
    refine XS.icmpYes X6.here hx rfl (pc0 := 20) (pc' := 26) rfl (hb hby d14_20) rfl (flt (own_le hc2)).2.2.2 (by decide) (by decide) ?_
    refine XS.aloadN X6.here hx rfl (hb hby d14_26) rfl rfl ?_
    refine XS.iloadN X6.here hx rfl (hb hby d14_27) rfl ?_
    refine XS.iload X6.here hx rfl (hb hby d14_28) rfl ?_
    show Steps p.tables e below (T6.setTop (mkF m 30 #[.val (.ref r0), .val (.int (2 : Int32)), .val (.ref r2), .val (.int (2 : Int32)), .val (.int (4 : Int32)), .val (.int (2 : Int32)), .val (.int c2)] [(.int c2), (.int (2 : Int32)), (.ref r2)])) _
    refine XS.i2b X6.here hx rfl (hb hby d14_30) rfl ?_
    show Steps p.tables e below (T6.setTop (mkF m 31 #[.val (.ref r0), .val (.int (2 : Int32)), .val (.ref r2), .val (.int (2 : Int32)), .val (.int (4 : Int32)), .val (.int (2 : Int32)), .val (.int c2)] [(.int (c2.toInt8.toInt32)), (.int (2 : Int32)), (.ref r2)])) _
    refine st9 _ ?_
    show Steps p.tables e below (T9.setTop (mkF m 32 #[.val (.ref r0), .val (.int (2 : Int32)), .val (.ref r2), .val (.int (2 : Int32)), .val (.int (4 : Int32)), .val (.int (2 : Int32)), .val (.int c2)] [])) _
    refine XS.iinc X9.here hx rfl (hb hby d14_32) rfl (l' := #[.val (.ref r0), .val (.int (3 : Int32)), .val (.ref r2), .val (.int (2 : Int32)), .val (.int (4 : Int32)), .val (.int (2 : Int32)), .val (.int c2)]) rfl ?_
    show Steps p.tables e below (T9.setTop (mkF m 35 #[.val (.ref r0), .val (.int (3 : Int32)), .val (.ref r2), .val (.int (2 : Int32)), .val (.int (4 : Int32)), .val (.int (2 : Int32)), .val (.int c2)] [])) _
    refine XS.iinc X9.here hx rfl (hb hby d14_35) rfl (l' := #[.val (.ref r0), .val (.int (3 : Int32)), .val (.ref r2), .val (.int (3 : Int32)), .val (.int (4 : Int32)), .val (.int (2 : Int32)), .val (.int c2)]) rfl ?_
    show Steps p.tables e below (T9.setTop (mkF m 38 #[.val (.ref r0), .val (.int (3 : Int32)), .val (.ref r2), .val (.int (3 : Int32)), .val (.int (4 : Int32)), .val (.int (2 : Int32)), .val (.int c2)] [])) _
    refine XS.iinc X9.here hx rfl (hb hby d14_38) rfl (l' := #[.val (.ref r0), .val (.int (3 : Int32)), .val (.ref r2), .val (.int (3 : Int32)), .val (.int (4 : Int32)), .val (.int (3 : Int32)), .val (.int c2)]) rfl ?_
    show Steps p.tables e below (T9.setTop (mkF m 41 #[.val (.ref r0), .val (.int (3 : Int32)), .val (.ref r2), .val (.int (3 : Int32)), .val (.int (4 : Int32)), .val (.int (3 : Int32)), .val (.int c2)] [])) _
    refine XS.goto X9.here hx rfl (pc0 := 41) (pc' := 3) rfl (hb hby d14_41) (by decide) (by decide) ?_
    refine XS.iload X9.here hx rfl (hb hby d14_3) rfl ?_
    refine XS.iload X9.here hx rfl (hb hby d14_5) rfl ?_
    show Steps p.tables e below (T9.setTop (mkF m 7 #[.val (.ref r0), .val (.int (3 : Int32)), .val (.ref r2), .val (.int (3 : Int32)), .val (.int (4 : Int32)), .val (.int (3 : Int32)), .val (.int c2)] [(.int (4 : Int32)), (.int (3 : Int32))])) _
    refine XS.icmpNo X9.here hx rfl (hb hby d14_7) rfl (tlt (by decide : (3 : Int32) < (4 : Int32))).2.1 ?_
    refine XS.aloadN X9.here hx rfl (hb hby d14_10) rfl rfl ?_
    refine XS.iloadN X9.here hx rfl (hb hby d14_11) rfl ?_
    show Steps p.tables e below (T9.setTop (mkF m 12 #[.val (.ref r0), .val (.int (3 : Int32)), .val (.ref r2), .val (.int (3 : Int32)), .val (.int (4 : Int32)), .val (.int (3 : Int32)), .val (.int c2)] [(.int (3 : Int32)), (.ref r0)])) _
    refine X9.caload hx (j := (3 : Int32)) (v := (.int c3)) (by rw [e9]; exact Ar_12_10.1) (State.isArrayOf_alike hZ.alike Ar_12_10.2.1) Ar_12_10.2.2 hin12_10 hat12_10 (g := (mkF m 12 #[.val (.ref r0), .val (.int (3 : Int32)), .val (.ref r2), .val (.int (3 : Int32)), .val (.int (4 : Int32)), .val (.int (3 : Int32)), .val (.int c2)] [(.int (3 : Int32)), (.ref r0)])) rfl rfl (hb hby d14_12) _ ?_
    show Steps p.tables e below (T9.setTop (mkF m 13 #[.val (.ref r0), .val (.int (3 : Int32)), .val (.ref r2), .val (.int (3 : Int32)), .val (.int (4 : Int32)), .val (.int (3 : Int32)), .val (.int c2)] [(.int c3)])) _
    refine XS.istore X9.here hx rfl (hb hby d14_13) rfl (l' := #[.val (.ref r0), .val (.int (3 : Int32)), .val (.ref r2), .val (.int (3 : Int32)), .val (.int (4 : Int32)), .val (.int (3 : Int32)), .val (.int c3)]) rfl ?_
    refine XS.iload X9.here hx rfl (hb hby d14_15) rfl ?_
    refine XS.sipush X9.here hx rfl (hb hby d14_17) ?_
    show Steps p.tables e below (T9.setTop (mkF m 20 #[.val (.ref r0), .val (.int (3 : Int32)), .val (.ref r2), .val (.int (3 : Int32)), .val (.int (4 : Int32)), .val (.int (3 : Int32)), .val (.int c3)] [(.int (255 : Int32)), (.int c3)])) _
    refine XS.icmpYes X9.here hx rfl (pc0 := 20) (pc' := 26) rfl (hb hby d14_20) rfl (flt (own_le hc3)).2.2.2 (by decide) (by decide) ?_
    refine XS.aloadN X9.here hx rfl (hb hby d14_26) rfl rfl ?_
    refine XS.iloadN X9.here hx rfl (hb hby d14_27) rfl ?_
    refine XS.iload X9.here hx rfl (hb hby d14_28) rfl ?_
    show Steps p.tables e below (T9.setTop (mkF m 30 #[.val (.ref r0), .val (.int (3 : Int32)), .val (.ref r2), .val (.int (3 : Int32)), .val (.int (4 : Int32)), .val (.int (3 : Int32)), .val (.int c3)] [(.int c3), (.int (3 : Int32)), (.ref r2)])) _
    refine XS.i2b X9.here hx rfl (hb hby d14_30) rfl ?_
    show Steps p.tables e below (T9.setTop (mkF m 31 #[.val (.ref r0), .val (.int (3 : Int32)), .val (.ref r2), .val (.int (3 : Int32)), .val (.int (4 : Int32)), .val (.int (3 : Int32)), .val (.int c3)] [(.int (c3.toInt8.toInt32)), (.int (3 : Int32)), (.ref r2)])) _
    refine st12 _ ?_
    show Steps p.tables e below (T12.setTop (mkF m 32 #[.val (.ref r0), .val (.int (3 : Int32)), .val (.ref r2), .val (.int (3 : Int32)), .val (.int (4 : Int32)), .val (.int (3 : Int32)), .val (.int c3)] [])) _
    refine XS.iinc X12.here hx rfl (hb hby d14_32) rfl (l' := #[.val (.ref r0), .val (.int (4 : Int32)), .val (.ref r2), .val (.int (3 : Int32)), .val (.int (4 : Int32)), .val (.int (3 : Int32)), .val (.int c3)]) rfl ?_
    show Steps p.tables e below (T12.setTop (mkF m 35 #[.val (.ref r0), .val (.int (4 : Int32)), .val (.ref r2), .val (.int (3 : Int32)), .val (.int (4 : Int32)), .val (.int (3 : Int32)), .val (.int c3)] [])) _
    refine XS.iinc X12.here hx rfl (hb hby d14_35) rfl (l' := #[.val (.ref r0), .val (.int (4 : Int32)), .val (.ref r2), .val (.int (4 : Int32)), .val (.int (4 : Int32)), .val (.int (3 : Int32)), .val (.int c3)]) rfl ?_
    show Steps p.tables e below (T12.setTop (mkF m 38 #[.val (.ref r0), .val (.int (4 : Int32)), .val (.ref r2), .val (.int (4 : Int32)), .val (.int (4 : Int32)), .val (.int (3 : Int32)), .val (.int c3)] [])) _
    refine XS.iinc X12.here hx rfl (hb hby d14_38) rfl (l' := #[.val (.ref r0), .val (.int (4 : Int32)), .val (.ref r2), .val (.int (4 : Int32)), .val (.int (4 : Int32)), .val (.int (4 : Int32)), .val (.int c3)]) rfl ?_
    show Steps p.tables e below (T12.setTop (mkF m 41 #[.val (.ref r0), .val (.int (4 : Int32)), .val (.ref r2), .val (.int (4 : Int32)), .val (.int (4 : Int32)), .val (.int (4 : Int32)), .val (.int c3)] [])) _
    refine XS.goto X12.here hx rfl (pc0 := 41) (pc' := 3) rfl (hb hby d14_41) (by decide) (by decide) ?_
    refine XS.iload X12.here hx rfl (hb hby d14_3) rfl ?_
    refine XS.iload X12.here hx rfl (hb hby d14_5) rfl ?_
    show Steps p.tables e below (T12.setTop (mkF m 7 #[.val (.ref r0), .val (.int (4 : Int32)), .val (.ref r2), .val (.int (4 : Int32)), .val (.int (4 : Int32)), .val (.int (4 : Int32)), .val (.int c3)] [(.int (4 : Int32)), (.int (4 : Int32))])) _
    refine XS.icmpYes X12.here hx rfl (pc0 := 7) (pc' := 44) rfl (hb hby d14_7) rfl (flt (by decide : ¬ ((4 : Int32) < (4 : Int32)))).2.1 (by decide) (by decide) ?_
    refine XS.iload X12.here hx rfl (hb hby d14_44) rfl ?_
    show Steps p.tables e below (T12.setTop (mkF m 46 #[.val (.ref r0), .val (.int (4 : Int32)), .val (.ref r2), .val (.int (4 : Int32)), .val (.int (4 : Int32)), .val (.int (4 : Int32)), .val (.int c3)] [(.int (4 : Int32))])) _
    exact retI X12 hx Bd.returns (hb hby d14_46) hr
  · show Q14_4 Z r0 r2 ka kb c0 c1 c2 c3 h0 n0 _ T12.heap _
    rw [e12]
    exact ⟨rfl, N12, K12, V_r2_at12⟩
theorem ef_13_4 (m : MethodId) (x0 : Addr) (x1 : Int32) (x2 : Int32) : entryFrame m #[(.ref x0), (.int x1), (.int x2)] 6 = mkF m 0 #[.val (.ref x0), .val (.int x1), .val (.int x2), .unset, .unset, .unset] [] := by first | (simp [entryFrame, mkF, argsToLocals, Value.category]; done) | rfl
def Q13_4 (Z : State) (r0 : Addr) (ka : ClassId) (c0 c1 c2 c3 : Int32) (h0 : Heap) (n0 : Nat) (v : Option Value) (h : Heap) (L : List Loc) : Prop := ∃ (b : Addr) (kb : ClassId), v = some (.ref b) ∧ Fr n0 L ∧ Keep h0 h [] ∧ h0.size ≤ b ∧ Arv Z h b kb .byte (4 : Int32) [(.int (own_by c0)), (.int (own_by c1)), (.int (own_by c2)), (.int (own_by c3))] (.int (0 : Int32))
set_option maxRecDepth 65536 in
set_option maxHeartbeats 40000000 in
theorem rm13_4 (l : Launch) (Z : State) (a0 : Array Value) (hw : ∀ d ∈ tables_1, d.before a0 Z = true) (ws : List Jvm.Cond) (r0 : Addr) (ka : ClassId) (c0 c1 c2 c3 : Int32) (h0 : Heap) (n0 : Nat) (Z0 : n0 ≤ h0.size) (V_r0 : Arv Z h0 r0 ka .char (4 : Int32) [(.int c0), (.int c1), (.int c2), (.int c3)] (.int (0 : Int32))) (hc0 : own_ch c0) (hc1 : own_ch c1) (hc2 : own_ch c2) (hc3 : own_ch c3) :
    MetFree l (⟨"java/lang/StringUTF16", "compress", "([CII)[B"⟩ : MethodName) (head1 (Jvm.Cond.code (⟨"java/lang/StringUTF16", "compress", "([CII)[B"⟩ : MethodName) jdk_52_method_16_code 6 (some (.array .byte)) :: ws) ({ frames := 1, cells := 1, slots := 4, locals := 18 } : Room)) (fun a U => a = #[(.ref r0), (.int (0 : Int32)), (.int (4 : Int32))] ∧ Z.Warmed39 U.vm ∧ U.heap = h0) (fun _ _ _ _ _ => True) (fun _ U o U' => ∃ v L, o = .returned v ∧ Q13_4 Z r0 ka c0 c1 c2 c3 h0 n0 v U'.heap L ∧ FrameEnd U o U' L ({ frames := 1, cells := 1, slots := 4, locals := 18 } : Room).cells ({ frames := 1, cells := 1, slots := 4, locals := 18 } : Room).slots) := by
  refine MetFree.of_bodySF (plainFor_of_name pn_java_lang_StringUTF16) hisR ?_
  intro p e s m args below meth c s₁ Bd hml0 hP hK
  obtain ⟨rfl, hZ, hh⟩ := hP
  have hx := Bd.exec
  have hby := Bd.bytes
  have hml : c.maxLocals = 6 := hml0
  have hown : s.vm.findClass "java/lang/StringUTF16" = some m.cls := findClass_of_methodNamed Bd.named
  have hnm := (name_of_methodNamed Bd.named Bd.method).1
  have X0 : Stand p l e ({ frames := 1, cells := 1, slots := 4, locals := 18 } : Room) s m #[(.ref r0), (.int (0 : Int32)), (.int (4 : Int32))] below meth c s₁ [] 0 0 := Stand.of_body Bd
  have e0 : s₁.heap = h0 := by rw [← hh, Bd.state]; rfl
  have N0 := Fr.nil n0
  have pre0 : ∀ t, Steps p.tables e below (s₁.setTop (mkF m 0 #[.val (.ref r0), .val (.int (0 : Int32)), .val (.int (4 : Int32)), .unset, .unset, .unset] [])) t → Steps p.tables e below (s₁.setTop (entryFrame m #[(.ref r0), (.int (0 : Int32)), (.int (4 : Int32))] 6)) t := fun tt kt_ => castTop (ef_13_4 m r0 (0 : Int32) (4 : Int32)) kt_
  have K0 : Keep h0 h0 [] := Keep.refl h0 []
  obtain ⟨T1, h1, k1, X1, e1, E1, A1, st1⟩ := newP X0 hx hZ (hw _ (List.mem_of_getElem? (i := 23) rfl)) e0 (g := (mkF m 1 #[.val (.ref r0), .val (.int (0 : Int32)), .val (.int (4 : Int32)), .unset, .unset, .unset] [(.int (4 : Int32))])) rfl (hb hby d13_1) rfl (by decide) (cap := 4) (by decide) (by decide) (by decide) (by decide)
  obtain ⟨b1, g1⟩ : ∃ z, z = h0.size := ⟨_, rfl⟩
  rw [← g1] at A1 st1
  have g_b1 : n0 ≤ b1 := Nat.le_trans Z0 (Nat.le_of_eq g1.symm)
  have sz_b1 : h0.size ≤ b1 := Nat.le_trans K0.1 (Nat.le_of_eq g1.symm)
  have ne_r0_b1 : r0 ≠ b1 := Nat.ne_of_lt (Nat.lt_of_lt_of_le V_r0.lt (Nat.le_of_eq g1.symm))
  have V_r0_at1 : Arv Z h1 r0 ka .char (4 : Int32) [(.int c0), (.int c1), (.int c2), (.int c3)] (.int (0 : Int32)) := V_r0.ext E1
  have K1 : Keep h0 h1 [] := K0.ext E1
  have Z1 : n0 ≤ h1.size := Nat.le_trans Z0 E1.1
  have xV_b1_at1 := (Arv.new A1 (by decide)).pad (pad_rep [] (.int (0 : Int32)) 4)
  have V_b1_at1 : Arv Z h1 b1 k1 .byte (4 : Int32) [(.int (0 : Int32)), (.int (0 : Int32)), (.int (0 : Int32)), (.int (0 : Int32))] (.int (0 : Int32)) := xV_b1_at1
  obtain ⟨_, _, ⟨T2, L2, k2, n2⟩, -, X2, ⟨Lc2, hQ2, l2, y2, z2⟩, st2⟩ := Jvm.LawKit.callS X1 hx (y := (⟨"java/lang/StringUTF16", "compress", "([CI[BII)I"⟩ : MethodName)) hown (mvT hZ (hw _ (List.mem_of_getElem? (i := 68) rfl))) (mvT hZ (hw _ (List.mem_of_getElem? (i := 69) rfl))) (mvT hZ (hw _ (List.mem_of_getElem? (i := 66) rfl))) (mvT hZ (hw _ (List.mem_of_getElem? (i := 70) rfl))) (by decide) (backOf (W := 0) (rm14_4 l Z a0 hw [] r0 b1 ka k1 c0 c1 c2 c3 h1 n0 Z1 V_r0_at1 V_b1_at1 g_b1 ne_r0_b1 hc0 hc1 hc2 hc3) hZ (hw _ (List.mem_of_getElem? (i := 70) rfl)) (hw _ (List.mem_of_getElem? (i := 66) rfl)) (by decide) (by decide)) (g := (mkF m 9 #[.val (.ref r0), .val (.int (0 : Int32)), .val (.int (4 : Int32)), .val (.ref b1), .unset, .unset] [(.int (4 : Int32)), (.int (0 : Int32)), (.ref b1), (.int (0 : Int32)), (.ref r0)])) rfl (by rw [hml]; rfl) (argsL := [(.ref r0), (.int (0 : Int32)), (.ref b1), (.int (0 : Int32)), (.int (4 : Int32))]) (rest := []) (lenOf pd_285bCI5bBII29I rfl) rfl (by show 2 * 0 + _ ≤ _; exact Nat.le_of_eq rfl) (hb hby d13_9) (fun _ _ => ⟨rfl, e1, (by decide : 1 + 0 ≤ _), (by decide : 4 + 0 ≤ _)⟩)
  dsimp only [Pt.U, Pt.locs, Pt.cells, Pt.slots] at X2 l2 y2 z2 st2 hQ2
  subst l2 y2 z2
  obtain ⟨rfl, N2q, KK2, VB2⟩ := hQ2
  obtain ⟨h2, e2⟩ : ∃ z, T2.heap = z := ⟨_, rfl⟩
  rw [e2] at KK2 VB2
  have V_r0_at2 : Arv Z h2 r0 ka .char (4 : Int32) [(.int c0), (.int c1), (.int c2), (.int c3)] (.int (0 : Int32)) := V_r0_at1.keep KK2 (ninS ne_r0_b1 nin0)
  have K2 : Keep h0 h2 [] := K1.trans KK2 (allS (Or.inr sz_b1) all0)
  have Z2 : n0 ≤ h2.size := Nat.le_trans Z1 KK2.1
  have N2 := Fr.app N0 N2q
  obtain ⟨fs, hr, hrun, hended, hW, hsame⟩ := X2.leave (v := some (.ref b1)) (fun h => by rw [Bd.returns] at h; cases h)
  refine ⟨_, _, pre0 _ ?_, hrun, hended, _, _, rfl, ?_, ⟨_, rfl⟩, hW, hsame.mono (by decide) (by decide)⟩
  · show Steps p.tables e below (s₁.setTop (mkF m 0 #[.val (.ref r0), .val (.int (0 : Int32)), .val (.int (4 : Int32)), .unset, .unset, .unset] [])) _
    refine XS.iloadN X0.here hx rfl (hb hby d13_0) rfl ?_
    show Steps p.tables e below (s₁.setTop (mkF m 1 #[.val (.ref r0), .val (.int (0 : Int32)), .val (.int (4 : Int32)), .unset, .unset, .unset] [(.int (4 : Int32))])) _
    refine st1 _ ?_
    show Steps p.tables e below (T1.setTop (mkF m 3 #[.val (.ref r0), .val (.int (0 : Int32)), .val (.int (4 : Int32)), .unset, .unset, .unset] [(.ref b1)])) _
    refine XS.astoreN X1.here hx rfl (hb hby d13_3) rfl rfl (l' := #[.val (.ref r0), .val (.int (0 : Int32)), .val (.int (4 : Int32)), .val (.ref b1), .unset, .unset]) rfl ?_
    refine XS.aloadN X1.here hx rfl (hb hby d13_4) rfl rfl ?_
    refine XS.iloadN X1.here hx rfl (hb hby d13_5) rfl ?_
    refine XS.aloadN X1.here hx rfl (hb hby d13_6) rfl rfl ?_
    show Steps p.tables e below (T1.setTop (mkF m 7 #[.val (.ref r0), .val (.int (0 : Int32)), .val (.int (4 : Int32)), .val (.ref b1), .unset, .unset] [(.ref b1), (.int (0 : Int32)), (.ref r0)])) _
    refine XS.iconst X1.here hx rfl (hb hby d13_7) ?_
    refine XS.iloadN X1.here hx rfl (hb hby d13_8) rfl ?_
    show Steps p.tables e below (T1.setTop (mkF m 9 #[.val (.ref r0), .val (.int (0 : Int32)), .val (.int (4 : Int32)), .val (.ref b1), .unset, .unset] [(.int (4 : Int32)), (.int (0 : Int32)), (.ref b1), (.int (0 : Int32)), (.ref r0)])) _
    refine st2 _ ?_
    show Steps p.tables e below (T2.setTop (mkF m 12 #[.val (.ref r0), .val (.int (0 : Int32)), .val (.int (4 : Int32)), .val (.ref b1), .unset, .unset] [(.int (4 : Int32))])) _
    refine XS.istore X2.here hx rfl (hb hby d13_12) rfl (l' := #[.val (.ref r0), .val (.int (0 : Int32)), .val (.int (4 : Int32)), .val (.ref b1), .val (.int (4 : Int32)), .unset]) rfl ?_
    refine XS.iload X2.here hx rfl (hb hby d13_14) rfl ?_
    refine XS.iloadN X2.here hx rfl (hb hby d13_16) rfl ?_
    show Steps p.tables e below (T2.setTop (mkF m 17 #[.val (.ref r0), .val (.int (0 : Int32)), .val (.int (4 : Int32)), .val (.ref b1), .val (.int (4 : Int32)), .unset] [(.int (4 : Int32)), (.int (4 : Int32))])) _
    refine XS.icmpYes X2.here hx rfl (pc0 := 17) (pc' := 57) rfl (hb hby d13_17) rfl (teq (by decide : (4 : Int32) = (4 : Int32))).1 (by decide) (by decide) ?_
    refine XS.aloadN X2.here hx rfl (hb hby d13_57) rfl rfl ?_
    show Steps p.tables e below (T2.setTop (mkF m 58 #[.val (.ref r0), .val (.int (0 : Int32)), .val (.int (4 : Int32)), .val (.ref b1), .val (.int (4 : Int32)), .unset] [(.ref b1)])) _
    jvm_step X2.here [X2.here.top, hx, (hb hby d13_58), X2.method', Bd.returns, Value.isRef, FieldType.isReference]
    first | (intro acts; rw [hr _ acts rfl rfl rfl]) | rw [hr _ _ rfl rfl rfl]
    exact Steps.refl _
  · show Q13_4 Z r0 ka c0 c1 c2 c3 h0 n0 _ T2.heap _
    rw [e2]
    exact ⟨b1, _, rfl, N2, K2, sz_b1, VB2⟩
theorem ef_15_4 (m : MethodId) (x0 : Addr) (x1 : Int32) : entryFrame m #[(.ref x0), (.int x1)] 2 = mkF m 0 #[.val (.ref x0), .val (.int x1)] [] := by first | (simp [entryFrame, mkF, argsToLocals, Value.category]; done) | rfl
def Q15_4 (Z : State) (r0 : Addr) (ka : ClassId) (vs : List Value) (h0 : Heap) (n0 : Nat) (v : Option Value) (h : Heap) (L : List Loc) : Prop := v = some (.int (0 : Int32)) ∧ Fr n0 L ∧ h = h0
set_option maxRecDepth 65536 in
set_option maxHeartbeats 40000000 in
theorem rm15_4 (l : Launch) (Z : State) (a0 : Array Value) (hw : ∀ d ∈ tables_1, d.before a0 Z = true) (ws : List Jvm.Cond) (r0 : Addr) (ka : ClassId) (vs : List Value) (h0 : Heap) (n0 : Nat) (Z0 : n0 ≤ h0.size) (V_r0 : Arv Z h0 r0 ka .byte (4 : Int32) vs (.int (0 : Int32))) :
    MetFree l (⟨"java/lang/StringUTF16", "coderFromArrayLen", "([BI)B"⟩ : MethodName) (head1 (Jvm.Cond.code (⟨"java/lang/StringUTF16", "coderFromArrayLen", "([BI)B"⟩ : MethodName) jdk_52_method_15_code 2 (some .byte) :: ws) ({ frames := 0, cells := 0, slots := 0, locals := 0 } : Room)) (fun a U => a = #[(.ref r0), (.int (4 : Int32))] ∧ Z.Warmed39 U.vm ∧ U.heap = h0) (fun _ _ _ _ _ => True) (fun _ U o U' => ∃ v L, o = .returned v ∧ Q15_4 Z r0 ka vs h0 n0 v U'.heap L ∧ FrameEnd U o U' L ({ frames := 0, cells := 0, slots := 0, locals := 0 } : Room).cells ({ frames := 0, cells := 0, slots := 0, locals := 0 } : Room).slots) := by
  refine MetFree.of_bodySF (plainFor_of_name pn_java_lang_StringUTF16) hisR ?_
  intro p e s m args below meth c s₁ Bd hml0 hP hK
  obtain ⟨rfl, hZ, hh⟩ := hP
  have hx := Bd.exec
  have hby := Bd.bytes
  have hml : c.maxLocals = 2 := hml0
  have hown : s.vm.findClass "java/lang/StringUTF16" = some m.cls := findClass_of_methodNamed Bd.named
  have hnm := (name_of_methodNamed Bd.named Bd.method).1
  have X0 : Stand p l e ({ frames := 0, cells := 0, slots := 0, locals := 0 } : Room) s m #[(.ref r0), (.int (4 : Int32))] below meth c s₁ [] 0 0 := Stand.of_body Bd
  have e0 : s₁.heap = h0 := by rw [← hh, Bd.state]; rfl
  have N0 := Fr.nil n0
  have pre0 : ∀ t, Steps p.tables e below (s₁.setTop (mkF m 0 #[.val (.ref r0), .val (.int (4 : Int32))] [])) t → Steps p.tables e below (s₁.setTop (entryFrame m #[(.ref r0), (.int (4 : Int32))] 2)) t := fun tt kt_ => castTop (ef_15_4 m r0 (4 : Int32)) kt_
  obtain ⟨cl_2_1, Ar_2_1, -, S_2_1, M_2_1, -, -⟩ := id V_r0
  obtain ⟨fs, hr, hrun, hended, hW, hsame⟩ := X0.leave (v := some (.int (nar .byte ((((0 : Int32).toUInt32 >>> ((31 : Int32) &&& 31).toUInt32).toInt32).toInt8.toInt32)))) (fun h => by rw [Bd.returns] at h; cases h)
  refine ⟨_, _, pre0 _ ?_, hrun, hended, _, _, rfl, ?_, ⟨_, rfl⟩, hW, hsame.mono (by decide) (by decide)⟩
  · show Steps p.tables e below (s₁.setTop (mkF m 0 #[.val (.ref r0), .val (.int (4 : Int32))] [])) _
    refine XS.iloadN X0.here hx rfl (hb hby d15_0) rfl ?_
    refine XS.aloadN X0.here hx rfl (hb hby d15_1) rfl rfl ?_
    show Steps p.tables e below (s₁.setTop (mkF m 2 #[.val (.ref r0), .val (.int (4 : Int32))] [(.ref r0), (.int (4 : Int32))])) _
    refine X0.arraylength hx (by rw [e0]; exact Ar_2_1.1) (State.isArrayOf_alike hZ.alike Ar_2_1.2.1) (g := (mkF m 2 #[.val (.ref r0), .val (.int (4 : Int32))] [(.ref r0), (.int (4 : Int32))])) rfl rfl (hb hby d15_2) _ ?_
    rw [len_of S_2_1 M_2_1]
    show Steps p.tables e below (s₁.setTop (mkF m 3 #[.val (.ref r0), .val (.int (4 : Int32))] [(.int (4 : Int32)), (.int (4 : Int32))])) _
    refine XS.isub X0.here hx rfl (hb hby d15_3) rfl ?_
    refine XS.bipush X0.here hx rfl (hb hby d15_4) ?_
    show Steps p.tables e below (s₁.setTop (mkF m 6 #[.val (.ref r0), .val (.int (4 : Int32))] [(.int (31 : Int32)), (.int (0 : Int32))])) _
    refine XS.iushr X0.here hx rfl (hb hby d15_6) rfl ?_
    show Steps p.tables e below (s₁.setTop (mkF m 7 #[.val (.ref r0), .val (.int (4 : Int32))] [(.int (((0 : Int32).toUInt32 >>> ((31 : Int32) &&& 31).toUInt32).toInt32))])) _
    refine XS.i2b X0.here hx rfl (hb hby d15_7) rfl ?_
    show Steps p.tables e below (s₁.setTop (mkF m 8 #[.val (.ref r0), .val (.int (4 : Int32))] [(.int ((((0 : Int32).toUInt32 >>> ((31 : Int32) &&& 31).toUInt32).toInt32).toInt8.toInt32))])) _
    exact retN X0 hx (t := .byte) Bd.returns (by simp) (hb hby d15_8) hr
  · show Q15_4 Z r0 ka vs h0 n0 _ s₁.heap _
    rw [e0]
    exact ⟨rfl, N0, rfl⟩
theorem ef_4_4 (m : MethodId) (x0 : Addr) (x1 : Addr) (x2 : Int32) (x3 : Int32) : entryFrame m #[(.ref x0), (.ref x1), (.int x2), (.int x3), .null] 6 = mkF m 0 #[.val (.ref x0), .val (.ref x1), .val (.int x2), .val (.int x3), .val .null, .unset] [] := by first | (simp [entryFrame, mkF, argsToLocals, Value.category]; done) | rfl
def Q4_4 (Z : State) (r0 : Addr) (r1 : Addr) (ka : ClassId) (c0 c1 c2 c3 : Int32) (cs : Int32) (h0 : Heap) (n0 : Nat) (v : Option Value) (h : Heap) (L : List Loc) : Prop := v = none ∧ Fr n0 L ∧ Keep h0 h [r0] ∧ ∃ (b : Addr) (kb : ClassId), h0.size ≤ b ∧ Fld Z h r0 "java/lang/String" "coder" "B" (.int (0 : Int32)) ∧ Fld Z h r0 "java/lang/String" "value" "[B" (.ref b) ∧ Arv Z h b kb .byte (4 : Int32) [(.int (own_by c0)), (.int (own_by c1)), (.int (own_by c2)), (.int (own_by c3))] (.int (0 : Int32))
set_option maxRecDepth 65536 in
set_option maxHeartbeats 40000000 in
theorem rm4_4 (l : Launch) (Z : State) (a0 : Array Value) (hw : ∀ d ∈ tables_1, d.before a0 Z = true) (ws : List Jvm.Cond) (r0 : Addr) (r1 : Addr) (ka : ClassId) (c0 c1 c2 c3 : Int32) (cs : Int32) (h0 : Heap) (n0 : Nat) (Z0 : n0 ≤ h0.size) (E_r0 : Exa Z h0 r0 "java/lang/String") (F_value : Fld Z h0 r0 "java/lang/String" "value" "[B" .null) (F_coder : Fld Z h0 r0 "java/lang/String" "coder" "B" (.int (0 : Int32))) (g_r0 : n0 ≤ r0) (V_r1 : Arv Z h0 r1 ka .char (4 : Int32) [(.int c0), (.int c1), (.int c2), (.int c3)] (.int (0 : Int32))) (ne_r0_r1 : r0 ≠ r1) (O_0 : Old Z n0 h0) (S_cs : Sta Z Z.heap "java/lang/String" "COMPACT_STRINGS" "Z" (.int cs)) (hcs : ¬ (cs = (0 : Int32))) (hc0 : own_ch c0) (hc1 : own_ch c1) (hc2 : own_ch c2) (hc3 : own_ch c3) :
    MetFree l (⟨"java/lang/String", "<init>", "([CIILjava/lang/Void;)V"⟩ : MethodName) (head1 (Jvm.Cond.code (⟨"java/lang/String", "<init>", "([CIILjava/lang/Void;)V"⟩ : MethodName) jdk_42_method_149_code 6 none :: ws) ({ frames := 2, cells := 1, slots := 4, locals := 35 } : Room)) (fun a U => a = #[(.ref r0), (.ref r1), (.int (0 : Int32)), (.int (4 : Int32)), .null] ∧ Z.Warmed39 U.vm ∧ U.heap = h0) (fun _ _ _ _ _ => True) (fun _ U o U' => ∃ v L, o = .returned v ∧ Q4_4 Z r0 r1 ka c0 c1 c2 c3 cs h0 n0 v U'.heap L ∧ FrameEnd U o U' L ({ frames := 2, cells := 1, slots := 4, locals := 35 } : Room).cells ({ frames := 2, cells := 1, slots := 4, locals := 35 } : Room).slots) := by
  refine MetFree.of_bodySF (plainFor_of_name pn_java_lang_String) hisR ?_
  intro p e s m args below meth c s₁ Bd hml0 hP hK
  obtain ⟨rfl, hZ, hh⟩ := hP
  have hx := Bd.exec
  have hby := Bd.bytes
  have hml : c.maxLocals = 6 := hml0
  have hown : s.vm.findClass "java/lang/String" = some m.cls := findClass_of_methodNamed Bd.named
  have hnm := (name_of_methodNamed Bd.named Bd.method).1
  have X0 : Stand p l e ({ frames := 2, cells := 1, slots := 4, locals := 35 } : Room) s m #[(.ref r0), (.ref r1), (.int (0 : Int32)), (.int (4 : Int32)), .null] below meth c s₁ [] 0 0 := Stand.of_body Bd
  have e0 : s₁.heap = h0 := by rw [← hh, Bd.state]; rfl
  have N0 := Fr.nil n0
  have pre0 : ∀ t, Steps p.tables e below (s₁.setTop (mkF m 0 #[.val (.ref r0), .val (.ref r1), .val (.int (0 : Int32)), .val (.int (4 : Int32)), .val .null, .unset] [])) t → Steps p.tables e below (s₁.setTop (entryFrame m #[(.ref r0), (.ref r1), (.int (0 : Int32)), (.int (4 : Int32)), .null] 6)) t := fun tt kt_ => castTop (ef_4_4 m r0 r1 (0 : Int32) (4 : Int32)) kt_
  have K0 : Keep h0 h0 [r0] := Keep.refl h0 [r0]
  obtain ⟨T1, X1, e1, st1⟩ := initO X0 hx hZ hown (hw _ (List.mem_of_getElem? (i := 19) rfl)) (hw _ (List.mem_of_getElem? (i := 20) rfl)) (hw _ (List.mem_of_getElem? (i := 21) rfl)) e0 (g := (mkF m 1 #[.val (.ref r0), .val (.ref r1), .val (.int (0 : Int32)), .val (.int (4 : Int32)), .val .null, .unset] [(.ref r0)])) rfl (by rw [hml]; rfl) rfl (hb hby d4_1) (by decide) (W := 0) (by show 2 * 0 + _ ≤ _; exact Nat.le_of_eq rfl) (by decide)
  obtain ⟨T2, X2, e2, st2⟩ := getS2 X1 hx hZ hown (host := "") (Or.inl (hw _ (List.mem_of_getElem? (i := 44) rfl))) Via.refl e1 (Sta.ext O_0.2 S_cs) (g := (mkF m 27 #[.val (.ref r0), .val (.ref r1), .val (.int (0 : Int32)), .val (.int (4 : Int32)), .val .null, .unset] [])) rfl (hb hby d4_27)
  obtain ⟨_, _, ⟨T3, L3, k3, n3⟩, -, X3, ⟨Lc3, hQ3, l3, y3, z3⟩, st3⟩ := Jvm.LawKit.callS X2 hx (y := (⟨"java/lang/StringUTF16", "compress", "([CII)[B"⟩ : MethodName)) hown (mvT hZ (hw _ (List.mem_of_getElem? (i := 64) rfl))) (mvT hZ (hw _ (List.mem_of_getElem? (i := 65) rfl))) (mvT hZ (hw _ (List.mem_of_getElem? (i := 66) rfl))) (mvT hZ (hw _ (List.mem_of_getElem? (i := 67) rfl))) (by decide) (backOf (W := 0) (rm13_4 l Z a0 hw [] r1 ka c0 c1 c2 c3 h0 n0 Z0 V_r1 hc0 hc1 hc2 hc3) hZ (hw _ (List.mem_of_getElem? (i := 67) rfl)) (hw _ (List.mem_of_getElem? (i := 66) rfl)) (by decide) (by decide)) (g := (mkF m 36 #[.val (.ref r0), .val (.ref r1), .val (.int (0 : Int32)), .val (.int (4 : Int32)), .val .null, .unset] [(.int (4 : Int32)), (.int (0 : Int32)), (.ref r1)])) rfl (by rw [hml]; rfl) (argsL := [(.ref r1), (.int (0 : Int32)), (.int (4 : Int32))]) (rest := []) (lenOf pd_285bCII295bB rfl) rfl (by show 2 * 0 + _ ≤ _; exact Nat.le_of_eq rfl) (hb hby d4_36) (fun _ _ => ⟨rfl, e2, (by decide : 0 + 1 ≤ _), (by decide : 0 + 4 ≤ _)⟩)
  dsimp only [Pt.U, Pt.locs, Pt.cells, Pt.slots] at X3 l3 y3 z3 st3 hQ3
  subst l3 y3 z3
  obtain ⟨b3, kb3, rfl, N3q, KK3, gb3, VB3⟩ := hQ3
  obtain ⟨h3, e3⟩ : ∃ z, T3.heap = z := ⟨_, rfl⟩
  rw [e3] at KK3 VB3
  have E_r0_at3 : Exa Z h3 r0 "java/lang/String" := E_r0.keep KK3
  have O_0_at3 : Old Z n0 h3 := O_0.keep KK3 all0
  have F_value_at3 : Fld Z h3 r0 "java/lang/String" "value" "[B" .null := F_value.keep KK3 nin0
  have F_coder_at3 : Fld Z h3 r0 "java/lang/String" "coder" "B" (.int (0 : Int32)) := F_coder.keep KK3 nin0
  have V_r1_at3 : Arv Z h3 r1 ka .char (4 : Int32) [(.int c0), (.int c1), (.int c2), (.int c3)] (.int (0 : Int32)) := V_r1.keep KK3 nin0
  have K3 : Keep h0 h3 [r0] := K0.trans KK3 all0
  have Z3 : n0 ≤ h3.size := Nat.le_trans Z0 KK3.1
  have ne_r0_b3 : r0 ≠ b3 := Nat.ne_of_lt (Nat.lt_of_lt_of_le E_r0.lt gb3)
  have ne_r1_b3 : r1 ≠ b3 := Nat.ne_of_lt (Nat.lt_of_lt_of_le V_r1.lt gb3)
  have g_b3 : n0 ≤ b3 := Nat.le_trans Z0 gb3
  have sz_b3 : h0.size ≤ b3 := Nat.le_trans K0.1 gb3
  have N3 := Fr.app N0 N3q
  obtain ⟨_, _, ⟨T4, L4, k4, n4⟩, -, X4, ⟨Lc4, hQ4, l4, y4, z4⟩, st4⟩ := Jvm.LawKit.callS X3 hx (y := (⟨"java/lang/StringUTF16", "coderFromArrayLen", "([BI)B"⟩ : MethodName)) hown (mvT hZ (hw _ (List.mem_of_getElem? (i := 71) rfl))) (mvT hZ (hw _ (List.mem_of_getElem? (i := 72) rfl))) (mvT hZ (hw _ (List.mem_of_getElem? (i := 66) rfl))) (mvT hZ (hw _ (List.mem_of_getElem? (i := 73) rfl))) (by decide) (backOf (W := 1) (rm15_4 l Z a0 hw [] b3 kb3 [(.int (own_by c0)), (.int (own_by c1)), (.int (own_by c2)), (.int (own_by c3))] h3 n0 Z3 VB3) hZ (hw _ (List.mem_of_getElem? (i := 73) rfl)) (hw _ (List.mem_of_getElem? (i := 66) rfl)) (by decide) (by decide)) (g := (mkF m 45 #[.val (.ref r0), .val (.ref r1), .val (.int (0 : Int32)), .val (.int (4 : Int32)), .val .null, .val (.ref b3)] [(.int (4 : Int32)), (.ref b3), (.ref r0)])) rfl (by rw [hml]; rfl) (argsL := [(.ref b3), (.int (4 : Int32))]) (rest := [(.ref r0)]) (lenOf pd_285bBI29B rfl) rfl (by show 2 * 0 + _ ≤ _; exact Nat.le_of_eq rfl) (hb hby d4_45) (fun _ _ => ⟨rfl, e3, (by decide : 1 + 0 ≤ _), (by decide : 4 + 0 ≤ _)⟩)
  dsimp only [Pt.U, Pt.locs, Pt.cells, Pt.slots] at X4 l4 y4 z4 st4 hQ4
  subst l4 y4 z4
  obtain ⟨rfl, N4q, e4⟩ := hQ4
  have N4 := Fr.app N3 N4q
  obtain ⟨T5, h5, X5, e5, W5, st5⟩ := putFN X4 hx hZ hown (hw _ (List.mem_of_getElem? (i := 29) rfl)) Via.refl e4 F_coder_at3 E_r0_at3 (Or.inr ⟨(hw _ (List.mem_of_getElem? (i := 25) rfl)), rfl, hnm⟩) (hw _ (List.mem_of_getElem? (i := 10) rfl)) (ty := .byte) (v' := (.int (0 : Int32).toInt8.toInt32)) (by decide) rfl (fits_nar_byte _) (g := (mkF m 48 #[.val (.ref r0), .val (.ref r1), .val (.int (0 : Int32)), .val (.int (4 : Int32)), .val .null, .val (.ref b3)] [(.int (0 : Int32)), (.ref r0)])) rfl rfl (hb hby d4_48)
  have E_r0_at5 : Exa Z h5 r0 "java/lang/String" := E_r0_at3.wr W5
  have O_0_at5 : Old Z n0 h5 := O_0_at3.wr W5 g_r0
  have F_value_at5 : Fld Z h5 r0 "java/lang/String" "value" "[B" .null := F_value_at3.other W5 (Or.inr (slot_ne (Or.inr (hw _ (List.mem_of_getElem? (i := 24) rfl))) (Or.inr (hw _ (List.mem_of_getElem? (i := 25) rfl))) (by decide) (t := (.array .byte)) (t' := .byte) (by decide) (by decide)))
  have V_r1_at5 : Arv Z h5 r1 ka .char (4 : Int32) [(.int c0), (.int c1), (.int c2), (.int c3)] (.int (0 : Int32)) := V_r1_at3.other W5 (Ne.symm ne_r0_r1)
  have VB3_at5 : Arv Z h5 b3 kb3 .byte (4 : Int32) [(.int (own_by c0)), (.int (own_by c1)), (.int (own_by c2)), (.int (own_by c3))] (.int (0 : Int32)) := VB3.other W5 (Ne.symm ne_r0_b3)
  have F_coder_r0_at5 : Fld Z h5 r0 "java/lang/String" "coder" "B" (.int (0 : Int32).toInt8.toInt32) := F_coder_at3.same W5
  have K5 : Keep h0 h5 [r0] := K3.wr W5 (Or.inl (List.mem_of_getElem? (i := 0) rfl))
  have Z5 : n0 ≤ h5.size := Nat.le_trans Z3 (Keep.of_wr W5).1
  have N5 := Fr.snoc X5 N4 g_r0
  obtain ⟨T6, h6, X6, e6, W6, st6⟩ := putF X5 hx hZ hown (host := "") (Or.inl (hw _ (List.mem_of_getElem? (i := 28) rfl))) Via.refl e5 F_value_at5 E_r0_at5 (Or.inr ⟨(hw _ (List.mem_of_getElem? (i := 24) rfl)), rfl, hnm⟩) (hw _ (List.mem_of_getElem? (i := 10) rfl)) (ty := (.array .byte)) (by decide) rfl rfl (g := (mkF m 54 #[.val (.ref r0), .val (.ref r1), .val (.int (0 : Int32)), .val (.int (4 : Int32)), .val .null, .val (.ref b3)] [(.ref b3), (.ref r0)])) rfl rfl (hb hby d4_54)
  have E_r0_at6 : Exa Z h6 r0 "java/lang/String" := E_r0_at5.wr W6
  have O_0_at6 : Old Z n0 h6 := O_0_at5.wr W6 g_r0
  have V_r1_at6 : Arv Z h6 r1 ka .char (4 : Int32) [(.int c0), (.int c1), (.int c2), (.int c3)] (.int (0 : Int32)) := V_r1_at5.other W6 (Ne.symm ne_r0_r1)
  have VB3_at6 : Arv Z h6 b3 kb3 .byte (4 : Int32) [(.int (own_by c0)), (.int (own_by c1)), (.int (own_by c2)), (.int (own_by c3))] (.int (0 : Int32)) := VB3_at5.other W6 (Ne.symm ne_r0_b3)
  have F_coder_r0_at6 : Fld Z h6 r0 "java/lang/String" "coder" "B" (.int (0 : Int32).toInt8.toInt32) := F_coder_r0_at5.other W6 (Or.inr (slot_ne (Or.inr (hw _ (List.mem_of_getElem? (i := 25) rfl))) (Or.inr (hw _ (List.mem_of_getElem? (i := 24) rfl))) (by decide) (t := .byte) (t' := (.array .byte)) (by decide) (by decide)))
  have F_value_r0_at6 : Fld Z h6 r0 "java/lang/String" "value" "[B" (.ref b3) := F_value_at5.same W6
  have K6 : Keep h0 h6 [r0] := K5.wr W6 (Or.inl (List.mem_of_getElem? (i := 0) rfl))
  have Z6 : n0 ≤ h6.size := Nat.le_trans Z5 (Keep.of_wr W6).1
  have N6 := Fr.snoc X6 N5 g_r0
  obtain ⟨fs, hr, hrun, hended, hW, hsame⟩ := X6.leave (v := none) (fun _ => rfl)
  refine ⟨_, _, pre0 _ ?_, hrun, hended, _, _, rfl, ?_, ⟨_, rfl⟩, hW, hsame.mono (by decide) (by decide)⟩
  · show Steps p.tables e below (s₁.setTop (mkF m 0 #[.val (.ref r0), .val (.ref r1), .val (.int (0 : Int32)), .val (.int (4 : Int32)), .val .null, .unset] [])) _
    refine XS.aloadN X0.here hx rfl (hb hby d4_0) rfl rfl ?_
    show Steps p.tables e below (s₁.setTop (mkF m 1 #[.val (.ref r0), .val (.ref r1), .val (.int (0 : Int32)), .val (.int (4 : Int32)), .val .null, .unset] [(.ref r0)])) _
    refine st1 _ ?_
    show Steps p.tables e below (T1.setTop (mkF m 4 #[.val (.ref r0), .val (.ref r1), .val (.int (0 : Int32)), .val (.int (4 : Int32)), .val .null, .unset] [])) _
    refine XS.iloadN X1.here hx rfl (hb hby d4_4) rfl ?_
    show Steps p.tables e below (T1.setTop (mkF m 5 #[.val (.ref r0), .val (.ref r1), .val (.int (0 : Int32)), .val (.int (4 : Int32)), .val .null, .unset] [(.int (4 : Int32))])) _
    refine XS.ifYes X1.here hx rfl (pc0 := 5) (pc' := 27) rfl (hb hby d4_5) rfl ((if0 _ _).trans (feq (by decide : ¬ ((4 : Int32) = (0 : Int32)))).2) (by decide) (by decide) ?_
    show Steps p.tables e below (T1.setTop (mkF m 27 #[.val (.ref r0), .val (.ref r1), .val (.int (0 : Int32)), .val (.int (4 : Int32)), .val .null, .unset] [])) _
    refine st2 _ ?_
    show Steps p.tables e below (T2.setTop (mkF m 30 #[.val (.ref r0), .val (.ref r1), .val (.int (0 : Int32)), .val (.int (4 : Int32)), .val .null, .unset] [(.int cs)])) _
    refine XS.ifNo X2.here hx rfl (hb hby d4_30) rfl ((if0 _ _).trans (feq hcs).1) ?_
    refine XS.aloadN X2.here hx rfl (hb hby d4_33) rfl rfl ?_
    refine XS.iloadN X2.here hx rfl (hb hby d4_34) rfl ?_
    refine XS.iloadN X2.here hx rfl (hb hby d4_35) rfl ?_
    show Steps p.tables e below (T2.setTop (mkF m 36 #[.val (.ref r0), .val (.ref r1), .val (.int (0 : Int32)), .val (.int (4 : Int32)), .val .null, .unset] [(.int (4 : Int32)), (.int (0 : Int32)), (.ref r1)])) _
    refine st3 _ ?_
    show Steps p.tables e below (T3.setTop (mkF m 39 #[.val (.ref r0), .val (.ref r1), .val (.int (0 : Int32)), .val (.int (4 : Int32)), .val .null, .unset] [(.ref b3)])) _
    refine XS.astore X3.here hx rfl (hb hby d4_39) rfl rfl (l' := #[.val (.ref r0), .val (.ref r1), .val (.int (0 : Int32)), .val (.int (4 : Int32)), .val .null, .val (.ref b3)]) rfl ?_
    refine XS.aloadN X3.here hx rfl (hb hby d4_41) rfl rfl ?_
    refine XS.aload X3.here hx rfl (hb hby d4_42) rfl rfl ?_
    refine XS.iloadN X3.here hx rfl (hb hby d4_44) rfl ?_
    show Steps p.tables e below (T3.setTop (mkF m 45 #[.val (.ref r0), .val (.ref r1), .val (.int (0 : Int32)), .val (.int (4 : Int32)), .val .null, .val (.ref b3)] [(.int (4 : Int32)), (.ref b3), (.ref r0)])) _
    refine st4 _ ?_
    show Steps p.tables e below (T4.setTop (mkF m 48 #[.val (.ref r0), .val (.ref r1), .val (.int (0 : Int32)), .val (.int (4 : Int32)), .val .null, .val (.ref b3)] [(.int (0 : Int32)), (.ref r0)])) _
    refine st5 _ ?_
    show Steps p.tables e below (T5.setTop (mkF m 51 #[.val (.ref r0), .val (.ref r1), .val (.int (0 : Int32)), .val (.int (4 : Int32)), .val .null, .val (.ref b3)] [])) _
    refine XS.aloadN X5.here hx rfl (hb hby d4_51) rfl rfl ?_
    refine XS.aload X5.here hx rfl (hb hby d4_52) rfl rfl ?_
    show Steps p.tables e below (T5.setTop (mkF m 54 #[.val (.ref r0), .val (.ref r1), .val (.int (0 : Int32)), .val (.int (4 : Int32)), .val .null, .val (.ref b3)] [(.ref b3), (.ref r0)])) _
    refine st6 _ ?_
    show Steps p.tables e below (T6.setTop (mkF m 57 #[.val (.ref r0), .val (.ref r1), .val (.int (0 : Int32)), .val (.int (4 : Int32)), .val .null, .val (.ref b3)] [])) _
    exact X6.returnOut hx Bd.returns (hb hby d4_57) hr
  · show Q4_4 Z r0 r1 ka c0 c1 c2 c3 cs h0 n0 _ T6.heap _
    rw [e6]
    exact ⟨rfl, N6, K6, b3, _, sz_b3, F_coder_r0_at6, F_value_r0_at6, VB3_at6⟩
theorem ef_3_4 (m : MethodId) (x0 : Addr) (x1 : Addr) : entryFrame m #[(.ref x0), (.ref x1)] 2 = mkF m 0 #[.val (.ref x0), .val (.ref x1)] [] := by first | (simp [entryFrame, mkF, argsToLocals, Value.category]; done) | rfl
def Q3_4 (Z : State) (r0 : Addr) (r1 : Addr) (ka : ClassId) (c0 c1 c2 c3 : Int32) (cs : Int32) (h0 : Heap) (n0 : Nat) (v : Option Value) (h : Heap) (L : List Loc) : Prop := v = none ∧ Fr n0 L ∧ Keep h0 h [r0] ∧ ∃ (b : Addr) (kb : ClassId), h0.size ≤ b ∧ Fld Z h r0 "java/lang/String" "coder" "B" (.int (0 : Int32)) ∧ Fld Z h r0 "java/lang/String" "value" "[B" (.ref b) ∧ Arv Z h b kb .byte (4 : Int32) [(.int (own_by c0)), (.int (own_by c1)), (.int (own_by c2)), (.int (own_by c3))] (.int (0 : Int32))
set_option maxRecDepth 65536 in
set_option maxHeartbeats 40000000 in
theorem rm3_4 (l : Launch) (Z : State) (a0 : Array Value) (hw : ∀ d ∈ tables_1, d.before a0 Z = true) (ws : List Jvm.Cond) (r0 : Addr) (r1 : Addr) (ka : ClassId) (c0 c1 c2 c3 : Int32) (cs : Int32) (h0 : Heap) (n0 : Nat) (Z0 : n0 ≤ h0.size) (E_r0 : Exa Z h0 r0 "java/lang/String") (F_value : Fld Z h0 r0 "java/lang/String" "value" "[B" .null) (F_coder : Fld Z h0 r0 "java/lang/String" "coder" "B" (.int (0 : Int32))) (g_r0 : n0 ≤ r0) (V_r1 : Arv Z h0 r1 ka .char (4 : Int32) [(.int c0), (.int c1), (.int c2), (.int c3)] (.int (0 : Int32))) (ne_r0_r1 : r0 ≠ r1) (O_0 : Old Z n0 h0) (S_cs : Sta Z Z.heap "java/lang/String" "COMPACT_STRINGS" "Z" (.int cs)) (hcs : ¬ (cs = (0 : Int32))) (hc0 : own_ch c0) (hc1 : own_ch c1) (hc2 : own_ch c2) (hc3 : own_ch c3) :
    MetFree l (⟨"java/lang/String", "<init>", "([C)V"⟩ : MethodName) (head1 (Jvm.Cond.code (⟨"java/lang/String", "<init>", "([C)V"⟩ : MethodName) jdk_42_method_3_code 2 none :: ws) ({ frames := 3, cells := 1, slots := 4, locals := 52 } : Room)) (fun a U => a = #[(.ref r0), (.ref r1)] ∧ Z.Warmed39 U.vm ∧ U.heap = h0) (fun _ _ _ _ _ => True) (fun _ U o U' => ∃ v L, o = .returned v ∧ Q3_4 Z r0 r1 ka c0 c1 c2 c3 cs h0 n0 v U'.heap L ∧ FrameEnd U o U' L ({ frames := 3, cells := 1, slots := 4, locals := 52 } : Room).cells ({ frames := 3, cells := 1, slots := 4, locals := 52 } : Room).slots) := by
  refine MetFree.of_bodySF (plainFor_of_name pn_java_lang_String) hisR ?_
  intro p e s m args below meth c s₁ Bd hml0 hP hK
  obtain ⟨rfl, hZ, hh⟩ := hP
  have hx := Bd.exec
  have hby := Bd.bytes
  have hml : c.maxLocals = 2 := hml0
  have hown : s.vm.findClass "java/lang/String" = some m.cls := findClass_of_methodNamed Bd.named
  have hnm := (name_of_methodNamed Bd.named Bd.method).1
  have X0 : Stand p l e ({ frames := 3, cells := 1, slots := 4, locals := 52 } : Room) s m #[(.ref r0), (.ref r1)] below meth c s₁ [] 0 0 := Stand.of_body Bd
  have e0 : s₁.heap = h0 := by rw [← hh, Bd.state]; rfl
  have N0 := Fr.nil n0
  have pre0 : ∀ t, Steps p.tables e below (s₁.setTop (mkF m 0 #[.val (.ref r0), .val (.ref r1)] [])) t → Steps p.tables e below (s₁.setTop (entryFrame m #[(.ref r0), (.ref r1)] 2)) t := fun tt kt_ => castTop (ef_3_4 m r0 r1) kt_
  have K0 : Keep h0 h0 [r0] := Keep.refl h0 [r0]
  obtain ⟨cl_4_1, Ar_4_1, -, S_4_1, M_4_1, -, -⟩ := id V_r1
  obtain ⟨_, _, ⟨T2, L2, k2, n2⟩, -, X2, ⟨Lc2, hQ2, l2, y2, z2⟩, st2⟩ := X0.specialBack hx (y := (⟨"java/lang/String", "<init>", "([CIILjava/lang/Void;)V"⟩ : MethodName)) rfl hown (mvT hZ (hw _ (List.mem_of_getElem? (i := 15) rfl))) (mvT hZ (hw _ (List.mem_of_getElem? (i := 16) rfl))) (mvT hZ (hw _ (List.mem_of_getElem? (i := 18) rfl))) (by decide) (backOf (W := 0) (rm4_4 l Z a0 hw [] r0 r1 ka c0 c1 c2 c3 cs h0 n0 Z0 E_r0 F_value F_coder g_r0 V_r1 ne_r0_r1 O_0 S_cs hcs hc0 hc1 hc2 hc3) hZ (hw _ (List.mem_of_getElem? (i := 18) rfl)) (hw _ (List.mem_of_getElem? (i := 11) rfl)) (by decide) (by decide)) (g := (mkF m 6 #[.val (.ref r0), .val (.ref r1)] [.null, (.int (4 : Int32)), (.int (0 : Int32)), (.ref r1), (.ref r0)])) rfl (by rw [hml]; rfl) (Steps.refl _) (a := r0) (argsL := [(.ref r1), (.int (0 : Int32)), (.int (4 : Int32)), .null]) (rest := []) (lenOf pd_285bCIILjava2flang2fVoid3b29V rfl) rfl (by show 2 * 0 + _ ≤ _; exact Nat.le_of_eq rfl) (hb hby d3_6) (fun _ _ => ⟨rfl, e0, (by decide : 0 + 1 ≤ _), (by decide : 0 + 4 ≤ _)⟩)
  dsimp only [Pt.U, Pt.locs, Pt.cells, Pt.slots] at X2 l2 y2 z2 st2 hQ2
  subst l2 y2 z2
  obtain ⟨rfl, N2q, KK2, b2, kb2, gb2, FC2, FV2, VB2⟩ := hQ2
  obtain ⟨h2, e2⟩ : ∃ z, T2.heap = z := ⟨_, rfl⟩
  rw [e2] at KK2 FC2 FV2 VB2
  have E_r0_at2 : Exa Z h2 r0 "java/lang/String" := E_r0.keep KK2
  have O_0_at2 : Old Z n0 h2 := O_0.keep KK2 (allS g_r0 all0)
  have V_r1_at2 : Arv Z h2 r1 ka .char (4 : Int32) [(.int c0), (.int c1), (.int c2), (.int c3)] (.int (0 : Int32)) := V_r1.keep KK2 (ninS (Ne.symm ne_r0_r1) nin0)
  have K2 : Keep h0 h2 [r0] := K0.trans KK2 (allS (Or.inl (List.mem_of_getElem? (i := 0) rfl)) all0)
  have Z2 : n0 ≤ h2.size := Nat.le_trans Z0 KK2.1
  have ne_r0_b2 : r0 ≠ b2 := Nat.ne_of_lt (Nat.lt_of_lt_of_le E_r0.lt gb2)
  have ne_r1_b2 : r1 ≠ b2 := Nat.ne_of_lt (Nat.lt_of_lt_of_le V_r1.lt gb2)
  have g_b2 : n0 ≤ b2 := Nat.le_trans Z0 gb2
  have sz_b2 : h0.size ≤ b2 := Nat.le_trans K0.1 gb2
  have N2 := Fr.app N0 N2q
  obtain ⟨fs, hr, hrun, hended, hW, hsame⟩ := X2.leave (v := none) (fun _ => rfl)
  refine ⟨_, _, pre0 _ ?_, hrun, hended, _, _, rfl, ?_, ⟨_, rfl⟩, hW, hsame.mono (by decide) (by decide)⟩
  · show Steps p.tables e below (s₁.setTop (mkF m 0 #[.val (.ref r0), .val (.ref r1)] [])) _
    refine XS.aloadN X0.here hx rfl (hb hby d3_0) rfl rfl ?_
    refine XS.aloadN X0.here hx rfl (hb hby d3_1) rfl rfl ?_
    refine XS.iconst X0.here hx rfl (hb hby d3_2) ?_
    refine XS.aloadN X0.here hx rfl (hb hby d3_3) rfl rfl ?_
    show Steps p.tables e below (s₁.setTop (mkF m 4 #[.val (.ref r0), .val (.ref r1)] [(.ref r1), (.int (0 : Int32)), (.ref r1), (.ref r0)])) _
    refine X0.arraylength hx (by rw [e0]; exact Ar_4_1.1) (State.isArrayOf_alike hZ.alike Ar_4_1.2.1) (g := (mkF m 4 #[.val (.ref r0), .val (.ref r1)] [(.ref r1), (.int (0 : Int32)), (.ref r1), (.ref r0)])) rfl rfl (hb hby d3_4) _ ?_
    rw [len_of S_4_1 M_4_1]
    show Steps p.tables e below (s₁.setTop (mkF m 5 #[.val (.ref r0), .val (.ref r1)] [(.int (4 : Int32)), (.int (0 : Int32)), (.ref r1), (.ref r0)])) _
    refine XS.aconstNull X0.here hx rfl (hb hby d3_5) ?_
    show Steps p.tables e below (s₁.setTop (mkF m 6 #[.val (.ref r0), .val (.ref r1)] [.null, (.int (4 : Int32)), (.int (0 : Int32)), (.ref r1), (.ref r0)])) _
    refine st2.trans ?_
    show Steps p.tables e below (T2.setTop (mkF m 9 #[.val (.ref r0), .val (.ref r1)] [])) _
    exact X2.returnOut hx Bd.returns (hb hby d3_9) hr
  · show Q3_4 Z r0 r1 ka c0 c1 c2 c3 cs h0 n0 _ T2.heap _
    rw [e2]
    exact ⟨rfl, N2, K2, b2, _, sz_b2, FC2, FV2, VB2⟩
theorem ef_8 (m : MethodId) (x0 : Addr) : entryFrame m #[(.ref x0)] 1 = mkF m 0 #[.val (.ref x0)] [] := by first | (simp [entryFrame, mkF, argsToLocals, Value.category]; done) | rfl
theorem d8_0 : decode jdk_42_method_152_code 0 = .ok (.getstatic 38, 3) := by decide +kernel
theorem d8_3 : decode jdk_42_method_152_code 3 = .ok (.ifCond .eq 10, 3) := by decide +kernel
theorem d8_6 : decode jdk_42_method_152_code 6 = .ok (.aload_n 0, 1) := by decide +kernel
theorem d8_7 : decode jdk_42_method_152_code 7 = .ok (.getfield 15, 3) := by decide +kernel
theorem d8_10 : decode jdk_42_method_152_code 10 = .ok (.goto 4, 3) := by decide +kernel
theorem d8_14 : decode jdk_42_method_152_code 14 = .ok (.ireturn, 1) := by decide +kernel
def Q8 (Z : State) (r0 : Addr) (cs : Int32) (h0 : Heap) (n0 : Nat) (v : Option Value) (h : Heap) (L : List Loc) : Prop := v = some (.int (0 : Int32)) ∧ Fr n0 L ∧ h = h0
set_option maxRecDepth 65536 in
set_option maxHeartbeats 40000000 in
theorem rm8 (l : Launch) (Z : State) (a0 : Array Value) (hw : ∀ d ∈ tables_1, d.before a0 Z = true) (ws : List Jvm.Cond) (r0 : Addr) (cs : Int32) (h0 : Heap) (n0 : Nat) (Z0 : n0 ≤ h0.size) (C_r0 : Fld Z h0 r0 "java/lang/String" "coder" "B" (.int (0 : Int32))) (O_0 : Old Z n0 h0) (S_cs : Sta Z Z.heap "java/lang/String" "COMPACT_STRINGS" "Z" (.int cs)) (hcs : ¬ (cs = (0 : Int32))) :
    MetFree l (⟨"java/lang/String", "coder", "()B"⟩ : MethodName) (head1 (Jvm.Cond.code (⟨"java/lang/String", "coder", "()B"⟩ : MethodName) jdk_42_method_152_code 1 (some .byte) :: ws) ({ frames := 0, cells := 0, slots := 0, locals := 0 } : Room)) (fun a U => a = #[(.ref r0)] ∧ Z.Warmed39 U.vm ∧ U.heap = h0) (fun _ _ _ _ _ => True) (fun _ U o U' => ∃ v L, o = .returned v ∧ Q8 Z r0 cs h0 n0 v U'.heap L ∧ FrameEnd U o U' L ({ frames := 0, cells := 0, slots := 0, locals := 0 } : Room).cells ({ frames := 0, cells := 0, slots := 0, locals := 0 } : Room).slots) := by
  refine MetFree.of_bodySF (plainFor_of_name pn_java_lang_String) hisR ?_
  intro p e s m args below meth c s₁ Bd hml0 hP hK
  obtain ⟨rfl, hZ, hh⟩ := hP
  have hx := Bd.exec
  have hby := Bd.bytes
  have hml : c.maxLocals = 1 := hml0
  have hown : s.vm.findClass "java/lang/String" = some m.cls := findClass_of_methodNamed Bd.named
  have hnm := (name_of_methodNamed Bd.named Bd.method).1
  have X0 : Stand p l e ({ frames := 0, cells := 0, slots := 0, locals := 0 } : Room) s m #[(.ref r0)] below meth c s₁ [] 0 0 := Stand.of_body Bd
  have e0 : s₁.heap = h0 := by rw [← hh, Bd.state]; rfl
  have N0 := Fr.nil n0
  have pre0 : ∀ t, Steps p.tables e below (s₁.setTop (mkF m 0 #[.val (.ref r0)] [])) t → Steps p.tables e below (s₁.setTop (entryFrame m #[(.ref r0)] 1)) t := fun tt kt_ => castTop (ef_8 m r0) kt_
  obtain ⟨T1, X1, e1, st1⟩ := getS2 X0 hx hZ hown (host := "") (Or.inl (hw _ (List.mem_of_getElem? (i := 44) rfl))) Via.refl e0 (Sta.ext O_0.2 S_cs) (g := (mkF m 0 #[.val (.ref r0)] [])) rfl (hb hby d8_0)
  obtain ⟨T2, X2, e2, st2⟩ := getF X1 hx hZ hown (host := "") (Or.inl (hw _ (List.mem_of_getElem? (i := 29) rfl))) Via.refl e1 C_r0 (g := (mkF m 7 #[.val (.ref r0)] [(.ref r0)])) rfl rfl (hb hby d8_7)
  obtain ⟨fs, hr, hrun, hended, hW, hsame⟩ := X2.leave (v := some (.int (nar .byte (0 : Int32)))) (fun h => by rw [Bd.returns] at h; cases h)
  refine ⟨_, _, pre0 _ ?_, hrun, hended, _, _, rfl, ?_, ⟨_, rfl⟩, hW, hsame.mono (by decide) (by decide)⟩
  · show Steps p.tables e below (s₁.setTop (mkF m 0 #[.val (.ref r0)] [])) _
    refine st1 _ ?_
    show Steps p.tables e below (T1.setTop (mkF m 3 #[.val (.ref r0)] [(.int cs)])) _
    refine XS.ifNo X1.here hx rfl (hb hby d8_3) rfl ((if0 _ _).trans (feq hcs).1) ?_
    refine XS.aloadN X1.here hx rfl (hb hby d8_6) rfl rfl ?_
    show Steps p.tables e below (T1.setTop (mkF m 7 #[.val (.ref r0)] [(.ref r0)])) _
    refine st2 _ ?_
    show Steps p.tables e below (T2.setTop (mkF m 10 #[.val (.ref r0)] [(.int (0 : Int32))])) _
    refine XS.goto X2.here hx rfl (pc0 := 10) (pc' := 14) rfl (hb hby d8_10) (by decide) (by decide) ?_
    show Steps p.tables e below (T2.setTop (mkF m 14 #[.val (.ref r0)] [(.int (0 : Int32))])) _
    exact retN X2 hx (t := .byte) Bd.returns (by simp) (hb hby d8_14) hr
  · show Q8 Z r0 cs h0 n0 _ T2.heap _
    rw [e2]
    exact ⟨rfl, N0, rfl⟩
theorem ef_7 (m : MethodId) (x0 : Addr) : entryFrame m #[(.ref x0)] 1 = mkF m 0 #[.val (.ref x0)] [] := by first | (simp [entryFrame, mkF, argsToLocals, Value.category]; done) | rfl
theorem d7_0 : decode jdk_42_method_54_code 0 = .ok (.aload_n 0, 1) := by decide +kernel
theorem d7_1 : decode jdk_42_method_54_code 1 = .ok (.getfield 9, 3) := by decide +kernel
theorem d7_4 : decode jdk_42_method_54_code 4 = .ok (.arraylength, 1) := by decide +kernel
theorem d7_5 : decode jdk_42_method_54_code 5 = .ok (.aload_n 0, 1) := by decide +kernel
theorem d7_6 : decode jdk_42_method_54_code 6 = .ok (.invokevirtual 335, 3) := by decide +kernel
theorem pd_2829B : parseMethodDescriptor "()B" = some ⟨[], some .byte⟩ := by decide +kernel
theorem d7_9 : decode jdk_42_method_54_code 9 = .ok (.ishr, 1) := by decide +kernel
theorem d7_10 : decode jdk_42_method_54_code 10 = .ok (.ireturn, 1) := by decide +kernel
def Q7 (Z : State) (r0 : Addr) (b : Addr) (kb : ClassId) (z : Int32) (vs : List Value) (cs : Int32) (h0 : Heap) (n0 : Nat) (v : Option Value) (h : Heap) (L : List Loc) : Prop := v = some (.int z) ∧ Fr n0 L ∧ h = h0
set_option maxRecDepth 65536 in
set_option maxHeartbeats 40000000 in
theorem rm7 (l : Launch) (Z : State) (a0 : Array Value) (hw : ∀ d ∈ tables_1, d.before a0 Z = true) (ws : List Jvm.Cond) (r0 : Addr) (b : Addr) (kb : ClassId) (z : Int32) (vs : List Value) (cs : Int32) (h0 : Heap) (n0 : Nat) (Z0 : n0 ≤ h0.size) (E_r0 : Exa Z h0 r0 "java/lang/String") (C_r0 : Fld Z h0 r0 "java/lang/String" "coder" "B" (.int (0 : Int32))) (V_r0 : Fld Z h0 r0 "java/lang/String" "value" "[B" (.ref b)) (K_b : Arv Z h0 b kb .byte z vs (.int (0 : Int32))) (O_0 : Old Z n0 h0) (S_cs : Sta Z Z.heap "java/lang/String" "COMPACT_STRINGS" "Z" (.int cs)) (hcs : ¬ (cs = (0 : Int32))) :
    MetFree l (⟨"java/lang/String", "length", "()I"⟩ : MethodName) (head1 (Jvm.Cond.code (⟨"java/lang/String", "length", "()I"⟩ : MethodName) jdk_42_method_54_code 1 (some .int) :: ws) ({ frames := 1, cells := 0, slots := 0, locals := 13 } : Room)) (fun a U => a = #[(.ref r0)] ∧ Z.Warmed39 U.vm ∧ U.heap = h0) (fun _ _ _ _ _ => True) (fun _ U o U' => ∃ v L, o = .returned v ∧ Q7 Z r0 b kb z vs cs h0 n0 v U'.heap L ∧ FrameEnd U o U' L ({ frames := 1, cells := 0, slots := 0, locals := 13 } : Room).cells ({ frames := 1, cells := 0, slots := 0, locals := 13 } : Room).slots) := by
  refine MetFree.of_bodySF (plainFor_of_name pn_java_lang_String) hisR ?_
  intro p e s m args below meth c s₁ Bd hml0 hP hK
  obtain ⟨rfl, hZ, hh⟩ := hP
  have hx := Bd.exec
  have hby := Bd.bytes
  have hml : c.maxLocals = 1 := hml0
  have hown : s.vm.findClass "java/lang/String" = some m.cls := findClass_of_methodNamed Bd.named
  have hnm := (name_of_methodNamed Bd.named Bd.method).1
  have X0 : Stand p l e ({ frames := 1, cells := 0, slots := 0, locals := 13 } : Room) s m #[(.ref r0)] below meth c s₁ [] 0 0 := Stand.of_body Bd
  have e0 : s₁.heap = h0 := by rw [← hh, Bd.state]; rfl
  have N0 := Fr.nil n0
  have pre0 : ∀ t, Steps p.tables e below (s₁.setTop (mkF m 0 #[.val (.ref r0)] [])) t → Steps p.tables e below (s₁.setTop (entryFrame m #[(.ref r0)] 1)) t := fun tt kt_ => castTop (ef_7 m r0) kt_
  obtain ⟨T1, X1, e1, st1⟩ := getF X0 hx hZ hown (host := "") (Or.inl (hw _ (List.mem_of_getElem? (i := 28) rfl))) Via.refl e0 V_r0 (g := (mkF m 1 #[.val (.ref r0)] [(.ref r0)])) rfl rfl (hb hby d7_1)
  obtain ⟨cl_4_2, Ar_4_2, -, S_4_2, M_4_2, -, -⟩ := id K_b
  obtain ⟨cq3, kq3, q3a, q3b, q3c⟩ := isOf hZ e1 E_r0
  obtain ⟨_, _, ⟨T3, L3, k3, n3⟩, -, X3, ⟨Lc3, hQ3, l3, y3, z3⟩, st3⟩ := X1.virtualBack hx (y := (⟨"java/lang/String", "coder", "()B"⟩ : MethodName)) (z := (⟨"java/lang/String", "coder", "()B"⟩ : MethodName)) hown (mvT hZ (hw _ (List.mem_of_getElem? (i := 39) rfl))) (mvT hZ (hw _ (List.mem_of_getElem? (i := 40) rfl))) (notFace_of_selects (args := #[]) (mvT hZ (hw _ (List.mem_of_getElem? (i := 42) rfl)))) (mvT hZ (hw _ (List.mem_of_getElem? (i := 42) rfl))) (mvT hZ (hw _ (List.mem_of_getElem? (i := 41) rfl))) (by decide) (backOf (W := 1) (rm8 l Z a0 hw [] r0 cs h0 n0 Z0 C_r0 O_0 S_cs hcs) hZ (hw _ (List.mem_of_getElem? (i := 43) rfl)) (hw _ (List.mem_of_getElem? (i := 11) rfl)) (by decide) (by decide)) q3a q3c (g := (mkF m 6 #[.val (.ref r0)] [(.ref r0), (.int z)])) rfl (by rw [hml]; rfl) (Steps.refl _) (argsL := []) (rest := [(.int z)]) (lenOf pd_2829B rfl) rfl (by show 2 * 0 + _ ≤ _; exact Nat.le_of_eq rfl) (hb hby d7_6) (fun _ _ => ⟨rfl, e1, (by decide : 0 + 0 ≤ _), (by decide : 0 + 0 ≤ _)⟩)
  dsimp only [Pt.U, Pt.locs, Pt.cells, Pt.slots] at X3 l3 y3 z3 st3 hQ3
  subst l3 y3 z3
  obtain ⟨rfl, N3q, e3⟩ := hQ3
  have N3 := Fr.app N0 N3q
  obtain ⟨fs, hr, hrun, hended, hW, hsame⟩ := X3.leave (v := some (.int (z >>> ((0 : Int32) &&& 31)))) (fun h => by rw [Bd.returns] at h; cases h)
  refine ⟨_, _, pre0 _ ?_, hrun, hended, _, _, rfl, ?_, ⟨_, rfl⟩, hW, hsame.mono (by decide) (by decide)⟩
  · show Steps p.tables e below (s₁.setTop (mkF m 0 #[.val (.ref r0)] [])) _
    refine XS.aloadN X0.here hx rfl (hb hby d7_0) rfl rfl ?_
    show Steps p.tables e below (s₁.setTop (mkF m 1 #[.val (.ref r0)] [(.ref r0)])) _
    refine st1 _ ?_
    show Steps p.tables e below (T1.setTop (mkF m 4 #[.val (.ref r0)] [(.ref b)])) _
    refine X1.arraylength hx (by rw [e1]; exact Ar_4_2.1) (State.isArrayOf_alike hZ.alike Ar_4_2.2.1) (g := (mkF m 4 #[.val (.ref r0)] [(.ref b)])) rfl rfl (hb hby d7_4) _ ?_
    rw [len_of S_4_2 M_4_2]
    show Steps p.tables e below (T1.setTop (mkF m 5 #[.val (.ref r0)] [(.int z)])) _
    refine XS.aloadN X1.here hx rfl (hb hby d7_5) rfl rfl ?_
    show Steps p.tables e below (T1.setTop (mkF m 6 #[.val (.ref r0)] [(.ref r0), (.int z)])) _
    refine st3.trans ?_
    show Steps p.tables e below (T3.setTop (mkF m 9 #[.val (.ref r0)] [(.int (0 : Int32)), (.int z)])) _
    refine XS.ishr X3.here hx rfl (hb hby d7_9) rfl ?_
    show Steps p.tables e below (T3.setTop (mkF m 10 #[.val (.ref r0)] [(.int (z >>> ((0 : Int32) &&& 31)))])) _
    exact retI X3 hx Bd.returns (hb hby d7_10) hr
  · show Q7 Z r0 b kb z vs cs h0 n0 _ T3.heap _
    rw [e3]
    exact ⟨congrArg (fun q => some (Value.int q)) (own_sh0 z), N3, rfl⟩
theorem ef_17 (m : MethodId) (x0 : Addr) : entryFrame m #[(.ref x0)] 1 = mkF m 0 #[.val (.ref x0)] [] := by first | (simp [entryFrame, mkF, argsToLocals, Value.category]; done) | rfl
theorem d17_0 : decode jdk_42_method_154_code 0 = .ok (.getstatic 38, 3) := by decide +kernel
theorem d17_3 : decode jdk_42_method_154_code 3 = .ok (.ifCond .eq 14, 3) := by decide +kernel
theorem d17_6 : decode jdk_42_method_154_code 6 = .ok (.aload_n 0, 1) := by decide +kernel
theorem d17_7 : decode jdk_42_method_154_code 7 = .ok (.getfield 15, 3) := by decide +kernel
theorem d17_10 : decode jdk_42_method_154_code 10 = .ok (.ifCond .ne 7, 3) := by decide +kernel
theorem d17_13 : decode jdk_42_method_154_code 13 = .ok (.iconst 1, 1) := by decide +kernel
theorem d17_14 : decode jdk_42_method_154_code 14 = .ok (.goto 4, 3) := by decide +kernel
theorem d17_18 : decode jdk_42_method_154_code 18 = .ok (.ireturn, 1) := by decide +kernel
def Q17 (Z : State) (r0 : Addr) (cs : Int32) (h0 : Heap) (n0 : Nat) (v : Option Value) (h : Heap) (L : List Loc) : Prop := v = some (.int (1 : Int32)) ∧ Fr n0 L ∧ h = h0
set_option maxRecDepth 65536 in
set_option maxHeartbeats 40000000 in
theorem rm17 (l : Launch) (Z : State) (a0 : Array Value) (hw : ∀ d ∈ tables_1, d.before a0 Z = true) (ws : List Jvm.Cond) (r0 : Addr) (cs : Int32) (h0 : Heap) (n0 : Nat) (Z0 : n0 ≤ h0.size) (C_r0 : Fld Z h0 r0 "java/lang/String" "coder" "B" (.int (0 : Int32))) (O_0 : Old Z n0 h0) (S_cs : Sta Z Z.heap "java/lang/String" "COMPACT_STRINGS" "Z" (.int cs)) (hcs : ¬ (cs = (0 : Int32))) :
    MetFree l (⟨"java/lang/String", "isLatin1", "()Z"⟩ : MethodName) (head1 (Jvm.Cond.code (⟨"java/lang/String", "isLatin1", "()Z"⟩ : MethodName) jdk_42_method_154_code 1 (some .boolean) :: ws) ({ frames := 0, cells := 0, slots := 0, locals := 0 } : Room)) (fun a U => a = #[(.ref r0)] ∧ Z.Warmed39 U.vm ∧ U.heap = h0) (fun _ _ _ _ _ => True) (fun _ U o U' => ∃ v L, o = .returned v ∧ Q17 Z r0 cs h0 n0 v U'.heap L ∧ FrameEnd U o U' L ({ frames := 0, cells := 0, slots := 0, locals := 0 } : Room).cells ({ frames := 0, cells := 0, slots := 0, locals := 0 } : Room).slots) := by
  refine MetFree.of_bodySF (plainFor_of_name pn_java_lang_String) hisR ?_
  intro p e s m args below meth c s₁ Bd hml0 hP hK
  obtain ⟨rfl, hZ, hh⟩ := hP
  have hx := Bd.exec
  have hby := Bd.bytes
  have hml : c.maxLocals = 1 := hml0
  have hown : s.vm.findClass "java/lang/String" = some m.cls := findClass_of_methodNamed Bd.named
  have hnm := (name_of_methodNamed Bd.named Bd.method).1
  have X0 : Stand p l e ({ frames := 0, cells := 0, slots := 0, locals := 0 } : Room) s m #[(.ref r0)] below meth c s₁ [] 0 0 := Stand.of_body Bd
  have e0 : s₁.heap = h0 := by rw [← hh, Bd.state]; rfl
  have N0 := Fr.nil n0
  have pre0 : ∀ t, Steps p.tables e below (s₁.setTop (mkF m 0 #[.val (.ref r0)] [])) t → Steps p.tables e below (s₁.setTop (entryFrame m #[(.ref r0)] 1)) t := fun tt kt_ => castTop (ef_17 m r0) kt_
  obtain ⟨T1, X1, e1, st1⟩ := getS2 X0 hx hZ hown (host := "") (Or.inl (hw _ (List.mem_of_getElem? (i := 44) rfl))) Via.refl e0 (Sta.ext O_0.2 S_cs) (g := (mkF m 0 #[.val (.ref r0)] [])) rfl (hb hby d17_0)
  obtain ⟨T2, X2, e2, st2⟩ := getF X1 hx hZ hown (host := "") (Or.inl (hw _ (List.mem_of_getElem? (i := 29) rfl))) Via.refl e1 C_r0 (g := (mkF m 7 #[.val (.ref r0)] [(.ref r0)])) rfl rfl (hb hby d17_7)
  obtain ⟨fs, hr, hrun, hended, hW, hsame⟩ := X2.leave (v := some (.int (1 : Int32))) (fun h => by rw [Bd.returns] at h; cases h)
  refine ⟨_, _, pre0 _ ?_, hrun, hended, _, _, rfl, ?_, ⟨_, rfl⟩, hW, hsame.mono (by decide) (by decide)⟩
  · show Steps p.tables e below (s₁.setTop (mkF m 0 #[.val (.ref r0)] [])) _
    refine st1 _ ?_
    show Steps p.tables e below (T1.setTop (mkF m 3 #[.val (.ref r0)] [(.int cs)])) _
    refine XS.ifNo X1.here hx rfl (hb hby d17_3) rfl ((if0 _ _).trans (feq hcs).1) ?_
    refine XS.aloadN X1.here hx rfl (hb hby d17_6) rfl rfl ?_
    show Steps p.tables e below (T1.setTop (mkF m 7 #[.val (.ref r0)] [(.ref r0)])) _
    refine st2 _ ?_
    show Steps p.tables e below (T2.setTop (mkF m 10 #[.val (.ref r0)] [(.int (0 : Int32))])) _
    refine XS.ifNo X2.here hx rfl (hb hby d17_10) rfl ((if0 _ _).trans (teq (by decide : (0 : Int32) = (0 : Int32))).2) ?_
    refine XS.iconst X2.here hx rfl (hb hby d17_13) ?_
    show Steps p.tables e below (T2.setTop (mkF m 14 #[.val (.ref r0)] [(.int (1 : Int32))])) _
    refine XS.goto X2.here hx rfl (pc0 := 14) (pc' := 18) rfl (hb hby d17_14) (by decide) (by decide) ?_
    show Steps p.tables e below (T2.setTop (mkF m 18 #[.val (.ref r0)] [(.int (1 : Int32))])) _
    exact retN X2 hx (t := .boolean) Bd.returns (by simp) (hb hby d17_18) hr
  · show Q17 Z r0 cs h0 n0 _ T2.heap _
    rw [e2]
    exact ⟨rfl, N0, rfl⟩
theorem ef_20 (m : MethodId) (x0 : Int32) (x1 : Int32) (fm : Value) (hfm : fm.isRef = true) : entryFrame m #[(.int x0), (.int x1), fm] 3 = mkF m 0 #[.val (.int x0), .val (.int x1), .val fm] [] := by cases fm <;> simp [Value.isRef] at hfm <;> first | (simp [entryFrame, mkF, argsToLocals, Value.category]; done) | rfl
theorem pn_jdk_internal_util_Preconditions : plainName "jdk/internal/util/Preconditions" = true := by first | (simp [plainName, overriddenIn]; done) | decide +kernel
theorem d20_0 : decode jdk_41_method_11_code 0 = .ok (.iload_n 0, 1) := by decide +kernel
theorem d20_1 : decode jdk_41_method_11_code 1 = .ok (.ifCond .lt 8, 3) := by decide +kernel
theorem d20_4 : decode jdk_41_method_11_code 4 = .ok (.iload_n 0, 1) := by decide +kernel
theorem d20_5 : decode jdk_41_method_11_code 5 = .ok (.iload_n 1, 1) := by decide +kernel
theorem d20_6 : decode jdk_41_method_11_code 6 = .ok (.if_icmp .lt 10, 3) := by decide +kernel
theorem d20_16 : decode jdk_41_method_11_code 16 = .ok (.iload_n 0, 1) := by decide +kernel
theorem d20_17 : decode jdk_41_method_11_code 17 = .ok (.ireturn, 1) := by decide +kernel
def Q20 (Z : State) (p0 : Int32) (p1 : Int32) (fm : Value) (h0 : Heap) (n0 : Nat) (v : Option Value) (h : Heap) (L : List Loc) : Prop := v = some (.int p0) ∧ Fr n0 L ∧ h = h0
set_option maxRecDepth 65536 in
set_option maxHeartbeats 40000000 in
theorem rm20 (l : Launch) (Z : State) (a0 : Array Value) (hw : ∀ d ∈ tables_1, d.before a0 Z = true) (ws : List Jvm.Cond) (p0 : Int32) (p1 : Int32) (fm : Value) (h0 : Heap) (n0 : Nat) (Z0 : n0 ≤ h0.size) (hfm : fm.isRef = true) (h1 : ¬ (p0 < (0 : Int32))) (h2 : p0 < p1) :
    MetFree l (⟨"jdk/internal/util/Preconditions", "checkIndex", "(IILjava/util/function/BiFunction;)I"⟩ : MethodName) (head1 (Jvm.Cond.code (⟨"jdk/internal/util/Preconditions", "checkIndex", "(IILjava/util/function/BiFunction;)I"⟩ : MethodName) jdk_41_method_11_code 3 (some .int) :: ws) ({ frames := 0, cells := 0, slots := 0, locals := 0 } : Room)) (fun a U => a = #[(.int p0), (.int p1), fm] ∧ Z.Warmed39 U.vm ∧ U.heap = h0) (fun _ _ _ _ _ => True) (fun _ U o U' => ∃ v L, o = .returned v ∧ Q20 Z p0 p1 fm h0 n0 v U'.heap L ∧ FrameEnd U o U' L ({ frames := 0, cells := 0, slots := 0, locals := 0 } : Room).cells ({ frames := 0, cells := 0, slots := 0, locals := 0 } : Room).slots) := by
  refine MetFree.of_bodySF (plainFor_of_name pn_jdk_internal_util_Preconditions) hisR ?_
  intro p e s m args below meth c s₁ Bd hml0 hP hK
  obtain ⟨rfl, hZ, hh⟩ := hP
  have hx := Bd.exec
  have hby := Bd.bytes
  have hml : c.maxLocals = 3 := hml0
  have hown : s.vm.findClass "jdk/internal/util/Preconditions" = some m.cls := findClass_of_methodNamed Bd.named
  have hnm := (name_of_methodNamed Bd.named Bd.method).1
  have X0 : Stand p l e ({ frames := 0, cells := 0, slots := 0, locals := 0 } : Room) s m #[(.int p0), (.int p1), fm] below meth c s₁ [] 0 0 := Stand.of_body Bd
  have e0 : s₁.heap = h0 := by rw [← hh, Bd.state]; rfl
  have N0 := Fr.nil n0
  have pre0 : ∀ t, Steps p.tables e below (s₁.setTop (mkF m 0 #[.val (.int p0), .val (.int p1), .val fm] [])) t → Steps p.tables e below (s₁.setTop (entryFrame m #[(.int p0), (.int p1), fm] 3)) t := fun tt kt_ => castTop (ef_20 m p0 p1 fm hfm) kt_
  obtain ⟨fs, hr, hrun, hended, hW, hsame⟩ := X0.leave (v := some (.int p0)) (fun h => by rw [Bd.returns] at h; cases h)
  refine ⟨_, _, pre0 _ ?_, hrun, hended, _, _, rfl, ?_, ⟨_, rfl⟩, hW, hsame.mono (by decide) (by decide)⟩
  · show Steps p.tables e below (s₁.setTop (mkF m 0 #[.val (.int p0), .val (.int p1), .val fm] [])) _
    refine XS.iloadN X0.here hx rfl (hb hby d20_0) rfl ?_
    show Steps p.tables e below (s₁.setTop (mkF m 1 #[.val (.int p0), .val (.int p1), .val fm] [(.int p0)])) _
    refine XS.ifNo X0.here hx rfl (hb hby d20_1) rfl ((if0 _ _).trans (flt h1).1) ?_
    refine XS.iloadN X0.here hx rfl (hb hby d20_4) rfl ?_
    refine XS.iloadN X0.here hx rfl (hb hby d20_5) rfl ?_
    show Steps p.tables e below (s₁.setTop (mkF m 6 #[.val (.int p0), .val (.int p1), .val fm] [(.int p1), (.int p0)])) _
    refine XS.icmpYes X0.here hx rfl (pc0 := 6) (pc' := 16) rfl (hb hby d20_6) rfl (tlt h2).1 (by decide) (by decide) ?_
    refine XS.iloadN X0.here hx rfl (hb hby d20_16) rfl ?_
    show Steps p.tables e below (s₁.setTop (mkF m 17 #[.val (.int p0), .val (.int p1), .val fm] [(.int p0)])) _
    exact retI X0 hx Bd.returns (hb hby d20_17) hr
  · show Q20 Z p0 p1 fm h0 n0 _ s₁.heap _
    rw [e0]
    exact ⟨rfl, N0, rfl⟩
theorem ef_19 (m : MethodId) (x0 : Int32) (x1 : Int32) : entryFrame m #[(.int x0), (.int x1)] 2 = mkF m 0 #[.val (.int x0), .val (.int x1)] [] := by first | (simp [entryFrame, mkF, argsToLocals, Value.category]; done) | rfl
theorem d19_0 : decode jdk_42_method_155_code 0 = .ok (.iload_n 0, 1) := by decide +kernel
theorem d19_1 : decode jdk_42_method_155_code 1 = .ok (.iload_n 1, 1) := by decide +kernel
theorem d19_2 : decode jdk_42_method_155_code 2 = .ok (.getstatic 1053, 3) := by decide +kernel
theorem d19_5 : decode jdk_42_method_155_code 5 = .ok (.invokestatic 1059, 3) := by decide +kernel
theorem pd_28IILjava2futil2ffunction2fBiFunction3b29I : parseMethodDescriptor "(IILjava/util/function/BiFunction;)I" = some ⟨[.int, .int, (.object "java/util/function/BiFunction")], some .int⟩ := by decide +kernel
theorem d19_8 : decode jdk_42_method_155_code 8 = .ok (.pop, 1) := by decide +kernel
theorem d19_9 : decode jdk_42_method_155_code 9 = .ok (.return_, 1) := by decide +kernel
def Q19 (Z : State) (p0 : Int32) (p1 : Int32) (fm : Value) (h0 : Heap) (n0 : Nat) (v : Option Value) (h : Heap) (L : List Loc) : Prop := v = none ∧ Fr n0 L ∧ h = h0
set_option maxRecDepth 65536 in
set_option maxHeartbeats 40000000 in
theorem rm19 (l : Launch) (Z : State) (a0 : Array Value) (hw : ∀ d ∈ tables_1, d.before a0 Z = true) (ws : List Jvm.Cond) (p0 : Int32) (p1 : Int32) (fm : Value) (h0 : Heap) (n0 : Nat) (Z0 : n0 ≤ h0.size) (O_0 : Old Z n0 h0) (S_fm : Sta Z Z.heap "jdk/internal/util/Preconditions" "SIOOBE_FORMATTER" "Ljava/util/function/BiFunction;" fm) (hfm : fm.isRef = true) (h1 : ¬ (p0 < (0 : Int32))) (h2 : p0 < p1) :
    MetFree l (⟨"java/lang/String", "checkIndex", "(II)V"⟩ : MethodName) (head1 (Jvm.Cond.code (⟨"java/lang/String", "checkIndex", "(II)V"⟩ : MethodName) jdk_42_method_155_code 2 none :: ws) ({ frames := 1, cells := 0, slots := 0, locals := 14 } : Room)) (fun a U => a = #[(.int p0), (.int p1)] ∧ Z.Warmed39 U.vm ∧ U.heap = h0) (fun _ _ _ _ _ => True) (fun _ U o U' => ∃ v L, o = .returned v ∧ Q19 Z p0 p1 fm h0 n0 v U'.heap L ∧ FrameEnd U o U' L ({ frames := 1, cells := 0, slots := 0, locals := 14 } : Room).cells ({ frames := 1, cells := 0, slots := 0, locals := 14 } : Room).slots) := by
  refine MetFree.of_bodySF (plainFor_of_name pn_java_lang_String) hisR ?_
  intro p e s m args below meth c s₁ Bd hml0 hP hK
  obtain ⟨rfl, hZ, hh⟩ := hP
  have hx := Bd.exec
  have hby := Bd.bytes
  have hml : c.maxLocals = 2 := hml0
  have hown : s.vm.findClass "java/lang/String" = some m.cls := findClass_of_methodNamed Bd.named
  have hnm := (name_of_methodNamed Bd.named Bd.method).1
  have X0 : Stand p l e ({ frames := 1, cells := 0, slots := 0, locals := 14 } : Room) s m #[(.int p0), (.int p1)] below meth c s₁ [] 0 0 := Stand.of_body Bd
  have e0 : s₁.heap = h0 := by rw [← hh, Bd.state]; rfl
  have N0 := Fr.nil n0
  have pre0 : ∀ t, Steps p.tables e below (s₁.setTop (mkF m 0 #[.val (.int p0), .val (.int p1)] [])) t → Steps p.tables e below (s₁.setTop (entryFrame m #[(.int p0), (.int p1)] 2)) t := fun tt kt_ => castTop (ef_19 m p0 p1) kt_
  obtain ⟨T1, X1, e1, st1⟩ := getS2 X0 hx hZ hown (host := "") (Or.inl (hw _ (List.mem_of_getElem? (i := 54) rfl))) Via.refl e0 (Sta.ext O_0.2 S_fm) (g := (mkF m 2 #[.val (.int p0), .val (.int p1)] [(.int p1), (.int p0)])) rfl (hb hby d19_2)
  obtain ⟨_, _, ⟨T2, L2, k2, n2⟩, -, X2, ⟨Lc2, hQ2, l2, y2, z2⟩, st2⟩ := Jvm.LawKit.callS X1 hx (y := (⟨"jdk/internal/util/Preconditions", "checkIndex", "(IILjava/util/function/BiFunction;)I"⟩ : MethodName)) hown (mvT hZ (hw _ (List.mem_of_getElem? (i := 91) rfl))) (mvT hZ (hw _ (List.mem_of_getElem? (i := 92) rfl))) (mvT hZ (hw _ (List.mem_of_getElem? (i := 55) rfl))) (mvT hZ (hw _ (List.mem_of_getElem? (i := 93) rfl))) (by decide) (backOf (W := 0) (rm20 l Z a0 hw [] p0 p1 fm h0 n0 Z0 hfm h1 h2) hZ (hw _ (List.mem_of_getElem? (i := 93) rfl)) (hw _ (List.mem_of_getElem? (i := 55) rfl)) (by decide) (by decide)) (g := (mkF m 5 #[.val (.int p0), .val (.int p1)] [fm, (.int p1), (.int p0)])) rfl (by rw [hml]; rfl) (argsL := [(.int p0), (.int p1), fm]) (rest := []) (lenOf pd_28IILjava2futil2ffunction2fBiFunction3b29I rfl) rfl (by show 2 * 0 + _ ≤ _; exact Nat.le_of_eq rfl) (hb hby d19_5) (fun _ _ => ⟨rfl, e1, (by decide : 0 + 0 ≤ _), (by decide : 0 + 0 ≤ _)⟩)
  dsimp only [Pt.U, Pt.locs, Pt.cells, Pt.slots] at X2 l2 y2 z2 st2 hQ2
  subst l2 y2 z2
  obtain ⟨rfl, N2q, e2⟩ := hQ2
  have N2 := Fr.app N0 N2q
  obtain ⟨fs, hr, hrun, hended, hW, hsame⟩ := X2.leave (v := none) (fun _ => rfl)
  refine ⟨_, _, pre0 _ ?_, hrun, hended, _, _, rfl, ?_, ⟨_, rfl⟩, hW, hsame.mono (by decide) (by decide)⟩
  · show Steps p.tables e below (s₁.setTop (mkF m 0 #[.val (.int p0), .val (.int p1)] [])) _
    refine XS.iloadN X0.here hx rfl (hb hby d19_0) rfl ?_
    refine XS.iloadN X0.here hx rfl (hb hby d19_1) rfl ?_
    show Steps p.tables e below (s₁.setTop (mkF m 2 #[.val (.int p0), .val (.int p1)] [(.int p1), (.int p0)])) _
    refine st1 _ ?_
    show Steps p.tables e below (T1.setTop (mkF m 5 #[.val (.int p0), .val (.int p1)] [fm, (.int p1), (.int p0)])) _
    refine st2 _ ?_
    show Steps p.tables e below (T2.setTop (mkF m 8 #[.val (.int p0), .val (.int p1)] [(.int p0)])) _
    refine XS.pop X2.here hx rfl (hb hby d19_8) rfl rfl ?_
    show Steps p.tables e below (T2.setTop (mkF m 9 #[.val (.int p0), .val (.int p1)] [])) _
    exact X2.returnOut hx Bd.returns (hb hby d19_9) hr
  · show Q19 Z p0 p1 fm h0 n0 _ T2.heap _
    rw [e2]
    exact ⟨rfl, N2, rfl⟩
theorem ef_18 (m : MethodId) (x0 : Addr) (x1 : Int32) : entryFrame m #[(.ref x0), (.int x1)] 2 = mkF m 0 #[.val (.ref x0), .val (.int x1)] [] := by first | (simp [entryFrame, mkF, argsToLocals, Value.category]; done) | rfl
theorem pn_java_lang_StringLatin1 : plainName "java/lang/StringLatin1" = true := by first | (simp [plainName, overriddenIn]; done) | decide +kernel
theorem d18_0 : decode jdk_43_method_2_code 0 = .ok (.iload_n 1, 1) := by decide +kernel
theorem d18_1 : decode jdk_43_method_2_code 1 = .ok (.aload_n 0, 1) := by decide +kernel
theorem d18_2 : decode jdk_43_method_2_code 2 = .ok (.arraylength, 1) := by decide +kernel
theorem d18_3 : decode jdk_43_method_2_code 3 = .ok (.invokestatic 9, 3) := by decide +kernel
theorem pd_28II29V : parseMethodDescriptor "(II)V" = some ⟨[.int, .int], none⟩ := by decide +kernel
theorem d18_6 : decode jdk_43_method_2_code 6 = .ok (.aload_n 0, 1) := by decide +kernel
theorem d18_7 : decode jdk_43_method_2_code 7 = .ok (.iload_n 1, 1) := by decide +kernel
theorem d18_8 : decode jdk_43_method_2_code 8 = .ok (.baload, 1) := by decide +kernel
theorem d18_9 : decode jdk_43_method_2_code 9 = .ok (.sipush 255, 3) := by decide +kernel
theorem d18_12 : decode jdk_43_method_2_code 12 = .ok (.iand, 1) := by decide +kernel
theorem d18_13 : decode jdk_43_method_2_code 13 = .ok (.i2c, 1) := by decide +kernel
theorem d18_14 : decode jdk_43_method_2_code 14 = .ok (.ireturn, 1) := by decide +kernel
def Q18 (Z : State) (r0 : Addr) (p1 : Int32) (kb : ClassId) (z : Int32) (vs : List Value) (cv : Int32) (fm : Value) (h0 : Heap) (n0 : Nat) (v : Option Value) (h : Heap) (L : List Loc) : Prop := v = some (.int cv) ∧ Fr n0 L ∧ h = h0
set_option maxRecDepth 65536 in
set_option maxHeartbeats 40000000 in
theorem rm18 (l : Launch) (Z : State) (a0 : Array Value) (hw : ∀ d ∈ tables_1, d.before a0 Z = true) (ws : List Jvm.Cond) (r0 : Addr) (p1 : Int32) (kb : ClassId) (z : Int32) (vs : List Value) (cv : Int32) (fm : Value) (h0 : Heap) (n0 : Nat) (Z0 : n0 ≤ h0.size) (K_r0 : Arv Z h0 r0 kb .byte z vs (.int (0 : Int32))) (O_0 : Old Z n0 h0) (S_fm : Sta Z Z.heap "jdk/internal/util/Preconditions" "SIOOBE_FORMATTER" "Ljava/util/function/BiFunction;" fm) (hfm : fm.isRef = true) (h1 : ¬ (p1 < (0 : Int32))) (h2 : p1 < z) (hat : vs.getD p1.toNatClampNeg (.int (0 : Int32)) = (.int (own_by cv))) (hc : own_ch cv) :
    MetFree l (⟨"java/lang/StringLatin1", "charAt", "([BI)C"⟩ : MethodName) (head1 (Jvm.Cond.code (⟨"java/lang/StringLatin1", "charAt", "([BI)C"⟩ : MethodName) jdk_43_method_2_code 2 (some .char) :: ws) ({ frames := 2, cells := 0, slots := 0, locals := 27 } : Room)) (fun a U => a = #[(.ref r0), (.int p1)] ∧ Z.Warmed39 U.vm ∧ U.heap = h0) (fun _ _ _ _ _ => True) (fun _ U o U' => ∃ v L, o = .returned v ∧ Q18 Z r0 p1 kb z vs cv fm h0 n0 v U'.heap L ∧ FrameEnd U o U' L ({ frames := 2, cells := 0, slots := 0, locals := 27 } : Room).cells ({ frames := 2, cells := 0, slots := 0, locals := 27 } : Room).slots) := by
  refine MetFree.of_bodySF (plainFor_of_name pn_java_lang_StringLatin1) hisR ?_
  intro p e s m args below meth c s₁ Bd hml0 hP hK
  obtain ⟨rfl, hZ, hh⟩ := hP
  have hx := Bd.exec
  have hby := Bd.bytes
  have hml : c.maxLocals = 2 := hml0
  have hown : s.vm.findClass "java/lang/StringLatin1" = some m.cls := findClass_of_methodNamed Bd.named
  have hnm := (name_of_methodNamed Bd.named Bd.method).1
  have X0 : Stand p l e ({ frames := 2, cells := 0, slots := 0, locals := 27 } : Room) s m #[(.ref r0), (.int p1)] below meth c s₁ [] 0 0 := Stand.of_body Bd
  have e0 : s₁.heap = h0 := by rw [← hh, Bd.state]; rfl
  have N0 := Fr.nil n0
  have pre0 : ∀ t, Steps p.tables e below (s₁.setTop (mkF m 0 #[.val (.ref r0), .val (.int p1)] [])) t → Steps p.tables e below (s₁.setTop (entryFrame m #[(.ref r0), (.int p1)] 2)) t := fun tt kt_ => castTop (ef_18 m r0 p1) kt_
  obtain ⟨cl_2_1, Ar_2_1, -, S_2_1, M_2_1, -, -⟩ := id K_r0
  obtain ⟨_, _, ⟨T2, L2, k2, n2⟩, -, X2, ⟨Lc2, hQ2, l2, y2, z2⟩, st2⟩ := Jvm.LawKit.callS X0 hx (y := (⟨"java/lang/String", "checkIndex", "(II)V"⟩ : MethodName)) hown (mvT hZ (hw _ (List.mem_of_getElem? (i := 88) rfl))) (mvT hZ (hw _ (List.mem_of_getElem? (i := 89) rfl))) (mvT hZ (hw _ (List.mem_of_getElem? (i := 11) rfl))) (mvT hZ (hw _ (List.mem_of_getElem? (i := 90) rfl))) (by decide) (backOf (W := 0) (rm19 l Z a0 hw [] p1 z fm h0 n0 Z0 O_0 S_fm hfm h1 h2) hZ (hw _ (List.mem_of_getElem? (i := 90) rfl)) (hw _ (List.mem_of_getElem? (i := 11) rfl)) (by decide) (by decide)) (g := (mkF m 3 #[.val (.ref r0), .val (.int p1)] [(.int z), (.int p1)])) rfl (by rw [hml]; rfl) (argsL := [(.int p1), (.int z)]) (rest := []) (lenOf pd_28II29V rfl) rfl (by show 2 * 0 + _ ≤ _; exact Nat.le_of_eq rfl) (hb hby d18_3) (fun _ _ => ⟨rfl, e0, (by decide : 0 + 0 ≤ _), (by decide : 0 + 0 ≤ _)⟩)
  dsimp only [Pt.U, Pt.locs, Pt.cells, Pt.slots] at X2 l2 y2 z2 st2 hQ2
  subst l2 y2 z2
  obtain ⟨rfl, N2q, e2⟩ := hQ2
  have N2 := Fr.app N0 N2q
  obtain ⟨cl_8_3, Ar_8_3, -, S_8_3, M_8_3, H_8_3, -⟩ := id K_r0
  have hin8_3 : ¬ (p1 < 0 ∨ cl_8_3.slots.size ≤ (p1).toNatClampNeg) := inb_of S_8_3 ⟨h1, h2⟩
  have hat8_3 : cl_8_3.slots[(p1).toNatClampNeg]? = some (.int (own_by cv)) := H_8_3.at hin8_3 hat
  obtain ⟨fs, hr, hrun, hended, hW, hsame⟩ := X2.leave (v := some (.int (nar .char (((own_by cv) &&& (255 : Int32)).toUInt32.toUInt16.toUInt32.toInt32)))) (fun h => by rw [Bd.returns] at h; cases h)
  refine ⟨_, _, pre0 _ ?_, hrun, hended, _, _, rfl, ?_, ⟨_, rfl⟩, hW, hsame.mono (by decide) (by decide)⟩
  · show Steps p.tables e below (s₁.setTop (mkF m 0 #[.val (.ref r0), .val (.int p1)] [])) _
    refine XS.iloadN X0.here hx rfl (hb hby d18_0) rfl ?_
    refine XS.aloadN X0.here hx rfl (hb hby d18_1) rfl rfl ?_
    show Steps p.tables e below (s₁.setTop (mkF m 2 #[.val (.ref r0), .val (.int p1)] [(.ref r0), (.int p1)])) _
    refine X0.arraylength hx (by rw [e0]; exact Ar_2_1.1) (State.isArrayOf_alike hZ.alike Ar_2_1.2.1) (g := (mkF m 2 #[.val (.ref r0), .val (.int p1)] [(.ref r0), (.int p1)])) rfl rfl (hb hby d18_2) _ ?_
    rw [len_of S_2_1 M_2_1]
    show Steps p.tables e below (s₁.setTop (mkF m 3 #[.val (.ref r0), .val (.int p1)] [(.int z), (.int p1)])) _
    refine st2 _ ?_
    show Steps p.tables e below (T2.setTop (mkF m 6 #[.val (.ref r0), .val (.int p1)] [])) _
    refine XS.aloadN X2.here hx rfl (hb hby d18_6) rfl rfl ?_
    refine XS.iloadN X2.here hx rfl (hb hby d18_7) rfl ?_
    show Steps p.tables e below (T2.setTop (mkF m 8 #[.val (.ref r0), .val (.int p1)] [(.int p1), (.ref r0)])) _
    refine X2.baloadBytes hx (j := p1) (v := (.int (own_by cv))) (by rw [e2]; exact Ar_8_3.1) (State.isArrayOf_alike hZ.alike Ar_8_3.2.1) Ar_8_3.2.2 hin8_3 hat8_3 (g := (mkF m 8 #[.val (.ref r0), .val (.int p1)] [(.int p1), (.ref r0)])) rfl rfl (hb hby d18_8) _ ?_
    show Steps p.tables e below (T2.setTop (mkF m 9 #[.val (.ref r0), .val (.int p1)] [(.int (own_by cv))])) _
    refine XS.sipush X2.here hx rfl (hb hby d18_9) ?_
    show Steps p.tables e below (T2.setTop (mkF m 12 #[.val (.ref r0), .val (.int p1)] [(.int (255 : Int32)), (.int (own_by cv))])) _
    refine XS.iand X2.here hx rfl (hb hby d18_12) rfl ?_
    show Steps p.tables e below (T2.setTop (mkF m 13 #[.val (.ref r0), .val (.int p1)] [(.int ((own_by cv) &&& (255 : Int32)))])) _
    refine XS.i2c X2.here hx rfl (hb hby d18_13) rfl ?_
    show Steps p.tables e below (T2.setTop (mkF m 14 #[.val (.ref r0), .val (.int p1)] [(.int (((own_by cv) &&& (255 : Int32)).toUInt32.toUInt16.toUInt32.toInt32))])) _
    exact retN X2 hx (t := .char) Bd.returns (by simp) (hb hby d18_14) hr
  · show Q18 Z r0 p1 kb z vs cv fm h0 n0 _ T2.heap _
    rw [e2]
    exact ⟨congrArg (fun q => some (Value.int q)) (own_c8 hc), N2, rfl⟩
theorem ef_16 (m : MethodId) (x0 : Addr) (x1 : Int32) : entryFrame m #[(.ref x0), (.int x1)] 2 = mkF m 0 #[.val (.ref x0), .val (.int x1)] [] := by first | (simp [entryFrame, mkF, argsToLocals, Value.category]; done) | rfl
theorem d16_0 : decode jdk_42_method_56_code 0 = .ok (.aload_n 0, 1) := by decide +kernel
theorem d16_1 : decode jdk_42_method_56_code 1 = .ok (.invokevirtual 492, 3) := by decide +kernel
theorem pd_2829Z : parseMethodDescriptor "()Z" = some ⟨[], some .boolean⟩ := by decide +kernel
theorem d16_4 : decode jdk_42_method_56_code 4 = .ok (.ifCond .eq 12, 3) := by decide +kernel
theorem d16_7 : decode jdk_42_method_56_code 7 = .ok (.aload_n 0, 1) := by decide +kernel
theorem d16_8 : decode jdk_42_method_56_code 8 = .ok (.getfield 9, 3) := by decide +kernel
theorem d16_11 : decode jdk_42_method_56_code 11 = .ok (.iload_n 1, 1) := by decide +kernel
theorem d16_12 : decode jdk_42_method_56_code 12 = .ok (.invokestatic 495, 3) := by decide +kernel
theorem pd_285bBI29C : parseMethodDescriptor "([BI)C" = some ⟨[(.array .byte), .int], some .char⟩ := by decide +kernel
theorem d16_15 : decode jdk_42_method_56_code 15 = .ok (.ireturn, 1) := by decide +kernel
def Q16 (Z : State) (r0 : Addr) (p1 : Int32) (b : Addr) (kb : ClassId) (z : Int32) (vs : List Value) (cv : Int32) (cs : Int32) (fm : Value) (h0 : Heap) (n0 : Nat) (v : Option Value) (h : Heap) (L : List Loc) : Prop := v = some (.int cv) ∧ Fr n0 L ∧ h = h0
set_option maxRecDepth 65536 in
set_option maxHeartbeats 40000000 in
theorem rm16 (l : Launch) (Z : State) (a0 : Array Value) (hw : ∀ d ∈ tables_1, d.before a0 Z = true) (ws : List Jvm.Cond) (r0 : Addr) (p1 : Int32) (b : Addr) (kb : ClassId) (z : Int32) (vs : List Value) (cv : Int32) (cs : Int32) (fm : Value) (h0 : Heap) (n0 : Nat) (Z0 : n0 ≤ h0.size) (E_r0 : Exa Z h0 r0 "java/lang/String") (C_r0 : Fld Z h0 r0 "java/lang/String" "coder" "B" (.int (0 : Int32))) (V_r0 : Fld Z h0 r0 "java/lang/String" "value" "[B" (.ref b)) (K_b : Arv Z h0 b kb .byte z vs (.int (0 : Int32))) (O_0 : Old Z n0 h0) (S_cs : Sta Z Z.heap "java/lang/String" "COMPACT_STRINGS" "Z" (.int cs)) (hcs : ¬ (cs = (0 : Int32))) (S_fm : Sta Z Z.heap "jdk/internal/util/Preconditions" "SIOOBE_FORMATTER" "Ljava/util/function/BiFunction;" fm) (hfm : fm.isRef = true) (h1 : ¬ (p1 < (0 : Int32))) (h2 : p1 < z) (hat : vs.getD p1.toNatClampNeg (.int (0 : Int32)) = (.int (own_by cv))) (hc : own_ch cv) :
    MetFree l (⟨"java/lang/String", "charAt", "(I)C"⟩ : MethodName) (head1 (Jvm.Cond.code (⟨"java/lang/String", "charAt", "(I)C"⟩ : MethodName) jdk_42_method_56_code 2 (some .char) :: ws) ({ frames := 3, cells := 0, slots := 0, locals := 40 } : Room)) (fun a U => a = #[(.ref r0), (.int p1)] ∧ Z.Warmed39 U.vm ∧ U.heap = h0) (fun _ _ _ _ _ => True) (fun _ U o U' => ∃ v L, o = .returned v ∧ Q16 Z r0 p1 b kb z vs cv cs fm h0 n0 v U'.heap L ∧ FrameEnd U o U' L ({ frames := 3, cells := 0, slots := 0, locals := 40 } : Room).cells ({ frames := 3, cells := 0, slots := 0, locals := 40 } : Room).slots) := by
  refine MetFree.of_bodySF (plainFor_of_name pn_java_lang_String) hisR ?_
  intro p e s m args below meth c s₁ Bd hml0 hP hK
  obtain ⟨rfl, hZ, hh⟩ := hP
  have hx := Bd.exec
  have hby := Bd.bytes
  have hml : c.maxLocals = 2 := hml0
  have hown : s.vm.findClass "java/lang/String" = some m.cls := findClass_of_methodNamed Bd.named
  have hnm := (name_of_methodNamed Bd.named Bd.method).1
  have X0 : Stand p l e ({ frames := 3, cells := 0, slots := 0, locals := 40 } : Room) s m #[(.ref r0), (.int p1)] below meth c s₁ [] 0 0 := Stand.of_body Bd
  have e0 : s₁.heap = h0 := by rw [← hh, Bd.state]; rfl
  have N0 := Fr.nil n0
  have pre0 : ∀ t, Steps p.tables e below (s₁.setTop (mkF m 0 #[.val (.ref r0), .val (.int p1)] [])) t → Steps p.tables e below (s₁.setTop (entryFrame m #[(.ref r0), (.int p1)] 2)) t := fun tt kt_ => castTop (ef_16 m r0 p1) kt_
  obtain ⟨cq1, kq1, q1a, q1b, q1c⟩ := isOf hZ e0 E_r0
  obtain ⟨_, _, ⟨T1, L1, k1, n1⟩, -, X1, ⟨Lc1, hQ1, l1, y1, z1⟩, st1⟩ := X0.virtualBack hx (y := (⟨"java/lang/String", "isLatin1", "()Z"⟩ : MethodName)) (z := (⟨"java/lang/String", "isLatin1", "()Z"⟩ : MethodName)) hown (mvT hZ (hw _ (List.mem_of_getElem? (i := 79) rfl))) (mvT hZ (hw _ (List.mem_of_getElem? (i := 80) rfl))) (notFace_of_selects (args := #[]) (mvT hZ (hw _ (List.mem_of_getElem? (i := 82) rfl)))) (mvT hZ (hw _ (List.mem_of_getElem? (i := 82) rfl))) (mvT hZ (hw _ (List.mem_of_getElem? (i := 81) rfl))) (by decide) (backOf (W := 0) (rm17 l Z a0 hw [] r0 cs h0 n0 Z0 C_r0 O_0 S_cs hcs) hZ (hw _ (List.mem_of_getElem? (i := 83) rfl)) (hw _ (List.mem_of_getElem? (i := 11) rfl)) (by decide) (by decide)) q1a q1c (g := (mkF m 1 #[.val (.ref r0), .val (.int p1)] [(.ref r0)])) rfl (by rw [hml]; rfl) (Steps.refl _) (argsL := []) (rest := []) (lenOf pd_2829Z rfl) rfl (by show 2 * 0 + _ ≤ _; exact Nat.le_of_eq rfl) (hb hby d16_1) (fun _ _ => ⟨rfl, e0, (by decide : 0 + 0 ≤ _), (by decide : 0 + 0 ≤ _)⟩)
  dsimp only [Pt.U, Pt.locs, Pt.cells, Pt.slots] at X1 l1 y1 z1 st1 hQ1
  subst l1 y1 z1
  obtain ⟨rfl, N1q, e1⟩ := hQ1
  have N1 := Fr.app N0 N1q
  obtain ⟨T2, X2, e2, st2⟩ := getF X1 hx hZ hown (host := "") (Or.inl (hw _ (List.mem_of_getElem? (i := 28) rfl))) Via.refl e1 V_r0 (g := (mkF m 8 #[.val (.ref r0), .val (.int p1)] [(.ref r0)])) rfl rfl (hb hby d16_8)
  obtain ⟨_, _, ⟨T3, L3, k3, n3⟩, -, X3, ⟨Lc3, hQ3, l3, y3, z3⟩, st3⟩ := Jvm.LawKit.callS X2 hx (y := (⟨"java/lang/StringLatin1", "charAt", "([BI)C"⟩ : MethodName)) hown (mvT hZ (hw _ (List.mem_of_getElem? (i := 84) rfl))) (mvT hZ (hw _ (List.mem_of_getElem? (i := 85) rfl))) (mvT hZ (hw _ (List.mem_of_getElem? (i := 86) rfl))) (mvT hZ (hw _ (List.mem_of_getElem? (i := 87) rfl))) (by decide) (backOf (W := 0) (rm18 l Z a0 hw [] b p1 kb z vs cv fm h0 n0 Z0 K_b O_0 S_fm hfm h1 h2 hat hc) hZ (hw _ (List.mem_of_getElem? (i := 87) rfl)) (hw _ (List.mem_of_getElem? (i := 86) rfl)) (by decide) (by decide)) (g := (mkF m 12 #[.val (.ref r0), .val (.int p1)] [(.int p1), (.ref b)])) rfl (by rw [hml]; rfl) (argsL := [(.ref b), (.int p1)]) (rest := []) (lenOf pd_285bBI29C rfl) rfl (by show 2 * 0 + _ ≤ _; exact Nat.le_of_eq rfl) (hb hby d16_12) (fun _ _ => ⟨rfl, e2, (by decide : 0 + 0 ≤ _), (by decide : 0 + 0 ≤ _)⟩)
  dsimp only [Pt.U, Pt.locs, Pt.cells, Pt.slots] at X3 l3 y3 z3 st3 hQ3
  subst l3 y3 z3
  obtain ⟨rfl, N3q, e3⟩ := hQ3
  have N3 := Fr.app N1 N3q
  obtain ⟨fs, hr, hrun, hended, hW, hsame⟩ := X3.leave (v := some (.int (nar .char cv))) (fun h => by rw [Bd.returns] at h; cases h)
  refine ⟨_, _, pre0 _ ?_, hrun, hended, _, _, rfl, ?_, ⟨_, rfl⟩, hW, hsame.mono (by decide) (by decide)⟩
  · show Steps p.tables e below (s₁.setTop (mkF m 0 #[.val (.ref r0), .val (.int p1)] [])) _
    refine XS.aloadN X0.here hx rfl (hb hby d16_0) rfl rfl ?_
    show Steps p.tables e below (s₁.setTop (mkF m 1 #[.val (.ref r0), .val (.int p1)] [(.ref r0)])) _
    refine st1.trans ?_
    show Steps p.tables e below (T1.setTop (mkF m 4 #[.val (.ref r0), .val (.int p1)] [(.int (1 : Int32))])) _
    refine XS.ifNo X1.here hx rfl (hb hby d16_4) rfl ((if0 _ _).trans (feq (by decide : ¬ ((1 : Int32) = (0 : Int32)))).1) ?_
    refine XS.aloadN X1.here hx rfl (hb hby d16_7) rfl rfl ?_
    show Steps p.tables e below (T1.setTop (mkF m 8 #[.val (.ref r0), .val (.int p1)] [(.ref r0)])) _
    refine st2 _ ?_
    show Steps p.tables e below (T2.setTop (mkF m 11 #[.val (.ref r0), .val (.int p1)] [(.ref b)])) _
    refine XS.iloadN X2.here hx rfl (hb hby d16_11) rfl ?_
    show Steps p.tables e below (T2.setTop (mkF m 12 #[.val (.ref r0), .val (.int p1)] [(.int p1), (.ref b)])) _
    refine st3 _ ?_
    show Steps p.tables e below (T3.setTop (mkF m 15 #[.val (.ref r0), .val (.int p1)] [(.int cv)])) _
    exact retN X3 hx (t := .char) Bd.returns (by simp) (hb hby d16_15) hr
  · show Q16 Z r0 p1 b kb z vs cv cs fm h0 n0 _ T3.heap _
    rw [e3]
    exact ⟨congrArg (fun q => some (Value.int q)) (own_cc hc), N3, rfl⟩
theorem ef_11 (m : MethodId) (x0 : Int32) (x1 : Int32) (x2 : Int32) (fm : Value) (hfm : fm.isRef = true) : entryFrame m #[(.int x0), (.int x1), (.int x2), fm] 4 = mkF m 0 #[.val (.int x0), .val (.int x1), .val (.int x2), .val fm] [] := by cases fm <;> simp [Value.isRef] at hfm <;> first | (simp [entryFrame, mkF, argsToLocals, Value.category]; done) | rfl
theorem d11_0 : decode jdk_41_method_12_code 0 = .ok (.iload_n 0, 1) := by decide +kernel
theorem d11_1 : decode jdk_41_method_12_code 1 = .ok (.ifCond .lt 13, 3) := by decide +kernel
theorem d11_4 : decode jdk_41_method_12_code 4 = .ok (.iload_n 0, 1) := by decide +kernel
theorem d11_5 : decode jdk_41_method_12_code 5 = .ok (.iload_n 1, 1) := by decide +kernel
theorem d11_6 : decode jdk_41_method_12_code 6 = .ok (.if_icmp .gt 8, 3) := by decide +kernel
theorem d11_9 : decode jdk_41_method_12_code 9 = .ok (.iload_n 1, 1) := by decide +kernel
theorem d11_10 : decode jdk_41_method_12_code 10 = .ok (.iload_n 2, 1) := by decide +kernel
theorem d11_11 : decode jdk_41_method_12_code 11 = .ok (.if_icmp .le 11, 3) := by decide +kernel
theorem d11_22 : decode jdk_41_method_12_code 22 = .ok (.iload_n 0, 1) := by decide +kernel
theorem d11_23 : decode jdk_41_method_12_code 23 = .ok (.ireturn, 1) := by decide +kernel
def Q11 (Z : State) (p0 : Int32) (p1 : Int32) (p2 : Int32) (fm : Value) (h0 : Heap) (n0 : Nat) (v : Option Value) (h : Heap) (L : List Loc) : Prop := v = some (.int p0) ∧ Fr n0 L ∧ h = h0
set_option maxRecDepth 65536 in
set_option maxHeartbeats 40000000 in
theorem rm11 (l : Launch) (Z : State) (a0 : Array Value) (hw : ∀ d ∈ tables_1, d.before a0 Z = true) (ws : List Jvm.Cond) (p0 : Int32) (p1 : Int32) (p2 : Int32) (fm : Value) (h0 : Heap) (n0 : Nat) (Z0 : n0 ≤ h0.size) (hfm : fm.isRef = true) (h1 : ¬ (p0 < (0 : Int32))) (h2 : ¬ (p1 < p0)) (h3 : ¬ (p2 < p1)) :
    MetFree l (⟨"jdk/internal/util/Preconditions", "checkFromToIndex", "(IIILjava/util/function/BiFunction;)I"⟩ : MethodName) (head1 (Jvm.Cond.code (⟨"jdk/internal/util/Preconditions", "checkFromToIndex", "(IIILjava/util/function/BiFunction;)I"⟩ : MethodName) jdk_41_method_12_code 4 (some .int) :: ws) ({ frames := 0, cells := 0, slots := 0, locals := 0 } : Room)) (fun a U => a = #[(.int p0), (.int p1), (.int p2), fm] ∧ Z.Warmed39 U.vm ∧ U.heap = h0) (fun _ _ _ _ _ => True) (fun _ U o U' => ∃ v L, o = .returned v ∧ Q11 Z p0 p1 p2 fm h0 n0 v U'.heap L ∧ FrameEnd U o U' L ({ frames := 0, cells := 0, slots := 0, locals := 0 } : Room).cells ({ frames := 0, cells := 0, slots := 0, locals := 0 } : Room).slots) := by
  refine MetFree.of_bodySF (plainFor_of_name pn_jdk_internal_util_Preconditions) hisR ?_
  intro p e s m args below meth c s₁ Bd hml0 hP hK
  obtain ⟨rfl, hZ, hh⟩ := hP
  have hx := Bd.exec
  have hby := Bd.bytes
  have hml : c.maxLocals = 4 := hml0
  have hown : s.vm.findClass "jdk/internal/util/Preconditions" = some m.cls := findClass_of_methodNamed Bd.named
  have hnm := (name_of_methodNamed Bd.named Bd.method).1
  have X0 : Stand p l e ({ frames := 0, cells := 0, slots := 0, locals := 0 } : Room) s m #[(.int p0), (.int p1), (.int p2), fm] below meth c s₁ [] 0 0 := Stand.of_body Bd
  have e0 : s₁.heap = h0 := by rw [← hh, Bd.state]; rfl
  have N0 := Fr.nil n0
  have pre0 : ∀ t, Steps p.tables e below (s₁.setTop (mkF m 0 #[.val (.int p0), .val (.int p1), .val (.int p2), .val fm] [])) t → Steps p.tables e below (s₁.setTop (entryFrame m #[(.int p0), (.int p1), (.int p2), fm] 4)) t := fun tt kt_ => castTop (ef_11 m p0 p1 p2 fm hfm) kt_
  obtain ⟨fs, hr, hrun, hended, hW, hsame⟩ := X0.leave (v := some (.int p0)) (fun h => by rw [Bd.returns] at h; cases h)
  refine ⟨_, _, pre0 _ ?_, hrun, hended, _, _, rfl, ?_, ⟨_, rfl⟩, hW, hsame.mono (by decide) (by decide)⟩
  · show Steps p.tables e below (s₁.setTop (mkF m 0 #[.val (.int p0), .val (.int p1), .val (.int p2), .val fm] [])) _
    refine XS.iloadN X0.here hx rfl (hb hby d11_0) rfl ?_
    show Steps p.tables e below (s₁.setTop (mkF m 1 #[.val (.int p0), .val (.int p1), .val (.int p2), .val fm] [(.int p0)])) _
    refine XS.ifNo X0.here hx rfl (hb hby d11_1) rfl ((if0 _ _).trans (flt h1).1) ?_
    refine XS.iloadN X0.here hx rfl (hb hby d11_4) rfl ?_
    refine XS.iloadN X0.here hx rfl (hb hby d11_5) rfl ?_
    show Steps p.tables e below (s₁.setTop (mkF m 6 #[.val (.int p0), .val (.int p1), .val (.int p2), .val fm] [(.int p1), (.int p0)])) _
    refine XS.icmpNo X0.here hx rfl (hb hby d11_6) rfl (flt h2).2.2.1 ?_
    refine XS.iloadN X0.here hx rfl (hb hby d11_9) rfl ?_
    refine XS.iloadN X0.here hx rfl (hb hby d11_10) rfl ?_
    show Steps p.tables e below (s₁.setTop (mkF m 11 #[.val (.int p0), .val (.int p1), .val (.int p2), .val fm] [(.int p2), (.int p1)])) _
    refine XS.icmpYes X0.here hx rfl (pc0 := 11) (pc' := 22) rfl (hb hby d11_11) rfl (flt h3).2.2.2 (by decide) (by decide) ?_
    refine XS.iloadN X0.here hx rfl (hb hby d11_22) rfl ?_
    show Steps p.tables e below (s₁.setTop (mkF m 23 #[.val (.int p0), .val (.int p1), .val (.int p2), .val fm] [(.int p0)])) _
    exact retI X0 hx Bd.returns (hb hby d11_23) hr
  · show Q11 Z p0 p1 p2 fm h0 n0 _ s₁.heap _
    rw [e0]
    exact ⟨rfl, N0, rfl⟩
theorem ef_10 (m : MethodId) (x0 : Int32) (x1 : Int32) (x2 : Int32) : entryFrame m #[(.int x0), (.int x1), (.int x2)] 3 = mkF m 0 #[.val (.int x0), .val (.int x1), .val (.int x2)] [] := by first | (simp [entryFrame, mkF, argsToLocals, Value.category]; done) | rfl
theorem d10_0 : decode jdk_42_method_158_code 0 = .ok (.iload_n 0, 1) := by decide +kernel
theorem d10_1 : decode jdk_42_method_158_code 1 = .ok (.iload_n 1, 1) := by decide +kernel
theorem d10_2 : decode jdk_42_method_158_code 2 = .ok (.iload_n 2, 1) := by decide +kernel
theorem d10_3 : decode jdk_42_method_158_code 3 = .ok (.getstatic 1053, 3) := by decide +kernel
theorem d10_6 : decode jdk_42_method_158_code 6 = .ok (.invokestatic 1062, 3) := by decide +kernel
theorem pd_28IIILjava2futil2ffunction2fBiFunction3b29I : parseMethodDescriptor "(IIILjava/util/function/BiFunction;)I" = some ⟨[.int, .int, .int, (.object "java/util/function/BiFunction")], some .int⟩ := by decide +kernel
theorem d10_9 : decode jdk_42_method_158_code 9 = .ok (.pop, 1) := by decide +kernel
theorem d10_10 : decode jdk_42_method_158_code 10 = .ok (.return_, 1) := by decide +kernel
def Q10 (Z : State) (p0 : Int32) (p1 : Int32) (p2 : Int32) (fm : Value) (h0 : Heap) (n0 : Nat) (v : Option Value) (h : Heap) (L : List Loc) : Prop := v = none ∧ Fr n0 L ∧ h = h0
set_option maxRecDepth 65536 in
set_option maxHeartbeats 40000000 in
theorem rm10 (l : Launch) (Z : State) (a0 : Array Value) (hw : ∀ d ∈ tables_1, d.before a0 Z = true) (ws : List Jvm.Cond) (p0 : Int32) (p1 : Int32) (p2 : Int32) (fm : Value) (h0 : Heap) (n0 : Nat) (Z0 : n0 ≤ h0.size) (O_0 : Old Z n0 h0) (S_fm : Sta Z Z.heap "jdk/internal/util/Preconditions" "SIOOBE_FORMATTER" "Ljava/util/function/BiFunction;" fm) (hfm : fm.isRef = true) (h1 : ¬ (p0 < (0 : Int32))) (h2 : ¬ (p1 < p0)) (h3 : ¬ (p2 < p1)) :
    MetFree l (⟨"java/lang/String", "checkBoundsBeginEnd", "(III)V"⟩ : MethodName) (head1 (Jvm.Cond.code (⟨"java/lang/String", "checkBoundsBeginEnd", "(III)V"⟩ : MethodName) jdk_42_method_158_code 3 none :: ws) ({ frames := 1, cells := 0, slots := 0, locals := 15 } : Room)) (fun a U => a = #[(.int p0), (.int p1), (.int p2)] ∧ Z.Warmed39 U.vm ∧ U.heap = h0) (fun _ _ _ _ _ => True) (fun _ U o U' => ∃ v L, o = .returned v ∧ Q10 Z p0 p1 p2 fm h0 n0 v U'.heap L ∧ FrameEnd U o U' L ({ frames := 1, cells := 0, slots := 0, locals := 15 } : Room).cells ({ frames := 1, cells := 0, slots := 0, locals := 15 } : Room).slots) := by
  refine MetFree.of_bodySF (plainFor_of_name pn_java_lang_String) hisR ?_
  intro p e s m args below meth c s₁ Bd hml0 hP hK
  obtain ⟨rfl, hZ, hh⟩ := hP
  have hx := Bd.exec
  have hby := Bd.bytes
  have hml : c.maxLocals = 3 := hml0
  have hown : s.vm.findClass "java/lang/String" = some m.cls := findClass_of_methodNamed Bd.named
  have hnm := (name_of_methodNamed Bd.named Bd.method).1
  have X0 : Stand p l e ({ frames := 1, cells := 0, slots := 0, locals := 15 } : Room) s m #[(.int p0), (.int p1), (.int p2)] below meth c s₁ [] 0 0 := Stand.of_body Bd
  have e0 : s₁.heap = h0 := by rw [← hh, Bd.state]; rfl
  have N0 := Fr.nil n0
  have pre0 : ∀ t, Steps p.tables e below (s₁.setTop (mkF m 0 #[.val (.int p0), .val (.int p1), .val (.int p2)] [])) t → Steps p.tables e below (s₁.setTop (entryFrame m #[(.int p0), (.int p1), (.int p2)] 3)) t := fun tt kt_ => castTop (ef_10 m p0 p1 p2) kt_
  obtain ⟨T1, X1, e1, st1⟩ := getS2 X0 hx hZ hown (host := "") (Or.inl (hw _ (List.mem_of_getElem? (i := 54) rfl))) Via.refl e0 (Sta.ext O_0.2 S_fm) (g := (mkF m 3 #[.val (.int p0), .val (.int p1), .val (.int p2)] [(.int p2), (.int p1), (.int p0)])) rfl (hb hby d10_3)
  obtain ⟨_, _, ⟨T2, L2, k2, n2⟩, -, X2, ⟨Lc2, hQ2, l2, y2, z2⟩, st2⟩ := Jvm.LawKit.callS X1 hx (y := (⟨"jdk/internal/util/Preconditions", "checkFromToIndex", "(IIILjava/util/function/BiFunction;)I"⟩ : MethodName)) hown (mvT hZ (hw _ (List.mem_of_getElem? (i := 56) rfl))) (mvT hZ (hw _ (List.mem_of_getElem? (i := 57) rfl))) (mvT hZ (hw _ (List.mem_of_getElem? (i := 55) rfl))) (mvT hZ (hw _ (List.mem_of_getElem? (i := 58) rfl))) (by decide) (backOf (W := 0) (rm11 l Z a0 hw [] p0 p1 p2 fm h0 n0 Z0 hfm h1 h2 h3) hZ (hw _ (List.mem_of_getElem? (i := 58) rfl)) (hw _ (List.mem_of_getElem? (i := 55) rfl)) (by decide) (by decide)) (g := (mkF m 6 #[.val (.int p0), .val (.int p1), .val (.int p2)] [fm, (.int p2), (.int p1), (.int p0)])) rfl (by rw [hml]; rfl) (argsL := [(.int p0), (.int p1), (.int p2), fm]) (rest := []) (lenOf pd_28IIILjava2futil2ffunction2fBiFunction3b29I rfl) rfl (by show 2 * 0 + _ ≤ _; exact Nat.le_of_eq rfl) (hb hby d10_6) (fun _ _ => ⟨rfl, e1, (by decide : 0 + 0 ≤ _), (by decide : 0 + 0 ≤ _)⟩)
  dsimp only [Pt.U, Pt.locs, Pt.cells, Pt.slots] at X2 l2 y2 z2 st2 hQ2
  subst l2 y2 z2
  obtain ⟨rfl, N2q, e2⟩ := hQ2
  have N2 := Fr.app N0 N2q
  obtain ⟨fs, hr, hrun, hended, hW, hsame⟩ := X2.leave (v := none) (fun _ => rfl)
  refine ⟨_, _, pre0 _ ?_, hrun, hended, _, _, rfl, ?_, ⟨_, rfl⟩, hW, hsame.mono (by decide) (by decide)⟩
  · show Steps p.tables e below (s₁.setTop (mkF m 0 #[.val (.int p0), .val (.int p1), .val (.int p2)] [])) _
    refine XS.iloadN X0.here hx rfl (hb hby d10_0) rfl ?_
    refine XS.iloadN X0.here hx rfl (hb hby d10_1) rfl ?_
    refine XS.iloadN X0.here hx rfl (hb hby d10_2) rfl ?_
    show Steps p.tables e below (s₁.setTop (mkF m 3 #[.val (.int p0), .val (.int p1), .val (.int p2)] [(.int p2), (.int p1), (.int p0)])) _
    refine st1 _ ?_
    show Steps p.tables e below (T1.setTop (mkF m 6 #[.val (.int p0), .val (.int p1), .val (.int p2)] [fm, (.int p2), (.int p1), (.int p0)])) _
    refine st2 _ ?_
    show Steps p.tables e below (T2.setTop (mkF m 9 #[.val (.int p0), .val (.int p1), .val (.int p2)] [(.int p0)])) _
    refine XS.pop X2.here hx rfl (hb hby d10_9) rfl rfl ?_
    show Steps p.tables e below (T2.setTop (mkF m 10 #[.val (.int p0), .val (.int p1), .val (.int p2)] [])) _
    exact X2.returnOut hx Bd.returns (hb hby d10_10) hr
  · show Q10 Z p0 p1 p2 fm h0 n0 _ T2.heap _
    rw [e2]
    exact ⟨rfl, N2, rfl⟩
theorem ef_26 (m : MethodId) (x0 : Int32) (x1 : Int32) : entryFrame m #[(.int x0), (.int x1)] 2 = mkF m 0 #[.val (.int x0), .val (.int x1)] [] := by first | (simp [entryFrame, mkF, argsToLocals, Value.category]; done) | rfl
theorem d26_0 : decode jdk_29_method_69_code 0 = .ok (.iload_n 0, 1) := by decide +kernel
theorem d26_1 : decode jdk_29_method_69_code 1 = .ok (.iload_n 1, 1) := by decide +kernel
theorem d26_2 : decode jdk_29_method_69_code 2 = .ok (.if_icmp .gt 7, 3) := by decide +kernel
theorem d26_9 : decode jdk_29_method_69_code 9 = .ok (.iload_n 1, 1) := by decide +kernel
theorem d26_10 : decode jdk_29_method_69_code 10 = .ok (.ireturn, 1) := by decide +kernel
theorem d26_5 : decode jdk_29_method_69_code 5 = .ok (.iload_n 0, 1) := by decide +kernel
theorem d26_6 : decode jdk_29_method_69_code 6 = .ok (.goto 4, 3) := by decide +kernel
def Q26 (Z : State) (p0 : Int32) (p1 : Int32) (h0 : Heap) (n0 : Nat) (v : Option Value) (h : Heap) (L : List Loc) : Prop := v = some (.int (own_mn p0 p1)) ∧ Fr n0 L ∧ h = h0
set_option maxRecDepth 65536 in
set_option maxHeartbeats 40000000 in
theorem rm26 (l : Launch) (Z : State) (a0 : Array Value) (hw : ∀ d ∈ tables_1, d.before a0 Z = true) (ws : List Jvm.Cond) (p0 : Int32) (p1 : Int32) (h0 : Heap) (n0 : Nat) (Z0 : n0 ≤ h0.size)  :
    MetFree l (⟨"java/lang/Math", "min", "(II)I"⟩ : MethodName) (head1 (Jvm.Cond.code (⟨"java/lang/Math", "min", "(II)I"⟩ : MethodName) jdk_29_method_69_code 2 (some .int) :: ws) ({ frames := 0, cells := 0, slots := 0, locals := 0 } : Room)) (fun a U => a = #[(.int p0), (.int p1)] ∧ Z.Warmed39 U.vm ∧ U.heap = h0) (fun _ _ _ _ _ => True) (fun _ U o U' => ∃ v L, o = .returned v ∧ Q26 Z p0 p1 h0 n0 v U'.heap L ∧ FrameEnd U o U' L ({ frames := 0, cells := 0, slots := 0, locals := 0 } : Room).cells ({ frames := 0, cells := 0, slots := 0, locals := 0 } : Room).slots) := by
  refine MetFree.of_bodySF (Jvm.Free.JP.mathPlain rfl (by decide +kernel)) hisR ?_
  intro p e s m args below meth c s₁ Bd hml0 hP hK
  obtain ⟨rfl, hZ, hh⟩ := hP
  have hx := Bd.exec
  have hby := Bd.bytes
  have hml : c.maxLocals = 2 := hml0
  have hown : s.vm.findClass "java/lang/Math" = some m.cls := findClass_of_methodNamed Bd.named
  have hnm := (name_of_methodNamed Bd.named Bd.method).1
  have X0 : Stand p l e ({ frames := 0, cells := 0, slots := 0, locals := 0 } : Room) s m #[(.int p0), (.int p1)] below meth c s₁ [] 0 0 := Stand.of_body Bd
  have e0 : s₁.heap = h0 := by rw [← hh, Bd.state]; rfl
  have N0 := Fr.nil n0
  have pre0 : ∀ t, Steps p.tables e below (s₁.setTop (mkF m 0 #[.val (.int p0), .val (.int p1)] [])) t → Steps p.tables e below (s₁.setTop (entryFrame m #[(.int p0), (.int p1)] 2)) t := fun tt kt_ => castTop (ef_26 m p0 p1) kt_
  by_cases hc2 : p1 < p0
  · obtain ⟨fs, hr, hrun, hended, hW, hsame⟩ := X0.leave (v := some (.int p1)) (fun h => by rw [Bd.returns] at h; cases h)
    refine ⟨_, _, pre0 _ ?_, hrun, hended, _, _, rfl, ?_, ⟨_, rfl⟩, hW, hsame.mono (by decide) (by decide)⟩
    · show Steps p.tables e below (s₁.setTop (mkF m 0 #[.val (.int p0), .val (.int p1)] [])) _
      refine XS.iloadN X0.here hx rfl (hb hby d26_0) rfl ?_
      refine XS.iloadN X0.here hx rfl (hb hby d26_1) rfl ?_
      show Steps p.tables e below (s₁.setTop (mkF m 2 #[.val (.int p0), .val (.int p1)] [(.int p1), (.int p0)])) _
      refine XS.icmpYes X0.here hx rfl (pc0 := 2) (pc' := 9) rfl (hb hby d26_2) rfl (tlt hc2).2.2.1 (by decide) (by decide) ?_
      refine XS.iloadN X0.here hx rfl (hb hby d26_9) rfl ?_
      show Steps p.tables e below (s₁.setTop (mkF m 10 #[.val (.int p0), .val (.int p1)] [(.int p1)])) _
      exact retI X0 hx Bd.returns (hb hby d26_10) hr
    · show Q26 Z p0 p1 h0 n0 _ s₁.heap _
      rw [e0]
      exact ⟨by rw [own_mn, if_pos hc2], N0, rfl⟩
  · obtain ⟨fs, hr, hrun, hended, hW, hsame⟩ := X0.leave (v := some (.int p0)) (fun h => by rw [Bd.returns] at h; cases h)
    refine ⟨_, _, pre0 _ ?_, hrun, hended, _, _, rfl, ?_, ⟨_, rfl⟩, hW, hsame.mono (by decide) (by decide)⟩
    · show Steps p.tables e below (s₁.setTop (mkF m 0 #[.val (.int p0), .val (.int p1)] [])) _
      refine XS.iloadN X0.here hx rfl (hb hby d26_0) rfl ?_
      refine XS.iloadN X0.here hx rfl (hb hby d26_1) rfl ?_
      show Steps p.tables e below (s₁.setTop (mkF m 2 #[.val (.int p0), .val (.int p1)] [(.int p1), (.int p0)])) _
      refine XS.icmpNo X0.here hx rfl (hb hby d26_2) rfl (flt hc2).2.2.1 ?_
      refine XS.iloadN X0.here hx rfl (hb hby d26_5) rfl ?_
      show Steps p.tables e below (s₁.setTop (mkF m 6 #[.val (.int p0), .val (.int p1)] [(.int p0)])) _
      refine XS.goto X0.here hx rfl (pc0 := 6) (pc' := 10) rfl (hb hby d26_6) (by decide) (by decide) ?_
      show Steps p.tables e below (s₁.setTop (mkF m 10 #[.val (.int p0), .val (.int p1)] [(.int p0)])) _
      exact retI X0 hx Bd.returns (hb hby d26_10) hr
    · show Q26 Z p0 p1 h0 n0 _ s₁.heap _
      rw [e0]
      exact ⟨by rw [own_mn, if_neg hc2], N0, rfl⟩
theorem ef_25 (m : MethodId) (x0 : Int32) (x1 : Int32) : entryFrame m #[(.int x0), (.int x1)] 2 = mkF m 0 #[.val (.int x0), .val (.int x1)] [] := by first | (simp [entryFrame, mkF, argsToLocals, Value.category]; done) | rfl
theorem pn_java_util_Arrays : plainName "java/util/Arrays" = true := by first | (simp [plainName, overriddenIn]; done) | decide +kernel
theorem d25_0 : decode jdk_65_method_131_code 0 = .ok (.iload_n 1, 1) := by decide +kernel
theorem d25_1 : decode jdk_65_method_131_code 1 = .ok (.iload_n 0, 1) := by decide +kernel
theorem d25_2 : decode jdk_65_method_131_code 2 = .ok (.if_icmp .ge 35, 3) := by decide +kernel
theorem d25_37 : decode jdk_65_method_131_code 37 = .ok (.return_, 1) := by decide +kernel
def Q25 (Z : State) (p0 : Int32) (p1 : Int32) (h0 : Heap) (n0 : Nat) (v : Option Value) (h : Heap) (L : List Loc) : Prop := v = none ∧ Fr n0 L ∧ h = h0
set_option maxRecDepth 65536 in
set_option maxHeartbeats 40000000 in
theorem rm25 (l : Launch) (Z : State) (a0 : Array Value) (hw : ∀ d ∈ tables_1, d.before a0 Z = true) (ws : List Jvm.Cond) (p0 : Int32) (p1 : Int32) (h0 : Heap) (n0 : Nat) (Z0 : n0 ≤ h0.size) (h1 : ¬ (p1 < p0)) :
    MetFree l (⟨"java/util/Arrays", "checkLength", "(II)V"⟩ : MethodName) (head1 (Jvm.Cond.code (⟨"java/util/Arrays", "checkLength", "(II)V"⟩ : MethodName) jdk_65_method_131_code 2 none :: ws) ({ frames := 0, cells := 0, slots := 0, locals := 0 } : Room)) (fun a U => a = #[(.int p0), (.int p1)] ∧ Z.Warmed39 U.vm ∧ U.heap = h0) (fun _ _ _ _ _ => True) (fun _ U o U' => ∃ v L, o = .returned v ∧ Q25 Z p0 p1 h0 n0 v U'.heap L ∧ FrameEnd U o U' L ({ frames := 0, cells := 0, slots := 0, locals := 0 } : Room).cells ({ frames := 0, cells := 0, slots := 0, locals := 0 } : Room).slots) := by
  refine MetFree.of_bodySF (plainFor_of_name pn_java_util_Arrays) hisR ?_
  intro p e s m args below meth c s₁ Bd hml0 hP hK
  obtain ⟨rfl, hZ, hh⟩ := hP
  have hx := Bd.exec
  have hby := Bd.bytes
  have hml : c.maxLocals = 2 := hml0
  have hown : s.vm.findClass "java/util/Arrays" = some m.cls := findClass_of_methodNamed Bd.named
  have hnm := (name_of_methodNamed Bd.named Bd.method).1
  have X0 : Stand p l e ({ frames := 0, cells := 0, slots := 0, locals := 0 } : Room) s m #[(.int p0), (.int p1)] below meth c s₁ [] 0 0 := Stand.of_body Bd
  have e0 : s₁.heap = h0 := by rw [← hh, Bd.state]; rfl
  have N0 := Fr.nil n0
  have pre0 : ∀ t, Steps p.tables e below (s₁.setTop (mkF m 0 #[.val (.int p0), .val (.int p1)] [])) t → Steps p.tables e below (s₁.setTop (entryFrame m #[(.int p0), (.int p1)] 2)) t := fun tt kt_ => castTop (ef_25 m p0 p1) kt_
  obtain ⟨fs, hr, hrun, hended, hW, hsame⟩ := X0.leave (v := none) (fun _ => rfl)
  refine ⟨_, _, pre0 _ ?_, hrun, hended, _, _, rfl, ?_, ⟨_, rfl⟩, hW, hsame.mono (by decide) (by decide)⟩
  · show Steps p.tables e below (s₁.setTop (mkF m 0 #[.val (.int p0), .val (.int p1)] [])) _
    refine XS.iloadN X0.here hx rfl (hb hby d25_0) rfl ?_
    refine XS.iloadN X0.here hx rfl (hb hby d25_1) rfl ?_
    show Steps p.tables e below (s₁.setTop (mkF m 2 #[.val (.int p0), .val (.int p1)] [(.int p0), (.int p1)])) _
    refine XS.icmpYes X0.here hx rfl (pc0 := 2) (pc' := 37) rfl (hb hby d25_2) rfl (flt h1).2.1 (by decide) (by decide) ?_
    show Steps p.tables e below (s₁.setTop (mkF m 37 #[.val (.int p0), .val (.int p1)] [])) _
    exact X0.returnOut hx Bd.returns (hb hby d25_37) hr
  · show Q25 Z p0 p1 h0 n0 _ s₁.heap _
    rw [e0]
    exact ⟨rfl, N0, rfl⟩
theorem ef_24 (m : MethodId) (x0 : Addr) (x1 : Int32) (x2 : Int32) : entryFrame m #[(.ref x0), (.int x1), (.int x2)] 5 = mkF m 0 #[.val (.ref x0), .val (.int x1), .val (.int x2), .unset, .unset] [] := by first | (simp [entryFrame, mkF, argsToLocals, Value.category]; done) | rfl
theorem d24_0 : decode jdk_65_method_133_code 0 = .ok (.iload_n 1, 1) := by decide +kernel
theorem d24_1 : decode jdk_65_method_133_code 1 = .ok (.iload_n 2, 1) := by decide +kernel
theorem d24_2 : decode jdk_65_method_133_code 2 = .ok (.invokestatic 343, 3) := by decide +kernel
theorem d24_5 : decode jdk_65_method_133_code 5 = .ok (.iload_n 2, 1) := by decide +kernel
theorem d24_6 : decode jdk_65_method_133_code 6 = .ok (.iload_n 1, 1) := by decide +kernel
theorem d24_7 : decode jdk_65_method_133_code 7 = .ok (.isub, 1) := by decide +kernel
theorem d24_8 : decode jdk_65_method_133_code 8 = .ok (.istore_n 3, 1) := by decide +kernel
theorem d24_9 : decode jdk_65_method_133_code 9 = .ok (.iload_n 3, 1) := by decide +kernel
theorem d24_10 : decode jdk_65_method_133_code 10 = .ok (.newarray .byte, 2) := by decide +kernel
theorem d24_12 : decode jdk_65_method_133_code 12 = .ok (.astore 4, 2) := by decide +kernel
theorem d24_14 : decode jdk_65_method_133_code 14 = .ok (.aload_n 0, 1) := by decide +kernel
theorem d24_15 : decode jdk_65_method_133_code 15 = .ok (.iload_n 1, 1) := by decide +kernel
theorem d24_16 : decode jdk_65_method_133_code 16 = .ok (.aload 4, 2) := by decide +kernel
theorem d24_18 : decode jdk_65_method_133_code 18 = .ok (.iconst 0, 1) := by decide +kernel
theorem d24_19 : decode jdk_65_method_133_code 19 = .ok (.aload_n 0, 1) := by decide +kernel
theorem d24_20 : decode jdk_65_method_133_code 20 = .ok (.arraylength, 1) := by decide +kernel
theorem d24_21 : decode jdk_65_method_133_code 21 = .ok (.iload_n 1, 1) := by decide +kernel
theorem d24_22 : decode jdk_65_method_133_code 22 = .ok (.isub, 1) := by decide +kernel
theorem d24_23 : decode jdk_65_method_133_code 23 = .ok (.iload_n 3, 1) := by decide +kernel
theorem d24_24 : decode jdk_65_method_133_code 24 = .ok (.invokestatic 304, 3) := by decide +kernel
theorem pd_28II29I : parseMethodDescriptor "(II)I" = some ⟨[.int, .int], some .int⟩ := by decide +kernel
theorem d24_27 : decode jdk_65_method_133_code 27 = .ok (.invokestatic 150, 3) := by decide +kernel
theorem d24_30 : decode jdk_65_method_133_code 30 = .ok (.aload 4, 2) := by decide +kernel
theorem d24_32 : decode jdk_65_method_133_code 32 = .ok (.areturn, 1) := by decide +kernel
def Q24 (Z : State) (r0 : Addr) (ka : ClassId) (ib k iz : Nat) (vs : List Value) (h0 : Heap) (n0 : Nat) (v : Option Value) (h : Heap) (L : List Loc) : Prop := ∃ (b : Addr) (kb : ClassId) (rl : List Value), v = some (.ref b) ∧ Fr n0 L ∧ Keep h0 h [] ∧ h0.size ≤ b ∧ Arv Z h b kb .byte (Int32.ofNat k) rl (.int (0 : Int32)) ∧ ∀ i, i < k → rl.getD i (.int (0 : Int32)) = vs.getD (ib + i) (.int (0 : Int32))
set_option maxRecDepth 65536 in
set_option maxHeartbeats 40000000 in
theorem rm24 (l : Launch) (Z : State) (a0 : Array Value) (hw : ∀ d ∈ tables_1, d.before a0 Z = true) (ws : List Jvm.Cond) (r0 : Addr) (ka : ClassId) (ib k iz : Nat) (vs : List Value) (h0 : Heap) (n0 : Nat) (Z0 : n0 ≤ h0.size) (V_r0 : Arv Z h0 r0 ka .byte (Int32.ofNat iz) vs (.int (0 : Int32))) (hk : 0 < k) (hz : ib + k ≤ iz) (hcap : iz ≤ 4) :
    MetFree l (⟨"java/util/Arrays", "copyOfRangeByte", "([BII)[B"⟩ : MethodName) (head1 (Jvm.Cond.code (⟨"java/util/Arrays", "copyOfRangeByte", "([BII)[B"⟩ : MethodName) jdk_65_method_133_code 5 (some (.array .byte)) :: ws) ({ frames := 1, cells := 1, slots := 4, locals := 18 } : Room)) (fun a U => a = #[(.ref r0), (.int (Int32.ofNat ib)), (.int (Int32.ofNat (ib + k)))] ∧ Z.Warmed39 U.vm ∧ U.heap = h0) (fun _ _ _ _ _ => True) (fun _ U o U' => ∃ v L, o = .returned v ∧ Q24 Z r0 ka ib k iz vs h0 n0 v U'.heap L ∧ FrameEnd U o U' L ({ frames := 1, cells := 1, slots := 4, locals := 18 } : Room).cells ({ frames := 1, cells := 1, slots := 4, locals := 18 } : Room).slots) := by
  refine MetFree.of_bodySF (plainFor_of_name pn_java_util_Arrays) hisR ?_
  intro p e s m args below meth c s₁ Bd hml0 hP hK
  obtain ⟨rfl, hZ, hh⟩ := hP
  have hx := Bd.exec
  have hby := Bd.bytes
  have hml : c.maxLocals = 5 := hml0
  have hown : s.vm.findClass "java/util/Arrays" = some m.cls := findClass_of_methodNamed Bd.named
  have hnm := (name_of_methodNamed Bd.named Bd.method).1
  have X0 : Stand p l e ({ frames := 1, cells := 1, slots := 4, locals := 18 } : Room) s m #[(.ref r0), (.int (Int32.ofNat ib)), (.int (Int32.ofNat (ib + k)))] below meth c s₁ [] 0 0 := Stand.of_body Bd
  have e0 : s₁.heap = h0 := by rw [← hh, Bd.state]; rfl
  have N0 := Fr.nil n0
  have pre0 : ∀ t, Steps p.tables e below (s₁.setTop (mkF m 0 #[.val (.ref r0), .val (.int (Int32.ofNat ib)), .val (.int (Int32.ofNat (ib + k))), .unset, .unset] [])) t → Steps p.tables e below (s₁.setTop (entryFrame m #[(.ref r0), (.int (Int32.ofNat ib)), (.int (Int32.ofNat (ib + k)))] 5)) t := fun tt kt_ => castTop (ef_24 m r0 (Int32.ofNat ib) (Int32.ofNat (ib + k))) kt_
  have K0 : Keep h0 h0 [] := Keep.refl h0 []
  obtain ⟨_, _, ⟨T1, L1, k1, n1⟩, -, X1, ⟨Lc1, hQ1, l1, y1, z1⟩, st1⟩ := Jvm.LawKit.callS X0 hx (y := (⟨"java/util/Arrays", "checkLength", "(II)V"⟩ : MethodName)) hown (mvT hZ (hw _ (List.mem_of_getElem? (i := 108) rfl))) (mvT hZ (hw _ (List.mem_of_getElem? (i := 109) rfl))) (mvT hZ (hw _ (List.mem_of_getElem? (i := 103) rfl))) (mvT hZ (hw _ (List.mem_of_getElem? (i := 110) rfl))) (by decide) (backOf (W := 0) (rm25 l Z a0 hw [] (Int32.ofNat ib) (Int32.ofNat (ib + k)) h0 n0 Z0 (fun q => by rw [own_olt (by omega) (by omega)] at q; omega)) hZ (hw _ (List.mem_of_getElem? (i := 110) rfl)) (hw _ (List.mem_of_getElem? (i := 103) rfl)) (by decide) (by decide)) (g := (mkF m 2 #[.val (.ref r0), .val (.int (Int32.ofNat ib)), .val (.int (Int32.ofNat (ib + k))), .unset, .unset] [(.int (Int32.ofNat (ib + k))), (.int (Int32.ofNat ib))])) rfl (by rw [hml]; rfl) (argsL := [(.int (Int32.ofNat ib)), (.int (Int32.ofNat (ib + k)))]) (rest := []) (lenOf pd_28II29V rfl) rfl (by show 2 * 0 + _ ≤ _; exact Nat.le_of_eq rfl) (hb hby d24_2) (fun _ _ => ⟨rfl, e0, (by decide : 0 + 0 ≤ _), (by decide : 0 + 0 ≤ _)⟩)
  dsimp only [Pt.U, Pt.locs, Pt.cells, Pt.slots] at X1 l1 y1 z1 st1 hQ1
  subst l1 y1 z1
  obtain ⟨rfl, N1q, e1⟩ := hQ1
  have N1 := Fr.app N0 N1q
  obtain ⟨T2, h2, k2, X2, e2, E2, A2, st2⟩ := newP X1 hx hZ (hw _ (List.mem_of_getElem? (i := 23) rfl)) e1 (g := (mkF m 10 #[.val (.ref r0), .val (.int (Int32.ofNat ib)), .val (.int (Int32.ofNat (ib + k))), .val (.int (Int32.ofNat k)), .unset] [(.int (Int32.ofNat k))])) rfl (hb hby d24_10) rfl (own_o0 (by omega)) (cap := 4) (by rw [own_oN (by omega)]; omega) (by decide) (by decide) (by decide)
  obtain ⟨b2, g2⟩ : ∃ z, z = h0.size := ⟨_, rfl⟩
  rw [← g2] at A2 st2
  have g_b2 : n0 ≤ b2 := Nat.le_trans Z0 (Nat.le_of_eq g2.symm)
  have sz_b2 : h0.size ≤ b2 := Nat.le_trans K0.1 (Nat.le_of_eq g2.symm)
  have ne_r0_b2 : r0 ≠ b2 := Nat.ne_of_lt (Nat.lt_of_lt_of_le V_r0.lt (Nat.le_of_eq g2.symm))
  have V_r0_at2 : Arv Z h2 r0 ka .byte (Int32.ofNat iz) vs (.int (0 : Int32)) := V_r0.ext E2
  have K2 : Keep h0 h2 [] := K0.ext E2
  have Z2 : n0 ≤ h2.size := Nat.le_trans Z0 E2.1
  have xV_b2_at2 := (Arv.new A2 (own_o0 (by omega))).pad (pad_rep [] (.int (0 : Int32)) k)
  have V_b2_at2 : Arv Z h2 b2 k2 .byte (Int32.ofNat k) (List.replicate k (.int (0 : Int32))) (.int (0 : Int32)) := xV_b2_at2
  obtain ⟨cl_20_3, Ar_20_3, -, S_20_3, M_20_3, -, -⟩ := id V_r0_at2
  obtain ⟨_, _, ⟨T4, L4, k4, n4⟩, -, X4, ⟨Lc4, hQ4, l4, y4, z4⟩, st4⟩ := Jvm.LawKit.callS X2 hx (y := (⟨"java/lang/Math", "min", "(II)I"⟩ : MethodName)) hown (mvT hZ (hw _ (List.mem_of_getElem? (i := 111) rfl))) (mvT hZ (hw _ (List.mem_of_getElem? (i := 112) rfl))) (mvT hZ (hw _ (List.mem_of_getElem? (i := 61) rfl))) (mvT hZ (hw _ (List.mem_of_getElem? (i := 113) rfl))) (by decide) (backOf (W := 4) (rm26 l Z a0 hw [] (Int32.ofNat (iz - ib)) (Int32.ofNat k) h2 n0 Z2) hZ (hw _ (List.mem_of_getElem? (i := 113) rfl)) (hw _ (List.mem_of_getElem? (i := 61) rfl)) (by decide) (by decide)) (g := (mkF m 24 #[.val (.ref r0), .val (.int (Int32.ofNat ib)), .val (.int (Int32.ofNat (ib + k))), .val (.int (Int32.ofNat k)), .val (.ref b2)] [(.int (Int32.ofNat k)), (.int (Int32.ofNat (iz - ib))), (.int (0 : Int32)), (.ref b2), (.int (Int32.ofNat ib)), (.ref r0)])) rfl (by rw [hml]; rfl) (argsL := [(.int (Int32.ofNat (iz - ib))), (.int (Int32.ofNat k))]) (rest := [(.int (0 : Int32)), (.ref b2), (.int (Int32.ofNat ib)), (.ref r0)]) (lenOf pd_28II29I rfl) rfl (by show 2 * 0 + _ ≤ _; exact Nat.le_of_eq rfl) (hb hby d24_24) (fun _ _ => ⟨rfl, e2, (by decide : 1 + 0 ≤ _), (by decide : 4 + 0 ≤ _)⟩)
  dsimp only [Pt.U, Pt.locs, Pt.cells, Pt.slots] at X4 l4 y4 z4 st4 hQ4
  subst l4 y4 z4
  obtain ⟨rfl, N4q, e4⟩ := hQ4
  have N4 := Fr.app N1 N4q
  obtain ⟨T5, h5, L5, X5, e5, N5, KK5, V5x, st5⟩ := cpA X4 hx hZ hown (hw _ (List.mem_of_getElem? (i := 114) rfl)) (hw _ (List.mem_of_getElem? (i := 117) rfl)) (hw _ (List.mem_of_getElem? (i := 115) rfl)) (hw _ (List.mem_of_getElem? (i := 116) rfl)) e4 V_r0_at2 V_b2_at2 (Or.inl ⟨rfl, rfl⟩) (sp := (Int32.ofNat ib)) (dp := (0 : Int32)) (nn := (Int32.ofNat k)) (own_o0 (by omega)) (by decide) (own_o0 (by omega)) (by rw [own_oN (by omega), own_oN (by omega), own_oN (by omega)]; omega) (by show 0 + _ ≤ _; omega) rfl (by rw [List.length_replicate, own_oN (by omega)]; show 0 + _ ≤ _; omega) N4 g_b2 (g := (mkF m 27 #[.val (.ref r0), .val (.int (Int32.ofNat ib)), .val (.int (Int32.ofNat (ib + k))), .val (.int (Int32.ofNat k)), .val (.ref b2)] [(.int (Int32.ofNat k)), (.int (0 : Int32)), (.ref b2), (.int (Int32.ofNat ib)), (.ref r0)])) rfl (by rw [hml]; rfl) (rest := []) rfl (hb hby d24_27) (by decide) (W := 0) (by show 2 * 0 + _ ≤ _; exact Nat.le_of_eq rfl) (by decide)
  have hP5 := own_cpy vs (.int (0 : Int32)) (List.replicate k (.int (0 : Int32))) (sp := (Int32.ofNat ib)) (nn := (Int32.ofNat k)) (own_oN (by omega)) (own_oN (by omega))
  have K5 : Keep h0 h5 [] := K2.trans KK5 (allS (Or.inr sz_b2) all0)
  have Z5 : n0 ≤ h5.size := Nat.le_trans Z2 KK5.1
  obtain ⟨fs, hr, hrun, hended, hW, hsame⟩ := X5.leave (v := some (.ref b2)) (fun h => by rw [Bd.returns] at h; cases h)
  refine ⟨_, _, pre0 _ ?_, hrun, hended, _, _, rfl, ?_, ⟨_, rfl⟩, hW, hsame.mono (by decide) (by decide)⟩
  · show Steps p.tables e below (s₁.setTop (mkF m 0 #[.val (.ref r0), .val (.int (Int32.ofNat ib)), .val (.int (Int32.ofNat (ib + k))), .unset, .unset] [])) _
    refine XS.iloadN X0.here hx rfl (hb hby d24_0) rfl ?_
    refine XS.iloadN X0.here hx rfl (hb hby d24_1) rfl ?_
    show Steps p.tables e below (s₁.setTop (mkF m 2 #[.val (.ref r0), .val (.int (Int32.ofNat ib)), .val (.int (Int32.ofNat (ib + k))), .unset, .unset] [(.int (Int32.ofNat (ib + k))), (.int (Int32.ofNat ib))])) _
    refine st1 _ ?_
    show Steps p.tables e below (T1.setTop (mkF m 5 #[.val (.ref r0), .val (.int (Int32.ofNat ib)), .val (.int (Int32.ofNat (ib + k))), .unset, .unset] [])) _
    refine XS.iloadN X1.here hx rfl (hb hby d24_5) rfl ?_
    refine XS.iloadN X1.here hx rfl (hb hby d24_6) rfl ?_
    refine XS.isub X1.here hx rfl (hb hby d24_7) rfl ?_
    show Steps p.tables e below (T1.setTop (mkF m 8 #[.val (.ref r0), .val (.int (Int32.ofNat ib)), .val (.int (Int32.ofNat (ib + k))), .unset, .unset] [(.int ((Int32.ofNat (ib + k)) - (Int32.ofNat ib)))])) _
    rw [own_osub2 (by omega)]
    show Steps p.tables e below (T1.setTop (mkF m 8 #[.val (.ref r0), .val (.int (Int32.ofNat ib)), .val (.int (Int32.ofNat (ib + k))), .unset, .unset] [(.int (Int32.ofNat k))])) _
    refine XS.istoreN X1.here hx rfl (hb hby d24_8) rfl (l' := #[.val (.ref r0), .val (.int (Int32.ofNat ib)), .val (.int (Int32.ofNat (ib + k))), .val (.int (Int32.ofNat k)), .unset]) rfl ?_
    refine XS.iloadN X1.here hx rfl (hb hby d24_9) rfl ?_
    show Steps p.tables e below (T1.setTop (mkF m 10 #[.val (.ref r0), .val (.int (Int32.ofNat ib)), .val (.int (Int32.ofNat (ib + k))), .val (.int (Int32.ofNat k)), .unset] [(.int (Int32.ofNat k))])) _
    refine st2 _ ?_
    show Steps p.tables e below (T2.setTop (mkF m 12 #[.val (.ref r0), .val (.int (Int32.ofNat ib)), .val (.int (Int32.ofNat (ib + k))), .val (.int (Int32.ofNat k)), .unset] [(.ref b2)])) _
    refine XS.astore X2.here hx rfl (hb hby d24_12) rfl rfl (l' := #[.val (.ref r0), .val (.int (Int32.ofNat ib)), .val (.int (Int32.ofNat (ib + k))), .val (.int (Int32.ofNat k)), .val (.ref b2)]) rfl ?_
    refine XS.aloadN X2.here hx rfl (hb hby d24_14) rfl rfl ?_
    refine XS.iloadN X2.here hx rfl (hb hby d24_15) rfl ?_
    refine XS.aload X2.here hx rfl (hb hby d24_16) rfl rfl ?_
    show Steps p.tables e below (T2.setTop (mkF m 18 #[.val (.ref r0), .val (.int (Int32.ofNat ib)), .val (.int (Int32.ofNat (ib + k))), .val (.int (Int32.ofNat k)), .val (.ref b2)] [(.ref b2), (.int (Int32.ofNat ib)), (.ref r0)])) _
    refine XS.iconst X2.here hx rfl (hb hby d24_18) ?_
    refine XS.aloadN X2.here hx rfl (hb hby d24_19) rfl rfl ?_
    show Steps p.tables e below (T2.setTop (mkF m 20 #[.val (.ref r0), .val (.int (Int32.ofNat ib)), .val (.int (Int32.ofNat (ib + k))), .val (.int (Int32.ofNat k)), .val (.ref b2)] [(.ref r0), (.int (0 : Int32)), (.ref b2), (.int (Int32.ofNat ib)), (.ref r0)])) _
    refine X2.arraylength hx (by rw [e2]; exact Ar_20_3.1) (State.isArrayOf_alike hZ.alike Ar_20_3.2.1) (g := (mkF m 20 #[.val (.ref r0), .val (.int (Int32.ofNat ib)), .val (.int (Int32.ofNat (ib + k))), .val (.int (Int32.ofNat k)), .val (.ref b2)] [(.ref r0), (.int (0 : Int32)), (.ref b2), (.int (Int32.ofNat ib)), (.ref r0)])) rfl rfl (hb hby d24_20) _ ?_
    rw [len_of S_20_3 M_20_3]
    show Steps p.tables e below (T2.setTop (mkF m 21 #[.val (.ref r0), .val (.int (Int32.ofNat ib)), .val (.int (Int32.ofNat (ib + k))), .val (.int (Int32.ofNat k)), .val (.ref b2)] [(.int (Int32.ofNat iz)), (.int (0 : Int32)), (.ref b2), (.int (Int32.ofNat ib)), (.ref r0)])) _
    refine XS.iloadN X2.here hx rfl (hb hby d24_21) rfl ?_
    refine XS.isub X2.here hx rfl (hb hby d24_22) rfl ?_
    show Steps p.tables e below (T2.setTop (mkF m 23 #[.val (.ref r0), .val (.int (Int32.ofNat ib)), .val (.int (Int32.ofNat (ib + k))), .val (.int (Int32.ofNat k)), .val (.ref b2)] [(.int ((Int32.ofNat iz) - (Int32.ofNat ib))), (.int (0 : Int32)), (.ref b2), (.int (Int32.ofNat ib)), (.ref r0)])) _
    rw [own_osub (by omega) (by omega)]
    show Steps p.tables e below (T2.setTop (mkF m 23 #[.val (.ref r0), .val (.int (Int32.ofNat ib)), .val (.int (Int32.ofNat (ib + k))), .val (.int (Int32.ofNat k)), .val (.ref b2)] [(.int (Int32.ofNat (iz - ib))), (.int (0 : Int32)), (.ref b2), (.int (Int32.ofNat ib)), (.ref r0)])) _
    refine XS.iloadN X2.here hx rfl (hb hby d24_23) rfl ?_
    show Steps p.tables e below (T2.setTop (mkF m 24 #[.val (.ref r0), .val (.int (Int32.ofNat ib)), .val (.int (Int32.ofNat (ib + k))), .val (.int (Int32.ofNat k)), .val (.ref b2)] [(.int (Int32.ofNat k)), (.int (Int32.ofNat (iz - ib))), (.int (0 : Int32)), (.ref b2), (.int (Int32.ofNat ib)), (.ref r0)])) _
    refine st4 _ ?_
    show Steps p.tables e below (T4.setTop (mkF m 27 #[.val (.ref r0), .val (.int (Int32.ofNat ib)), .val (.int (Int32.ofNat (ib + k))), .val (.int (Int32.ofNat k)), .val (.ref b2)] [(.int (own_mn (Int32.ofNat (iz - ib)) (Int32.ofNat k))), (.int (0 : Int32)), (.ref b2), (.int (Int32.ofNat ib)), (.ref r0)])) _
    rw [own_mnE (by omega) (by omega)]
    show Steps p.tables e below (T4.setTop (mkF m 27 #[.val (.ref r0), .val (.int (Int32.ofNat ib)), .val (.int (Int32.ofNat (ib + k))), .val (.int (Int32.ofNat k)), .val (.ref b2)] [(.int (Int32.ofNat k)), (.int (0 : Int32)), (.ref b2), (.int (Int32.ofNat ib)), (.ref r0)])) _
    refine st5 _ ?_
    show Steps p.tables e below (T5.setTop (mkF m 30 #[.val (.ref r0), .val (.int (Int32.ofNat ib)), .val (.int (Int32.ofNat (ib + k))), .val (.int (Int32.ofNat k)), .val (.ref b2)] [])) _
    refine XS.aload X5.here hx rfl (hb hby d24_30) rfl rfl ?_
    show Steps p.tables e below (T5.setTop (mkF m 32 #[.val (.ref r0), .val (.int (Int32.ofNat ib)), .val (.int (Int32.ofNat (ib + k))), .val (.int (Int32.ofNat k)), .val (.ref b2)] [(.ref b2)])) _
    jvm_step X5.here [X5.here.top, hx, (hb hby d24_32), X5.method', Bd.returns, Value.isRef, FieldType.isReference]
    first | (intro acts; rw [hr _ acts rfl rfl rfl]) | rw [hr _ _ rfl rfl rfl]
    exact Steps.refl _
  · show Q24 Z r0 ka ib k iz vs h0 n0 _ T5.heap _
    rw [e5]
    exact ⟨b2, _, _, rfl, N5, K5, sz_b2, V5x, hP5⟩
theorem ef_23 (m : MethodId) (x0 : Addr) (x1 : Int32) (x2 : Int32) : entryFrame m #[(.ref x0), (.int x1), (.int x2)] 3 = mkF m 0 #[.val (.ref x0), .val (.int x1), .val (.int x2)] [] := by first | (simp [entryFrame, mkF, argsToLocals, Value.category]; done) | rfl
theorem d23_0 : decode jdk_65_method_132_code 0 = .ok (.iload_n 1, 1) := by decide +kernel
theorem d23_1 : decode jdk_65_method_132_code 1 = .ok (.ifCond .ne 9, 3) := by decide +kernel
theorem d23_4 : decode jdk_65_method_132_code 4 = .ok (.iload_n 2, 1) := by decide +kernel
theorem d23_5 : decode jdk_65_method_132_code 5 = .ok (.aload_n 0, 1) := by decide +kernel
theorem d23_6 : decode jdk_65_method_132_code 6 = .ok (.arraylength, 1) := by decide +kernel
theorem d23_7 : decode jdk_65_method_132_code 7 = .ok (.if_icmp .eq 10, 3) := by decide +kernel
theorem d23_10 : decode jdk_65_method_132_code 10 = .ok (.aload_n 0, 1) := by decide +kernel
theorem d23_11 : decode jdk_65_method_132_code 11 = .ok (.iload_n 1, 1) := by decide +kernel
theorem d23_12 : decode jdk_65_method_132_code 12 = .ok (.iload_n 2, 1) := by decide +kernel
theorem d23_13 : decode jdk_65_method_132_code 13 = .ok (.invokestatic 339, 3) := by decide +kernel
theorem pd_285bBII295bB : parseMethodDescriptor "([BII)[B" = some ⟨[(.array .byte), .int, .int], some (.array .byte)⟩ := by decide +kernel
theorem d23_16 : decode jdk_65_method_132_code 16 = .ok (.areturn, 1) := by decide +kernel
def Q23 (Z : State) (r0 : Addr) (ka : ClassId) (ib k iz : Nat) (vs : List Value) (h0 : Heap) (n0 : Nat) (v : Option Value) (h : Heap) (L : List Loc) : Prop := ∃ (b : Addr) (kb : ClassId) (rl : List Value), v = some (.ref b) ∧ Fr n0 L ∧ Keep h0 h [] ∧ h0.size ≤ b ∧ Arv Z h b kb .byte (Int32.ofNat k) rl (.int (0 : Int32)) ∧ ∀ i, i < k → rl.getD i (.int (0 : Int32)) = vs.getD (ib + i) (.int (0 : Int32))
set_option maxRecDepth 65536 in
set_option maxHeartbeats 40000000 in
theorem rm23 (l : Launch) (Z : State) (a0 : Array Value) (hw : ∀ d ∈ tables_1, d.before a0 Z = true) (ws : List Jvm.Cond) (r0 : Addr) (ka : ClassId) (ib k iz : Nat) (vs : List Value) (h0 : Heap) (n0 : Nat) (Z0 : n0 ≤ h0.size) (V_r0 : Arv Z h0 r0 ka .byte (Int32.ofNat iz) vs (.int (0 : Int32))) (hk : 0 < k) (hz : ib + k ≤ iz) (hcap : iz ≤ 4) (hnw : ¬ (ib = 0 ∧ ib + k = iz)) :
    MetFree l (⟨"java/util/Arrays", "copyOfRange", "([BII)[B"⟩ : MethodName) (head1 (Jvm.Cond.code (⟨"java/util/Arrays", "copyOfRange", "([BII)[B"⟩ : MethodName) jdk_65_method_132_code 3 (some (.array .byte)) :: ws) ({ frames := 2, cells := 1, slots := 4, locals := 34 } : Room)) (fun a U => a = #[(.ref r0), (.int (Int32.ofNat ib)), (.int (Int32.ofNat (ib + k)))] ∧ Z.Warmed39 U.vm ∧ U.heap = h0) (fun _ _ _ _ _ => True) (fun _ U o U' => ∃ v L, o = .returned v ∧ Q23 Z r0 ka ib k iz vs h0 n0 v U'.heap L ∧ FrameEnd U o U' L ({ frames := 2, cells := 1, slots := 4, locals := 34 } : Room).cells ({ frames := 2, cells := 1, slots := 4, locals := 34 } : Room).slots) := by
  refine MetFree.of_bodySF (plainFor_of_name pn_java_util_Arrays) hisR ?_
  intro p e s m args below meth c s₁ Bd hml0 hP hK
  obtain ⟨rfl, hZ, hh⟩ := hP
  have hx := Bd.exec
  have hby := Bd.bytes
  have hml : c.maxLocals = 3 := hml0
  have hown : s.vm.findClass "java/util/Arrays" = some m.cls := findClass_of_methodNamed Bd.named
  have hnm := (name_of_methodNamed Bd.named Bd.method).1
  have X0 : Stand p l e ({ frames := 2, cells := 1, slots := 4, locals := 34 } : Room) s m #[(.ref r0), (.int (Int32.ofNat ib)), (.int (Int32.ofNat (ib + k)))] below meth c s₁ [] 0 0 := Stand.of_body Bd
  have e0 : s₁.heap = h0 := by rw [← hh, Bd.state]; rfl
  have N0 := Fr.nil n0
  have pre0 : ∀ t, Steps p.tables e below (s₁.setTop (mkF m 0 #[.val (.ref r0), .val (.int (Int32.ofNat ib)), .val (.int (Int32.ofNat (ib + k)))] [])) t → Steps p.tables e below (s₁.setTop (entryFrame m #[(.ref r0), (.int (Int32.ofNat ib)), (.int (Int32.ofNat (ib + k)))] 3)) t := fun tt kt_ => castTop (ef_23 m r0 (Int32.ofNat ib) (Int32.ofNat (ib + k))) kt_
  have K0 : Keep h0 h0 [] := Keep.refl h0 []
  by_cases hc1 : (Int32.ofNat ib) = (0 : Int32)
  · obtain ⟨cl_6_1, Ar_6_1, -, S_6_1, M_6_1, -, -⟩ := id V_r0
    obtain ⟨_, _, ⟨T2, L2, k2, n2⟩, -, X2, ⟨Lc2, hQ2, l2, y2, z2⟩, st2⟩ := Jvm.LawKit.callS X0 hx (y := (⟨"java/util/Arrays", "copyOfRangeByte", "([BII)[B"⟩ : MethodName)) hown (mvT hZ (hw _ (List.mem_of_getElem? (i := 105) rfl))) (mvT hZ (hw _ (List.mem_of_getElem? (i := 106) rfl))) (mvT hZ (hw _ (List.mem_of_getElem? (i := 103) rfl))) (mvT hZ (hw _ (List.mem_of_getElem? (i := 107) rfl))) (by decide) (backOf (W := 0) (rm24 l Z a0 hw [] r0 ka ib k iz vs h0 n0 Z0 V_r0 hk hz hcap) hZ (hw _ (List.mem_of_getElem? (i := 107) rfl)) (hw _ (List.mem_of_getElem? (i := 103) rfl)) (by decide) (by decide)) (g := (mkF m 13 #[.val (.ref r0), .val (.int (Int32.ofNat ib)), .val (.int (Int32.ofNat (ib + k)))] [(.int (Int32.ofNat (ib + k))), (.int (Int32.ofNat ib)), (.ref r0)])) rfl (by rw [hml]; rfl) (argsL := [(.ref r0), (.int (Int32.ofNat ib)), (.int (Int32.ofNat (ib + k)))]) (rest := []) (lenOf pd_285bBII295bB rfl) rfl (by show 2 * 0 + _ ≤ _; exact Nat.le_of_eq rfl) (hb hby d23_13) (fun _ _ => ⟨rfl, e0, (by decide : 0 + 1 ≤ _), (by decide : 0 + 4 ≤ _)⟩)
    dsimp only [Pt.U, Pt.locs, Pt.cells, Pt.slots] at X2 l2 y2 z2 st2 hQ2
    subst l2 y2 z2
    obtain ⟨b2, kb2, rl2, rfl, N2q, KK2, gb2, VB2, hP2⟩ := hQ2
    obtain ⟨h2, e2⟩ : ∃ z, T2.heap = z := ⟨_, rfl⟩
    rw [e2] at KK2 VB2
    have V_r0_at2 : Arv Z h2 r0 ka .byte (Int32.ofNat iz) vs (.int (0 : Int32)) := V_r0.keep KK2 nin0
    have K2 : Keep h0 h2 [] := K0.trans KK2 all0
    have Z2 : n0 ≤ h2.size := Nat.le_trans Z0 KK2.1
    have ne_r0_b2 : r0 ≠ b2 := Nat.ne_of_lt (Nat.lt_of_lt_of_le V_r0.lt gb2)
    have g_b2 : n0 ≤ b2 := Nat.le_trans Z0 gb2
    have sz_b2 : h0.size ≤ b2 := Nat.le_trans K0.1 gb2
    have N2 := Fr.app N0 N2q
    obtain ⟨fs, hr, hrun, hended, hW, hsame⟩ := X2.leave (v := some (.ref b2)) (fun h => by rw [Bd.returns] at h; cases h)
    refine ⟨_, _, pre0 _ ?_, hrun, hended, _, _, rfl, ?_, ⟨_, rfl⟩, hW, hsame.mono (by decide) (by decide)⟩
    · show Steps p.tables e below (s₁.setTop (mkF m 0 #[.val (.ref r0), .val (.int (Int32.ofNat ib)), .val (.int (Int32.ofNat (ib + k)))] [])) _
      refine XS.iloadN X0.here hx rfl (hb hby d23_0) rfl ?_
      show Steps p.tables e below (s₁.setTop (mkF m 1 #[.val (.ref r0), .val (.int (Int32.ofNat ib)), .val (.int (Int32.ofNat (ib + k)))] [(.int (Int32.ofNat ib))])) _
      refine XS.ifNo X0.here hx rfl (hb hby d23_1) rfl ((if0 _ _).trans (teq hc1).2) ?_
      refine XS.iloadN X0.here hx rfl (hb hby d23_4) rfl ?_
      refine XS.aloadN X0.here hx rfl (hb hby d23_5) rfl rfl ?_
      show Steps p.tables e below (s₁.setTop (mkF m 6 #[.val (.ref r0), .val (.int (Int32.ofNat ib)), .val (.int (Int32.ofNat (ib + k)))] [(.ref r0), (.int (Int32.ofNat (ib + k)))])) _
      refine X0.arraylength hx (by rw [e0]; exact Ar_6_1.1) (State.isArrayOf_alike hZ.alike Ar_6_1.2.1) (g := (mkF m 6 #[.val (.ref r0), .val (.int (Int32.ofNat ib)), .val (.int (Int32.ofNat (ib + k)))] [(.ref r0), (.int (Int32.ofNat (ib + k)))])) rfl rfl (hb hby d23_6) _ ?_
      rw [len_of S_6_1 M_6_1]
      show Steps p.tables e below (s₁.setTop (mkF m 7 #[.val (.ref r0), .val (.int (Int32.ofNat ib)), .val (.int (Int32.ofNat (ib + k)))] [(.int (Int32.ofNat iz)), (.int (Int32.ofNat (ib + k)))])) _
      refine XS.icmpNo X0.here hx rfl (hb hby d23_7) rfl (feq (fun q => hnw ⟨own_is0 (by omega) hc1, (own_oeq (by omega) (by omega)).mp q⟩)).1 ?_
      refine XS.aloadN X0.here hx rfl (hb hby d23_10) rfl rfl ?_
      refine XS.iloadN X0.here hx rfl (hb hby d23_11) rfl ?_
      refine XS.iloadN X0.here hx rfl (hb hby d23_12) rfl ?_
      show Steps p.tables e below (s₁.setTop (mkF m 13 #[.val (.ref r0), .val (.int (Int32.ofNat ib)), .val (.int (Int32.ofNat (ib + k)))] [(.int (Int32.ofNat (ib + k))), (.int (Int32.ofNat ib)), (.ref r0)])) _
      refine st2 _ ?_
      show Steps p.tables e below (T2.setTop (mkF m 16 #[.val (.ref r0), .val (.int (Int32.ofNat ib)), .val (.int (Int32.ofNat (ib + k)))] [(.ref b2)])) _
      jvm_step X2.here [X2.here.top, hx, (hb hby d23_16), X2.method', Bd.returns, Value.isRef, FieldType.isReference]
      first | (intro acts; rw [hr _ acts rfl rfl rfl]) | rw [hr _ _ rfl rfl rfl]
      exact Steps.refl _
    · show Q23 Z r0 ka ib k iz vs h0 n0 _ T2.heap _
      rw [e2]
      exact ⟨b2, _, _, rfl, N2, K2, sz_b2, VB2, hP2⟩
  · obtain ⟨_, _, ⟨T3, L3, k3, n3⟩, -, X3, ⟨Lc3, hQ3, l3, y3, z3⟩, st3⟩ := Jvm.LawKit.callS X0 hx (y := (⟨"java/util/Arrays", "copyOfRangeByte", "([BII)[B"⟩ : MethodName)) hown (mvT hZ (hw _ (List.mem_of_getElem? (i := 105) rfl))) (mvT hZ (hw _ (List.mem_of_getElem? (i := 106) rfl))) (mvT hZ (hw _ (List.mem_of_getElem? (i := 103) rfl))) (mvT hZ (hw _ (List.mem_of_getElem? (i := 107) rfl))) (by decide) (backOf (W := 0) (rm24 l Z a0 hw [] r0 ka ib k iz vs h0 n0 Z0 V_r0 hk hz hcap) hZ (hw _ (List.mem_of_getElem? (i := 107) rfl)) (hw _ (List.mem_of_getElem? (i := 103) rfl)) (by decide) (by decide)) (g := (mkF m 13 #[.val (.ref r0), .val (.int (Int32.ofNat ib)), .val (.int (Int32.ofNat (ib + k)))] [(.int (Int32.ofNat (ib + k))), (.int (Int32.ofNat ib)), (.ref r0)])) rfl (by rw [hml]; rfl) (argsL := [(.ref r0), (.int (Int32.ofNat ib)), (.int (Int32.ofNat (ib + k)))]) (rest := []) (lenOf pd_285bBII295bB rfl) rfl (by show 2 * 0 + _ ≤ _; exact Nat.le_of_eq rfl) (hb hby d23_13) (fun _ _ => ⟨rfl, e0, (by decide : 0 + 1 ≤ _), (by decide : 0 + 4 ≤ _)⟩)
    dsimp only [Pt.U, Pt.locs, Pt.cells, Pt.slots] at X3 l3 y3 z3 st3 hQ3
    subst l3 y3 z3
    obtain ⟨b3, kb3, rl3, rfl, N3q, KK3, gb3, VB3, hP3⟩ := hQ3
    obtain ⟨h3, e3⟩ : ∃ z, T3.heap = z := ⟨_, rfl⟩
    rw [e3] at KK3 VB3
    have V_r0_at3 : Arv Z h3 r0 ka .byte (Int32.ofNat iz) vs (.int (0 : Int32)) := V_r0.keep KK3 nin0
    have K3 : Keep h0 h3 [] := K0.trans KK3 all0
    have Z3 : n0 ≤ h3.size := Nat.le_trans Z0 KK3.1
    have ne_r0_b3 : r0 ≠ b3 := Nat.ne_of_lt (Nat.lt_of_lt_of_le V_r0.lt gb3)
    have g_b3 : n0 ≤ b3 := Nat.le_trans Z0 gb3
    have sz_b3 : h0.size ≤ b3 := Nat.le_trans K0.1 gb3
    have N3 := Fr.app N0 N3q
    obtain ⟨fs, hr, hrun, hended, hW, hsame⟩ := X3.leave (v := some (.ref b3)) (fun h => by rw [Bd.returns] at h; cases h)
    refine ⟨_, _, pre0 _ ?_, hrun, hended, _, _, rfl, ?_, ⟨_, rfl⟩, hW, hsame.mono (by decide) (by decide)⟩
    · show Steps p.tables e below (s₁.setTop (mkF m 0 #[.val (.ref r0), .val (.int (Int32.ofNat ib)), .val (.int (Int32.ofNat (ib + k)))] [])) _
      refine XS.iloadN X0.here hx rfl (hb hby d23_0) rfl ?_
      show Steps p.tables e below (s₁.setTop (mkF m 1 #[.val (.ref r0), .val (.int (Int32.ofNat ib)), .val (.int (Int32.ofNat (ib + k)))] [(.int (Int32.ofNat ib))])) _
      refine XS.ifYes X0.here hx rfl (pc0 := 1) (pc' := 10) rfl (hb hby d23_1) rfl ((if0 _ _).trans (feq hc1).2) (by decide) (by decide) ?_
      refine XS.aloadN X0.here hx rfl (hb hby d23_10) rfl rfl ?_
      refine XS.iloadN X0.here hx rfl (hb hby d23_11) rfl ?_
      refine XS.iloadN X0.here hx rfl (hb hby d23_12) rfl ?_
      show Steps p.tables e below (s₁.setTop (mkF m 13 #[.val (.ref r0), .val (.int (Int32.ofNat ib)), .val (.int (Int32.ofNat (ib + k)))] [(.int (Int32.ofNat (ib + k))), (.int (Int32.ofNat ib)), (.ref r0)])) _
      refine st3 _ ?_
      show Steps p.tables e below (T3.setTop (mkF m 16 #[.val (.ref r0), .val (.int (Int32.ofNat ib)), .val (.int (Int32.ofNat (ib + k)))] [(.ref b3)])) _
      jvm_step X3.here [X3.here.top, hx, (hb hby d23_16), X3.method', Bd.returns, Value.isRef, FieldType.isReference]
      first | (intro acts; rw [hr _ acts rfl rfl rfl]) | rw [hr _ _ rfl rfl rfl]
      exact Steps.refl _
    · show Q23 Z r0 ka ib k iz vs h0 n0 _ T3.heap _
      rw [e3]
      exact ⟨b3, _, _, rfl, N3, K3, sz_b3, VB3, hP3⟩
theorem ef_27 (m : MethodId) (x0 : Addr) (x1 : Addr) (x2 : Int32) : entryFrame m #[(.ref x0), (.ref x1), (.int x2)] 3 = mkF m 0 #[.val (.ref x0), .val (.ref x1), .val (.int x2)] [] := by first | (simp [entryFrame, mkF, argsToLocals, Value.category]; done) | rfl
theorem d27_0 : decode jdk_42_method_151_code 0 = .ok (.aload_n 0, 1) := by decide +kernel
theorem d27_1 : decode jdk_42_method_151_code 1 = .ok (.invokespecial 1, 3) := by decide +kernel
theorem d27_4 : decode jdk_42_method_151_code 4 = .ok (.aload_n 0, 1) := by decide +kernel
theorem d27_5 : decode jdk_42_method_151_code 5 = .ok (.aload_n 1, 1) := by decide +kernel
theorem d27_6 : decode jdk_42_method_151_code 6 = .ok (.putfield 9, 3) := by decide +kernel
theorem d27_9 : decode jdk_42_method_151_code 9 = .ok (.aload_n 0, 1) := by decide +kernel
theorem d27_10 : decode jdk_42_method_151_code 10 = .ok (.iload_n 2, 1) := by decide +kernel
theorem d27_11 : decode jdk_42_method_151_code 11 = .ok (.putfield 15, 3) := by decide +kernel
theorem d27_14 : decode jdk_42_method_151_code 14 = .ok (.return_, 1) := by decide +kernel
def Q27 (Z : State) (r0 : Addr) (r1 : Addr) (h0 : Heap) (n0 : Nat) (v : Option Value) (h : Heap) (L : List Loc) : Prop := v = none ∧ Fr n0 L ∧ Keep h0 h [r0] ∧ Fld Z h r0 "java/lang/String" "coder" "B" (.int (0 : Int32)) ∧ Fld Z h r0 "java/lang/String" "value" "[B" (.ref r1)
set_option maxRecDepth 65536 in
set_option maxHeartbeats 40000000 in
theorem rm27 (l : Launch) (Z : State) (a0 : Array Value) (hw : ∀ d ∈ tables_1, d.before a0 Z = true) (ws : List Jvm.Cond) (r0 : Addr) (r1 : Addr) (h0 : Heap) (n0 : Nat) (Z0 : n0 ≤ h0.size) (E_r0 : Exa Z h0 r0 "java/lang/String") (F_value : Fld Z h0 r0 "java/lang/String" "value" "[B" .null) (F_coder : Fld Z h0 r0 "java/lang/String" "coder" "B" (.int (0 : Int32))) (g_r0 : n0 ≤ r0) :
    MetFree l (⟨"java/lang/String", "<init>", "([BB)V"⟩ : MethodName) (head1 (Jvm.Cond.code (⟨"java/lang/String", "<init>", "([BB)V"⟩ : MethodName) jdk_42_method_151_code 3 none :: ws) ({ frames := 1, cells := 0, slots := 0, locals := 12 } : Room)) (fun a U => a = #[(.ref r0), (.ref r1), (.int (0 : Int32))] ∧ Z.Warmed39 U.vm ∧ U.heap = h0) (fun _ _ _ _ _ => True) (fun _ U o U' => ∃ v L, o = .returned v ∧ Q27 Z r0 r1 h0 n0 v U'.heap L ∧ FrameEnd U o U' L ({ frames := 1, cells := 0, slots := 0, locals := 12 } : Room).cells ({ frames := 1, cells := 0, slots := 0, locals := 12 } : Room).slots) := by
  refine MetFree.of_bodySF (plainFor_of_name pn_java_lang_String) hisR ?_
  intro p e s m args below meth c s₁ Bd hml0 hP hK
  obtain ⟨rfl, hZ, hh⟩ := hP
  have hx := Bd.exec
  have hby := Bd.bytes
  have hml : c.maxLocals = 3 := hml0
  have hown : s.vm.findClass "java/lang/String" = some m.cls := findClass_of_methodNamed Bd.named
  have hnm := (name_of_methodNamed Bd.named Bd.method).1
  have X0 : Stand p l e ({ frames := 1, cells := 0, slots := 0, locals := 12 } : Room) s m #[(.ref r0), (.ref r1), (.int (0 : Int32))] below meth c s₁ [] 0 0 := Stand.of_body Bd
  have e0 : s₁.heap = h0 := by rw [← hh, Bd.state]; rfl
  have N0 := Fr.nil n0
  have pre0 : ∀ t, Steps p.tables e below (s₁.setTop (mkF m 0 #[.val (.ref r0), .val (.ref r1), .val (.int (0 : Int32))] [])) t → Steps p.tables e below (s₁.setTop (entryFrame m #[(.ref r0), (.ref r1), (.int (0 : Int32))] 3)) t := fun tt kt_ => castTop (ef_27 m r0 r1 (0 : Int32)) kt_
  have K0 : Keep h0 h0 [r0] := Keep.refl h0 [r0]
  obtain ⟨T1, X1, e1, st1⟩ := initO X0 hx hZ hown (hw _ (List.mem_of_getElem? (i := 19) rfl)) (hw _ (List.mem_of_getElem? (i := 20) rfl)) (hw _ (List.mem_of_getElem? (i := 21) rfl)) e0 (g := (mkF m 1 #[.val (.ref r0), .val (.ref r1), .val (.int (0 : Int32))] [(.ref r0)])) rfl (by rw [hml]; rfl) rfl (hb hby d27_1) (by decide) (W := 0) (by show 2 * 0 + _ ≤ _; exact Nat.le_of_eq rfl) (by decide)
  obtain ⟨T2, h2, X2, e2, W2, st2⟩ := putF X1 hx hZ hown (host := "") (Or.inl (hw _ (List.mem_of_getElem? (i := 28) rfl))) Via.refl e1 F_value E_r0 (Or.inr ⟨(hw _ (List.mem_of_getElem? (i := 24) rfl)), rfl, hnm⟩) (hw _ (List.mem_of_getElem? (i := 10) rfl)) (ty := (.array .byte)) (by decide) rfl rfl (g := (mkF m 6 #[.val (.ref r0), .val (.ref r1), .val (.int (0 : Int32))] [(.ref r1), (.ref r0)])) rfl rfl (hb hby d27_6)
  have E_r0_at2 : Exa Z h2 r0 "java/lang/String" := E_r0.wr W2
  have F_coder_at2 : Fld Z h2 r0 "java/lang/String" "coder" "B" (.int (0 : Int32)) := F_coder.other W2 (Or.inr (slot_ne (Or.inr (hw _ (List.mem_of_getElem? (i := 25) rfl))) (Or.inr (hw _ (List.mem_of_getElem? (i := 24) rfl))) (by decide) (t := .byte) (t' := (.array .byte)) (by decide) (by decide)))
  have F_value_r0_at2 : Fld Z h2 r0 "java/lang/String" "value" "[B" (.ref r1) := F_value.same W2
  have K2 : Keep h0 h2 [r0] := K0.wr W2 (Or.inl (List.mem_of_getElem? (i := 0) rfl))
  have Z2 : n0 ≤ h2.size := Nat.le_trans Z0 (Keep.of_wr W2).1
  have N2 := Fr.snoc X2 N0 g_r0
  obtain ⟨T3, h3, X3, e3, W3, st3⟩ := putFN X2 hx hZ hown (hw _ (List.mem_of_getElem? (i := 29) rfl)) Via.refl e2 F_coder_at2 E_r0_at2 (Or.inr ⟨(hw _ (List.mem_of_getElem? (i := 25) rfl)), rfl, hnm⟩) (hw _ (List.mem_of_getElem? (i := 10) rfl)) (ty := .byte) (v' := (.int (0 : Int32).toInt8.toInt32)) (by decide) rfl (fits_nar_byte _) (g := (mkF m 11 #[.val (.ref r0), .val (.ref r1), .val (.int (0 : Int32))] [(.int (0 : Int32)), (.ref r0)])) rfl rfl (hb hby d27_11)
  have E_r0_at3 : Exa Z h3 r0 "java/lang/String" := E_r0_at2.wr W3
  have F_value_r0_at3 : Fld Z h3 r0 "java/lang/String" "value" "[B" (.ref r1) := F_value_r0_at2.other W3 (Or.inr (slot_ne (Or.inr (hw _ (List.mem_of_getElem? (i := 24) rfl))) (Or.inr (hw _ (List.mem_of_getElem? (i := 25) rfl))) (by decide) (t := (.array .byte)) (t' := .byte) (by decide) (by decide)))
  have F_coder_r0_at3 : Fld Z h3 r0 "java/lang/String" "coder" "B" (.int (0 : Int32).toInt8.toInt32) := F_coder_at2.same W3
  have K3 : Keep h0 h3 [r0] := K2.wr W3 (Or.inl (List.mem_of_getElem? (i := 0) rfl))
  have Z3 : n0 ≤ h3.size := Nat.le_trans Z2 (Keep.of_wr W3).1
  have N3 := Fr.snoc X3 N2 g_r0
  obtain ⟨fs, hr, hrun, hended, hW, hsame⟩ := X3.leave (v := none) (fun _ => rfl)
  refine ⟨_, _, pre0 _ ?_, hrun, hended, _, _, rfl, ?_, ⟨_, rfl⟩, hW, hsame.mono (by decide) (by decide)⟩
  · show Steps p.tables e below (s₁.setTop (mkF m 0 #[.val (.ref r0), .val (.ref r1), .val (.int (0 : Int32))] [])) _
    refine XS.aloadN X0.here hx rfl (hb hby d27_0) rfl rfl ?_
    show Steps p.tables e below (s₁.setTop (mkF m 1 #[.val (.ref r0), .val (.ref r1), .val (.int (0 : Int32))] [(.ref r0)])) _
    refine st1 _ ?_
    show Steps p.tables e below (T1.setTop (mkF m 4 #[.val (.ref r0), .val (.ref r1), .val (.int (0 : Int32))] [])) _
    refine XS.aloadN X1.here hx rfl (hb hby d27_4) rfl rfl ?_
    refine XS.aloadN X1.here hx rfl (hb hby d27_5) rfl rfl ?_
    show Steps p.tables e below (T1.setTop (mkF m 6 #[.val (.ref r0), .val (.ref r1), .val (.int (0 : Int32))] [(.ref r1), (.ref r0)])) _
    refine st2 _ ?_
    show Steps p.tables e below (T2.setTop (mkF m 9 #[.val (.ref r0), .val (.ref r1), .val (.int (0 : Int32))] [])) _
    refine XS.aloadN X2.here hx rfl (hb hby d27_9) rfl rfl ?_
    refine XS.iloadN X2.here hx rfl (hb hby d27_10) rfl ?_
    show Steps p.tables e below (T2.setTop (mkF m 11 #[.val (.ref r0), .val (.ref r1), .val (.int (0 : Int32))] [(.int (0 : Int32)), (.ref r0)])) _
    refine st3 _ ?_
    show Steps p.tables e below (T3.setTop (mkF m 14 #[.val (.ref r0), .val (.ref r1), .val (.int (0 : Int32))] [])) _
    exact X3.returnOut hx Bd.returns (hb hby d27_14) hr
  · show Q27 Z r0 r1 h0 n0 _ T3.heap _
    rw [e3]
    exact ⟨rfl, N3, K3, F_coder_r0_at3, F_value_r0_at3⟩
theorem ef_22_f (m : MethodId) (x0 : Addr) (x1 : Int32) (x2 : Int32) : entryFrame m #[(.ref x0), (.int x1), (.int x2)] 3 = mkF m 0 #[.val (.ref x0), .val (.int x1), .val (.int x2)] [] := by first | (simp [entryFrame, mkF, argsToLocals, Value.category]; done) | rfl
theorem d22_0 : decode jdk_43_method_47_code 0 = .ok (.iload_n 2, 1) := by decide +kernel
theorem d22_1 : decode jdk_43_method_47_code 1 = .ok (.ifCond .ne 6, 3) := by decide +kernel
theorem d22_7 : decode jdk_43_method_47_code 7 = .ok (.new 1, 3) := by decide +kernel
theorem d22_10 : decode jdk_43_method_47_code 10 = .ok (.dup, 1) := by decide +kernel
theorem d22_11 : decode jdk_43_method_47_code 11 = .ok (.aload_n 0, 1) := by decide +kernel
theorem d22_12 : decode jdk_43_method_47_code 12 = .ok (.iload_n 1, 1) := by decide +kernel
theorem d22_13 : decode jdk_43_method_47_code 13 = .ok (.iload_n 1, 1) := by decide +kernel
theorem d22_14 : decode jdk_43_method_47_code 14 = .ok (.iload_n 2, 1) := by decide +kernel
theorem d22_15 : decode jdk_43_method_47_code 15 = .ok (.iadd, 1) := by decide +kernel
theorem d22_16 : decode jdk_43_method_47_code 16 = .ok (.invokestatic 232, 3) := by decide +kernel
theorem d22_19 : decode jdk_43_method_47_code 19 = .ok (.iconst 0, 1) := by decide +kernel
theorem d22_20 : decode jdk_43_method_47_code 20 = .ok (.invokespecial 112, 3) := by decide +kernel
theorem pd_285bBB29V : parseMethodDescriptor "([BB)V" = some ⟨[(.array .byte), .byte], none⟩ := by decide +kernel
theorem d22_23 : decode jdk_43_method_47_code 23 = .ok (.areturn, 1) := by decide +kernel
def Q22_f (Z : State) (r0 : Addr) (ka : ClassId) (ib k iz : Nat) (vs : List Value) (h0 : Heap) (n0 : Nat) (v : Option Value) (h : Heap) (L : List Loc) : Prop := ∃ (r b : Addr) (kb : ClassId) (rl : List Value), v = some (.ref r) ∧ Fr n0 L ∧ Keep h0 h [] ∧ Exa Z h r "java/lang/String" ∧ Fld Z h r "java/lang/String" "coder" "B" (.int (0 : Int32)) ∧ Fld Z h r "java/lang/String" "value" "[B" (.ref b) ∧ Arv Z h b kb .byte (Int32.ofNat k) rl (.int (0 : Int32)) ∧ ∀ i, i < k → rl.getD i (.int (0 : Int32)) = vs.getD (ib + i) (.int (0 : Int32))
set_option maxRecDepth 65536 in
set_option maxHeartbeats 40000000 in
theorem rm22_f (l : Launch) (Z : State) (a0 : Array Value) (hw : ∀ d ∈ tables_1, d.before a0 Z = true) (ws : List Jvm.Cond) (r0 : Addr) (ka : ClassId) (ib k iz : Nat) (vs : List Value) (h0 : Heap) (n0 : Nat) (Z0 : n0 ≤ h0.size) (V_r0 : Arv Z h0 r0 ka .byte (Int32.ofNat iz) vs (.int (0 : Int32))) (hk : 0 < k) (hz : ib + k ≤ iz) (hcap : iz ≤ 4) (hnw : ¬ (ib = 0 ∧ ib + k = iz)) :
    MetFree l (⟨"java/lang/StringLatin1", "newString", "([BII)Ljava/lang/String;"⟩ : MethodName) (head1 (Jvm.Cond.code (⟨"java/lang/StringLatin1", "newString", "([BII)Ljava/lang/String;"⟩ : MethodName) jdk_43_method_47_code 3 (some (.object "java/lang/String")) :: ws) ({ frames := 3, cells := 2, slots := 8, locals := 50 } : Room)) (fun a U => a = #[(.ref r0), (.int (Int32.ofNat ib)), (.int (Int32.ofNat k))] ∧ Z.Warmed39 U.vm ∧ U.heap = h0) (fun _ _ _ _ _ => True) (fun _ U o U' => ∃ v L, o = .returned v ∧ Q22_f Z r0 ka ib k iz vs h0 n0 v U'.heap L ∧ FrameEnd U o U' L ({ frames := 3, cells := 2, slots := 8, locals := 50 } : Room).cells ({ frames := 3, cells := 2, slots := 8, locals := 50 } : Room).slots) := by
  refine MetFree.of_bodySF (plainFor_of_name pn_java_lang_StringLatin1) hisR ?_
  intro p e s m args below meth c s₁ Bd hml0 hP hK
  obtain ⟨rfl, hZ, hh⟩ := hP
  have hx := Bd.exec
  have hby := Bd.bytes
  have hml : c.maxLocals = 3 := hml0
  have hown : s.vm.findClass "java/lang/StringLatin1" = some m.cls := findClass_of_methodNamed Bd.named
  have hnm := (name_of_methodNamed Bd.named Bd.method).1
  have X0 : Stand p l e ({ frames := 3, cells := 2, slots := 8, locals := 50 } : Room) s m #[(.ref r0), (.int (Int32.ofNat ib)), (.int (Int32.ofNat k))] below meth c s₁ [] 0 0 := Stand.of_body Bd
  have e0 : s₁.heap = h0 := by rw [← hh, Bd.state]; rfl
  have N0 := Fr.nil n0
  have pre0 : ∀ t, Steps p.tables e below (s₁.setTop (mkF m 0 #[.val (.ref r0), .val (.int (Int32.ofNat ib)), .val (.int (Int32.ofNat k))] [])) t → Steps p.tables e below (s₁.setTop (entryFrame m #[(.ref r0), (.int (Int32.ofNat ib)), (.int (Int32.ofNat k))] 3)) t := fun tt kt_ => castTop (ef_22_f m r0 (Int32.ofNat ib) (Int32.ofNat k)) kt_
  have K0 : Keep h0 h0 [] := Keep.refl h0 []
  obtain ⟨T1, h1, X1, e1, E1, A1, D1, -, st1⟩ := newO X0 hx hZ hown (hw _ (List.mem_of_getElem? (i := 100) rfl)) (hw _ (List.mem_of_getElem? (i := 10) rfl)) (hw _ (List.mem_of_getElem? (i := 11) rfl)) e0 (g := (mkF m 7 #[.val (.ref r0), .val (.int (Int32.ofNat ib)), .val (.int (Int32.ofNat k))] [])) rfl (hb hby d22_7) (by decide) (by decide)
  obtain ⟨b1, g1⟩ : ∃ z, z = h0.size := ⟨_, rfl⟩
  rw [← g1] at A1 D1 st1
  have g_b1 : n0 ≤ b1 := Nat.le_trans Z0 (Nat.le_of_eq g1.symm)
  have sz_b1 : h0.size ≤ b1 := Nat.le_trans K0.1 (Nat.le_of_eq g1.symm)
  have ne_r0_b1 : r0 ≠ b1 := Nat.ne_of_lt (Nat.lt_of_lt_of_le V_r0.lt (Nat.le_of_eq g1.symm))
  have V_r0_at1 : Arv Z h1 r0 ka .byte (Int32.ofNat iz) vs (.int (0 : Int32)) := V_r0.ext E1
  have K1 : Keep h0 h1 [] := K0.ext E1
  have Z1 : n0 ≤ h1.size := Nat.le_trans Z0 E1.1
  have F_value_b1_at1 : Fld Z h1 b1 "java/lang/String" "value" "[B" .null := D1 (Or.inr (hw _ (List.mem_of_getElem? (i := 24) rfl))) (ty := (.array .byte)) (by decide)
  have F_coder_b1_at1 : Fld Z h1 b1 "java/lang/String" "coder" "B" (.int (0 : Int32)) := D1 (Or.inr (hw _ (List.mem_of_getElem? (i := 25) rfl))) (ty := .byte) (by decide)
  have E_b1_at1 : Exa Z h1 b1 "java/lang/String" := A1
  obtain ⟨_, _, ⟨T2, L2, k2, n2⟩, -, X2, ⟨Lc2, hQ2, l2, y2, z2⟩, st2⟩ := Jvm.LawKit.callS X1 hx (y := (⟨"java/util/Arrays", "copyOfRange", "([BII)[B"⟩ : MethodName)) hown (mvT hZ (hw _ (List.mem_of_getElem? (i := 101) rfl))) (mvT hZ (hw _ (List.mem_of_getElem? (i := 102) rfl))) (mvT hZ (hw _ (List.mem_of_getElem? (i := 103) rfl))) (mvT hZ (hw _ (List.mem_of_getElem? (i := 104) rfl))) (by decide) (backOf (W := 2) (rm23 l Z a0 hw [] r0 ka ib k iz vs h1 n0 Z1 V_r0_at1 hk hz hcap hnw) hZ (hw _ (List.mem_of_getElem? (i := 104) rfl)) (hw _ (List.mem_of_getElem? (i := 103) rfl)) (by decide) (by decide)) (g := (mkF m 16 #[.val (.ref r0), .val (.int (Int32.ofNat ib)), .val (.int (Int32.ofNat k))] [(.int (Int32.ofNat (ib + k))), (.int (Int32.ofNat ib)), (.ref r0), (.ref b1), (.ref b1)])) rfl (by rw [hml]; rfl) (argsL := [(.ref r0), (.int (Int32.ofNat ib)), (.int (Int32.ofNat (ib + k)))]) (rest := [(.ref b1), (.ref b1)]) (lenOf pd_285bBII295bB rfl) rfl (by show 2 * 0 + _ ≤ _; exact Nat.le_of_eq rfl) (hb hby d22_16) (fun _ _ => ⟨rfl, e1, (by decide : 1 + 1 ≤ _), (by decide : 4 + 4 ≤ _)⟩)
  dsimp only [Pt.U, Pt.locs, Pt.cells, Pt.slots] at X2 l2 y2 z2 st2 hQ2
  subst l2 y2 z2
  obtain ⟨b2, kb2, rl2, rfl, N2q, KK2, gb2, VB2, hP2⟩ := hQ2
  obtain ⟨h2, e2⟩ : ∃ z, T2.heap = z := ⟨_, rfl⟩
  rw [e2] at KK2 VB2
  have V_r0_at2 : Arv Z h2 r0 ka .byte (Int32.ofNat iz) vs (.int (0 : Int32)) := V_r0_at1.keep KK2 nin0
  have F_value_b1_at2 : Fld Z h2 b1 "java/lang/String" "value" "[B" .null := F_value_b1_at1.keep KK2 nin0
  have F_coder_b1_at2 : Fld Z h2 b1 "java/lang/String" "coder" "B" (.int (0 : Int32)) := F_coder_b1_at1.keep KK2 nin0
  have E_b1_at2 : Exa Z h2 b1 "java/lang/String" := E_b1_at1.keep KK2
  have K2 : Keep h0 h2 [] := K1.trans KK2 all0
  have Z2 : n0 ≤ h2.size := Nat.le_trans Z1 KK2.1
  have ne_r0_b2 : r0 ≠ b2 := Nat.ne_of_lt (Nat.lt_of_lt_of_le V_r0_at1.lt gb2)
  have ne_b1_b2 : b1 ≠ b2 := Nat.ne_of_lt (Nat.lt_of_lt_of_le F_value_b1_at1.lt gb2)
  have g_b2 : n0 ≤ b2 := Nat.le_trans Z1 gb2
  have sz_b2 : h0.size ≤ b2 := Nat.le_trans K1.1 gb2
  have N2 := Fr.app N0 N2q
  obtain ⟨_, _, ⟨T3, L3, k3, n3⟩, -, X3, ⟨Lc3, hQ3, l3, y3, z3⟩, st3⟩ := X2.specialBack hx (y := (⟨"java/lang/String", "<init>", "([BB)V"⟩ : MethodName)) rfl hown (mvT hZ (hw _ (List.mem_of_getElem? (i := 118) rfl))) (mvT hZ (hw _ (List.mem_of_getElem? (i := 119) rfl))) (mvT hZ (hw _ (List.mem_of_getElem? (i := 120) rfl))) (by decide) (backOf (W := 1) (rm27 l Z a0 hw [] b1 b2 h2 n0 Z2 E_b1_at2 F_value_b1_at2 F_coder_b1_at2 g_b1) hZ (hw _ (List.mem_of_getElem? (i := 120) rfl)) (hw _ (List.mem_of_getElem? (i := 11) rfl)) (by decide) (by decide)) (g := (mkF m 20 #[.val (.ref r0), .val (.int (Int32.ofNat ib)), .val (.int (Int32.ofNat k))] [(.int (0 : Int32)), (.ref b2), (.ref b1), (.ref b1)])) rfl (by rw [hml]; rfl) (Steps.refl _) (a := b1) (argsL := [(.ref b2), (.int (0 : Int32))]) (rest := [(.ref b1)]) (lenOf pd_285bBB29V rfl) rfl (by show 2 * 0 + _ ≤ _; exact Nat.le_of_eq rfl) (hb hby d22_20) (fun _ _ => ⟨rfl, e2, (by decide : 2 + 0 ≤ _), (by decide : 8 + 0 ≤ _)⟩)
  dsimp only [Pt.U, Pt.locs, Pt.cells, Pt.slots] at X3 l3 y3 z3 st3 hQ3
  subst l3 y3 z3
  obtain ⟨rfl, N3q, KK3, FC3, FV3⟩ := hQ3
  obtain ⟨h3, e3⟩ : ∃ z, T3.heap = z := ⟨_, rfl⟩
  rw [e3] at KK3 FC3 FV3
  have V_r0_at3 : Arv Z h3 r0 ka .byte (Int32.ofNat iz) vs (.int (0 : Int32)) := V_r0_at2.keep KK3 (ninS ne_r0_b1 nin0)
  have E_b1_at3 : Exa Z h3 b1 "java/lang/String" := E_b1_at2.keep KK3
  have VB2_at3 : Arv Z h3 b2 kb2 .byte (Int32.ofNat k) rl2 (.int (0 : Int32)) := VB2.keep KK3 (ninS (Ne.symm ne_b1_b2) nin0)
  have K3 : Keep h0 h3 [] := K2.trans KK3 (allS (Or.inr sz_b1) all0)
  have Z3 : n0 ≤ h3.size := Nat.le_trans Z2 KK3.1
  have N3 := Fr.app N2 N3q
  obtain ⟨fs, hr, hrun, hended, hW, hsame⟩ := X3.leave (v := some (.ref b1)) (fun h => by rw [Bd.returns] at h; cases h)
  refine ⟨_, _, pre0 _ ?_, hrun, hended, _, _, rfl, ?_, ⟨_, rfl⟩, hW, hsame.mono (by decide) (by decide)⟩
  · show Steps p.tables e below (s₁.setTop (mkF m 0 #[.val (.ref r0), .val (.int (Int32.ofNat ib)), .val (.int (Int32.ofNat k))] [])) _
    refine XS.iloadN X0.here hx rfl (hb hby d22_0) rfl ?_
    show Steps p.tables e below (s₁.setTop (mkF m 1 #[.val (.ref r0), .val (.int (Int32.ofNat ib)), .val (.int (Int32.ofNat k))] [(.int (Int32.ofNat k))])) _
    refine XS.ifYes X0.here hx rfl (pc0 := 1) (pc' := 7) rfl (hb hby d22_1) rfl ((if0 _ _).trans (feq (own_ne0 hk (by omega))).2) (by decide) (by decide) ?_
    show Steps p.tables e below (s₁.setTop (mkF m 7 #[.val (.ref r0), .val (.int (Int32.ofNat ib)), .val (.int (Int32.ofNat k))] [])) _
    refine st1 _ ?_
    show Steps p.tables e below (T1.setTop (mkF m 10 #[.val (.ref r0), .val (.int (Int32.ofNat ib)), .val (.int (Int32.ofNat k))] [(.ref b1)])) _
    refine XS.dup X1.here hx rfl (hb hby d22_10) rfl rfl ?_
    refine XS.aloadN X1.here hx rfl (hb hby d22_11) rfl rfl ?_
    refine XS.iloadN X1.here hx rfl (hb hby d22_12) rfl ?_
    refine XS.iloadN X1.here hx rfl (hb hby d22_13) rfl ?_
    show Steps p.tables e below (T1.setTop (mkF m 14 #[.val (.ref r0), .val (.int (Int32.ofNat ib)), .val (.int (Int32.ofNat k))] [(.int (Int32.ofNat ib)), (.int (Int32.ofNat ib)), (.ref r0), (.ref b1), (.ref b1)])) _
    refine XS.iloadN X1.here hx rfl (hb hby d22_14) rfl ?_
    refine XS.iadd X1.here hx rfl (hb hby d22_15) rfl ?_
    show Steps p.tables e below (T1.setTop (mkF m 16 #[.val (.ref r0), .val (.int (Int32.ofNat ib)), .val (.int (Int32.ofNat k))] [(.int ((Int32.ofNat ib) + (Int32.ofNat k))), (.int (Int32.ofNat ib)), (.ref r0), (.ref b1), (.ref b1)])) _
    rw [own_oadd (by omega)]
    show Steps p.tables e below (T1.setTop (mkF m 16 #[.val (.ref r0), .val (.int (Int32.ofNat ib)), .val (.int (Int32.ofNat k))] [(.int (Int32.ofNat (ib + k))), (.int (Int32.ofNat ib)), (.ref r0), (.ref b1), (.ref b1)])) _
    refine st2 _ ?_
    show Steps p.tables e below (T2.setTop (mkF m 19 #[.val (.ref r0), .val (.int (Int32.ofNat ib)), .val (.int (Int32.ofNat k))] [(.ref b2), (.ref b1), (.ref b1)])) _
    refine XS.iconst X2.here hx rfl (hb hby d22_19) ?_
    show Steps p.tables e below (T2.setTop (mkF m 20 #[.val (.ref r0), .val (.int (Int32.ofNat ib)), .val (.int (Int32.ofNat k))] [(.int (0 : Int32)), (.ref b2), (.ref b1), (.ref b1)])) _
    refine st3.trans ?_
    show Steps p.tables e below (T3.setTop (mkF m 23 #[.val (.ref r0), .val (.int (Int32.ofNat ib)), .val (.int (Int32.ofNat k))] [(.ref b1)])) _
    jvm_step X3.here [X3.here.top, hx, (hb hby d22_23), X3.method', Bd.returns, Value.isRef, FieldType.isReference]
    first | (intro acts; rw [hr _ acts rfl rfl rfl]) | rw [hr _ _ rfl rfl rfl]
    exact Steps.refl _
  · show Q22_f Z r0 ka ib k iz vs h0 n0 _ T3.heap _
    rw [e3]
    exact ⟨b1, b2, _, _, rfl, N3, K3, E_b1_at3, FC3, FV3, VB2_at3, hP2⟩
theorem ef_9_f (m : MethodId) (x0 : Addr) (x1 : Int32) (x2 : Int32) : entryFrame m #[(.ref x0), (.int x1), (.int x2)] 5 = mkF m 0 #[.val (.ref x0), .val (.int x1), .val (.int x2), .unset, .unset] [] := by first | (simp [entryFrame, mkF, argsToLocals, Value.category]; done) | rfl
theorem d9_0 : decode jdk_42_method_92_code 0 = .ok (.aload_n 0, 1) := by decide +kernel
theorem d9_1 : decode jdk_42_method_92_code 1 = .ok (.invokevirtual 505, 3) := by decide +kernel
theorem pd_2829I : parseMethodDescriptor "()I" = some ⟨[], some .int⟩ := by decide +kernel
theorem d9_4 : decode jdk_42_method_92_code 4 = .ok (.istore_n 3, 1) := by decide +kernel
theorem d9_5 : decode jdk_42_method_92_code 5 = .ok (.iload_n 1, 1) := by decide +kernel
theorem d9_6 : decode jdk_42_method_92_code 6 = .ok (.iload_n 2, 1) := by decide +kernel
theorem d9_7 : decode jdk_42_method_92_code 7 = .ok (.iload_n 3, 1) := by decide +kernel
theorem d9_8 : decode jdk_42_method_92_code 8 = .ok (.invokestatic 521, 3) := by decide +kernel
theorem pd_28III29V : parseMethodDescriptor "(III)V" = some ⟨[.int, .int, .int], none⟩ := by decide +kernel
theorem d9_11 : decode jdk_42_method_92_code 11 = .ok (.iload_n 1, 1) := by decide +kernel
theorem d9_12 : decode jdk_42_method_92_code 12 = .ok (.ifCond .ne 10, 3) := by decide +kernel
theorem d9_15 : decode jdk_42_method_92_code 15 = .ok (.iload_n 2, 1) := by decide +kernel
theorem d9_16 : decode jdk_42_method_92_code 16 = .ok (.iload_n 3, 1) := by decide +kernel
theorem d9_17 : decode jdk_42_method_92_code 17 = .ok (.if_icmp .ne 5, 3) := by decide +kernel
theorem d9_22 : decode jdk_42_method_92_code 22 = .ok (.iload_n 2, 1) := by decide +kernel
theorem d9_23 : decode jdk_42_method_92_code 23 = .ok (.iload_n 1, 1) := by decide +kernel
theorem d9_24 : decode jdk_42_method_92_code 24 = .ok (.isub, 1) := by decide +kernel
theorem d9_25 : decode jdk_42_method_92_code 25 = .ok (.istore 4, 2) := by decide +kernel
theorem d9_27 : decode jdk_42_method_92_code 27 = .ok (.aload_n 0, 1) := by decide +kernel
theorem d9_28 : decode jdk_42_method_92_code 28 = .ok (.invokevirtual 492, 3) := by decide +kernel
theorem d9_31 : decode jdk_42_method_92_code 31 = .ok (.ifCond .eq 16, 3) := by decide +kernel
theorem d9_34 : decode jdk_42_method_92_code 34 = .ok (.aload_n 0, 1) := by decide +kernel
theorem d9_35 : decode jdk_42_method_92_code 35 = .ok (.getfield 9, 3) := by decide +kernel
theorem d9_38 : decode jdk_42_method_92_code 38 = .ok (.iload_n 1, 1) := by decide +kernel
theorem d9_39 : decode jdk_42_method_92_code 39 = .ok (.iload 4, 2) := by decide +kernel
theorem d9_41 : decode jdk_42_method_92_code 41 = .ok (.invokestatic 685, 3) := by decide +kernel
theorem pd_285bBII29Ljava2flang2fString3b : parseMethodDescriptor "([BII)Ljava/lang/String;" = some ⟨[(.array .byte), .int, .int], some (.object "java/lang/String")⟩ := by decide +kernel
theorem d9_44 : decode jdk_42_method_92_code 44 = .ok (.goto 13, 3) := by decide +kernel
theorem d9_57 : decode jdk_42_method_92_code 57 = .ok (.areturn, 1) := by decide +kernel
def Q9_f (Z : State) (r0 : Addr) (b : Addr) (kb : ClassId) (ib k iz : Nat) (vs : List Value) (cs : Int32) (fm : Value) (h0 : Heap) (n0 : Nat) (v : Option Value) (h : Heap) (L : List Loc) : Prop := ∃ (r b : Addr) (kb : ClassId) (rl : List Value), v = some (.ref r) ∧ Fr n0 L ∧ Keep h0 h [] ∧ Exa Z h r "java/lang/String" ∧ Fld Z h r "java/lang/String" "coder" "B" (.int (0 : Int32)) ∧ Fld Z h r "java/lang/String" "value" "[B" (.ref b) ∧ Arv Z h b kb .byte (Int32.ofNat k) rl (.int (0 : Int32)) ∧ ∀ i, i < k → rl.getD i (.int (0 : Int32)) = vs.getD (ib + i) (.int (0 : Int32))
set_option maxRecDepth 65536 in
set_option maxHeartbeats 40000000 in
theorem rm9_f (l : Launch) (Z : State) (a0 : Array Value) (hw : ∀ d ∈ tables_1, d.before a0 Z = true) (ws : List Jvm.Cond) (r0 : Addr) (b : Addr) (kb : ClassId) (ib k iz : Nat) (vs : List Value) (cs : Int32) (fm : Value) (h0 : Heap) (n0 : Nat) (Z0 : n0 ≤ h0.size) (E_r0 : Exa Z h0 r0 "java/lang/String") (C_r0 : Fld Z h0 r0 "java/lang/String" "coder" "B" (.int (0 : Int32))) (V_r0 : Fld Z h0 r0 "java/lang/String" "value" "[B" (.ref b)) (K_b : Arv Z h0 b kb .byte (Int32.ofNat iz) vs (.int (0 : Int32))) (O_0 : Old Z n0 h0) (S_cs : Sta Z Z.heap "java/lang/String" "COMPACT_STRINGS" "Z" (.int cs)) (hcs : ¬ (cs = (0 : Int32))) (S_fm : Sta Z Z.heap "jdk/internal/util/Preconditions" "SIOOBE_FORMATTER" "Ljava/util/function/BiFunction;" fm) (hfm : fm.isRef = true) (hz : ib + k ≤ iz) (hcap : iz ≤ 4) (hk : 0 < k) (hnw : ¬ (ib = 0 ∧ ib + k = iz)) :
    MetFree l (⟨"java/lang/String", "substring", "(II)Ljava/lang/String;"⟩ : MethodName) (head1 (Jvm.Cond.code (⟨"java/lang/String", "substring", "(II)Ljava/lang/String;"⟩ : MethodName) jdk_42_method_92_code 5 (some (.object "java/lang/String")) :: ws) ({ frames := 4, cells := 2, slots := 8, locals := 64 } : Room)) (fun a U => a = #[(.ref r0), (.int (Int32.ofNat ib)), (.int (Int32.ofNat (ib + k)))] ∧ Z.Warmed39 U.vm ∧ U.heap = h0) (fun _ _ _ _ _ => True) (fun _ U o U' => ∃ v L, o = .returned v ∧ Q9_f Z r0 b kb ib k iz vs cs fm h0 n0 v U'.heap L ∧ FrameEnd U o U' L ({ frames := 4, cells := 2, slots := 8, locals := 64 } : Room).cells ({ frames := 4, cells := 2, slots := 8, locals := 64 } : Room).slots) := by
  refine MetFree.of_bodySF (plainFor_of_name pn_java_lang_String) hisR ?_
  intro p e s m args below meth c s₁ Bd hml0 hP hK
  obtain ⟨rfl, hZ, hh⟩ := hP
  have hx := Bd.exec
  have hby := Bd.bytes
  have hml : c.maxLocals = 5 := hml0
  have hown : s.vm.findClass "java/lang/String" = some m.cls := findClass_of_methodNamed Bd.named
  have hnm := (name_of_methodNamed Bd.named Bd.method).1
  have X0 : Stand p l e ({ frames := 4, cells := 2, slots := 8, locals := 64 } : Room) s m #[(.ref r0), (.int (Int32.ofNat ib)), (.int (Int32.ofNat (ib + k)))] below meth c s₁ [] 0 0 := Stand.of_body Bd
  have e0 : s₁.heap = h0 := by rw [← hh, Bd.state]; rfl
  have N0 := Fr.nil n0
  have pre0 : ∀ t, Steps p.tables e below (s₁.setTop (mkF m 0 #[.val (.ref r0), .val (.int (Int32.ofNat ib)), .val (.int (Int32.ofNat (ib + k))), .unset, .unset] [])) t → Steps p.tables e below (s₁.setTop (entryFrame m #[(.ref r0), (.int (Int32.ofNat ib)), (.int (Int32.ofNat (ib + k)))] 5)) t := fun tt kt_ => castTop (ef_9_f m r0 (Int32.ofNat ib) (Int32.ofNat (ib + k))) kt_
  have K0 : Keep h0 h0 [] := Keep.refl h0 []
  obtain ⟨cq1, kq1, q1a, q1b, q1c⟩ := isOf hZ e0 E_r0
  obtain ⟨_, _, ⟨T1, L1, k1, n1⟩, -, X1, ⟨Lc1, hQ1, l1, y1, z1⟩, st1⟩ := X0.virtualBack hx (y := (⟨"java/lang/String", "length", "()I"⟩ : MethodName)) (z := (⟨"java/lang/String", "length", "()I"⟩ : MethodName)) hown (mvT hZ (hw _ (List.mem_of_getElem? (i := 50) rfl))) (mvT hZ (hw _ (List.mem_of_getElem? (i := 35) rfl))) (notFace_of_selects (args := #[]) (mvT hZ (hw _ (List.mem_of_getElem? (i := 37) rfl)))) (mvT hZ (hw _ (List.mem_of_getElem? (i := 37) rfl))) (mvT hZ (hw _ (List.mem_of_getElem? (i := 36) rfl))) (by decide) (backOf (W := 0) (rm7 l Z a0 hw [] r0 b kb (Int32.ofNat iz) vs cs h0 n0 Z0 E_r0 C_r0 V_r0 K_b O_0 S_cs hcs) hZ (hw _ (List.mem_of_getElem? (i := 38) rfl)) (hw _ (List.mem_of_getElem? (i := 11) rfl)) (by decide) (by decide)) q1a q1c (g := (mkF m 1 #[.val (.ref r0), .val (.int (Int32.ofNat ib)), .val (.int (Int32.ofNat (ib + k))), .unset, .unset] [(.ref r0)])) rfl (by rw [hml]; rfl) (Steps.refl _) (argsL := []) (rest := []) (lenOf pd_2829I rfl) rfl (by show 2 * 0 + _ ≤ _; exact Nat.le_of_eq rfl) (hb hby d9_1) (fun _ _ => ⟨rfl, e0, (by decide : 0 + 0 ≤ _), (by decide : 0 + 0 ≤ _)⟩)
  dsimp only [Pt.U, Pt.locs, Pt.cells, Pt.slots] at X1 l1 y1 z1 st1 hQ1
  subst l1 y1 z1
  obtain ⟨rfl, N1q, e1⟩ := hQ1
  have N1 := Fr.app N0 N1q
  obtain ⟨_, _, ⟨T2, L2, k2, n2⟩, -, X2, ⟨Lc2, hQ2, l2, y2, z2⟩, st2⟩ := Jvm.LawKit.callS X1 hx (y := (⟨"java/lang/String", "checkBoundsBeginEnd", "(III)V"⟩ : MethodName)) hown (mvT hZ (hw _ (List.mem_of_getElem? (i := 51) rfl))) (mvT hZ (hw _ (List.mem_of_getElem? (i := 52) rfl))) (mvT hZ (hw _ (List.mem_of_getElem? (i := 11) rfl))) (mvT hZ (hw _ (List.mem_of_getElem? (i := 53) rfl))) (by decide) (backOf (W := 0) (rm10 l Z a0 hw [] (Int32.ofNat ib) (Int32.ofNat (ib + k)) (Int32.ofNat iz) fm h0 n0 Z0 O_0 S_fm hfm (own_o0 (by omega)) (fun q => by rw [own_olt (by omega) (by omega)] at q; omega) (fun q => by rw [own_olt (by omega) (by omega)] at q; omega)) hZ (hw _ (List.mem_of_getElem? (i := 53) rfl)) (hw _ (List.mem_of_getElem? (i := 11) rfl)) (by decide) (by decide)) (g := (mkF m 8 #[.val (.ref r0), .val (.int (Int32.ofNat ib)), .val (.int (Int32.ofNat (ib + k))), .val (.int (Int32.ofNat iz)), .unset] [(.int (Int32.ofNat iz)), (.int (Int32.ofNat (ib + k))), (.int (Int32.ofNat ib))])) rfl (by rw [hml]; rfl) (argsL := [(.int (Int32.ofNat ib)), (.int (Int32.ofNat (ib + k))), (.int (Int32.ofNat iz))]) (rest := []) (lenOf pd_28III29V rfl) rfl (by show 2 * 0 + _ ≤ _; exact Nat.le_of_eq rfl) (hb hby d9_8) (fun _ _ => ⟨rfl, e1, (by decide : 0 + 0 ≤ _), (by decide : 0 + 0 ≤ _)⟩)
  dsimp only [Pt.U, Pt.locs, Pt.cells, Pt.slots] at X2 l2 y2 z2 st2 hQ2
  subst l2 y2 z2
  obtain ⟨rfl, N2q, e2⟩ := hQ2
  have N2 := Fr.app N1 N2q
  by_cases hc12 : (Int32.ofNat ib) = (0 : Int32)
  · obtain ⟨cq3, kq3, q3a, q3b, q3c⟩ := isOf hZ e2 E_r0
    obtain ⟨_, _, ⟨T3, L3, k3, n3⟩, -, X3, ⟨Lc3, hQ3, l3, y3, z3⟩, st3⟩ := X2.virtualBack hx (y := (⟨"java/lang/String", "isLatin1", "()Z"⟩ : MethodName)) (z := (⟨"java/lang/String", "isLatin1", "()Z"⟩ : MethodName)) hown (mvT hZ (hw _ (List.mem_of_getElem? (i := 79) rfl))) (mvT hZ (hw _ (List.mem_of_getElem? (i := 80) rfl))) (notFace_of_selects (args := #[]) (mvT hZ (hw _ (List.mem_of_getElem? (i := 82) rfl)))) (mvT hZ (hw _ (List.mem_of_getElem? (i := 82) rfl))) (mvT hZ (hw _ (List.mem_of_getElem? (i := 81) rfl))) (by decide) (backOf (W := 0) (rm17 l Z a0 hw [] r0 cs h0 n0 Z0 C_r0 O_0 S_cs hcs) hZ (hw _ (List.mem_of_getElem? (i := 83) rfl)) (hw _ (List.mem_of_getElem? (i := 11) rfl)) (by decide) (by decide)) q3a q3c (g := (mkF m 28 #[.val (.ref r0), .val (.int (Int32.ofNat ib)), .val (.int (Int32.ofNat (ib + k))), .val (.int (Int32.ofNat iz)), .val (.int (Int32.ofNat k))] [(.ref r0)])) rfl (by rw [hml]; rfl) (Steps.refl _) (argsL := []) (rest := []) (lenOf pd_2829Z rfl) rfl (by show 2 * 0 + _ ≤ _; exact Nat.le_of_eq rfl) (hb hby d9_28) (fun _ _ => ⟨rfl, e2, (by decide : 0 + 0 ≤ _), (by decide : 0 + 0 ≤ _)⟩)
    dsimp only [Pt.U, Pt.locs, Pt.cells, Pt.slots] at X3 l3 y3 z3 st3 hQ3
    subst l3 y3 z3
    obtain ⟨rfl, N3q, e3⟩ := hQ3
    have N3 := Fr.app N2 N3q
    obtain ⟨T4, X4, e4, st4⟩ := getF X3 hx hZ hown (host := "") (Or.inl (hw _ (List.mem_of_getElem? (i := 28) rfl))) Via.refl e3 V_r0 (g := (mkF m 35 #[.val (.ref r0), .val (.int (Int32.ofNat ib)), .val (.int (Int32.ofNat (ib + k))), .val (.int (Int32.ofNat iz)), .val (.int (Int32.ofNat k))] [(.ref r0)])) rfl rfl (hb hby d9_35)
    obtain ⟨_, _, ⟨T5, L5, k5, n5⟩, -, X5, ⟨Lc5, hQ5, l5, y5, z5⟩, st5⟩ := Jvm.LawKit.callS X4 hx (y := (⟨"java/lang/StringLatin1", "newString", "([BII)Ljava/lang/String;"⟩ : MethodName)) hown (mvT hZ (hw _ (List.mem_of_getElem? (i := 97) rfl))) (mvT hZ (hw _ (List.mem_of_getElem? (i := 98) rfl))) (mvT hZ (hw _ (List.mem_of_getElem? (i := 86) rfl))) (mvT hZ (hw _ (List.mem_of_getElem? (i := 99) rfl))) (by decide) (backOf (W := 0) (rm22_f l Z a0 hw [] b kb ib k iz vs h0 n0 Z0 K_b hk hz hcap hnw) hZ (hw _ (List.mem_of_getElem? (i := 99) rfl)) (hw _ (List.mem_of_getElem? (i := 86) rfl)) (by decide) (by decide)) (g := (mkF m 41 #[.val (.ref r0), .val (.int (Int32.ofNat ib)), .val (.int (Int32.ofNat (ib + k))), .val (.int (Int32.ofNat iz)), .val (.int (Int32.ofNat k))] [(.int (Int32.ofNat k)), (.int (Int32.ofNat ib)), (.ref b)])) rfl (by rw [hml]; rfl) (argsL := [(.ref b), (.int (Int32.ofNat ib)), (.int (Int32.ofNat k))]) (rest := []) (lenOf pd_285bBII29Ljava2flang2fString3b rfl) rfl (by show 2 * 0 + _ ≤ _; exact Nat.le_of_eq rfl) (hb hby d9_41) (fun _ _ => ⟨rfl, e4, (by decide : 0 + 2 ≤ _), (by decide : 0 + 8 ≤ _)⟩)
    dsimp only [Pt.U, Pt.locs, Pt.cells, Pt.slots] at X5 l5 y5 z5 st5 hQ5
    subst l5 y5 z5
    obtain ⟨r5, b5, kb5, rl5, rfl, N5q, KK5, ER5, FC5, FV5, VB5, hP5⟩ := hQ5
    obtain ⟨h5, e5⟩ : ∃ z, T5.heap = z := ⟨_, rfl⟩
    rw [e5] at KK5 ER5 FC5 FV5 VB5
    have O_0_at5 : Old Z n0 h5 := O_0.keep KK5 all0
    have E_r0_at5 : Exa Z h5 r0 "java/lang/String" := E_r0.keep KK5
    have C_r0_at5 : Fld Z h5 r0 "java/lang/String" "coder" "B" (.int (0 : Int32)) := C_r0.keep KK5 nin0
    have V_r0_at5 : Fld Z h5 r0 "java/lang/String" "value" "[B" (.ref b) := V_r0.keep KK5 nin0
    have K_b_at5 : Arv Z h5 b kb .byte (Int32.ofNat iz) vs (.int (0 : Int32)) := K_b.keep KK5 nin0
    have K5 : Keep h0 h5 [] := K0.trans KK5 all0
    have Z5 : n0 ≤ h5.size := Nat.le_trans Z0 KK5.1
    have N5 := Fr.app N3 N5q
    obtain ⟨fs, hr, hrun, hended, hW, hsame⟩ := X5.leave (v := some (.ref r5)) (fun h => by rw [Bd.returns] at h; cases h)
    refine ⟨_, _, pre0 _ ?_, hrun, hended, _, _, rfl, ?_, ⟨_, rfl⟩, hW, hsame.mono (by decide) (by decide)⟩
    · show Steps p.tables e below (s₁.setTop (mkF m 0 #[.val (.ref r0), .val (.int (Int32.ofNat ib)), .val (.int (Int32.ofNat (ib + k))), .unset, .unset] [])) _
      refine XS.aloadN X0.here hx rfl (hb hby d9_0) rfl rfl ?_
      show Steps p.tables e below (s₁.setTop (mkF m 1 #[.val (.ref r0), .val (.int (Int32.ofNat ib)), .val (.int (Int32.ofNat (ib + k))), .unset, .unset] [(.ref r0)])) _
      refine st1.trans ?_
      show Steps p.tables e below (T1.setTop (mkF m 4 #[.val (.ref r0), .val (.int (Int32.ofNat ib)), .val (.int (Int32.ofNat (ib + k))), .unset, .unset] [(.int (Int32.ofNat iz))])) _
      refine XS.istoreN X1.here hx rfl (hb hby d9_4) rfl (l' := #[.val (.ref r0), .val (.int (Int32.ofNat ib)), .val (.int (Int32.ofNat (ib + k))), .val (.int (Int32.ofNat iz)), .unset]) rfl ?_
      refine XS.iloadN X1.here hx rfl (hb hby d9_5) rfl ?_
      refine XS.iloadN X1.here hx rfl (hb hby d9_6) rfl ?_
      refine XS.iloadN X1.here hx rfl (hb hby d9_7) rfl ?_
      show Steps p.tables e below (T1.setTop (mkF m 8 #[.val (.ref r0), .val (.int (Int32.ofNat ib)), .val (.int (Int32.ofNat (ib + k))), .val (.int (Int32.ofNat iz)), .unset] [(.int (Int32.ofNat iz)), (.int (Int32.ofNat (ib + k))), (.int (Int32.ofNat ib))])) _
      refine st2 _ ?_
      show Steps p.tables e below (T2.setTop (mkF m 11 #[.val (.ref r0), .val (.int (Int32.ofNat ib)), .val (.int (Int32.ofNat (ib + k))), .val (.int (Int32.ofNat iz)), .unset] [])) _
      refine XS.iloadN X2.here hx rfl (hb hby d9_11) rfl ?_
      show Steps p.tables e below (T2.setTop (mkF m 12 #[.val (.ref r0), .val (.int (Int32.ofNat ib)), .val (.int (Int32.ofNat (ib + k))), .val (.int (Int32.ofNat iz)), .unset] [(.int (Int32.ofNat ib))])) _
      refine XS.ifNo X2.here hx rfl (hb hby d9_12) rfl ((if0 _ _).trans (teq hc12).2) ?_
      refine XS.iloadN X2.here hx rfl (hb hby d9_15) rfl ?_
      refine XS.iloadN X2.here hx rfl (hb hby d9_16) rfl ?_
      show Steps p.tables e below (T2.setTop (mkF m 17 #[.val (.ref r0), .val (.int (Int32.ofNat ib)), .val (.int (Int32.ofNat (ib + k))), .val (.int (Int32.ofNat iz)), .unset] [(.int (Int32.ofNat iz)), (.int (Int32.ofNat (ib + k)))])) _
      refine XS.icmpYes X2.here hx rfl (pc0 := 17) (pc' := 22) rfl (hb hby d9_17) rfl (feq (fun q => hnw ⟨own_is0 (by omega) hc12, (own_oeq (by omega) (by omega)).mp q⟩)).2 (by decide) (by decide) ?_
      refine XS.iloadN X2.here hx rfl (hb hby d9_22) rfl ?_
      refine XS.iloadN X2.here hx rfl (hb hby d9_23) rfl ?_
      refine XS.isub X2.here hx rfl (hb hby d9_24) rfl ?_
      show Steps p.tables e below (T2.setTop (mkF m 25 #[.val (.ref r0), .val (.int (Int32.ofNat ib)), .val (.int (Int32.ofNat (ib + k))), .val (.int (Int32.ofNat iz)), .unset] [(.int ((Int32.ofNat (ib + k)) - (Int32.ofNat ib)))])) _
      rw [own_osub2 (by omega)]
      show Steps p.tables e below (T2.setTop (mkF m 25 #[.val (.ref r0), .val (.int (Int32.ofNat ib)), .val (.int (Int32.ofNat (ib + k))), .val (.int (Int32.ofNat iz)), .unset] [(.int (Int32.ofNat k))])) _
      refine XS.istore X2.here hx rfl (hb hby d9_25) rfl (l' := #[.val (.ref r0), .val (.int (Int32.ofNat ib)), .val (.int (Int32.ofNat (ib + k))), .val (.int (Int32.ofNat iz)), .val (.int (Int32.ofNat k))]) rfl ?_
      refine XS.aloadN X2.here hx rfl (hb hby d9_27) rfl rfl ?_
      show Steps p.tables e below (T2.setTop (mkF m 28 #[.val (.ref r0), .val (.int (Int32.ofNat ib)), .val (.int (Int32.ofNat (ib + k))), .val (.int (Int32.ofNat iz)), .val (.int (Int32.ofNat k))] [(.ref r0)])) _
      refine st3.trans ?_
      show Steps p.tables e below (T3.setTop (mkF m 31 #[.val (.ref r0), .val (.int (Int32.ofNat ib)), .val (.int (Int32.ofNat (ib + k))), .val (.int (Int32.ofNat iz)), .val (.int (Int32.ofNat k))] [(.int (1 : Int32))])) _
      refine XS.ifNo X3.here hx rfl (hb hby d9_31) rfl ((if0 _ _).trans (feq (by decide : ¬ ((1 : Int32) = (0 : Int32)))).1) ?_
      refine XS.aloadN X3.here hx rfl (hb hby d9_34) rfl rfl ?_
      show Steps p.tables e below (T3.setTop (mkF m 35 #[.val (.ref r0), .val (.int (Int32.ofNat ib)), .val (.int (Int32.ofNat (ib + k))), .val (.int (Int32.ofNat iz)), .val (.int (Int32.ofNat k))] [(.ref r0)])) _
      refine st4 _ ?_
      show Steps p.tables e below (T4.setTop (mkF m 38 #[.val (.ref r0), .val (.int (Int32.ofNat ib)), .val (.int (Int32.ofNat (ib + k))), .val (.int (Int32.ofNat iz)), .val (.int (Int32.ofNat k))] [(.ref b)])) _
      refine XS.iloadN X4.here hx rfl (hb hby d9_38) rfl ?_
      refine XS.iload X4.here hx rfl (hb hby d9_39) rfl ?_
      show Steps p.tables e below (T4.setTop (mkF m 41 #[.val (.ref r0), .val (.int (Int32.ofNat ib)), .val (.int (Int32.ofNat (ib + k))), .val (.int (Int32.ofNat iz)), .val (.int (Int32.ofNat k))] [(.int (Int32.ofNat k)), (.int (Int32.ofNat ib)), (.ref b)])) _
      refine st5 _ ?_
      show Steps p.tables e below (T5.setTop (mkF m 44 #[.val (.ref r0), .val (.int (Int32.ofNat ib)), .val (.int (Int32.ofNat (ib + k))), .val (.int (Int32.ofNat iz)), .val (.int (Int32.ofNat k))] [(.ref r5)])) _
      refine XS.goto X5.here hx rfl (pc0 := 44) (pc' := 57) rfl (hb hby d9_44) (by decide) (by decide) ?_
      show Steps p.tables e below (T5.setTop (mkF m 57 #[.val (.ref r0), .val (.int (Int32.ofNat ib)), .val (.int (Int32.ofNat (ib + k))), .val (.int (Int32.ofNat iz)), .val (.int (Int32.ofNat k))] [(.ref r5)])) _
      jvm_step X5.here [X5.here.top, hx, (hb hby d9_57), X5.method', Bd.returns, Value.isRef, FieldType.isReference]
      first | (intro acts; rw [hr _ acts rfl rfl rfl]) | rw [hr _ _ rfl rfl rfl]
      exact Steps.refl _
    · show Q9_f Z r0 b kb ib k iz vs cs fm h0 n0 _ T5.heap _
      rw [e5]
      exact ⟨r5, b5, _, _, rfl, N5, K5, ER5, FC5, FV5, VB5, hP5⟩
  · obtain ⟨cq6, kq6, q6a, q6b, q6c⟩ := isOf hZ e2 E_r0
    obtain ⟨_, _, ⟨T6, L6, k6, n6⟩, -, X6, ⟨Lc6, hQ6, l6, y6, z6⟩, st6⟩ := X2.virtualBack hx (y := (⟨"java/lang/String", "isLatin1", "()Z"⟩ : MethodName)) (z := (⟨"java/lang/String", "isLatin1", "()Z"⟩ : MethodName)) hown (mvT hZ (hw _ (List.mem_of_getElem? (i := 79) rfl))) (mvT hZ (hw _ (List.mem_of_getElem? (i := 80) rfl))) (notFace_of_selects (args := #[]) (mvT hZ (hw _ (List.mem_of_getElem? (i := 82) rfl)))) (mvT hZ (hw _ (List.mem_of_getElem? (i := 82) rfl))) (mvT hZ (hw _ (List.mem_of_getElem? (i := 81) rfl))) (by decide) (backOf (W := 0) (rm17 l Z a0 hw [] r0 cs h0 n0 Z0 C_r0 O_0 S_cs hcs) hZ (hw _ (List.mem_of_getElem? (i := 83) rfl)) (hw _ (List.mem_of_getElem? (i := 11) rfl)) (by decide) (by decide)) q6a q6c (g := (mkF m 28 #[.val (.ref r0), .val (.int (Int32.ofNat ib)), .val (.int (Int32.ofNat (ib + k))), .val (.int (Int32.ofNat iz)), .val (.int (Int32.ofNat k))] [(.ref r0)])) rfl (by rw [hml]; rfl) (Steps.refl _) (argsL := []) (rest := []) (lenOf pd_2829Z rfl) rfl (by show 2 * 0 + _ ≤ _; exact Nat.le_of_eq rfl) (hb hby d9_28) (fun _ _ => ⟨rfl, e2, (by decide : 0 + 0 ≤ _), (by decide : 0 + 0 ≤ _)⟩)
    dsimp only [Pt.U, Pt.locs, Pt.cells, Pt.slots] at X6 l6 y6 z6 st6 hQ6
    subst l6 y6 z6
    obtain ⟨rfl, N6q, e6⟩ := hQ6
    have N6 := Fr.app N2 N6q
    obtain ⟨T7, X7, e7, st7⟩ := getF X6 hx hZ hown (host := "") (Or.inl (hw _ (List.mem_of_getElem? (i := 28) rfl))) Via.refl e6 V_r0 (g := (mkF m 35 #[.val (.ref r0), .val (.int (Int32.ofNat ib)), .val (.int (Int32.ofNat (ib + k))), .val (.int (Int32.ofNat iz)), .val (.int (Int32.ofNat k))] [(.ref r0)])) rfl rfl (hb hby d9_35)
    obtain ⟨_, _, ⟨T8, L8, k8, n8⟩, -, X8, ⟨Lc8, hQ8, l8, y8, z8⟩, st8⟩ := Jvm.LawKit.callS X7 hx (y := (⟨"java/lang/StringLatin1", "newString", "([BII)Ljava/lang/String;"⟩ : MethodName)) hown (mvT hZ (hw _ (List.mem_of_getElem? (i := 97) rfl))) (mvT hZ (hw _ (List.mem_of_getElem? (i := 98) rfl))) (mvT hZ (hw _ (List.mem_of_getElem? (i := 86) rfl))) (mvT hZ (hw _ (List.mem_of_getElem? (i := 99) rfl))) (by decide) (backOf (W := 0) (rm22_f l Z a0 hw [] b kb ib k iz vs h0 n0 Z0 K_b hk hz hcap hnw) hZ (hw _ (List.mem_of_getElem? (i := 99) rfl)) (hw _ (List.mem_of_getElem? (i := 86) rfl)) (by decide) (by decide)) (g := (mkF m 41 #[.val (.ref r0), .val (.int (Int32.ofNat ib)), .val (.int (Int32.ofNat (ib + k))), .val (.int (Int32.ofNat iz)), .val (.int (Int32.ofNat k))] [(.int (Int32.ofNat k)), (.int (Int32.ofNat ib)), (.ref b)])) rfl (by rw [hml]; rfl) (argsL := [(.ref b), (.int (Int32.ofNat ib)), (.int (Int32.ofNat k))]) (rest := []) (lenOf pd_285bBII29Ljava2flang2fString3b rfl) rfl (by show 2 * 0 + _ ≤ _; exact Nat.le_of_eq rfl) (hb hby d9_41) (fun _ _ => ⟨rfl, e7, (by decide : 0 + 2 ≤ _), (by decide : 0 + 8 ≤ _)⟩)
    dsimp only [Pt.U, Pt.locs, Pt.cells, Pt.slots] at X8 l8 y8 z8 st8 hQ8
    subst l8 y8 z8
    obtain ⟨r8, b8, kb8, rl8, rfl, N8q, KK8, ER8, FC8, FV8, VB8, hP8⟩ := hQ8
    obtain ⟨h8, e8⟩ : ∃ z, T8.heap = z := ⟨_, rfl⟩
    rw [e8] at KK8 ER8 FC8 FV8 VB8
    have O_0_at8 : Old Z n0 h8 := O_0.keep KK8 all0
    have E_r0_at8 : Exa Z h8 r0 "java/lang/String" := E_r0.keep KK8
    have C_r0_at8 : Fld Z h8 r0 "java/lang/String" "coder" "B" (.int (0 : Int32)) := C_r0.keep KK8 nin0
    have V_r0_at8 : Fld Z h8 r0 "java/lang/String" "value" "[B" (.ref b) := V_r0.keep KK8 nin0
    have K_b_at8 : Arv Z h8 b kb .byte (Int32.ofNat iz) vs (.int (0 : Int32)) := K_b.keep KK8 nin0
    have K8 : Keep h0 h8 [] := K0.trans KK8 all0
    have Z8 : n0 ≤ h8.size := Nat.le_trans Z0 KK8.1
    have N8 := Fr.app N6 N8q
    obtain ⟨fs, hr, hrun, hended, hW, hsame⟩ := X8.leave (v := some (.ref r8)) (fun h => by rw [Bd.returns] at h; cases h)
    refine ⟨_, _, pre0 _ ?_, hrun, hended, _, _, rfl, ?_, ⟨_, rfl⟩, hW, hsame.mono (by decide) (by decide)⟩
    · show Steps p.tables e below (s₁.setTop (mkF m 0 #[.val (.ref r0), .val (.int (Int32.ofNat ib)), .val (.int (Int32.ofNat (ib + k))), .unset, .unset] [])) _
      refine XS.aloadN X0.here hx rfl (hb hby d9_0) rfl rfl ?_
      show Steps p.tables e below (s₁.setTop (mkF m 1 #[.val (.ref r0), .val (.int (Int32.ofNat ib)), .val (.int (Int32.ofNat (ib + k))), .unset, .unset] [(.ref r0)])) _
      refine st1.trans ?_
      show Steps p.tables e below (T1.setTop (mkF m 4 #[.val (.ref r0), .val (.int (Int32.ofNat ib)), .val (.int (Int32.ofNat (ib + k))), .unset, .unset] [(.int (Int32.ofNat iz))])) _
      refine XS.istoreN X1.here hx rfl (hb hby d9_4) rfl (l' := #[.val (.ref r0), .val (.int (Int32.ofNat ib)), .val (.int (Int32.ofNat (ib + k))), .val (.int (Int32.ofNat iz)), .unset]) rfl ?_
      refine XS.iloadN X1.here hx rfl (hb hby d9_5) rfl ?_
      refine XS.iloadN X1.here hx rfl (hb hby d9_6) rfl ?_
      refine XS.iloadN X1.here hx rfl (hb hby d9_7) rfl ?_
      show Steps p.tables e below (T1.setTop (mkF m 8 #[.val (.ref r0), .val (.int (Int32.ofNat ib)), .val (.int (Int32.ofNat (ib + k))), .val (.int (Int32.ofNat iz)), .unset] [(.int (Int32.ofNat iz)), (.int (Int32.ofNat (ib + k))), (.int (Int32.ofNat ib))])) _
      refine st2 _ ?_
      show Steps p.tables e below (T2.setTop (mkF m 11 #[.val (.ref r0), .val (.int (Int32.ofNat ib)), .val (.int (Int32.ofNat (ib + k))), .val (.int (Int32.ofNat iz)), .unset] [])) _
      refine XS.iloadN X2.here hx rfl (hb hby d9_11) rfl ?_
      show Steps p.tables e below (T2.setTop (mkF m 12 #[.val (.ref r0), .val (.int (Int32.ofNat ib)), .val (.int (Int32.ofNat (ib + k))), .val (.int (Int32.ofNat iz)), .unset] [(.int (Int32.ofNat ib))])) _
      refine XS.ifYes X2.here hx rfl (pc0 := 12) (pc' := 22) rfl (hb hby d9_12) rfl ((if0 _ _).trans (feq hc12).2) (by decide) (by decide) ?_
      refine XS.iloadN X2.here hx rfl (hb hby d9_22) rfl ?_
      refine XS.iloadN X2.here hx rfl (hb hby d9_23) rfl ?_
      refine XS.isub X2.here hx rfl (hb hby d9_24) rfl ?_
      show Steps p.tables e below (T2.setTop (mkF m 25 #[.val (.ref r0), .val (.int (Int32.ofNat ib)), .val (.int (Int32.ofNat (ib + k))), .val (.int (Int32.ofNat iz)), .unset] [(.int ((Int32.ofNat (ib + k)) - (Int32.ofNat ib)))])) _
      rw [own_osub2 (by omega)]
      show Steps p.tables e below (T2.setTop (mkF m 25 #[.val (.ref r0), .val (.int (Int32.ofNat ib)), .val (.int (Int32.ofNat (ib + k))), .val (.int (Int32.ofNat iz)), .unset] [(.int (Int32.ofNat k))])) _
      refine XS.istore X2.here hx rfl (hb hby d9_25) rfl (l' := #[.val (.ref r0), .val (.int (Int32.ofNat ib)), .val (.int (Int32.ofNat (ib + k))), .val (.int (Int32.ofNat iz)), .val (.int (Int32.ofNat k))]) rfl ?_
      refine XS.aloadN X2.here hx rfl (hb hby d9_27) rfl rfl ?_
      show Steps p.tables e below (T2.setTop (mkF m 28 #[.val (.ref r0), .val (.int (Int32.ofNat ib)), .val (.int (Int32.ofNat (ib + k))), .val (.int (Int32.ofNat iz)), .val (.int (Int32.ofNat k))] [(.ref r0)])) _
      refine st6.trans ?_
      show Steps p.tables e below (T6.setTop (mkF m 31 #[.val (.ref r0), .val (.int (Int32.ofNat ib)), .val (.int (Int32.ofNat (ib + k))), .val (.int (Int32.ofNat iz)), .val (.int (Int32.ofNat k))] [(.int (1 : Int32))])) _
      refine XS.ifNo X6.here hx rfl (hb hby d9_31) rfl ((if0 _ _).trans (feq (by decide : ¬ ((1 : Int32) = (0 : Int32)))).1) ?_
      refine XS.aloadN X6.here hx rfl (hb hby d9_34) rfl rfl ?_
      show Steps p.tables e below (T6.setTop (mkF m 35 #[.val (.ref r0), .val (.int (Int32.ofNat ib)), .val (.int (Int32.ofNat (ib + k))), .val (.int (Int32.ofNat iz)), .val (.int (Int32.ofNat k))] [(.ref r0)])) _
      refine st7 _ ?_
      show Steps p.tables e below (T7.setTop (mkF m 38 #[.val (.ref r0), .val (.int (Int32.ofNat ib)), .val (.int (Int32.ofNat (ib + k))), .val (.int (Int32.ofNat iz)), .val (.int (Int32.ofNat k))] [(.ref b)])) _
      refine XS.iloadN X7.here hx rfl (hb hby d9_38) rfl ?_
      refine XS.iload X7.here hx rfl (hb hby d9_39) rfl ?_
      show Steps p.tables e below (T7.setTop (mkF m 41 #[.val (.ref r0), .val (.int (Int32.ofNat ib)), .val (.int (Int32.ofNat (ib + k))), .val (.int (Int32.ofNat iz)), .val (.int (Int32.ofNat k))] [(.int (Int32.ofNat k)), (.int (Int32.ofNat ib)), (.ref b)])) _
      refine st8 _ ?_
      show Steps p.tables e below (T8.setTop (mkF m 44 #[.val (.ref r0), .val (.int (Int32.ofNat ib)), .val (.int (Int32.ofNat (ib + k))), .val (.int (Int32.ofNat iz)), .val (.int (Int32.ofNat k))] [(.ref r8)])) _
      refine XS.goto X8.here hx rfl (pc0 := 44) (pc' := 57) rfl (hb hby d9_44) (by decide) (by decide) ?_
      show Steps p.tables e below (T8.setTop (mkF m 57 #[.val (.ref r0), .val (.int (Int32.ofNat ib)), .val (.int (Int32.ofNat (ib + k))), .val (.int (Int32.ofNat iz)), .val (.int (Int32.ofNat k))] [(.ref r8)])) _
      jvm_step X8.here [X8.here.top, hx, (hb hby d9_57), X8.method', Bd.returns, Value.isRef, FieldType.isReference]
      first | (intro acts; rw [hr _ acts rfl rfl rfl]) | rw [hr _ _ rfl rfl rfl]
      exact Steps.refl _
    · show Q9_f Z r0 b kb ib k iz vs cs fm h0 n0 _ T8.heap _
      rw [e8]
      exact ⟨r8, b8, _, _, rfl, N8, K8, ER8, FC8, FV8, VB8, hP8⟩
theorem ef_9_s (m : MethodId) (x0 : Addr) (x1 : Int32) (x2 : Int32) : entryFrame m #[(.ref x0), (.int x1), (.int x2)] 5 = mkF m 0 #[.val (.ref x0), .val (.int x1), .val (.int x2), .unset, .unset] [] := by first | (simp [entryFrame, mkF, argsToLocals, Value.category]; done) | rfl
theorem d9_20 : decode jdk_42_method_92_code 20 = .ok (.aload_n 0, 1) := by decide +kernel
theorem d9_21 : decode jdk_42_method_92_code 21 = .ok (.areturn, 1) := by decide +kernel
def Q9_s (Z : State) (r0 : Addr) (b : Addr) (kb : ClassId) (ib k iz : Nat) (vs : List Value) (cs : Int32) (fm : Value) (h0 : Heap) (n0 : Nat) (v : Option Value) (h : Heap) (L : List Loc) : Prop := v = some (.ref r0) ∧ Fr n0 L ∧ h = h0
set_option maxRecDepth 65536 in
set_option maxHeartbeats 40000000 in
theorem rm9_s (l : Launch) (Z : State) (a0 : Array Value) (hw : ∀ d ∈ tables_1, d.before a0 Z = true) (ws : List Jvm.Cond) (r0 : Addr) (b : Addr) (kb : ClassId) (ib k iz : Nat) (vs : List Value) (cs : Int32) (fm : Value) (h0 : Heap) (n0 : Nat) (Z0 : n0 ≤ h0.size) (E_r0 : Exa Z h0 r0 "java/lang/String") (C_r0 : Fld Z h0 r0 "java/lang/String" "coder" "B" (.int (0 : Int32))) (V_r0 : Fld Z h0 r0 "java/lang/String" "value" "[B" (.ref b)) (K_b : Arv Z h0 b kb .byte (Int32.ofNat iz) vs (.int (0 : Int32))) (O_0 : Old Z n0 h0) (S_cs : Sta Z Z.heap "java/lang/String" "COMPACT_STRINGS" "Z" (.int cs)) (hcs : ¬ (cs = (0 : Int32))) (S_fm : Sta Z Z.heap "jdk/internal/util/Preconditions" "SIOOBE_FORMATTER" "Ljava/util/function/BiFunction;" fm) (hfm : fm.isRef = true) (hz : ib + k ≤ iz) (hcap : iz ≤ 4) (hib : ib = 0) (hie : ib + k = iz) :
    MetFree l (⟨"java/lang/String", "substring", "(II)Ljava/lang/String;"⟩ : MethodName) (head1 (Jvm.Cond.code (⟨"java/lang/String", "substring", "(II)Ljava/lang/String;"⟩ : MethodName) jdk_42_method_92_code 5 (some (.object "java/lang/String")) :: ws) ({ frames := 2, cells := 0, slots := 0, locals := 29 } : Room)) (fun a U => a = #[(.ref r0), (.int (Int32.ofNat ib)), (.int (Int32.ofNat (ib + k)))] ∧ Z.Warmed39 U.vm ∧ U.heap = h0) (fun _ _ _ _ _ => True) (fun _ U o U' => ∃ v L, o = .returned v ∧ Q9_s Z r0 b kb ib k iz vs cs fm h0 n0 v U'.heap L ∧ FrameEnd U o U' L ({ frames := 2, cells := 0, slots := 0, locals := 29 } : Room).cells ({ frames := 2, cells := 0, slots := 0, locals := 29 } : Room).slots) := by
  refine MetFree.of_bodySF (plainFor_of_name pn_java_lang_String) hisR ?_
  intro p e s m args below meth c s₁ Bd hml0 hP hK
  obtain ⟨rfl, hZ, hh⟩ := hP
  have hx := Bd.exec
  have hby := Bd.bytes
  have hml : c.maxLocals = 5 := hml0
  have hown : s.vm.findClass "java/lang/String" = some m.cls := findClass_of_methodNamed Bd.named
  have hnm := (name_of_methodNamed Bd.named Bd.method).1
  have X0 : Stand p l e ({ frames := 2, cells := 0, slots := 0, locals := 29 } : Room) s m #[(.ref r0), (.int (Int32.ofNat ib)), (.int (Int32.ofNat (ib + k)))] below meth c s₁ [] 0 0 := Stand.of_body Bd
  have e0 : s₁.heap = h0 := by rw [← hh, Bd.state]; rfl
  have N0 := Fr.nil n0
  have pre0 : ∀ t, Steps p.tables e below (s₁.setTop (mkF m 0 #[.val (.ref r0), .val (.int (Int32.ofNat ib)), .val (.int (Int32.ofNat (ib + k))), .unset, .unset] [])) t → Steps p.tables e below (s₁.setTop (entryFrame m #[(.ref r0), (.int (Int32.ofNat ib)), (.int (Int32.ofNat (ib + k)))] 5)) t := fun tt kt_ => castTop (ef_9_s m r0 (Int32.ofNat ib) (Int32.ofNat (ib + k))) kt_
  obtain ⟨cq1, kq1, q1a, q1b, q1c⟩ := isOf hZ e0 E_r0
  obtain ⟨_, _, ⟨T1, L1, k1, n1⟩, -, X1, ⟨Lc1, hQ1, l1, y1, z1⟩, st1⟩ := X0.virtualBack hx (y := (⟨"java/lang/String", "length", "()I"⟩ : MethodName)) (z := (⟨"java/lang/String", "length", "()I"⟩ : MethodName)) hown (mvT hZ (hw _ (List.mem_of_getElem? (i := 50) rfl))) (mvT hZ (hw _ (List.mem_of_getElem? (i := 35) rfl))) (notFace_of_selects (args := #[]) (mvT hZ (hw _ (List.mem_of_getElem? (i := 37) rfl)))) (mvT hZ (hw _ (List.mem_of_getElem? (i := 37) rfl))) (mvT hZ (hw _ (List.mem_of_getElem? (i := 36) rfl))) (by decide) (backOf (W := 0) (rm7 l Z a0 hw [] r0 b kb (Int32.ofNat iz) vs cs h0 n0 Z0 E_r0 C_r0 V_r0 K_b O_0 S_cs hcs) hZ (hw _ (List.mem_of_getElem? (i := 38) rfl)) (hw _ (List.mem_of_getElem? (i := 11) rfl)) (by decide) (by decide)) q1a q1c (g := (mkF m 1 #[.val (.ref r0), .val (.int (Int32.ofNat ib)), .val (.int (Int32.ofNat (ib + k))), .unset, .unset] [(.ref r0)])) rfl (by rw [hml]; rfl) (Steps.refl _) (argsL := []) (rest := []) (lenOf pd_2829I rfl) rfl (by show 2 * 0 + _ ≤ _; exact Nat.le_of_eq rfl) (hb hby d9_1) (fun _ _ => ⟨rfl, e0, (by decide : 0 + 0 ≤ _), (by decide : 0 + 0 ≤ _)⟩)
  dsimp only [Pt.U, Pt.locs, Pt.cells, Pt.slots] at X1 l1 y1 z1 st1 hQ1
  subst l1 y1 z1
  obtain ⟨rfl, N1q, e1⟩ := hQ1
  have N1 := Fr.app N0 N1q
  obtain ⟨_, _, ⟨T2, L2, k2, n2⟩, -, X2, ⟨Lc2, hQ2, l2, y2, z2⟩, st2⟩ := Jvm.LawKit.callS X1 hx (y := (⟨"java/lang/String", "checkBoundsBeginEnd", "(III)V"⟩ : MethodName)) hown (mvT hZ (hw _ (List.mem_of_getElem? (i := 51) rfl))) (mvT hZ (hw _ (List.mem_of_getElem? (i := 52) rfl))) (mvT hZ (hw _ (List.mem_of_getElem? (i := 11) rfl))) (mvT hZ (hw _ (List.mem_of_getElem? (i := 53) rfl))) (by decide) (backOf (W := 0) (rm10 l Z a0 hw [] (Int32.ofNat ib) (Int32.ofNat (ib + k)) (Int32.ofNat iz) fm h0 n0 Z0 O_0 S_fm hfm (own_o0 (by omega)) (fun q => by rw [own_olt (by omega) (by omega)] at q; omega) (fun q => by rw [own_olt (by omega) (by omega)] at q; omega)) hZ (hw _ (List.mem_of_getElem? (i := 53) rfl)) (hw _ (List.mem_of_getElem? (i := 11) rfl)) (by decide) (by decide)) (g := (mkF m 8 #[.val (.ref r0), .val (.int (Int32.ofNat ib)), .val (.int (Int32.ofNat (ib + k))), .val (.int (Int32.ofNat iz)), .unset] [(.int (Int32.ofNat iz)), (.int (Int32.ofNat (ib + k))), (.int (Int32.ofNat ib))])) rfl (by rw [hml]; rfl) (argsL := [(.int (Int32.ofNat ib)), (.int (Int32.ofNat (ib + k))), (.int (Int32.ofNat iz))]) (rest := []) (lenOf pd_28III29V rfl) rfl (by show 2 * 0 + _ ≤ _; exact Nat.le_of_eq rfl) (hb hby d9_8) (fun _ _ => ⟨rfl, e1, (by decide : 0 + 0 ≤ _), (by decide : 0 + 0 ≤ _)⟩)
  dsimp only [Pt.U, Pt.locs, Pt.cells, Pt.slots] at X2 l2 y2 z2 st2 hQ2
  subst l2 y2 z2
  obtain ⟨rfl, N2q, e2⟩ := hQ2
  have N2 := Fr.app N1 N2q
  obtain ⟨fs, hr, hrun, hended, hW, hsame⟩ := X2.leave (v := some (.ref r0)) (fun h => by rw [Bd.returns] at h; cases h)
  refine ⟨_, _, pre0 _ ?_, hrun, hended, _, _, rfl, ?_, ⟨_, rfl⟩, hW, hsame.mono (by decide) (by decide)⟩
  · show Steps p.tables e below (s₁.setTop (mkF m 0 #[.val (.ref r0), .val (.int (Int32.ofNat ib)), .val (.int (Int32.ofNat (ib + k))), .unset, .unset] [])) _
    refine XS.aloadN X0.here hx rfl (hb hby d9_0) rfl rfl ?_
    show Steps p.tables e below (s₁.setTop (mkF m 1 #[.val (.ref r0), .val (.int (Int32.ofNat ib)), .val (.int (Int32.ofNat (ib + k))), .unset, .unset] [(.ref r0)])) _
    refine st1.trans ?_
    show Steps p.tables e below (T1.setTop (mkF m 4 #[.val (.ref r0), .val (.int (Int32.ofNat ib)), .val (.int (Int32.ofNat (ib + k))), .unset, .unset] [(.int (Int32.ofNat iz))])) _
    refine XS.istoreN X1.here hx rfl (hb hby d9_4) rfl (l' := #[.val (.ref r0), .val (.int (Int32.ofNat ib)), .val (.int (Int32.ofNat (ib + k))), .val (.int (Int32.ofNat iz)), .unset]) rfl ?_
    refine XS.iloadN X1.here hx rfl (hb hby d9_5) rfl ?_
    refine XS.iloadN X1.here hx rfl (hb hby d9_6) rfl ?_
    refine XS.iloadN X1.here hx rfl (hb hby d9_7) rfl ?_
    show Steps p.tables e below (T1.setTop (mkF m 8 #[.val (.ref r0), .val (.int (Int32.ofNat ib)), .val (.int (Int32.ofNat (ib + k))), .val (.int (Int32.ofNat iz)), .unset] [(.int (Int32.ofNat iz)), (.int (Int32.ofNat (ib + k))), (.int (Int32.ofNat ib))])) _
    refine st2 _ ?_
    show Steps p.tables e below (T2.setTop (mkF m 11 #[.val (.ref r0), .val (.int (Int32.ofNat ib)), .val (.int (Int32.ofNat (ib + k))), .val (.int (Int32.ofNat iz)), .unset] [])) _
    refine XS.iloadN X2.here hx rfl (hb hby d9_11) rfl ?_
    show Steps p.tables e below (T2.setTop (mkF m 12 #[.val (.ref r0), .val (.int (Int32.ofNat ib)), .val (.int (Int32.ofNat (ib + k))), .val (.int (Int32.ofNat iz)), .unset] [(.int (Int32.ofNat ib))])) _
    refine XS.ifNo X2.here hx rfl (hb hby d9_12) rfl ((if0 _ _).trans (teq (own_z hib)).2) ?_
    refine XS.iloadN X2.here hx rfl (hb hby d9_15) rfl ?_
    refine XS.iloadN X2.here hx rfl (hb hby d9_16) rfl ?_
    show Steps p.tables e below (T2.setTop (mkF m 17 #[.val (.ref r0), .val (.int (Int32.ofNat ib)), .val (.int (Int32.ofNat (ib + k))), .val (.int (Int32.ofNat iz)), .unset] [(.int (Int32.ofNat iz)), (.int (Int32.ofNat (ib + k)))])) _
    refine XS.icmpNo X2.here hx rfl (hb hby d9_17) rfl (teq (congrArg Int32.ofNat hie)).2 ?_
    refine XS.aloadN X2.here hx rfl (hb hby d9_20) rfl rfl ?_
    show Steps p.tables e below (T2.setTop (mkF m 21 #[.val (.ref r0), .val (.int (Int32.ofNat ib)), .val (.int (Int32.ofNat (ib + k))), .val (.int (Int32.ofNat iz)), .unset] [(.ref r0)])) _
    jvm_step X2.here [X2.here.top, hx, (hb hby d9_21), X2.method', Bd.returns, Value.isRef, FieldType.isReference]
    first | (intro acts; rw [hr _ acts rfl rfl rfl]) | rw [hr _ _ rfl rfl rfl]
    exact Steps.refl _
  · show Q9_s Z r0 b kb ib k iz vs cs fm h0 n0 _ T2.heap _
    rw [e2]
    exact ⟨rfl, N2, rfl⟩
theorem ef_4_0 (m : MethodId) (x0 : Addr) (x1 : Addr) (x2 : Int32) (x3 : Int32) : entryFrame m #[(.ref x0), (.ref x1), (.int x2), (.int x3), .null] 6 = mkF m 0 #[.val (.ref x0), .val (.ref x1), .val (.int x2), .val (.int x3), .val .null, .unset] [] := by first | (simp [entryFrame, mkF, argsToLocals, Value.category]; done) | rfl
theorem d4_8 : decode jdk_42_method_149_code 8 = .ok (.aload_n 0, 1) := by decide +kernel
theorem d4_9 : decode jdk_42_method_149_code 9 = .ok (.ldc 7, 2) := by decide +kernel
theorem own_satoms {Z : State} {a0 : Array Value} (hw : ∀ d ∈ tables_1, d.before a0 Z = true) : ∀ a ∈ Bundle.stringAtoms, a.before a0 Z = true := by
  intro d hd
  simp only [Bundle.stringAtoms, List.mem_cons, List.not_mem_nil, or_false] at hd
  rcases hd with rfl | rfl | rfl | rfl | rfl | rfl | rfl
  · exact (hw _ (List.mem_of_getElem? (i := 11) rfl))
  · exact (hw _ (List.mem_of_getElem? (i := 10) rfl))
  · exact (hw _ (List.mem_of_getElem? (i := 23) rfl))
  · exact (hw _ (List.mem_of_getElem? (i := 24) rfl))
  · exact (hw _ (List.mem_of_getElem? (i := 25) rfl))
  · exact (hw _ (List.mem_of_getElem? (i := 26) rfl))
  · exact (hw _ (List.mem_of_getElem? (i := 27) rfl))
theorem d4_11 : decode jdk_42_method_149_code 11 = .ok (.getfield 9, 3) := by decide +kernel
theorem d4_14 : decode jdk_42_method_149_code 14 = .ok (.putfield 9, 3) := by decide +kernel
theorem d4_17 : decode jdk_42_method_149_code 17 = .ok (.aload_n 0, 1) := by decide +kernel
theorem d4_18 : decode jdk_42_method_149_code 18 = .ok (.ldc 7, 2) := by decide +kernel
theorem d4_20 : decode jdk_42_method_149_code 20 = .ok (.getfield 15, 3) := by decide +kernel
theorem d4_23 : decode jdk_42_method_149_code 23 = .ok (.putfield 15, 3) := by decide +kernel
theorem d4_26 : decode jdk_42_method_149_code 26 = .ok (.return_, 1) := by decide +kernel
def Q4_0 (Z : State) (r0 : Addr) (r1 : Addr) (ka : ClassId) (h0 : Heap) (n0 : Nat) (v : Option Value) (h : Heap) (L : List Loc) : Prop := v = none ∧ Fr n0 L ∧ Keep h0 h [r0] ∧ ∃ (b : Addr) (kb : ClassId), Fld Z h r0 "java/lang/String" "coder" "B" (.int (0 : Int32)) ∧ Fld Z h r0 "java/lang/String" "value" "[B" (.ref b) ∧ Arv Z h b kb .byte (0 : Int32) [] (.int (0 : Int32))
set_option maxRecDepth 65536 in
set_option maxHeartbeats 40000000 in
theorem rm4_0 (l : Launch) (Z : State) (a0 : Array Value) (hw : ∀ d ∈ tables_1, d.before a0 Z = true) (ws : List Jvm.Cond) (r0 : Addr) (r1 : Addr) (ka : ClassId) (h0 : Heap) (n0 : Nat) (Z0 : n0 ≤ h0.size) (E_r0 : Exa Z h0 r0 "java/lang/String") (F_value : Fld Z h0 r0 "java/lang/String" "value" "[B" .null) (F_coder : Fld Z h0 r0 "java/lang/String" "coder" "B" (.int (0 : Int32))) (g_r0 : n0 ≤ r0) (V_r1 : Arv Z h0 r1 ka .char (0 : Int32) [] (.int (0 : Int32))) :
    MetFree l (⟨"java/lang/String", "<init>", "([CIILjava/lang/Void;)V"⟩ : MethodName) (head1 (Jvm.Cond.code (⟨"java/lang/String", "<init>", "([CIILjava/lang/Void;)V"⟩ : MethodName) jdk_42_method_149_code 6 none :: ws) ({ frames := 1, cells := 2, slots := 4, locals := 12 } : Room)) (fun a U => a = #[(.ref r0), (.ref r1), (.int (0 : Int32)), (.int (0 : Int32)), .null] ∧ Z.Warmed39 U.vm ∧ U.heap = h0 ∧ CHv Z own_EL U.vm h0) (fun _ _ _ _ _ => True) (fun _ U o U' => ∃ v L, o = .returned v ∧ Q4_0 Z r0 r1 ka h0 n0 v U'.heap L ∧ CHr Z own_EL U.vm U.heap U'.vm U'.heap ∧ ReturnedEndW U o U' L ({ frames := 1, cells := 2, slots := 4, locals := 12 } : Room).cells ({ frames := 1, cells := 2, slots := 4, locals := 12 } : Room).slots) := by
  refine MetFree.of_bodySF (plainFor_of_name pn_java_lang_String) hisR ?_
  intro p e s m args below meth c s₁ Bd hml0 hP hK
  obtain ⟨rfl, hZ, hh, hCH⟩ := hP
  have hx := Bd.exec
  have hby := Bd.bytes
  have hml : c.maxLocals = 6 := hml0
  have hown : s.vm.findClass "java/lang/String" = some m.cls := findClass_of_methodNamed Bd.named
  have hnm := (name_of_methodNamed Bd.named Bd.method).1
  have X0 : Stand p l e ({ frames := 1, cells := 2, slots := 4, locals := 12 } : Room) s m #[(.ref r0), (.ref r1), (.int (0 : Int32)), (.int (0 : Int32)), .null] below meth c s₁ [] 0 0 := Stand.of_body Bd
  have e0 : s₁.heap = h0 := by rw [← hh, Bd.state]; rfl
  have N0 := Fr.nil n0
  have pre0 : ∀ t, Steps p.tables e below (s₁.setTop (mkF m 0 #[.val (.ref r0), .val (.ref r1), .val (.int (0 : Int32)), .val (.int (0 : Int32)), .val .null, .unset] [])) t → Steps p.tables e below (s₁.setTop (entryFrame m #[(.ref r0), (.ref r1), (.int (0 : Int32)), (.int (0 : Int32)), .null] 6)) t := fun tt kt_ => castTop (ef_4_0 m r0 r1 (0 : Int32) (0 : Int32)) kt_
  have CH0 : CHr Z own_EL s.vm h0 s.vm h0 := CHr.refl hCH
  have K0 : Keep h0 h0 [r0] := Keep.refl h0 [r0]
  obtain ⟨T1, X1, e1, st1⟩ := initO X0 hx hZ hown (hw _ (List.mem_of_getElem? (i := 19) rfl)) (hw _ (List.mem_of_getElem? (i := 20) rfl)) (hw _ (List.mem_of_getElem? (i := 21) rfl)) e0 (g := (mkF m 1 #[.val (.ref r0), .val (.ref r1), .val (.int (0 : Int32)), .val (.int (0 : Int32)), .val .null, .unset] [(.ref r0)])) rfl (by rw [hml]; rfl) rfl (hb hby d4_1) (by decide) (W := 0) (by show 2 * 0 + _ ≤ _; exact Nat.le_of_eq rfl) (by decide)
  obtain ⟨a2, T2, h2, kk2, b2, kb2, X2, e2, E2, hS2, hk2, hZ2, hown2, EE2, FC2, FV2, KA2, la2, lb2, hC2, Lt2, sf2, st2⟩ := ldcCH (s := s) (vm0 := s.vm) X1 hx hZ hown (hw _ (List.mem_of_getElem? (i := 22) rfl)) (own_satoms hw) e1 ((State.WarmedH.refl s).since 0) (Nat.zero_le _) (own_EW hw) (by simp [own_EL]) CH0.1 (vs := []) (z := (0 : Int32)) ⟨by simp, by simp⟩ (by decide) rfl (g := (mkF m 9 #[.val (.ref r0), .val (.ref r1), .val (.int (0 : Int32)), .val (.int (0 : Int32)), .val .null, .unset] [(.ref r0)])) rfl (hb hby d4_9) (n := 0) (by decide) (by decide) (by decide) (by decide)
  have E_r0_at2 : Exa Z h2 r0 "java/lang/String" := E_r0.ext E2
  have F_value_at2 : Fld Z h2 r0 "java/lang/String" "value" "[B" .null := F_value.ext E2
  have F_coder_at2 : Fld Z h2 r0 "java/lang/String" "coder" "B" (.int (0 : Int32)) := F_coder.ext E2
  have V_r1_at2 : Arv Z h2 r1 ka .char (0 : Int32) [] (.int (0 : Int32)) := V_r1.ext E2
  have CH2 : CHr Z own_EL s.vm h0 T2.vm h2 := CH0.trans hC2
  have K2 : Keep h0 h2 [r0] := K0.ext E2
  have Z2 : n0 ≤ h2.size := Nat.le_trans Z0 E2.1
  have sf2_r0 : Safe Z own_EL T2.vm h2 r0 := own_safe hw (show Z.vm.Alike T2.vm from hZ2.alike) F_value_at2 E_r0_at2
  obtain ⟨ne_r0_a2, ne_r0_b2⟩ := sf2 r0 sf2_r0
  obtain ⟨T3, X3, e3, st3⟩ := getF X2 hx hZ2 hown2 (host := "") (Or.inl (hw _ (List.mem_of_getElem? (i := 28) rfl))) Via.refl e2 FV2 (g := (mkF m 11 #[.val (.ref r0), .val (.ref r1), .val (.int (0 : Int32)), .val (.int (0 : Int32)), .val .null, .unset] [(.ref a2), (.ref r0)])) rfl rfl (hb hby d4_11)
  obtain ⟨T4, h4, X4, e4, W4, st4⟩ := putF X3 hx hZ2 hown2 (host := "") (Or.inl (hw _ (List.mem_of_getElem? (i := 28) rfl))) Via.refl e3 F_value_at2 E_r0_at2 (Or.inr ⟨(hw _ (List.mem_of_getElem? (i := 24) rfl)), rfl, hnm⟩) (hw _ (List.mem_of_getElem? (i := 10) rfl)) (ty := (.array .byte)) (by decide) rfl rfl (g := (mkF m 14 #[.val (.ref r0), .val (.ref r1), .val (.int (0 : Int32)), .val (.int (0 : Int32)), .val .null, .unset] [(.ref b2), (.ref r0)])) rfl rfl (hb hby d4_14)
  have sf4_r0 := Safe.wr W4 sf2_r0 CH2.1 sf2_r0
  have CH4 : CHr Z own_EL s.vm h0 T2.vm h4 := CH2.trans (CHr.wr W4 sf2_r0 CH2.1)
  have E_r0_at4 : Exa Z h4 r0 "java/lang/String" := E_r0_at2.wr W4
  have F_coder_at4 : Fld Z h4 r0 "java/lang/String" "coder" "B" (.int (0 : Int32)) := F_coder_at2.other W4 (Or.inr (slot_ne (Or.inr (hw _ (List.mem_of_getElem? (i := 25) rfl))) (Or.inr (hw _ (List.mem_of_getElem? (i := 24) rfl))) (by decide) (t := .byte) (t' := (.array .byte)) (by decide) (by decide)))
  have EE2_at4 : Exa Z h4 a2 "java/lang/String" := EE2.wr W4
  have FC2_at4 : Fld Z h4 a2 "java/lang/String" "coder" "B" (.int (0 : Int32)) := FC2.other W4 (Or.inl (Ne.symm ne_r0_a2))
  have FV2_at4 : Fld Z h4 a2 "java/lang/String" "value" "[B" (.ref b2) := FV2.other W4 (Or.inl (Ne.symm ne_r0_a2))
  have KA2_at4 : Arv Z h4 b2 kb2 .byte (0 : Int32) [] (.int (0 : Int32)) := KA2.other W4 (Ne.symm ne_r0_b2)
  have F_value_r0_at4 : Fld Z h4 r0 "java/lang/String" "value" "[B" (.ref b2) := F_value_at2.same W4
  have K4 : Keep h0 h4 [r0] := K2.wr W4 (Or.inl (List.mem_of_getElem? (i := 0) rfl))
  have Z4 : n0 ≤ h4.size := Nat.le_trans Z2 (Keep.of_wr W4).1
  have N4 := Fr.snoc X4 N0 g_r0
  obtain ⟨T5, X5, e5, st5⟩ := getF X4 hx hZ2 hown2 (host := "") (Or.inl (hw _ (List.mem_of_getElem? (i := 29) rfl))) Via.refl e4 FC2_at4 (g := (mkF m 20 #[.val (.ref r0), .val (.ref r1), .val (.int (0 : Int32)), .val (.int (0 : Int32)), .val .null, .unset] [(.ref a2), (.ref r0)])) rfl rfl (hb hby d4_20)
  obtain ⟨T6, h6, X6, e6, W6, st6⟩ := putFN X5 hx hZ2 hown2 (hw _ (List.mem_of_getElem? (i := 29) rfl)) Via.refl e5 F_coder_at4 E_r0_at4 (Or.inr ⟨(hw _ (List.mem_of_getElem? (i := 25) rfl)), rfl, hnm⟩) (hw _ (List.mem_of_getElem? (i := 10) rfl)) (ty := .byte) (v' := (.int (0 : Int32).toInt8.toInt32)) (by decide) rfl (fits_nar_byte _) (g := (mkF m 23 #[.val (.ref r0), .val (.ref r1), .val (.int (0 : Int32)), .val (.int (0 : Int32)), .val .null, .unset] [(.int (0 : Int32)), (.ref r0)])) rfl rfl (hb hby d4_23)
  have sf6_r0 := Safe.wr W6 sf4_r0 CH4.1 sf4_r0
  have CH6 : CHr Z own_EL s.vm h0 T2.vm h6 := CH4.trans (CHr.wr W6 sf4_r0 CH4.1)
  have E_r0_at6 : Exa Z h6 r0 "java/lang/String" := E_r0_at4.wr W6
  have EE2_at6 : Exa Z h6 a2 "java/lang/String" := EE2_at4.wr W6
  have FC2_at6 : Fld Z h6 a2 "java/lang/String" "coder" "B" (.int (0 : Int32)) := FC2_at4.other W6 (Or.inl (Ne.symm ne_r0_a2))
  have FV2_at6 : Fld Z h6 a2 "java/lang/String" "value" "[B" (.ref b2) := FV2_at4.other W6 (Or.inl (Ne.symm ne_r0_a2))
  have KA2_at6 : Arv Z h6 b2 kb2 .byte (0 : Int32) [] (.int (0 : Int32)) := KA2_at4.other W6 (Ne.symm ne_r0_b2)
  have F_value_r0_at6 : Fld Z h6 r0 "java/lang/String" "value" "[B" (.ref b2) := F_value_r0_at4.other W6 (Or.inr (slot_ne (Or.inr (hw _ (List.mem_of_getElem? (i := 24) rfl))) (Or.inr (hw _ (List.mem_of_getElem? (i := 25) rfl))) (by decide) (t := (.array .byte)) (t' := .byte) (by decide) (by decide)))
  have F_coder_r0_at6 : Fld Z h6 r0 "java/lang/String" "coder" "B" (.int (0 : Int32).toInt8.toInt32) := F_coder_at4.same W6
  have K6 : Keep h0 h6 [r0] := K4.wr W6 (Or.inl (List.mem_of_getElem? (i := 0) rfl))
  have Z6 : n0 ≤ h6.size := Nat.le_trans Z4 (Keep.of_wr W6).1
  have N6 := Fr.snoc X6 N4 g_r0
  have CHe : CHr Z own_EL s.vm s.heap T6.vm T6.heap := by
    have q := CH6.trans (CHv.at (s := s) X6 hZ2 (own_EW hw) CH6.1)
    rw [hh, e6]
    exact q
  obtain ⟨fs, hr, hrun, hended, rw1, rw2, rw3, rw4⟩ := X6.leaveW hS2 (by rw [e6]; exact (Nat.le_trans (Nat.le_trans hk2 (Keep.of_wr W4).1) (Keep.of_wr W6).1)) (v := none) (fun _ => rfl)
  refine ⟨_, _, pre0 _ ?_, hrun, hended, _, _, rfl, ?_, CHe, rw1, rw2, rw3, rw4.mono (by decide) (by decide)⟩
  · show Steps p.tables e below (s₁.setTop (mkF m 0 #[.val (.ref r0), .val (.ref r1), .val (.int (0 : Int32)), .val (.int (0 : Int32)), .val .null, .unset] [])) _
    refine XS.aloadN X0.here hx rfl (hb hby d4_0) rfl rfl ?_
    show Steps p.tables e below (s₁.setTop (mkF m 1 #[.val (.ref r0), .val (.ref r1), .val (.int (0 : Int32)), .val (.int (0 : Int32)), .val .null, .unset] [(.ref r0)])) _
    refine st1 _ ?_
    show Steps p.tables e below (T1.setTop (mkF m 4 #[.val (.ref r0), .val (.ref r1), .val (.int (0 : Int32)), .val (.int (0 : Int32)), .val .null, .unset] [])) _
    refine XS.iloadN X1.here hx rfl (hb hby d4_4) rfl ?_
    show Steps p.tables e below (T1.setTop (mkF m 5 #[.val (.ref r0), .val (.ref r1), .val (.int (0 : Int32)), .val (.int (0 : Int32)), .val .null, .unset] [(.int (0 : Int32))])) _
    refine XS.ifNo X1.here hx rfl (hb hby d4_5) rfl ((if0 _ _).trans (teq (by decide : (0 : Int32) = (0 : Int32))).2) ?_
    refine XS.aloadN X1.here hx rfl (hb hby d4_8) rfl rfl ?_
    show Steps p.tables e below (T1.setTop (mkF m 9 #[.val (.ref r0), .val (.ref r1), .val (.int (0 : Int32)), .val (.int (0 : Int32)), .val .null, .unset] [(.ref r0)])) _
    refine st2 _ ?_
    show Steps p.tables e below (T2.setTop (mkF m 11 #[.val (.ref r0), .val (.ref r1), .val (.int (0 : Int32)), .val (.int (0 : Int32)), .val .null, .unset] [(.ref a2), (.ref r0)])) _
    refine st3 _ ?_
    show Steps p.tables e below (T3.setTop (mkF m 14 #[.val (.ref r0), .val (.ref r1), .val (.int (0 : Int32)), .val (.int (0 : Int32)), .val .null, .unset] [(.ref b2), (.ref r0)])) _
    refine st4 _ ?_
    show Steps p.tables e below (T4.setTop (mkF m 17 #[.val (.ref r0), .val (.ref r1), .val (.int (0 : Int32)), .val (.int (0 : Int32)), .val .null, .unset] [])) _
    refine XS.aloadN X4.here hx rfl (hb hby d4_17) rfl rfl ?_
    show Steps p.tables e below (T4.setTop (mkF m 18 #[.val (.ref r0), .val (.ref r1), .val (.int (0 : Int32)), .val (.int (0 : Int32)), .val .null, .unset] [(.ref r0)])) _
    refine ldcAgain X4 hx hZ2 hown2 (hw _ (List.mem_of_getElem? (i := 22) rfl)) Lt2 (g := (mkF m 18 #[.val (.ref r0), .val (.ref r1), .val (.int (0 : Int32)), .val (.int (0 : Int32)), .val .null, .unset] [(.ref r0)])) rfl (hb hby d4_18) _ ?_
    show Steps p.tables e below (T4.setTop (mkF m 20 #[.val (.ref r0), .val (.ref r1), .val (.int (0 : Int32)), .val (.int (0 : Int32)), .val .null, .unset] [(.ref a2), (.ref r0)])) _
    refine st5 _ ?_
    show Steps p.tables e below (T5.setTop (mkF m 23 #[.val (.ref r0), .val (.ref r1), .val (.int (0 : Int32)), .val (.int (0 : Int32)), .val .null, .unset] [(.int (0 : Int32)), (.ref r0)])) _
    refine st6 _ ?_
    show Steps p.tables e below (T6.setTop (mkF m 26 #[.val (.ref r0), .val (.ref r1), .val (.int (0 : Int32)), .val (.int (0 : Int32)), .val .null, .unset] [])) _
    exact X6.returnOut hx Bd.returns (hb hby d4_26) hr
  · show Q4_0 Z r0 r1 ka h0 n0 _ T6.heap _
    rw [e6]
    exact ⟨rfl, N6, K6, b2, _, F_coder_r0_at6, F_value_r0_at6, KA2_at6⟩
theorem ef_3_0 (m : MethodId) (x0 : Addr) (x1 : Addr) : entryFrame m #[(.ref x0), (.ref x1)] 2 = mkF m 0 #[.val (.ref x0), .val (.ref x1)] [] := by first | (simp [entryFrame, mkF, argsToLocals, Value.category]; done) | rfl
def Q3_0 (Z : State) (r0 : Addr) (r1 : Addr) (ka : ClassId) (h0 : Heap) (n0 : Nat) (v : Option Value) (h : Heap) (L : List Loc) : Prop := v = none ∧ Fr n0 L ∧ Keep h0 h [r0] ∧ ∃ (b : Addr) (kb : ClassId), Fld Z h r0 "java/lang/String" "coder" "B" (.int (0 : Int32)) ∧ Fld Z h r0 "java/lang/String" "value" "[B" (.ref b) ∧ Arv Z h b kb .byte (0 : Int32) [] (.int (0 : Int32))
set_option maxRecDepth 65536 in
set_option maxHeartbeats 40000000 in
theorem rm3_0 (l : Launch) (Z : State) (a0 : Array Value) (hw : ∀ d ∈ tables_1, d.before a0 Z = true) (ws : List Jvm.Cond) (r0 : Addr) (r1 : Addr) (ka : ClassId) (h0 : Heap) (n0 : Nat) (Z0 : n0 ≤ h0.size) (E_r0 : Exa Z h0 r0 "java/lang/String") (F_value : Fld Z h0 r0 "java/lang/String" "value" "[B" .null) (F_coder : Fld Z h0 r0 "java/lang/String" "coder" "B" (.int (0 : Int32))) (g_r0 : n0 ≤ r0) (V_r1 : Arv Z h0 r1 ka .char (0 : Int32) [] (.int (0 : Int32))) :
    MetFree l (⟨"java/lang/String", "<init>", "([C)V"⟩ : MethodName) (head1 (Jvm.Cond.code (⟨"java/lang/String", "<init>", "([C)V"⟩ : MethodName) jdk_42_method_3_code 2 none :: ws) ({ frames := 2, cells := 2, slots := 4, locals := 29 } : Room)) (fun a U => a = #[(.ref r0), (.ref r1)] ∧ Z.Warmed39 U.vm ∧ U.heap = h0 ∧ CHv Z own_EL U.vm h0) (fun _ _ _ _ _ => True) (fun _ U o U' => ∃ v L, o = .returned v ∧ Q3_0 Z r0 r1 ka h0 n0 v U'.heap L ∧ CHr Z own_EL U.vm U.heap U'.vm U'.heap ∧ ReturnedEndW U o U' L ({ frames := 2, cells := 2, slots := 4, locals := 29 } : Room).cells ({ frames := 2, cells := 2, slots := 4, locals := 29 } : Room).slots) := by
  refine MetFree.of_bodySF (plainFor_of_name pn_java_lang_String) hisR ?_
  intro p e s m args below meth c s₁ Bd hml0 hP hK
  obtain ⟨rfl, hZ, hh, hCH⟩ := hP
  have hx := Bd.exec
  have hby := Bd.bytes
  have hml : c.maxLocals = 2 := hml0
  have hown : s.vm.findClass "java/lang/String" = some m.cls := findClass_of_methodNamed Bd.named
  have hnm := (name_of_methodNamed Bd.named Bd.method).1
  have X0 : Stand p l e ({ frames := 2, cells := 2, slots := 4, locals := 29 } : Room) s m #[(.ref r0), (.ref r1)] below meth c s₁ [] 0 0 := Stand.of_body Bd
  have e0 : s₁.heap = h0 := by rw [← hh, Bd.state]; rfl
  have N0 := Fr.nil n0
  have pre0 : ∀ t, Steps p.tables e below (s₁.setTop (mkF m 0 #[.val (.ref r0), .val (.ref r1)] [])) t → Steps p.tables e below (s₁.setTop (entryFrame m #[(.ref r0), (.ref r1)] 2)) t := fun tt kt_ => castTop (ef_3_0 m r0 r1) kt_
  have CH0 : CHr Z own_EL s.vm h0 s.vm h0 := CHr.refl hCH
  have K0 : Keep h0 h0 [r0] := Keep.refl h0 [r0]
  obtain ⟨cl_4_1, Ar_4_1, -, S_4_1, M_4_1, -, -⟩ := id V_r1
  obtain ⟨_, _, ⟨T2, L2, k2, n2⟩, -, Y2, hs2, hg2, ⟨Lc2, hQ2, l2, y2, z2, hC2⟩, st2⟩ := X0.specialBackS hx (y := (⟨"java/lang/String", "<init>", "([CIILjava/lang/Void;)V"⟩ : MethodName)) rfl hown (mvT hZ (hw _ (List.mem_of_getElem? (i := 15) rfl))) (mvT hZ (hw _ (List.mem_of_getElem? (i := 16) rfl))) (mvT hZ (hw _ (List.mem_of_getElem? (i := 18) rfl))) (by decide) (backOfSH (s := s) (vm0 := s.vm) (W := 0) (rm4_0 l Z a0 hw [] r0 r1 ka h0 n0 Z0 E_r0 F_value F_coder g_r0 V_r1) hZ (hw _ (List.mem_of_getElem? (i := 18) rfl)) (hw _ (List.mem_of_getElem? (i := 11) rfl)) (by decide) (by decide) (own_EW hw) CH0.1) (g := (mkF m 6 #[.val (.ref r0), .val (.ref r1)] [.null, (.int (0 : Int32)), (.int (0 : Int32)), (.ref r1), (.ref r0)])) rfl (by rw [hml]; rfl) (Steps.refl _) (a := r0) (argsL := [(.ref r1), (.int (0 : Int32)), (.int (0 : Int32)), .null]) (rest := []) (lenOf pd_285bCIILjava2flang2fVoid3b29V rfl) rfl (by show 2 * 0 + _ ≤ _; exact Nat.le_of_eq rfl) (hb hby d3_6) (fun _ _ => ⟨rfl, e0, (by decide : 0 + 2 ≤ _), (by decide : 0 + 4 ≤ _)⟩)
  dsimp only [Pt.U, Pt.locs, Pt.cells, Pt.slots] at Y2 hs2 hg2 l2 y2 z2 st2 hQ2 hC2
  subst l2 y2 z2
  obtain ⟨X2, hS2, hZ2, hown2⟩ := rebS (s := s) (vm0 := s.vm) ((State.WarmedH.refl s).since 0) (Nat.zero_le _) Y2 hs2 hg2 hZ hown
  obtain ⟨rfl, N2q, KK2, b2, kb2, FC2, FV2, VB2⟩ := hQ2
  obtain ⟨h2, e2⟩ : ∃ z, T2.heap = z := ⟨_, rfl⟩
  rw [e2] at KK2 FC2 FV2 VB2
  have E_r0_at2 : Exa Z h2 r0 "java/lang/String" := E_r0.keep KK2
  rw [e2] at hC2
  have CH2 : CHr Z own_EL s.vm h0 T2.vm h2 := CH0.trans hC2
  have K2 : Keep h0 h2 [r0] := K0.trans KK2 (allS (Or.inl (List.mem_of_getElem? (i := 0) rfl)) all0)
  have Z2 : n0 ≤ h2.size := Nat.le_trans Z0 KK2.1
  rw [e2] at hS2
  have N2 := Fr.app N0 N2q
  have CHe : CHr Z own_EL s.vm s.heap T2.vm T2.heap := by
    have q := CH2.trans (CHv.at (s := s) X2 hZ2 (own_EW hw) CH2.1)
    rw [hh, e2]
    exact q
  obtain ⟨fs, hr, hrun, hended, rw1, rw2, rw3, rw4⟩ := X2.leaveW hS2 (by rw [e2]; exact (Nat.le_refl _)) (v := none) (fun _ => rfl)
  refine ⟨_, _, pre0 _ ?_, hrun, hended, _, _, rfl, ?_, CHe, rw1, rw2, rw3, rw4.mono (by decide) (by decide)⟩
  · show Steps p.tables e below (s₁.setTop (mkF m 0 #[.val (.ref r0), .val (.ref r1)] [])) _
    refine XS.aloadN X0.here hx rfl (hb hby d3_0) rfl rfl ?_
    refine XS.aloadN X0.here hx rfl (hb hby d3_1) rfl rfl ?_
    refine XS.iconst X0.here hx rfl (hb hby d3_2) ?_
    refine XS.aloadN X0.here hx rfl (hb hby d3_3) rfl rfl ?_
    show Steps p.tables e below (s₁.setTop (mkF m 4 #[.val (.ref r0), .val (.ref r1)] [(.ref r1), (.int (0 : Int32)), (.ref r1), (.ref r0)])) _
    refine X0.arraylength hx (by rw [e0]; exact Ar_4_1.1) (State.isArrayOf_alike hZ.alike Ar_4_1.2.1) (g := (mkF m 4 #[.val (.ref r0), .val (.ref r1)] [(.ref r1), (.int (0 : Int32)), (.ref r1), (.ref r0)])) rfl rfl (hb hby d3_4) _ ?_
    rw [len_of S_4_1 M_4_1]
    show Steps p.tables e below (s₁.setTop (mkF m 5 #[.val (.ref r0), .val (.ref r1)] [(.int (0 : Int32)), (.int (0 : Int32)), (.ref r1), (.ref r0)])) _
    refine XS.aconstNull X0.here hx rfl (hb hby d3_5) ?_
    show Steps p.tables e below (s₁.setTop (mkF m 6 #[.val (.ref r0), .val (.ref r1)] [.null, (.int (0 : Int32)), (.int (0 : Int32)), (.ref r1), (.ref r0)])) _
    refine st2.trans ?_
    show Steps p.tables e below (T2.setTop (mkF m 9 #[.val (.ref r0), .val (.ref r1)] [])) _
    exact X2.returnOut hx Bd.returns (hb hby d3_9) hr
  · show Q3_0 Z r0 r1 ka h0 n0 _ T2.heap _
    rw [e2]
    exact ⟨rfl, N2, K2, b2, _, FC2, FV2, VB2⟩
theorem ef_2_1 (m : MethodId) (x0 : Int32) (x1 : Int32) (x2 : Int32) (x3 : Int32) (x4 : Int32) : entryFrame m #[(.int x0), (.int x1), (.int x2), (.int x3), (.int x4)] 5 = mkF m 0 #[.val (.int x0), .val (.int x1), .val (.int x2), .val (.int x3), .val (.int x4)] [] := by first | (simp [entryFrame, mkF, argsToLocals, Value.category]; done) | rfl
theorem pn_com_example_commitwright_commitwright_http_HeadTrimSpacePinLaw : plainName "com/example/commitwright/commitwright/http/HeadTrimSpacePinLaw" = true := by first | (simp [plainName, overriddenIn]; done) | decide +kernel
theorem d2_0 : decode method_4_code 0 = .ok (.iload_n 0, 1) := by decide +kernel
theorem d2_1 : decode method_4_code 1 = .ok (.ifCond .ne 14, 3) := by decide +kernel
theorem d2_15 : decode method_4_code 15 = .ok (.iload_n 0, 1) := by decide +kernel
theorem d2_16 : decode method_4_code 16 = .ok (.iconst 1, 1) := by decide +kernel
theorem d2_17 : decode method_4_code 17 = .ok (.if_icmp .ne 18, 3) := by decide +kernel
theorem d2_20 : decode method_4_code 20 = .ok (.new 7, 3) := by decide +kernel
theorem d2_23 : decode method_4_code 23 = .ok (.dup, 1) := by decide +kernel
theorem d2_24 : decode method_4_code 24 = .ok (.iconst 1, 1) := by decide +kernel
theorem d2_25 : decode method_4_code 25 = .ok (.newarray .char, 2) := by decide +kernel
theorem d2_27 : decode method_4_code 27 = .ok (.dup, 1) := by decide +kernel
theorem d2_28 : decode method_4_code 28 = .ok (.iconst 0, 1) := by decide +kernel
theorem d2_29 : decode method_4_code 29 = .ok (.iload_n 1, 1) := by decide +kernel
theorem d2_30 : decode method_4_code 30 = .ok (.castore, 1) := by decide +kernel
theorem d2_31 : decode method_4_code 31 = .ok (.invokespecial 9, 3) := by decide +kernel
theorem pd_285bC29V : parseMethodDescriptor "([C)V" = some ⟨[(.array .char)], none⟩ := by decide +kernel
theorem d2_34 : decode method_4_code 34 = .ok (.areturn, 1) := by decide +kernel
def Q2_1 (Z : State) (p1 : Int32) (p2 : Int32) (p3 : Int32) (p4 : Int32) (cs : Int32) (h0 : Heap) (n0 : Nat) (v : Option Value) (h : Heap) (L : List Loc) : Prop := ∃ (r b : Addr) (kb : ClassId), v = some (.ref r) ∧ Fr n0 L ∧ Keep h0 h [] ∧ Exa Z h r "java/lang/String" ∧ Fld Z h r "java/lang/String" "coder" "B" (.int (0 : Int32)) ∧ Fld Z h r "java/lang/String" "value" "[B" (.ref b) ∧ Arv Z h b kb .byte (Int32.ofNat 1) (own_bys ([p1, p2, p3, p4].take 1)) (.int (0 : Int32))
set_option maxRecDepth 65536 in
set_option maxHeartbeats 40000000 in
theorem rm2_1 (l : Launch) (Z : State) (a0 : Array Value) (hw : ∀ d ∈ tables_1, d.before a0 Z = true) (ws : List Jvm.Cond) (p1 : Int32) (p2 : Int32) (p3 : Int32) (p4 : Int32) (cs : Int32) (h0 : Heap) (n0 : Nat) (Z0 : n0 ≤ h0.size) (O_0 : Old Z n0 h0) (S_cs : Sta Z Z.heap "java/lang/String" "COMPACT_STRINGS" "Z" (.int cs)) (hcs : ¬ (cs = (0 : Int32))) (hp1 : own_ch p1) (hp2 : own_ch p2) (hp3 : own_ch p3) (hp4 : own_ch p4) :
    MetFree l (⟨"com/example/commitwright/commitwright/http/HeadTrimSpacePinLaw", "make", "(ICCCC)Ljava/lang/String;"⟩ : MethodName) (head1 (Jvm.Cond.code (⟨"com/example/commitwright/commitwright/http/HeadTrimSpacePinLaw", "make", "(ICCCC)Ljava/lang/String;"⟩ : MethodName) method_4_code 5 (some (.object "java/lang/String")) :: ws) ({ frames := 4, cells := 3, slots := 12, locals := 66 } : Room)) (fun a U => a = #[(.int (1 : Int32)), (.int p1), (.int p2), (.int p3), (.int p4)] ∧ Z.Warmed39 U.vm ∧ U.heap = h0) (fun _ _ _ _ _ => True) (fun _ U o U' => ∃ v L, o = .returned v ∧ Q2_1 Z p1 p2 p3 p4 cs h0 n0 v U'.heap L ∧ FrameEnd U o U' L ({ frames := 4, cells := 3, slots := 12, locals := 66 } : Room).cells ({ frames := 4, cells := 3, slots := 12, locals := 66 } : Room).slots) := by
  refine MetFree.of_bodySF (plainFor_of_name pn_com_example_commitwright_commitwright_http_HeadTrimSpacePinLaw) hisR ?_
  intro p e s m args below meth c s₁ Bd hml0 hP hK
  obtain ⟨rfl, hZ, hh⟩ := hP
  have hx := Bd.exec
  have hby := Bd.bytes
  have hml : c.maxLocals = 5 := hml0
  have hown : s.vm.findClass "com/example/commitwright/commitwright/http/HeadTrimSpacePinLaw" = some m.cls := findClass_of_methodNamed Bd.named
  have hnm := (name_of_methodNamed Bd.named Bd.method).1
  have X0 : Stand p l e ({ frames := 4, cells := 3, slots := 12, locals := 66 } : Room) s m #[(.int (1 : Int32)), (.int p1), (.int p2), (.int p3), (.int p4)] below meth c s₁ [] 0 0 := Stand.of_body Bd
  have e0 : s₁.heap = h0 := by rw [← hh, Bd.state]; rfl
  have N0 := Fr.nil n0
  have pre0 : ∀ t, Steps p.tables e below (s₁.setTop (mkF m 0 #[.val (.int (1 : Int32)), .val (.int p1), .val (.int p2), .val (.int p3), .val (.int p4)] [])) t → Steps p.tables e below (s₁.setTop (entryFrame m #[(.int (1 : Int32)), (.int p1), (.int p2), (.int p3), (.int p4)] 5)) t := fun tt kt_ => castTop (ef_2_1 m (1 : Int32) p1 p2 p3 p4) kt_
  have K0 : Keep h0 h0 [] := Keep.refl h0 []
  obtain ⟨T1, h1, X1, e1, E1, A1, D1, -, st1⟩ := newO X0 hx hZ hown (hw _ (List.mem_of_getElem? (i := 9) rfl)) (hw _ (List.mem_of_getElem? (i := 10) rfl)) (hw _ (List.mem_of_getElem? (i := 11) rfl)) e0 (g := (mkF m 20 #[.val (.int (1 : Int32)), .val (.int p1), .val (.int p2), .val (.int p3), .val (.int p4)] [])) rfl (hb hby d2_20) (by decide) (by decide)
  obtain ⟨b1, g1⟩ : ∃ z, z = h0.size := ⟨_, rfl⟩
  rw [← g1] at A1 D1 st1
  have g_b1 : n0 ≤ b1 := Nat.le_trans Z0 (Nat.le_of_eq g1.symm)
  have sz_b1 : h0.size ≤ b1 := Nat.le_trans K0.1 (Nat.le_of_eq g1.symm)
  have O_0_at1 : Old Z n0 h1 := O_0.ext E1
  have K1 : Keep h0 h1 [] := K0.ext E1
  have Z1 : n0 ≤ h1.size := Nat.le_trans Z0 E1.1
  have F_value_b1_at1 : Fld Z h1 b1 "java/lang/String" "value" "[B" .null := D1 (Or.inr (hw _ (List.mem_of_getElem? (i := 24) rfl))) (ty := (.array .byte)) (by decide)
  have F_coder_b1_at1 : Fld Z h1 b1 "java/lang/String" "coder" "B" (.int (0 : Int32)) := D1 (Or.inr (hw _ (List.mem_of_getElem? (i := 25) rfl))) (ty := .byte) (by decide)
  have E_b1_at1 : Exa Z h1 b1 "java/lang/String" := A1
  obtain ⟨T2, h2, k2, X2, e2, E2, A2, st2⟩ := newP X1 hx hZ (hw _ (List.mem_of_getElem? (i := 5) rfl)) e1 (g := (mkF m 25 #[.val (.int (1 : Int32)), .val (.int p1), .val (.int p2), .val (.int p3), .val (.int p4)] [(.int (1 : Int32)), (.ref b1), (.ref b1)])) rfl (hb hby d2_25) rfl (by decide) (cap := 1) (by decide) (by decide) (by decide) (by decide)
  obtain ⟨b2, g2⟩ : ∃ z, z = h1.size := ⟨_, rfl⟩
  rw [← g2] at A2 st2
  have g_b2 : n0 ≤ b2 := Nat.le_trans Z1 (Nat.le_of_eq g2.symm)
  have sz_b2 : h0.size ≤ b2 := Nat.le_trans K1.1 (Nat.le_of_eq g2.symm)
  have ne_b1_b2 : b1 ≠ b2 := Nat.ne_of_lt (Nat.lt_of_lt_of_le F_value_b1_at1.lt (Nat.le_of_eq g2.symm))
  have O_0_at2 : Old Z n0 h2 := O_0_at1.ext E2
  have F_value_b1_at2 : Fld Z h2 b1 "java/lang/String" "value" "[B" .null := F_value_b1_at1.ext E2
  have F_coder_b1_at2 : Fld Z h2 b1 "java/lang/String" "coder" "B" (.int (0 : Int32)) := F_coder_b1_at1.ext E2
  have E_b1_at2 : Exa Z h2 b1 "java/lang/String" := E_b1_at1.ext E2
  have K2 : Keep h0 h2 [] := K1.ext E2
  have Z2 : n0 ≤ h2.size := Nat.le_trans Z1 E2.1
  have xV_b2_at2 := (Arv.new A2 (by decide)).pad (pad_rep [] (.int (0 : Int32)) 1)
  have V_b2_at2 : Arv Z h2 b2 k2 .char (1 : Int32) [(.int (0 : Int32))] (.int (0 : Int32)) := xV_b2_at2
  obtain ⟨cl_30_3, Ar_30_3, q_30_3, S_30_3, N_30_3, H_30_3, G_30_3⟩ := id V_b2_at2
  have hin30_3 : ¬ ((0 : Int32) < 0 ∨ cl_30_3.slots.size ≤ ((0 : Int32)).toNatClampNeg) := inb_of S_30_3 ⟨by decide, by decide⟩
  obtain ⟨T4, h4, X4, e4, W4, st4⟩ := stC X2 hx hZ e2 Ar_30_3 (j := (0 : Int32)) hin30_3 (g := (mkF m 30 #[.val (.int (1 : Int32)), .val (.int p1), .val (.int p2), .val (.int p3), .val (.int p4)] [(.int p1), (.int (0 : Int32)), (.ref b2), (.ref b2), (.ref b1), (.ref b1)])) rfl rfl (hb hby d2_30)
  rw [own_cc hp1] at W4
  have O_0_at4 : Old Z n0 h4 := O_0_at2.wr W4 g_b2
  have F_value_b1_at4 : Fld Z h4 b1 "java/lang/String" "value" "[B" .null := F_value_b1_at2.other W4 (Or.inl ne_b1_b2)
  have F_coder_b1_at4 : Fld Z h4 b1 "java/lang/String" "coder" "B" (.int (0 : Int32)) := F_coder_b1_at2.other W4 (Or.inl ne_b1_b2)
  have E_b1_at4 : Exa Z h4 b1 "java/lang/String" := E_b1_at2.wr W4
  have xV_b2_at4 := Arv.set Ar_30_3 q_30_3 S_30_3 N_30_3 H_30_3 G_30_3 (own_fc hp1) W4 0 rfl (Nat.le_of_ble_eq_true rfl)
  have V_b2_at4 : Arv Z h4 b2 k2 .char (1 : Int32) [(.int p1)] (.int (0 : Int32)) := xV_b2_at4
  have K4 : Keep h0 h4 [] := K2.wr W4 (Or.inr sz_b2)
  have Z4 : n0 ≤ h4.size := Nat.le_trans Z2 (Keep.of_wr W4).1
  have N4 := Fr.snoc X4 N0 g_b2
  obtain ⟨_, _, ⟨T5, L5, k5, n5⟩, -, X5, ⟨Lc5, hQ5, l5, y5, z5⟩, st5⟩ := X4.specialBack hx (y := (⟨"java/lang/String", "<init>", "([C)V"⟩ : MethodName)) rfl hown (mvT hZ (hw _ (List.mem_of_getElem? (i := 12) rfl))) (mvT hZ (hw _ (List.mem_of_getElem? (i := 13) rfl))) (mvT hZ (hw _ (List.mem_of_getElem? (i := 14) rfl))) (by decide) (backOf (W := 1) (rm3_1 l Z a0 hw [] b1 b2 k2 p1 cs h4 n0 Z4 E_b1_at4 F_value_b1_at4 F_coder_b1_at4 g_b1 V_b2_at4 ne_b1_b2 O_0_at4 S_cs hcs hp1) hZ (hw _ (List.mem_of_getElem? (i := 14) rfl)) (hw _ (List.mem_of_getElem? (i := 11) rfl)) (by decide) (by decide)) (g := (mkF m 31 #[.val (.int (1 : Int32)), .val (.int p1), .val (.int p2), .val (.int p3), .val (.int p4)] [(.ref b2), (.ref b1), (.ref b1)])) rfl (by rw [hml]; rfl) (Steps.refl _) (a := b1) (argsL := [(.ref b2)]) (rest := [(.ref b1)]) (lenOf pd_285bC29V rfl) rfl (by show 2 * 0 + _ ≤ _; exact Nat.le_of_eq rfl) (hb hby d2_31) (fun _ _ => ⟨rfl, e4, (by decide : 2 + 1 ≤ _), (by decide : 5 + 1 ≤ _)⟩)
  dsimp only [Pt.U, Pt.locs, Pt.cells, Pt.slots] at X5 l5 y5 z5 st5 hQ5
  subst l5 y5 z5
  obtain ⟨rfl, N5q, KK5, b5, kb5, gb5, FC5, FV5, VB5⟩ := hQ5
  obtain ⟨h5, e5⟩ : ∃ z, T5.heap = z := ⟨_, rfl⟩
  rw [e5] at KK5 FC5 FV5 VB5
  have O_0_at5 : Old Z n0 h5 := O_0_at4.keep KK5 (allS g_b1 all0)
  have E_b1_at5 : Exa Z h5 b1 "java/lang/String" := E_b1_at4.keep KK5
  have V_b2_at5 : Arv Z h5 b2 k2 .char (1 : Int32) [(.int p1)] (.int (0 : Int32)) := V_b2_at4.keep KK5 (ninS (Ne.symm ne_b1_b2) nin0)
  have K5 : Keep h0 h5 [] := K4.trans KK5 (allS (Or.inr sz_b1) all0)
  have Z5 : n0 ≤ h5.size := Nat.le_trans Z4 KK5.1
  have ne_b1_b5 : b1 ≠ b5 := Nat.ne_of_lt (Nat.lt_of_lt_of_le F_value_b1_at4.lt gb5)
  have ne_b2_b5 : b2 ≠ b5 := Nat.ne_of_lt (Nat.lt_of_lt_of_le V_b2_at4.lt gb5)
  have g_b5 : n0 ≤ b5 := Nat.le_trans Z4 gb5
  have sz_b5 : h0.size ≤ b5 := Nat.le_trans K4.1 gb5
  have N5 := Fr.app N4 N5q
  obtain ⟨fs, hr, hrun, hended, hW, hsame⟩ := X5.leave (v := some (.ref b1)) (fun h => by rw [Bd.returns] at h; cases h)
  refine ⟨_, _, pre0 _ ?_, hrun, hended, _, _, rfl, ?_, ⟨_, rfl⟩, hW, hsame.mono (by decide) (by decide)⟩
  · show Steps p.tables e below (s₁.setTop (mkF m 0 #[.val (.int (1 : Int32)), .val (.int p1), .val (.int p2), .val (.int p3), .val (.int p4)] [])) _
    refine XS.iloadN X0.here hx rfl (hb hby d2_0) rfl ?_
    show Steps p.tables e below (s₁.setTop (mkF m 1 #[.val (.int (1 : Int32)), .val (.int p1), .val (.int p2), .val (.int p3), .val (.int p4)] [(.int (1 : Int32))])) _
    refine XS.ifYes X0.here hx rfl (pc0 := 1) (pc' := 15) rfl (hb hby d2_1) rfl ((if0 _ _).trans (feq (by decide : ¬ ((1 : Int32) = (0 : Int32)))).2) (by decide) (by decide) ?_
    refine XS.iloadN X0.here hx rfl (hb hby d2_15) rfl ?_
    refine XS.iconst X0.here hx rfl (hb hby d2_16) ?_
    show Steps p.tables e below (s₁.setTop (mkF m 17 #[.val (.int (1 : Int32)), .val (.int p1), .val (.int p2), .val (.int p3), .val (.int p4)] [(.int (1 : Int32)), (.int (1 : Int32))])) _
    refine XS.icmpNo X0.here hx rfl (hb hby d2_17) rfl (teq (by decide : (1 : Int32) = (1 : Int32))).2 ?_
    show Steps p.tables e below (s₁.setTop (mkF m 20 #[.val (.int (1 : Int32)), .val (.int p1), .val (.int p2), .val (.int p3), .val (.int p4)] [])) _
    refine st1 _ ?_
    show Steps p.tables e below (T1.setTop (mkF m 23 #[.val (.int (1 : Int32)), .val (.int p1), .val (.int p2), .val (.int p3), .val (.int p4)] [(.ref b1)])) _
    refine XS.dup X1.here hx rfl (hb hby d2_23) rfl rfl ?_
    refine XS.iconst X1.here hx rfl (hb hby d2_24) ?_
    show Steps p.tables e below (T1.setTop (mkF m 25 #[.val (.int (1 : Int32)), .val (.int p1), .val (.int p2), .val (.int p3), .val (.int p4)] [(.int (1 : Int32)), (.ref b1), (.ref b1)])) _
    refine st2 _ ?_
    show Steps p.tables e below (T2.setTop (mkF m 27 #[.val (.int (1 : Int32)), .val (.int p1), .val (.int p2), .val (.int p3), .val (.int p4)] [(.ref b2), (.ref b1), (.ref b1)])) _
    refine XS.dup X2.here hx rfl (hb hby d2_27) rfl rfl ?_
    refine XS.iconst X2.here hx rfl (hb hby d2_28) ?_
    refine XS.iloadN X2.here hx rfl (hb hby d2_29) rfl ?_
    show Steps p.tables e below (T2.setTop (mkF m 30 #[.val (.int (1 : Int32)), .val (.int p1), .val (.int p2), .val (.int p3), .val (.int p4)] [(.int p1), (.int (0 : Int32)), (.ref b2), (.ref b2), (.ref b1), (.ref b1)])) _
    refine st4 _ ?_
    show Steps p.tables e below (T4.setTop (mkF m 31 #[.val (.int (1 : Int32)), .val (.int p1), .val (.int p2), .val (.int p3), .val (.int p4)] [(.ref b2), (.ref b1), (.ref b1)])) _
    refine st5.trans ?_
    show Steps p.tables e below (T5.setTop (mkF m 34 #[.val (.int (1 : Int32)), .val (.int p1), .val (.int p2), .val (.int p3), .val (.int p4)] [(.ref b1)])) _
    jvm_step X5.here [X5.here.top, hx, (hb hby d2_34), X5.method', Bd.returns, Value.isRef, FieldType.isReference]
    first | (intro acts; rw [hr _ acts rfl rfl rfl]) | rw [hr _ _ rfl rfl rfl]
    exact Steps.refl _
  · show Q2_1 Z p1 p2 p3 p4 cs h0 n0 _ T5.heap _
    rw [e5]
    exact ⟨b1, b5, _, rfl, N5, K5, E_b1_at5, FC5, FV5, VB5⟩
theorem ef_2_2 (m : MethodId) (x0 : Int32) (x1 : Int32) (x2 : Int32) (x3 : Int32) (x4 : Int32) : entryFrame m #[(.int x0), (.int x1), (.int x2), (.int x3), (.int x4)] 5 = mkF m 0 #[.val (.int x0), .val (.int x1), .val (.int x2), .val (.int x3), .val (.int x4)] [] := by first | (simp [entryFrame, mkF, argsToLocals, Value.category]; done) | rfl
theorem d2_35 : decode method_4_code 35 = .ok (.iload_n 0, 1) := by decide +kernel
theorem d2_36 : decode method_4_code 36 = .ok (.iconst 2, 1) := by decide +kernel
theorem d2_37 : decode method_4_code 37 = .ok (.if_icmp .ne 22, 3) := by decide +kernel
theorem d2_40 : decode method_4_code 40 = .ok (.new 7, 3) := by decide +kernel
theorem d2_43 : decode method_4_code 43 = .ok (.dup, 1) := by decide +kernel
theorem d2_44 : decode method_4_code 44 = .ok (.iconst 2, 1) := by decide +kernel
theorem d2_45 : decode method_4_code 45 = .ok (.newarray .char, 2) := by decide +kernel
theorem d2_47 : decode method_4_code 47 = .ok (.dup, 1) := by decide +kernel
theorem d2_48 : decode method_4_code 48 = .ok (.iconst 0, 1) := by decide +kernel
theorem d2_49 : decode method_4_code 49 = .ok (.iload_n 1, 1) := by decide +kernel
theorem d2_50 : decode method_4_code 50 = .ok (.castore, 1) := by decide +kernel
theorem d2_51 : decode method_4_code 51 = .ok (.dup, 1) := by decide +kernel
theorem d2_52 : decode method_4_code 52 = .ok (.iconst 1, 1) := by decide +kernel
theorem d2_53 : decode method_4_code 53 = .ok (.iload_n 2, 1) := by decide +kernel
theorem d2_54 : decode method_4_code 54 = .ok (.castore, 1) := by decide +kernel
theorem d2_55 : decode method_4_code 55 = .ok (.invokespecial 9, 3) := by decide +kernel
theorem d2_58 : decode method_4_code 58 = .ok (.areturn, 1) := by decide +kernel
def Q2_2 (Z : State) (p1 : Int32) (p2 : Int32) (p3 : Int32) (p4 : Int32) (cs : Int32) (h0 : Heap) (n0 : Nat) (v : Option Value) (h : Heap) (L : List Loc) : Prop := ∃ (r b : Addr) (kb : ClassId), v = some (.ref r) ∧ Fr n0 L ∧ Keep h0 h [] ∧ Exa Z h r "java/lang/String" ∧ Fld Z h r "java/lang/String" "coder" "B" (.int (0 : Int32)) ∧ Fld Z h r "java/lang/String" "value" "[B" (.ref b) ∧ Arv Z h b kb .byte (Int32.ofNat 2) (own_bys ([p1, p2, p3, p4].take 2)) (.int (0 : Int32))
set_option maxRecDepth 65536 in
set_option maxHeartbeats 40000000 in
theorem rm2_2 (l : Launch) (Z : State) (a0 : Array Value) (hw : ∀ d ∈ tables_1, d.before a0 Z = true) (ws : List Jvm.Cond) (p1 : Int32) (p2 : Int32) (p3 : Int32) (p4 : Int32) (cs : Int32) (h0 : Heap) (n0 : Nat) (Z0 : n0 ≤ h0.size) (O_0 : Old Z n0 h0) (S_cs : Sta Z Z.heap "java/lang/String" "COMPACT_STRINGS" "Z" (.int cs)) (hcs : ¬ (cs = (0 : Int32))) (hp1 : own_ch p1) (hp2 : own_ch p2) (hp3 : own_ch p3) (hp4 : own_ch p4) :
    MetFree l (⟨"com/example/commitwright/commitwright/http/HeadTrimSpacePinLaw", "make", "(ICCCC)Ljava/lang/String;"⟩ : MethodName) (head1 (Jvm.Cond.code (⟨"com/example/commitwright/commitwright/http/HeadTrimSpacePinLaw", "make", "(ICCCC)Ljava/lang/String;"⟩ : MethodName) method_4_code 5 (some (.object "java/lang/String")) :: ws) ({ frames := 4, cells := 3, slots := 12, locals := 66 } : Room)) (fun a U => a = #[(.int (2 : Int32)), (.int p1), (.int p2), (.int p3), (.int p4)] ∧ Z.Warmed39 U.vm ∧ U.heap = h0) (fun _ _ _ _ _ => True) (fun _ U o U' => ∃ v L, o = .returned v ∧ Q2_2 Z p1 p2 p3 p4 cs h0 n0 v U'.heap L ∧ FrameEnd U o U' L ({ frames := 4, cells := 3, slots := 12, locals := 66 } : Room).cells ({ frames := 4, cells := 3, slots := 12, locals := 66 } : Room).slots) := by
  refine MetFree.of_bodySF (plainFor_of_name pn_com_example_commitwright_commitwright_http_HeadTrimSpacePinLaw) hisR ?_
  intro p e s m args below meth c s₁ Bd hml0 hP hK
  obtain ⟨rfl, hZ, hh⟩ := hP
  have hx := Bd.exec
  have hby := Bd.bytes
  have hml : c.maxLocals = 5 := hml0
  have hown : s.vm.findClass "com/example/commitwright/commitwright/http/HeadTrimSpacePinLaw" = some m.cls := findClass_of_methodNamed Bd.named
  have hnm := (name_of_methodNamed Bd.named Bd.method).1
  have X0 : Stand p l e ({ frames := 4, cells := 3, slots := 12, locals := 66 } : Room) s m #[(.int (2 : Int32)), (.int p1), (.int p2), (.int p3), (.int p4)] below meth c s₁ [] 0 0 := Stand.of_body Bd
  have e0 : s₁.heap = h0 := by rw [← hh, Bd.state]; rfl
  have N0 := Fr.nil n0
  have pre0 : ∀ t, Steps p.tables e below (s₁.setTop (mkF m 0 #[.val (.int (2 : Int32)), .val (.int p1), .val (.int p2), .val (.int p3), .val (.int p4)] [])) t → Steps p.tables e below (s₁.setTop (entryFrame m #[(.int (2 : Int32)), (.int p1), (.int p2), (.int p3), (.int p4)] 5)) t := fun tt kt_ => castTop (ef_2_2 m (2 : Int32) p1 p2 p3 p4) kt_
  have K0 : Keep h0 h0 [] := Keep.refl h0 []
  obtain ⟨T1, h1, X1, e1, E1, A1, D1, -, st1⟩ := newO X0 hx hZ hown (hw _ (List.mem_of_getElem? (i := 9) rfl)) (hw _ (List.mem_of_getElem? (i := 10) rfl)) (hw _ (List.mem_of_getElem? (i := 11) rfl)) e0 (g := (mkF m 40 #[.val (.int (2 : Int32)), .val (.int p1), .val (.int p2), .val (.int p3), .val (.int p4)] [])) rfl (hb hby d2_40) (by decide) (by decide)
  obtain ⟨b1, g1⟩ : ∃ z, z = h0.size := ⟨_, rfl⟩
  rw [← g1] at A1 D1 st1
  have g_b1 : n0 ≤ b1 := Nat.le_trans Z0 (Nat.le_of_eq g1.symm)
  have sz_b1 : h0.size ≤ b1 := Nat.le_trans K0.1 (Nat.le_of_eq g1.symm)
  have O_0_at1 : Old Z n0 h1 := O_0.ext E1
  have K1 : Keep h0 h1 [] := K0.ext E1
  have Z1 : n0 ≤ h1.size := Nat.le_trans Z0 E1.1
  have F_value_b1_at1 : Fld Z h1 b1 "java/lang/String" "value" "[B" .null := D1 (Or.inr (hw _ (List.mem_of_getElem? (i := 24) rfl))) (ty := (.array .byte)) (by decide)
  have F_coder_b1_at1 : Fld Z h1 b1 "java/lang/String" "coder" "B" (.int (0 : Int32)) := D1 (Or.inr (hw _ (List.mem_of_getElem? (i := 25) rfl))) (ty := .byte) (by decide)
  have E_b1_at1 : Exa Z h1 b1 "java/lang/String" := A1
  obtain ⟨T2, h2, k2, X2, e2, E2, A2, st2⟩ := newP X1 hx hZ (hw _ (List.mem_of_getElem? (i := 5) rfl)) e1 (g := (mkF m 45 #[.val (.int (2 : Int32)), .val (.int p1), .val (.int p2), .val (.int p3), .val (.int p4)] [(.int (2 : Int32)), (.ref b1), (.ref b1)])) rfl (hb hby d2_45) rfl (by decide) (cap := 2) (by decide) (by decide) (by decide) (by decide)
  obtain ⟨b2, g2⟩ : ∃ z, z = h1.size := ⟨_, rfl⟩
  rw [← g2] at A2 st2
  have g_b2 : n0 ≤ b2 := Nat.le_trans Z1 (Nat.le_of_eq g2.symm)
  have sz_b2 : h0.size ≤ b2 := Nat.le_trans K1.1 (Nat.le_of_eq g2.symm)
  have ne_b1_b2 : b1 ≠ b2 := Nat.ne_of_lt (Nat.lt_of_lt_of_le F_value_b1_at1.lt (Nat.le_of_eq g2.symm))
  have O_0_at2 : Old Z n0 h2 := O_0_at1.ext E2
  have F_value_b1_at2 : Fld Z h2 b1 "java/lang/String" "value" "[B" .null := F_value_b1_at1.ext E2
  have F_coder_b1_at2 : Fld Z h2 b1 "java/lang/String" "coder" "B" (.int (0 : Int32)) := F_coder_b1_at1.ext E2
  have E_b1_at2 : Exa Z h2 b1 "java/lang/String" := E_b1_at1.ext E2
  have K2 : Keep h0 h2 [] := K1.ext E2
  have Z2 : n0 ≤ h2.size := Nat.le_trans Z1 E2.1
  have xV_b2_at2 := (Arv.new A2 (by decide)).pad (pad_rep [] (.int (0 : Int32)) 2)
  have V_b2_at2 : Arv Z h2 b2 k2 .char (2 : Int32) [(.int (0 : Int32)), (.int (0 : Int32))] (.int (0 : Int32)) := xV_b2_at2
  obtain ⟨cl_50_3, Ar_50_3, q_50_3, S_50_3, N_50_3, H_50_3, G_50_3⟩ := id V_b2_at2
  have hin50_3 : ¬ ((0 : Int32) < 0 ∨ cl_50_3.slots.size ≤ ((0 : Int32)).toNatClampNeg) := inb_of S_50_3 ⟨by decide, by decide⟩
  obtain ⟨T4, h4, X4, e4, W4, st4⟩ := stC X2 hx hZ e2 Ar_50_3 (j := (0 : Int32)) hin50_3 (g := (mkF m 50 #[.val (.int (2 : Int32)), .val (.int p1), .val (.int p2), .val (.int p3), .val (.int p4)] [(.int p1), (.int (0 : Int32)), (.ref b2), (.ref b2), (.ref b1), (.ref b1)])) rfl rfl (hb hby d2_50)
  rw [own_cc hp1] at W4
  have O_0_at4 : Old Z n0 h4 := O_0_at2.wr W4 g_b2
  have F_value_b1_at4 : Fld Z h4 b1 "java/lang/String" "value" "[B" .null := F_value_b1_at2.other W4 (Or.inl ne_b1_b2)
  have F_coder_b1_at4 : Fld Z h4 b1 "java/lang/String" "coder" "B" (.int (0 : Int32)) := F_coder_b1_at2.other W4 (Or.inl ne_b1_b2)
  have E_b1_at4 : Exa Z h4 b1 "java/lang/String" := E_b1_at2.wr W4
  have xV_b2_at4 := Arv.set Ar_50_3 q_50_3 S_50_3 N_50_3 H_50_3 G_50_3 (own_fc hp1) W4 0 rfl (Nat.le_of_ble_eq_true rfl)
  have V_b2_at4 : Arv Z h4 b2 k2 .char (2 : Int32) [(.int p1), (.int (0 : Int32))] (.int (0 : Int32)) := xV_b2_at4
  have K4 : Keep h0 h4 [] := K2.wr W4 (Or.inr sz_b2)
  have Z4 : n0 ≤ h4.size := Nat.le_trans Z2 (Keep.of_wr W4).1
  have N4 := Fr.snoc X4 N0 g_b2
  obtain ⟨cl_54_5, Ar_54_5, q_54_5, S_54_5, N_54_5, H_54_5, G_54_5⟩ := id V_b2_at4
  have hin54_5 : ¬ ((1 : Int32) < 0 ∨ cl_54_5.slots.size ≤ ((1 : Int32)).toNatClampNeg) := inb_of S_54_5 ⟨by decide, by decide⟩
  obtain ⟨T6, h6, X6, e6, W6, st6⟩ := stC X4 hx hZ e4 Ar_54_5 (j := (1 : Int32)) hin54_5 (g := (mkF m 54 #[.val (.int (2 : Int32)), .val (.int p1), .val (.int p2), .val (.int p3), .val (.int p4)] [(.int p2), (.int (1 : Int32)), (.ref b2), (.ref b2), (.ref b1), (.ref b1)])) rfl rfl (hb hby d2_54)
  rw [own_cc hp2] at W6
  have O_0_at6 : Old Z n0 h6 := O_0_at4.wr W6 g_b2
  have F_value_b1_at6 : Fld Z h6 b1 "java/lang/String" "value" "[B" .null := F_value_b1_at4.other W6 (Or.inl ne_b1_b2)
  have F_coder_b1_at6 : Fld Z h6 b1 "java/lang/String" "coder" "B" (.int (0 : Int32)) := F_coder_b1_at4.other W6 (Or.inl ne_b1_b2)
  have E_b1_at6 : Exa Z h6 b1 "java/lang/String" := E_b1_at4.wr W6
  have xV_b2_at6 := Arv.set Ar_54_5 q_54_5 S_54_5 N_54_5 H_54_5 G_54_5 (own_fc hp2) W6 1 rfl (Nat.le_of_ble_eq_true rfl)
  have V_b2_at6 : Arv Z h6 b2 k2 .char (2 : Int32) [(.int p1), (.int p2)] (.int (0 : Int32)) := xV_b2_at6
  have K6 : Keep h0 h6 [] := K4.wr W6 (Or.inr sz_b2)
  have Z6 : n0 ≤ h6.size := Nat.le_trans Z4 (Keep.of_wr W6).1
  have N6 := Fr.snoc X6 N4 g_b2
  obtain ⟨_, _, ⟨T7, L7, k7, n7⟩, -, X7, ⟨Lc7, hQ7, l7, y7, z7⟩, st7⟩ := X6.specialBack hx (y := (⟨"java/lang/String", "<init>", "([C)V"⟩ : MethodName)) rfl hown (mvT hZ (hw _ (List.mem_of_getElem? (i := 12) rfl))) (mvT hZ (hw _ (List.mem_of_getElem? (i := 13) rfl))) (mvT hZ (hw _ (List.mem_of_getElem? (i := 14) rfl))) (by decide) (backOf (W := 1) (rm3_2 l Z a0 hw [] b1 b2 k2 p1 p2 cs h6 n0 Z6 E_b1_at6 F_value_b1_at6 F_coder_b1_at6 g_b1 V_b2_at6 ne_b1_b2 O_0_at6 S_cs hcs hp1 hp2) hZ (hw _ (List.mem_of_getElem? (i := 14) rfl)) (hw _ (List.mem_of_getElem? (i := 11) rfl)) (by decide) (by decide)) (g := (mkF m 55 #[.val (.int (2 : Int32)), .val (.int p1), .val (.int p2), .val (.int p3), .val (.int p4)] [(.ref b2), (.ref b1), (.ref b1)])) rfl (by rw [hml]; rfl) (Steps.refl _) (a := b1) (argsL := [(.ref b2)]) (rest := [(.ref b1)]) (lenOf pd_285bC29V rfl) rfl (by show 2 * 0 + _ ≤ _; exact Nat.le_of_eq rfl) (hb hby d2_55) (fun _ _ => ⟨rfl, e6, (by decide : 2 + 1 ≤ _), (by decide : 6 + 2 ≤ _)⟩)
  dsimp only [Pt.U, Pt.locs, Pt.cells, Pt.slots] at X7 l7 y7 z7 st7 hQ7
  subst l7 y7 z7
  obtain ⟨rfl, N7q, KK7, b7, kb7, gb7, FC7, FV7, VB7⟩ := hQ7
  obtain ⟨h7, e7⟩ : ∃ z, T7.heap = z := ⟨_, rfl⟩
  rw [e7] at KK7 FC7 FV7 VB7
  have O_0_at7 : Old Z n0 h7 := O_0_at6.keep KK7 (allS g_b1 all0)
  have E_b1_at7 : Exa Z h7 b1 "java/lang/String" := E_b1_at6.keep KK7
  have V_b2_at7 : Arv Z h7 b2 k2 .char (2 : Int32) [(.int p1), (.int p2)] (.int (0 : Int32)) := V_b2_at6.keep KK7 (ninS (Ne.symm ne_b1_b2) nin0)
  have K7 : Keep h0 h7 [] := K6.trans KK7 (allS (Or.inr sz_b1) all0)
  have Z7 : n0 ≤ h7.size := Nat.le_trans Z6 KK7.1
  have ne_b1_b7 : b1 ≠ b7 := Nat.ne_of_lt (Nat.lt_of_lt_of_le F_value_b1_at6.lt gb7)
  have ne_b2_b7 : b2 ≠ b7 := Nat.ne_of_lt (Nat.lt_of_lt_of_le V_b2_at6.lt gb7)
  have g_b7 : n0 ≤ b7 := Nat.le_trans Z6 gb7
  have sz_b7 : h0.size ≤ b7 := Nat.le_trans K6.1 gb7
  have N7 := Fr.app N6 N7q
  obtain ⟨fs, hr, hrun, hended, hW, hsame⟩ := X7.leave (v := some (.ref b1)) (fun h => by rw [Bd.returns] at h; cases h)
  refine ⟨_, _, pre0 _ ?_, hrun, hended, _, _, rfl, ?_, ⟨_, rfl⟩, hW, hsame.mono (by decide) (by decide)⟩
  · show Steps p.tables e below (s₁.setTop (mkF m 0 #[.val (.int (2 : Int32)), .val (.int p1), .val (.int p2), .val (.int p3), .val (.int p4)] [])) _
    refine XS.iloadN X0.here hx rfl (hb hby d2_0) rfl ?_
    show Steps p.tables e below (s₁.setTop (mkF m 1 #[.val (.int (2 : Int32)), .val (.int p1), .val (.int p2), .val (.int p3), .val (.int p4)] [(.int (2 : Int32))])) _
    refine XS.ifYes X0.here hx rfl (pc0 := 1) (pc' := 15) rfl (hb hby d2_1) rfl ((if0 _ _).trans (feq (by decide : ¬ ((2 : Int32) = (0 : Int32)))).2) (by decide) (by decide) ?_
    refine XS.iloadN X0.here hx rfl (hb hby d2_15) rfl ?_
    refine XS.iconst X0.here hx rfl (hb hby d2_16) ?_
    show Steps p.tables e below (s₁.setTop (mkF m 17 #[.val (.int (2 : Int32)), .val (.int p1), .val (.int p2), .val (.int p3), .val (.int p4)] [(.int (1 : Int32)), (.int (2 : Int32))])) _
    refine XS.icmpYes X0.here hx rfl (pc0 := 17) (pc' := 35) rfl (hb hby d2_17) rfl (feq (by decide : ¬ ((2 : Int32) = (1 : Int32)))).2 (by decide) (by decide) ?_
    refine XS.iloadN X0.here hx rfl (hb hby d2_35) rfl ?_
    refine XS.iconst X0.here hx rfl (hb hby d2_36) ?_
    show Steps p.tables e below (s₁.setTop (mkF m 37 #[.val (.int (2 : Int32)), .val (.int p1), .val (.int p2), .val (.int p3), .val (.int p4)] [(.int (2 : Int32)), (.int (2 : Int32))])) _
    refine XS.icmpNo X0.here hx rfl (hb hby d2_37) rfl (teq (by decide : (2 : Int32) = (2 : Int32))).2 ?_
    show Steps p.tables e below (s₁.setTop (mkF m 40 #[.val (.int (2 : Int32)), .val (.int p1), .val (.int p2), .val (.int p3), .val (.int p4)] [])) _
    refine st1 _ ?_
    show Steps p.tables e below (T1.setTop (mkF m 43 #[.val (.int (2 : Int32)), .val (.int p1), .val (.int p2), .val (.int p3), .val (.int p4)] [(.ref b1)])) _
    refine XS.dup X1.here hx rfl (hb hby d2_43) rfl rfl ?_
    refine XS.iconst X1.here hx rfl (hb hby d2_44) ?_
    show Steps p.tables e below (T1.setTop (mkF m 45 #[.val (.int (2 : Int32)), .val (.int p1), .val (.int p2), .val (.int p3), .val (.int p4)] [(.int (2 : Int32)), (.ref b1), (.ref b1)])) _
    refine st2 _ ?_
    show Steps p.tables e below (T2.setTop (mkF m 47 #[.val (.int (2 : Int32)), .val (.int p1), .val (.int p2), .val (.int p3), .val (.int p4)] [(.ref b2), (.ref b1), (.ref b1)])) _
    refine XS.dup X2.here hx rfl (hb hby d2_47) rfl rfl ?_
    refine XS.iconst X2.here hx rfl (hb hby d2_48) ?_
    refine XS.iloadN X2.here hx rfl (hb hby d2_49) rfl ?_
    show Steps p.tables e below (T2.setTop (mkF m 50 #[.val (.int (2 : Int32)), .val (.int p1), .val (.int p2), .val (.int p3), .val (.int p4)] [(.int p1), (.int (0 : Int32)), (.ref b2), (.ref b2), (.ref b1), (.ref b1)])) _
    refine st4 _ ?_
    show Steps p.tables e below (T4.setTop (mkF m 51 #[.val (.int (2 : Int32)), .val (.int p1), .val (.int p2), .val (.int p3), .val (.int p4)] [(.ref b2), (.ref b1), (.ref b1)])) _
    refine XS.dup X4.here hx rfl (hb hby d2_51) rfl rfl ?_
    refine XS.iconst X4.here hx rfl (hb hby d2_52) ?_
    refine XS.iloadN X4.here hx rfl (hb hby d2_53) rfl ?_
    show Steps p.tables e below (T4.setTop (mkF m 54 #[.val (.int (2 : Int32)), .val (.int p1), .val (.int p2), .val (.int p3), .val (.int p4)] [(.int p2), (.int (1 : Int32)), (.ref b2), (.ref b2), (.ref b1), (.ref b1)])) _
    refine st6 _ ?_
    show Steps p.tables e below (T6.setTop (mkF m 55 #[.val (.int (2 : Int32)), .val (.int p1), .val (.int p2), .val (.int p3), .val (.int p4)] [(.ref b2), (.ref b1), (.ref b1)])) _
    refine st7.trans ?_
    show Steps p.tables e below (T7.setTop (mkF m 58 #[.val (.int (2 : Int32)), .val (.int p1), .val (.int p2), .val (.int p3), .val (.int p4)] [(.ref b1)])) _
    jvm_step X7.here [X7.here.top, hx, (hb hby d2_58), X7.method', Bd.returns, Value.isRef, FieldType.isReference]
    first | (intro acts; rw [hr _ acts rfl rfl rfl]) | rw [hr _ _ rfl rfl rfl]
    exact Steps.refl _
  · show Q2_2 Z p1 p2 p3 p4 cs h0 n0 _ T7.heap _
    rw [e7]
    exact ⟨b1, b7, _, rfl, N7, K7, E_b1_at7, FC7, FV7, VB7⟩
theorem ef_2_3 (m : MethodId) (x0 : Int32) (x1 : Int32) (x2 : Int32) (x3 : Int32) (x4 : Int32) : entryFrame m #[(.int x0), (.int x1), (.int x2), (.int x3), (.int x4)] 5 = mkF m 0 #[.val (.int x0), .val (.int x1), .val (.int x2), .val (.int x3), .val (.int x4)] [] := by first | (simp [entryFrame, mkF, argsToLocals, Value.category]; done) | rfl
theorem d2_59 : decode method_4_code 59 = .ok (.iload_n 0, 1) := by decide +kernel
theorem d2_60 : decode method_4_code 60 = .ok (.iconst 3, 1) := by decide +kernel
theorem d2_61 : decode method_4_code 61 = .ok (.if_icmp .ne 26, 3) := by decide +kernel
theorem d2_64 : decode method_4_code 64 = .ok (.new 7, 3) := by decide +kernel
theorem d2_67 : decode method_4_code 67 = .ok (.dup, 1) := by decide +kernel
theorem d2_68 : decode method_4_code 68 = .ok (.iconst 3, 1) := by decide +kernel
theorem d2_69 : decode method_4_code 69 = .ok (.newarray .char, 2) := by decide +kernel
theorem d2_71 : decode method_4_code 71 = .ok (.dup, 1) := by decide +kernel
theorem d2_72 : decode method_4_code 72 = .ok (.iconst 0, 1) := by decide +kernel
theorem d2_73 : decode method_4_code 73 = .ok (.iload_n 1, 1) := by decide +kernel
theorem d2_74 : decode method_4_code 74 = .ok (.castore, 1) := by decide +kernel
theorem d2_75 : decode method_4_code 75 = .ok (.dup, 1) := by decide +kernel
theorem d2_76 : decode method_4_code 76 = .ok (.iconst 1, 1) := by decide +kernel
theorem d2_77 : decode method_4_code 77 = .ok (.iload_n 2, 1) := by decide +kernel
theorem d2_78 : decode method_4_code 78 = .ok (.castore, 1) := by decide +kernel
theorem d2_79 : decode method_4_code 79 = .ok (.dup, 1) := by decide +kernel
theorem d2_80 : decode method_4_code 80 = .ok (.iconst 2, 1) := by decide +kernel
theorem d2_81 : decode method_4_code 81 = .ok (.iload_n 3, 1) := by decide +kernel
theorem d2_82 : decode method_4_code 82 = .ok (.castore, 1) := by decide +kernel
theorem d2_83 : decode method_4_code 83 = .ok (.invokespecial 9, 3) := by decide +kernel
theorem d2_86 : decode method_4_code 86 = .ok (.areturn, 1) := by decide +kernel
def Q2_3 (Z : State) (p1 : Int32) (p2 : Int32) (p3 : Int32) (p4 : Int32) (cs : Int32) (h0 : Heap) (n0 : Nat) (v : Option Value) (h : Heap) (L : List Loc) : Prop := ∃ (r b : Addr) (kb : ClassId), v = some (.ref r) ∧ Fr n0 L ∧ Keep h0 h [] ∧ Exa Z h r "java/lang/String" ∧ Fld Z h r "java/lang/String" "coder" "B" (.int (0 : Int32)) ∧ Fld Z h r "java/lang/String" "value" "[B" (.ref b) ∧ Arv Z h b kb .byte (Int32.ofNat 3) (own_bys ([p1, p2, p3, p4].take 3)) (.int (0 : Int32))
set_option maxRecDepth 65536 in
set_option maxHeartbeats 40000000 in
theorem rm2_3 (l : Launch) (Z : State) (a0 : Array Value) (hw : ∀ d ∈ tables_1, d.before a0 Z = true) (ws : List Jvm.Cond) (p1 : Int32) (p2 : Int32) (p3 : Int32) (p4 : Int32) (cs : Int32) (h0 : Heap) (n0 : Nat) (Z0 : n0 ≤ h0.size) (O_0 : Old Z n0 h0) (S_cs : Sta Z Z.heap "java/lang/String" "COMPACT_STRINGS" "Z" (.int cs)) (hcs : ¬ (cs = (0 : Int32))) (hp1 : own_ch p1) (hp2 : own_ch p2) (hp3 : own_ch p3) (hp4 : own_ch p4) :
    MetFree l (⟨"com/example/commitwright/commitwright/http/HeadTrimSpacePinLaw", "make", "(ICCCC)Ljava/lang/String;"⟩ : MethodName) (head1 (Jvm.Cond.code (⟨"com/example/commitwright/commitwright/http/HeadTrimSpacePinLaw", "make", "(ICCCC)Ljava/lang/String;"⟩ : MethodName) method_4_code 5 (some (.object "java/lang/String")) :: ws) ({ frames := 4, cells := 3, slots := 12, locals := 66 } : Room)) (fun a U => a = #[(.int (3 : Int32)), (.int p1), (.int p2), (.int p3), (.int p4)] ∧ Z.Warmed39 U.vm ∧ U.heap = h0) (fun _ _ _ _ _ => True) (fun _ U o U' => ∃ v L, o = .returned v ∧ Q2_3 Z p1 p2 p3 p4 cs h0 n0 v U'.heap L ∧ FrameEnd U o U' L ({ frames := 4, cells := 3, slots := 12, locals := 66 } : Room).cells ({ frames := 4, cells := 3, slots := 12, locals := 66 } : Room).slots) := by
  refine MetFree.of_bodySF (plainFor_of_name pn_com_example_commitwright_commitwright_http_HeadTrimSpacePinLaw) hisR ?_
  intro p e s m args below meth c s₁ Bd hml0 hP hK
  obtain ⟨rfl, hZ, hh⟩ := hP
  have hx := Bd.exec
  have hby := Bd.bytes
  have hml : c.maxLocals = 5 := hml0
  have hown : s.vm.findClass "com/example/commitwright/commitwright/http/HeadTrimSpacePinLaw" = some m.cls := findClass_of_methodNamed Bd.named
  have hnm := (name_of_methodNamed Bd.named Bd.method).1
  have X0 : Stand p l e ({ frames := 4, cells := 3, slots := 12, locals := 66 } : Room) s m #[(.int (3 : Int32)), (.int p1), (.int p2), (.int p3), (.int p4)] below meth c s₁ [] 0 0 := Stand.of_body Bd
  have e0 : s₁.heap = h0 := by rw [← hh, Bd.state]; rfl
  have N0 := Fr.nil n0
  have pre0 : ∀ t, Steps p.tables e below (s₁.setTop (mkF m 0 #[.val (.int (3 : Int32)), .val (.int p1), .val (.int p2), .val (.int p3), .val (.int p4)] [])) t → Steps p.tables e below (s₁.setTop (entryFrame m #[(.int (3 : Int32)), (.int p1), (.int p2), (.int p3), (.int p4)] 5)) t := fun tt kt_ => castTop (ef_2_3 m (3 : Int32) p1 p2 p3 p4) kt_
  have K0 : Keep h0 h0 [] := Keep.refl h0 []
  obtain ⟨T1, h1, X1, e1, E1, A1, D1, -, st1⟩ := newO X0 hx hZ hown (hw _ (List.mem_of_getElem? (i := 9) rfl)) (hw _ (List.mem_of_getElem? (i := 10) rfl)) (hw _ (List.mem_of_getElem? (i := 11) rfl)) e0 (g := (mkF m 64 #[.val (.int (3 : Int32)), .val (.int p1), .val (.int p2), .val (.int p3), .val (.int p4)] [])) rfl (hb hby d2_64) (by decide) (by decide)
  obtain ⟨b1, g1⟩ : ∃ z, z = h0.size := ⟨_, rfl⟩
  rw [← g1] at A1 D1 st1
  have g_b1 : n0 ≤ b1 := Nat.le_trans Z0 (Nat.le_of_eq g1.symm)
  have sz_b1 : h0.size ≤ b1 := Nat.le_trans K0.1 (Nat.le_of_eq g1.symm)
  have O_0_at1 : Old Z n0 h1 := O_0.ext E1
  have K1 : Keep h0 h1 [] := K0.ext E1
  have Z1 : n0 ≤ h1.size := Nat.le_trans Z0 E1.1
  have F_value_b1_at1 : Fld Z h1 b1 "java/lang/String" "value" "[B" .null := D1 (Or.inr (hw _ (List.mem_of_getElem? (i := 24) rfl))) (ty := (.array .byte)) (by decide)
  have F_coder_b1_at1 : Fld Z h1 b1 "java/lang/String" "coder" "B" (.int (0 : Int32)) := D1 (Or.inr (hw _ (List.mem_of_getElem? (i := 25) rfl))) (ty := .byte) (by decide)
  have E_b1_at1 : Exa Z h1 b1 "java/lang/String" := A1
  obtain ⟨T2, h2, k2, X2, e2, E2, A2, st2⟩ := newP X1 hx hZ (hw _ (List.mem_of_getElem? (i := 5) rfl)) e1 (g := (mkF m 69 #[.val (.int (3 : Int32)), .val (.int p1), .val (.int p2), .val (.int p3), .val (.int p4)] [(.int (3 : Int32)), (.ref b1), (.ref b1)])) rfl (hb hby d2_69) rfl (by decide) (cap := 3) (by decide) (by decide) (by decide) (by decide)
  obtain ⟨b2, g2⟩ : ∃ z, z = h1.size := ⟨_, rfl⟩
  rw [← g2] at A2 st2
  have g_b2 : n0 ≤ b2 := Nat.le_trans Z1 (Nat.le_of_eq g2.symm)
  have sz_b2 : h0.size ≤ b2 := Nat.le_trans K1.1 (Nat.le_of_eq g2.symm)
  have ne_b1_b2 : b1 ≠ b2 := Nat.ne_of_lt (Nat.lt_of_lt_of_le F_value_b1_at1.lt (Nat.le_of_eq g2.symm))
  have O_0_at2 : Old Z n0 h2 := O_0_at1.ext E2
  have F_value_b1_at2 : Fld Z h2 b1 "java/lang/String" "value" "[B" .null := F_value_b1_at1.ext E2
  have F_coder_b1_at2 : Fld Z h2 b1 "java/lang/String" "coder" "B" (.int (0 : Int32)) := F_coder_b1_at1.ext E2
  have E_b1_at2 : Exa Z h2 b1 "java/lang/String" := E_b1_at1.ext E2
  have K2 : Keep h0 h2 [] := K1.ext E2
  have Z2 : n0 ≤ h2.size := Nat.le_trans Z1 E2.1
  have xV_b2_at2 := (Arv.new A2 (by decide)).pad (pad_rep [] (.int (0 : Int32)) 3)
  have V_b2_at2 : Arv Z h2 b2 k2 .char (3 : Int32) [(.int (0 : Int32)), (.int (0 : Int32)), (.int (0 : Int32))] (.int (0 : Int32)) := xV_b2_at2
  obtain ⟨cl_74_3, Ar_74_3, q_74_3, S_74_3, N_74_3, H_74_3, G_74_3⟩ := id V_b2_at2
  have hin74_3 : ¬ ((0 : Int32) < 0 ∨ cl_74_3.slots.size ≤ ((0 : Int32)).toNatClampNeg) := inb_of S_74_3 ⟨by decide, by decide⟩
  obtain ⟨T4, h4, X4, e4, W4, st4⟩ := stC X2 hx hZ e2 Ar_74_3 (j := (0 : Int32)) hin74_3 (g := (mkF m 74 #[.val (.int (3 : Int32)), .val (.int p1), .val (.int p2), .val (.int p3), .val (.int p4)] [(.int p1), (.int (0 : Int32)), (.ref b2), (.ref b2), (.ref b1), (.ref b1)])) rfl rfl (hb hby d2_74)
  rw [own_cc hp1] at W4
  have O_0_at4 : Old Z n0 h4 := O_0_at2.wr W4 g_b2
  have F_value_b1_at4 : Fld Z h4 b1 "java/lang/String" "value" "[B" .null := F_value_b1_at2.other W4 (Or.inl ne_b1_b2)
  have F_coder_b1_at4 : Fld Z h4 b1 "java/lang/String" "coder" "B" (.int (0 : Int32)) := F_coder_b1_at2.other W4 (Or.inl ne_b1_b2)
  have E_b1_at4 : Exa Z h4 b1 "java/lang/String" := E_b1_at2.wr W4
  have xV_b2_at4 := Arv.set Ar_74_3 q_74_3 S_74_3 N_74_3 H_74_3 G_74_3 (own_fc hp1) W4 0 rfl (Nat.le_of_ble_eq_true rfl)
  have V_b2_at4 : Arv Z h4 b2 k2 .char (3 : Int32) [(.int p1), (.int (0 : Int32)), (.int (0 : Int32))] (.int (0 : Int32)) := xV_b2_at4
  have K4 : Keep h0 h4 [] := K2.wr W4 (Or.inr sz_b2)
  have Z4 : n0 ≤ h4.size := Nat.le_trans Z2 (Keep.of_wr W4).1
  have N4 := Fr.snoc X4 N0 g_b2
  obtain ⟨cl_78_5, Ar_78_5, q_78_5, S_78_5, N_78_5, H_78_5, G_78_5⟩ := id V_b2_at4
  have hin78_5 : ¬ ((1 : Int32) < 0 ∨ cl_78_5.slots.size ≤ ((1 : Int32)).toNatClampNeg) := inb_of S_78_5 ⟨by decide, by decide⟩
  obtain ⟨T6, h6, X6, e6, W6, st6⟩ := stC X4 hx hZ e4 Ar_78_5 (j := (1 : Int32)) hin78_5 (g := (mkF m 78 #[.val (.int (3 : Int32)), .val (.int p1), .val (.int p2), .val (.int p3), .val (.int p4)] [(.int p2), (.int (1 : Int32)), (.ref b2), (.ref b2), (.ref b1), (.ref b1)])) rfl rfl (hb hby d2_78)
  rw [own_cc hp2] at W6
  have O_0_at6 : Old Z n0 h6 := O_0_at4.wr W6 g_b2
  have F_value_b1_at6 : Fld Z h6 b1 "java/lang/String" "value" "[B" .null := F_value_b1_at4.other W6 (Or.inl ne_b1_b2)
  have F_coder_b1_at6 : Fld Z h6 b1 "java/lang/String" "coder" "B" (.int (0 : Int32)) := F_coder_b1_at4.other W6 (Or.inl ne_b1_b2)
  have E_b1_at6 : Exa Z h6 b1 "java/lang/String" := E_b1_at4.wr W6
  have xV_b2_at6 := Arv.set Ar_78_5 q_78_5 S_78_5 N_78_5 H_78_5 G_78_5 (own_fc hp2) W6 1 rfl (Nat.le_of_ble_eq_true rfl)
  have V_b2_at6 : Arv Z h6 b2 k2 .char (3 : Int32) [(.int p1), (.int p2), (.int (0 : Int32))] (.int (0 : Int32)) := xV_b2_at6
  have K6 : Keep h0 h6 [] := K4.wr W6 (Or.inr sz_b2)
  have Z6 : n0 ≤ h6.size := Nat.le_trans Z4 (Keep.of_wr W6).1
  have N6 := Fr.snoc X6 N4 g_b2
  obtain ⟨cl_82_7, Ar_82_7, q_82_7, S_82_7, N_82_7, H_82_7, G_82_7⟩ := id V_b2_at6
  have hin82_7 : ¬ ((2 : Int32) < 0 ∨ cl_82_7.slots.size ≤ ((2 : Int32)).toNatClampNeg) := inb_of S_82_7 ⟨by decide, by decide⟩
  obtain ⟨T8, h8, X8, e8, W8, st8⟩ := stC X6 hx hZ e6 Ar_82_7 (j := (2 : Int32)) hin82_7 (g := (mkF m 82 #[.val (.int (3 : Int32)), .val (.int p1), .val (.int p2), .val (.int p3), .val (.int p4)] [(.int p3), (.int (2 : Int32)), (.ref b2), (.ref b2), (.ref b1), (.ref b1)])) rfl rfl (hb hby d2_82)
  rw [own_cc hp3] at W8
  have O_0_at8 : Old Z n0 h8 := O_0_at6.wr W8 g_b2
  have F_value_b1_at8 : Fld Z h8 b1 "java/lang/String" "value" "[B" .null := F_value_b1_at6.other W8 (Or.inl ne_b1_b2)
  have F_coder_b1_at8 : Fld Z h8 b1 "java/lang/String" "coder" "B" (.int (0 : Int32)) := F_coder_b1_at6.other W8 (Or.inl ne_b1_b2)
  have E_b1_at8 : Exa Z h8 b1 "java/lang/String" := E_b1_at6.wr W8
  have xV_b2_at8 := Arv.set Ar_82_7 q_82_7 S_82_7 N_82_7 H_82_7 G_82_7 (own_fc hp3) W8 2 rfl (Nat.le_of_ble_eq_true rfl)
  have V_b2_at8 : Arv Z h8 b2 k2 .char (3 : Int32) [(.int p1), (.int p2), (.int p3)] (.int (0 : Int32)) := xV_b2_at8
  have K8 : Keep h0 h8 [] := K6.wr W8 (Or.inr sz_b2)
  have Z8 : n0 ≤ h8.size := Nat.le_trans Z6 (Keep.of_wr W8).1
  have N8 := Fr.snoc X8 N6 g_b2
  obtain ⟨_, _, ⟨T9, L9, k9, n9⟩, -, X9, ⟨Lc9, hQ9, l9, y9, z9⟩, st9⟩ := X8.specialBack hx (y := (⟨"java/lang/String", "<init>", "([C)V"⟩ : MethodName)) rfl hown (mvT hZ (hw _ (List.mem_of_getElem? (i := 12) rfl))) (mvT hZ (hw _ (List.mem_of_getElem? (i := 13) rfl))) (mvT hZ (hw _ (List.mem_of_getElem? (i := 14) rfl))) (by decide) (backOf (W := 1) (rm3_3 l Z a0 hw [] b1 b2 k2 p1 p2 p3 cs h8 n0 Z8 E_b1_at8 F_value_b1_at8 F_coder_b1_at8 g_b1 V_b2_at8 ne_b1_b2 O_0_at8 S_cs hcs hp1 hp2 hp3) hZ (hw _ (List.mem_of_getElem? (i := 14) rfl)) (hw _ (List.mem_of_getElem? (i := 11) rfl)) (by decide) (by decide)) (g := (mkF m 83 #[.val (.int (3 : Int32)), .val (.int p1), .val (.int p2), .val (.int p3), .val (.int p4)] [(.ref b2), (.ref b1), (.ref b1)])) rfl (by rw [hml]; rfl) (Steps.refl _) (a := b1) (argsL := [(.ref b2)]) (rest := [(.ref b1)]) (lenOf pd_285bC29V rfl) rfl (by show 2 * 0 + _ ≤ _; exact Nat.le_of_eq rfl) (hb hby d2_83) (fun _ _ => ⟨rfl, e8, (by decide : 2 + 1 ≤ _), (by decide : 7 + 3 ≤ _)⟩)
  dsimp only [Pt.U, Pt.locs, Pt.cells, Pt.slots] at X9 l9 y9 z9 st9 hQ9
  subst l9 y9 z9
  obtain ⟨rfl, N9q, KK9, b9, kb9, gb9, FC9, FV9, VB9⟩ := hQ9
  obtain ⟨h9, e9⟩ : ∃ z, T9.heap = z := ⟨_, rfl⟩
  rw [e9] at KK9 FC9 FV9 VB9
  have O_0_at9 : Old Z n0 h9 := O_0_at8.keep KK9 (allS g_b1 all0)
  have E_b1_at9 : Exa Z h9 b1 "java/lang/String" := E_b1_at8.keep KK9
  have V_b2_at9 : Arv Z h9 b2 k2 .char (3 : Int32) [(.int p1), (.int p2), (.int p3)] (.int (0 : Int32)) := V_b2_at8.keep KK9 (ninS (Ne.symm ne_b1_b2) nin0)
  have K9 : Keep h0 h9 [] := K8.trans KK9 (allS (Or.inr sz_b1) all0)
  have Z9 : n0 ≤ h9.size := Nat.le_trans Z8 KK9.1
  have ne_b1_b9 : b1 ≠ b9 := Nat.ne_of_lt (Nat.lt_of_lt_of_le F_value_b1_at8.lt gb9)
  have ne_b2_b9 : b2 ≠ b9 := Nat.ne_of_lt (Nat.lt_of_lt_of_le V_b2_at8.lt gb9)
  have g_b9 : n0 ≤ b9 := Nat.le_trans Z8 gb9
  have sz_b9 : h0.size ≤ b9 := Nat.le_trans K8.1 gb9
  have N9 := Fr.app N8 N9q
  obtain ⟨fs, hr, hrun, hended, hW, hsame⟩ := X9.leave (v := some (.ref b1)) (fun h => by rw [Bd.returns] at h; cases h)
  refine ⟨_, _, pre0 _ ?_, hrun, hended, _, _, rfl, ?_, ⟨_, rfl⟩, hW, hsame.mono (by decide) (by decide)⟩
  · show Steps p.tables e below (s₁.setTop (mkF m 0 #[.val (.int (3 : Int32)), .val (.int p1), .val (.int p2), .val (.int p3), .val (.int p4)] [])) _
    refine XS.iloadN X0.here hx rfl (hb hby d2_0) rfl ?_
    show Steps p.tables e below (s₁.setTop (mkF m 1 #[.val (.int (3 : Int32)), .val (.int p1), .val (.int p2), .val (.int p3), .val (.int p4)] [(.int (3 : Int32))])) _
    refine XS.ifYes X0.here hx rfl (pc0 := 1) (pc' := 15) rfl (hb hby d2_1) rfl ((if0 _ _).trans (feq (by decide : ¬ ((3 : Int32) = (0 : Int32)))).2) (by decide) (by decide) ?_
    refine XS.iloadN X0.here hx rfl (hb hby d2_15) rfl ?_
    refine XS.iconst X0.here hx rfl (hb hby d2_16) ?_
    show Steps p.tables e below (s₁.setTop (mkF m 17 #[.val (.int (3 : Int32)), .val (.int p1), .val (.int p2), .val (.int p3), .val (.int p4)] [(.int (1 : Int32)), (.int (3 : Int32))])) _
    refine XS.icmpYes X0.here hx rfl (pc0 := 17) (pc' := 35) rfl (hb hby d2_17) rfl (feq (by decide : ¬ ((3 : Int32) = (1 : Int32)))).2 (by decide) (by decide) ?_
    refine XS.iloadN X0.here hx rfl (hb hby d2_35) rfl ?_
    refine XS.iconst X0.here hx rfl (hb hby d2_36) ?_
    show Steps p.tables e below (s₁.setTop (mkF m 37 #[.val (.int (3 : Int32)), .val (.int p1), .val (.int p2), .val (.int p3), .val (.int p4)] [(.int (2 : Int32)), (.int (3 : Int32))])) _
    refine XS.icmpYes X0.here hx rfl (pc0 := 37) (pc' := 59) rfl (hb hby d2_37) rfl (feq (by decide : ¬ ((3 : Int32) = (2 : Int32)))).2 (by decide) (by decide) ?_
    refine XS.iloadN X0.here hx rfl (hb hby d2_59) rfl ?_
    refine XS.iconst X0.here hx rfl (hb hby d2_60) ?_
    show Steps p.tables e below (s₁.setTop (mkF m 61 #[.val (.int (3 : Int32)), .val (.int p1), .val (.int p2), .val (.int p3), .val (.int p4)] [(.int (3 : Int32)), (.int (3 : Int32))])) _
    refine XS.icmpNo X0.here hx rfl (hb hby d2_61) rfl (teq (by decide : (3 : Int32) = (3 : Int32))).2 ?_
    show Steps p.tables e below (s₁.setTop (mkF m 64 #[.val (.int (3 : Int32)), .val (.int p1), .val (.int p2), .val (.int p3), .val (.int p4)] [])) _
    refine st1 _ ?_
    show Steps p.tables e below (T1.setTop (mkF m 67 #[.val (.int (3 : Int32)), .val (.int p1), .val (.int p2), .val (.int p3), .val (.int p4)] [(.ref b1)])) _
    refine XS.dup X1.here hx rfl (hb hby d2_67) rfl rfl ?_
    refine XS.iconst X1.here hx rfl (hb hby d2_68) ?_
    show Steps p.tables e below (T1.setTop (mkF m 69 #[.val (.int (3 : Int32)), .val (.int p1), .val (.int p2), .val (.int p3), .val (.int p4)] [(.int (3 : Int32)), (.ref b1), (.ref b1)])) _
    refine st2 _ ?_
    show Steps p.tables e below (T2.setTop (mkF m 71 #[.val (.int (3 : Int32)), .val (.int p1), .val (.int p2), .val (.int p3), .val (.int p4)] [(.ref b2), (.ref b1), (.ref b1)])) _
    refine XS.dup X2.here hx rfl (hb hby d2_71) rfl rfl ?_
    refine XS.iconst X2.here hx rfl (hb hby d2_72) ?_
    refine XS.iloadN X2.here hx rfl (hb hby d2_73) rfl ?_
    show Steps p.tables e below (T2.setTop (mkF m 74 #[.val (.int (3 : Int32)), .val (.int p1), .val (.int p2), .val (.int p3), .val (.int p4)] [(.int p1), (.int (0 : Int32)), (.ref b2), (.ref b2), (.ref b1), (.ref b1)])) _
    refine st4 _ ?_
    show Steps p.tables e below (T4.setTop (mkF m 75 #[.val (.int (3 : Int32)), .val (.int p1), .val (.int p2), .val (.int p3), .val (.int p4)] [(.ref b2), (.ref b1), (.ref b1)])) _
    refine XS.dup X4.here hx rfl (hb hby d2_75) rfl rfl ?_
    refine XS.iconst X4.here hx rfl (hb hby d2_76) ?_
    refine XS.iloadN X4.here hx rfl (hb hby d2_77) rfl ?_
    show Steps p.tables e below (T4.setTop (mkF m 78 #[.val (.int (3 : Int32)), .val (.int p1), .val (.int p2), .val (.int p3), .val (.int p4)] [(.int p2), (.int (1 : Int32)), (.ref b2), (.ref b2), (.ref b1), (.ref b1)])) _
    refine st6 _ ?_
    show Steps p.tables e below (T6.setTop (mkF m 79 #[.val (.int (3 : Int32)), .val (.int p1), .val (.int p2), .val (.int p3), .val (.int p4)] [(.ref b2), (.ref b1), (.ref b1)])) _
    refine XS.dup X6.here hx rfl (hb hby d2_79) rfl rfl ?_
    refine XS.iconst X6.here hx rfl (hb hby d2_80) ?_
    refine XS.iloadN X6.here hx rfl (hb hby d2_81) rfl ?_
    show Steps p.tables e below (T6.setTop (mkF m 82 #[.val (.int (3 : Int32)), .val (.int p1), .val (.int p2), .val (.int p3), .val (.int p4)] [(.int p3), (.int (2 : Int32)), (.ref b2), (.ref b2), (.ref b1), (.ref b1)])) _
    refine st8 _ ?_
    show Steps p.tables e below (T8.setTop (mkF m 83 #[.val (.int (3 : Int32)), .val (.int p1), .val (.int p2), .val (.int p3), .val (.int p4)] [(.ref b2), (.ref b1), (.ref b1)])) _
    refine st9.trans ?_
    show Steps p.tables e below (T9.setTop (mkF m 86 #[.val (.int (3 : Int32)), .val (.int p1), .val (.int p2), .val (.int p3), .val (.int p4)] [(.ref b1)])) _
    jvm_step X9.here [X9.here.top, hx, (hb hby d2_86), X9.method', Bd.returns, Value.isRef, FieldType.isReference]
    first | (intro acts; rw [hr _ acts rfl rfl rfl]) | rw [hr _ _ rfl rfl rfl]
    exact Steps.refl _
  · show Q2_3 Z p1 p2 p3 p4 cs h0 n0 _ T9.heap _
    rw [e9]
    exact ⟨b1, b9, _, rfl, N9, K9, E_b1_at9, FC9, FV9, VB9⟩
theorem ef_2_4 (m : MethodId) (x0 : Int32) (x1 : Int32) (x2 : Int32) (x3 : Int32) (x4 : Int32) : entryFrame m #[(.int x0), (.int x1), (.int x2), (.int x3), (.int x4)] 5 = mkF m 0 #[.val (.int x0), .val (.int x1), .val (.int x2), .val (.int x3), .val (.int x4)] [] := by first | (simp [entryFrame, mkF, argsToLocals, Value.category]; done) | rfl
theorem d2_87 : decode method_4_code 87 = .ok (.new 7, 3) := by decide +kernel
theorem d2_90 : decode method_4_code 90 = .ok (.dup, 1) := by decide +kernel
theorem d2_91 : decode method_4_code 91 = .ok (.iconst 4, 1) := by decide +kernel
theorem d2_92 : decode method_4_code 92 = .ok (.newarray .char, 2) := by decide +kernel
theorem d2_94 : decode method_4_code 94 = .ok (.dup, 1) := by decide +kernel
theorem d2_95 : decode method_4_code 95 = .ok (.iconst 0, 1) := by decide +kernel
theorem d2_96 : decode method_4_code 96 = .ok (.iload_n 1, 1) := by decide +kernel
theorem d2_97 : decode method_4_code 97 = .ok (.castore, 1) := by decide +kernel
theorem d2_98 : decode method_4_code 98 = .ok (.dup, 1) := by decide +kernel
theorem d2_99 : decode method_4_code 99 = .ok (.iconst 1, 1) := by decide +kernel
theorem d2_100 : decode method_4_code 100 = .ok (.iload_n 2, 1) := by decide +kernel
theorem d2_101 : decode method_4_code 101 = .ok (.castore, 1) := by decide +kernel
theorem d2_102 : decode method_4_code 102 = .ok (.dup, 1) := by decide +kernel
theorem d2_103 : decode method_4_code 103 = .ok (.iconst 2, 1) := by decide +kernel
theorem d2_104 : decode method_4_code 104 = .ok (.iload_n 3, 1) := by decide +kernel
theorem d2_105 : decode method_4_code 105 = .ok (.castore, 1) := by decide +kernel
theorem d2_106 : decode method_4_code 106 = .ok (.dup, 1) := by decide +kernel
theorem d2_107 : decode method_4_code 107 = .ok (.iconst 3, 1) := by decide +kernel
theorem d2_108 : decode method_4_code 108 = .ok (.iload 4, 2) := by decide +kernel
theorem d2_110 : decode method_4_code 110 = .ok (.castore, 1) := by decide +kernel
theorem d2_111 : decode method_4_code 111 = .ok (.invokespecial 9, 3) := by decide +kernel
theorem d2_114 : decode method_4_code 114 = .ok (.areturn, 1) := by decide +kernel
def Q2_4 (Z : State) (p1 : Int32) (p2 : Int32) (p3 : Int32) (p4 : Int32) (cs : Int32) (h0 : Heap) (n0 : Nat) (v : Option Value) (h : Heap) (L : List Loc) : Prop := ∃ (r b : Addr) (kb : ClassId), v = some (.ref r) ∧ Fr n0 L ∧ Keep h0 h [] ∧ Exa Z h r "java/lang/String" ∧ Fld Z h r "java/lang/String" "coder" "B" (.int (0 : Int32)) ∧ Fld Z h r "java/lang/String" "value" "[B" (.ref b) ∧ Arv Z h b kb .byte (Int32.ofNat 4) (own_bys ([p1, p2, p3, p4].take 4)) (.int (0 : Int32))
set_option maxRecDepth 65536 in
set_option maxHeartbeats 40000000 in
theorem rm2_4 (l : Launch) (Z : State) (a0 : Array Value) (hw : ∀ d ∈ tables_1, d.before a0 Z = true) (ws : List Jvm.Cond) (p1 : Int32) (p2 : Int32) (p3 : Int32) (p4 : Int32) (cs : Int32) (h0 : Heap) (n0 : Nat) (Z0 : n0 ≤ h0.size) (O_0 : Old Z n0 h0) (S_cs : Sta Z Z.heap "java/lang/String" "COMPACT_STRINGS" "Z" (.int cs)) (hcs : ¬ (cs = (0 : Int32))) (hp1 : own_ch p1) (hp2 : own_ch p2) (hp3 : own_ch p3) (hp4 : own_ch p4) :
    MetFree l (⟨"com/example/commitwright/commitwright/http/HeadTrimSpacePinLaw", "make", "(ICCCC)Ljava/lang/String;"⟩ : MethodName) (head1 (Jvm.Cond.code (⟨"com/example/commitwright/commitwright/http/HeadTrimSpacePinLaw", "make", "(ICCCC)Ljava/lang/String;"⟩ : MethodName) method_4_code 5 (some (.object "java/lang/String")) :: ws) ({ frames := 4, cells := 3, slots := 12, locals := 66 } : Room)) (fun a U => a = #[(.int (4 : Int32)), (.int p1), (.int p2), (.int p3), (.int p4)] ∧ Z.Warmed39 U.vm ∧ U.heap = h0) (fun _ _ _ _ _ => True) (fun _ U o U' => ∃ v L, o = .returned v ∧ Q2_4 Z p1 p2 p3 p4 cs h0 n0 v U'.heap L ∧ FrameEnd U o U' L ({ frames := 4, cells := 3, slots := 12, locals := 66 } : Room).cells ({ frames := 4, cells := 3, slots := 12, locals := 66 } : Room).slots) := by
  refine MetFree.of_bodySF (plainFor_of_name pn_com_example_commitwright_commitwright_http_HeadTrimSpacePinLaw) hisR ?_
  intro p e s m args below meth c s₁ Bd hml0 hP hK
  obtain ⟨rfl, hZ, hh⟩ := hP
  have hx := Bd.exec
  have hby := Bd.bytes
  have hml : c.maxLocals = 5 := hml0
  have hown : s.vm.findClass "com/example/commitwright/commitwright/http/HeadTrimSpacePinLaw" = some m.cls := findClass_of_methodNamed Bd.named
  have hnm := (name_of_methodNamed Bd.named Bd.method).1
  have X0 : Stand p l e ({ frames := 4, cells := 3, slots := 12, locals := 66 } : Room) s m #[(.int (4 : Int32)), (.int p1), (.int p2), (.int p3), (.int p4)] below meth c s₁ [] 0 0 := Stand.of_body Bd
  have e0 : s₁.heap = h0 := by rw [← hh, Bd.state]; rfl
  have N0 := Fr.nil n0
  have pre0 : ∀ t, Steps p.tables e below (s₁.setTop (mkF m 0 #[.val (.int (4 : Int32)), .val (.int p1), .val (.int p2), .val (.int p3), .val (.int p4)] [])) t → Steps p.tables e below (s₁.setTop (entryFrame m #[(.int (4 : Int32)), (.int p1), (.int p2), (.int p3), (.int p4)] 5)) t := fun tt kt_ => castTop (ef_2_4 m (4 : Int32) p1 p2 p3 p4) kt_
  have K0 : Keep h0 h0 [] := Keep.refl h0 []
  obtain ⟨T1, h1, X1, e1, E1, A1, D1, -, st1⟩ := newO X0 hx hZ hown (hw _ (List.mem_of_getElem? (i := 9) rfl)) (hw _ (List.mem_of_getElem? (i := 10) rfl)) (hw _ (List.mem_of_getElem? (i := 11) rfl)) e0 (g := (mkF m 87 #[.val (.int (4 : Int32)), .val (.int p1), .val (.int p2), .val (.int p3), .val (.int p4)] [])) rfl (hb hby d2_87) (by decide) (by decide)
  obtain ⟨b1, g1⟩ : ∃ z, z = h0.size := ⟨_, rfl⟩
  rw [← g1] at A1 D1 st1
  have g_b1 : n0 ≤ b1 := Nat.le_trans Z0 (Nat.le_of_eq g1.symm)
  have sz_b1 : h0.size ≤ b1 := Nat.le_trans K0.1 (Nat.le_of_eq g1.symm)
  have O_0_at1 : Old Z n0 h1 := O_0.ext E1
  have K1 : Keep h0 h1 [] := K0.ext E1
  have Z1 : n0 ≤ h1.size := Nat.le_trans Z0 E1.1
  have F_value_b1_at1 : Fld Z h1 b1 "java/lang/String" "value" "[B" .null := D1 (Or.inr (hw _ (List.mem_of_getElem? (i := 24) rfl))) (ty := (.array .byte)) (by decide)
  have F_coder_b1_at1 : Fld Z h1 b1 "java/lang/String" "coder" "B" (.int (0 : Int32)) := D1 (Or.inr (hw _ (List.mem_of_getElem? (i := 25) rfl))) (ty := .byte) (by decide)
  have E_b1_at1 : Exa Z h1 b1 "java/lang/String" := A1
  obtain ⟨T2, h2, k2, X2, e2, E2, A2, st2⟩ := newP X1 hx hZ (hw _ (List.mem_of_getElem? (i := 5) rfl)) e1 (g := (mkF m 92 #[.val (.int (4 : Int32)), .val (.int p1), .val (.int p2), .val (.int p3), .val (.int p4)] [(.int (4 : Int32)), (.ref b1), (.ref b1)])) rfl (hb hby d2_92) rfl (by decide) (cap := 4) (by decide) (by decide) (by decide) (by decide)
  obtain ⟨b2, g2⟩ : ∃ z, z = h1.size := ⟨_, rfl⟩
  rw [← g2] at A2 st2
  have g_b2 : n0 ≤ b2 := Nat.le_trans Z1 (Nat.le_of_eq g2.symm)
  have sz_b2 : h0.size ≤ b2 := Nat.le_trans K1.1 (Nat.le_of_eq g2.symm)
  have ne_b1_b2 : b1 ≠ b2 := Nat.ne_of_lt (Nat.lt_of_lt_of_le F_value_b1_at1.lt (Nat.le_of_eq g2.symm))
  have O_0_at2 : Old Z n0 h2 := O_0_at1.ext E2
  have F_value_b1_at2 : Fld Z h2 b1 "java/lang/String" "value" "[B" .null := F_value_b1_at1.ext E2
  have F_coder_b1_at2 : Fld Z h2 b1 "java/lang/String" "coder" "B" (.int (0 : Int32)) := F_coder_b1_at1.ext E2
  have E_b1_at2 : Exa Z h2 b1 "java/lang/String" := E_b1_at1.ext E2
  have K2 : Keep h0 h2 [] := K1.ext E2
  have Z2 : n0 ≤ h2.size := Nat.le_trans Z1 E2.1
  have xV_b2_at2 := (Arv.new A2 (by decide)).pad (pad_rep [] (.int (0 : Int32)) 4)
  have V_b2_at2 : Arv Z h2 b2 k2 .char (4 : Int32) [(.int (0 : Int32)), (.int (0 : Int32)), (.int (0 : Int32)), (.int (0 : Int32))] (.int (0 : Int32)) := xV_b2_at2
  obtain ⟨cl_97_3, Ar_97_3, q_97_3, S_97_3, N_97_3, H_97_3, G_97_3⟩ := id V_b2_at2
  have hin97_3 : ¬ ((0 : Int32) < 0 ∨ cl_97_3.slots.size ≤ ((0 : Int32)).toNatClampNeg) := inb_of S_97_3 ⟨by decide, by decide⟩
  obtain ⟨T4, h4, X4, e4, W4, st4⟩ := stC X2 hx hZ e2 Ar_97_3 (j := (0 : Int32)) hin97_3 (g := (mkF m 97 #[.val (.int (4 : Int32)), .val (.int p1), .val (.int p2), .val (.int p3), .val (.int p4)] [(.int p1), (.int (0 : Int32)), (.ref b2), (.ref b2), (.ref b1), (.ref b1)])) rfl rfl (hb hby d2_97)
  rw [own_cc hp1] at W4
  have O_0_at4 : Old Z n0 h4 := O_0_at2.wr W4 g_b2
  have F_value_b1_at4 : Fld Z h4 b1 "java/lang/String" "value" "[B" .null := F_value_b1_at2.other W4 (Or.inl ne_b1_b2)
  have F_coder_b1_at4 : Fld Z h4 b1 "java/lang/String" "coder" "B" (.int (0 : Int32)) := F_coder_b1_at2.other W4 (Or.inl ne_b1_b2)
  have E_b1_at4 : Exa Z h4 b1 "java/lang/String" := E_b1_at2.wr W4
  have xV_b2_at4 := Arv.set Ar_97_3 q_97_3 S_97_3 N_97_3 H_97_3 G_97_3 (own_fc hp1) W4 0 rfl (Nat.le_of_ble_eq_true rfl)
  have V_b2_at4 : Arv Z h4 b2 k2 .char (4 : Int32) [(.int p1), (.int (0 : Int32)), (.int (0 : Int32)), (.int (0 : Int32))] (.int (0 : Int32)) := xV_b2_at4
  have K4 : Keep h0 h4 [] := K2.wr W4 (Or.inr sz_b2)
  have Z4 : n0 ≤ h4.size := Nat.le_trans Z2 (Keep.of_wr W4).1
  have N4 := Fr.snoc X4 N0 g_b2
  obtain ⟨cl_101_5, Ar_101_5, q_101_5, S_101_5, N_101_5, H_101_5, G_101_5⟩ := id V_b2_at4
  have hin101_5 : ¬ ((1 : Int32) < 0 ∨ cl_101_5.slots.size ≤ ((1 : Int32)).toNatClampNeg) := inb_of S_101_5 ⟨by decide, by decide⟩
  obtain ⟨T6, h6, X6, e6, W6, st6⟩ := stC X4 hx hZ e4 Ar_101_5 (j := (1 : Int32)) hin101_5 (g := (mkF m 101 #[.val (.int (4 : Int32)), .val (.int p1), .val (.int p2), .val (.int p3), .val (.int p4)] [(.int p2), (.int (1 : Int32)), (.ref b2), (.ref b2), (.ref b1), (.ref b1)])) rfl rfl (hb hby d2_101)
  rw [own_cc hp2] at W6
  have O_0_at6 : Old Z n0 h6 := O_0_at4.wr W6 g_b2
  have F_value_b1_at6 : Fld Z h6 b1 "java/lang/String" "value" "[B" .null := F_value_b1_at4.other W6 (Or.inl ne_b1_b2)
  have F_coder_b1_at6 : Fld Z h6 b1 "java/lang/String" "coder" "B" (.int (0 : Int32)) := F_coder_b1_at4.other W6 (Or.inl ne_b1_b2)
  have E_b1_at6 : Exa Z h6 b1 "java/lang/String" := E_b1_at4.wr W6
  have xV_b2_at6 := Arv.set Ar_101_5 q_101_5 S_101_5 N_101_5 H_101_5 G_101_5 (own_fc hp2) W6 1 rfl (Nat.le_of_ble_eq_true rfl)
  have V_b2_at6 : Arv Z h6 b2 k2 .char (4 : Int32) [(.int p1), (.int p2), (.int (0 : Int32)), (.int (0 : Int32))] (.int (0 : Int32)) := xV_b2_at6
  have K6 : Keep h0 h6 [] := K4.wr W6 (Or.inr sz_b2)
  have Z6 : n0 ≤ h6.size := Nat.le_trans Z4 (Keep.of_wr W6).1
  have N6 := Fr.snoc X6 N4 g_b2
  obtain ⟨cl_105_7, Ar_105_7, q_105_7, S_105_7, N_105_7, H_105_7, G_105_7⟩ := id V_b2_at6
  have hin105_7 : ¬ ((2 : Int32) < 0 ∨ cl_105_7.slots.size ≤ ((2 : Int32)).toNatClampNeg) := inb_of S_105_7 ⟨by decide, by decide⟩
  obtain ⟨T8, h8, X8, e8, W8, st8⟩ := stC X6 hx hZ e6 Ar_105_7 (j := (2 : Int32)) hin105_7 (g := (mkF m 105 #[.val (.int (4 : Int32)), .val (.int p1), .val (.int p2), .val (.int p3), .val (.int p4)] [(.int p3), (.int (2 : Int32)), (.ref b2), (.ref b2), (.ref b1), (.ref b1)])) rfl rfl (hb hby d2_105)
  rw [own_cc hp3] at W8
  have O_0_at8 : Old Z n0 h8 := O_0_at6.wr W8 g_b2
  have F_value_b1_at8 : Fld Z h8 b1 "java/lang/String" "value" "[B" .null := F_value_b1_at6.other W8 (Or.inl ne_b1_b2)
  have F_coder_b1_at8 : Fld Z h8 b1 "java/lang/String" "coder" "B" (.int (0 : Int32)) := F_coder_b1_at6.other W8 (Or.inl ne_b1_b2)
  have E_b1_at8 : Exa Z h8 b1 "java/lang/String" := E_b1_at6.wr W8
  have xV_b2_at8 := Arv.set Ar_105_7 q_105_7 S_105_7 N_105_7 H_105_7 G_105_7 (own_fc hp3) W8 2 rfl (Nat.le_of_ble_eq_true rfl)
  have V_b2_at8 : Arv Z h8 b2 k2 .char (4 : Int32) [(.int p1), (.int p2), (.int p3), (.int (0 : Int32))] (.int (0 : Int32)) := xV_b2_at8
  have K8 : Keep h0 h8 [] := K6.wr W8 (Or.inr sz_b2)
  have Z8 : n0 ≤ h8.size := Nat.le_trans Z6 (Keep.of_wr W8).1
  have N8 := Fr.snoc X8 N6 g_b2
  obtain ⟨cl_110_9, Ar_110_9, q_110_9, S_110_9, N_110_9, H_110_9, G_110_9⟩ := id V_b2_at8
  have hin110_9 : ¬ ((3 : Int32) < 0 ∨ cl_110_9.slots.size ≤ ((3 : Int32)).toNatClampNeg) := inb_of S_110_9 ⟨by decide, by decide⟩
  obtain ⟨T10, h10, X10, e10, W10, st10⟩ := stC X8 hx hZ e8 Ar_110_9 (j := (3 : Int32)) hin110_9 (g := (mkF m 110 #[.val (.int (4 : Int32)), .val (.int p1), .val (.int p2), .val (.int p3), .val (.int p4)] [(.int p4), (.int (3 : Int32)), (.ref b2), (.ref b2), (.ref b1), (.ref b1)])) rfl rfl (hb hby d2_110)
  rw [own_cc hp4] at W10
  have O_0_at10 : Old Z n0 h10 := O_0_at8.wr W10 g_b2
  have F_value_b1_at10 : Fld Z h10 b1 "java/lang/String" "value" "[B" .null := F_value_b1_at8.other W10 (Or.inl ne_b1_b2)
  have F_coder_b1_at10 : Fld Z h10 b1 "java/lang/String" "coder" "B" (.int (0 : Int32)) := F_coder_b1_at8.other W10 (Or.inl ne_b1_b2)
  have E_b1_at10 : Exa Z h10 b1 "java/lang/String" := E_b1_at8.wr W10
  have xV_b2_at10 := Arv.set Ar_110_9 q_110_9 S_110_9 N_110_9 H_110_9 G_110_9 (own_fc hp4) W10 3 rfl (Nat.le_of_ble_eq_true rfl)
  have V_b2_at10 : Arv Z h10 b2 k2 .char (4 : Int32) [(.int p1), (.int p2), (.int p3), (.int p4)] (.int (0 : Int32)) := xV_b2_at10
  have K10 : Keep h0 h10 [] := K8.wr W10 (Or.inr sz_b2)
  have Z10 : n0 ≤ h10.size := Nat.le_trans Z8 (Keep.of_wr W10).1
  have N10 := Fr.snoc X10 N8 g_b2
  obtain ⟨_, _, ⟨T11, L11, k11, n11⟩, -, X11, ⟨Lc11, hQ11, l11, y11, z11⟩, st11⟩ := X10.specialBack hx (y := (⟨"java/lang/String", "<init>", "([C)V"⟩ : MethodName)) rfl hown (mvT hZ (hw _ (List.mem_of_getElem? (i := 12) rfl))) (mvT hZ (hw _ (List.mem_of_getElem? (i := 13) rfl))) (mvT hZ (hw _ (List.mem_of_getElem? (i := 14) rfl))) (by decide) (backOf (W := 1) (rm3_4 l Z a0 hw [] b1 b2 k2 p1 p2 p3 p4 cs h10 n0 Z10 E_b1_at10 F_value_b1_at10 F_coder_b1_at10 g_b1 V_b2_at10 ne_b1_b2 O_0_at10 S_cs hcs hp1 hp2 hp3 hp4) hZ (hw _ (List.mem_of_getElem? (i := 14) rfl)) (hw _ (List.mem_of_getElem? (i := 11) rfl)) (by decide) (by decide)) (g := (mkF m 111 #[.val (.int (4 : Int32)), .val (.int p1), .val (.int p2), .val (.int p3), .val (.int p4)] [(.ref b2), (.ref b1), (.ref b1)])) rfl (by rw [hml]; rfl) (Steps.refl _) (a := b1) (argsL := [(.ref b2)]) (rest := [(.ref b1)]) (lenOf pd_285bC29V rfl) rfl (by show 2 * 0 + _ ≤ _; exact Nat.le_of_eq rfl) (hb hby d2_111) (fun _ _ => ⟨rfl, e10, (by decide : 2 + 1 ≤ _), (by decide : 8 + 4 ≤ _)⟩)
  dsimp only [Pt.U, Pt.locs, Pt.cells, Pt.slots] at X11 l11 y11 z11 st11 hQ11
  subst l11 y11 z11
  obtain ⟨rfl, N11q, KK11, b11, kb11, gb11, FC11, FV11, VB11⟩ := hQ11
  obtain ⟨h11, e11⟩ : ∃ z, T11.heap = z := ⟨_, rfl⟩
  rw [e11] at KK11 FC11 FV11 VB11
  have O_0_at11 : Old Z n0 h11 := O_0_at10.keep KK11 (allS g_b1 all0)
  have E_b1_at11 : Exa Z h11 b1 "java/lang/String" := E_b1_at10.keep KK11
  have V_b2_at11 : Arv Z h11 b2 k2 .char (4 : Int32) [(.int p1), (.int p2), (.int p3), (.int p4)] (.int (0 : Int32)) := V_b2_at10.keep KK11 (ninS (Ne.symm ne_b1_b2) nin0)
  have K11 : Keep h0 h11 [] := K10.trans KK11 (allS (Or.inr sz_b1) all0)
  have Z11 : n0 ≤ h11.size := Nat.le_trans Z10 KK11.1
  have ne_b1_b11 : b1 ≠ b11 := Nat.ne_of_lt (Nat.lt_of_lt_of_le F_value_b1_at10.lt gb11)
  have ne_b2_b11 : b2 ≠ b11 := Nat.ne_of_lt (Nat.lt_of_lt_of_le V_b2_at10.lt gb11)
  have g_b11 : n0 ≤ b11 := Nat.le_trans Z10 gb11
  have sz_b11 : h0.size ≤ b11 := Nat.le_trans K10.1 gb11
  have N11 := Fr.app N10 N11q
  obtain ⟨fs, hr, hrun, hended, hW, hsame⟩ := X11.leave (v := some (.ref b1)) (fun h => by rw [Bd.returns] at h; cases h)
  refine ⟨_, _, pre0 _ ?_, hrun, hended, _, _, rfl, ?_, ⟨_, rfl⟩, hW, hsame.mono (by decide) (by decide)⟩
  · show Steps p.tables e below (s₁.setTop (mkF m 0 #[.val (.int (4 : Int32)), .val (.int p1), .val (.int p2), .val (.int p3), .val (.int p4)] [])) _
    refine XS.iloadN X0.here hx rfl (hb hby d2_0) rfl ?_
    show Steps p.tables e below (s₁.setTop (mkF m 1 #[.val (.int (4 : Int32)), .val (.int p1), .val (.int p2), .val (.int p3), .val (.int p4)] [(.int (4 : Int32))])) _
    refine XS.ifYes X0.here hx rfl (pc0 := 1) (pc' := 15) rfl (hb hby d2_1) rfl ((if0 _ _).trans (feq (by decide : ¬ ((4 : Int32) = (0 : Int32)))).2) (by decide) (by decide) ?_
    refine XS.iloadN X0.here hx rfl (hb hby d2_15) rfl ?_
    refine XS.iconst X0.here hx rfl (hb hby d2_16) ?_
    show Steps p.tables e below (s₁.setTop (mkF m 17 #[.val (.int (4 : Int32)), .val (.int p1), .val (.int p2), .val (.int p3), .val (.int p4)] [(.int (1 : Int32)), (.int (4 : Int32))])) _
    refine XS.icmpYes X0.here hx rfl (pc0 := 17) (pc' := 35) rfl (hb hby d2_17) rfl (feq (by decide : ¬ ((4 : Int32) = (1 : Int32)))).2 (by decide) (by decide) ?_
    refine XS.iloadN X0.here hx rfl (hb hby d2_35) rfl ?_
    refine XS.iconst X0.here hx rfl (hb hby d2_36) ?_
    show Steps p.tables e below (s₁.setTop (mkF m 37 #[.val (.int (4 : Int32)), .val (.int p1), .val (.int p2), .val (.int p3), .val (.int p4)] [(.int (2 : Int32)), (.int (4 : Int32))])) _
    refine XS.icmpYes X0.here hx rfl (pc0 := 37) (pc' := 59) rfl (hb hby d2_37) rfl (feq (by decide : ¬ ((4 : Int32) = (2 : Int32)))).2 (by decide) (by decide) ?_
    refine XS.iloadN X0.here hx rfl (hb hby d2_59) rfl ?_
    refine XS.iconst X0.here hx rfl (hb hby d2_60) ?_
    show Steps p.tables e below (s₁.setTop (mkF m 61 #[.val (.int (4 : Int32)), .val (.int p1), .val (.int p2), .val (.int p3), .val (.int p4)] [(.int (3 : Int32)), (.int (4 : Int32))])) _
    refine XS.icmpYes X0.here hx rfl (pc0 := 61) (pc' := 87) rfl (hb hby d2_61) rfl (feq (by decide : ¬ ((4 : Int32) = (3 : Int32)))).2 (by decide) (by decide) ?_
    show Steps p.tables e below (s₁.setTop (mkF m 87 #[.val (.int (4 : Int32)), .val (.int p1), .val (.int p2), .val (.int p3), .val (.int p4)] [])) _
    refine st1 _ ?_
    show Steps p.tables e below (T1.setTop (mkF m 90 #[.val (.int (4 : Int32)), .val (.int p1), .val (.int p2), .val (.int p3), .val (.int p4)] [(.ref b1)])) _
    refine XS.dup X1.here hx rfl (hb hby d2_90) rfl rfl ?_
    refine XS.iconst X1.here hx rfl (hb hby d2_91) ?_
    show Steps p.tables e below (T1.setTop (mkF m 92 #[.val (.int (4 : Int32)), .val (.int p1), .val (.int p2), .val (.int p3), .val (.int p4)] [(.int (4 : Int32)), (.ref b1), (.ref b1)])) _
    refine st2 _ ?_
    show Steps p.tables e below (T2.setTop (mkF m 94 #[.val (.int (4 : Int32)), .val (.int p1), .val (.int p2), .val (.int p3), .val (.int p4)] [(.ref b2), (.ref b1), (.ref b1)])) _
    refine XS.dup X2.here hx rfl (hb hby d2_94) rfl rfl ?_
    refine XS.iconst X2.here hx rfl (hb hby d2_95) ?_
    refine XS.iloadN X2.here hx rfl (hb hby d2_96) rfl ?_
    show Steps p.tables e below (T2.setTop (mkF m 97 #[.val (.int (4 : Int32)), .val (.int p1), .val (.int p2), .val (.int p3), .val (.int p4)] [(.int p1), (.int (0 : Int32)), (.ref b2), (.ref b2), (.ref b1), (.ref b1)])) _
    refine st4 _ ?_
    show Steps p.tables e below (T4.setTop (mkF m 98 #[.val (.int (4 : Int32)), .val (.int p1), .val (.int p2), .val (.int p3), .val (.int p4)] [(.ref b2), (.ref b1), (.ref b1)])) _
    refine XS.dup X4.here hx rfl (hb hby d2_98) rfl rfl ?_
    refine XS.iconst X4.here hx rfl (hb hby d2_99) ?_
    refine XS.iloadN X4.here hx rfl (hb hby d2_100) rfl ?_
    show Steps p.tables e below (T4.setTop (mkF m 101 #[.val (.int (4 : Int32)), .val (.int p1), .val (.int p2), .val (.int p3), .val (.int p4)] [(.int p2), (.int (1 : Int32)), (.ref b2), (.ref b2), (.ref b1), (.ref b1)])) _
    refine st6 _ ?_
    show Steps p.tables e below (T6.setTop (mkF m 102 #[.val (.int (4 : Int32)), .val (.int p1), .val (.int p2), .val (.int p3), .val (.int p4)] [(.ref b2), (.ref b1), (.ref b1)])) _
    refine XS.dup X6.here hx rfl (hb hby d2_102) rfl rfl ?_
    refine XS.iconst X6.here hx rfl (hb hby d2_103) ?_
    refine XS.iloadN X6.here hx rfl (hb hby d2_104) rfl ?_
    show Steps p.tables e below (T6.setTop (mkF m 105 #[.val (.int (4 : Int32)), .val (.int p1), .val (.int p2), .val (.int p3), .val (.int p4)] [(.int p3), (.int (2 : Int32)), (.ref b2), (.ref b2), (.ref b1), (.ref b1)])) _
    refine st8 _ ?_
    show Steps p.tables e below (T8.setTop (mkF m 106 #[.val (.int (4 : Int32)), .val (.int p1), .val (.int p2), .val (.int p3), .val (.int p4)] [(.ref b2), (.ref b1), (.ref b1)])) _
    refine XS.dup X8.here hx rfl (hb hby d2_106) rfl rfl ?_
    refine XS.iconst X8.here hx rfl (hb hby d2_107) ?_
    refine XS.iload X8.here hx rfl (hb hby d2_108) rfl ?_
    show Steps p.tables e below (T8.setTop (mkF m 110 #[.val (.int (4 : Int32)), .val (.int p1), .val (.int p2), .val (.int p3), .val (.int p4)] [(.int p4), (.int (3 : Int32)), (.ref b2), (.ref b2), (.ref b1), (.ref b1)])) _
    refine st10 _ ?_
    show Steps p.tables e below (T10.setTop (mkF m 111 #[.val (.int (4 : Int32)), .val (.int p1), .val (.int p2), .val (.int p3), .val (.int p4)] [(.ref b2), (.ref b1), (.ref b1)])) _
    refine st11.trans ?_
    show Steps p.tables e below (T11.setTop (mkF m 114 #[.val (.int (4 : Int32)), .val (.int p1), .val (.int p2), .val (.int p3), .val (.int p4)] [(.ref b1)])) _
    jvm_step X11.here [X11.here.top, hx, (hb hby d2_114), X11.method', Bd.returns, Value.isRef, FieldType.isReference]
    first | (intro acts; rw [hr _ acts rfl rfl rfl]) | rw [hr _ _ rfl rfl rfl]
    exact Steps.refl _
  · show Q2_4 Z p1 p2 p3 p4 cs h0 n0 _ T11.heap _
    rw [e11]
    exact ⟨b1, b11, _, rfl, N11, K11, E_b1_at11, FC11, FV11, VB11⟩
theorem ef_2_0 (m : MethodId) (x0 : Int32) (x1 : Int32) (x2 : Int32) (x3 : Int32) (x4 : Int32) : entryFrame m #[(.int x0), (.int x1), (.int x2), (.int x3), (.int x4)] 5 = mkF m 0 #[.val (.int x0), .val (.int x1), .val (.int x2), .val (.int x3), .val (.int x4)] [] := by first | (simp [entryFrame, mkF, argsToLocals, Value.category]; done) | rfl
theorem d2_4 : decode method_4_code 4 = .ok (.new 7, 3) := by decide +kernel
theorem d2_7 : decode method_4_code 7 = .ok (.dup, 1) := by decide +kernel
theorem d2_8 : decode method_4_code 8 = .ok (.iconst 0, 1) := by decide +kernel
theorem d2_9 : decode method_4_code 9 = .ok (.newarray .char, 2) := by decide +kernel
theorem d2_11 : decode method_4_code 11 = .ok (.invokespecial 9, 3) := by decide +kernel
theorem d2_14 : decode method_4_code 14 = .ok (.areturn, 1) := by decide +kernel
def Q2_0 (Z : State) (p1 : Int32) (p2 : Int32) (p3 : Int32) (p4 : Int32) (h0 : Heap) (n0 : Nat) (v : Option Value) (h : Heap) (L : List Loc) : Prop := ∃ (r b : Addr) (kb : ClassId), v = some (.ref r) ∧ Fr n0 L ∧ Keep h0 h [] ∧ Exa Z h r "java/lang/String" ∧ Fld Z h r "java/lang/String" "coder" "B" (.int (0 : Int32)) ∧ Fld Z h r "java/lang/String" "value" "[B" (.ref b) ∧ Arv Z h b kb .byte (Int32.ofNat 0) (own_bys ([p1, p2, p3, p4].take 0)) (.int (0 : Int32))
set_option maxRecDepth 65536 in
set_option maxHeartbeats 40000000 in
theorem rm2_0 (l : Launch) (Z : State) (a0 : Array Value) (hw : ∀ d ∈ tables_1, d.before a0 Z = true) (ws : List Jvm.Cond) (p1 : Int32) (p2 : Int32) (p3 : Int32) (p4 : Int32) (h0 : Heap) (n0 : Nat) (Z0 : n0 ≤ h0.size)  :
    MetFree l (⟨"com/example/commitwright/commitwright/http/HeadTrimSpacePinLaw", "make", "(ICCCC)Ljava/lang/String;"⟩ : MethodName) (head1 (Jvm.Cond.code (⟨"com/example/commitwright/commitwright/http/HeadTrimSpacePinLaw", "make", "(ICCCC)Ljava/lang/String;"⟩ : MethodName) method_4_code 5 (some (.object "java/lang/String")) :: ws) ({ frames := 3, cells := 4, slots := 8, locals := 43 } : Room)) (fun a U => a = #[(.int (0 : Int32)), (.int p1), (.int p2), (.int p3), (.int p4)] ∧ Z.Warmed39 U.vm ∧ U.heap = h0 ∧ CHv Z own_EL U.vm h0) (fun _ _ _ _ _ => True) (fun _ U o U' => ∃ v L, o = .returned v ∧ Q2_0 Z p1 p2 p3 p4 h0 n0 v U'.heap L ∧ CHr Z own_EL U.vm U.heap U'.vm U'.heap ∧ ReturnedEndW U o U' L ({ frames := 3, cells := 4, slots := 8, locals := 43 } : Room).cells ({ frames := 3, cells := 4, slots := 8, locals := 43 } : Room).slots) := by
  refine MetFree.of_bodySF (plainFor_of_name pn_com_example_commitwright_commitwright_http_HeadTrimSpacePinLaw) hisR ?_
  intro p e s m args below meth c s₁ Bd hml0 hP hK
  obtain ⟨rfl, hZ, hh, hCH⟩ := hP
  have hx := Bd.exec
  have hby := Bd.bytes
  have hml : c.maxLocals = 5 := hml0
  have hown : s.vm.findClass "com/example/commitwright/commitwright/http/HeadTrimSpacePinLaw" = some m.cls := findClass_of_methodNamed Bd.named
  have hnm := (name_of_methodNamed Bd.named Bd.method).1
  have X0 : Stand p l e ({ frames := 3, cells := 4, slots := 8, locals := 43 } : Room) s m #[(.int (0 : Int32)), (.int p1), (.int p2), (.int p3), (.int p4)] below meth c s₁ [] 0 0 := Stand.of_body Bd
  have e0 : s₁.heap = h0 := by rw [← hh, Bd.state]; rfl
  have N0 := Fr.nil n0
  have pre0 : ∀ t, Steps p.tables e below (s₁.setTop (mkF m 0 #[.val (.int (0 : Int32)), .val (.int p1), .val (.int p2), .val (.int p3), .val (.int p4)] [])) t → Steps p.tables e below (s₁.setTop (entryFrame m #[(.int (0 : Int32)), (.int p1), (.int p2), (.int p3), (.int p4)] 5)) t := fun tt kt_ => castTop (ef_2_0 m (0 : Int32) p1 p2 p3 p4) kt_
  have CH0 : CHr Z own_EL s.vm h0 s.vm h0 := CHr.refl hCH
  have K0 : Keep h0 h0 [] := Keep.refl h0 []
  obtain ⟨T1, h1, X1, e1, E1, A1, D1, -, st1⟩ := newO X0 hx hZ hown (hw _ (List.mem_of_getElem? (i := 9) rfl)) (hw _ (List.mem_of_getElem? (i := 10) rfl)) (hw _ (List.mem_of_getElem? (i := 11) rfl)) e0 (g := (mkF m 4 #[.val (.int (0 : Int32)), .val (.int p1), .val (.int p2), .val (.int p3), .val (.int p4)] [])) rfl (hb hby d2_4) (by decide) (by decide)
  obtain ⟨b1, g1⟩ : ∃ z, z = h0.size := ⟨_, rfl⟩
  rw [← g1] at A1 D1 st1
  have g_b1 : n0 ≤ b1 := Nat.le_trans Z0 (Nat.le_of_eq g1.symm)
  have sz_b1 : h0.size ≤ b1 := Nat.le_trans K0.1 (Nat.le_of_eq g1.symm)
  have CH1 : CHr Z own_EL s.vm h0 s.vm h1 := CH0.trans (CHr.ext E1 CH0.1)
  have K1 : Keep h0 h1 [] := K0.ext E1
  have Z1 : n0 ≤ h1.size := Nat.le_trans Z0 E1.1
  have F_value_b1_at1 : Fld Z h1 b1 "java/lang/String" "value" "[B" .null := D1 (Or.inr (hw _ (List.mem_of_getElem? (i := 24) rfl))) (ty := (.array .byte)) (by decide)
  have F_coder_b1_at1 : Fld Z h1 b1 "java/lang/String" "coder" "B" (.int (0 : Int32)) := D1 (Or.inr (hw _ (List.mem_of_getElem? (i := 25) rfl))) (ty := .byte) (by decide)
  have E_b1_at1 : Exa Z h1 b1 "java/lang/String" := A1
  obtain ⟨T2, h2, k2, X2, e2, E2, A2, st2⟩ := newP X1 hx hZ (hw _ (List.mem_of_getElem? (i := 5) rfl)) e1 (g := (mkF m 9 #[.val (.int (0 : Int32)), .val (.int p1), .val (.int p2), .val (.int p3), .val (.int p4)] [(.int (0 : Int32)), (.ref b1), (.ref b1)])) rfl (hb hby d2_9) rfl (by decide) (cap := 0) (by decide) (by decide) (by decide) (by decide)
  obtain ⟨b2, g2⟩ : ∃ z, z = h1.size := ⟨_, rfl⟩
  rw [← g2] at A2 st2
  have g_b2 : n0 ≤ b2 := Nat.le_trans Z1 (Nat.le_of_eq g2.symm)
  have sz_b2 : h0.size ≤ b2 := Nat.le_trans K1.1 (Nat.le_of_eq g2.symm)
  have ne_b1_b2 : b1 ≠ b2 := Nat.ne_of_lt (Nat.lt_of_lt_of_le F_value_b1_at1.lt (Nat.le_of_eq g2.symm))
  have CH2 : CHr Z own_EL s.vm h0 s.vm h2 := CH1.trans (CHr.ext E2 CH1.1)
  have F_value_b1_at2 : Fld Z h2 b1 "java/lang/String" "value" "[B" .null := F_value_b1_at1.ext E2
  have F_coder_b1_at2 : Fld Z h2 b1 "java/lang/String" "coder" "B" (.int (0 : Int32)) := F_coder_b1_at1.ext E2
  have E_b1_at2 : Exa Z h2 b1 "java/lang/String" := E_b1_at1.ext E2
  have K2 : Keep h0 h2 [] := K1.ext E2
  have Z2 : n0 ≤ h2.size := Nat.le_trans Z1 E2.1
  have xV_b2_at2 := Arv.new A2 (by decide)
  have V_b2_at2 : Arv Z h2 b2 k2 .char (0 : Int32) [] (.int (0 : Int32)) := xV_b2_at2
  obtain ⟨_, _, ⟨T3, L3, k3, n3⟩, -, Y3, hs3, hg3, ⟨Lc3, hQ3, l3, y3, z3, hC3⟩, st3⟩ := X2.specialBackS hx (y := (⟨"java/lang/String", "<init>", "([C)V"⟩ : MethodName)) rfl hown (mvT hZ (hw _ (List.mem_of_getElem? (i := 12) rfl))) (mvT hZ (hw _ (List.mem_of_getElem? (i := 13) rfl))) (mvT hZ (hw _ (List.mem_of_getElem? (i := 14) rfl))) (by decide) (backOfSH (s := s) (vm0 := s.vm) (W := 1) (rm3_0 l Z a0 hw [] b1 b2 k2 h2 n0 Z2 E_b1_at2 F_value_b1_at2 F_coder_b1_at2 g_b1 V_b2_at2) hZ (hw _ (List.mem_of_getElem? (i := 14) rfl)) (hw _ (List.mem_of_getElem? (i := 11) rfl)) (by decide) (by decide) (own_EW hw) CH2.1) (g := (mkF m 11 #[.val (.int (0 : Int32)), .val (.int p1), .val (.int p2), .val (.int p3), .val (.int p4)] [(.ref b2), (.ref b1), (.ref b1)])) rfl (by rw [hml]; rfl) (Steps.refl _) (a := b1) (argsL := [(.ref b2)]) (rest := [(.ref b1)]) (lenOf pd_285bC29V rfl) rfl (by show 2 * 0 + _ ≤ _; exact Nat.le_of_eq rfl) (hb hby d2_11) (fun _ _ => ⟨rfl, e2, (by decide : 2 + 2 ≤ _), (by decide : 4 + 4 ≤ _)⟩)
  dsimp only [Pt.U, Pt.locs, Pt.cells, Pt.slots] at Y3 hs3 hg3 l3 y3 z3 st3 hQ3 hC3
  subst l3 y3 z3
  obtain ⟨X3, hS3, hZ3, hown3⟩ := rebS (s := s) (vm0 := s.vm) ((State.WarmedH.refl s).since 0) (Nat.zero_le _) Y3 hs3 hg3 hZ hown
  obtain ⟨rfl, N3q, KK3, b3, kb3, FC3, FV3, VB3⟩ := hQ3
  obtain ⟨h3, e3⟩ : ∃ z, T3.heap = z := ⟨_, rfl⟩
  rw [e3] at KK3 FC3 FV3 VB3
  have E_b1_at3 : Exa Z h3 b1 "java/lang/String" := E_b1_at2.keep KK3
  rw [e3] at hC3
  have CH3 : CHr Z own_EL s.vm h0 T3.vm h3 := CH2.trans hC3
  have K3 : Keep h0 h3 [] := K2.trans KK3 (allS (Or.inr sz_b1) all0)
  have Z3 : n0 ≤ h3.size := Nat.le_trans Z2 KK3.1
  rw [e3] at hS3
  have N3 := Fr.app N0 N3q
  have CHe : CHr Z own_EL s.vm s.heap T3.vm T3.heap := by
    have q := CH3.trans (CHv.at (s := s) X3 hZ3 (own_EW hw) CH3.1)
    rw [hh, e3]
    exact q
  obtain ⟨fs, hr, hrun, hended, rw1, rw2, rw3, rw4⟩ := X3.leaveW hS3 (by rw [e3]; exact (Nat.le_refl _)) (v := some (.ref b1)) (fun h => by rw [Bd.returns] at h; cases h)
  refine ⟨_, _, pre0 _ ?_, hrun, hended, _, _, rfl, ?_, CHe, rw1, rw2, rw3, rw4.mono (by decide) (by decide)⟩
  · show Steps p.tables e below (s₁.setTop (mkF m 0 #[.val (.int (0 : Int32)), .val (.int p1), .val (.int p2), .val (.int p3), .val (.int p4)] [])) _
    refine XS.iloadN X0.here hx rfl (hb hby d2_0) rfl ?_
    show Steps p.tables e below (s₁.setTop (mkF m 1 #[.val (.int (0 : Int32)), .val (.int p1), .val (.int p2), .val (.int p3), .val (.int p4)] [(.int (0 : Int32))])) _
    refine XS.ifNo X0.here hx rfl (hb hby d2_1) rfl ((if0 _ _).trans (teq (by decide : (0 : Int32) = (0 : Int32))).2) ?_
    show Steps p.tables e below (s₁.setTop (mkF m 4 #[.val (.int (0 : Int32)), .val (.int p1), .val (.int p2), .val (.int p3), .val (.int p4)] [])) _
    refine st1 _ ?_
    show Steps p.tables e below (T1.setTop (mkF m 7 #[.val (.int (0 : Int32)), .val (.int p1), .val (.int p2), .val (.int p3), .val (.int p4)] [(.ref b1)])) _
    refine XS.dup X1.here hx rfl (hb hby d2_7) rfl rfl ?_
    refine XS.iconst X1.here hx rfl (hb hby d2_8) ?_
    show Steps p.tables e below (T1.setTop (mkF m 9 #[.val (.int (0 : Int32)), .val (.int p1), .val (.int p2), .val (.int p3), .val (.int p4)] [(.int (0 : Int32)), (.ref b1), (.ref b1)])) _
    refine st2 _ ?_
    show Steps p.tables e below (T2.setTop (mkF m 11 #[.val (.int (0 : Int32)), .val (.int p1), .val (.int p2), .val (.int p3), .val (.int p4)] [(.ref b2), (.ref b1), (.ref b1)])) _
    refine st3.trans ?_
    show Steps p.tables e below (T3.setTop (mkF m 14 #[.val (.int (0 : Int32)), .val (.int p1), .val (.int p2), .val (.int p3), .val (.int p4)] [(.ref b1)])) _
    jvm_step X3.here [X3.here.top, hx, (hb hby d2_14), X3.method', Bd.returns, Value.isRef, FieldType.isReference]
    first | (intro acts; rw [hr _ acts rfl rfl rfl]) | rw [hr _ _ rfl rfl rfl]
    exact Steps.refl _
  · show Q2_0 Z p1 p2 p3 p4 h0 n0 _ T3.heap _
    rw [e3]
    exact ⟨b1, b3, _, rfl, N3, K3, E_b1_at3, FC3, FV3, VB3⟩
def Q2m (Z : State) (nz : Nat) (p1 p2 p3 p4 : Int32) (cs : Int32) (h0 : Heap) (n0 : Nat) (v : Option Value) (h : Heap) (L : List Loc) : Prop := ∃ (r b : Addr) (kb : ClassId), v = some (.ref r) ∧ Fr n0 L ∧ Keep h0 h [] ∧ Exa Z h r "java/lang/String" ∧ Fld Z h r "java/lang/String" "coder" "B" (.int (0 : Int32)) ∧ Fld Z h r "java/lang/String" "value" "[B" (.ref b) ∧ Arv Z h b kb .byte (Int32.ofNat nz) (own_bys ([p1, p2, p3, p4].take nz)) (.int (0 : Int32))
theorem rm2m (l : Launch) (Z : State) (a0 : Array Value) (hw : ∀ d ∈ tables_1, d.before a0 Z = true) (ws : List Jvm.Cond) (nz : Nat) (p1 p2 p3 p4 : Int32) (cs : Int32) (h0 : Heap) (n0 : Nat) (Z0 : n0 ≤ h0.size) (O_0 : Old Z n0 h0) (S_cs : Sta Z Z.heap "java/lang/String" "COMPACT_STRINGS" "Z" (.int cs)) (hcs : ¬ (cs = (0 : Int32))) (hp1 : own_ch p1) (hp2 : own_ch p2) (hp3 : own_ch p3) (hp4 : own_ch p4) (hz0 : 0 < nz) (hz4 : nz ≤ 4) :
    MetFree l (⟨"com/example/commitwright/commitwright/http/HeadTrimSpacePinLaw", "make", "(ICCCC)Ljava/lang/String;"⟩ : MethodName) (head1 (Jvm.Cond.code (⟨"com/example/commitwright/commitwright/http/HeadTrimSpacePinLaw", "make", "(ICCCC)Ljava/lang/String;"⟩ : MethodName) method_4_code 5 (some (.object "java/lang/String")) :: ws) ({ frames := 4, cells := 3, slots := 12, locals := 66 } : Room)) (fun a U => a = #[(.int (Int32.ofNat nz)), (.int p1), (.int p2), (.int p3), (.int p4)] ∧ Z.Warmed39 U.vm ∧ U.heap = h0) (fun _ _ _ _ _ => True) (fun _ U o U' => ∃ v L, o = .returned v ∧ Q2m Z nz p1 p2 p3 p4 cs h0 n0 v U'.heap L ∧ FrameEnd U o U' L ({ frames := 4, cells := 3, slots := 12, locals := 66 } : Room).cells ({ frames := 4, cells := 3, slots := 12, locals := 66 } : Room).slots) := by
  obtain rfl | rfl | rfl | rfl : nz = 1 ∨ nz = 2 ∨ nz = 3 ∨ nz = 4 := by omega
  · exact rm2_1 l Z a0 hw ws p1 p2 p3 p4 cs h0 n0 Z0 O_0 S_cs hcs hp1 hp2 hp3 hp4
  · exact rm2_2 l Z a0 hw ws p1 p2 p3 p4 cs h0 n0 Z0 O_0 S_cs hcs hp1 hp2 hp3 hp4
  · exact rm2_3 l Z a0 hw ws p1 p2 p3 p4 cs h0 n0 Z0 O_0 S_cs hcs hp1 hp2 hp3 hp4
  · exact rm2_4 l Z a0 hw ws p1 p2 p3 p4 cs h0 n0 Z0 O_0 S_cs hcs hp1 hp2 hp3 hp4
theorem ef_28 (m : MethodId) (x0 : Int32) : entryFrame m #[(.int x0)] 1 = mkF m 0 #[.val (.int x0)] [] := by first | (simp [entryFrame, mkF, argsToLocals, Value.category]; done) | rfl
theorem d28_0 : decode method_3_code 0 = .ok (.iload_n 0, 1) := by decide +kernel
theorem d28_1 : decode method_3_code 1 = .ok (.bipush 32, 2) := by decide +kernel
theorem d28_3 : decode method_3_code 3 = .ok (.if_icmp .eq 9, 3) := by decide +kernel
theorem d28_12 : decode method_3_code 12 = .ok (.iconst 1, 1) := by decide +kernel
theorem d28_13 : decode method_3_code 13 = .ok (.goto 4, 3) := by decide +kernel
theorem d28_17 : decode method_3_code 17 = .ok (.ireturn, 1) := by decide +kernel
theorem d28_6 : decode method_3_code 6 = .ok (.iload_n 0, 1) := by decide +kernel
theorem d28_7 : decode method_3_code 7 = .ok (.bipush 9, 2) := by decide +kernel
theorem d28_9 : decode method_3_code 9 = .ok (.if_icmp .ne 7, 3) := by decide +kernel
theorem d28_16 : decode method_3_code 16 = .ok (.iconst 0, 1) := by decide +kernel
def Q28 (Z : State) (p0 : Int32) (h0 : Heap) (n0 : Nat) (v : Option Value) (h : Heap) (L : List Loc) : Prop := v = some (.int (own_sp p0)) ∧ Fr n0 L ∧ h = h0
set_option maxRecDepth 65536 in
set_option maxHeartbeats 40000000 in
theorem rm28 (l : Launch) (Z : State) (a0 : Array Value) (hw : ∀ d ∈ tables_1, d.before a0 Z = true) (ws : List Jvm.Cond) (p0 : Int32) (h0 : Heap) (n0 : Nat) (Z0 : n0 ≤ h0.size)  :
    MetFree l (⟨"com/example/commitwright/commitwright/http/HeadTrimSpacePinLaw", "sp", "(C)Z"⟩ : MethodName) (head1 (Jvm.Cond.code (⟨"com/example/commitwright/commitwright/http/HeadTrimSpacePinLaw", "sp", "(C)Z"⟩ : MethodName) method_3_code 1 (some .boolean) :: ws) ({ frames := 0, cells := 0, slots := 0, locals := 0 } : Room)) (fun a U => a = #[(.int p0)] ∧ Z.Warmed39 U.vm ∧ U.heap = h0) (fun _ _ _ _ _ => True) (fun _ U o U' => ∃ v L, o = .returned v ∧ Q28 Z p0 h0 n0 v U'.heap L ∧ FrameEnd U o U' L ({ frames := 0, cells := 0, slots := 0, locals := 0 } : Room).cells ({ frames := 0, cells := 0, slots := 0, locals := 0 } : Room).slots) := by
  refine MetFree.of_bodySF (plainFor_of_name pn_com_example_commitwright_commitwright_http_HeadTrimSpacePinLaw) hisR ?_
  intro p e s m args below meth c s₁ Bd hml0 hP hK
  obtain ⟨rfl, hZ, hh⟩ := hP
  have hx := Bd.exec
  have hby := Bd.bytes
  have hml : c.maxLocals = 1 := hml0
  have hown : s.vm.findClass "com/example/commitwright/commitwright/http/HeadTrimSpacePinLaw" = some m.cls := findClass_of_methodNamed Bd.named
  have hnm := (name_of_methodNamed Bd.named Bd.method).1
  have X0 : Stand p l e ({ frames := 0, cells := 0, slots := 0, locals := 0 } : Room) s m #[(.int p0)] below meth c s₁ [] 0 0 := Stand.of_body Bd
  have e0 : s₁.heap = h0 := by rw [← hh, Bd.state]; rfl
  have N0 := Fr.nil n0
  have pre0 : ∀ t, Steps p.tables e below (s₁.setTop (mkF m 0 #[.val (.int p0)] [])) t → Steps p.tables e below (s₁.setTop (entryFrame m #[(.int p0)] 1)) t := fun tt kt_ => castTop (ef_28 m p0) kt_
  by_cases hc3 : p0 = (32 : Int32)
  · obtain ⟨fs, hr, hrun, hended, hW, hsame⟩ := X0.leave (v := some (.int (1 : Int32))) (fun h => by rw [Bd.returns] at h; cases h)
    refine ⟨_, _, pre0 _ ?_, hrun, hended, _, _, rfl, ?_, ⟨_, rfl⟩, hW, hsame.mono (by decide) (by decide)⟩
    · show Steps p.tables e below (s₁.setTop (mkF m 0 #[.val (.int p0)] [])) _
      refine XS.iloadN X0.here hx rfl (hb hby d28_0) rfl ?_
      refine XS.bipush X0.here hx rfl (hb hby d28_1) ?_
      show Steps p.tables e below (s₁.setTop (mkF m 3 #[.val (.int p0)] [(.int (32 : Int32)), (.int p0)])) _
      refine XS.icmpYes X0.here hx rfl (pc0 := 3) (pc' := 12) rfl (hb hby d28_3) rfl (teq hc3).1 (by decide) (by decide) ?_
      refine XS.iconst X0.here hx rfl (hb hby d28_12) ?_
      show Steps p.tables e below (s₁.setTop (mkF m 13 #[.val (.int p0)] [(.int (1 : Int32))])) _
      refine XS.goto X0.here hx rfl (pc0 := 13) (pc' := 17) rfl (hb hby d28_13) (by decide) (by decide) ?_
      show Steps p.tables e below (s₁.setTop (mkF m 17 #[.val (.int p0)] [(.int (1 : Int32))])) _
      exact retN X0 hx (t := .boolean) Bd.returns (by simp) (hb hby d28_17) hr
    · show Q28 Z p0 h0 n0 _ s₁.heap _
      rw [e0]
      exact ⟨by rw [own_sp, if_pos hc3], N0, rfl⟩
  · by_cases hc9 : p0 = (9 : Int32)
    · obtain ⟨fs, hr, hrun, hended, hW, hsame⟩ := X0.leave (v := some (.int (1 : Int32))) (fun h => by rw [Bd.returns] at h; cases h)
      refine ⟨_, _, pre0 _ ?_, hrun, hended, _, _, rfl, ?_, ⟨_, rfl⟩, hW, hsame.mono (by decide) (by decide)⟩
      · show Steps p.tables e below (s₁.setTop (mkF m 0 #[.val (.int p0)] [])) _
        refine XS.iloadN X0.here hx rfl (hb hby d28_0) rfl ?_
        refine XS.bipush X0.here hx rfl (hb hby d28_1) ?_
        show Steps p.tables e below (s₁.setTop (mkF m 3 #[.val (.int p0)] [(.int (32 : Int32)), (.int p0)])) _
        refine XS.icmpNo X0.here hx rfl (hb hby d28_3) rfl (feq hc3).1 ?_
        refine XS.iloadN X0.here hx rfl (hb hby d28_6) rfl ?_
        refine XS.bipush X0.here hx rfl (hb hby d28_7) ?_
        show Steps p.tables e below (s₁.setTop (mkF m 9 #[.val (.int p0)] [(.int (9 : Int32)), (.int p0)])) _
        refine XS.icmpNo X0.here hx rfl (hb hby d28_9) rfl (teq hc9).2 ?_
        refine XS.iconst X0.here hx rfl (hb hby d28_12) ?_
        show Steps p.tables e below (s₁.setTop (mkF m 13 #[.val (.int p0)] [(.int (1 : Int32))])) _
        refine XS.goto X0.here hx rfl (pc0 := 13) (pc' := 17) rfl (hb hby d28_13) (by decide) (by decide) ?_
        show Steps p.tables e below (s₁.setTop (mkF m 17 #[.val (.int p0)] [(.int (1 : Int32))])) _
        exact retN X0 hx (t := .boolean) Bd.returns (by simp) (hb hby d28_17) hr
      · show Q28 Z p0 h0 n0 _ s₁.heap _
        rw [e0]
        exact ⟨by rw [own_sp, if_neg hc3, if_pos hc9], N0, rfl⟩
    · obtain ⟨fs, hr, hrun, hended, hW, hsame⟩ := X0.leave (v := some (.int (0 : Int32))) (fun h => by rw [Bd.returns] at h; cases h)
      refine ⟨_, _, pre0 _ ?_, hrun, hended, _, _, rfl, ?_, ⟨_, rfl⟩, hW, hsame.mono (by decide) (by decide)⟩
      · show Steps p.tables e below (s₁.setTop (mkF m 0 #[.val (.int p0)] [])) _
        refine XS.iloadN X0.here hx rfl (hb hby d28_0) rfl ?_
        refine XS.bipush X0.here hx rfl (hb hby d28_1) ?_
        show Steps p.tables e below (s₁.setTop (mkF m 3 #[.val (.int p0)] [(.int (32 : Int32)), (.int p0)])) _
        refine XS.icmpNo X0.here hx rfl (hb hby d28_3) rfl (feq hc3).1 ?_
        refine XS.iloadN X0.here hx rfl (hb hby d28_6) rfl ?_
        refine XS.bipush X0.here hx rfl (hb hby d28_7) ?_
        show Steps p.tables e below (s₁.setTop (mkF m 9 #[.val (.int p0)] [(.int (9 : Int32)), (.int p0)])) _
        refine XS.icmpYes X0.here hx rfl (pc0 := 9) (pc' := 16) rfl (hb hby d28_9) rfl (feq hc9).2 (by decide) (by decide) ?_
        refine XS.iconst X0.here hx rfl (hb hby d28_16) ?_
        show Steps p.tables e below (s₁.setTop (mkF m 17 #[.val (.int p0)] [(.int (0 : Int32))])) _
        exact retN X0 hx (t := .boolean) Bd.returns (by simp) (hb hby d28_17) hr
      · show Q28 Z p0 h0 n0 _ s₁.heap _
        rw [e0]
        exact ⟨by rw [own_sp, if_neg hc3, if_neg hc9], N0, rfl⟩
theorem ef_21 (m : MethodId) (x0 : Int32) : entryFrame m #[(.int x0)] 1 = mkF m 0 #[.val (.int x0)] [] := by first | (simp [entryFrame, mkF, argsToLocals, Value.category]; done) | rfl
theorem pn_com_example_commitwright_commitwright_http_Head : plainName "com/example/commitwright/commitwright/http/Head" = true := by first | (simp [plainName, overriddenIn]; done) | decide +kernel
theorem d21_0 : decode prog_15_method_8_code 0 = .ok (.iload_n 0, 1) := by decide +kernel
theorem d21_1 : decode prog_15_method_8_code 1 = .ok (.bipush 32, 2) := by decide +kernel
theorem d21_3 : decode prog_15_method_8_code 3 = .ok (.if_icmp .eq 9, 3) := by decide +kernel
theorem d21_12 : decode prog_15_method_8_code 12 = .ok (.iconst 1, 1) := by decide +kernel
theorem d21_13 : decode prog_15_method_8_code 13 = .ok (.goto 4, 3) := by decide +kernel
theorem d21_17 : decode prog_15_method_8_code 17 = .ok (.ireturn, 1) := by decide +kernel
theorem d21_6 : decode prog_15_method_8_code 6 = .ok (.iload_n 0, 1) := by decide +kernel
theorem d21_7 : decode prog_15_method_8_code 7 = .ok (.bipush 9, 2) := by decide +kernel
theorem d21_9 : decode prog_15_method_8_code 9 = .ok (.if_icmp .ne 7, 3) := by decide +kernel
theorem d21_16 : decode prog_15_method_8_code 16 = .ok (.iconst 0, 1) := by decide +kernel
def Q21 (Z : State) (p0 : Int32) (h0 : Heap) (n0 : Nat) (v : Option Value) (h : Heap) (L : List Loc) : Prop := v = some (.int (own_sp p0)) ∧ Fr n0 L ∧ h = h0
set_option maxRecDepth 65536 in
set_option maxHeartbeats 40000000 in
theorem rm21 (l : Launch) (Z : State) (a0 : Array Value) (hw : ∀ d ∈ tables_1, d.before a0 Z = true) (ws : List Jvm.Cond) (p0 : Int32) (h0 : Heap) (n0 : Nat) (Z0 : n0 ≤ h0.size)  :
    MetFree l (⟨"com/example/commitwright/commitwright/http/Head", "isSpace", "(C)Z"⟩ : MethodName) (head1 (Jvm.Cond.code (⟨"com/example/commitwright/commitwright/http/Head", "isSpace", "(C)Z"⟩ : MethodName) prog_15_method_8_code 1 (some .boolean) :: ws) ({ frames := 0, cells := 0, slots := 0, locals := 0 } : Room)) (fun a U => a = #[(.int p0)] ∧ Z.Warmed39 U.vm ∧ U.heap = h0) (fun _ _ _ _ _ => True) (fun _ U o U' => ∃ v L, o = .returned v ∧ Q21 Z p0 h0 n0 v U'.heap L ∧ FrameEnd U o U' L ({ frames := 0, cells := 0, slots := 0, locals := 0 } : Room).cells ({ frames := 0, cells := 0, slots := 0, locals := 0 } : Room).slots) := by
  refine MetFree.of_bodySF (plainFor_of_name pn_com_example_commitwright_commitwright_http_Head) hisR ?_
  intro p e s m args below meth c s₁ Bd hml0 hP hK
  obtain ⟨rfl, hZ, hh⟩ := hP
  have hx := Bd.exec
  have hby := Bd.bytes
  have hml : c.maxLocals = 1 := hml0
  have hown : s.vm.findClass "com/example/commitwright/commitwright/http/Head" = some m.cls := findClass_of_methodNamed Bd.named
  have hnm := (name_of_methodNamed Bd.named Bd.method).1
  have X0 : Stand p l e ({ frames := 0, cells := 0, slots := 0, locals := 0 } : Room) s m #[(.int p0)] below meth c s₁ [] 0 0 := Stand.of_body Bd
  have e0 : s₁.heap = h0 := by rw [← hh, Bd.state]; rfl
  have N0 := Fr.nil n0
  have pre0 : ∀ t, Steps p.tables e below (s₁.setTop (mkF m 0 #[.val (.int p0)] [])) t → Steps p.tables e below (s₁.setTop (entryFrame m #[(.int p0)] 1)) t := fun tt kt_ => castTop (ef_21 m p0) kt_
  by_cases hc3 : p0 = (32 : Int32)
  · obtain ⟨fs, hr, hrun, hended, hW, hsame⟩ := X0.leave (v := some (.int (1 : Int32))) (fun h => by rw [Bd.returns] at h; cases h)
    refine ⟨_, _, pre0 _ ?_, hrun, hended, _, _, rfl, ?_, ⟨_, rfl⟩, hW, hsame.mono (by decide) (by decide)⟩
    · show Steps p.tables e below (s₁.setTop (mkF m 0 #[.val (.int p0)] [])) _
      refine XS.iloadN X0.here hx rfl (hb hby d21_0) rfl ?_
      refine XS.bipush X0.here hx rfl (hb hby d21_1) ?_
      show Steps p.tables e below (s₁.setTop (mkF m 3 #[.val (.int p0)] [(.int (32 : Int32)), (.int p0)])) _
      refine XS.icmpYes X0.here hx rfl (pc0 := 3) (pc' := 12) rfl (hb hby d21_3) rfl (teq hc3).1 (by decide) (by decide) ?_
      refine XS.iconst X0.here hx rfl (hb hby d21_12) ?_
      show Steps p.tables e below (s₁.setTop (mkF m 13 #[.val (.int p0)] [(.int (1 : Int32))])) _
      refine XS.goto X0.here hx rfl (pc0 := 13) (pc' := 17) rfl (hb hby d21_13) (by decide) (by decide) ?_
      show Steps p.tables e below (s₁.setTop (mkF m 17 #[.val (.int p0)] [(.int (1 : Int32))])) _
      exact retN X0 hx (t := .boolean) Bd.returns (by simp) (hb hby d21_17) hr
    · show Q21 Z p0 h0 n0 _ s₁.heap _
      rw [e0]
      exact ⟨by rw [own_sp, if_pos hc3], N0, rfl⟩
  · by_cases hc9 : p0 = (9 : Int32)
    · obtain ⟨fs, hr, hrun, hended, hW, hsame⟩ := X0.leave (v := some (.int (1 : Int32))) (fun h => by rw [Bd.returns] at h; cases h)
      refine ⟨_, _, pre0 _ ?_, hrun, hended, _, _, rfl, ?_, ⟨_, rfl⟩, hW, hsame.mono (by decide) (by decide)⟩
      · show Steps p.tables e below (s₁.setTop (mkF m 0 #[.val (.int p0)] [])) _
        refine XS.iloadN X0.here hx rfl (hb hby d21_0) rfl ?_
        refine XS.bipush X0.here hx rfl (hb hby d21_1) ?_
        show Steps p.tables e below (s₁.setTop (mkF m 3 #[.val (.int p0)] [(.int (32 : Int32)), (.int p0)])) _
        refine XS.icmpNo X0.here hx rfl (hb hby d21_3) rfl (feq hc3).1 ?_
        refine XS.iloadN X0.here hx rfl (hb hby d21_6) rfl ?_
        refine XS.bipush X0.here hx rfl (hb hby d21_7) ?_
        show Steps p.tables e below (s₁.setTop (mkF m 9 #[.val (.int p0)] [(.int (9 : Int32)), (.int p0)])) _
        refine XS.icmpNo X0.here hx rfl (hb hby d21_9) rfl (teq hc9).2 ?_
        refine XS.iconst X0.here hx rfl (hb hby d21_12) ?_
        show Steps p.tables e below (s₁.setTop (mkF m 13 #[.val (.int p0)] [(.int (1 : Int32))])) _
        refine XS.goto X0.here hx rfl (pc0 := 13) (pc' := 17) rfl (hb hby d21_13) (by decide) (by decide) ?_
        show Steps p.tables e below (s₁.setTop (mkF m 17 #[.val (.int p0)] [(.int (1 : Int32))])) _
        exact retN X0 hx (t := .boolean) Bd.returns (by simp) (hb hby d21_17) hr
      · show Q21 Z p0 h0 n0 _ s₁.heap _
        rw [e0]
        exact ⟨by rw [own_sp, if_neg hc3, if_pos hc9], N0, rfl⟩
    · obtain ⟨fs, hr, hrun, hended, hW, hsame⟩ := X0.leave (v := some (.int (0 : Int32))) (fun h => by rw [Bd.returns] at h; cases h)
      refine ⟨_, _, pre0 _ ?_, hrun, hended, _, _, rfl, ?_, ⟨_, rfl⟩, hW, hsame.mono (by decide) (by decide)⟩
      · show Steps p.tables e below (s₁.setTop (mkF m 0 #[.val (.int p0)] [])) _
        refine XS.iloadN X0.here hx rfl (hb hby d21_0) rfl ?_
        refine XS.bipush X0.here hx rfl (hb hby d21_1) ?_
        show Steps p.tables e below (s₁.setTop (mkF m 3 #[.val (.int p0)] [(.int (32 : Int32)), (.int p0)])) _
        refine XS.icmpNo X0.here hx rfl (hb hby d21_3) rfl (feq hc3).1 ?_
        refine XS.iloadN X0.here hx rfl (hb hby d21_6) rfl ?_
        refine XS.bipush X0.here hx rfl (hb hby d21_7) ?_
        show Steps p.tables e below (s₁.setTop (mkF m 9 #[.val (.int p0)] [(.int (9 : Int32)), (.int p0)])) _
        refine XS.icmpYes X0.here hx rfl (pc0 := 9) (pc' := 16) rfl (hb hby d21_9) rfl (feq hc9).2 (by decide) (by decide) ?_
        refine XS.iconst X0.here hx rfl (hb hby d21_16) ?_
        show Steps p.tables e below (s₁.setTop (mkF m 17 #[.val (.int p0)] [(.int (0 : Int32))])) _
        exact retN X0 hx (t := .boolean) Bd.returns (by simp) (hb hby d21_17) hr
      · show Q21 Z p0 h0 n0 _ s₁.heap _
        rw [e0]
        exact ⟨by rw [own_sp, if_neg hc3, if_neg hc9], N0, rfl⟩
theorem ef_1 (m : MethodId) (x0 : Int32) : entryFrame m #[(.int x0)] 2 = mkF m 0 #[.val (.int x0), .unset] [] := by first | (simp [entryFrame, mkF, argsToLocals, Value.category]; done) | rfl
theorem d1_0 : decode method_2_code 0 = .ok (.iload_n 0, 1) := by decide +kernel
theorem d1_1 : decode method_2_code 1 = .ok (.iconst 3, 1) := by decide +kernel
theorem d1_2 : decode method_2_code 2 = .ok (.iand, 1) := by decide +kernel
theorem d1_3 : decode method_2_code 3 = .ok (.istore_n 1, 1) := by decide +kernel
theorem d1_4 : decode method_2_code 4 = .ok (.iload_n 1, 1) := by decide +kernel
theorem d1_5 : decode method_2_code 5 = .ok (.ifCond .ne 6, 3) := by decide +kernel
theorem d1_8 : decode method_2_code 8 = .ok (.bipush 32, 2) := by decide +kernel
theorem d1_10 : decode method_2_code 10 = .ok (.ireturn, 1) := by decide +kernel
theorem d1_11 : decode method_2_code 11 = .ok (.iload_n 1, 1) := by decide +kernel
theorem d1_12 : decode method_2_code 12 = .ok (.iconst 1, 1) := by decide +kernel
theorem d1_13 : decode method_2_code 13 = .ok (.if_icmp .ne 6, 3) := by decide +kernel
theorem d1_16 : decode method_2_code 16 = .ok (.bipush 9, 2) := by decide +kernel
theorem d1_18 : decode method_2_code 18 = .ok (.ireturn, 1) := by decide +kernel
theorem d1_19 : decode method_2_code 19 = .ok (.iload_n 0, 1) := by decide +kernel
theorem d1_20 : decode method_2_code 20 = .ok (.iconst 2, 1) := by decide +kernel
theorem d1_21 : decode method_2_code 21 = .ok (.iushr, 1) := by decide +kernel
theorem d1_22 : decode method_2_code 22 = .ok (.sipush 255, 3) := by decide +kernel
theorem d1_25 : decode method_2_code 25 = .ok (.iand, 1) := by decide +kernel
theorem d1_26 : decode method_2_code 26 = .ok (.i2c, 1) := by decide +kernel
theorem d1_27 : decode method_2_code 27 = .ok (.ireturn, 1) := by decide +kernel
def Q1 (Z : State) (p0 : Int32) (h0 : Heap) (n0 : Nat) (v : Option Value) (h : Heap) (L : List Loc) : Prop := v = some (.int (own_chr p0)) ∧ Fr n0 L ∧ h = h0
set_option maxRecDepth 65536 in
set_option maxHeartbeats 40000000 in
theorem rm1 (l : Launch) (Z : State) (a0 : Array Value) (hw : ∀ d ∈ tables_1, d.before a0 Z = true) (ws : List Jvm.Cond) (p0 : Int32) (h0 : Heap) (n0 : Nat) (Z0 : n0 ≤ h0.size)  :
    MetFree l (⟨"com/example/commitwright/commitwright/http/HeadTrimSpacePinLaw", "ch", "(I)C"⟩ : MethodName) (head1 (Jvm.Cond.code (⟨"com/example/commitwright/commitwright/http/HeadTrimSpacePinLaw", "ch", "(I)C"⟩ : MethodName) method_2_code 2 (some .char) :: ws) ({ frames := 0, cells := 0, slots := 0, locals := 0 } : Room)) (fun a U => a = #[(.int p0)] ∧ Z.Warmed39 U.vm ∧ U.heap = h0) (fun _ _ _ _ _ => True) (fun _ U o U' => ∃ v L, o = .returned v ∧ Q1 Z p0 h0 n0 v U'.heap L ∧ FrameEnd U o U' L ({ frames := 0, cells := 0, slots := 0, locals := 0 } : Room).cells ({ frames := 0, cells := 0, slots := 0, locals := 0 } : Room).slots) := by
  refine MetFree.of_bodySF (plainFor_of_name pn_com_example_commitwright_commitwright_http_HeadTrimSpacePinLaw) hisR ?_
  intro p e s m args below meth c s₁ Bd hml0 hP hK
  obtain ⟨rfl, hZ, hh⟩ := hP
  have hx := Bd.exec
  have hby := Bd.bytes
  have hml : c.maxLocals = 2 := hml0
  have hown : s.vm.findClass "com/example/commitwright/commitwright/http/HeadTrimSpacePinLaw" = some m.cls := findClass_of_methodNamed Bd.named
  have hnm := (name_of_methodNamed Bd.named Bd.method).1
  have X0 : Stand p l e ({ frames := 0, cells := 0, slots := 0, locals := 0 } : Room) s m #[(.int p0)] below meth c s₁ [] 0 0 := Stand.of_body Bd
  have e0 : s₁.heap = h0 := by rw [← hh, Bd.state]; rfl
  have N0 := Fr.nil n0
  have pre0 : ∀ t, Steps p.tables e below (s₁.setTop (mkF m 0 #[.val (.int p0), .unset] [])) t → Steps p.tables e below (s₁.setTop (entryFrame m #[(.int p0)] 2)) t := fun tt kt_ => castTop (ef_1 m p0) kt_
  by_cases hc5 : (p0 &&& (3 : Int32)) = (0 : Int32)
  · obtain ⟨fs, hr, hrun, hended, hW, hsame⟩ := X0.leave (v := some (.int (nar .char (32 : Int32)))) (fun h => by rw [Bd.returns] at h; cases h)
    refine ⟨_, _, pre0 _ ?_, hrun, hended, _, _, rfl, ?_, ⟨_, rfl⟩, hW, hsame.mono (by decide) (by decide)⟩
    · show Steps p.tables e below (s₁.setTop (mkF m 0 #[.val (.int p0), .unset] [])) _
      refine XS.iloadN X0.here hx rfl (hb hby d1_0) rfl ?_
      refine XS.iconst X0.here hx rfl (hb hby d1_1) ?_
      show Steps p.tables e below (s₁.setTop (mkF m 2 #[.val (.int p0), .unset] [(.int (3 : Int32)), (.int p0)])) _
      refine XS.iand X0.here hx rfl (hb hby d1_2) rfl ?_
      show Steps p.tables e below (s₁.setTop (mkF m 3 #[.val (.int p0), .unset] [(.int (p0 &&& (3 : Int32)))])) _
      refine XS.istoreN X0.here hx rfl (hb hby d1_3) rfl (l' := #[.val (.int p0), .val (.int (p0 &&& (3 : Int32)))]) rfl ?_
      refine XS.iloadN X0.here hx rfl (hb hby d1_4) rfl ?_
      show Steps p.tables e below (s₁.setTop (mkF m 5 #[.val (.int p0), .val (.int (p0 &&& (3 : Int32)))] [(.int (p0 &&& (3 : Int32)))])) _
      refine XS.ifNo X0.here hx rfl (hb hby d1_5) rfl ((if0 _ _).trans (teq hc5).2) ?_
      refine XS.bipush X0.here hx rfl (hb hby d1_8) ?_
      show Steps p.tables e below (s₁.setTop (mkF m 10 #[.val (.int p0), .val (.int (p0 &&& (3 : Int32)))] [(.int (32 : Int32))])) _
      exact retN X0 hx (t := .char) Bd.returns (by simp) (hb hby d1_10) hr
    · show Q1 Z p0 h0 n0 _ s₁.heap _
      rw [e0]
      exact ⟨by rw [own_chr, if_pos hc5]; rfl, N0, rfl⟩
  · by_cases hc13 : (p0 &&& (3 : Int32)) = (1 : Int32)
    · obtain ⟨fs, hr, hrun, hended, hW, hsame⟩ := X0.leave (v := some (.int (nar .char (9 : Int32)))) (fun h => by rw [Bd.returns] at h; cases h)
      refine ⟨_, _, pre0 _ ?_, hrun, hended, _, _, rfl, ?_, ⟨_, rfl⟩, hW, hsame.mono (by decide) (by decide)⟩
      · show Steps p.tables e below (s₁.setTop (mkF m 0 #[.val (.int p0), .unset] [])) _
        refine XS.iloadN X0.here hx rfl (hb hby d1_0) rfl ?_
        refine XS.iconst X0.here hx rfl (hb hby d1_1) ?_
        show Steps p.tables e below (s₁.setTop (mkF m 2 #[.val (.int p0), .unset] [(.int (3 : Int32)), (.int p0)])) _
        refine XS.iand X0.here hx rfl (hb hby d1_2) rfl ?_
        show Steps p.tables e below (s₁.setTop (mkF m 3 #[.val (.int p0), .unset] [(.int (p0 &&& (3 : Int32)))])) _
        refine XS.istoreN X0.here hx rfl (hb hby d1_3) rfl (l' := #[.val (.int p0), .val (.int (p0 &&& (3 : Int32)))]) rfl ?_
        refine XS.iloadN X0.here hx rfl (hb hby d1_4) rfl ?_
        show Steps p.tables e below (s₁.setTop (mkF m 5 #[.val (.int p0), .val (.int (p0 &&& (3 : Int32)))] [(.int (p0 &&& (3 : Int32)))])) _
        refine XS.ifYes X0.here hx rfl (pc0 := 5) (pc' := 11) rfl (hb hby d1_5) rfl ((if0 _ _).trans (feq hc5).2) (by decide) (by decide) ?_
        refine XS.iloadN X0.here hx rfl (hb hby d1_11) rfl ?_
        refine XS.iconst X0.here hx rfl (hb hby d1_12) ?_
        show Steps p.tables e below (s₁.setTop (mkF m 13 #[.val (.int p0), .val (.int (p0 &&& (3 : Int32)))] [(.int (1 : Int32)), (.int (p0 &&& (3 : Int32)))])) _
        refine XS.icmpNo X0.here hx rfl (hb hby d1_13) rfl (teq hc13).2 ?_
        refine XS.bipush X0.here hx rfl (hb hby d1_16) ?_
        show Steps p.tables e below (s₁.setTop (mkF m 18 #[.val (.int p0), .val (.int (p0 &&& (3 : Int32)))] [(.int (9 : Int32))])) _
        exact retN X0 hx (t := .char) Bd.returns (by simp) (hb hby d1_18) hr
      · show Q1 Z p0 h0 n0 _ s₁.heap _
        rw [e0]
        exact ⟨by rw [own_chr, if_neg hc5, if_pos hc13]; rfl, N0, rfl⟩
    · obtain ⟨fs, hr, hrun, hended, hW, hsame⟩ := X0.leave (v := some (.int (nar .char ((((p0.toUInt32 >>> ((2 : Int32) &&& 31).toUInt32).toInt32) &&& (255 : Int32)).toUInt32.toUInt16.toUInt32.toInt32)))) (fun h => by rw [Bd.returns] at h; cases h)
      refine ⟨_, _, pre0 _ ?_, hrun, hended, _, _, rfl, ?_, ⟨_, rfl⟩, hW, hsame.mono (by decide) (by decide)⟩
      · show Steps p.tables e below (s₁.setTop (mkF m 0 #[.val (.int p0), .unset] [])) _
        refine XS.iloadN X0.here hx rfl (hb hby d1_0) rfl ?_
        refine XS.iconst X0.here hx rfl (hb hby d1_1) ?_
        show Steps p.tables e below (s₁.setTop (mkF m 2 #[.val (.int p0), .unset] [(.int (3 : Int32)), (.int p0)])) _
        refine XS.iand X0.here hx rfl (hb hby d1_2) rfl ?_
        show Steps p.tables e below (s₁.setTop (mkF m 3 #[.val (.int p0), .unset] [(.int (p0 &&& (3 : Int32)))])) _
        refine XS.istoreN X0.here hx rfl (hb hby d1_3) rfl (l' := #[.val (.int p0), .val (.int (p0 &&& (3 : Int32)))]) rfl ?_
        refine XS.iloadN X0.here hx rfl (hb hby d1_4) rfl ?_
        show Steps p.tables e below (s₁.setTop (mkF m 5 #[.val (.int p0), .val (.int (p0 &&& (3 : Int32)))] [(.int (p0 &&& (3 : Int32)))])) _
        refine XS.ifYes X0.here hx rfl (pc0 := 5) (pc' := 11) rfl (hb hby d1_5) rfl ((if0 _ _).trans (feq hc5).2) (by decide) (by decide) ?_
        refine XS.iloadN X0.here hx rfl (hb hby d1_11) rfl ?_
        refine XS.iconst X0.here hx rfl (hb hby d1_12) ?_
        show Steps p.tables e below (s₁.setTop (mkF m 13 #[.val (.int p0), .val (.int (p0 &&& (3 : Int32)))] [(.int (1 : Int32)), (.int (p0 &&& (3 : Int32)))])) _
        refine XS.icmpYes X0.here hx rfl (pc0 := 13) (pc' := 19) rfl (hb hby d1_13) rfl (feq hc13).2 (by decide) (by decide) ?_
        refine XS.iloadN X0.here hx rfl (hb hby d1_19) rfl ?_
        refine XS.iconst X0.here hx rfl (hb hby d1_20) ?_
        show Steps p.tables e below (s₁.setTop (mkF m 21 #[.val (.int p0), .val (.int (p0 &&& (3 : Int32)))] [(.int (2 : Int32)), (.int p0)])) _
        refine XS.iushr X0.here hx rfl (hb hby d1_21) rfl ?_
        refine XS.sipush X0.here hx rfl (hb hby d1_22) ?_
        show Steps p.tables e below (s₁.setTop (mkF m 25 #[.val (.int p0), .val (.int (p0 &&& (3 : Int32)))] [(.int (255 : Int32)), (.int ((p0.toUInt32 >>> ((2 : Int32) &&& 31).toUInt32).toInt32))])) _
        refine XS.iand X0.here hx rfl (hb hby d1_25) rfl ?_
        show Steps p.tables e below (s₁.setTop (mkF m 26 #[.val (.int p0), .val (.int (p0 &&& (3 : Int32)))] [(.int (((p0.toUInt32 >>> ((2 : Int32) &&& 31).toUInt32).toInt32) &&& (255 : Int32)))])) _
        refine XS.i2c X0.here hx rfl (hb hby d1_26) rfl ?_
        show Steps p.tables e below (s₁.setTop (mkF m 27 #[.val (.int p0), .val (.int (p0 &&& (3 : Int32)))] [(.int ((((p0.toUInt32 >>> ((2 : Int32) &&& 31).toUInt32).toInt32) &&& (255 : Int32)).toUInt32.toUInt16.toUInt32.toInt32))])) _
        exact retN X0 hx (t := .char) Bd.returns (by simp) (hb hby d1_27) hr
      · show Q1 Z p0 h0 n0 _ s₁.heap _
        rw [e0]
        exact ⟨by rw [own_chr, if_neg hc5, if_neg hc13], N0, rfl⟩
theorem ef_12 (m : MethodId) (x0 : Int32) (x1 : Int32) : entryFrame m #[(.int x0), (.int x1)] 2 = mkF m 0 #[.val (.int x0), .val (.int x1)] [] := by first | (simp [entryFrame, mkF, argsToLocals, Value.category]; done) | rfl
theorem d12_0 : decode jdk_29_method_65_code 0 = .ok (.iload_n 0, 1) := by decide +kernel
theorem d12_1 : decode jdk_29_method_65_code 1 = .ok (.iload_n 1, 1) := by decide +kernel
theorem d12_2 : decode jdk_29_method_65_code 2 = .ok (.if_icmp .lt 7, 3) := by decide +kernel
theorem d12_9 : decode jdk_29_method_65_code 9 = .ok (.iload_n 1, 1) := by decide +kernel
theorem d12_10 : decode jdk_29_method_65_code 10 = .ok (.ireturn, 1) := by decide +kernel
theorem d12_5 : decode jdk_29_method_65_code 5 = .ok (.iload_n 0, 1) := by decide +kernel
theorem d12_6 : decode jdk_29_method_65_code 6 = .ok (.goto 4, 3) := by decide +kernel
def Q12 (Z : State) (p0 : Int32) (p1 : Int32) (h0 : Heap) (n0 : Nat) (v : Option Value) (h : Heap) (L : List Loc) : Prop := v = some (.int (own_mx p0 p1)) ∧ Fr n0 L ∧ h = h0
set_option maxRecDepth 65536 in
set_option maxHeartbeats 40000000 in
theorem rm12 (l : Launch) (Z : State) (a0 : Array Value) (hw : ∀ d ∈ tables_1, d.before a0 Z = true) (ws : List Jvm.Cond) (p0 : Int32) (p1 : Int32) (h0 : Heap) (n0 : Nat) (Z0 : n0 ≤ h0.size)  :
    MetFree l (⟨"java/lang/Math", "max", "(II)I"⟩ : MethodName) (head1 (Jvm.Cond.code (⟨"java/lang/Math", "max", "(II)I"⟩ : MethodName) jdk_29_method_65_code 2 (some .int) :: ws) ({ frames := 0, cells := 0, slots := 0, locals := 0 } : Room)) (fun a U => a = #[(.int p0), (.int p1)] ∧ Z.Warmed39 U.vm ∧ U.heap = h0) (fun _ _ _ _ _ => True) (fun _ U o U' => ∃ v L, o = .returned v ∧ Q12 Z p0 p1 h0 n0 v U'.heap L ∧ FrameEnd U o U' L ({ frames := 0, cells := 0, slots := 0, locals := 0 } : Room).cells ({ frames := 0, cells := 0, slots := 0, locals := 0 } : Room).slots) := by
  refine MetFree.of_bodySF (Jvm.Free.JP.mathPlain rfl (by decide +kernel)) hisR ?_
  intro p e s m args below meth c s₁ Bd hml0 hP hK
  obtain ⟨rfl, hZ, hh⟩ := hP
  have hx := Bd.exec
  have hby := Bd.bytes
  have hml : c.maxLocals = 2 := hml0
  have hown : s.vm.findClass "java/lang/Math" = some m.cls := findClass_of_methodNamed Bd.named
  have hnm := (name_of_methodNamed Bd.named Bd.method).1
  have X0 : Stand p l e ({ frames := 0, cells := 0, slots := 0, locals := 0 } : Room) s m #[(.int p0), (.int p1)] below meth c s₁ [] 0 0 := Stand.of_body Bd
  have e0 : s₁.heap = h0 := by rw [← hh, Bd.state]; rfl
  have N0 := Fr.nil n0
  have pre0 : ∀ t, Steps p.tables e below (s₁.setTop (mkF m 0 #[.val (.int p0), .val (.int p1)] [])) t → Steps p.tables e below (s₁.setTop (entryFrame m #[(.int p0), (.int p1)] 2)) t := fun tt kt_ => castTop (ef_12 m p0 p1) kt_
  by_cases hc2 : p0 < p1
  · obtain ⟨fs, hr, hrun, hended, hW, hsame⟩ := X0.leave (v := some (.int p1)) (fun h => by rw [Bd.returns] at h; cases h)
    refine ⟨_, _, pre0 _ ?_, hrun, hended, _, _, rfl, ?_, ⟨_, rfl⟩, hW, hsame.mono (by decide) (by decide)⟩
    · show Steps p.tables e below (s₁.setTop (mkF m 0 #[.val (.int p0), .val (.int p1)] [])) _
      refine XS.iloadN X0.here hx rfl (hb hby d12_0) rfl ?_
      refine XS.iloadN X0.here hx rfl (hb hby d12_1) rfl ?_
      show Steps p.tables e below (s₁.setTop (mkF m 2 #[.val (.int p0), .val (.int p1)] [(.int p1), (.int p0)])) _
      refine XS.icmpYes X0.here hx rfl (pc0 := 2) (pc' := 9) rfl (hb hby d12_2) rfl (tlt hc2).1 (by decide) (by decide) ?_
      refine XS.iloadN X0.here hx rfl (hb hby d12_9) rfl ?_
      show Steps p.tables e below (s₁.setTop (mkF m 10 #[.val (.int p0), .val (.int p1)] [(.int p1)])) _
      exact retI X0 hx Bd.returns (hb hby d12_10) hr
    · show Q12 Z p0 p1 h0 n0 _ s₁.heap _
      rw [e0]
      exact ⟨by rw [own_mx, if_pos hc2], N0, rfl⟩
  · obtain ⟨fs, hr, hrun, hended, hW, hsame⟩ := X0.leave (v := some (.int p0)) (fun h => by rw [Bd.returns] at h; cases h)
    refine ⟨_, _, pre0 _ ?_, hrun, hended, _, _, rfl, ?_, ⟨_, rfl⟩, hW, hsame.mono (by decide) (by decide)⟩
    · show Steps p.tables e below (s₁.setTop (mkF m 0 #[.val (.int p0), .val (.int p1)] [])) _
      refine XS.iloadN X0.here hx rfl (hb hby d12_0) rfl ?_
      refine XS.iloadN X0.here hx rfl (hb hby d12_1) rfl ?_
      show Steps p.tables e below (s₁.setTop (mkF m 2 #[.val (.int p0), .val (.int p1)] [(.int p1), (.int p0)])) _
      refine XS.icmpNo X0.here hx rfl (hb hby d12_2) rfl (flt hc2).1 ?_
      refine XS.iloadN X0.here hx rfl (hb hby d12_5) rfl ?_
      show Steps p.tables e below (s₁.setTop (mkF m 6 #[.val (.int p0), .val (.int p1)] [(.int p0)])) _
      refine XS.goto X0.here hx rfl (pc0 := 6) (pc' := 10) rfl (hb hby d12_6) (by decide) (by decide) ?_
      show Steps p.tables e below (s₁.setTop (mkF m 10 #[.val (.int p0), .val (.int p1)] [(.int p0)])) _
      exact retI X0 hx Bd.returns (hb hby d12_10) hr
    · show Q12 Z p0 p1 h0 n0 _ s₁.heap _
      rw [e0]
      exact ⟨by rw [own_mx, if_neg hc2], N0, rfl⟩
theorem d6_7 : decode prog_15_method_7_code 7 = .ok (.iload_n 1, 1) := by decide +kernel
theorem d6_8 : decode prog_15_method_7_code 8 = .ok (.iload_n 2, 1) := by decide +kernel
theorem d6_9 : decode prog_15_method_7_code 9 = .ok (.if_icmp .ge 20, 3) := by decide +kernel
theorem d6_12 : decode prog_15_method_7_code 12 = .ok (.aload_n 0, 1) := by decide +kernel
theorem d6_13 : decode prog_15_method_7_code 13 = .ok (.iload_n 1, 1) := by decide +kernel
theorem d6_14 : decode prog_15_method_7_code 14 = .ok (.invokevirtual 136, 3) := by decide +kernel
theorem pd_28I29C : parseMethodDescriptor "(I)C" = some ⟨[.int], some .char⟩ := by decide +kernel
theorem d6_17 : decode prog_15_method_7_code 17 = .ok (.invokestatic 241, 3) := by decide +kernel
theorem pd_28C29Z : parseMethodDescriptor "(C)Z" = some ⟨[.char], some .boolean⟩ := by decide +kernel
theorem d6_20 : decode prog_15_method_7_code 20 = .ok (.ifCond .eq 9, 3) := by decide +kernel
theorem d6_23 : decode prog_15_method_7_code 23 = .ok (.iinc 1 1, 3) := by decide +kernel
theorem d6_26 : decode prog_15_method_7_code 26 = .ok (.goto (-19), 3) := by decide +kernel
set_option maxRecDepth 65536 in
set_option maxHeartbeats 40000000 in
theorem tr_go {p : Program} {l : Launch} {e : Env} {s : State} {m : MethodId} {args : Array Value} {below : List Frame} {meth : Method} {c : Code} {T0 : State} {locs : List Loc} {Z : State} {a0 : Array Value} {h0 : Heap} {n0 : Nat} {R : Room} (r0 b : Addr) (kb : ClassId) (xs : List Int32) (cs : Int32) (fm : Value) (i : Nat)
    (X0 : Stand p l e R s m args below meth c T0 locs 0 0) (hx : p.tables.exec = Jvm.exec) (hZ : Z.Warmed39 s.vm) (hw : ∀ d ∈ tables_1, d.before a0 Z = true) (hby : c.code = prog_15_method_7_code) (hml : c.maxLocals = 3) (hown : s.vm.findClass "com/example/commitwright/commitwright/http/Head" = some m.cls) (e0 : T0.heap = h0) (Z0 : n0 ≤ h0.size) (N0 : Fr n0 locs) (E_r0 : Exa Z h0 r0 "java/lang/String") (C_r0 : Fld Z h0 r0 "java/lang/String" "coder" "B" (.int (0 : Int32))) (V_r0 : Fld Z h0 r0 "java/lang/String" "value" "[B" (.ref b)) (K_b : Arv Z h0 b kb .byte (Int32.ofNat xs.length) (own_bys xs) (.int (0 : Int32))) (O_0 : Old Z n0 h0) (S_cs : Sta Z Z.heap "java/lang/String" "COMPACT_STRINGS" "Z" (.int cs)) (hcs : ¬ (cs = (0 : Int32))) (S_fm : Sta Z Z.heap "jdk/internal/util/Preconditions" "SIOOBE_FORMATTER" "Ljava/util/function/BiFunction;" fm) (hfm : fm.isRef = true) (hcap : xs.length ≤ 4) (hfr : 4 ≤ R.frames) (hlo : 90 ≤ R.locals) (hi : i < xs.length) (hc : own_ch (xs.getD i 0)) (hsp : ¬ (own_sp (xs.getD i 0) = (0 : Int32))) :
    ∃ (T' : State) (locs' : List Loc), Stand p l e R s m args below meth c T' locs' 0 0 ∧ Fr n0 locs' ∧ T'.heap = h0 ∧ ∀ target, Steps p.tables e below (T'.setTop (mkF m 7 #[.val (.ref r0), .val (.int (Int32.ofNat (i + 1))), .val (.int (Int32.ofNat xs.length))] [])) target → Steps p.tables e below (T0.setTop (mkF m 7 #[.val (.ref r0), .val (.int (Int32.ofNat i)), .val (.int (Int32.ofNat xs.length))] [])) target := by
  obtain ⟨cq1, kq1, q1a, q1b, q1c⟩ := isOf hZ e0 E_r0
  obtain ⟨_, _, ⟨T1, L1, k1, n1⟩, -, X1, ⟨Lc1, hQ1, l1, y1, z1⟩, st1⟩ := X0.virtualBack hx (y := (⟨"java/lang/String", "charAt", "(I)C"⟩ : MethodName)) (z := (⟨"java/lang/String", "charAt", "(I)C"⟩ : MethodName)) hown (mvT hZ (hw _ (List.mem_of_getElem? (i := 74) rfl))) (mvT hZ (hw _ (List.mem_of_getElem? (i := 75) rfl))) (notFace_of_selects (args := #[]) (mvT hZ (hw _ (List.mem_of_getElem? (i := 77) rfl)))) (mvT hZ (hw _ (List.mem_of_getElem? (i := 77) rfl))) (mvT hZ (hw _ (List.mem_of_getElem? (i := 76) rfl))) (by decide) (backOf (W := 0) (rm16 l Z a0 hw [] r0 (Int32.ofNat i) b kb (Int32.ofNat xs.length) (own_bys xs) (xs.getD i 0) cs fm h0 n0 Z0 E_r0 C_r0 V_r0 K_b O_0 S_cs hcs S_fm hfm (own_o0 (by omega)) ((own_olt (by omega) (by omega)).mpr hi) (by rw [own_oN (by omega)]; exact own_getb xs i hi) hc) hZ (hw _ (List.mem_of_getElem? (i := 78) rfl)) (hw _ (List.mem_of_getElem? (i := 11) rfl)) (Nat.le_trans (by decide) hfr) (Nat.le_trans (by decide) hlo)) q1a q1c (g := (mkF m 14 #[.val (.ref r0), .val (.int (Int32.ofNat i)), .val (.int (Int32.ofNat xs.length))] [(.int (Int32.ofNat i)), (.ref r0)])) rfl (by rw [hml]; rfl) (Steps.refl _) (argsL := [(.int (Int32.ofNat i))]) (rest := []) (lenOf pd_28I29C rfl) rfl (by show 2 * 0 + _ ≤ _; exact Nat.le_of_eq rfl) (hb hby d6_14) (fun _ _ => ⟨rfl, e0, Nat.zero_le _, Nat.zero_le _⟩)
  dsimp only [Pt.U, Pt.locs, Pt.cells, Pt.slots] at X1 l1 y1 z1 st1 hQ1
  subst l1 y1 z1
  obtain ⟨rfl, N1q, e1⟩ := hQ1
  have N1 := Fr.app N0 N1q
  obtain ⟨_, _, ⟨T2, L2, k2, n2⟩, -, X2, ⟨Lc2, hQ2, l2, y2, z2⟩, st2⟩ := Jvm.LawKit.callS X1 hx (y := (⟨"com/example/commitwright/commitwright/http/Head", "isSpace", "(C)Z"⟩ : MethodName)) hown (mvT hZ (hw _ (List.mem_of_getElem? (i := 94) rfl))) (mvT hZ (hw _ (List.mem_of_getElem? (i := 95) rfl))) (mvT hZ (hw _ (List.mem_of_getElem? (i := 32) rfl))) (mvT hZ (hw _ (List.mem_of_getElem? (i := 96) rfl))) (by decide) (backOf (W := 0) (rm21 l Z a0 hw [] (xs.getD i 0) h0 n0 Z0) hZ (hw _ (List.mem_of_getElem? (i := 96) rfl)) (hw _ (List.mem_of_getElem? (i := 32) rfl)) (Nat.le_trans (by decide) hfr) (Nat.le_trans (by decide) hlo)) (g := (mkF m 17 #[.val (.ref r0), .val (.int (Int32.ofNat i)), .val (.int (Int32.ofNat xs.length))] [(.int (xs.getD i 0))])) rfl (by rw [hml]; rfl) (argsL := [(.int (xs.getD i 0))]) (rest := []) (lenOf pd_28C29Z rfl) rfl (by show 2 * 0 + _ ≤ _; exact Nat.le_of_eq rfl) (hb hby d6_17) (fun _ _ => ⟨rfl, e1, Nat.zero_le _, Nat.zero_le _⟩)
  dsimp only [Pt.U, Pt.locs, Pt.cells, Pt.slots] at X2 l2 y2 z2 st2 hQ2
  subst l2 y2 z2
  obtain ⟨rfl, N2q, e2⟩ := hQ2
  have N2 := Fr.app N1 N2q
  refine ⟨T2, _, X2, N2, e2, fun target kt => ?_⟩
  show Steps p.tables e below (T0.setTop (mkF m 7 #[.val (.ref r0), .val (.int (Int32.ofNat i)), .val (.int (Int32.ofNat xs.length))] [])) _
  refine XS.iloadN X0.here hx rfl (hb hby d6_7) rfl ?_
  refine XS.iloadN X0.here hx rfl (hb hby d6_8) rfl ?_
  show Steps p.tables e below (T0.setTop (mkF m 9 #[.val (.ref r0), .val (.int (Int32.ofNat i)), .val (.int (Int32.ofNat xs.length))] [(.int (Int32.ofNat xs.length)), (.int (Int32.ofNat i))])) _
  refine XS.icmpNo X0.here hx rfl (hb hby d6_9) rfl (tlt ((own_olt (by omega) (by omega)).mpr hi)).2.1 ?_
  refine XS.aloadN X0.here hx rfl (hb hby d6_12) rfl rfl ?_
  refine XS.iloadN X0.here hx rfl (hb hby d6_13) rfl ?_
  show Steps p.tables e below (T0.setTop (mkF m 14 #[.val (.ref r0), .val (.int (Int32.ofNat i)), .val (.int (Int32.ofNat xs.length))] [(.int (Int32.ofNat i)), (.ref r0)])) _
  refine st1.trans ?_
  show Steps p.tables e below (T1.setTop (mkF m 17 #[.val (.ref r0), .val (.int (Int32.ofNat i)), .val (.int (Int32.ofNat xs.length))] [(.int (xs.getD i 0))])) _
  refine st2 _ ?_
  show Steps p.tables e below (T2.setTop (mkF m 20 #[.val (.ref r0), .val (.int (Int32.ofNat i)), .val (.int (Int32.ofNat xs.length))] [(.int (own_sp (xs.getD i 0)))])) _
  refine XS.ifNo X2.here hx rfl (hb hby d6_20) rfl ((if0 _ _).trans (feq hsp).1) ?_
  show Steps p.tables e below (T2.setTop (mkF m 23 #[.val (.ref r0), .val (.int (Int32.ofNat i)), .val (.int (Int32.ofNat xs.length))] [])) _
  refine XS.iinc X2.here hx rfl (hb hby d6_23) rfl (l' := #[.val (.ref r0), .val (.int ((Int32.ofNat i) + (1 : Int32))), .val (.int (Int32.ofNat xs.length))]) rfl ?_
  show Steps p.tables e below (T2.setTop (mkF m 26 #[.val (.ref r0), .val (.int ((Int32.ofNat i) + (1 : Int32))), .val (.int (Int32.ofNat xs.length))] [])) _
  rw [own_osucc (by omega)]
  show Steps p.tables e below (T2.setTop (mkF m 26 #[.val (.ref r0), .val (.int (Int32.ofNat (i + 1))), .val (.int (Int32.ofNat xs.length))] [])) _
  refine XS.goto X2.here hx rfl (pc0 := 26) (pc' := 7) rfl (hb hby d6_26) (by decide) (by decide) ?_
  show Steps p.tables e below (T2.setTop (mkF m 7 #[.val (.ref r0), .val (.int (Int32.ofNat (i + 1))), .val (.int (Int32.ofNat xs.length))] [])) _
  exact kt
set_option maxRecDepth 65536 in
set_option maxHeartbeats 40000000 in
theorem tr_hit {p : Program} {l : Launch} {e : Env} {s : State} {m : MethodId} {args : Array Value} {below : List Frame} {meth : Method} {c : Code} {T0 : State} {locs : List Loc} {Z : State} {a0 : Array Value} {h0 : Heap} {n0 : Nat} {R : Room} (r0 b : Addr) (kb : ClassId) (xs : List Int32) (cs : Int32) (fm : Value) (i : Nat)
    (X0 : Stand p l e R s m args below meth c T0 locs 0 0) (hx : p.tables.exec = Jvm.exec) (hZ : Z.Warmed39 s.vm) (hw : ∀ d ∈ tables_1, d.before a0 Z = true) (hby : c.code = prog_15_method_7_code) (hml : c.maxLocals = 3) (hown : s.vm.findClass "com/example/commitwright/commitwright/http/Head" = some m.cls) (e0 : T0.heap = h0) (Z0 : n0 ≤ h0.size) (N0 : Fr n0 locs) (E_r0 : Exa Z h0 r0 "java/lang/String") (C_r0 : Fld Z h0 r0 "java/lang/String" "coder" "B" (.int (0 : Int32))) (V_r0 : Fld Z h0 r0 "java/lang/String" "value" "[B" (.ref b)) (K_b : Arv Z h0 b kb .byte (Int32.ofNat xs.length) (own_bys xs) (.int (0 : Int32))) (O_0 : Old Z n0 h0) (S_cs : Sta Z Z.heap "java/lang/String" "COMPACT_STRINGS" "Z" (.int cs)) (hcs : ¬ (cs = (0 : Int32))) (S_fm : Sta Z Z.heap "jdk/internal/util/Preconditions" "SIOOBE_FORMATTER" "Ljava/util/function/BiFunction;" fm) (hfm : fm.isRef = true) (hcap : xs.length ≤ 4) (hfr : 4 ≤ R.frames) (hlo : 90 ≤ R.locals) (hi : i < xs.length) (hc : own_ch (xs.getD i 0)) (hsp : own_sp (xs.getD i 0) = (0 : Int32)) :
    ∃ (T' : State) (locs' : List Loc), Stand p l e R s m args below meth c T' locs' 0 0 ∧ Fr n0 locs' ∧ T'.heap = h0 ∧ ∀ target, Steps p.tables e below (T'.setTop (mkF m 29 #[.val (.ref r0), .val (.int (Int32.ofNat i)), .val (.int (Int32.ofNat xs.length))] [])) target → Steps p.tables e below (T0.setTop (mkF m 7 #[.val (.ref r0), .val (.int (Int32.ofNat i)), .val (.int (Int32.ofNat xs.length))] [])) target := by
  obtain ⟨cq1, kq1, q1a, q1b, q1c⟩ := isOf hZ e0 E_r0
  obtain ⟨_, _, ⟨T1, L1, k1, n1⟩, -, X1, ⟨Lc1, hQ1, l1, y1, z1⟩, st1⟩ := X0.virtualBack hx (y := (⟨"java/lang/String", "charAt", "(I)C"⟩ : MethodName)) (z := (⟨"java/lang/String", "charAt", "(I)C"⟩ : MethodName)) hown (mvT hZ (hw _ (List.mem_of_getElem? (i := 74) rfl))) (mvT hZ (hw _ (List.mem_of_getElem? (i := 75) rfl))) (notFace_of_selects (args := #[]) (mvT hZ (hw _ (List.mem_of_getElem? (i := 77) rfl)))) (mvT hZ (hw _ (List.mem_of_getElem? (i := 77) rfl))) (mvT hZ (hw _ (List.mem_of_getElem? (i := 76) rfl))) (by decide) (backOf (W := 0) (rm16 l Z a0 hw [] r0 (Int32.ofNat i) b kb (Int32.ofNat xs.length) (own_bys xs) (xs.getD i 0) cs fm h0 n0 Z0 E_r0 C_r0 V_r0 K_b O_0 S_cs hcs S_fm hfm (own_o0 (by omega)) ((own_olt (by omega) (by omega)).mpr hi) (by rw [own_oN (by omega)]; exact own_getb xs i hi) hc) hZ (hw _ (List.mem_of_getElem? (i := 78) rfl)) (hw _ (List.mem_of_getElem? (i := 11) rfl)) (Nat.le_trans (by decide) hfr) (Nat.le_trans (by decide) hlo)) q1a q1c (g := (mkF m 14 #[.val (.ref r0), .val (.int (Int32.ofNat i)), .val (.int (Int32.ofNat xs.length))] [(.int (Int32.ofNat i)), (.ref r0)])) rfl (by rw [hml]; rfl) (Steps.refl _) (argsL := [(.int (Int32.ofNat i))]) (rest := []) (lenOf pd_28I29C rfl) rfl (by show 2 * 0 + _ ≤ _; exact Nat.le_of_eq rfl) (hb hby d6_14) (fun _ _ => ⟨rfl, e0, Nat.zero_le _, Nat.zero_le _⟩)
  dsimp only [Pt.U, Pt.locs, Pt.cells, Pt.slots] at X1 l1 y1 z1 st1 hQ1
  subst l1 y1 z1
  obtain ⟨rfl, N1q, e1⟩ := hQ1
  have N1 := Fr.app N0 N1q
  obtain ⟨_, _, ⟨T2, L2, k2, n2⟩, -, X2, ⟨Lc2, hQ2, l2, y2, z2⟩, st2⟩ := Jvm.LawKit.callS X1 hx (y := (⟨"com/example/commitwright/commitwright/http/Head", "isSpace", "(C)Z"⟩ : MethodName)) hown (mvT hZ (hw _ (List.mem_of_getElem? (i := 94) rfl))) (mvT hZ (hw _ (List.mem_of_getElem? (i := 95) rfl))) (mvT hZ (hw _ (List.mem_of_getElem? (i := 32) rfl))) (mvT hZ (hw _ (List.mem_of_getElem? (i := 96) rfl))) (by decide) (backOf (W := 0) (rm21 l Z a0 hw [] (xs.getD i 0) h0 n0 Z0) hZ (hw _ (List.mem_of_getElem? (i := 96) rfl)) (hw _ (List.mem_of_getElem? (i := 32) rfl)) (Nat.le_trans (by decide) hfr) (Nat.le_trans (by decide) hlo)) (g := (mkF m 17 #[.val (.ref r0), .val (.int (Int32.ofNat i)), .val (.int (Int32.ofNat xs.length))] [(.int (xs.getD i 0))])) rfl (by rw [hml]; rfl) (argsL := [(.int (xs.getD i 0))]) (rest := []) (lenOf pd_28C29Z rfl) rfl (by show 2 * 0 + _ ≤ _; exact Nat.le_of_eq rfl) (hb hby d6_17) (fun _ _ => ⟨rfl, e1, Nat.zero_le _, Nat.zero_le _⟩)
  dsimp only [Pt.U, Pt.locs, Pt.cells, Pt.slots] at X2 l2 y2 z2 st2 hQ2
  subst l2 y2 z2
  obtain ⟨rfl, N2q, e2⟩ := hQ2
  have N2 := Fr.app N1 N2q
  refine ⟨T2, _, X2, N2, e2, fun target kt => ?_⟩
  show Steps p.tables e below (T0.setTop (mkF m 7 #[.val (.ref r0), .val (.int (Int32.ofNat i)), .val (.int (Int32.ofNat xs.length))] [])) _
  refine XS.iloadN X0.here hx rfl (hb hby d6_7) rfl ?_
  refine XS.iloadN X0.here hx rfl (hb hby d6_8) rfl ?_
  show Steps p.tables e below (T0.setTop (mkF m 9 #[.val (.ref r0), .val (.int (Int32.ofNat i)), .val (.int (Int32.ofNat xs.length))] [(.int (Int32.ofNat xs.length)), (.int (Int32.ofNat i))])) _
  refine XS.icmpNo X0.here hx rfl (hb hby d6_9) rfl (tlt ((own_olt (by omega) (by omega)).mpr hi)).2.1 ?_
  refine XS.aloadN X0.here hx rfl (hb hby d6_12) rfl rfl ?_
  refine XS.iloadN X0.here hx rfl (hb hby d6_13) rfl ?_
  show Steps p.tables e below (T0.setTop (mkF m 14 #[.val (.ref r0), .val (.int (Int32.ofNat i)), .val (.int (Int32.ofNat xs.length))] [(.int (Int32.ofNat i)), (.ref r0)])) _
  refine st1.trans ?_
  show Steps p.tables e below (T1.setTop (mkF m 17 #[.val (.ref r0), .val (.int (Int32.ofNat i)), .val (.int (Int32.ofNat xs.length))] [(.int (xs.getD i 0))])) _
  refine st2 _ ?_
  show Steps p.tables e below (T2.setTop (mkF m 20 #[.val (.ref r0), .val (.int (Int32.ofNat i)), .val (.int (Int32.ofNat xs.length))] [(.int (own_sp (xs.getD i 0)))])) _
  refine XS.ifYes X2.here hx rfl (pc0 := 20) (pc' := 29) rfl (hb hby d6_20) rfl ((if0 _ _).trans (teq hsp).1) (by decide) (by decide) ?_
  show Steps p.tables e below (T2.setTop (mkF m 29 #[.val (.ref r0), .val (.int (Int32.ofNat i)), .val (.int (Int32.ofNat xs.length))] [])) _
  exact kt
set_option maxRecDepth 65536 in
set_option maxHeartbeats 40000000 in
theorem tr_end {p : Program} {l : Launch} {e : Env} {s : State} {m : MethodId} {args : Array Value} {below : List Frame} {meth : Method} {c : Code} {T0 : State} {locs : List Loc} {Z : State} {a0 : Array Value} {h0 : Heap} {n0 : Nat} {R : Room} (r0 b : Addr) (kb : ClassId) (xs : List Int32) (cs : Int32) (fm : Value) (i : Nat)
    (X0 : Stand p l e R s m args below meth c T0 locs 0 0) (hx : p.tables.exec = Jvm.exec) (hZ : Z.Warmed39 s.vm) (hw : ∀ d ∈ tables_1, d.before a0 Z = true) (hby : c.code = prog_15_method_7_code) (hml : c.maxLocals = 3) (hown : s.vm.findClass "com/example/commitwright/commitwright/http/Head" = some m.cls) (e0 : T0.heap = h0) (Z0 : n0 ≤ h0.size) (N0 : Fr n0 locs) (E_r0 : Exa Z h0 r0 "java/lang/String") (C_r0 : Fld Z h0 r0 "java/lang/String" "coder" "B" (.int (0 : Int32))) (V_r0 : Fld Z h0 r0 "java/lang/String" "value" "[B" (.ref b)) (K_b : Arv Z h0 b kb .byte (Int32.ofNat xs.length) (own_bys xs) (.int (0 : Int32))) (O_0 : Old Z n0 h0) (S_cs : Sta Z Z.heap "java/lang/String" "COMPACT_STRINGS" "Z" (.int cs)) (hcs : ¬ (cs = (0 : Int32))) (S_fm : Sta Z Z.heap "jdk/internal/util/Preconditions" "SIOOBE_FORMATTER" "Ljava/util/function/BiFunction;" fm) (hfm : fm.isRef = true) (hcap : xs.length ≤ 4) (hfr : 4 ≤ R.frames) (hlo : 90 ≤ R.locals) (hi0 : i < 100) (hi : ¬ i < xs.length) :
    ∃ (T' : State) (locs' : List Loc), Stand p l e R s m args below meth c T' locs' 0 0 ∧ Fr n0 locs' ∧ T'.heap = h0 ∧ ∀ target, Steps p.tables e below (T'.setTop (mkF m 29 #[.val (.ref r0), .val (.int (Int32.ofNat i)), .val (.int (Int32.ofNat xs.length))] [])) target → Steps p.tables e below (T0.setTop (mkF m 7 #[.val (.ref r0), .val (.int (Int32.ofNat i)), .val (.int (Int32.ofNat xs.length))] [])) target := by
  refine ⟨T0, _, X0, N0, e0, fun target kt => ?_⟩
  show Steps p.tables e below (T0.setTop (mkF m 7 #[.val (.ref r0), .val (.int (Int32.ofNat i)), .val (.int (Int32.ofNat xs.length))] [])) _
  refine XS.iloadN X0.here hx rfl (hb hby d6_7) rfl ?_
  refine XS.iloadN X0.here hx rfl (hb hby d6_8) rfl ?_
  show Steps p.tables e below (T0.setTop (mkF m 9 #[.val (.ref r0), .val (.int (Int32.ofNat i)), .val (.int (Int32.ofNat xs.length))] [(.int (Int32.ofNat xs.length)), (.int (Int32.ofNat i))])) _
  refine XS.icmpYes X0.here hx rfl (pc0 := 9) (pc' := 29) rfl (hb hby d6_9) rfl (flt (fun q => hi ((own_olt (by omega) (by omega)).mp q))).2.1 (by decide) (by decide) ?_
  show Steps p.tables e below (T0.setTop (mkF m 29 #[.val (.ref r0), .val (.int (Int32.ofNat i)), .val (.int (Int32.ofNat xs.length))] [])) _
  exact kt
theorem d6_29 : decode prog_15_method_7_code 29 = .ok (.iload_n 2, 1) := by decide +kernel
theorem d6_30 : decode prog_15_method_7_code 30 = .ok (.iload_n 1, 1) := by decide +kernel
theorem d6_31 : decode prog_15_method_7_code 31 = .ok (.if_icmp .le 22, 3) := by decide +kernel
theorem d6_34 : decode prog_15_method_7_code 34 = .ok (.aload_n 0, 1) := by decide +kernel
theorem d6_35 : decode prog_15_method_7_code 35 = .ok (.iload_n 2, 1) := by decide +kernel
theorem d6_36 : decode prog_15_method_7_code 36 = .ok (.iconst 1, 1) := by decide +kernel
theorem d6_37 : decode prog_15_method_7_code 37 = .ok (.isub, 1) := by decide +kernel
theorem d6_38 : decode prog_15_method_7_code 38 = .ok (.invokevirtual 136, 3) := by decide +kernel
theorem d6_41 : decode prog_15_method_7_code 41 = .ok (.invokestatic 241, 3) := by decide +kernel
theorem d6_44 : decode prog_15_method_7_code 44 = .ok (.ifCond .eq 9, 3) := by decide +kernel
theorem d6_47 : decode prog_15_method_7_code 47 = .ok (.iinc 2 (-1), 3) := by decide +kernel
theorem d6_50 : decode prog_15_method_7_code 50 = .ok (.goto (-21), 3) := by decide +kernel
set_option maxRecDepth 65536 in
set_option maxHeartbeats 40000000 in
theorem tr_go2 {p : Program} {l : Launch} {e : Env} {s : State} {m : MethodId} {args : Array Value} {below : List Frame} {meth : Method} {c : Code} {T0 : State} {locs : List Loc} {Z : State} {a0 : Array Value} {h0 : Heap} {n0 : Nat} {R : Room} (r0 b : Addr) (kb : ClassId) (xs : List Int32) (cs : Int32) (fm : Value) (i j : Nat)
    (X0 : Stand p l e R s m args below meth c T0 locs 0 0) (hx : p.tables.exec = Jvm.exec) (hZ : Z.Warmed39 s.vm) (hw : ∀ d ∈ tables_1, d.before a0 Z = true) (hby : c.code = prog_15_method_7_code) (hml : c.maxLocals = 3) (hown : s.vm.findClass "com/example/commitwright/commitwright/http/Head" = some m.cls) (e0 : T0.heap = h0) (Z0 : n0 ≤ h0.size) (N0 : Fr n0 locs) (E_r0 : Exa Z h0 r0 "java/lang/String") (C_r0 : Fld Z h0 r0 "java/lang/String" "coder" "B" (.int (0 : Int32))) (V_r0 : Fld Z h0 r0 "java/lang/String" "value" "[B" (.ref b)) (K_b : Arv Z h0 b kb .byte (Int32.ofNat xs.length) (own_bys xs) (.int (0 : Int32))) (O_0 : Old Z n0 h0) (S_cs : Sta Z Z.heap "java/lang/String" "COMPACT_STRINGS" "Z" (.int cs)) (hcs : ¬ (cs = (0 : Int32))) (S_fm : Sta Z Z.heap "jdk/internal/util/Preconditions" "SIOOBE_FORMATTER" "Ljava/util/function/BiFunction;" fm) (hfm : fm.isRef = true) (hcap : xs.length ≤ 4) (hfr : 4 ≤ R.frames) (hlo : 90 ≤ R.locals) (hj : j < xs.length) (hi : i < j + 1) (hc : own_ch (xs.getD j 0)) (hsp : ¬ (own_sp (xs.getD j 0) = (0 : Int32))) :
    ∃ (T' : State) (locs' : List Loc), Stand p l e R s m args below meth c T' locs' 0 0 ∧ Fr n0 locs' ∧ T'.heap = h0 ∧ ∀ target, Steps p.tables e below (T'.setTop (mkF m 29 #[.val (.ref r0), .val (.int (Int32.ofNat i)), .val (.int (Int32.ofNat j))] [])) target → Steps p.tables e below (T0.setTop (mkF m 29 #[.val (.ref r0), .val (.int (Int32.ofNat i)), .val (.int (Int32.ofNat (j + 1)))] [])) target := by
  obtain ⟨cq1, kq1, q1a, q1b, q1c⟩ := isOf hZ e0 E_r0
  obtain ⟨_, _, ⟨T1, L1, k1, n1⟩, -, X1, ⟨Lc1, hQ1, l1, y1, z1⟩, st1⟩ := X0.virtualBack hx (y := (⟨"java/lang/String", "charAt", "(I)C"⟩ : MethodName)) (z := (⟨"java/lang/String", "charAt", "(I)C"⟩ : MethodName)) hown (mvT hZ (hw _ (List.mem_of_getElem? (i := 74) rfl))) (mvT hZ (hw _ (List.mem_of_getElem? (i := 75) rfl))) (notFace_of_selects (args := #[]) (mvT hZ (hw _ (List.mem_of_getElem? (i := 77) rfl)))) (mvT hZ (hw _ (List.mem_of_getElem? (i := 77) rfl))) (mvT hZ (hw _ (List.mem_of_getElem? (i := 76) rfl))) (by decide) (backOf (W := 0) (rm16 l Z a0 hw [] r0 (Int32.ofNat j) b kb (Int32.ofNat xs.length) (own_bys xs) (xs.getD j 0) cs fm h0 n0 Z0 E_r0 C_r0 V_r0 K_b O_0 S_cs hcs S_fm hfm (own_o0 (by omega)) ((own_olt (by omega) (by omega)).mpr hj) (by rw [own_oN (by omega)]; exact own_getb xs j hj) hc) hZ (hw _ (List.mem_of_getElem? (i := 78) rfl)) (hw _ (List.mem_of_getElem? (i := 11) rfl)) (Nat.le_trans (by decide) hfr) (Nat.le_trans (by decide) hlo)) q1a q1c (g := (mkF m 38 #[.val (.ref r0), .val (.int (Int32.ofNat i)), .val (.int (Int32.ofNat (j + 1)))] [(.int (Int32.ofNat j)), (.ref r0)])) rfl (by rw [hml]; rfl) (Steps.refl _) (argsL := [(.int (Int32.ofNat j))]) (rest := []) (lenOf pd_28I29C rfl) rfl (by show 2 * 0 + _ ≤ _; exact Nat.le_of_eq rfl) (hb hby d6_38) (fun _ _ => ⟨rfl, e0, Nat.zero_le _, Nat.zero_le _⟩)
  dsimp only [Pt.U, Pt.locs, Pt.cells, Pt.slots] at X1 l1 y1 z1 st1 hQ1
  subst l1 y1 z1
  obtain ⟨rfl, N1q, e1⟩ := hQ1
  have N1 := Fr.app N0 N1q
  obtain ⟨_, _, ⟨T2, L2, k2, n2⟩, -, X2, ⟨Lc2, hQ2, l2, y2, z2⟩, st2⟩ := Jvm.LawKit.callS X1 hx (y := (⟨"com/example/commitwright/commitwright/http/Head", "isSpace", "(C)Z"⟩ : MethodName)) hown (mvT hZ (hw _ (List.mem_of_getElem? (i := 94) rfl))) (mvT hZ (hw _ (List.mem_of_getElem? (i := 95) rfl))) (mvT hZ (hw _ (List.mem_of_getElem? (i := 32) rfl))) (mvT hZ (hw _ (List.mem_of_getElem? (i := 96) rfl))) (by decide) (backOf (W := 0) (rm21 l Z a0 hw [] (xs.getD j 0) h0 n0 Z0) hZ (hw _ (List.mem_of_getElem? (i := 96) rfl)) (hw _ (List.mem_of_getElem? (i := 32) rfl)) (Nat.le_trans (by decide) hfr) (Nat.le_trans (by decide) hlo)) (g := (mkF m 41 #[.val (.ref r0), .val (.int (Int32.ofNat i)), .val (.int (Int32.ofNat (j + 1)))] [(.int (xs.getD j 0))])) rfl (by rw [hml]; rfl) (argsL := [(.int (xs.getD j 0))]) (rest := []) (lenOf pd_28C29Z rfl) rfl (by show 2 * 0 + _ ≤ _; exact Nat.le_of_eq rfl) (hb hby d6_41) (fun _ _ => ⟨rfl, e1, Nat.zero_le _, Nat.zero_le _⟩)
  dsimp only [Pt.U, Pt.locs, Pt.cells, Pt.slots] at X2 l2 y2 z2 st2 hQ2
  subst l2 y2 z2
  obtain ⟨rfl, N2q, e2⟩ := hQ2
  have N2 := Fr.app N1 N2q
  refine ⟨T2, _, X2, N2, e2, fun target kt => ?_⟩
  show Steps p.tables e below (T0.setTop (mkF m 29 #[.val (.ref r0), .val (.int (Int32.ofNat i)), .val (.int (Int32.ofNat (j + 1)))] [])) _
  refine XS.iloadN X0.here hx rfl (hb hby d6_29) rfl ?_
  refine XS.iloadN X0.here hx rfl (hb hby d6_30) rfl ?_
  show Steps p.tables e below (T0.setTop (mkF m 31 #[.val (.ref r0), .val (.int (Int32.ofNat i)), .val (.int (Int32.ofNat (j + 1)))] [(.int (Int32.ofNat i)), (.int (Int32.ofNat (j + 1)))])) _
  refine XS.icmpNo X0.here hx rfl (hb hby d6_31) rfl (tlt ((own_olt (by omega) (by omega)).mpr hi)).2.2.2 ?_
  refine XS.aloadN X0.here hx rfl (hb hby d6_34) rfl rfl ?_
  refine XS.iloadN X0.here hx rfl (hb hby d6_35) rfl ?_
  refine XS.iconst X0.here hx rfl (hb hby d6_36) ?_
  show Steps p.tables e below (T0.setTop (mkF m 37 #[.val (.ref r0), .val (.int (Int32.ofNat i)), .val (.int (Int32.ofNat (j + 1)))] [(.int (1 : Int32)), (.int (Int32.ofNat (j + 1))), (.ref r0)])) _
  refine XS.isub X0.here hx rfl (hb hby d6_37) rfl ?_
  show Steps p.tables e below (T0.setTop (mkF m 38 #[.val (.ref r0), .val (.int (Int32.ofNat i)), .val (.int (Int32.ofNat (j + 1)))] [(.int ((Int32.ofNat (j + 1)) - (1 : Int32))), (.ref r0)])) _
  rw [own_opred (by omega)]
  show Steps p.tables e below (T0.setTop (mkF m 38 #[.val (.ref r0), .val (.int (Int32.ofNat i)), .val (.int (Int32.ofNat (j + 1)))] [(.int (Int32.ofNat j)), (.ref r0)])) _
  refine st1.trans ?_
  show Steps p.tables e below (T1.setTop (mkF m 41 #[.val (.ref r0), .val (.int (Int32.ofNat i)), .val (.int (Int32.ofNat (j + 1)))] [(.int (xs.getD j 0))])) _
  refine st2 _ ?_
  show Steps p.tables e below (T2.setTop (mkF m 44 #[.val (.ref r0), .val (.int (Int32.ofNat i)), .val (.int (Int32.ofNat (j + 1)))] [(.int (own_sp (xs.getD j 0)))])) _
  refine XS.ifNo X2.here hx rfl (hb hby d6_44) rfl ((if0 _ _).trans (feq hsp).1) ?_
  show Steps p.tables e below (T2.setTop (mkF m 47 #[.val (.ref r0), .val (.int (Int32.ofNat i)), .val (.int (Int32.ofNat (j + 1)))] [])) _
  refine XS.iinc X2.here hx rfl (hb hby d6_47) rfl (l' := #[.val (.ref r0), .val (.int (Int32.ofNat i)), .val (.int ((Int32.ofNat (j + 1)) + (-1 : Int32)))]) rfl ?_
  show Steps p.tables e below (T2.setTop (mkF m 50 #[.val (.ref r0), .val (.int (Int32.ofNat i)), .val (.int ((Int32.ofNat (j + 1)) + (-1 : Int32)))] [])) _
  rw [own_omin (by omega)]
  show Steps p.tables e below (T2.setTop (mkF m 50 #[.val (.ref r0), .val (.int (Int32.ofNat i)), .val (.int (Int32.ofNat j))] [])) _
  refine XS.goto X2.here hx rfl (pc0 := 50) (pc' := 29) rfl (hb hby d6_50) (by decide) (by decide) ?_
  show Steps p.tables e below (T2.setTop (mkF m 29 #[.val (.ref r0), .val (.int (Int32.ofNat i)), .val (.int (Int32.ofNat j))] [])) _
  exact kt
set_option maxRecDepth 65536 in
set_option maxHeartbeats 40000000 in
theorem tr_hit2 {p : Program} {l : Launch} {e : Env} {s : State} {m : MethodId} {args : Array Value} {below : List Frame} {meth : Method} {c : Code} {T0 : State} {locs : List Loc} {Z : State} {a0 : Array Value} {h0 : Heap} {n0 : Nat} {R : Room} (r0 b : Addr) (kb : ClassId) (xs : List Int32) (cs : Int32) (fm : Value) (i j : Nat)
    (X0 : Stand p l e R s m args below meth c T0 locs 0 0) (hx : p.tables.exec = Jvm.exec) (hZ : Z.Warmed39 s.vm) (hw : ∀ d ∈ tables_1, d.before a0 Z = true) (hby : c.code = prog_15_method_7_code) (hml : c.maxLocals = 3) (hown : s.vm.findClass "com/example/commitwright/commitwright/http/Head" = some m.cls) (e0 : T0.heap = h0) (Z0 : n0 ≤ h0.size) (N0 : Fr n0 locs) (E_r0 : Exa Z h0 r0 "java/lang/String") (C_r0 : Fld Z h0 r0 "java/lang/String" "coder" "B" (.int (0 : Int32))) (V_r0 : Fld Z h0 r0 "java/lang/String" "value" "[B" (.ref b)) (K_b : Arv Z h0 b kb .byte (Int32.ofNat xs.length) (own_bys xs) (.int (0 : Int32))) (O_0 : Old Z n0 h0) (S_cs : Sta Z Z.heap "java/lang/String" "COMPACT_STRINGS" "Z" (.int cs)) (hcs : ¬ (cs = (0 : Int32))) (S_fm : Sta Z Z.heap "jdk/internal/util/Preconditions" "SIOOBE_FORMATTER" "Ljava/util/function/BiFunction;" fm) (hfm : fm.isRef = true) (hcap : xs.length ≤ 4) (hfr : 4 ≤ R.frames) (hlo : 90 ≤ R.locals) (hj : j < xs.length) (hi : i < j + 1) (hc : own_ch (xs.getD j 0)) (hsp : own_sp (xs.getD j 0) = (0 : Int32)) :
    ∃ (T' : State) (locs' : List Loc), Stand p l e R s m args below meth c T' locs' 0 0 ∧ Fr n0 locs' ∧ T'.heap = h0 ∧ ∀ target, Steps p.tables e below (T'.setTop (mkF m 53 #[.val (.ref r0), .val (.int (Int32.ofNat i)), .val (.int (Int32.ofNat (j + 1)))] [])) target → Steps p.tables e below (T0.setTop (mkF m 29 #[.val (.ref r0), .val (.int (Int32.ofNat i)), .val (.int (Int32.ofNat (j + 1)))] [])) target := by
  obtain ⟨cq1, kq1, q1a, q1b, q1c⟩ := isOf hZ e0 E_r0
  obtain ⟨_, _, ⟨T1, L1, k1, n1⟩, -, X1, ⟨Lc1, hQ1, l1, y1, z1⟩, st1⟩ := X0.virtualBack hx (y := (⟨"java/lang/String", "charAt", "(I)C"⟩ : MethodName)) (z := (⟨"java/lang/String", "charAt", "(I)C"⟩ : MethodName)) hown (mvT hZ (hw _ (List.mem_of_getElem? (i := 74) rfl))) (mvT hZ (hw _ (List.mem_of_getElem? (i := 75) rfl))) (notFace_of_selects (args := #[]) (mvT hZ (hw _ (List.mem_of_getElem? (i := 77) rfl)))) (mvT hZ (hw _ (List.mem_of_getElem? (i := 77) rfl))) (mvT hZ (hw _ (List.mem_of_getElem? (i := 76) rfl))) (by decide) (backOf (W := 0) (rm16 l Z a0 hw [] r0 (Int32.ofNat j) b kb (Int32.ofNat xs.length) (own_bys xs) (xs.getD j 0) cs fm h0 n0 Z0 E_r0 C_r0 V_r0 K_b O_0 S_cs hcs S_fm hfm (own_o0 (by omega)) ((own_olt (by omega) (by omega)).mpr hj) (by rw [own_oN (by omega)]; exact own_getb xs j hj) hc) hZ (hw _ (List.mem_of_getElem? (i := 78) rfl)) (hw _ (List.mem_of_getElem? (i := 11) rfl)) (Nat.le_trans (by decide) hfr) (Nat.le_trans (by decide) hlo)) q1a q1c (g := (mkF m 38 #[.val (.ref r0), .val (.int (Int32.ofNat i)), .val (.int (Int32.ofNat (j + 1)))] [(.int (Int32.ofNat j)), (.ref r0)])) rfl (by rw [hml]; rfl) (Steps.refl _) (argsL := [(.int (Int32.ofNat j))]) (rest := []) (lenOf pd_28I29C rfl) rfl (by show 2 * 0 + _ ≤ _; exact Nat.le_of_eq rfl) (hb hby d6_38) (fun _ _ => ⟨rfl, e0, Nat.zero_le _, Nat.zero_le _⟩)
  dsimp only [Pt.U, Pt.locs, Pt.cells, Pt.slots] at X1 l1 y1 z1 st1 hQ1
  subst l1 y1 z1
  obtain ⟨rfl, N1q, e1⟩ := hQ1
  have N1 := Fr.app N0 N1q
  obtain ⟨_, _, ⟨T2, L2, k2, n2⟩, -, X2, ⟨Lc2, hQ2, l2, y2, z2⟩, st2⟩ := Jvm.LawKit.callS X1 hx (y := (⟨"com/example/commitwright/commitwright/http/Head", "isSpace", "(C)Z"⟩ : MethodName)) hown (mvT hZ (hw _ (List.mem_of_getElem? (i := 94) rfl))) (mvT hZ (hw _ (List.mem_of_getElem? (i := 95) rfl))) (mvT hZ (hw _ (List.mem_of_getElem? (i := 32) rfl))) (mvT hZ (hw _ (List.mem_of_getElem? (i := 96) rfl))) (by decide) (backOf (W := 0) (rm21 l Z a0 hw [] (xs.getD j 0) h0 n0 Z0) hZ (hw _ (List.mem_of_getElem? (i := 96) rfl)) (hw _ (List.mem_of_getElem? (i := 32) rfl)) (Nat.le_trans (by decide) hfr) (Nat.le_trans (by decide) hlo)) (g := (mkF m 41 #[.val (.ref r0), .val (.int (Int32.ofNat i)), .val (.int (Int32.ofNat (j + 1)))] [(.int (xs.getD j 0))])) rfl (by rw [hml]; rfl) (argsL := [(.int (xs.getD j 0))]) (rest := []) (lenOf pd_28C29Z rfl) rfl (by show 2 * 0 + _ ≤ _; exact Nat.le_of_eq rfl) (hb hby d6_41) (fun _ _ => ⟨rfl, e1, Nat.zero_le _, Nat.zero_le _⟩)
  dsimp only [Pt.U, Pt.locs, Pt.cells, Pt.slots] at X2 l2 y2 z2 st2 hQ2
  subst l2 y2 z2
  obtain ⟨rfl, N2q, e2⟩ := hQ2
  have N2 := Fr.app N1 N2q
  refine ⟨T2, _, X2, N2, e2, fun target kt => ?_⟩
  show Steps p.tables e below (T0.setTop (mkF m 29 #[.val (.ref r0), .val (.int (Int32.ofNat i)), .val (.int (Int32.ofNat (j + 1)))] [])) _
  refine XS.iloadN X0.here hx rfl (hb hby d6_29) rfl ?_
  refine XS.iloadN X0.here hx rfl (hb hby d6_30) rfl ?_
  show Steps p.tables e below (T0.setTop (mkF m 31 #[.val (.ref r0), .val (.int (Int32.ofNat i)), .val (.int (Int32.ofNat (j + 1)))] [(.int (Int32.ofNat i)), (.int (Int32.ofNat (j + 1)))])) _
  refine XS.icmpNo X0.here hx rfl (hb hby d6_31) rfl (tlt ((own_olt (by omega) (by omega)).mpr hi)).2.2.2 ?_
  refine XS.aloadN X0.here hx rfl (hb hby d6_34) rfl rfl ?_
  refine XS.iloadN X0.here hx rfl (hb hby d6_35) rfl ?_
  refine XS.iconst X0.here hx rfl (hb hby d6_36) ?_
  show Steps p.tables e below (T0.setTop (mkF m 37 #[.val (.ref r0), .val (.int (Int32.ofNat i)), .val (.int (Int32.ofNat (j + 1)))] [(.int (1 : Int32)), (.int (Int32.ofNat (j + 1))), (.ref r0)])) _
  refine XS.isub X0.here hx rfl (hb hby d6_37) rfl ?_
  show Steps p.tables e below (T0.setTop (mkF m 38 #[.val (.ref r0), .val (.int (Int32.ofNat i)), .val (.int (Int32.ofNat (j + 1)))] [(.int ((Int32.ofNat (j + 1)) - (1 : Int32))), (.ref r0)])) _
  rw [own_opred (by omega)]
  show Steps p.tables e below (T0.setTop (mkF m 38 #[.val (.ref r0), .val (.int (Int32.ofNat i)), .val (.int (Int32.ofNat (j + 1)))] [(.int (Int32.ofNat j)), (.ref r0)])) _
  refine st1.trans ?_
  show Steps p.tables e below (T1.setTop (mkF m 41 #[.val (.ref r0), .val (.int (Int32.ofNat i)), .val (.int (Int32.ofNat (j + 1)))] [(.int (xs.getD j 0))])) _
  refine st2 _ ?_
  show Steps p.tables e below (T2.setTop (mkF m 44 #[.val (.ref r0), .val (.int (Int32.ofNat i)), .val (.int (Int32.ofNat (j + 1)))] [(.int (own_sp (xs.getD j 0)))])) _
  refine XS.ifYes X2.here hx rfl (pc0 := 44) (pc' := 53) rfl (hb hby d6_44) rfl ((if0 _ _).trans (teq hsp).1) (by decide) (by decide) ?_
  show Steps p.tables e below (T2.setTop (mkF m 53 #[.val (.ref r0), .val (.int (Int32.ofNat i)), .val (.int (Int32.ofNat (j + 1)))] [])) _
  exact kt
set_option maxRecDepth 65536 in
set_option maxHeartbeats 40000000 in
theorem tr_end2 {p : Program} {l : Launch} {e : Env} {s : State} {m : MethodId} {args : Array Value} {below : List Frame} {meth : Method} {c : Code} {T0 : State} {locs : List Loc} {Z : State} {a0 : Array Value} {h0 : Heap} {n0 : Nat} {R : Room} (r0 b : Addr) (kb : ClassId) (xs : List Int32) (cs : Int32) (fm : Value) (i j : Nat)
    (X0 : Stand p l e R s m args below meth c T0 locs 0 0) (hx : p.tables.exec = Jvm.exec) (hZ : Z.Warmed39 s.vm) (hw : ∀ d ∈ tables_1, d.before a0 Z = true) (hby : c.code = prog_15_method_7_code) (hml : c.maxLocals = 3) (hown : s.vm.findClass "com/example/commitwright/commitwright/http/Head" = some m.cls) (e0 : T0.heap = h0) (Z0 : n0 ≤ h0.size) (N0 : Fr n0 locs) (E_r0 : Exa Z h0 r0 "java/lang/String") (C_r0 : Fld Z h0 r0 "java/lang/String" "coder" "B" (.int (0 : Int32))) (V_r0 : Fld Z h0 r0 "java/lang/String" "value" "[B" (.ref b)) (K_b : Arv Z h0 b kb .byte (Int32.ofNat xs.length) (own_bys xs) (.int (0 : Int32))) (O_0 : Old Z n0 h0) (S_cs : Sta Z Z.heap "java/lang/String" "COMPACT_STRINGS" "Z" (.int cs)) (hcs : ¬ (cs = (0 : Int32))) (S_fm : Sta Z Z.heap "jdk/internal/util/Preconditions" "SIOOBE_FORMATTER" "Ljava/util/function/BiFunction;" fm) (hfm : fm.isRef = true) (hcap : xs.length ≤ 4) (hfr : 4 ≤ R.frames) (hlo : 90 ≤ R.locals) (hi0 : i < 100) (hj0 : j < 100) (hi : ¬ i < j) :
    ∃ (T' : State) (locs' : List Loc), Stand p l e R s m args below meth c T' locs' 0 0 ∧ Fr n0 locs' ∧ T'.heap = h0 ∧ ∀ target, Steps p.tables e below (T'.setTop (mkF m 53 #[.val (.ref r0), .val (.int (Int32.ofNat i)), .val (.int (Int32.ofNat j))] [])) target → Steps p.tables e below (T0.setTop (mkF m 29 #[.val (.ref r0), .val (.int (Int32.ofNat i)), .val (.int (Int32.ofNat j))] [])) target := by
  refine ⟨T0, _, X0, N0, e0, fun target kt => ?_⟩
  show Steps p.tables e below (T0.setTop (mkF m 29 #[.val (.ref r0), .val (.int (Int32.ofNat i)), .val (.int (Int32.ofNat j))] [])) _
  refine XS.iloadN X0.here hx rfl (hb hby d6_29) rfl ?_
  refine XS.iloadN X0.here hx rfl (hb hby d6_30) rfl ?_
  show Steps p.tables e below (T0.setTop (mkF m 31 #[.val (.ref r0), .val (.int (Int32.ofNat i)), .val (.int (Int32.ofNat j))] [(.int (Int32.ofNat i)), (.int (Int32.ofNat j))])) _
  refine XS.icmpYes X0.here hx rfl (pc0 := 31) (pc' := 53) rfl (hb hby d6_31) rfl (flt (fun q => hi ((own_olt (by omega) (by omega)).mp q))).2.2.2 (by decide) (by decide) ?_
  show Steps p.tables e below (T0.setTop (mkF m 53 #[.val (.ref r0), .val (.int (Int32.ofNat i)), .val (.int (Int32.ofNat j))] [])) _
  exact kt
theorem own_loopL {p : Program} {l : Launch} {e : Env} {s : State} {m : MethodId} {args : Array Value} {below : List Frame} {meth : Method} {c : Code} {Z : State} {a0 : Array Value} {h0 : Heap} {n0 : Nat} {R : Room} (r0 b : Addr) (kb : ClassId) (xs : List Int32) (cs : Int32) (fm : Value) (hx : p.tables.exec = Jvm.exec) (hZ : Z.Warmed39 s.vm) (hw : ∀ d ∈ tables_1, d.before a0 Z = true) (hby : c.code = prog_15_method_7_code) (hml : c.maxLocals = 3) (hown : s.vm.findClass "com/example/commitwright/commitwright/http/Head" = some m.cls) (Z0 : n0 ≤ h0.size) (E_r0 : Exa Z h0 r0 "java/lang/String") (C_r0 : Fld Z h0 r0 "java/lang/String" "coder" "B" (.int (0 : Int32))) (V_r0 : Fld Z h0 r0 "java/lang/String" "value" "[B" (.ref b)) (K_b : Arv Z h0 b kb .byte (Int32.ofNat xs.length) (own_bys xs) (.int (0 : Int32))) (O_0 : Old Z n0 h0) (S_cs : Sta Z Z.heap "java/lang/String" "COMPACT_STRINGS" "Z" (.int cs)) (hcs : ¬ (cs = (0 : Int32))) (S_fm : Sta Z Z.heap "jdk/internal/util/Preconditions" "SIOOBE_FORMATTER" "Ljava/util/function/BiFunction;" fm) (hfm : fm.isRef = true) (hcap : xs.length ≤ 4) (hfr : 4 ≤ R.frames) (hlo : 90 ≤ R.locals) (hch : ∀ i, i < xs.length → own_ch (xs.getD i 0)) : ∀ (k i : Nat), i + k = xs.length → ∀ {T0 : State} {locs : List Loc} (X0 : Stand p l e R s m args below meth c T0 locs 0 0) (e0 : T0.heap = h0) (N0 : Fr n0 locs), ∃ (T' : State) (locs' : List Loc), Stand p l e R s m args below meth c T' locs' 0 0 ∧ Fr n0 locs' ∧ T'.heap = h0 ∧ ∀ target, Steps p.tables e below (T'.setTop (mkF m 29 #[.val (.ref r0), .val (.int (Int32.ofNat (i + own_lead (xs.drop i)))), .val (.int (Int32.ofNat xs.length))] [])) target → Steps p.tables e below (T0.setTop (mkF m 7 #[.val (.ref r0), .val (.int (Int32.ofNat i)), .val (.int (Int32.ofNat xs.length))] [])) target := by
  intro k
  induction k with
  | zero =>
    intro i hk T0 locs X0 e0 N0
    have e1 : i + own_lead (xs.drop i) = i := by rw [List.drop_eq_nil_of_le (by omega)]; rfl
    rw [e1]
    exact tr_end r0 b kb xs cs fm i X0 hx hZ hw hby hml hown e0 Z0 N0 E_r0 C_r0 V_r0 K_b O_0 S_cs hcs S_fm hfm hcap hfr hlo (by omega) (by omega)
  | succ k ih =>
    intro i hk T0 locs X0 e0 N0
    have hi : i < xs.length := by omega
    by_cases hsp : own_sp (xs.getD i 0) = (0 : Int32)
    · have e1 : i + own_lead (xs.drop i) = i := by rw [own_drop hi, own_lead_hit hsp]; rfl
      rw [e1]
      exact tr_hit r0 b kb xs cs fm i X0 hx hZ hw hby hml hown e0 Z0 N0 E_r0 C_r0 V_r0 K_b O_0 S_cs hcs S_fm hfm hcap hfr hlo hi (hch i hi) hsp
    · obtain ⟨T1, l1, X1, N1, e1, st1⟩ := tr_go r0 b kb xs cs fm i X0 hx hZ hw hby hml hown e0 Z0 N0 E_r0 C_r0 V_r0 K_b O_0 S_cs hcs S_fm hfm hcap hfr hlo hi (hch i hi) hsp
      obtain ⟨T2, l2, X2, N2, e2, st2⟩ := ih (i + 1) (by omega) X1 e1 N1
      have e3 : i + 1 + own_lead (xs.drop (i + 1)) = i + own_lead (xs.drop i) := by rw [own_drop hi, own_lead_go hsp]; omega
      rw [e3] at st2
      exact ⟨T2, l2, X2, N2, e2, fun t q => st1 t (st2 t q)⟩
theorem own_loopR {p : Program} {l : Launch} {e : Env} {s : State} {m : MethodId} {args : Array Value} {below : List Frame} {meth : Method} {c : Code} {Z : State} {a0 : Array Value} {h0 : Heap} {n0 : Nat} {R : Room} (r0 b : Addr) (kb : ClassId) (xs : List Int32) (cs : Int32) (fm : Value) (hx : p.tables.exec = Jvm.exec) (hZ : Z.Warmed39 s.vm) (hw : ∀ d ∈ tables_1, d.before a0 Z = true) (hby : c.code = prog_15_method_7_code) (hml : c.maxLocals = 3) (hown : s.vm.findClass "com/example/commitwright/commitwright/http/Head" = some m.cls) (Z0 : n0 ≤ h0.size) (E_r0 : Exa Z h0 r0 "java/lang/String") (C_r0 : Fld Z h0 r0 "java/lang/String" "coder" "B" (.int (0 : Int32))) (V_r0 : Fld Z h0 r0 "java/lang/String" "value" "[B" (.ref b)) (K_b : Arv Z h0 b kb .byte (Int32.ofNat xs.length) (own_bys xs) (.int (0 : Int32))) (O_0 : Old Z n0 h0) (S_cs : Sta Z Z.heap "java/lang/String" "COMPACT_STRINGS" "Z" (.int cs)) (hcs : ¬ (cs = (0 : Int32))) (S_fm : Sta Z Z.heap "jdk/internal/util/Preconditions" "SIOOBE_FORMATTER" "Ljava/util/function/BiFunction;" fm) (hfm : fm.isRef = true) (hcap : xs.length ≤ 4) (hfr : 4 ≤ R.frames) (hlo : 90 ≤ R.locals) (hch : ∀ i, i < xs.length → own_ch (xs.getD i 0)) (i : Nat) (hi0 : i < 100) : ∀ (j : Nat), j ≤ xs.length → ∀ {T0 : State} {locs : List Loc} (X0 : Stand p l e R s m args below meth c T0 locs 0 0) (e0 : T0.heap = h0) (N0 : Fr n0 locs), ∃ (T' : State) (locs' : List Loc), Stand p l e R s m args below meth c T' locs' 0 0 ∧ Fr n0 locs' ∧ T'.heap = h0 ∧ ∀ target, Steps p.tables e below (T'.setTop (mkF m 53 #[.val (.ref r0), .val (.int (Int32.ofNat i)), .val (.int (Int32.ofNat (own_tail xs i j)))] [])) target → Steps p.tables e below (T0.setTop (mkF m 29 #[.val (.ref r0), .val (.int (Int32.ofNat i)), .val (.int (Int32.ofNat j))] [])) target := by
  intro j
  induction j with
  | zero =>
    intro hj T0 locs X0 e0 N0
    rw [own_tail_end (Nat.not_lt_zero _)]
    exact tr_end2 r0 b kb xs cs fm i 0 X0 hx hZ hw hby hml hown e0 Z0 N0 E_r0 C_r0 V_r0 K_b O_0 S_cs hcs S_fm hfm hcap hfr hlo hi0 (by omega) (Nat.not_lt_zero _)
  | succ j ih =>
    intro hj T0 locs X0 e0 N0
    by_cases hi : i < j + 1
    · by_cases hsp : own_sp (xs.getD j 0) = (0 : Int32)
      · rw [own_tail_hit (by omega) hi hsp]
        exact tr_hit2 r0 b kb xs cs fm i j X0 hx hZ hw hby hml hown e0 Z0 N0 E_r0 C_r0 V_r0 K_b O_0 S_cs hcs S_fm hfm hcap hfr hlo (by omega) hi (hch j (by omega)) hsp
      · obtain ⟨T1, l1, X1, N1, e1, st1⟩ := tr_go2 r0 b kb xs cs fm i j X0 hx hZ hw hby hml hown e0 Z0 N0 E_r0 C_r0 V_r0 K_b O_0 S_cs hcs S_fm hfm hcap hfr hlo (by omega) hi (hch j (by omega)) hsp
        obtain ⟨T2, l2, X2, N2, e2, st2⟩ := ih (by omega) X1 e1 N1
        rw [own_tail_go (by omega) hi hsp]
        exact ⟨T2, l2, X2, N2, e2, fun t q => st1 t (st2 t q)⟩
    · rw [own_tail_end hi]
      exact tr_end2 r0 b kb xs cs fm i (j + 1) X0 hx hZ hw hby hml hown e0 Z0 N0 E_r0 C_r0 V_r0 K_b O_0 S_cs hcs S_fm hfm hcap hfr hlo hi0 (by omega) hi
theorem ef_22_e (m : MethodId) (x0 : Addr) (x1 : Int32) (x2 : Int32) : entryFrame m #[(.ref x0), (.int x1), (.int x2)] 3 = mkF m 0 #[.val (.ref x0), .val (.int x1), .val (.int x2)] [] := by first | (simp [entryFrame, mkF, argsToLocals, Value.category]; done) | rfl
theorem d22_4 : decode jdk_43_method_47_code 4 = .ok (.ldc 151, 2) := by decide +kernel
theorem d22_6 : decode jdk_43_method_47_code 6 = .ok (.areturn, 1) := by decide +kernel
def Q22_e (Z : State) (r0 : Addr) (ka : ClassId) (ib k iz : Nat) (vs : List Value) (h0 : Heap) (n0 : Nat) (v : Option Value) (h : Heap) (L : List Loc) : Prop := ∃ (r b : Addr) (kb : ClassId) (rl : List Value), v = some (.ref r) ∧ Fr n0 L ∧ Keep h0 h [] ∧ Exa Z h r "java/lang/String" ∧ Fld Z h r "java/lang/String" "coder" "B" (.int (0 : Int32)) ∧ Fld Z h r "java/lang/String" "value" "[B" (.ref b) ∧ Arv Z h b kb .byte (Int32.ofNat k) rl (.int (0 : Int32)) ∧ ∀ i, i < k → rl.getD i (.int (0 : Int32)) = vs.getD (ib + i) (.int (0 : Int32))
set_option maxRecDepth 65536 in
set_option maxHeartbeats 40000000 in
theorem rm22_e (l : Launch) (Z : State) (a0 : Array Value) (hw : ∀ d ∈ tables_1, d.before a0 Z = true) (ws : List Jvm.Cond) (r0 : Addr) (ka : ClassId) (ib k iz : Nat) (vs : List Value) (h0 : Heap) (n0 : Nat) (Z0 : n0 ≤ h0.size) (hk0 : k = 0) :
    MetFree l (⟨"java/lang/StringLatin1", "newString", "([BII)Ljava/lang/String;"⟩ : MethodName) (head1 (Jvm.Cond.code (⟨"java/lang/StringLatin1", "newString", "([BII)Ljava/lang/String;"⟩ : MethodName) jdk_43_method_47_code 3 (some (.object "java/lang/String")) :: ws) ({ frames := 0, cells := 2, slots := 4, locals := 0 } : Room)) (fun a U => a = #[(.ref r0), (.int (Int32.ofNat ib)), (.int (Int32.ofNat k))] ∧ Z.Warmed39 U.vm ∧ U.heap = h0 ∧ CHv Z own_EL U.vm h0) (fun _ _ _ _ _ => True) (fun _ U o U' => ∃ v L, o = .returned v ∧ Q22_e Z r0 ka ib k iz vs h0 n0 v U'.heap L ∧ CHr Z own_EL U.vm U.heap U'.vm U'.heap ∧ ReturnedEndW U o U' L ({ frames := 0, cells := 2, slots := 4, locals := 0 } : Room).cells ({ frames := 0, cells := 2, slots := 4, locals := 0 } : Room).slots) := by
  refine MetFree.of_bodySF (plainFor_of_name pn_java_lang_StringLatin1) hisR ?_
  intro p e s m args below meth c s₁ Bd hml0 hP hK
  obtain ⟨rfl, hZ, hh, hCH⟩ := hP
  have hx := Bd.exec
  have hby := Bd.bytes
  have hml : c.maxLocals = 3 := hml0
  have hown : s.vm.findClass "java/lang/StringLatin1" = some m.cls := findClass_of_methodNamed Bd.named
  have hnm := (name_of_methodNamed Bd.named Bd.method).1
  have X0 : Stand p l e ({ frames := 0, cells := 2, slots := 4, locals := 0 } : Room) s m #[(.ref r0), (.int (Int32.ofNat ib)), (.int (Int32.ofNat k))] below meth c s₁ [] 0 0 := Stand.of_body Bd
  have e0 : s₁.heap = h0 := by rw [← hh, Bd.state]; rfl
  have N0 := Fr.nil n0
  have pre0 : ∀ t, Steps p.tables e below (s₁.setTop (mkF m 0 #[.val (.ref r0), .val (.int (Int32.ofNat ib)), .val (.int (Int32.ofNat k))] [])) t → Steps p.tables e below (s₁.setTop (entryFrame m #[(.ref r0), (.int (Int32.ofNat ib)), (.int (Int32.ofNat k))] 3)) t := fun tt kt_ => castTop (ef_22_e m r0 (Int32.ofNat ib) (Int32.ofNat k)) kt_
  have CH0 : CHr Z own_EL s.vm h0 s.vm h0 := CHr.refl hCH
  have K0 : Keep h0 h0 [] := Keep.refl h0 []
  obtain ⟨a1, T1, h1, kk1, b1, kb1, X1, e1, E1, hS1, hk1, hZ1, hown1, EE1, FC1, FV1, KA1, la1, lb1, hC1, Lt1, sf1, st1⟩ := ldcCH (s := s) (vm0 := s.vm) X0 hx hZ hown (hw _ (List.mem_of_getElem? (i := 125) rfl)) (own_satoms hw) e0 ((State.WarmedH.refl s).since 0) (Nat.zero_le _) (own_EW hw) (by simp [own_EL]) CH0.1 (vs := []) (z := (0 : Int32)) ⟨by simp, by simp⟩ (by decide) rfl (g := (mkF m 4 #[.val (.ref r0), .val (.int (Int32.ofNat ib)), .val (.int (Int32.ofNat k))] [])) rfl (hb hby d22_4) (n := 0) (by decide) (by decide) (by decide) (by decide)
  have CH1 : CHr Z own_EL s.vm h0 T1.vm h1 := CH0.trans hC1
  have K1 : Keep h0 h1 [] := K0.ext E1
  have Z1 : n0 ≤ h1.size := Nat.le_trans Z0 E1.1
  have CHe : CHr Z own_EL s.vm s.heap T1.vm T1.heap := by
    have q := CH1.trans (CHv.at (s := s) X1 hZ1 (own_EW hw) CH1.1)
    rw [hh, e1]
    exact q
  obtain ⟨fs, hr, hrun, hended, rw1, rw2, rw3, rw4⟩ := X1.leaveW hS1 (by rw [e1]; exact hk1) (v := some (.ref a1)) (fun h => by rw [Bd.returns] at h; cases h)
  refine ⟨_, _, pre0 _ ?_, hrun, hended, _, _, rfl, ?_, CHe, rw1, rw2, rw3, rw4.mono (by decide) (by decide)⟩
  · show Steps p.tables e below (s₁.setTop (mkF m 0 #[.val (.ref r0), .val (.int (Int32.ofNat ib)), .val (.int (Int32.ofNat k))] [])) _
    refine XS.iloadN X0.here hx rfl (hb hby d22_0) rfl ?_
    show Steps p.tables e below (s₁.setTop (mkF m 1 #[.val (.ref r0), .val (.int (Int32.ofNat ib)), .val (.int (Int32.ofNat k))] [(.int (Int32.ofNat k))])) _
    refine XS.ifNo X0.here hx rfl (hb hby d22_1) rfl ((if0 _ _).trans (teq (own_z hk0)).2) ?_
    show Steps p.tables e below (s₁.setTop (mkF m 4 #[.val (.ref r0), .val (.int (Int32.ofNat ib)), .val (.int (Int32.ofNat k))] [])) _
    refine st1 _ ?_
    show Steps p.tables e below (T1.setTop (mkF m 6 #[.val (.ref r0), .val (.int (Int32.ofNat ib)), .val (.int (Int32.ofNat k))] [(.ref a1)])) _
    jvm_step X1.here [X1.here.top, hx, (hb hby d22_6), X1.method', Bd.returns, Value.isRef, FieldType.isReference]
    first | (intro acts; rw [hr _ acts rfl rfl rfl]) | rw [hr _ _ rfl rfl rfl]
    exact Steps.refl _
  · show Q22_e Z r0 ka ib k iz vs h0 n0 _ T1.heap _
    rw [e1]
    subst hk0
    exact ⟨a1, b1, _, _, rfl, N0, K1, EE1, FC1, FV1, KA1, fun i hi => absurd hi (Nat.not_lt_zero _)⟩
theorem ef_9_e (m : MethodId) (x0 : Addr) (x1 : Int32) (x2 : Int32) : entryFrame m #[(.ref x0), (.int x1), (.int x2)] 5 = mkF m 0 #[.val (.ref x0), .val (.int x1), .val (.int x2), .unset, .unset] [] := by first | (simp [entryFrame, mkF, argsToLocals, Value.category]; done) | rfl
def Q9_e (Z : State) (r0 : Addr) (b : Addr) (kb : ClassId) (ib k iz : Nat) (vs : List Value) (cs : Int32) (fm : Value) (h0 : Heap) (n0 : Nat) (v : Option Value) (h : Heap) (L : List Loc) : Prop := ∃ (r b : Addr) (kb : ClassId) (rl : List Value), v = some (.ref r) ∧ Fr n0 L ∧ Keep h0 h [] ∧ Exa Z h r "java/lang/String" ∧ Fld Z h r "java/lang/String" "coder" "B" (.int (0 : Int32)) ∧ Fld Z h r "java/lang/String" "value" "[B" (.ref b) ∧ Arv Z h b kb .byte (Int32.ofNat k) rl (.int (0 : Int32)) ∧ ∀ i, i < k → rl.getD i (.int (0 : Int32)) = vs.getD (ib + i) (.int (0 : Int32))
set_option maxRecDepth 65536 in
set_option maxHeartbeats 40000000 in
theorem rm9_e (l : Launch) (Z : State) (a0 : Array Value) (hw : ∀ d ∈ tables_1, d.before a0 Z = true) (ws : List Jvm.Cond) (r0 : Addr) (b : Addr) (kb : ClassId) (ib k iz : Nat) (vs : List Value) (cs : Int32) (fm : Value) (h0 : Heap) (n0 : Nat) (Z0 : n0 ≤ h0.size) (E_r0 : Exa Z h0 r0 "java/lang/String") (C_r0 : Fld Z h0 r0 "java/lang/String" "coder" "B" (.int (0 : Int32))) (V_r0 : Fld Z h0 r0 "java/lang/String" "value" "[B" (.ref b)) (K_b : Arv Z h0 b kb .byte (Int32.ofNat iz) vs (.int (0 : Int32))) (O_0 : Old Z n0 h0) (S_cs : Sta Z Z.heap "java/lang/String" "COMPACT_STRINGS" "Z" (.int cs)) (hcs : ¬ (cs = (0 : Int32))) (S_fm : Sta Z Z.heap "jdk/internal/util/Preconditions" "SIOOBE_FORMATTER" "Ljava/util/function/BiFunction;" fm) (hfm : fm.isRef = true) (hz : ib + k ≤ iz) (hcap : iz ≤ 4) (hk0 : k = 0) (hnw : ¬ (ib = 0 ∧ ib + k = iz)) :
    MetFree l (⟨"java/lang/String", "substring", "(II)Ljava/lang/String;"⟩ : MethodName) (head1 (Jvm.Cond.code (⟨"java/lang/String", "substring", "(II)Ljava/lang/String;"⟩ : MethodName) jdk_42_method_92_code 5 (some (.object "java/lang/String")) :: ws) ({ frames := 2, cells := 2, slots := 4, locals := 29 } : Room)) (fun a U => a = #[(.ref r0), (.int (Int32.ofNat ib)), (.int (Int32.ofNat (ib + k)))] ∧ Z.Warmed39 U.vm ∧ U.heap = h0 ∧ CHv Z own_EL U.vm h0) (fun _ _ _ _ _ => True) (fun _ U o U' => ∃ v L, o = .returned v ∧ Q9_e Z r0 b kb ib k iz vs cs fm h0 n0 v U'.heap L ∧ CHr Z own_EL U.vm U.heap U'.vm U'.heap ∧ ReturnedEndW U o U' L ({ frames := 2, cells := 2, slots := 4, locals := 29 } : Room).cells ({ frames := 2, cells := 2, slots := 4, locals := 29 } : Room).slots) := by
  refine MetFree.of_bodySF (plainFor_of_name pn_java_lang_String) hisR ?_
  intro p e s m args below meth c s₁ Bd hml0 hP hK
  obtain ⟨rfl, hZ, hh, hCH⟩ := hP
  have hx := Bd.exec
  have hby := Bd.bytes
  have hml : c.maxLocals = 5 := hml0
  have hown : s.vm.findClass "java/lang/String" = some m.cls := findClass_of_methodNamed Bd.named
  have hnm := (name_of_methodNamed Bd.named Bd.method).1
  have X0 : Stand p l e ({ frames := 2, cells := 2, slots := 4, locals := 29 } : Room) s m #[(.ref r0), (.int (Int32.ofNat ib)), (.int (Int32.ofNat (ib + k)))] below meth c s₁ [] 0 0 := Stand.of_body Bd
  have e0 : s₁.heap = h0 := by rw [← hh, Bd.state]; rfl
  have N0 := Fr.nil n0
  have pre0 : ∀ t, Steps p.tables e below (s₁.setTop (mkF m 0 #[.val (.ref r0), .val (.int (Int32.ofNat ib)), .val (.int (Int32.ofNat (ib + k))), .unset, .unset] [])) t → Steps p.tables e below (s₁.setTop (entryFrame m #[(.ref r0), (.int (Int32.ofNat ib)), (.int (Int32.ofNat (ib + k)))] 5)) t := fun tt kt_ => castTop (ef_9_e m r0 (Int32.ofNat ib) (Int32.ofNat (ib + k))) kt_
  have CH0 : CHr Z own_EL s.vm h0 s.vm h0 := CHr.refl hCH
  have K0 : Keep h0 h0 [] := Keep.refl h0 []
  obtain ⟨cq1, kq1, q1a, q1b, q1c⟩ := isOf hZ e0 E_r0
  obtain ⟨_, _, ⟨T1, L1, k1, n1⟩, -, X1, ⟨Lc1, hQ1, l1, y1, z1⟩, st1⟩ := X0.virtualBack hx (y := (⟨"java/lang/String", "length", "()I"⟩ : MethodName)) (z := (⟨"java/lang/String", "length", "()I"⟩ : MethodName)) hown (mvT hZ (hw _ (List.mem_of_getElem? (i := 50) rfl))) (mvT hZ (hw _ (List.mem_of_getElem? (i := 35) rfl))) (notFace_of_selects (args := #[]) (mvT hZ (hw _ (List.mem_of_getElem? (i := 37) rfl)))) (mvT hZ (hw _ (List.mem_of_getElem? (i := 37) rfl))) (mvT hZ (hw _ (List.mem_of_getElem? (i := 36) rfl))) (by decide) (backOf (W := 0) (rm7 l Z a0 hw [] r0 b kb (Int32.ofNat iz) vs cs h0 n0 Z0 E_r0 C_r0 V_r0 K_b O_0 S_cs hcs) hZ (hw _ (List.mem_of_getElem? (i := 38) rfl)) (hw _ (List.mem_of_getElem? (i := 11) rfl)) (by decide) (by decide)) q1a q1c (g := (mkF m 1 #[.val (.ref r0), .val (.int (Int32.ofNat ib)), .val (.int (Int32.ofNat (ib + k))), .unset, .unset] [(.ref r0)])) rfl (by rw [hml]; rfl) (Steps.refl _) (argsL := []) (rest := []) (lenOf pd_2829I rfl) rfl (by show 2 * 0 + _ ≤ _; exact Nat.le_of_eq rfl) (hb hby d9_1) (fun _ _ => ⟨rfl, e0, (by decide : 0 + 0 ≤ _), (by decide : 0 + 0 ≤ _)⟩)
  dsimp only [Pt.U, Pt.locs, Pt.cells, Pt.slots] at X1 l1 y1 z1 st1 hQ1
  subst l1 y1 z1
  obtain ⟨rfl, N1q, e1⟩ := hQ1
  have N1 := Fr.app N0 N1q
  obtain ⟨_, _, ⟨T2, L2, k2, n2⟩, -, X2, ⟨Lc2, hQ2, l2, y2, z2⟩, st2⟩ := Jvm.LawKit.callS X1 hx (y := (⟨"java/lang/String", "checkBoundsBeginEnd", "(III)V"⟩ : MethodName)) hown (mvT hZ (hw _ (List.mem_of_getElem? (i := 51) rfl))) (mvT hZ (hw _ (List.mem_of_getElem? (i := 52) rfl))) (mvT hZ (hw _ (List.mem_of_getElem? (i := 11) rfl))) (mvT hZ (hw _ (List.mem_of_getElem? (i := 53) rfl))) (by decide) (backOf (W := 0) (rm10 l Z a0 hw [] (Int32.ofNat ib) (Int32.ofNat (ib + k)) (Int32.ofNat iz) fm h0 n0 Z0 O_0 S_fm hfm (own_o0 (by omega)) (fun q => by rw [own_olt (by omega) (by omega)] at q; omega) (fun q => by rw [own_olt (by omega) (by omega)] at q; omega)) hZ (hw _ (List.mem_of_getElem? (i := 53) rfl)) (hw _ (List.mem_of_getElem? (i := 11) rfl)) (by decide) (by decide)) (g := (mkF m 8 #[.val (.ref r0), .val (.int (Int32.ofNat ib)), .val (.int (Int32.ofNat (ib + k))), .val (.int (Int32.ofNat iz)), .unset] [(.int (Int32.ofNat iz)), (.int (Int32.ofNat (ib + k))), (.int (Int32.ofNat ib))])) rfl (by rw [hml]; rfl) (argsL := [(.int (Int32.ofNat ib)), (.int (Int32.ofNat (ib + k))), (.int (Int32.ofNat iz))]) (rest := []) (lenOf pd_28III29V rfl) rfl (by show 2 * 0 + _ ≤ _; exact Nat.le_of_eq rfl) (hb hby d9_8) (fun _ _ => ⟨rfl, e1, (by decide : 0 + 0 ≤ _), (by decide : 0 + 0 ≤ _)⟩)
  dsimp only [Pt.U, Pt.locs, Pt.cells, Pt.slots] at X2 l2 y2 z2 st2 hQ2
  subst l2 y2 z2
  obtain ⟨rfl, N2q, e2⟩ := hQ2
  have N2 := Fr.app N1 N2q
  by_cases hc12 : (Int32.ofNat ib) = (0 : Int32)
  · obtain ⟨cq3, kq3, q3a, q3b, q3c⟩ := isOf hZ e2 E_r0
    obtain ⟨_, _, ⟨T3, L3, k3, n3⟩, -, X3, ⟨Lc3, hQ3, l3, y3, z3⟩, st3⟩ := X2.virtualBack hx (y := (⟨"java/lang/String", "isLatin1", "()Z"⟩ : MethodName)) (z := (⟨"java/lang/String", "isLatin1", "()Z"⟩ : MethodName)) hown (mvT hZ (hw _ (List.mem_of_getElem? (i := 79) rfl))) (mvT hZ (hw _ (List.mem_of_getElem? (i := 80) rfl))) (notFace_of_selects (args := #[]) (mvT hZ (hw _ (List.mem_of_getElem? (i := 82) rfl)))) (mvT hZ (hw _ (List.mem_of_getElem? (i := 82) rfl))) (mvT hZ (hw _ (List.mem_of_getElem? (i := 81) rfl))) (by decide) (backOf (W := 0) (rm17 l Z a0 hw [] r0 cs h0 n0 Z0 C_r0 O_0 S_cs hcs) hZ (hw _ (List.mem_of_getElem? (i := 83) rfl)) (hw _ (List.mem_of_getElem? (i := 11) rfl)) (by decide) (by decide)) q3a q3c (g := (mkF m 28 #[.val (.ref r0), .val (.int (Int32.ofNat ib)), .val (.int (Int32.ofNat (ib + k))), .val (.int (Int32.ofNat iz)), .val (.int (Int32.ofNat k))] [(.ref r0)])) rfl (by rw [hml]; rfl) (Steps.refl _) (argsL := []) (rest := []) (lenOf pd_2829Z rfl) rfl (by show 2 * 0 + _ ≤ _; exact Nat.le_of_eq rfl) (hb hby d9_28) (fun _ _ => ⟨rfl, e2, (by decide : 0 + 0 ≤ _), (by decide : 0 + 0 ≤ _)⟩)
    dsimp only [Pt.U, Pt.locs, Pt.cells, Pt.slots] at X3 l3 y3 z3 st3 hQ3
    subst l3 y3 z3
    obtain ⟨rfl, N3q, e3⟩ := hQ3
    have N3 := Fr.app N2 N3q
    obtain ⟨T4, X4, e4, st4⟩ := getF X3 hx hZ hown (host := "") (Or.inl (hw _ (List.mem_of_getElem? (i := 28) rfl))) Via.refl e3 V_r0 (g := (mkF m 35 #[.val (.ref r0), .val (.int (Int32.ofNat ib)), .val (.int (Int32.ofNat (ib + k))), .val (.int (Int32.ofNat iz)), .val (.int (Int32.ofNat k))] [(.ref r0)])) rfl rfl (hb hby d9_35)
    obtain ⟨_, _, ⟨T5, L5, k5, n5⟩, -, Y5, hs5, hg5, ⟨Lc5, hQ5, l5, y5, z5, hC5⟩, st5⟩ := callSS X4 hx (y := (⟨"java/lang/StringLatin1", "newString", "([BII)Ljava/lang/String;"⟩ : MethodName)) hown (mvT hZ (hw _ (List.mem_of_getElem? (i := 97) rfl))) (mvT hZ (hw _ (List.mem_of_getElem? (i := 98) rfl))) (mvT hZ (hw _ (List.mem_of_getElem? (i := 86) rfl))) (mvT hZ (hw _ (List.mem_of_getElem? (i := 99) rfl))) (by decide) (backOfSH (s := s) (vm0 := s.vm) (W := 0) (rm22_e l Z a0 hw [] b kb ib k iz vs h0 n0 Z0 hk0) hZ (hw _ (List.mem_of_getElem? (i := 99) rfl)) (hw _ (List.mem_of_getElem? (i := 86) rfl)) (by decide) (by decide) (own_EW hw) CH0.1) (g := (mkF m 41 #[.val (.ref r0), .val (.int (Int32.ofNat ib)), .val (.int (Int32.ofNat (ib + k))), .val (.int (Int32.ofNat iz)), .val (.int (Int32.ofNat k))] [(.int (Int32.ofNat k)), (.int (Int32.ofNat ib)), (.ref b)])) rfl (by rw [hml]; rfl) (argsL := [(.ref b), (.int (Int32.ofNat ib)), (.int (Int32.ofNat k))]) (rest := []) (lenOf pd_285bBII29Ljava2flang2fString3b rfl) rfl (by show 2 * 0 + _ ≤ _; exact Nat.le_of_eq rfl) (hb hby d9_41) (fun _ _ => ⟨rfl, e4, (by decide : 0 + 2 ≤ _), (by decide : 0 + 4 ≤ _)⟩)
    dsimp only [Pt.U, Pt.locs, Pt.cells, Pt.slots] at Y5 hs5 hg5 l5 y5 z5 st5 hQ5 hC5
    subst l5 y5 z5
    obtain ⟨X5, hS5, hZ5, hown5⟩ := rebS (s := s) (vm0 := s.vm) ((State.WarmedH.refl s).since 0) (Nat.zero_le _) Y5 hs5 hg5 hZ hown
    obtain ⟨r5, b5, kb5, rl5, rfl, N5q, KK5, ER5, FC5, FV5, VB5, hP5⟩ := hQ5
    obtain ⟨h5, e5⟩ : ∃ z, T5.heap = z := ⟨_, rfl⟩
    rw [e5] at KK5 ER5 FC5 FV5 VB5
    have O_0_at5 : Old Z n0 h5 := O_0.keep KK5 all0
    have E_r0_at5 : Exa Z h5 r0 "java/lang/String" := E_r0.keep KK5
    have C_r0_at5 : Fld Z h5 r0 "java/lang/String" "coder" "B" (.int (0 : Int32)) := C_r0.keep KK5 nin0
    have V_r0_at5 : Fld Z h5 r0 "java/lang/String" "value" "[B" (.ref b) := V_r0.keep KK5 nin0
    have K_b_at5 : Arv Z h5 b kb .byte (Int32.ofNat iz) vs (.int (0 : Int32)) := K_b.keep KK5 nin0
    rw [e5] at hC5
    have CH5 : CHr Z own_EL s.vm h0 T5.vm h5 := CH0.trans hC5
    have K5 : Keep h0 h5 [] := K0.trans KK5 all0
    have Z5 : n0 ≤ h5.size := Nat.le_trans Z0 KK5.1
    rw [e5] at hS5
    have N5 := Fr.app N3 N5q
    have CHe : CHr Z own_EL s.vm s.heap T5.vm T5.heap := by
      have q := CH5.trans (CHv.at (s := s) X5 hZ5 (own_EW hw) CH5.1)
      rw [hh, e5]
      exact q
    obtain ⟨fs, hr, hrun, hended, rw1, rw2, rw3, rw4⟩ := X5.leaveW hS5 (by rw [e5]; exact (Nat.le_refl _)) (v := some (.ref r5)) (fun h => by rw [Bd.returns] at h; cases h)
    refine ⟨_, _, pre0 _ ?_, hrun, hended, _, _, rfl, ?_, CHe, rw1, rw2, rw3, rw4.mono (by decide) (by decide)⟩
    · show Steps p.tables e below (s₁.setTop (mkF m 0 #[.val (.ref r0), .val (.int (Int32.ofNat ib)), .val (.int (Int32.ofNat (ib + k))), .unset, .unset] [])) _
      refine XS.aloadN X0.here hx rfl (hb hby d9_0) rfl rfl ?_
      show Steps p.tables e below (s₁.setTop (mkF m 1 #[.val (.ref r0), .val (.int (Int32.ofNat ib)), .val (.int (Int32.ofNat (ib + k))), .unset, .unset] [(.ref r0)])) _
      refine st1.trans ?_
      show Steps p.tables e below (T1.setTop (mkF m 4 #[.val (.ref r0), .val (.int (Int32.ofNat ib)), .val (.int (Int32.ofNat (ib + k))), .unset, .unset] [(.int (Int32.ofNat iz))])) _
      refine XS.istoreN X1.here hx rfl (hb hby d9_4) rfl (l' := #[.val (.ref r0), .val (.int (Int32.ofNat ib)), .val (.int (Int32.ofNat (ib + k))), .val (.int (Int32.ofNat iz)), .unset]) rfl ?_
      refine XS.iloadN X1.here hx rfl (hb hby d9_5) rfl ?_
      refine XS.iloadN X1.here hx rfl (hb hby d9_6) rfl ?_
      refine XS.iloadN X1.here hx rfl (hb hby d9_7) rfl ?_
      show Steps p.tables e below (T1.setTop (mkF m 8 #[.val (.ref r0), .val (.int (Int32.ofNat ib)), .val (.int (Int32.ofNat (ib + k))), .val (.int (Int32.ofNat iz)), .unset] [(.int (Int32.ofNat iz)), (.int (Int32.ofNat (ib + k))), (.int (Int32.ofNat ib))])) _
      refine st2 _ ?_
      show Steps p.tables e below (T2.setTop (mkF m 11 #[.val (.ref r0), .val (.int (Int32.ofNat ib)), .val (.int (Int32.ofNat (ib + k))), .val (.int (Int32.ofNat iz)), .unset] [])) _
      refine XS.iloadN X2.here hx rfl (hb hby d9_11) rfl ?_
      show Steps p.tables e below (T2.setTop (mkF m 12 #[.val (.ref r0), .val (.int (Int32.ofNat ib)), .val (.int (Int32.ofNat (ib + k))), .val (.int (Int32.ofNat iz)), .unset] [(.int (Int32.ofNat ib))])) _
      refine XS.ifNo X2.here hx rfl (hb hby d9_12) rfl ((if0 _ _).trans (teq hc12).2) ?_
      refine XS.iloadN X2.here hx rfl (hb hby d9_15) rfl ?_
      refine XS.iloadN X2.here hx rfl (hb hby d9_16) rfl ?_
      show Steps p.tables e below (T2.setTop (mkF m 17 #[.val (.ref r0), .val (.int (Int32.ofNat ib)), .val (.int (Int32.ofNat (ib + k))), .val (.int (Int32.ofNat iz)), .unset] [(.int (Int32.ofNat iz)), (.int (Int32.ofNat (ib + k)))])) _
      refine XS.icmpYes X2.here hx rfl (pc0 := 17) (pc' := 22) rfl (hb hby d9_17) rfl (feq (fun q => hnw ⟨own_is0 (by omega) hc12, (own_oeq (by omega) (by omega)).mp q⟩)).2 (by decide) (by decide) ?_
      refine XS.iloadN X2.here hx rfl (hb hby d9_22) rfl ?_
      refine XS.iloadN X2.here hx rfl (hb hby d9_23) rfl ?_
      refine XS.isub X2.here hx rfl (hb hby d9_24) rfl ?_
      show Steps p.tables e below (T2.setTop (mkF m 25 #[.val (.ref r0), .val (.int (Int32.ofNat ib)), .val (.int (Int32.ofNat (ib + k))), .val (.int (Int32.ofNat iz)), .unset] [(.int ((Int32.ofNat (ib + k)) - (Int32.ofNat ib)))])) _
      rw [own_osub2 (by omega)]
      show Steps p.tables e below (T2.setTop (mkF m 25 #[.val (.ref r0), .val (.int (Int32.ofNat ib)), .val (.int (Int32.ofNat (ib + k))), .val (.int (Int32.ofNat iz)), .unset] [(.int (Int32.ofNat k))])) _
      refine XS.istore X2.here hx rfl (hb hby d9_25) rfl (l' := #[.val (.ref r0), .val (.int (Int32.ofNat ib)), .val (.int (Int32.ofNat (ib + k))), .val (.int (Int32.ofNat iz)), .val (.int (Int32.ofNat k))]) rfl ?_
      refine XS.aloadN X2.here hx rfl (hb hby d9_27) rfl rfl ?_
      show Steps p.tables e below (T2.setTop (mkF m 28 #[.val (.ref r0), .val (.int (Int32.ofNat ib)), .val (.int (Int32.ofNat (ib + k))), .val (.int (Int32.ofNat iz)), .val (.int (Int32.ofNat k))] [(.ref r0)])) _
      refine st3.trans ?_
      show Steps p.tables e below (T3.setTop (mkF m 31 #[.val (.ref r0), .val (.int (Int32.ofNat ib)), .val (.int (Int32.ofNat (ib + k))), .val (.int (Int32.ofNat iz)), .val (.int (Int32.ofNat k))] [(.int (1 : Int32))])) _
      refine XS.ifNo X3.here hx rfl (hb hby d9_31) rfl ((if0 _ _).trans (feq (by decide : ¬ ((1 : Int32) = (0 : Int32)))).1) ?_
      refine XS.aloadN X3.here hx rfl (hb hby d9_34) rfl rfl ?_
      show Steps p.tables e below (T3.setTop (mkF m 35 #[.val (.ref r0), .val (.int (Int32.ofNat ib)), .val (.int (Int32.ofNat (ib + k))), .val (.int (Int32.ofNat iz)), .val (.int (Int32.ofNat k))] [(.ref r0)])) _
      refine st4 _ ?_
      show Steps p.tables e below (T4.setTop (mkF m 38 #[.val (.ref r0), .val (.int (Int32.ofNat ib)), .val (.int (Int32.ofNat (ib + k))), .val (.int (Int32.ofNat iz)), .val (.int (Int32.ofNat k))] [(.ref b)])) _
      refine XS.iloadN X4.here hx rfl (hb hby d9_38) rfl ?_
      refine XS.iload X4.here hx rfl (hb hby d9_39) rfl ?_
      show Steps p.tables e below (T4.setTop (mkF m 41 #[.val (.ref r0), .val (.int (Int32.ofNat ib)), .val (.int (Int32.ofNat (ib + k))), .val (.int (Int32.ofNat iz)), .val (.int (Int32.ofNat k))] [(.int (Int32.ofNat k)), (.int (Int32.ofNat ib)), (.ref b)])) _
      refine st5.trans ?_
      show Steps p.tables e below (T5.setTop (mkF m 44 #[.val (.ref r0), .val (.int (Int32.ofNat ib)), .val (.int (Int32.ofNat (ib + k))), .val (.int (Int32.ofNat iz)), .val (.int (Int32.ofNat k))] [(.ref r5)])) _
      refine XS.goto X5.here hx rfl (pc0 := 44) (pc' := 57) rfl (hb hby d9_44) (by decide) (by decide) ?_
      show Steps p.tables e below (T5.setTop (mkF m 57 #[.val (.ref r0), .val (.int (Int32.ofNat ib)), .val (.int (Int32.ofNat (ib + k))), .val (.int (Int32.ofNat iz)), .val (.int (Int32.ofNat k))] [(.ref r5)])) _
      jvm_step X5.here [X5.here.top, hx, (hb hby d9_57), X5.method', Bd.returns, Value.isRef, FieldType.isReference]
      first | (intro acts; rw [hr _ acts rfl rfl rfl]) | rw [hr _ _ rfl rfl rfl]
      exact Steps.refl _
    · show Q9_e Z r0 b kb ib k iz vs cs fm h0 n0 _ T5.heap _
      rw [e5]
      exact ⟨r5, b5, _, _, rfl, N5, K5, ER5, FC5, FV5, VB5, hP5⟩
  · obtain ⟨cq6, kq6, q6a, q6b, q6c⟩ := isOf hZ e2 E_r0
    obtain ⟨_, _, ⟨T6, L6, k6, n6⟩, -, X6, ⟨Lc6, hQ6, l6, y6, z6⟩, st6⟩ := X2.virtualBack hx (y := (⟨"java/lang/String", "isLatin1", "()Z"⟩ : MethodName)) (z := (⟨"java/lang/String", "isLatin1", "()Z"⟩ : MethodName)) hown (mvT hZ (hw _ (List.mem_of_getElem? (i := 79) rfl))) (mvT hZ (hw _ (List.mem_of_getElem? (i := 80) rfl))) (notFace_of_selects (args := #[]) (mvT hZ (hw _ (List.mem_of_getElem? (i := 82) rfl)))) (mvT hZ (hw _ (List.mem_of_getElem? (i := 82) rfl))) (mvT hZ (hw _ (List.mem_of_getElem? (i := 81) rfl))) (by decide) (backOf (W := 0) (rm17 l Z a0 hw [] r0 cs h0 n0 Z0 C_r0 O_0 S_cs hcs) hZ (hw _ (List.mem_of_getElem? (i := 83) rfl)) (hw _ (List.mem_of_getElem? (i := 11) rfl)) (by decide) (by decide)) q6a q6c (g := (mkF m 28 #[.val (.ref r0), .val (.int (Int32.ofNat ib)), .val (.int (Int32.ofNat (ib + k))), .val (.int (Int32.ofNat iz)), .val (.int (Int32.ofNat k))] [(.ref r0)])) rfl (by rw [hml]; rfl) (Steps.refl _) (argsL := []) (rest := []) (lenOf pd_2829Z rfl) rfl (by show 2 * 0 + _ ≤ _; exact Nat.le_of_eq rfl) (hb hby d9_28) (fun _ _ => ⟨rfl, e2, (by decide : 0 + 0 ≤ _), (by decide : 0 + 0 ≤ _)⟩)
    dsimp only [Pt.U, Pt.locs, Pt.cells, Pt.slots] at X6 l6 y6 z6 st6 hQ6
    subst l6 y6 z6
    obtain ⟨rfl, N6q, e6⟩ := hQ6
    have N6 := Fr.app N2 N6q
    obtain ⟨T7, X7, e7, st7⟩ := getF X6 hx hZ hown (host := "") (Or.inl (hw _ (List.mem_of_getElem? (i := 28) rfl))) Via.refl e6 V_r0 (g := (mkF m 35 #[.val (.ref r0), .val (.int (Int32.ofNat ib)), .val (.int (Int32.ofNat (ib + k))), .val (.int (Int32.ofNat iz)), .val (.int (Int32.ofNat k))] [(.ref r0)])) rfl rfl (hb hby d9_35)
    obtain ⟨_, _, ⟨T8, L8, k8, n8⟩, -, Y8, hs8, hg8, ⟨Lc8, hQ8, l8, y8, z8, hC8⟩, st8⟩ := callSS X7 hx (y := (⟨"java/lang/StringLatin1", "newString", "([BII)Ljava/lang/String;"⟩ : MethodName)) hown (mvT hZ (hw _ (List.mem_of_getElem? (i := 97) rfl))) (mvT hZ (hw _ (List.mem_of_getElem? (i := 98) rfl))) (mvT hZ (hw _ (List.mem_of_getElem? (i := 86) rfl))) (mvT hZ (hw _ (List.mem_of_getElem? (i := 99) rfl))) (by decide) (backOfSH (s := s) (vm0 := s.vm) (W := 0) (rm22_e l Z a0 hw [] b kb ib k iz vs h0 n0 Z0 hk0) hZ (hw _ (List.mem_of_getElem? (i := 99) rfl)) (hw _ (List.mem_of_getElem? (i := 86) rfl)) (by decide) (by decide) (own_EW hw) CH0.1) (g := (mkF m 41 #[.val (.ref r0), .val (.int (Int32.ofNat ib)), .val (.int (Int32.ofNat (ib + k))), .val (.int (Int32.ofNat iz)), .val (.int (Int32.ofNat k))] [(.int (Int32.ofNat k)), (.int (Int32.ofNat ib)), (.ref b)])) rfl (by rw [hml]; rfl) (argsL := [(.ref b), (.int (Int32.ofNat ib)), (.int (Int32.ofNat k))]) (rest := []) (lenOf pd_285bBII29Ljava2flang2fString3b rfl) rfl (by show 2 * 0 + _ ≤ _; exact Nat.le_of_eq rfl) (hb hby d9_41) (fun _ _ => ⟨rfl, e7, (by decide : 0 + 2 ≤ _), (by decide : 0 + 4 ≤ _)⟩)
    dsimp only [Pt.U, Pt.locs, Pt.cells, Pt.slots] at Y8 hs8 hg8 l8 y8 z8 st8 hQ8 hC8
    subst l8 y8 z8
    obtain ⟨X8, hS8, hZ8, hown8⟩ := rebS (s := s) (vm0 := s.vm) ((State.WarmedH.refl s).since 0) (Nat.zero_le _) Y8 hs8 hg8 hZ hown
    obtain ⟨r8, b8, kb8, rl8, rfl, N8q, KK8, ER8, FC8, FV8, VB8, hP8⟩ := hQ8
    obtain ⟨h8, e8⟩ : ∃ z, T8.heap = z := ⟨_, rfl⟩
    rw [e8] at KK8 ER8 FC8 FV8 VB8
    have O_0_at8 : Old Z n0 h8 := O_0.keep KK8 all0
    have E_r0_at8 : Exa Z h8 r0 "java/lang/String" := E_r0.keep KK8
    have C_r0_at8 : Fld Z h8 r0 "java/lang/String" "coder" "B" (.int (0 : Int32)) := C_r0.keep KK8 nin0
    have V_r0_at8 : Fld Z h8 r0 "java/lang/String" "value" "[B" (.ref b) := V_r0.keep KK8 nin0
    have K_b_at8 : Arv Z h8 b kb .byte (Int32.ofNat iz) vs (.int (0 : Int32)) := K_b.keep KK8 nin0
    rw [e8] at hC8
    have CH8 : CHr Z own_EL s.vm h0 T8.vm h8 := CH0.trans hC8
    have K8 : Keep h0 h8 [] := K0.trans KK8 all0
    have Z8 : n0 ≤ h8.size := Nat.le_trans Z0 KK8.1
    rw [e8] at hS8
    have N8 := Fr.app N6 N8q
    have CHe : CHr Z own_EL s.vm s.heap T8.vm T8.heap := by
      have q := CH8.trans (CHv.at (s := s) X8 hZ8 (own_EW hw) CH8.1)
      rw [hh, e8]
      exact q
    obtain ⟨fs, hr, hrun, hended, rw1, rw2, rw3, rw4⟩ := X8.leaveW hS8 (by rw [e8]; exact (Nat.le_refl _)) (v := some (.ref r8)) (fun h => by rw [Bd.returns] at h; cases h)
    refine ⟨_, _, pre0 _ ?_, hrun, hended, _, _, rfl, ?_, CHe, rw1, rw2, rw3, rw4.mono (by decide) (by decide)⟩
    · show Steps p.tables e below (s₁.setTop (mkF m 0 #[.val (.ref r0), .val (.int (Int32.ofNat ib)), .val (.int (Int32.ofNat (ib + k))), .unset, .unset] [])) _
      refine XS.aloadN X0.here hx rfl (hb hby d9_0) rfl rfl ?_
      show Steps p.tables e below (s₁.setTop (mkF m 1 #[.val (.ref r0), .val (.int (Int32.ofNat ib)), .val (.int (Int32.ofNat (ib + k))), .unset, .unset] [(.ref r0)])) _
      refine st1.trans ?_
      show Steps p.tables e below (T1.setTop (mkF m 4 #[.val (.ref r0), .val (.int (Int32.ofNat ib)), .val (.int (Int32.ofNat (ib + k))), .unset, .unset] [(.int (Int32.ofNat iz))])) _
      refine XS.istoreN X1.here hx rfl (hb hby d9_4) rfl (l' := #[.val (.ref r0), .val (.int (Int32.ofNat ib)), .val (.int (Int32.ofNat (ib + k))), .val (.int (Int32.ofNat iz)), .unset]) rfl ?_
      refine XS.iloadN X1.here hx rfl (hb hby d9_5) rfl ?_
      refine XS.iloadN X1.here hx rfl (hb hby d9_6) rfl ?_
      refine XS.iloadN X1.here hx rfl (hb hby d9_7) rfl ?_
      show Steps p.tables e below (T1.setTop (mkF m 8 #[.val (.ref r0), .val (.int (Int32.ofNat ib)), .val (.int (Int32.ofNat (ib + k))), .val (.int (Int32.ofNat iz)), .unset] [(.int (Int32.ofNat iz)), (.int (Int32.ofNat (ib + k))), (.int (Int32.ofNat ib))])) _
      refine st2 _ ?_
      show Steps p.tables e below (T2.setTop (mkF m 11 #[.val (.ref r0), .val (.int (Int32.ofNat ib)), .val (.int (Int32.ofNat (ib + k))), .val (.int (Int32.ofNat iz)), .unset] [])) _
      refine XS.iloadN X2.here hx rfl (hb hby d9_11) rfl ?_
      show Steps p.tables e below (T2.setTop (mkF m 12 #[.val (.ref r0), .val (.int (Int32.ofNat ib)), .val (.int (Int32.ofNat (ib + k))), .val (.int (Int32.ofNat iz)), .unset] [(.int (Int32.ofNat ib))])) _
      refine XS.ifYes X2.here hx rfl (pc0 := 12) (pc' := 22) rfl (hb hby d9_12) rfl ((if0 _ _).trans (feq hc12).2) (by decide) (by decide) ?_
      refine XS.iloadN X2.here hx rfl (hb hby d9_22) rfl ?_
      refine XS.iloadN X2.here hx rfl (hb hby d9_23) rfl ?_
      refine XS.isub X2.here hx rfl (hb hby d9_24) rfl ?_
      show Steps p.tables e below (T2.setTop (mkF m 25 #[.val (.ref r0), .val (.int (Int32.ofNat ib)), .val (.int (Int32.ofNat (ib + k))), .val (.int (Int32.ofNat iz)), .unset] [(.int ((Int32.ofNat (ib + k)) - (Int32.ofNat ib)))])) _
      rw [own_osub2 (by omega)]
      show Steps p.tables e below (T2.setTop (mkF m 25 #[.val (.ref r0), .val (.int (Int32.ofNat ib)), .val (.int (Int32.ofNat (ib + k))), .val (.int (Int32.ofNat iz)), .unset] [(.int (Int32.ofNat k))])) _
      refine XS.istore X2.here hx rfl (hb hby d9_25) rfl (l' := #[.val (.ref r0), .val (.int (Int32.ofNat ib)), .val (.int (Int32.ofNat (ib + k))), .val (.int (Int32.ofNat iz)), .val (.int (Int32.ofNat k))]) rfl ?_
      refine XS.aloadN X2.here hx rfl (hb hby d9_27) rfl rfl ?_
      show Steps p.tables e below (T2.setTop (mkF m 28 #[.val (.ref r0), .val (.int (Int32.ofNat ib)), .val (.int (Int32.ofNat (ib + k))), .val (.int (Int32.ofNat iz)), .val (.int (Int32.ofNat k))] [(.ref r0)])) _
      refine st6.trans ?_
      show Steps p.tables e below (T6.setTop (mkF m 31 #[.val (.ref r0), .val (.int (Int32.ofNat ib)), .val (.int (Int32.ofNat (ib + k))), .val (.int (Int32.ofNat iz)), .val (.int (Int32.ofNat k))] [(.int (1 : Int32))])) _
      refine XS.ifNo X6.here hx rfl (hb hby d9_31) rfl ((if0 _ _).trans (feq (by decide : ¬ ((1 : Int32) = (0 : Int32)))).1) ?_
      refine XS.aloadN X6.here hx rfl (hb hby d9_34) rfl rfl ?_
      show Steps p.tables e below (T6.setTop (mkF m 35 #[.val (.ref r0), .val (.int (Int32.ofNat ib)), .val (.int (Int32.ofNat (ib + k))), .val (.int (Int32.ofNat iz)), .val (.int (Int32.ofNat k))] [(.ref r0)])) _
      refine st7 _ ?_
      show Steps p.tables e below (T7.setTop (mkF m 38 #[.val (.ref r0), .val (.int (Int32.ofNat ib)), .val (.int (Int32.ofNat (ib + k))), .val (.int (Int32.ofNat iz)), .val (.int (Int32.ofNat k))] [(.ref b)])) _
      refine XS.iloadN X7.here hx rfl (hb hby d9_38) rfl ?_
      refine XS.iload X7.here hx rfl (hb hby d9_39) rfl ?_
      show Steps p.tables e below (T7.setTop (mkF m 41 #[.val (.ref r0), .val (.int (Int32.ofNat ib)), .val (.int (Int32.ofNat (ib + k))), .val (.int (Int32.ofNat iz)), .val (.int (Int32.ofNat k))] [(.int (Int32.ofNat k)), (.int (Int32.ofNat ib)), (.ref b)])) _
      refine st8.trans ?_
      show Steps p.tables e below (T8.setTop (mkF m 44 #[.val (.ref r0), .val (.int (Int32.ofNat ib)), .val (.int (Int32.ofNat (ib + k))), .val (.int (Int32.ofNat iz)), .val (.int (Int32.ofNat k))] [(.ref r8)])) _
      refine XS.goto X8.here hx rfl (pc0 := 44) (pc' := 57) rfl (hb hby d9_44) (by decide) (by decide) ?_
      show Steps p.tables e below (T8.setTop (mkF m 57 #[.val (.ref r0), .val (.int (Int32.ofNat ib)), .val (.int (Int32.ofNat (ib + k))), .val (.int (Int32.ofNat iz)), .val (.int (Int32.ofNat k))] [(.ref r8)])) _
      jvm_step X8.here [X8.here.top, hx, (hb hby d9_57), X8.method', Bd.returns, Value.isRef, FieldType.isReference]
      first | (intro acts; rw [hr _ acts rfl rfl rfl]) | rw [hr _ _ rfl rfl rfl]
      exact Steps.refl _
    · show Q9_e Z r0 b kb ib k iz vs cs fm h0 n0 _ T8.heap _
      rw [e8]
      exact ⟨r8, b8, _, _, rfl, N8, K8, ER8, FC8, FV8, VB8, hP8⟩
theorem ef_6_f (m : MethodId) (x0 : Addr) : entryFrame m #[(.ref x0)] 3 = mkF m 0 #[.val (.ref x0), .unset, .unset] [] := by first | (simp [entryFrame, mkF, argsToLocals, Value.category]; done) | rfl
theorem d6_0 : decode prog_15_method_7_code 0 = .ok (.iconst 0, 1) := by decide +kernel
theorem d6_1 : decode prog_15_method_7_code 1 = .ok (.istore_n 1, 1) := by decide +kernel
theorem d6_2 : decode prog_15_method_7_code 2 = .ok (.aload_n 0, 1) := by decide +kernel
theorem d6_3 : decode prog_15_method_7_code 3 = .ok (.invokevirtual 133, 3) := by decide +kernel
theorem d6_6 : decode prog_15_method_7_code 6 = .ok (.istore_n 2, 1) := by decide +kernel
theorem d6_53 : decode prog_15_method_7_code 53 = .ok (.aload_n 0, 1) := by decide +kernel
theorem d6_54 : decode prog_15_method_7_code 54 = .ok (.iload_n 1, 1) := by decide +kernel
theorem d6_55 : decode prog_15_method_7_code 55 = .ok (.iload_n 2, 1) := by decide +kernel
theorem d6_56 : decode prog_15_method_7_code 56 = .ok (.invokevirtual 176, 3) := by decide +kernel
theorem pd_28II29Ljava2flang2fString3b : parseMethodDescriptor "(II)Ljava/lang/String;" = some ⟨[.int, .int], some (.object "java/lang/String")⟩ := by decide +kernel
theorem d6_59 : decode prog_15_method_7_code 59 = .ok (.areturn, 1) := by decide +kernel
def Q6_f (Z : State) (r0 : Addr) (b : Addr) (kb : ClassId) (xs : List Int32) (ib k : Nat) (cs : Int32) (fm : Value) (h0 : Heap) (n0 : Nat) (v : Option Value) (h : Heap) (L : List Loc) : Prop := ∃ (r b : Addr) (kb : ClassId) (rl : List Value), v = some (.ref r) ∧ Fr n0 L ∧ Keep h0 h [] ∧ Exa Z h r "java/lang/String" ∧ Fld Z h r "java/lang/String" "coder" "B" (.int (0 : Int32)) ∧ Fld Z h r "java/lang/String" "value" "[B" (.ref b) ∧ Arv Z h b kb .byte (Int32.ofNat k) rl (.int (0 : Int32)) ∧ ∀ i, i < k → rl.getD i (.int (0 : Int32)) = (own_bys xs).getD (ib + i) (.int (0 : Int32))
set_option maxRecDepth 65536 in
set_option maxHeartbeats 40000000 in
theorem rm6_f (l : Launch) (Z : State) (a0 : Array Value) (hw : ∀ d ∈ tables_1, d.before a0 Z = true) (ws : List Jvm.Cond) (r0 : Addr) (b : Addr) (kb : ClassId) (xs : List Int32) (ib k : Nat) (cs : Int32) (fm : Value) (h0 : Heap) (n0 : Nat) (Z0 : n0 ≤ h0.size) (E_r0 : Exa Z h0 r0 "java/lang/String") (C_r0 : Fld Z h0 r0 "java/lang/String" "coder" "B" (.int (0 : Int32))) (V_r0 : Fld Z h0 r0 "java/lang/String" "value" "[B" (.ref b)) (K_b : Arv Z h0 b kb .byte (Int32.ofNat xs.length) (own_bys xs) (.int (0 : Int32))) (O_0 : Old Z n0 h0) (S_cs : Sta Z Z.heap "java/lang/String" "COMPACT_STRINGS" "Z" (.int cs)) (hcs : ¬ (cs = (0 : Int32))) (S_fm : Sta Z Z.heap "jdk/internal/util/Preconditions" "SIOOBE_FORMATTER" "Ljava/util/function/BiFunction;" fm) (hfm : fm.isRef = true) (hcap : xs.length ≤ 4) (hch : ∀ i, i < xs.length → own_ch (xs.getD i 0)) (hld : own_lead xs = ib) (htl : own_tail xs ib xs.length = ib + k) (hz : ib + k ≤ xs.length) (hk : 0 < k) (hnw : ¬ (ib = 0 ∧ ib + k = xs.length)) :
    MetFree l (⟨"com/example/commitwright/commitwright/http/Head", "trimSpace", "(Ljava/lang/String;)Ljava/lang/String;"⟩ : MethodName) (head1 (Jvm.Cond.code (⟨"com/example/commitwright/commitwright/http/Head", "trimSpace", "(Ljava/lang/String;)Ljava/lang/String;"⟩ : MethodName) prog_15_method_7_code 3 (some (.object "java/lang/String")) :: ws) ({ frames := 5, cells := 2, slots := 8, locals := 90 } : Room)) (fun a U => a = #[(.ref r0)] ∧ Z.Warmed39 U.vm ∧ U.heap = h0) (fun _ _ _ _ _ => True) (fun _ U o U' => ∃ v L, o = .returned v ∧ Q6_f Z r0 b kb xs ib k cs fm h0 n0 v U'.heap L ∧ FrameEnd U o U' L ({ frames := 5, cells := 2, slots := 8, locals := 90 } : Room).cells ({ frames := 5, cells := 2, slots := 8, locals := 90 } : Room).slots) := by
  refine MetFree.of_bodySF (plainFor_of_name pn_com_example_commitwright_commitwright_http_Head) hisR ?_
  intro p e s m args below meth c s₁ Bd hml0 hP hK
  obtain ⟨rfl, hZ, hh⟩ := hP
  have hx := Bd.exec
  have hby := Bd.bytes
  have hml : c.maxLocals = 3 := hml0
  have hown : s.vm.findClass "com/example/commitwright/commitwright/http/Head" = some m.cls := findClass_of_methodNamed Bd.named
  have hnm := (name_of_methodNamed Bd.named Bd.method).1
  have X0 : Stand p l e ({ frames := 5, cells := 2, slots := 8, locals := 90 } : Room) s m #[(.ref r0)] below meth c s₁ [] 0 0 := Stand.of_body Bd
  have e0 : s₁.heap = h0 := by rw [← hh, Bd.state]; rfl
  have N0 := Fr.nil n0
  have pre0 : ∀ t, Steps p.tables e below (s₁.setTop (mkF m 0 #[.val (.ref r0), .unset, .unset] [])) t → Steps p.tables e below (s₁.setTop (entryFrame m #[(.ref r0)] 3)) t := fun tt kt_ => castTop (ef_6_f m r0) kt_
  have K0 : Keep h0 h0 [] := Keep.refl h0 []
  obtain ⟨cq1, kq1, q1a, q1b, q1c⟩ := isOf hZ e0 E_r0
  obtain ⟨_, _, ⟨T1, L1, k1, n1⟩, -, X1, ⟨Lc1, hQ1, l1, y1, z1⟩, st1⟩ := X0.virtualBack hx (y := (⟨"java/lang/String", "length", "()I"⟩ : MethodName)) (z := (⟨"java/lang/String", "length", "()I"⟩ : MethodName)) hown (mvT hZ (hw _ (List.mem_of_getElem? (i := 34) rfl))) (mvT hZ (hw _ (List.mem_of_getElem? (i := 35) rfl))) (notFace_of_selects (args := #[]) (mvT hZ (hw _ (List.mem_of_getElem? (i := 37) rfl)))) (mvT hZ (hw _ (List.mem_of_getElem? (i := 37) rfl))) (mvT hZ (hw _ (List.mem_of_getElem? (i := 36) rfl))) (by decide) (backOf (W := 0) (rm7 l Z a0 hw [] r0 b kb (Int32.ofNat xs.length) (own_bys xs) cs h0 n0 Z0 E_r0 C_r0 V_r0 K_b O_0 S_cs hcs) hZ (hw _ (List.mem_of_getElem? (i := 38) rfl)) (hw _ (List.mem_of_getElem? (i := 11) rfl)) (by decide) (by decide)) q1a q1c (g := (mkF m 3 #[.val (.ref r0), .val (.int (0 : Int32)), .unset] [(.ref r0)])) rfl (by rw [hml]; rfl) (Steps.refl _) (argsL := []) (rest := []) (lenOf pd_2829I rfl) rfl (by show 2 * 0 + _ ≤ _; exact Nat.le_of_eq rfl) (hb hby d6_3) (fun _ _ => ⟨rfl, e0, (by decide : 0 + 0 ≤ _), (by decide : 0 + 0 ≤ _)⟩)
  dsimp only [Pt.U, Pt.locs, Pt.cells, Pt.slots] at X1 l1 y1 z1 st1 hQ1
  subst l1 y1 z1
  obtain ⟨rfl, N1q, e1⟩ := hQ1
  have N1 := Fr.app N0 N1q
  obtain ⟨TL, lL, XL, NL, eL, stL⟩ := own_loopL r0 b kb xs cs fm hx hZ hw hby hml hown Z0 E_r0 C_r0 V_r0 K_b O_0 S_cs hcs S_fm hfm hcap (by decide) (by decide) hch xs.length 0 (Nat.zero_add _) X1 e1 N1
  rw [List.drop_zero, hld, Nat.zero_add] at stL
  obtain ⟨TR, lR, XR, NR, eR, stR⟩ := own_loopR r0 b kb xs cs fm hx hZ hw hby hml hown Z0 E_r0 C_r0 V_r0 K_b O_0 S_cs hcs S_fm hfm hcap (by decide) (by decide) hch ib (by omega) xs.length (Nat.le_refl _) XL eL NL
  rw [htl] at stR
  obtain ⟨cq2, kq2, q2a, q2b, q2c⟩ := isOf hZ eR E_r0
  obtain ⟨_, _, ⟨T2, L2, k2, n2⟩, -, X2, ⟨Lc2, hQ2, l2, y2, z2⟩, st2⟩ := XR.virtualBack hx (y := (⟨"java/lang/String", "substring", "(II)Ljava/lang/String;"⟩ : MethodName)) (z := (⟨"java/lang/String", "substring", "(II)Ljava/lang/String;"⟩ : MethodName)) hown (mvT hZ (hw _ (List.mem_of_getElem? (i := 45) rfl))) (mvT hZ (hw _ (List.mem_of_getElem? (i := 46) rfl))) (notFace_of_selects (args := #[]) (mvT hZ (hw _ (List.mem_of_getElem? (i := 48) rfl)))) (mvT hZ (hw _ (List.mem_of_getElem? (i := 48) rfl))) (mvT hZ (hw _ (List.mem_of_getElem? (i := 47) rfl))) (by decide) (backOf (W := 0) (rm9_f l Z a0 hw [] r0 b kb ib k xs.length (own_bys xs) cs fm h0 n0 Z0 E_r0 C_r0 V_r0 K_b O_0 S_cs hcs S_fm hfm hz hcap hk hnw) hZ (hw _ (List.mem_of_getElem? (i := 49) rfl)) (hw _ (List.mem_of_getElem? (i := 11) rfl)) (by decide) (by decide)) q2a q2c (g := (mkF m 56 #[.val (.ref r0), .val (.int (Int32.ofNat ib)), .val (.int (Int32.ofNat (ib + k)))] [(.int (Int32.ofNat (ib + k))), (.int (Int32.ofNat ib)), (.ref r0)])) rfl (by rw [hml]; rfl) (Steps.refl _) (argsL := [(.int (Int32.ofNat ib)), (.int (Int32.ofNat (ib + k)))]) (rest := []) (lenOf pd_28II29Ljava2flang2fString3b rfl) rfl (by show 2 * 0 + _ ≤ _; exact Nat.le_of_eq rfl) (hb hby d6_56) (fun _ _ => ⟨rfl, eR, (by decide : 0 + 2 ≤ _), (by decide : 0 + 8 ≤ _)⟩)
  dsimp only [Pt.U, Pt.locs, Pt.cells, Pt.slots] at X2 l2 y2 z2 st2 hQ2
  subst l2 y2 z2
  obtain ⟨r2, b2, kb2, rl2, rfl, N2q, KK2, ER2, FC2, FV2, VB2, hP2⟩ := hQ2
  obtain ⟨h2, e2⟩ : ∃ z, T2.heap = z := ⟨_, rfl⟩
  rw [e2] at KK2 ER2 FC2 FV2 VB2
  have O_0_at2 : Old Z n0 h2 := O_0.keep KK2 all0
  have E_r0_at2 : Exa Z h2 r0 "java/lang/String" := E_r0.keep KK2
  have C_r0_at2 : Fld Z h2 r0 "java/lang/String" "coder" "B" (.int (0 : Int32)) := C_r0.keep KK2 nin0
  have V_r0_at2 : Fld Z h2 r0 "java/lang/String" "value" "[B" (.ref b) := V_r0.keep KK2 nin0
  have K_b_at2 : Arv Z h2 b kb .byte (Int32.ofNat xs.length) (own_bys xs) (.int (0 : Int32)) := K_b.keep KK2 nin0
  have K2 : Keep h0 h2 [] := K0.trans KK2 all0
  have Z2 : n0 ≤ h2.size := Nat.le_trans Z0 KK2.1
  have N2 := Fr.app NR N2q
  obtain ⟨fs, hr, hrun, hended, hW, hsame⟩ := X2.leave (v := some (.ref r2)) (fun h => by rw [Bd.returns] at h; cases h)
  refine ⟨_, _, pre0 _ ?_, hrun, hended, _, _, rfl, ?_, ⟨_, rfl⟩, hW, hsame.mono (by decide) (by decide)⟩
  · show Steps p.tables e below (s₁.setTop (mkF m 0 #[.val (.ref r0), .unset, .unset] [])) _
    refine XS.iconst X0.here hx rfl (hb hby d6_0) ?_
    show Steps p.tables e below (s₁.setTop (mkF m 1 #[.val (.ref r0), .unset, .unset] [(.int (0 : Int32))])) _
    refine XS.istoreN X0.here hx rfl (hb hby d6_1) rfl (l' := #[.val (.ref r0), .val (.int (0 : Int32)), .unset]) rfl ?_
    refine XS.aloadN X0.here hx rfl (hb hby d6_2) rfl rfl ?_
    show Steps p.tables e below (s₁.setTop (mkF m 3 #[.val (.ref r0), .val (.int (0 : Int32)), .unset] [(.ref r0)])) _
    refine st1.trans ?_
    show Steps p.tables e below (T1.setTop (mkF m 6 #[.val (.ref r0), .val (.int (0 : Int32)), .unset] [(.int (Int32.ofNat xs.length))])) _
    refine XS.istoreN X1.here hx rfl (hb hby d6_6) rfl (l' := #[.val (.ref r0), .val (.int (0 : Int32)), .val (.int (Int32.ofNat xs.length))]) rfl ?_
    show Steps p.tables e below (T1.setTop (mkF m 7 #[.val (.ref r0), .val (.int (0 : Int32)), .val (.int (Int32.ofNat xs.length))] [])) _
    refine stL _ ?_
    show Steps p.tables e below (TL.setTop (mkF m 29 #[.val (.ref r0), .val (.int (Int32.ofNat ib)), .val (.int (Int32.ofNat xs.length))] [])) _
    refine stR _ ?_
    show Steps p.tables e below (TR.setTop (mkF m 53 #[.val (.ref r0), .val (.int (Int32.ofNat ib)), .val (.int (Int32.ofNat (ib + k)))] [])) _
    refine XS.aloadN XR.here hx rfl (hb hby d6_53) rfl rfl ?_
    refine XS.iloadN XR.here hx rfl (hb hby d6_54) rfl ?_
    refine XS.iloadN XR.here hx rfl (hb hby d6_55) rfl ?_
    show Steps p.tables e below (TR.setTop (mkF m 56 #[.val (.ref r0), .val (.int (Int32.ofNat ib)), .val (.int (Int32.ofNat (ib + k)))] [(.int (Int32.ofNat (ib + k))), (.int (Int32.ofNat ib)), (.ref r0)])) _
    refine st2.trans ?_
    show Steps p.tables e below (T2.setTop (mkF m 59 #[.val (.ref r0), .val (.int (Int32.ofNat ib)), .val (.int (Int32.ofNat (ib + k)))] [(.ref r2)])) _
    jvm_step X2.here [X2.here.top, hx, (hb hby d6_59), X2.method', Bd.returns, Value.isRef, FieldType.isReference]
    first | (intro acts; rw [hr _ acts rfl rfl rfl]) | rw [hr _ _ rfl rfl rfl]
    exact Steps.refl _
  · show Q6_f Z r0 b kb xs ib k cs fm h0 n0 _ T2.heap _
    rw [e2]
    exact ⟨r2, b2, _, _, rfl, N2, K2, ER2, FC2, FV2, VB2, hP2⟩
theorem ef_6_s (m : MethodId) (x0 : Addr) : entryFrame m #[(.ref x0)] 3 = mkF m 0 #[.val (.ref x0), .unset, .unset] [] := by first | (simp [entryFrame, mkF, argsToLocals, Value.category]; done) | rfl
def Q6_s (Z : State) (r0 : Addr) (b : Addr) (kb : ClassId) (xs : List Int32) (ib k : Nat) (cs : Int32) (fm : Value) (h0 : Heap) (n0 : Nat) (v : Option Value) (h : Heap) (L : List Loc) : Prop := ∃ (r b : Addr) (kb : ClassId) (rl : List Value), v = some (.ref r) ∧ Fr n0 L ∧ Keep h0 h [] ∧ Exa Z h r "java/lang/String" ∧ Fld Z h r "java/lang/String" "coder" "B" (.int (0 : Int32)) ∧ Fld Z h r "java/lang/String" "value" "[B" (.ref b) ∧ Arv Z h b kb .byte (Int32.ofNat k) rl (.int (0 : Int32)) ∧ ∀ i, i < k → rl.getD i (.int (0 : Int32)) = (own_bys xs).getD (ib + i) (.int (0 : Int32))
set_option maxRecDepth 65536 in
set_option maxHeartbeats 40000000 in
theorem rm6_s (l : Launch) (Z : State) (a0 : Array Value) (hw : ∀ d ∈ tables_1, d.before a0 Z = true) (ws : List Jvm.Cond) (r0 : Addr) (b : Addr) (kb : ClassId) (xs : List Int32) (ib k : Nat) (cs : Int32) (fm : Value) (h0 : Heap) (n0 : Nat) (Z0 : n0 ≤ h0.size) (E_r0 : Exa Z h0 r0 "java/lang/String") (C_r0 : Fld Z h0 r0 "java/lang/String" "coder" "B" (.int (0 : Int32))) (V_r0 : Fld Z h0 r0 "java/lang/String" "value" "[B" (.ref b)) (K_b : Arv Z h0 b kb .byte (Int32.ofNat xs.length) (own_bys xs) (.int (0 : Int32))) (O_0 : Old Z n0 h0) (S_cs : Sta Z Z.heap "java/lang/String" "COMPACT_STRINGS" "Z" (.int cs)) (hcs : ¬ (cs = (0 : Int32))) (S_fm : Sta Z Z.heap "jdk/internal/util/Preconditions" "SIOOBE_FORMATTER" "Ljava/util/function/BiFunction;" fm) (hfm : fm.isRef = true) (hcap : xs.length ≤ 4) (hch : ∀ i, i < xs.length → own_ch (xs.getD i 0)) (hld : own_lead xs = ib) (htl : own_tail xs ib xs.length = ib + k) (hz : ib + k ≤ xs.length) (hib : ib = 0) (hie : ib + k = xs.length) :
    MetFree l (⟨"com/example/commitwright/commitwright/http/Head", "trimSpace", "(Ljava/lang/String;)Ljava/lang/String;"⟩ : MethodName) (head1 (Jvm.Cond.code (⟨"com/example/commitwright/commitwright/http/Head", "trimSpace", "(Ljava/lang/String;)Ljava/lang/String;"⟩ : MethodName) prog_15_method_7_code 3 (some (.object "java/lang/String")) :: ws) ({ frames := 5, cells := 2, slots := 8, locals := 90 } : Room)) (fun a U => a = #[(.ref r0)] ∧ Z.Warmed39 U.vm ∧ U.heap = h0) (fun _ _ _ _ _ => True) (fun _ U o U' => ∃ v L, o = .returned v ∧ Q6_s Z r0 b kb xs ib k cs fm h0 n0 v U'.heap L ∧ FrameEnd U o U' L ({ frames := 5, cells := 2, slots := 8, locals := 90 } : Room).cells ({ frames := 5, cells := 2, slots := 8, locals := 90 } : Room).slots) := by
  refine MetFree.of_bodySF (plainFor_of_name pn_com_example_commitwright_commitwright_http_Head) hisR ?_
  intro p e s m args below meth c s₁ Bd hml0 hP hK
  obtain ⟨rfl, hZ, hh⟩ := hP
  have hx := Bd.exec
  have hby := Bd.bytes
  have hml : c.maxLocals = 3 := hml0
  have hown : s.vm.findClass "com/example/commitwright/commitwright/http/Head" = some m.cls := findClass_of_methodNamed Bd.named
  have hnm := (name_of_methodNamed Bd.named Bd.method).1
  have X0 : Stand p l e ({ frames := 5, cells := 2, slots := 8, locals := 90 } : Room) s m #[(.ref r0)] below meth c s₁ [] 0 0 := Stand.of_body Bd
  have e0 : s₁.heap = h0 := by rw [← hh, Bd.state]; rfl
  have N0 := Fr.nil n0
  have pre0 : ∀ t, Steps p.tables e below (s₁.setTop (mkF m 0 #[.val (.ref r0), .unset, .unset] [])) t → Steps p.tables e below (s₁.setTop (entryFrame m #[(.ref r0)] 3)) t := fun tt kt_ => castTop (ef_6_s m r0) kt_
  have K0 : Keep h0 h0 [] := Keep.refl h0 []
  obtain ⟨cq1, kq1, q1a, q1b, q1c⟩ := isOf hZ e0 E_r0
  obtain ⟨_, _, ⟨T1, L1, k1, n1⟩, -, X1, ⟨Lc1, hQ1, l1, y1, z1⟩, st1⟩ := X0.virtualBack hx (y := (⟨"java/lang/String", "length", "()I"⟩ : MethodName)) (z := (⟨"java/lang/String", "length", "()I"⟩ : MethodName)) hown (mvT hZ (hw _ (List.mem_of_getElem? (i := 34) rfl))) (mvT hZ (hw _ (List.mem_of_getElem? (i := 35) rfl))) (notFace_of_selects (args := #[]) (mvT hZ (hw _ (List.mem_of_getElem? (i := 37) rfl)))) (mvT hZ (hw _ (List.mem_of_getElem? (i := 37) rfl))) (mvT hZ (hw _ (List.mem_of_getElem? (i := 36) rfl))) (by decide) (backOf (W := 0) (rm7 l Z a0 hw [] r0 b kb (Int32.ofNat xs.length) (own_bys xs) cs h0 n0 Z0 E_r0 C_r0 V_r0 K_b O_0 S_cs hcs) hZ (hw _ (List.mem_of_getElem? (i := 38) rfl)) (hw _ (List.mem_of_getElem? (i := 11) rfl)) (by decide) (by decide)) q1a q1c (g := (mkF m 3 #[.val (.ref r0), .val (.int (0 : Int32)), .unset] [(.ref r0)])) rfl (by rw [hml]; rfl) (Steps.refl _) (argsL := []) (rest := []) (lenOf pd_2829I rfl) rfl (by show 2 * 0 + _ ≤ _; exact Nat.le_of_eq rfl) (hb hby d6_3) (fun _ _ => ⟨rfl, e0, (by decide : 0 + 0 ≤ _), (by decide : 0 + 0 ≤ _)⟩)
  dsimp only [Pt.U, Pt.locs, Pt.cells, Pt.slots] at X1 l1 y1 z1 st1 hQ1
  subst l1 y1 z1
  obtain ⟨rfl, N1q, e1⟩ := hQ1
  have N1 := Fr.app N0 N1q
  obtain ⟨TL, lL, XL, NL, eL, stL⟩ := own_loopL r0 b kb xs cs fm hx hZ hw hby hml hown Z0 E_r0 C_r0 V_r0 K_b O_0 S_cs hcs S_fm hfm hcap (by decide) (by decide) hch xs.length 0 (Nat.zero_add _) X1 e1 N1
  rw [List.drop_zero, hld, Nat.zero_add] at stL
  obtain ⟨TR, lR, XR, NR, eR, stR⟩ := own_loopR r0 b kb xs cs fm hx hZ hw hby hml hown Z0 E_r0 C_r0 V_r0 K_b O_0 S_cs hcs S_fm hfm hcap (by decide) (by decide) hch ib (by omega) xs.length (Nat.le_refl _) XL eL NL
  rw [htl] at stR
  obtain ⟨cq2, kq2, q2a, q2b, q2c⟩ := isOf hZ eR E_r0
  obtain ⟨_, _, ⟨T2, L2, k2, n2⟩, -, X2, ⟨Lc2, hQ2, l2, y2, z2⟩, st2⟩ := XR.virtualBack hx (y := (⟨"java/lang/String", "substring", "(II)Ljava/lang/String;"⟩ : MethodName)) (z := (⟨"java/lang/String", "substring", "(II)Ljava/lang/String;"⟩ : MethodName)) hown (mvT hZ (hw _ (List.mem_of_getElem? (i := 45) rfl))) (mvT hZ (hw _ (List.mem_of_getElem? (i := 46) rfl))) (notFace_of_selects (args := #[]) (mvT hZ (hw _ (List.mem_of_getElem? (i := 48) rfl)))) (mvT hZ (hw _ (List.mem_of_getElem? (i := 48) rfl))) (mvT hZ (hw _ (List.mem_of_getElem? (i := 47) rfl))) (by decide) (backOf (W := 0) (rm9_s l Z a0 hw [] r0 b kb ib k xs.length (own_bys xs) cs fm h0 n0 Z0 E_r0 C_r0 V_r0 K_b O_0 S_cs hcs S_fm hfm hz hcap hib hie) hZ (hw _ (List.mem_of_getElem? (i := 49) rfl)) (hw _ (List.mem_of_getElem? (i := 11) rfl)) (by decide) (by decide)) q2a q2c (g := (mkF m 56 #[.val (.ref r0), .val (.int (Int32.ofNat ib)), .val (.int (Int32.ofNat (ib + k)))] [(.int (Int32.ofNat (ib + k))), (.int (Int32.ofNat ib)), (.ref r0)])) rfl (by rw [hml]; rfl) (Steps.refl _) (argsL := [(.int (Int32.ofNat ib)), (.int (Int32.ofNat (ib + k)))]) (rest := []) (lenOf pd_28II29Ljava2flang2fString3b rfl) rfl (by show 2 * 0 + _ ≤ _; exact Nat.le_of_eq rfl) (hb hby d6_56) (fun _ _ => ⟨rfl, eR, (by decide : 0 + 0 ≤ _), (by decide : 0 + 0 ≤ _)⟩)
  dsimp only [Pt.U, Pt.locs, Pt.cells, Pt.slots] at X2 l2 y2 z2 st2 hQ2
  subst l2 y2 z2
  obtain ⟨rfl, N2q, e2⟩ := hQ2
  have N2 := Fr.app NR N2q
  obtain ⟨fs, hr, hrun, hended, hW, hsame⟩ := X2.leave (v := some (.ref r0)) (fun h => by rw [Bd.returns] at h; cases h)
  refine ⟨_, _, pre0 _ ?_, hrun, hended, _, _, rfl, ?_, ⟨_, rfl⟩, hW, hsame.mono (by decide) (by decide)⟩
  · show Steps p.tables e below (s₁.setTop (mkF m 0 #[.val (.ref r0), .unset, .unset] [])) _
    refine XS.iconst X0.here hx rfl (hb hby d6_0) ?_
    show Steps p.tables e below (s₁.setTop (mkF m 1 #[.val (.ref r0), .unset, .unset] [(.int (0 : Int32))])) _
    refine XS.istoreN X0.here hx rfl (hb hby d6_1) rfl (l' := #[.val (.ref r0), .val (.int (0 : Int32)), .unset]) rfl ?_
    refine XS.aloadN X0.here hx rfl (hb hby d6_2) rfl rfl ?_
    show Steps p.tables e below (s₁.setTop (mkF m 3 #[.val (.ref r0), .val (.int (0 : Int32)), .unset] [(.ref r0)])) _
    refine st1.trans ?_
    show Steps p.tables e below (T1.setTop (mkF m 6 #[.val (.ref r0), .val (.int (0 : Int32)), .unset] [(.int (Int32.ofNat xs.length))])) _
    refine XS.istoreN X1.here hx rfl (hb hby d6_6) rfl (l' := #[.val (.ref r0), .val (.int (0 : Int32)), .val (.int (Int32.ofNat xs.length))]) rfl ?_
    show Steps p.tables e below (T1.setTop (mkF m 7 #[.val (.ref r0), .val (.int (0 : Int32)), .val (.int (Int32.ofNat xs.length))] [])) _
    refine stL _ ?_
    show Steps p.tables e below (TL.setTop (mkF m 29 #[.val (.ref r0), .val (.int (Int32.ofNat ib)), .val (.int (Int32.ofNat xs.length))] [])) _
    refine stR _ ?_
    show Steps p.tables e below (TR.setTop (mkF m 53 #[.val (.ref r0), .val (.int (Int32.ofNat ib)), .val (.int (Int32.ofNat (ib + k)))] [])) _
    refine XS.aloadN XR.here hx rfl (hb hby d6_53) rfl rfl ?_
    refine XS.iloadN XR.here hx rfl (hb hby d6_54) rfl ?_
    refine XS.iloadN XR.here hx rfl (hb hby d6_55) rfl ?_
    show Steps p.tables e below (TR.setTop (mkF m 56 #[.val (.ref r0), .val (.int (Int32.ofNat ib)), .val (.int (Int32.ofNat (ib + k)))] [(.int (Int32.ofNat (ib + k))), (.int (Int32.ofNat ib)), (.ref r0)])) _
    refine st2.trans ?_
    show Steps p.tables e below (T2.setTop (mkF m 59 #[.val (.ref r0), .val (.int (Int32.ofNat ib)), .val (.int (Int32.ofNat (ib + k)))] [(.ref r0)])) _
    jvm_step X2.here [X2.here.top, hx, (hb hby d6_59), X2.method', Bd.returns, Value.isRef, FieldType.isReference]
    first | (intro acts; rw [hr _ acts rfl rfl rfl]) | rw [hr _ _ rfl rfl rfl]
    exact Steps.refl _
  · show Q6_s Z r0 b kb xs ib k cs fm h0 n0 _ T2.heap _
    rw [e2]
    refine ⟨r0, b, kb, own_bys xs, rfl, N2, K0, E_r0, C_r0, V_r0, ?_, fun i hi => by rw [hib, Nat.zero_add]⟩
    rw [show k = xs.length by omega]
    exact K_b
theorem ef_6_e (m : MethodId) (x0 : Addr) : entryFrame m #[(.ref x0)] 3 = mkF m 0 #[.val (.ref x0), .unset, .unset] [] := by first | (simp [entryFrame, mkF, argsToLocals, Value.category]; done) | rfl
def Q6_e (Z : State) (r0 : Addr) (b : Addr) (kb : ClassId) (xs : List Int32) (ib k : Nat) (cs : Int32) (fm : Value) (h0 : Heap) (n0 : Nat) (v : Option Value) (h : Heap) (L : List Loc) : Prop := ∃ (r b : Addr) (kb : ClassId) (rl : List Value), v = some (.ref r) ∧ Fr n0 L ∧ Keep h0 h [] ∧ Exa Z h r "java/lang/String" ∧ Fld Z h r "java/lang/String" "coder" "B" (.int (0 : Int32)) ∧ Fld Z h r "java/lang/String" "value" "[B" (.ref b) ∧ Arv Z h b kb .byte (Int32.ofNat k) rl (.int (0 : Int32)) ∧ ∀ i, i < k → rl.getD i (.int (0 : Int32)) = (own_bys xs).getD (ib + i) (.int (0 : Int32))
set_option maxRecDepth 65536 in
set_option maxHeartbeats 40000000 in
theorem rm6_e (l : Launch) (Z : State) (a0 : Array Value) (hw : ∀ d ∈ tables_1, d.before a0 Z = true) (ws : List Jvm.Cond) (r0 : Addr) (b : Addr) (kb : ClassId) (xs : List Int32) (ib k : Nat) (cs : Int32) (fm : Value) (h0 : Heap) (n0 : Nat) (Z0 : n0 ≤ h0.size) (E_r0 : Exa Z h0 r0 "java/lang/String") (C_r0 : Fld Z h0 r0 "java/lang/String" "coder" "B" (.int (0 : Int32))) (V_r0 : Fld Z h0 r0 "java/lang/String" "value" "[B" (.ref b)) (K_b : Arv Z h0 b kb .byte (Int32.ofNat xs.length) (own_bys xs) (.int (0 : Int32))) (O_0 : Old Z n0 h0) (S_cs : Sta Z Z.heap "java/lang/String" "COMPACT_STRINGS" "Z" (.int cs)) (hcs : ¬ (cs = (0 : Int32))) (S_fm : Sta Z Z.heap "jdk/internal/util/Preconditions" "SIOOBE_FORMATTER" "Ljava/util/function/BiFunction;" fm) (hfm : fm.isRef = true) (hcap : xs.length ≤ 4) (hch : ∀ i, i < xs.length → own_ch (xs.getD i 0)) (hld : own_lead xs = ib) (htl : own_tail xs ib xs.length = ib + k) (hz : ib + k ≤ xs.length) (hk0 : k = 0) (hnw : ¬ (ib = 0 ∧ ib + k = xs.length)) :
    MetFree l (⟨"com/example/commitwright/commitwright/http/Head", "trimSpace", "(Ljava/lang/String;)Ljava/lang/String;"⟩ : MethodName) (head1 (Jvm.Cond.code (⟨"com/example/commitwright/commitwright/http/Head", "trimSpace", "(Ljava/lang/String;)Ljava/lang/String;"⟩ : MethodName) prog_15_method_7_code 3 (some (.object "java/lang/String")) :: ws) ({ frames := 4, cells := 2, slots := 4, locals := 90 } : Room)) (fun a U => a = #[(.ref r0)] ∧ Z.Warmed39 U.vm ∧ U.heap = h0 ∧ CHv Z own_EL U.vm h0) (fun _ _ _ _ _ => True) (fun _ U o U' => ∃ v L, o = .returned v ∧ Q6_e Z r0 b kb xs ib k cs fm h0 n0 v U'.heap L ∧ CHr Z own_EL U.vm U.heap U'.vm U'.heap ∧ ReturnedEndW U o U' L ({ frames := 4, cells := 2, slots := 4, locals := 90 } : Room).cells ({ frames := 4, cells := 2, slots := 4, locals := 90 } : Room).slots) := by
  refine MetFree.of_bodySF (plainFor_of_name pn_com_example_commitwright_commitwright_http_Head) hisR ?_
  intro p e s m args below meth c s₁ Bd hml0 hP hK
  obtain ⟨rfl, hZ, hh, hCH⟩ := hP
  have hx := Bd.exec
  have hby := Bd.bytes
  have hml : c.maxLocals = 3 := hml0
  have hown : s.vm.findClass "com/example/commitwright/commitwright/http/Head" = some m.cls := findClass_of_methodNamed Bd.named
  have hnm := (name_of_methodNamed Bd.named Bd.method).1
  have X0 : Stand p l e ({ frames := 4, cells := 2, slots := 4, locals := 90 } : Room) s m #[(.ref r0)] below meth c s₁ [] 0 0 := Stand.of_body Bd
  have e0 : s₁.heap = h0 := by rw [← hh, Bd.state]; rfl
  have N0 := Fr.nil n0
  have pre0 : ∀ t, Steps p.tables e below (s₁.setTop (mkF m 0 #[.val (.ref r0), .unset, .unset] [])) t → Steps p.tables e below (s₁.setTop (entryFrame m #[(.ref r0)] 3)) t := fun tt kt_ => castTop (ef_6_e m r0) kt_
  have CH0 : CHr Z own_EL s.vm h0 s.vm h0 := CHr.refl hCH
  have K0 : Keep h0 h0 [] := Keep.refl h0 []
  obtain ⟨cq1, kq1, q1a, q1b, q1c⟩ := isOf hZ e0 E_r0
  obtain ⟨_, _, ⟨T1, L1, k1, n1⟩, -, X1, ⟨Lc1, hQ1, l1, y1, z1⟩, st1⟩ := X0.virtualBack hx (y := (⟨"java/lang/String", "length", "()I"⟩ : MethodName)) (z := (⟨"java/lang/String", "length", "()I"⟩ : MethodName)) hown (mvT hZ (hw _ (List.mem_of_getElem? (i := 34) rfl))) (mvT hZ (hw _ (List.mem_of_getElem? (i := 35) rfl))) (notFace_of_selects (args := #[]) (mvT hZ (hw _ (List.mem_of_getElem? (i := 37) rfl)))) (mvT hZ (hw _ (List.mem_of_getElem? (i := 37) rfl))) (mvT hZ (hw _ (List.mem_of_getElem? (i := 36) rfl))) (by decide) (backOf (W := 0) (rm7 l Z a0 hw [] r0 b kb (Int32.ofNat xs.length) (own_bys xs) cs h0 n0 Z0 E_r0 C_r0 V_r0 K_b O_0 S_cs hcs) hZ (hw _ (List.mem_of_getElem? (i := 38) rfl)) (hw _ (List.mem_of_getElem? (i := 11) rfl)) (by decide) (by decide)) q1a q1c (g := (mkF m 3 #[.val (.ref r0), .val (.int (0 : Int32)), .unset] [(.ref r0)])) rfl (by rw [hml]; rfl) (Steps.refl _) (argsL := []) (rest := []) (lenOf pd_2829I rfl) rfl (by show 2 * 0 + _ ≤ _; exact Nat.le_of_eq rfl) (hb hby d6_3) (fun _ _ => ⟨rfl, e0, (by decide : 0 + 0 ≤ _), (by decide : 0 + 0 ≤ _)⟩)
  dsimp only [Pt.U, Pt.locs, Pt.cells, Pt.slots] at X1 l1 y1 z1 st1 hQ1
  subst l1 y1 z1
  obtain ⟨rfl, N1q, e1⟩ := hQ1
  have N1 := Fr.app N0 N1q
  obtain ⟨TL, lL, XL, NL, eL, stL⟩ := own_loopL r0 b kb xs cs fm hx hZ hw hby hml hown Z0 E_r0 C_r0 V_r0 K_b O_0 S_cs hcs S_fm hfm hcap (by decide) (by decide) hch xs.length 0 (Nat.zero_add _) X1 e1 N1
  rw [List.drop_zero, hld, Nat.zero_add] at stL
  obtain ⟨TR, lR, XR, NR, eR, stR⟩ := own_loopR r0 b kb xs cs fm hx hZ hw hby hml hown Z0 E_r0 C_r0 V_r0 K_b O_0 S_cs hcs S_fm hfm hcap (by decide) (by decide) hch ib (by omega) xs.length (Nat.le_refl _) XL eL NL
  rw [htl] at stR
  obtain ⟨cq2, kq2, q2a, q2b, q2c⟩ := isOf hZ eR E_r0
  obtain ⟨_, _, ⟨T2, L2, k2, n2⟩, -, Y2, hs2, hg2, ⟨Lc2, hQ2, l2, y2, z2, hC2⟩, st2⟩ := XR.virtualBackS hx (y := (⟨"java/lang/String", "substring", "(II)Ljava/lang/String;"⟩ : MethodName)) (z := (⟨"java/lang/String", "substring", "(II)Ljava/lang/String;"⟩ : MethodName)) hown (mvT hZ (hw _ (List.mem_of_getElem? (i := 45) rfl))) (mvT hZ (hw _ (List.mem_of_getElem? (i := 46) rfl))) (notFace_of_selects (args := #[]) (mvT hZ (hw _ (List.mem_of_getElem? (i := 48) rfl)))) (mvT hZ (hw _ (List.mem_of_getElem? (i := 48) rfl))) (mvT hZ (hw _ (List.mem_of_getElem? (i := 47) rfl))) (by decide) (backOfSH (s := s) (vm0 := s.vm) (W := 0) (rm9_e l Z a0 hw [] r0 b kb ib k xs.length (own_bys xs) cs fm h0 n0 Z0 E_r0 C_r0 V_r0 K_b O_0 S_cs hcs S_fm hfm hz hcap hk0 hnw) hZ (hw _ (List.mem_of_getElem? (i := 49) rfl)) (hw _ (List.mem_of_getElem? (i := 11) rfl)) (by decide) (by decide) (own_EW hw) CH0.1) q2a q2c (g := (mkF m 56 #[.val (.ref r0), .val (.int (Int32.ofNat ib)), .val (.int (Int32.ofNat (ib + k)))] [(.int (Int32.ofNat (ib + k))), (.int (Int32.ofNat ib)), (.ref r0)])) rfl (by rw [hml]; rfl) (Steps.refl _) (argsL := [(.int (Int32.ofNat ib)), (.int (Int32.ofNat (ib + k)))]) (rest := []) (lenOf pd_28II29Ljava2flang2fString3b rfl) rfl (by show 2 * 0 + _ ≤ _; exact Nat.le_of_eq rfl) (hb hby d6_56) (fun _ _ => ⟨rfl, eR, (by decide : 0 + 2 ≤ _), (by decide : 0 + 4 ≤ _)⟩)
  dsimp only [Pt.U, Pt.locs, Pt.cells, Pt.slots] at Y2 hs2 hg2 l2 y2 z2 st2 hQ2 hC2
  subst l2 y2 z2
  obtain ⟨X2, hS2, hZ2, hown2⟩ := rebS (s := s) (vm0 := s.vm) ((State.WarmedH.refl s).since 0) (Nat.zero_le _) Y2 hs2 hg2 hZ hown
  obtain ⟨r2, b2, kb2, rl2, rfl, N2q, KK2, ER2, FC2, FV2, VB2, hP2⟩ := hQ2
  obtain ⟨h2, e2⟩ : ∃ z, T2.heap = z := ⟨_, rfl⟩
  rw [e2] at KK2 ER2 FC2 FV2 VB2
  have O_0_at2 : Old Z n0 h2 := O_0.keep KK2 all0
  have E_r0_at2 : Exa Z h2 r0 "java/lang/String" := E_r0.keep KK2
  have C_r0_at2 : Fld Z h2 r0 "java/lang/String" "coder" "B" (.int (0 : Int32)) := C_r0.keep KK2 nin0
  have V_r0_at2 : Fld Z h2 r0 "java/lang/String" "value" "[B" (.ref b) := V_r0.keep KK2 nin0
  have K_b_at2 : Arv Z h2 b kb .byte (Int32.ofNat xs.length) (own_bys xs) (.int (0 : Int32)) := K_b.keep KK2 nin0
  rw [e2] at hC2
  have CH2 : CHr Z own_EL s.vm h0 T2.vm h2 := CH0.trans hC2
  have K2 : Keep h0 h2 [] := K0.trans KK2 all0
  have Z2 : n0 ≤ h2.size := Nat.le_trans Z0 KK2.1
  rw [e2] at hS2
  have N2 := Fr.app NR N2q
  have CHe : CHr Z own_EL s.vm s.heap T2.vm T2.heap := by
    have q := CH2.trans (CHv.at (s := s) X2 hZ2 (own_EW hw) CH2.1)
    rw [hh, e2]
    exact q
  obtain ⟨fs, hr, hrun, hended, rw1, rw2, rw3, rw4⟩ := X2.leaveW hS2 (by rw [e2]; exact (Nat.le_refl _)) (v := some (.ref r2)) (fun h => by rw [Bd.returns] at h; cases h)
  refine ⟨_, _, pre0 _ ?_, hrun, hended, _, _, rfl, ?_, CHe, rw1, rw2, rw3, rw4.mono (by decide) (by decide)⟩
  · show Steps p.tables e below (s₁.setTop (mkF m 0 #[.val (.ref r0), .unset, .unset] [])) _
    refine XS.iconst X0.here hx rfl (hb hby d6_0) ?_
    show Steps p.tables e below (s₁.setTop (mkF m 1 #[.val (.ref r0), .unset, .unset] [(.int (0 : Int32))])) _
    refine XS.istoreN X0.here hx rfl (hb hby d6_1) rfl (l' := #[.val (.ref r0), .val (.int (0 : Int32)), .unset]) rfl ?_
    refine XS.aloadN X0.here hx rfl (hb hby d6_2) rfl rfl ?_
    show Steps p.tables e below (s₁.setTop (mkF m 3 #[.val (.ref r0), .val (.int (0 : Int32)), .unset] [(.ref r0)])) _
    refine st1.trans ?_
    show Steps p.tables e below (T1.setTop (mkF m 6 #[.val (.ref r0), .val (.int (0 : Int32)), .unset] [(.int (Int32.ofNat xs.length))])) _
    refine XS.istoreN X1.here hx rfl (hb hby d6_6) rfl (l' := #[.val (.ref r0), .val (.int (0 : Int32)), .val (.int (Int32.ofNat xs.length))]) rfl ?_
    show Steps p.tables e below (T1.setTop (mkF m 7 #[.val (.ref r0), .val (.int (0 : Int32)), .val (.int (Int32.ofNat xs.length))] [])) _
    refine stL _ ?_
    show Steps p.tables e below (TL.setTop (mkF m 29 #[.val (.ref r0), .val (.int (Int32.ofNat ib)), .val (.int (Int32.ofNat xs.length))] [])) _
    refine stR _ ?_
    show Steps p.tables e below (TR.setTop (mkF m 53 #[.val (.ref r0), .val (.int (Int32.ofNat ib)), .val (.int (Int32.ofNat (ib + k)))] [])) _
    refine XS.aloadN XR.here hx rfl (hb hby d6_53) rfl rfl ?_
    refine XS.iloadN XR.here hx rfl (hb hby d6_54) rfl ?_
    refine XS.iloadN XR.here hx rfl (hb hby d6_55) rfl ?_
    show Steps p.tables e below (TR.setTop (mkF m 56 #[.val (.ref r0), .val (.int (Int32.ofNat ib)), .val (.int (Int32.ofNat (ib + k)))] [(.int (Int32.ofNat (ib + k))), (.int (Int32.ofNat ib)), (.ref r0)])) _
    refine st2.trans ?_
    show Steps p.tables e below (T2.setTop (mkF m 59 #[.val (.ref r0), .val (.int (Int32.ofNat ib)), .val (.int (Int32.ofNat (ib + k)))] [(.ref r2)])) _
    jvm_step X2.here [X2.here.top, hx, (hb hby d6_59), X2.method', Bd.returns, Value.isRef, FieldType.isReference]
    first | (intro acts; rw [hr _ acts rfl rfl rfl]) | rw [hr _ _ rfl rfl rfl]
    exact Steps.refl _
  · show Q6_e Z r0 b kb xs ib k cs fm h0 n0 _ T2.heap _
    rw [e2]
    exact ⟨r2, b2, _, _, rfl, N2, K2, ER2, FC2, FV2, VB2, hP2⟩
theorem rm6_p (l : Launch) (Z : State) (a0 : Array Value) (hw : ∀ d ∈ tables_1, d.before a0 Z = true) (ws : List Jvm.Cond) (r0 : Addr) (b : Addr) (kb : ClassId) (xs : List Int32) (ib k : Nat) (cs : Int32) (fm : Value) (h0 : Heap) (n0 : Nat) (Z0 : n0 ≤ h0.size) (E_r0 : Exa Z h0 r0 "java/lang/String") (C_r0 : Fld Z h0 r0 "java/lang/String" "coder" "B" (.int (0 : Int32))) (V_r0 : Fld Z h0 r0 "java/lang/String" "value" "[B" (.ref b)) (K_b : Arv Z h0 b kb .byte (Int32.ofNat xs.length) (own_bys xs) (.int (0 : Int32))) (O_0 : Old Z n0 h0) (S_cs : Sta Z Z.heap "java/lang/String" "COMPACT_STRINGS" "Z" (.int cs)) (hcs : ¬ (cs = (0 : Int32))) (S_fm : Sta Z Z.heap "jdk/internal/util/Preconditions" "SIOOBE_FORMATTER" "Ljava/util/function/BiFunction;" fm) (hfm : fm.isRef = true) (hcap : xs.length ≤ 4) (hch : ∀ i, i < xs.length → own_ch (xs.getD i 0)) (hld : own_lead xs = ib) (htl : own_tail xs ib xs.length = ib + k) (hz : ib + k ≤ xs.length) (hcase : (0 < k ∧ ¬ (ib = 0 ∧ ib + k = xs.length)) ∨ (ib = 0 ∧ ib + k = xs.length)) :
    MetFree l (⟨"com/example/commitwright/commitwright/http/Head", "trimSpace", "(Ljava/lang/String;)Ljava/lang/String;"⟩ : MethodName) (head1 (Jvm.Cond.code (⟨"com/example/commitwright/commitwright/http/Head", "trimSpace", "(Ljava/lang/String;)Ljava/lang/String;"⟩ : MethodName) prog_15_method_7_code 3 (some (.object "java/lang/String")) :: ws) ({ frames := 5, cells := 2, slots := 8, locals := 90 } : Room)) (fun a U => a = #[(.ref r0)] ∧ Z.Warmed39 U.vm ∧ U.heap = h0) (fun _ _ _ _ _ => True) (fun _ U o U' => ∃ v L, o = .returned v ∧ Q6_f Z r0 b kb xs ib k cs fm h0 n0 v U'.heap L ∧ FrameEnd U o U' L ({ frames := 5, cells := 2, slots := 8, locals := 90 } : Room).cells ({ frames := 5, cells := 2, slots := 8, locals := 90 } : Room).slots) := by
  rcases hcase with ⟨q1, q2⟩ | ⟨q1, q2⟩
  · exact rm6_f l Z a0 hw ws r0 b kb xs ib k cs fm h0 n0 Z0 E_r0 C_r0 V_r0 K_b O_0 S_cs hcs S_fm hfm hcap hch hld htl hz q1 q2
  · exact rm6_s l Z a0 hw ws r0 b kb xs ib k cs fm h0 n0 Z0 E_r0 C_r0 V_r0 K_b O_0 S_cs hcs S_fm hfm hcap hch hld htl hz q1 q2
set_option maxRecDepth 65536 in
set_option maxHeartbeats 40000000 in
theorem la_33 {p : Program} {l : Launch} {e : Env} {s : State} {m : MethodId} {args : Array Value} {below : List Frame} {meth : Method} {c : Code} {T0 : State} {locs : List Loc} {Z : State} {a0 : Array Value} {h0 : Heap} {n0 : Nat} (p0 p1 p2 p3 p4 : Int32) (nz : Nat)
    (X0 : Stand p l e room_1 s m args below meth c T0 locs 0 0) (hx : p.tables.exec = Jvm.exec) (hZ : Z.Warmed39 s.vm) (hw : ∀ d ∈ tables_1, d.before a0 Z = true) (hby : c.code = code) (hml : c.maxLocals = 16) (hown : s.vm.findClass "com/example/commitwright/commitwright/http/HeadTrimSpacePinLaw" = some m.cls) (e0 : T0.heap = h0) (Z0 : n0 ≤ h0.size) (N0 : Fr n0 locs) (hn : own_n5 p0 = (Int32.ofNat nz)) :
    ∃ (T' : State) (locs' : List Loc), Stand p l e room_1 s m args below meth c T' locs' 0 0 ∧ Fr n0 locs' ∧ T'.heap = h0 ∧ ∀ target, Steps p.tables e below (T'.setTop (mkF m 33 #[.val (.int p0), .val (.int p1), .val (.int p2), .val (.int p3), .val (.int p4), .val (.int (Int32.ofNat nz)), .val (.int (own_chr p1)), .val (.int (own_chr p2)), .val (.int (own_chr p3)), .val (.int (own_chr p4)), .unset, .unset, .unset, .unset, .unset, .unset] [])) target → Steps p.tables e below (T0.setTop (mkF m 0 #[.val (.int p0), .val (.int p1), .val (.int p2), .val (.int p3), .val (.int p4), .unset, .unset, .unset, .unset, .unset, .unset, .unset, .unset, .unset, .unset, .unset] [])) target := by
  obtain ⟨_, _, ⟨T1, L1, k1, n1⟩, -, X1, ⟨Lc1, hQ1, l1, y1, z1⟩, st1⟩ := Jvm.LawKit.callS X0 hx (y := (⟨"com/example/commitwright/commitwright/http/HeadTrimSpacePinLaw", "ch", "(I)C"⟩ : MethodName)) hown (mvT hZ (hw _ (List.mem_of_getElem? (i := 1) rfl))) (mvT hZ (hw _ (List.mem_of_getElem? (i := 2) rfl))) (mvT hZ (hw _ (List.mem_of_getElem? (i := 3) rfl))) (mvT hZ (hw _ (List.mem_of_getElem? (i := 4) rfl))) (by decide) (backOf (W := 0) (rm1 l Z a0 hw [] p1 h0 n0 Z0) hZ (hw _ (List.mem_of_getElem? (i := 4) rfl)) (hw _ (List.mem_of_getElem? (i := 3) rfl)) (by decide) (by decide)) (g := (mkF m 9 #[.val (.int p0), .val (.int p1), .val (.int p2), .val (.int p3), .val (.int p4), .val (.int (Int32.ofNat nz)), .unset, .unset, .unset, .unset, .unset, .unset, .unset, .unset, .unset, .unset] [(.int p1)])) rfl (by rw [hml]; rfl) (argsL := [(.int p1)]) (rest := []) (lenOf pd_28I29C rfl) rfl (by show 2 * 0 + _ ≤ _; exact Nat.le_of_eq rfl) (hb hby at_9) (fun _ _ => ⟨rfl, e0, (by decide : 0 + 0 ≤ _), (by decide : 0 + 0 ≤ _)⟩)
  dsimp only [Pt.U, Pt.locs, Pt.cells, Pt.slots] at X1 l1 y1 z1 st1 hQ1
  subst l1 y1 z1
  obtain ⟨rfl, N1q, e1⟩ := hQ1
  have N1 := Fr.app N0 N1q
  obtain ⟨_, _, ⟨T2, L2, k2, n2⟩, -, X2, ⟨Lc2, hQ2, l2, y2, z2⟩, st2⟩ := Jvm.LawKit.callS X1 hx (y := (⟨"com/example/commitwright/commitwright/http/HeadTrimSpacePinLaw", "ch", "(I)C"⟩ : MethodName)) hown (mvT hZ (hw _ (List.mem_of_getElem? (i := 1) rfl))) (mvT hZ (hw _ (List.mem_of_getElem? (i := 2) rfl))) (mvT hZ (hw _ (List.mem_of_getElem? (i := 3) rfl))) (mvT hZ (hw _ (List.mem_of_getElem? (i := 4) rfl))) (by decide) (backOf (W := 0) (rm1 l Z a0 hw [] p2 h0 n0 Z0) hZ (hw _ (List.mem_of_getElem? (i := 4) rfl)) (hw _ (List.mem_of_getElem? (i := 3) rfl)) (by decide) (by decide)) (g := (mkF m 15 #[.val (.int p0), .val (.int p1), .val (.int p2), .val (.int p3), .val (.int p4), .val (.int (Int32.ofNat nz)), .val (.int (own_chr p1)), .unset, .unset, .unset, .unset, .unset, .unset, .unset, .unset, .unset] [(.int p2)])) rfl (by rw [hml]; rfl) (argsL := [(.int p2)]) (rest := []) (lenOf pd_28I29C rfl) rfl (by show 2 * 0 + _ ≤ _; exact Nat.le_of_eq rfl) (hb hby at_15) (fun _ _ => ⟨rfl, e1, (by decide : 0 + 0 ≤ _), (by decide : 0 + 0 ≤ _)⟩)
  dsimp only [Pt.U, Pt.locs, Pt.cells, Pt.slots] at X2 l2 y2 z2 st2 hQ2
  subst l2 y2 z2
  obtain ⟨rfl, N2q, e2⟩ := hQ2
  have N2 := Fr.app N1 N2q
  obtain ⟨_, _, ⟨T3, L3, k3, n3⟩, -, X3, ⟨Lc3, hQ3, l3, y3, z3⟩, st3⟩ := Jvm.LawKit.callS X2 hx (y := (⟨"com/example/commitwright/commitwright/http/HeadTrimSpacePinLaw", "ch", "(I)C"⟩ : MethodName)) hown (mvT hZ (hw _ (List.mem_of_getElem? (i := 1) rfl))) (mvT hZ (hw _ (List.mem_of_getElem? (i := 2) rfl))) (mvT hZ (hw _ (List.mem_of_getElem? (i := 3) rfl))) (mvT hZ (hw _ (List.mem_of_getElem? (i := 4) rfl))) (by decide) (backOf (W := 0) (rm1 l Z a0 hw [] p3 h0 n0 Z0) hZ (hw _ (List.mem_of_getElem? (i := 4) rfl)) (hw _ (List.mem_of_getElem? (i := 3) rfl)) (by decide) (by decide)) (g := (mkF m 21 #[.val (.int p0), .val (.int p1), .val (.int p2), .val (.int p3), .val (.int p4), .val (.int (Int32.ofNat nz)), .val (.int (own_chr p1)), .val (.int (own_chr p2)), .unset, .unset, .unset, .unset, .unset, .unset, .unset, .unset] [(.int p3)])) rfl (by rw [hml]; rfl) (argsL := [(.int p3)]) (rest := []) (lenOf pd_28I29C rfl) rfl (by show 2 * 0 + _ ≤ _; exact Nat.le_of_eq rfl) (hb hby at_21) (fun _ _ => ⟨rfl, e2, (by decide : 0 + 0 ≤ _), (by decide : 0 + 0 ≤ _)⟩)
  dsimp only [Pt.U, Pt.locs, Pt.cells, Pt.slots] at X3 l3 y3 z3 st3 hQ3
  subst l3 y3 z3
  obtain ⟨rfl, N3q, e3⟩ := hQ3
  have N3 := Fr.app N2 N3q
  obtain ⟨_, _, ⟨T4, L4, k4, n4⟩, -, X4, ⟨Lc4, hQ4, l4, y4, z4⟩, st4⟩ := Jvm.LawKit.callS X3 hx (y := (⟨"com/example/commitwright/commitwright/http/HeadTrimSpacePinLaw", "ch", "(I)C"⟩ : MethodName)) hown (mvT hZ (hw _ (List.mem_of_getElem? (i := 1) rfl))) (mvT hZ (hw _ (List.mem_of_getElem? (i := 2) rfl))) (mvT hZ (hw _ (List.mem_of_getElem? (i := 3) rfl))) (mvT hZ (hw _ (List.mem_of_getElem? (i := 4) rfl))) (by decide) (backOf (W := 0) (rm1 l Z a0 hw [] p4 h0 n0 Z0) hZ (hw _ (List.mem_of_getElem? (i := 4) rfl)) (hw _ (List.mem_of_getElem? (i := 3) rfl)) (by decide) (by decide)) (g := (mkF m 28 #[.val (.int p0), .val (.int p1), .val (.int p2), .val (.int p3), .val (.int p4), .val (.int (Int32.ofNat nz)), .val (.int (own_chr p1)), .val (.int (own_chr p2)), .val (.int (own_chr p3)), .unset, .unset, .unset, .unset, .unset, .unset, .unset] [(.int p4)])) rfl (by rw [hml]; rfl) (argsL := [(.int p4)]) (rest := []) (lenOf pd_28I29C rfl) rfl (by show 2 * 0 + _ ≤ _; exact Nat.le_of_eq rfl) (hb hby at_28) (fun _ _ => ⟨rfl, e3, (by decide : 0 + 0 ≤ _), (by decide : 0 + 0 ≤ _)⟩)
  dsimp only [Pt.U, Pt.locs, Pt.cells, Pt.slots] at X4 l4 y4 z4 st4 hQ4
  subst l4 y4 z4
  obtain ⟨rfl, N4q, e4⟩ := hQ4
  have N4 := Fr.app N3 N4q
  refine ⟨T4, _, X4, N4, e4, fun target kt => ?_⟩
  show Steps p.tables e below (T0.setTop (mkF m 0 #[.val (.int p0), .val (.int p1), .val (.int p2), .val (.int p3), .val (.int p4), .unset, .unset, .unset, .unset, .unset, .unset, .unset, .unset, .unset, .unset, .unset] [])) _
  refine XS.iloadN X0.here hx rfl (hb hby at_0) rfl ?_
  show Steps p.tables e below (T0.setTop (mkF m 1 #[.val (.int p0), .val (.int p1), .val (.int p2), .val (.int p3), .val (.int p4), .unset, .unset, .unset, .unset, .unset, .unset, .unset, .unset, .unset, .unset, .unset] [(.int p0)])) _
  refine X0.ldcInt hx hown (mvT hZ (hw _ (List.mem_of_getElem? (i := 0) rfl))) (g := (mkF m 1 #[.val (.int p0), .val (.int p1), .val (.int p2), .val (.int p3), .val (.int p4), .unset, .unset, .unset, .unset, .unset, .unset, .unset, .unset, .unset, .unset, .unset] [(.int p0)])) rfl (hb hby at_1) _ ?_
  show Steps p.tables e below (T0.setTop (mkF m 3 #[.val (.int p0), .val (.int p1), .val (.int p2), .val (.int p3), .val (.int p4), .unset, .unset, .unset, .unset, .unset, .unset, .unset, .unset, .unset, .unset, .unset] [(.int (2147483647 : Int32)), (.int p0)])) _
  refine XS.iand X0.here hx rfl (hb hby at_3) rfl ?_
  refine XS.iconst X0.here hx rfl (hb hby at_4) ?_
  show Steps p.tables e below (T0.setTop (mkF m 5 #[.val (.int p0), .val (.int p1), .val (.int p2), .val (.int p3), .val (.int p4), .unset, .unset, .unset, .unset, .unset, .unset, .unset, .unset, .unset, .unset, .unset] [(.int (5 : Int32)), (.int (p0 &&& (2147483647 : Int32)))])) _
  refine XS.irem X0.here hx rfl (hb hby at_5) rfl (by decide) ?_
  show Steps p.tables e below (T0.setTop (mkF m 6 #[.val (.int p0), .val (.int p1), .val (.int p2), .val (.int p3), .val (.int p4), .unset, .unset, .unset, .unset, .unset, .unset, .unset, .unset, .unset, .unset, .unset] [(.int ((p0 &&& (2147483647 : Int32)) - ((p0 &&& (2147483647 : Int32)) / (5 : Int32)) * (5 : Int32)))])) _
  rw [show ((p0 &&& (2147483647 : Int32)) - ((p0 &&& (2147483647 : Int32)) / (5 : Int32)) * (5 : Int32)) = (Int32.ofNat nz) from hn]
  show Steps p.tables e below (T0.setTop (mkF m 6 #[.val (.int p0), .val (.int p1), .val (.int p2), .val (.int p3), .val (.int p4), .unset, .unset, .unset, .unset, .unset, .unset, .unset, .unset, .unset, .unset, .unset] [(.int (Int32.ofNat nz))])) _
  refine XS.istore X0.here hx rfl (hb hby at_6) rfl (l' := #[.val (.int p0), .val (.int p1), .val (.int p2), .val (.int p3), .val (.int p4), .val (.int (Int32.ofNat nz)), .unset, .unset, .unset, .unset, .unset, .unset, .unset, .unset, .unset, .unset]) rfl ?_
  refine XS.iloadN X0.here hx rfl (hb hby at_8) rfl ?_
  show Steps p.tables e below (T0.setTop (mkF m 9 #[.val (.int p0), .val (.int p1), .val (.int p2), .val (.int p3), .val (.int p4), .val (.int (Int32.ofNat nz)), .unset, .unset, .unset, .unset, .unset, .unset, .unset, .unset, .unset, .unset] [(.int p1)])) _
  refine st1 _ ?_
  show Steps p.tables e below (T1.setTop (mkF m 12 #[.val (.int p0), .val (.int p1), .val (.int p2), .val (.int p3), .val (.int p4), .val (.int (Int32.ofNat nz)), .unset, .unset, .unset, .unset, .unset, .unset, .unset, .unset, .unset, .unset] [(.int (own_chr p1))])) _
  refine XS.istore X1.here hx rfl (hb hby at_12) rfl (l' := #[.val (.int p0), .val (.int p1), .val (.int p2), .val (.int p3), .val (.int p4), .val (.int (Int32.ofNat nz)), .val (.int (own_chr p1)), .unset, .unset, .unset, .unset, .unset, .unset, .unset, .unset, .unset]) rfl ?_
  refine XS.iloadN X1.here hx rfl (hb hby at_14) rfl ?_
  show Steps p.tables e below (T1.setTop (mkF m 15 #[.val (.int p0), .val (.int p1), .val (.int p2), .val (.int p3), .val (.int p4), .val (.int (Int32.ofNat nz)), .val (.int (own_chr p1)), .unset, .unset, .unset, .unset, .unset, .unset, .unset, .unset, .unset] [(.int p2)])) _
  refine st2 _ ?_
  show Steps p.tables e below (T2.setTop (mkF m 18 #[.val (.int p0), .val (.int p1), .val (.int p2), .val (.int p3), .val (.int p4), .val (.int (Int32.ofNat nz)), .val (.int (own_chr p1)), .unset, .unset, .unset, .unset, .unset, .unset, .unset, .unset, .unset] [(.int (own_chr p2))])) _
  refine XS.istore X2.here hx rfl (hb hby at_18) rfl (l' := #[.val (.int p0), .val (.int p1), .val (.int p2), .val (.int p3), .val (.int p4), .val (.int (Int32.ofNat nz)), .val (.int (own_chr p1)), .val (.int (own_chr p2)), .unset, .unset, .unset, .unset, .unset, .unset, .unset, .unset]) rfl ?_
  refine XS.iloadN X2.here hx rfl (hb hby at_20) rfl ?_
  show Steps p.tables e below (T2.setTop (mkF m 21 #[.val (.int p0), .val (.int p1), .val (.int p2), .val (.int p3), .val (.int p4), .val (.int (Int32.ofNat nz)), .val (.int (own_chr p1)), .val (.int (own_chr p2)), .unset, .unset, .unset, .unset, .unset, .unset, .unset, .unset] [(.int p3)])) _
  refine st3 _ ?_
  show Steps p.tables e below (T3.setTop (mkF m 24 #[.val (.int p0), .val (.int p1), .val (.int p2), .val (.int p3), .val (.int p4), .val (.int (Int32.ofNat nz)), .val (.int (own_chr p1)), .val (.int (own_chr p2)), .unset, .unset, .unset, .unset, .unset, .unset, .unset, .unset] [(.int (own_chr p3))])) _
  refine XS.istore X3.here hx rfl (hb hby at_24) rfl (l' := #[.val (.int p0), .val (.int p1), .val (.int p2), .val (.int p3), .val (.int p4), .val (.int (Int32.ofNat nz)), .val (.int (own_chr p1)), .val (.int (own_chr p2)), .val (.int (own_chr p3)), .unset, .unset, .unset, .unset, .unset, .unset, .unset]) rfl ?_
  refine XS.iload X3.here hx rfl (hb hby at_26) rfl ?_
  show Steps p.tables e below (T3.setTop (mkF m 28 #[.val (.int p0), .val (.int p1), .val (.int p2), .val (.int p3), .val (.int p4), .val (.int (Int32.ofNat nz)), .val (.int (own_chr p1)), .val (.int (own_chr p2)), .val (.int (own_chr p3)), .unset, .unset, .unset, .unset, .unset, .unset, .unset] [(.int p4)])) _
  refine st4 _ ?_
  show Steps p.tables e below (T4.setTop (mkF m 31 #[.val (.int p0), .val (.int p1), .val (.int p2), .val (.int p3), .val (.int p4), .val (.int (Int32.ofNat nz)), .val (.int (own_chr p1)), .val (.int (own_chr p2)), .val (.int (own_chr p3)), .unset, .unset, .unset, .unset, .unset, .unset, .unset] [(.int (own_chr p4))])) _
  refine XS.istore X4.here hx rfl (hb hby at_31) rfl (l' := #[.val (.int p0), .val (.int p1), .val (.int p2), .val (.int p3), .val (.int p4), .val (.int (Int32.ofNat nz)), .val (.int (own_chr p1)), .val (.int (own_chr p2)), .val (.int (own_chr p3)), .val (.int (own_chr p4)), .unset, .unset, .unset, .unset, .unset, .unset]) rfl ?_
  show Steps p.tables e below (T4.setTop (mkF m 33 #[.val (.int p0), .val (.int p1), .val (.int p2), .val (.int p3), .val (.int p4), .val (.int (Int32.ofNat nz)), .val (.int (own_chr p1)), .val (.int (own_chr p2)), .val (.int (own_chr p3)), .val (.int (own_chr p4)), .unset, .unset, .unset, .unset, .unset, .unset] [])) _
  exact kt
def own_s3 (n : Nat) (b3 : Bool) : Nat := if 3 < n ∧ b3 = true then 3 else n
set_option maxRecDepth 65536 in
set_option maxHeartbeats 40000000 in
theorem la_s3 {p : Program} {l : Launch} {e : Env} {s : State} {m : MethodId} {args : Array Value} {below : List Frame} {meth : Method} {c : Code} {T0 : State} {locs : List Loc} {Z : State} {a0 : Array Value} {h0 : Heap} {n0 : Nat} (p0 p1 p2 p3 p4 : Int32) (nz : Nat) (c0 c1 c2 c3 : Int32) (al tx rr : Addr) {cells slots : Nat}
    (X0 : Stand p l e room_1 s m args below meth c T0 locs cells slots) (hx : p.tables.exec = Jvm.exec) (hZ : Z.Warmed39 s.vm) (hw : ∀ d ∈ tables_1, d.before a0 Z = true) (hby : c.code = code) (hml : c.maxLocals = 16) (hown : s.vm.findClass "com/example/commitwright/commitwright/http/HeadTrimSpacePinLaw" = some m.cls) (e0 : T0.heap = h0) (Z0 : n0 ≤ h0.size) (N0 : Fr n0 locs) (hz4 : nz ≤ 4) (hcl : cells ≤ room_1.cells) (hsl : slots ≤ room_1.slots) :
    ∃ (T' : State) (locs' : List Loc), Stand p l e room_1 s m args below meth c T' locs' cells slots ∧ Fr n0 locs' ∧ T'.heap = h0 ∧ ∀ target, Steps p.tables e below (T'.setTop (mkF m 170 #[.val (.int p0), .val (.int p1), .val (.int p2), .val (.int p3), .val (.int p4), .val (.int (Int32.ofNat nz)), .val (.int c0), .val (.int c1), .val (.int c2), .val (.int c3), .val (.ref al), .val (.ref tx), .val (.ref rr), .val (.int (Int32.ofNat (own_s3 nz (own_ns c3)))), .unset, .unset] [])) target → Steps p.tables e below (T0.setTop (mkF m 146 #[.val (.int p0), .val (.int p1), .val (.int p2), .val (.int p3), .val (.int p4), .val (.int (Int32.ofNat nz)), .val (.int c0), .val (.int c1), .val (.int c2), .val (.int c3), .val (.ref al), .val (.ref tx), .val (.ref rr), .unset, .unset, .unset] [])) target := by
  by_cases hc149 : (3 : Int32) < (Int32.ofNat nz)
  · obtain ⟨_, _, ⟨T1, L1, k1, n1⟩, -, X1, ⟨Lc1, hQ1, l1, y1, z1⟩, st1⟩ := Jvm.LawKit.callS X0 hx (y := (⟨"com/example/commitwright/commitwright/http/HeadTrimSpacePinLaw", "sp", "(C)Z"⟩ : MethodName)) hown (mvT hZ (hw _ (List.mem_of_getElem? (i := 121) rfl))) (mvT hZ (hw _ (List.mem_of_getElem? (i := 122) rfl))) (mvT hZ (hw _ (List.mem_of_getElem? (i := 3) rfl))) (mvT hZ (hw _ (List.mem_of_getElem? (i := 123) rfl))) (by decide) (backOf (W := 0) (rm28 l Z a0 hw [] c3 h0 n0 Z0) hZ (hw _ (List.mem_of_getElem? (i := 123) rfl)) (hw _ (List.mem_of_getElem? (i := 3) rfl)) (by decide) (by decide)) (g := (mkF m 154 #[.val (.int p0), .val (.int p1), .val (.int p2), .val (.int p3), .val (.int p4), .val (.int (Int32.ofNat nz)), .val (.int c0), .val (.int c1), .val (.int c2), .val (.int c3), .val (.ref al), .val (.ref tx), .val (.ref rr), .unset, .unset, .unset] [(.int c3)])) rfl (by rw [hml]; rfl) (argsL := [(.int c3)]) (rest := []) (lenOf pd_28C29Z rfl) rfl (by show 2 * 0 + _ ≤ _; exact Nat.le_of_eq rfl) (hb hby at_154) (fun _ _ => ⟨rfl, e0, hcl, hsl⟩)
    dsimp only [Pt.U, Pt.locs, Pt.cells, Pt.slots] at X1 l1 y1 z1 st1 hQ1
    subst l1 y1 z1
    obtain ⟨rfl, N1q, e1⟩ := hQ1
    have N1 := Fr.app N0 N1q
    by_cases hc157 : (own_sp c3) = (0 : Int32)
    · refine ⟨T1, _, X1, N1, e1, fun target kt => ?_⟩
      show Steps p.tables e below (T0.setTop (mkF m 146 #[.val (.int p0), .val (.int p1), .val (.int p2), .val (.int p3), .val (.int p4), .val (.int (Int32.ofNat nz)), .val (.int c0), .val (.int c1), .val (.int c2), .val (.int c3), .val (.ref al), .val (.ref tx), .val (.ref rr), .unset, .unset, .unset] [])) _
      refine XS.iload X0.here hx rfl (hb hby at_146) rfl ?_
      refine XS.iconst X0.here hx rfl (hb hby at_148) ?_
      show Steps p.tables e below (T0.setTop (mkF m 149 #[.val (.int p0), .val (.int p1), .val (.int p2), .val (.int p3), .val (.int p4), .val (.int (Int32.ofNat nz)), .val (.int c0), .val (.int c1), .val (.int c2), .val (.int c3), .val (.ref al), .val (.ref tx), .val (.ref rr), .unset, .unset, .unset] [(.int (3 : Int32)), (.int (Int32.ofNat nz))])) _
      refine XS.icmpNo X0.here hx rfl (hb hby at_149) rfl (tlt hc149).2.2.2 ?_
      refine XS.iload X0.here hx rfl (hb hby at_152) rfl ?_
      show Steps p.tables e below (T0.setTop (mkF m 154 #[.val (.int p0), .val (.int p1), .val (.int p2), .val (.int p3), .val (.int p4), .val (.int (Int32.ofNat nz)), .val (.int c0), .val (.int c1), .val (.int c2), .val (.int c3), .val (.ref al), .val (.ref tx), .val (.ref rr), .unset, .unset, .unset] [(.int c3)])) _
      refine st1 _ ?_
      show Steps p.tables e below (T1.setTop (mkF m 157 #[.val (.int p0), .val (.int p1), .val (.int p2), .val (.int p3), .val (.int p4), .val (.int (Int32.ofNat nz)), .val (.int c0), .val (.int c1), .val (.int c2), .val (.int c3), .val (.ref al), .val (.ref tx), .val (.ref rr), .unset, .unset, .unset] [(.int (own_sp c3))])) _
      refine XS.ifNo X1.here hx rfl (hb hby at_157) rfl ((if0 _ _).trans (teq hc157).2) ?_
      refine XS.iconst X1.here hx rfl (hb hby at_160) ?_
      show Steps p.tables e below (T1.setTop (mkF m 161 #[.val (.int p0), .val (.int p1), .val (.int p2), .val (.int p3), .val (.int p4), .val (.int (Int32.ofNat nz)), .val (.int c0), .val (.int c1), .val (.int c2), .val (.int c3), .val (.ref al), .val (.ref tx), .val (.ref rr), .unset, .unset, .unset] [(.int (3 : Int32))])) _
      refine XS.istore X1.here hx rfl (hb hby at_161) rfl (l' := #[.val (.int p0), .val (.int p1), .val (.int p2), .val (.int p3), .val (.int p4), .val (.int (Int32.ofNat nz)), .val (.int c0), .val (.int c1), .val (.int c2), .val (.int c3), .val (.ref al), .val (.ref tx), .val (.ref rr), .val (.int (3 : Int32)), .unset, .unset]) rfl ?_
      show Steps p.tables e below (T1.setTop (mkF m 163 #[.val (.int p0), .val (.int p1), .val (.int p2), .val (.int p3), .val (.int p4), .val (.int (Int32.ofNat nz)), .val (.int c0), .val (.int c1), .val (.int c2), .val (.int c3), .val (.ref al), .val (.ref tx), .val (.ref rr), .val (.int (3 : Int32)), .unset, .unset] [])) _
      refine XS.goto X1.here hx rfl (pc0 := 163) (pc' := 170) rfl (hb hby at_163) (by decide) (by decide) ?_
      show Steps p.tables e below (T1.setTop (mkF m 170 #[.val (.int p0), .val (.int p1), .val (.int p2), .val (.int p3), .val (.int p4), .val (.int (Int32.ofNat nz)), .val (.int c0), .val (.int c1), .val (.int c2), .val (.int c3), .val (.ref al), .val (.ref tx), .val (.ref rr), .val (.int (3 : Int32)), .unset, .unset] [])) _
      have qn : 3 < nz := (own_olt (i := 3) (by decide) (by omega)).mp hc149
      have qb : own_ns c3 = true := decide_eq_true hc157
      rw [show (own_s3 nz (own_ns c3)) = _ from if_pos ⟨qn, qb⟩] at kt
      exact kt
    · refine ⟨T1, _, X1, N1, e1, fun target kt => ?_⟩
      show Steps p.tables e below (T0.setTop (mkF m 146 #[.val (.int p0), .val (.int p1), .val (.int p2), .val (.int p3), .val (.int p4), .val (.int (Int32.ofNat nz)), .val (.int c0), .val (.int c1), .val (.int c2), .val (.int c3), .val (.ref al), .val (.ref tx), .val (.ref rr), .unset, .unset, .unset] [])) _
      refine XS.iload X0.here hx rfl (hb hby at_146) rfl ?_
      refine XS.iconst X0.here hx rfl (hb hby at_148) ?_
      show Steps p.tables e below (T0.setTop (mkF m 149 #[.val (.int p0), .val (.int p1), .val (.int p2), .val (.int p3), .val (.int p4), .val (.int (Int32.ofNat nz)), .val (.int c0), .val (.int c1), .val (.int c2), .val (.int c3), .val (.ref al), .val (.ref tx), .val (.ref rr), .unset, .unset, .unset] [(.int (3 : Int32)), (.int (Int32.ofNat nz))])) _
      refine XS.icmpNo X0.here hx rfl (hb hby at_149) rfl (tlt hc149).2.2.2 ?_
      refine XS.iload X0.here hx rfl (hb hby at_152) rfl ?_
      show Steps p.tables e below (T0.setTop (mkF m 154 #[.val (.int p0), .val (.int p1), .val (.int p2), .val (.int p3), .val (.int p4), .val (.int (Int32.ofNat nz)), .val (.int c0), .val (.int c1), .val (.int c2), .val (.int c3), .val (.ref al), .val (.ref tx), .val (.ref rr), .unset, .unset, .unset] [(.int c3)])) _
      refine st1 _ ?_
      show Steps p.tables e below (T1.setTop (mkF m 157 #[.val (.int p0), .val (.int p1), .val (.int p2), .val (.int p3), .val (.int p4), .val (.int (Int32.ofNat nz)), .val (.int c0), .val (.int c1), .val (.int c2), .val (.int c3), .val (.ref al), .val (.ref tx), .val (.ref rr), .unset, .unset, .unset] [(.int (own_sp c3))])) _
      refine XS.ifYes X1.here hx rfl (pc0 := 157) (pc' := 166) rfl (hb hby at_157) rfl ((if0 _ _).trans (feq hc157).2) (by decide) (by decide) ?_
      refine XS.iload X1.here hx rfl (hb hby at_166) rfl ?_
      show Steps p.tables e below (T1.setTop (mkF m 168 #[.val (.int p0), .val (.int p1), .val (.int p2), .val (.int p3), .val (.int p4), .val (.int (Int32.ofNat nz)), .val (.int c0), .val (.int c1), .val (.int c2), .val (.int c3), .val (.ref al), .val (.ref tx), .val (.ref rr), .unset, .unset, .unset] [(.int (Int32.ofNat nz))])) _
      refine XS.istore X1.here hx rfl (hb hby at_168) rfl (l' := #[.val (.int p0), .val (.int p1), .val (.int p2), .val (.int p3), .val (.int p4), .val (.int (Int32.ofNat nz)), .val (.int c0), .val (.int c1), .val (.int c2), .val (.int c3), .val (.ref al), .val (.ref tx), .val (.ref rr), .val (.int (Int32.ofNat nz)), .unset, .unset]) rfl ?_
      show Steps p.tables e below (T1.setTop (mkF m 170 #[.val (.int p0), .val (.int p1), .val (.int p2), .val (.int p3), .val (.int p4), .val (.int (Int32.ofNat nz)), .val (.int c0), .val (.int c1), .val (.int c2), .val (.int c3), .val (.ref al), .val (.ref tx), .val (.ref rr), .val (.int (Int32.ofNat nz)), .unset, .unset] [])) _
      have qn : 3 < nz := (own_olt (i := 3) (by decide) (by omega)).mp hc149
      have qb : own_ns c3 = false := decide_eq_false hc157
      rw [show (own_s3 nz (own_ns c3)) = _ from if_neg (fun z => by rw [qb] at z; exact absurd z.2 (by decide))] at kt
      exact kt
  · refine ⟨T0, _, X0, N0, e0, fun target kt => ?_⟩
    show Steps p.tables e below (T0.setTop (mkF m 146 #[.val (.int p0), .val (.int p1), .val (.int p2), .val (.int p3), .val (.int p4), .val (.int (Int32.ofNat nz)), .val (.int c0), .val (.int c1), .val (.int c2), .val (.int c3), .val (.ref al), .val (.ref tx), .val (.ref rr), .unset, .unset, .unset] [])) _
    refine XS.iload X0.here hx rfl (hb hby at_146) rfl ?_
    refine XS.iconst X0.here hx rfl (hb hby at_148) ?_
    show Steps p.tables e below (T0.setTop (mkF m 149 #[.val (.int p0), .val (.int p1), .val (.int p2), .val (.int p3), .val (.int p4), .val (.int (Int32.ofNat nz)), .val (.int c0), .val (.int c1), .val (.int c2), .val (.int c3), .val (.ref al), .val (.ref tx), .val (.ref rr), .unset, .unset, .unset] [(.int (3 : Int32)), (.int (Int32.ofNat nz))])) _
    refine XS.icmpYes X0.here hx rfl (pc0 := 149) (pc' := 166) rfl (hb hby at_149) rfl (flt hc149).2.2.2 (by decide) (by decide) ?_
    refine XS.iload X0.here hx rfl (hb hby at_166) rfl ?_
    show Steps p.tables e below (T0.setTop (mkF m 168 #[.val (.int p0), .val (.int p1), .val (.int p2), .val (.int p3), .val (.int p4), .val (.int (Int32.ofNat nz)), .val (.int c0), .val (.int c1), .val (.int c2), .val (.int c3), .val (.ref al), .val (.ref tx), .val (.ref rr), .unset, .unset, .unset] [(.int (Int32.ofNat nz))])) _
    refine XS.istore X0.here hx rfl (hb hby at_168) rfl (l' := #[.val (.int p0), .val (.int p1), .val (.int p2), .val (.int p3), .val (.int p4), .val (.int (Int32.ofNat nz)), .val (.int c0), .val (.int c1), .val (.int c2), .val (.int c3), .val (.ref al), .val (.ref tx), .val (.ref rr), .val (.int (Int32.ofNat nz)), .unset, .unset]) rfl ?_
    show Steps p.tables e below (T0.setTop (mkF m 170 #[.val (.int p0), .val (.int p1), .val (.int p2), .val (.int p3), .val (.int p4), .val (.int (Int32.ofNat nz)), .val (.int c0), .val (.int c1), .val (.int c2), .val (.int c3), .val (.ref al), .val (.ref tx), .val (.ref rr), .val (.int (Int32.ofNat nz)), .unset, .unset] [])) _
    have qn : ¬ 3 < nz := fun z => hc149 ((own_olt (i := 3) (by decide) (by omega)).mpr z)
    rw [show (own_s3 nz (own_ns c3)) = _ from if_neg (fun z => qn z.1)] at kt
    exact kt
def own_s2 (n : Nat) (b2 : Bool) (b3 : Bool) : Nat := if 2 < n ∧ b2 = true then 2 else own_s3 n b3
set_option maxRecDepth 65536 in
set_option maxHeartbeats 40000000 in
theorem la_s2 {p : Program} {l : Launch} {e : Env} {s : State} {m : MethodId} {args : Array Value} {below : List Frame} {meth : Method} {c : Code} {T0 : State} {locs : List Loc} {Z : State} {a0 : Array Value} {h0 : Heap} {n0 : Nat} (p0 p1 p2 p3 p4 : Int32) (nz : Nat) (c0 c1 c2 c3 : Int32) (al tx rr : Addr) {cells slots : Nat}
    (X0 : Stand p l e room_1 s m args below meth c T0 locs cells slots) (hx : p.tables.exec = Jvm.exec) (hZ : Z.Warmed39 s.vm) (hw : ∀ d ∈ tables_1, d.before a0 Z = true) (hby : c.code = code) (hml : c.maxLocals = 16) (hown : s.vm.findClass "com/example/commitwright/commitwright/http/HeadTrimSpacePinLaw" = some m.cls) (e0 : T0.heap = h0) (Z0 : n0 ≤ h0.size) (N0 : Fr n0 locs) (hz4 : nz ≤ 4) (hcl : cells ≤ room_1.cells) (hsl : slots ≤ room_1.slots) :
    ∃ (T' : State) (locs' : List Loc), Stand p l e room_1 s m args below meth c T' locs' cells slots ∧ Fr n0 locs' ∧ T'.heap = h0 ∧ ∀ target, Steps p.tables e below (T'.setTop (mkF m 170 #[.val (.int p0), .val (.int p1), .val (.int p2), .val (.int p3), .val (.int p4), .val (.int (Int32.ofNat nz)), .val (.int c0), .val (.int c1), .val (.int c2), .val (.int c3), .val (.ref al), .val (.ref tx), .val (.ref rr), .val (.int (Int32.ofNat (own_s2 nz (own_ns c2) (own_ns c3)))), .unset, .unset] [])) target → Steps p.tables e below (T0.setTop (mkF m 126 #[.val (.int p0), .val (.int p1), .val (.int p2), .val (.int p3), .val (.int p4), .val (.int (Int32.ofNat nz)), .val (.int c0), .val (.int c1), .val (.int c2), .val (.int c3), .val (.ref al), .val (.ref tx), .val (.ref rr), .unset, .unset, .unset] [])) target := by
  by_cases hc129 : (2 : Int32) < (Int32.ofNat nz)
  · obtain ⟨_, _, ⟨T1, L1, k1, n1⟩, -, X1, ⟨Lc1, hQ1, l1, y1, z1⟩, st1⟩ := Jvm.LawKit.callS X0 hx (y := (⟨"com/example/commitwright/commitwright/http/HeadTrimSpacePinLaw", "sp", "(C)Z"⟩ : MethodName)) hown (mvT hZ (hw _ (List.mem_of_getElem? (i := 121) rfl))) (mvT hZ (hw _ (List.mem_of_getElem? (i := 122) rfl))) (mvT hZ (hw _ (List.mem_of_getElem? (i := 3) rfl))) (mvT hZ (hw _ (List.mem_of_getElem? (i := 123) rfl))) (by decide) (backOf (W := 0) (rm28 l Z a0 hw [] c2 h0 n0 Z0) hZ (hw _ (List.mem_of_getElem? (i := 123) rfl)) (hw _ (List.mem_of_getElem? (i := 3) rfl)) (by decide) (by decide)) (g := (mkF m 134 #[.val (.int p0), .val (.int p1), .val (.int p2), .val (.int p3), .val (.int p4), .val (.int (Int32.ofNat nz)), .val (.int c0), .val (.int c1), .val (.int c2), .val (.int c3), .val (.ref al), .val (.ref tx), .val (.ref rr), .unset, .unset, .unset] [(.int c2)])) rfl (by rw [hml]; rfl) (argsL := [(.int c2)]) (rest := []) (lenOf pd_28C29Z rfl) rfl (by show 2 * 0 + _ ≤ _; exact Nat.le_of_eq rfl) (hb hby at_134) (fun _ _ => ⟨rfl, e0, hcl, hsl⟩)
    dsimp only [Pt.U, Pt.locs, Pt.cells, Pt.slots] at X1 l1 y1 z1 st1 hQ1
    subst l1 y1 z1
    obtain ⟨rfl, N1q, e1⟩ := hQ1
    have N1 := Fr.app N0 N1q
    by_cases hc137 : (own_sp c2) = (0 : Int32)
    · refine ⟨T1, _, X1, N1, e1, fun target kt => ?_⟩
      show Steps p.tables e below (T0.setTop (mkF m 126 #[.val (.int p0), .val (.int p1), .val (.int p2), .val (.int p3), .val (.int p4), .val (.int (Int32.ofNat nz)), .val (.int c0), .val (.int c1), .val (.int c2), .val (.int c3), .val (.ref al), .val (.ref tx), .val (.ref rr), .unset, .unset, .unset] [])) _
      refine XS.iload X0.here hx rfl (hb hby at_126) rfl ?_
      refine XS.iconst X0.here hx rfl (hb hby at_128) ?_
      show Steps p.tables e below (T0.setTop (mkF m 129 #[.val (.int p0), .val (.int p1), .val (.int p2), .val (.int p3), .val (.int p4), .val (.int (Int32.ofNat nz)), .val (.int c0), .val (.int c1), .val (.int c2), .val (.int c3), .val (.ref al), .val (.ref tx), .val (.ref rr), .unset, .unset, .unset] [(.int (2 : Int32)), (.int (Int32.ofNat nz))])) _
      refine XS.icmpNo X0.here hx rfl (hb hby at_129) rfl (tlt hc129).2.2.2 ?_
      refine XS.iload X0.here hx rfl (hb hby at_132) rfl ?_
      show Steps p.tables e below (T0.setTop (mkF m 134 #[.val (.int p0), .val (.int p1), .val (.int p2), .val (.int p3), .val (.int p4), .val (.int (Int32.ofNat nz)), .val (.int c0), .val (.int c1), .val (.int c2), .val (.int c3), .val (.ref al), .val (.ref tx), .val (.ref rr), .unset, .unset, .unset] [(.int c2)])) _
      refine st1 _ ?_
      show Steps p.tables e below (T1.setTop (mkF m 137 #[.val (.int p0), .val (.int p1), .val (.int p2), .val (.int p3), .val (.int p4), .val (.int (Int32.ofNat nz)), .val (.int c0), .val (.int c1), .val (.int c2), .val (.int c3), .val (.ref al), .val (.ref tx), .val (.ref rr), .unset, .unset, .unset] [(.int (own_sp c2))])) _
      refine XS.ifNo X1.here hx rfl (hb hby at_137) rfl ((if0 _ _).trans (teq hc137).2) ?_
      refine XS.iconst X1.here hx rfl (hb hby at_140) ?_
      show Steps p.tables e below (T1.setTop (mkF m 141 #[.val (.int p0), .val (.int p1), .val (.int p2), .val (.int p3), .val (.int p4), .val (.int (Int32.ofNat nz)), .val (.int c0), .val (.int c1), .val (.int c2), .val (.int c3), .val (.ref al), .val (.ref tx), .val (.ref rr), .unset, .unset, .unset] [(.int (2 : Int32))])) _
      refine XS.istore X1.here hx rfl (hb hby at_141) rfl (l' := #[.val (.int p0), .val (.int p1), .val (.int p2), .val (.int p3), .val (.int p4), .val (.int (Int32.ofNat nz)), .val (.int c0), .val (.int c1), .val (.int c2), .val (.int c3), .val (.ref al), .val (.ref tx), .val (.ref rr), .val (.int (2 : Int32)), .unset, .unset]) rfl ?_
      show Steps p.tables e below (T1.setTop (mkF m 143 #[.val (.int p0), .val (.int p1), .val (.int p2), .val (.int p3), .val (.int p4), .val (.int (Int32.ofNat nz)), .val (.int c0), .val (.int c1), .val (.int c2), .val (.int c3), .val (.ref al), .val (.ref tx), .val (.ref rr), .val (.int (2 : Int32)), .unset, .unset] [])) _
      refine XS.goto X1.here hx rfl (pc0 := 143) (pc' := 170) rfl (hb hby at_143) (by decide) (by decide) ?_
      show Steps p.tables e below (T1.setTop (mkF m 170 #[.val (.int p0), .val (.int p1), .val (.int p2), .val (.int p3), .val (.int p4), .val (.int (Int32.ofNat nz)), .val (.int c0), .val (.int c1), .val (.int c2), .val (.int c3), .val (.ref al), .val (.ref tx), .val (.ref rr), .val (.int (2 : Int32)), .unset, .unset] [])) _
      have qn : 2 < nz := (own_olt (i := 2) (by decide) (by omega)).mp hc129
      have qb : own_ns c2 = true := decide_eq_true hc137
      rw [show (own_s2 nz (own_ns c2) (own_ns c3)) = _ from if_pos ⟨qn, qb⟩] at kt
      exact kt
    · obtain ⟨TT, lT, XT, NT, eT, stT⟩ := la_s3 p0 p1 p2 p3 p4 nz c0 c1 c2 c3 al tx rr X1 hx hZ hw hby hml hown e1 Z0 N1 hz4 hcl hsl
      refine ⟨TT, _, XT, NT, eT, fun target kt => ?_⟩
      show Steps p.tables e below (T0.setTop (mkF m 126 #[.val (.int p0), .val (.int p1), .val (.int p2), .val (.int p3), .val (.int p4), .val (.int (Int32.ofNat nz)), .val (.int c0), .val (.int c1), .val (.int c2), .val (.int c3), .val (.ref al), .val (.ref tx), .val (.ref rr), .unset, .unset, .unset] [])) _
      refine XS.iload X0.here hx rfl (hb hby at_126) rfl ?_
      refine XS.iconst X0.here hx rfl (hb hby at_128) ?_
      show Steps p.tables e below (T0.setTop (mkF m 129 #[.val (.int p0), .val (.int p1), .val (.int p2), .val (.int p3), .val (.int p4), .val (.int (Int32.ofNat nz)), .val (.int c0), .val (.int c1), .val (.int c2), .val (.int c3), .val (.ref al), .val (.ref tx), .val (.ref rr), .unset, .unset, .unset] [(.int (2 : Int32)), (.int (Int32.ofNat nz))])) _
      refine XS.icmpNo X0.here hx rfl (hb hby at_129) rfl (tlt hc129).2.2.2 ?_
      refine XS.iload X0.here hx rfl (hb hby at_132) rfl ?_
      show Steps p.tables e below (T0.setTop (mkF m 134 #[.val (.int p0), .val (.int p1), .val (.int p2), .val (.int p3), .val (.int p4), .val (.int (Int32.ofNat nz)), .val (.int c0), .val (.int c1), .val (.int c2), .val (.int c3), .val (.ref al), .val (.ref tx), .val (.ref rr), .unset, .unset, .unset] [(.int c2)])) _
      refine st1 _ ?_
      show Steps p.tables e below (T1.setTop (mkF m 137 #[.val (.int p0), .val (.int p1), .val (.int p2), .val (.int p3), .val (.int p4), .val (.int (Int32.ofNat nz)), .val (.int c0), .val (.int c1), .val (.int c2), .val (.int c3), .val (.ref al), .val (.ref tx), .val (.ref rr), .unset, .unset, .unset] [(.int (own_sp c2))])) _
      refine XS.ifYes X1.here hx rfl (pc0 := 137) (pc' := 146) rfl (hb hby at_137) rfl ((if0 _ _).trans (feq hc137).2) (by decide) (by decide) ?_
      show Steps p.tables e below (T1.setTop (mkF m 146 #[.val (.int p0), .val (.int p1), .val (.int p2), .val (.int p3), .val (.int p4), .val (.int (Int32.ofNat nz)), .val (.int c0), .val (.int c1), .val (.int c2), .val (.int c3), .val (.ref al), .val (.ref tx), .val (.ref rr), .unset, .unset, .unset] [])) _
      refine stT _ ?_
      show Steps p.tables e below (TT.setTop (mkF m 170 #[.val (.int p0), .val (.int p1), .val (.int p2), .val (.int p3), .val (.int p4), .val (.int (Int32.ofNat nz)), .val (.int c0), .val (.int c1), .val (.int c2), .val (.int c3), .val (.ref al), .val (.ref tx), .val (.ref rr), .val (.int (Int32.ofNat (own_s3 nz (own_ns c3)))), .unset, .unset] [])) _
      have qn : 2 < nz := (own_olt (i := 2) (by decide) (by omega)).mp hc129
      have qb : own_ns c2 = false := decide_eq_false hc137
      rw [show (own_s2 nz (own_ns c2) (own_ns c3)) = _ from if_neg (fun z => by rw [qb] at z; exact absurd z.2 (by decide))] at kt
      exact kt
  · obtain ⟨TT, lT, XT, NT, eT, stT⟩ := la_s3 p0 p1 p2 p3 p4 nz c0 c1 c2 c3 al tx rr X0 hx hZ hw hby hml hown e0 Z0 N0 hz4 hcl hsl
    refine ⟨TT, _, XT, NT, eT, fun target kt => ?_⟩
    show Steps p.tables e below (T0.setTop (mkF m 126 #[.val (.int p0), .val (.int p1), .val (.int p2), .val (.int p3), .val (.int p4), .val (.int (Int32.ofNat nz)), .val (.int c0), .val (.int c1), .val (.int c2), .val (.int c3), .val (.ref al), .val (.ref tx), .val (.ref rr), .unset, .unset, .unset] [])) _
    refine XS.iload X0.here hx rfl (hb hby at_126) rfl ?_
    refine XS.iconst X0.here hx rfl (hb hby at_128) ?_
    show Steps p.tables e below (T0.setTop (mkF m 129 #[.val (.int p0), .val (.int p1), .val (.int p2), .val (.int p3), .val (.int p4), .val (.int (Int32.ofNat nz)), .val (.int c0), .val (.int c1), .val (.int c2), .val (.int c3), .val (.ref al), .val (.ref tx), .val (.ref rr), .unset, .unset, .unset] [(.int (2 : Int32)), (.int (Int32.ofNat nz))])) _
    refine XS.icmpYes X0.here hx rfl (pc0 := 129) (pc' := 146) rfl (hb hby at_129) rfl (flt hc129).2.2.2 (by decide) (by decide) ?_
    show Steps p.tables e below (T0.setTop (mkF m 146 #[.val (.int p0), .val (.int p1), .val (.int p2), .val (.int p3), .val (.int p4), .val (.int (Int32.ofNat nz)), .val (.int c0), .val (.int c1), .val (.int c2), .val (.int c3), .val (.ref al), .val (.ref tx), .val (.ref rr), .unset, .unset, .unset] [])) _
    refine stT _ ?_
    show Steps p.tables e below (TT.setTop (mkF m 170 #[.val (.int p0), .val (.int p1), .val (.int p2), .val (.int p3), .val (.int p4), .val (.int (Int32.ofNat nz)), .val (.int c0), .val (.int c1), .val (.int c2), .val (.int c3), .val (.ref al), .val (.ref tx), .val (.ref rr), .val (.int (Int32.ofNat (own_s3 nz (own_ns c3)))), .unset, .unset] [])) _
    have qn : ¬ 2 < nz := fun z => hc129 ((own_olt (i := 2) (by decide) (by omega)).mpr z)
    rw [show (own_s2 nz (own_ns c2) (own_ns c3)) = _ from if_neg (fun z => qn z.1)] at kt
    exact kt
def own_s1 (n : Nat) (b1 : Bool) (b2 : Bool) (b3 : Bool) : Nat := if 1 < n ∧ b1 = true then 1 else own_s2 n b2 b3
set_option maxRecDepth 65536 in
set_option maxHeartbeats 40000000 in
theorem la_s1 {p : Program} {l : Launch} {e : Env} {s : State} {m : MethodId} {args : Array Value} {below : List Frame} {meth : Method} {c : Code} {T0 : State} {locs : List Loc} {Z : State} {a0 : Array Value} {h0 : Heap} {n0 : Nat} (p0 p1 p2 p3 p4 : Int32) (nz : Nat) (c0 c1 c2 c3 : Int32) (al tx rr : Addr) {cells slots : Nat}
    (X0 : Stand p l e room_1 s m args below meth c T0 locs cells slots) (hx : p.tables.exec = Jvm.exec) (hZ : Z.Warmed39 s.vm) (hw : ∀ d ∈ tables_1, d.before a0 Z = true) (hby : c.code = code) (hml : c.maxLocals = 16) (hown : s.vm.findClass "com/example/commitwright/commitwright/http/HeadTrimSpacePinLaw" = some m.cls) (e0 : T0.heap = h0) (Z0 : n0 ≤ h0.size) (N0 : Fr n0 locs) (hz4 : nz ≤ 4) (hcl : cells ≤ room_1.cells) (hsl : slots ≤ room_1.slots) :
    ∃ (T' : State) (locs' : List Loc), Stand p l e room_1 s m args below meth c T' locs' cells slots ∧ Fr n0 locs' ∧ T'.heap = h0 ∧ ∀ target, Steps p.tables e below (T'.setTop (mkF m 170 #[.val (.int p0), .val (.int p1), .val (.int p2), .val (.int p3), .val (.int p4), .val (.int (Int32.ofNat nz)), .val (.int c0), .val (.int c1), .val (.int c2), .val (.int c3), .val (.ref al), .val (.ref tx), .val (.ref rr), .val (.int (Int32.ofNat (own_s1 nz (own_ns c1) (own_ns c2) (own_ns c3)))), .unset, .unset] [])) target → Steps p.tables e below (T0.setTop (mkF m 106 #[.val (.int p0), .val (.int p1), .val (.int p2), .val (.int p3), .val (.int p4), .val (.int (Int32.ofNat nz)), .val (.int c0), .val (.int c1), .val (.int c2), .val (.int c3), .val (.ref al), .val (.ref tx), .val (.ref rr), .unset, .unset, .unset] [])) target := by
  by_cases hc109 : (1 : Int32) < (Int32.ofNat nz)
  · obtain ⟨_, _, ⟨T1, L1, k1, n1⟩, -, X1, ⟨Lc1, hQ1, l1, y1, z1⟩, st1⟩ := Jvm.LawKit.callS X0 hx (y := (⟨"com/example/commitwright/commitwright/http/HeadTrimSpacePinLaw", "sp", "(C)Z"⟩ : MethodName)) hown (mvT hZ (hw _ (List.mem_of_getElem? (i := 121) rfl))) (mvT hZ (hw _ (List.mem_of_getElem? (i := 122) rfl))) (mvT hZ (hw _ (List.mem_of_getElem? (i := 3) rfl))) (mvT hZ (hw _ (List.mem_of_getElem? (i := 123) rfl))) (by decide) (backOf (W := 0) (rm28 l Z a0 hw [] c1 h0 n0 Z0) hZ (hw _ (List.mem_of_getElem? (i := 123) rfl)) (hw _ (List.mem_of_getElem? (i := 3) rfl)) (by decide) (by decide)) (g := (mkF m 114 #[.val (.int p0), .val (.int p1), .val (.int p2), .val (.int p3), .val (.int p4), .val (.int (Int32.ofNat nz)), .val (.int c0), .val (.int c1), .val (.int c2), .val (.int c3), .val (.ref al), .val (.ref tx), .val (.ref rr), .unset, .unset, .unset] [(.int c1)])) rfl (by rw [hml]; rfl) (argsL := [(.int c1)]) (rest := []) (lenOf pd_28C29Z rfl) rfl (by show 2 * 0 + _ ≤ _; exact Nat.le_of_eq rfl) (hb hby at_114) (fun _ _ => ⟨rfl, e0, hcl, hsl⟩)
    dsimp only [Pt.U, Pt.locs, Pt.cells, Pt.slots] at X1 l1 y1 z1 st1 hQ1
    subst l1 y1 z1
    obtain ⟨rfl, N1q, e1⟩ := hQ1
    have N1 := Fr.app N0 N1q
    by_cases hc117 : (own_sp c1) = (0 : Int32)
    · refine ⟨T1, _, X1, N1, e1, fun target kt => ?_⟩
      show Steps p.tables e below (T0.setTop (mkF m 106 #[.val (.int p0), .val (.int p1), .val (.int p2), .val (.int p3), .val (.int p4), .val (.int (Int32.ofNat nz)), .val (.int c0), .val (.int c1), .val (.int c2), .val (.int c3), .val (.ref al), .val (.ref tx), .val (.ref rr), .unset, .unset, .unset] [])) _
      refine XS.iload X0.here hx rfl (hb hby at_106) rfl ?_
      refine XS.iconst X0.here hx rfl (hb hby at_108) ?_
      show Steps p.tables e below (T0.setTop (mkF m 109 #[.val (.int p0), .val (.int p1), .val (.int p2), .val (.int p3), .val (.int p4), .val (.int (Int32.ofNat nz)), .val (.int c0), .val (.int c1), .val (.int c2), .val (.int c3), .val (.ref al), .val (.ref tx), .val (.ref rr), .unset, .unset, .unset] [(.int (1 : Int32)), (.int (Int32.ofNat nz))])) _
      refine XS.icmpNo X0.here hx rfl (hb hby at_109) rfl (tlt hc109).2.2.2 ?_
      refine XS.iload X0.here hx rfl (hb hby at_112) rfl ?_
      show Steps p.tables e below (T0.setTop (mkF m 114 #[.val (.int p0), .val (.int p1), .val (.int p2), .val (.int p3), .val (.int p4), .val (.int (Int32.ofNat nz)), .val (.int c0), .val (.int c1), .val (.int c2), .val (.int c3), .val (.ref al), .val (.ref tx), .val (.ref rr), .unset, .unset, .unset] [(.int c1)])) _
      refine st1 _ ?_
      show Steps p.tables e below (T1.setTop (mkF m 117 #[.val (.int p0), .val (.int p1), .val (.int p2), .val (.int p3), .val (.int p4), .val (.int (Int32.ofNat nz)), .val (.int c0), .val (.int c1), .val (.int c2), .val (.int c3), .val (.ref al), .val (.ref tx), .val (.ref rr), .unset, .unset, .unset] [(.int (own_sp c1))])) _
      refine XS.ifNo X1.here hx rfl (hb hby at_117) rfl ((if0 _ _).trans (teq hc117).2) ?_
      refine XS.iconst X1.here hx rfl (hb hby at_120) ?_
      show Steps p.tables e below (T1.setTop (mkF m 121 #[.val (.int p0), .val (.int p1), .val (.int p2), .val (.int p3), .val (.int p4), .val (.int (Int32.ofNat nz)), .val (.int c0), .val (.int c1), .val (.int c2), .val (.int c3), .val (.ref al), .val (.ref tx), .val (.ref rr), .unset, .unset, .unset] [(.int (1 : Int32))])) _
      refine XS.istore X1.here hx rfl (hb hby at_121) rfl (l' := #[.val (.int p0), .val (.int p1), .val (.int p2), .val (.int p3), .val (.int p4), .val (.int (Int32.ofNat nz)), .val (.int c0), .val (.int c1), .val (.int c2), .val (.int c3), .val (.ref al), .val (.ref tx), .val (.ref rr), .val (.int (1 : Int32)), .unset, .unset]) rfl ?_
      show Steps p.tables e below (T1.setTop (mkF m 123 #[.val (.int p0), .val (.int p1), .val (.int p2), .val (.int p3), .val (.int p4), .val (.int (Int32.ofNat nz)), .val (.int c0), .val (.int c1), .val (.int c2), .val (.int c3), .val (.ref al), .val (.ref tx), .val (.ref rr), .val (.int (1 : Int32)), .unset, .unset] [])) _
      refine XS.goto X1.here hx rfl (pc0 := 123) (pc' := 170) rfl (hb hby at_123) (by decide) (by decide) ?_
      show Steps p.tables e below (T1.setTop (mkF m 170 #[.val (.int p0), .val (.int p1), .val (.int p2), .val (.int p3), .val (.int p4), .val (.int (Int32.ofNat nz)), .val (.int c0), .val (.int c1), .val (.int c2), .val (.int c3), .val (.ref al), .val (.ref tx), .val (.ref rr), .val (.int (1 : Int32)), .unset, .unset] [])) _
      have qn : 1 < nz := (own_olt (i := 1) (by decide) (by omega)).mp hc109
      have qb : own_ns c1 = true := decide_eq_true hc117
      rw [show (own_s1 nz (own_ns c1) (own_ns c2) (own_ns c3)) = _ from if_pos ⟨qn, qb⟩] at kt
      exact kt
    · obtain ⟨TT, lT, XT, NT, eT, stT⟩ := la_s2 p0 p1 p2 p3 p4 nz c0 c1 c2 c3 al tx rr X1 hx hZ hw hby hml hown e1 Z0 N1 hz4 hcl hsl
      refine ⟨TT, _, XT, NT, eT, fun target kt => ?_⟩
      show Steps p.tables e below (T0.setTop (mkF m 106 #[.val (.int p0), .val (.int p1), .val (.int p2), .val (.int p3), .val (.int p4), .val (.int (Int32.ofNat nz)), .val (.int c0), .val (.int c1), .val (.int c2), .val (.int c3), .val (.ref al), .val (.ref tx), .val (.ref rr), .unset, .unset, .unset] [])) _
      refine XS.iload X0.here hx rfl (hb hby at_106) rfl ?_
      refine XS.iconst X0.here hx rfl (hb hby at_108) ?_
      show Steps p.tables e below (T0.setTop (mkF m 109 #[.val (.int p0), .val (.int p1), .val (.int p2), .val (.int p3), .val (.int p4), .val (.int (Int32.ofNat nz)), .val (.int c0), .val (.int c1), .val (.int c2), .val (.int c3), .val (.ref al), .val (.ref tx), .val (.ref rr), .unset, .unset, .unset] [(.int (1 : Int32)), (.int (Int32.ofNat nz))])) _
      refine XS.icmpNo X0.here hx rfl (hb hby at_109) rfl (tlt hc109).2.2.2 ?_
      refine XS.iload X0.here hx rfl (hb hby at_112) rfl ?_
      show Steps p.tables e below (T0.setTop (mkF m 114 #[.val (.int p0), .val (.int p1), .val (.int p2), .val (.int p3), .val (.int p4), .val (.int (Int32.ofNat nz)), .val (.int c0), .val (.int c1), .val (.int c2), .val (.int c3), .val (.ref al), .val (.ref tx), .val (.ref rr), .unset, .unset, .unset] [(.int c1)])) _
      refine st1 _ ?_
      show Steps p.tables e below (T1.setTop (mkF m 117 #[.val (.int p0), .val (.int p1), .val (.int p2), .val (.int p3), .val (.int p4), .val (.int (Int32.ofNat nz)), .val (.int c0), .val (.int c1), .val (.int c2), .val (.int c3), .val (.ref al), .val (.ref tx), .val (.ref rr), .unset, .unset, .unset] [(.int (own_sp c1))])) _
      refine XS.ifYes X1.here hx rfl (pc0 := 117) (pc' := 126) rfl (hb hby at_117) rfl ((if0 _ _).trans (feq hc117).2) (by decide) (by decide) ?_
      show Steps p.tables e below (T1.setTop (mkF m 126 #[.val (.int p0), .val (.int p1), .val (.int p2), .val (.int p3), .val (.int p4), .val (.int (Int32.ofNat nz)), .val (.int c0), .val (.int c1), .val (.int c2), .val (.int c3), .val (.ref al), .val (.ref tx), .val (.ref rr), .unset, .unset, .unset] [])) _
      refine stT _ ?_
      show Steps p.tables e below (TT.setTop (mkF m 170 #[.val (.int p0), .val (.int p1), .val (.int p2), .val (.int p3), .val (.int p4), .val (.int (Int32.ofNat nz)), .val (.int c0), .val (.int c1), .val (.int c2), .val (.int c3), .val (.ref al), .val (.ref tx), .val (.ref rr), .val (.int (Int32.ofNat (own_s2 nz (own_ns c2) (own_ns c3)))), .unset, .unset] [])) _
      have qn : 1 < nz := (own_olt (i := 1) (by decide) (by omega)).mp hc109
      have qb : own_ns c1 = false := decide_eq_false hc117
      rw [show (own_s1 nz (own_ns c1) (own_ns c2) (own_ns c3)) = _ from if_neg (fun z => by rw [qb] at z; exact absurd z.2 (by decide))] at kt
      exact kt
  · obtain ⟨TT, lT, XT, NT, eT, stT⟩ := la_s2 p0 p1 p2 p3 p4 nz c0 c1 c2 c3 al tx rr X0 hx hZ hw hby hml hown e0 Z0 N0 hz4 hcl hsl
    refine ⟨TT, _, XT, NT, eT, fun target kt => ?_⟩
    show Steps p.tables e below (T0.setTop (mkF m 106 #[.val (.int p0), .val (.int p1), .val (.int p2), .val (.int p3), .val (.int p4), .val (.int (Int32.ofNat nz)), .val (.int c0), .val (.int c1), .val (.int c2), .val (.int c3), .val (.ref al), .val (.ref tx), .val (.ref rr), .unset, .unset, .unset] [])) _
    refine XS.iload X0.here hx rfl (hb hby at_106) rfl ?_
    refine XS.iconst X0.here hx rfl (hb hby at_108) ?_
    show Steps p.tables e below (T0.setTop (mkF m 109 #[.val (.int p0), .val (.int p1), .val (.int p2), .val (.int p3), .val (.int p4), .val (.int (Int32.ofNat nz)), .val (.int c0), .val (.int c1), .val (.int c2), .val (.int c3), .val (.ref al), .val (.ref tx), .val (.ref rr), .unset, .unset, .unset] [(.int (1 : Int32)), (.int (Int32.ofNat nz))])) _
    refine XS.icmpYes X0.here hx rfl (pc0 := 109) (pc' := 126) rfl (hb hby at_109) rfl (flt hc109).2.2.2 (by decide) (by decide) ?_
    show Steps p.tables e below (T0.setTop (mkF m 126 #[.val (.int p0), .val (.int p1), .val (.int p2), .val (.int p3), .val (.int p4), .val (.int (Int32.ofNat nz)), .val (.int c0), .val (.int c1), .val (.int c2), .val (.int c3), .val (.ref al), .val (.ref tx), .val (.ref rr), .unset, .unset, .unset] [])) _
    refine stT _ ?_
    show Steps p.tables e below (TT.setTop (mkF m 170 #[.val (.int p0), .val (.int p1), .val (.int p2), .val (.int p3), .val (.int p4), .val (.int (Int32.ofNat nz)), .val (.int c0), .val (.int c1), .val (.int c2), .val (.int c3), .val (.ref al), .val (.ref tx), .val (.ref rr), .val (.int (Int32.ofNat (own_s2 nz (own_ns c2) (own_ns c3)))), .unset, .unset] [])) _
    have qn : ¬ 1 < nz := fun z => hc109 ((own_olt (i := 1) (by decide) (by omega)).mpr z)
    rw [show (own_s1 nz (own_ns c1) (own_ns c2) (own_ns c3)) = _ from if_neg (fun z => qn z.1)] at kt
    exact kt
def own_s0 (n : Nat) (b0 : Bool) (b1 : Bool) (b2 : Bool) (b3 : Bool) : Nat := if 0 < n ∧ b0 = true then 0 else own_s1 n b1 b2 b3
set_option maxRecDepth 65536 in
set_option maxHeartbeats 40000000 in
theorem la_s0 {p : Program} {l : Launch} {e : Env} {s : State} {m : MethodId} {args : Array Value} {below : List Frame} {meth : Method} {c : Code} {T0 : State} {locs : List Loc} {Z : State} {a0 : Array Value} {h0 : Heap} {n0 : Nat} (p0 p1 p2 p3 p4 : Int32) (nz : Nat) (c0 c1 c2 c3 : Int32) (al tx rr : Addr) {cells slots : Nat}
    (X0 : Stand p l e room_1 s m args below meth c T0 locs cells slots) (hx : p.tables.exec = Jvm.exec) (hZ : Z.Warmed39 s.vm) (hw : ∀ d ∈ tables_1, d.before a0 Z = true) (hby : c.code = code) (hml : c.maxLocals = 16) (hown : s.vm.findClass "com/example/commitwright/commitwright/http/HeadTrimSpacePinLaw" = some m.cls) (e0 : T0.heap = h0) (Z0 : n0 ≤ h0.size) (N0 : Fr n0 locs) (hz4 : nz ≤ 4) (hcl : cells ≤ room_1.cells) (hsl : slots ≤ room_1.slots) :
    ∃ (T' : State) (locs' : List Loc), Stand p l e room_1 s m args below meth c T' locs' cells slots ∧ Fr n0 locs' ∧ T'.heap = h0 ∧ ∀ target, Steps p.tables e below (T'.setTop (mkF m 170 #[.val (.int p0), .val (.int p1), .val (.int p2), .val (.int p3), .val (.int p4), .val (.int (Int32.ofNat nz)), .val (.int c0), .val (.int c1), .val (.int c2), .val (.int c3), .val (.ref al), .val (.ref tx), .val (.ref rr), .val (.int (Int32.ofNat (own_s0 nz (own_ns c0) (own_ns c1) (own_ns c2) (own_ns c3)))), .unset, .unset] [])) target → Steps p.tables e below (T0.setTop (mkF m 87 #[.val (.int p0), .val (.int p1), .val (.int p2), .val (.int p3), .val (.int p4), .val (.int (Int32.ofNat nz)), .val (.int c0), .val (.int c1), .val (.int c2), .val (.int c3), .val (.ref al), .val (.ref tx), .val (.ref rr), .unset, .unset, .unset] [])) target := by
  by_cases hc89 : (0 : Int32) < (Int32.ofNat nz)
  · obtain ⟨_, _, ⟨T1, L1, k1, n1⟩, -, X1, ⟨Lc1, hQ1, l1, y1, z1⟩, st1⟩ := Jvm.LawKit.callS X0 hx (y := (⟨"com/example/commitwright/commitwright/http/HeadTrimSpacePinLaw", "sp", "(C)Z"⟩ : MethodName)) hown (mvT hZ (hw _ (List.mem_of_getElem? (i := 121) rfl))) (mvT hZ (hw _ (List.mem_of_getElem? (i := 122) rfl))) (mvT hZ (hw _ (List.mem_of_getElem? (i := 3) rfl))) (mvT hZ (hw _ (List.mem_of_getElem? (i := 123) rfl))) (by decide) (backOf (W := 0) (rm28 l Z a0 hw [] c0 h0 n0 Z0) hZ (hw _ (List.mem_of_getElem? (i := 123) rfl)) (hw _ (List.mem_of_getElem? (i := 3) rfl)) (by decide) (by decide)) (g := (mkF m 94 #[.val (.int p0), .val (.int p1), .val (.int p2), .val (.int p3), .val (.int p4), .val (.int (Int32.ofNat nz)), .val (.int c0), .val (.int c1), .val (.int c2), .val (.int c3), .val (.ref al), .val (.ref tx), .val (.ref rr), .unset, .unset, .unset] [(.int c0)])) rfl (by rw [hml]; rfl) (argsL := [(.int c0)]) (rest := []) (lenOf pd_28C29Z rfl) rfl (by show 2 * 0 + _ ≤ _; exact Nat.le_of_eq rfl) (hb hby at_94) (fun _ _ => ⟨rfl, e0, hcl, hsl⟩)
    dsimp only [Pt.U, Pt.locs, Pt.cells, Pt.slots] at X1 l1 y1 z1 st1 hQ1
    subst l1 y1 z1
    obtain ⟨rfl, N1q, e1⟩ := hQ1
    have N1 := Fr.app N0 N1q
    by_cases hc97 : (own_sp c0) = (0 : Int32)
    · refine ⟨T1, _, X1, N1, e1, fun target kt => ?_⟩
      show Steps p.tables e below (T0.setTop (mkF m 87 #[.val (.int p0), .val (.int p1), .val (.int p2), .val (.int p3), .val (.int p4), .val (.int (Int32.ofNat nz)), .val (.int c0), .val (.int c1), .val (.int c2), .val (.int c3), .val (.ref al), .val (.ref tx), .val (.ref rr), .unset, .unset, .unset] [])) _
      refine XS.iload X0.here hx rfl (hb hby at_87) rfl ?_
      show Steps p.tables e below (T0.setTop (mkF m 89 #[.val (.int p0), .val (.int p1), .val (.int p2), .val (.int p3), .val (.int p4), .val (.int (Int32.ofNat nz)), .val (.int c0), .val (.int c1), .val (.int c2), .val (.int c3), .val (.ref al), .val (.ref tx), .val (.ref rr), .unset, .unset, .unset] [(.int (Int32.ofNat nz))])) _
      refine XS.ifNo X0.here hx rfl (hb hby at_89) rfl ((if0 _ _).trans (tlt hc89).2.2.2) ?_
      refine XS.iload X0.here hx rfl (hb hby at_92) rfl ?_
      show Steps p.tables e below (T0.setTop (mkF m 94 #[.val (.int p0), .val (.int p1), .val (.int p2), .val (.int p3), .val (.int p4), .val (.int (Int32.ofNat nz)), .val (.int c0), .val (.int c1), .val (.int c2), .val (.int c3), .val (.ref al), .val (.ref tx), .val (.ref rr), .unset, .unset, .unset] [(.int c0)])) _
      refine st1 _ ?_
      show Steps p.tables e below (T1.setTop (mkF m 97 #[.val (.int p0), .val (.int p1), .val (.int p2), .val (.int p3), .val (.int p4), .val (.int (Int32.ofNat nz)), .val (.int c0), .val (.int c1), .val (.int c2), .val (.int c3), .val (.ref al), .val (.ref tx), .val (.ref rr), .unset, .unset, .unset] [(.int (own_sp c0))])) _
      refine XS.ifNo X1.here hx rfl (hb hby at_97) rfl ((if0 _ _).trans (teq hc97).2) ?_
      refine XS.iconst X1.here hx rfl (hb hby at_100) ?_
      show Steps p.tables e below (T1.setTop (mkF m 101 #[.val (.int p0), .val (.int p1), .val (.int p2), .val (.int p3), .val (.int p4), .val (.int (Int32.ofNat nz)), .val (.int c0), .val (.int c1), .val (.int c2), .val (.int c3), .val (.ref al), .val (.ref tx), .val (.ref rr), .unset, .unset, .unset] [(.int (0 : Int32))])) _
      refine XS.istore X1.here hx rfl (hb hby at_101) rfl (l' := #[.val (.int p0), .val (.int p1), .val (.int p2), .val (.int p3), .val (.int p4), .val (.int (Int32.ofNat nz)), .val (.int c0), .val (.int c1), .val (.int c2), .val (.int c3), .val (.ref al), .val (.ref tx), .val (.ref rr), .val (.int (0 : Int32)), .unset, .unset]) rfl ?_
      show Steps p.tables e below (T1.setTop (mkF m 103 #[.val (.int p0), .val (.int p1), .val (.int p2), .val (.int p3), .val (.int p4), .val (.int (Int32.ofNat nz)), .val (.int c0), .val (.int c1), .val (.int c2), .val (.int c3), .val (.ref al), .val (.ref tx), .val (.ref rr), .val (.int (0 : Int32)), .unset, .unset] [])) _
      refine XS.goto X1.here hx rfl (pc0 := 103) (pc' := 170) rfl (hb hby at_103) (by decide) (by decide) ?_
      show Steps p.tables e below (T1.setTop (mkF m 170 #[.val (.int p0), .val (.int p1), .val (.int p2), .val (.int p3), .val (.int p4), .val (.int (Int32.ofNat nz)), .val (.int c0), .val (.int c1), .val (.int c2), .val (.int c3), .val (.ref al), .val (.ref tx), .val (.ref rr), .val (.int (0 : Int32)), .unset, .unset] [])) _
      have qn : 0 < nz := (own_olt (i := 0) (by decide) (by omega)).mp hc89
      have qb : own_ns c0 = true := decide_eq_true hc97
      rw [show (own_s0 nz (own_ns c0) (own_ns c1) (own_ns c2) (own_ns c3)) = _ from if_pos ⟨qn, qb⟩] at kt
      exact kt
    · obtain ⟨TT, lT, XT, NT, eT, stT⟩ := la_s1 p0 p1 p2 p3 p4 nz c0 c1 c2 c3 al tx rr X1 hx hZ hw hby hml hown e1 Z0 N1 hz4 hcl hsl
      refine ⟨TT, _, XT, NT, eT, fun target kt => ?_⟩
      show Steps p.tables e below (T0.setTop (mkF m 87 #[.val (.int p0), .val (.int p1), .val (.int p2), .val (.int p3), .val (.int p4), .val (.int (Int32.ofNat nz)), .val (.int c0), .val (.int c1), .val (.int c2), .val (.int c3), .val (.ref al), .val (.ref tx), .val (.ref rr), .unset, .unset, .unset] [])) _
      refine XS.iload X0.here hx rfl (hb hby at_87) rfl ?_
      show Steps p.tables e below (T0.setTop (mkF m 89 #[.val (.int p0), .val (.int p1), .val (.int p2), .val (.int p3), .val (.int p4), .val (.int (Int32.ofNat nz)), .val (.int c0), .val (.int c1), .val (.int c2), .val (.int c3), .val (.ref al), .val (.ref tx), .val (.ref rr), .unset, .unset, .unset] [(.int (Int32.ofNat nz))])) _
      refine XS.ifNo X0.here hx rfl (hb hby at_89) rfl ((if0 _ _).trans (tlt hc89).2.2.2) ?_
      refine XS.iload X0.here hx rfl (hb hby at_92) rfl ?_
      show Steps p.tables e below (T0.setTop (mkF m 94 #[.val (.int p0), .val (.int p1), .val (.int p2), .val (.int p3), .val (.int p4), .val (.int (Int32.ofNat nz)), .val (.int c0), .val (.int c1), .val (.int c2), .val (.int c3), .val (.ref al), .val (.ref tx), .val (.ref rr), .unset, .unset, .unset] [(.int c0)])) _
      refine st1 _ ?_
      show Steps p.tables e below (T1.setTop (mkF m 97 #[.val (.int p0), .val (.int p1), .val (.int p2), .val (.int p3), .val (.int p4), .val (.int (Int32.ofNat nz)), .val (.int c0), .val (.int c1), .val (.int c2), .val (.int c3), .val (.ref al), .val (.ref tx), .val (.ref rr), .unset, .unset, .unset] [(.int (own_sp c0))])) _
      refine XS.ifYes X1.here hx rfl (pc0 := 97) (pc' := 106) rfl (hb hby at_97) rfl ((if0 _ _).trans (feq hc97).2) (by decide) (by decide) ?_
      show Steps p.tables e below (T1.setTop (mkF m 106 #[.val (.int p0), .val (.int p1), .val (.int p2), .val (.int p3), .val (.int p4), .val (.int (Int32.ofNat nz)), .val (.int c0), .val (.int c1), .val (.int c2), .val (.int c3), .val (.ref al), .val (.ref tx), .val (.ref rr), .unset, .unset, .unset] [])) _
      refine stT _ ?_
      show Steps p.tables e below (TT.setTop (mkF m 170 #[.val (.int p0), .val (.int p1), .val (.int p2), .val (.int p3), .val (.int p4), .val (.int (Int32.ofNat nz)), .val (.int c0), .val (.int c1), .val (.int c2), .val (.int c3), .val (.ref al), .val (.ref tx), .val (.ref rr), .val (.int (Int32.ofNat (own_s1 nz (own_ns c1) (own_ns c2) (own_ns c3)))), .unset, .unset] [])) _
      have qn : 0 < nz := (own_olt (i := 0) (by decide) (by omega)).mp hc89
      have qb : own_ns c0 = false := decide_eq_false hc97
      rw [show (own_s0 nz (own_ns c0) (own_ns c1) (own_ns c2) (own_ns c3)) = _ from if_neg (fun z => by rw [qb] at z; exact absurd z.2 (by decide))] at kt
      exact kt
  · obtain ⟨TT, lT, XT, NT, eT, stT⟩ := la_s1 p0 p1 p2 p3 p4 nz c0 c1 c2 c3 al tx rr X0 hx hZ hw hby hml hown e0 Z0 N0 hz4 hcl hsl
    refine ⟨TT, _, XT, NT, eT, fun target kt => ?_⟩
    show Steps p.tables e below (T0.setTop (mkF m 87 #[.val (.int p0), .val (.int p1), .val (.int p2), .val (.int p3), .val (.int p4), .val (.int (Int32.ofNat nz)), .val (.int c0), .val (.int c1), .val (.int c2), .val (.int c3), .val (.ref al), .val (.ref tx), .val (.ref rr), .unset, .unset, .unset] [])) _
    refine XS.iload X0.here hx rfl (hb hby at_87) rfl ?_
    show Steps p.tables e below (T0.setTop (mkF m 89 #[.val (.int p0), .val (.int p1), .val (.int p2), .val (.int p3), .val (.int p4), .val (.int (Int32.ofNat nz)), .val (.int c0), .val (.int c1), .val (.int c2), .val (.int c3), .val (.ref al), .val (.ref tx), .val (.ref rr), .unset, .unset, .unset] [(.int (Int32.ofNat nz))])) _
    refine XS.ifYes X0.here hx rfl (pc0 := 89) (pc' := 106) rfl (hb hby at_89) rfl ((if0 _ _).trans (flt hc89).2.2.2) (by decide) (by decide) ?_
    show Steps p.tables e below (T0.setTop (mkF m 106 #[.val (.int p0), .val (.int p1), .val (.int p2), .val (.int p3), .val (.int p4), .val (.int (Int32.ofNat nz)), .val (.int c0), .val (.int c1), .val (.int c2), .val (.int c3), .val (.ref al), .val (.ref tx), .val (.ref rr), .unset, .unset, .unset] [])) _
    refine stT _ ?_
    show Steps p.tables e below (TT.setTop (mkF m 170 #[.val (.int p0), .val (.int p1), .val (.int p2), .val (.int p3), .val (.int p4), .val (.int (Int32.ofNat nz)), .val (.int c0), .val (.int c1), .val (.int c2), .val (.int c3), .val (.ref al), .val (.ref tx), .val (.ref rr), .val (.int (Int32.ofNat (own_s1 nz (own_ns c1) (own_ns c2) (own_ns c3)))), .unset, .unset] [])) _
    have qn : ¬ 0 < nz := fun z => hc89 ((own_olt (i := 0) (by decide) (by omega)).mpr z)
    rw [show (own_s0 nz (own_ns c0) (own_ns c1) (own_ns c2) (own_ns c3)) = _ from if_neg (fun z => qn z.1)] at kt
    exact kt
def own_t3 (n : Nat) (b0 : Bool) : Nat := if 0 < n ∧ b0 = true then 1 else 0
set_option maxRecDepth 65536 in
set_option maxHeartbeats 40000000 in
theorem la_t3 {p : Program} {l : Launch} {e : Env} {s : State} {m : MethodId} {args : Array Value} {below : List Frame} {meth : Method} {c : Code} {T0 : State} {locs : List Loc} {Z : State} {a0 : Array Value} {h0 : Heap} {n0 : Nat} (p0 p1 p2 p3 p4 : Int32) (nz : Nat) (c0 c1 c2 c3 : Int32) (al tx rr : Addr) {cells slots : Nat} (js : Nat)
    (X0 : Stand p l e room_1 s m args below meth c T0 locs cells slots) (hx : p.tables.exec = Jvm.exec) (hZ : Z.Warmed39 s.vm) (hw : ∀ d ∈ tables_1, d.before a0 Z = true) (hby : c.code = code) (hml : c.maxLocals = 16) (hown : s.vm.findClass "com/example/commitwright/commitwright/http/HeadTrimSpacePinLaw" = some m.cls) (e0 : T0.heap = h0) (Z0 : n0 ≤ h0.size) (N0 : Fr n0 locs) (hz4 : nz ≤ 4) (hcl : cells ≤ room_1.cells) (hsl : slots ≤ room_1.slots) :
    ∃ (T' : State) (locs' : List Loc), Stand p l e room_1 s m args below meth c T' locs' cells slots ∧ Fr n0 locs' ∧ T'.heap = h0 ∧ ∀ target, Steps p.tables e below (T'.setTop (mkF m 252 #[.val (.int p0), .val (.int p1), .val (.int p2), .val (.int p3), .val (.int p4), .val (.int (Int32.ofNat nz)), .val (.int c0), .val (.int c1), .val (.int c2), .val (.int c3), .val (.ref al), .val (.ref tx), .val (.ref rr), .val (.int (Int32.ofNat js)), .val (.int (Int32.ofNat (own_t3 nz (own_ns c0)))), .unset] [])) target → Steps p.tables e below (T0.setTop (mkF m 230 #[.val (.int p0), .val (.int p1), .val (.int p2), .val (.int p3), .val (.int p4), .val (.int (Int32.ofNat nz)), .val (.int c0), .val (.int c1), .val (.int c2), .val (.int c3), .val (.ref al), .val (.ref tx), .val (.ref rr), .val (.int (Int32.ofNat js)), .unset, .unset] [])) target := by
  by_cases hc232 : (0 : Int32) < (Int32.ofNat nz)
  · obtain ⟨_, _, ⟨T1, L1, k1, n1⟩, -, X1, ⟨Lc1, hQ1, l1, y1, z1⟩, st1⟩ := Jvm.LawKit.callS X0 hx (y := (⟨"com/example/commitwright/commitwright/http/HeadTrimSpacePinLaw", "sp", "(C)Z"⟩ : MethodName)) hown (mvT hZ (hw _ (List.mem_of_getElem? (i := 121) rfl))) (mvT hZ (hw _ (List.mem_of_getElem? (i := 122) rfl))) (mvT hZ (hw _ (List.mem_of_getElem? (i := 3) rfl))) (mvT hZ (hw _ (List.mem_of_getElem? (i := 123) rfl))) (by decide) (backOf (W := 0) (rm28 l Z a0 hw [] c0 h0 n0 Z0) hZ (hw _ (List.mem_of_getElem? (i := 123) rfl)) (hw _ (List.mem_of_getElem? (i := 3) rfl)) (by decide) (by decide)) (g := (mkF m 237 #[.val (.int p0), .val (.int p1), .val (.int p2), .val (.int p3), .val (.int p4), .val (.int (Int32.ofNat nz)), .val (.int c0), .val (.int c1), .val (.int c2), .val (.int c3), .val (.ref al), .val (.ref tx), .val (.ref rr), .val (.int (Int32.ofNat js)), .unset, .unset] [(.int c0)])) rfl (by rw [hml]; rfl) (argsL := [(.int c0)]) (rest := []) (lenOf pd_28C29Z rfl) rfl (by show 2 * 0 + _ ≤ _; exact Nat.le_of_eq rfl) (hb hby at_237) (fun _ _ => ⟨rfl, e0, hcl, hsl⟩)
    dsimp only [Pt.U, Pt.locs, Pt.cells, Pt.slots] at X1 l1 y1 z1 st1 hQ1
    subst l1 y1 z1
    obtain ⟨rfl, N1q, e1⟩ := hQ1
    have N1 := Fr.app N0 N1q
    by_cases hc240 : (own_sp c0) = (0 : Int32)
    · refine ⟨T1, _, X1, N1, e1, fun target kt => ?_⟩
      show Steps p.tables e below (T0.setTop (mkF m 230 #[.val (.int p0), .val (.int p1), .val (.int p2), .val (.int p3), .val (.int p4), .val (.int (Int32.ofNat nz)), .val (.int c0), .val (.int c1), .val (.int c2), .val (.int c3), .val (.ref al), .val (.ref tx), .val (.ref rr), .val (.int (Int32.ofNat js)), .unset, .unset] [])) _
      refine XS.iload X0.here hx rfl (hb hby at_230) rfl ?_
      show Steps p.tables e below (T0.setTop (mkF m 232 #[.val (.int p0), .val (.int p1), .val (.int p2), .val (.int p3), .val (.int p4), .val (.int (Int32.ofNat nz)), .val (.int c0), .val (.int c1), .val (.int c2), .val (.int c3), .val (.ref al), .val (.ref tx), .val (.ref rr), .val (.int (Int32.ofNat js)), .unset, .unset] [(.int (Int32.ofNat nz))])) _
      refine XS.ifNo X0.here hx rfl (hb hby at_232) rfl ((if0 _ _).trans (tlt hc232).2.2.2) ?_
      refine XS.iload X0.here hx rfl (hb hby at_235) rfl ?_
      show Steps p.tables e below (T0.setTop (mkF m 237 #[.val (.int p0), .val (.int p1), .val (.int p2), .val (.int p3), .val (.int p4), .val (.int (Int32.ofNat nz)), .val (.int c0), .val (.int c1), .val (.int c2), .val (.int c3), .val (.ref al), .val (.ref tx), .val (.ref rr), .val (.int (Int32.ofNat js)), .unset, .unset] [(.int c0)])) _
      refine st1 _ ?_
      show Steps p.tables e below (T1.setTop (mkF m 240 #[.val (.int p0), .val (.int p1), .val (.int p2), .val (.int p3), .val (.int p4), .val (.int (Int32.ofNat nz)), .val (.int c0), .val (.int c1), .val (.int c2), .val (.int c3), .val (.ref al), .val (.ref tx), .val (.ref rr), .val (.int (Int32.ofNat js)), .unset, .unset] [(.int (own_sp c0))])) _
      refine XS.ifNo X1.here hx rfl (hb hby at_240) rfl ((if0 _ _).trans (teq hc240).2) ?_
      refine XS.iconst X1.here hx rfl (hb hby at_243) ?_
      show Steps p.tables e below (T1.setTop (mkF m 244 #[.val (.int p0), .val (.int p1), .val (.int p2), .val (.int p3), .val (.int p4), .val (.int (Int32.ofNat nz)), .val (.int c0), .val (.int c1), .val (.int c2), .val (.int c3), .val (.ref al), .val (.ref tx), .val (.ref rr), .val (.int (Int32.ofNat js)), .unset, .unset] [(.int (1 : Int32))])) _
      refine XS.istore X1.here hx rfl (hb hby at_244) rfl (l' := #[.val (.int p0), .val (.int p1), .val (.int p2), .val (.int p3), .val (.int p4), .val (.int (Int32.ofNat nz)), .val (.int c0), .val (.int c1), .val (.int c2), .val (.int c3), .val (.ref al), .val (.ref tx), .val (.ref rr), .val (.int (Int32.ofNat js)), .val (.int (1 : Int32)), .unset]) rfl ?_
      show Steps p.tables e below (T1.setTop (mkF m 246 #[.val (.int p0), .val (.int p1), .val (.int p2), .val (.int p3), .val (.int p4), .val (.int (Int32.ofNat nz)), .val (.int c0), .val (.int c1), .val (.int c2), .val (.int c3), .val (.ref al), .val (.ref tx), .val (.ref rr), .val (.int (Int32.ofNat js)), .val (.int (1 : Int32)), .unset] [])) _
      refine XS.goto X1.here hx rfl (pc0 := 246) (pc' := 252) rfl (hb hby at_246) (by decide) (by decide) ?_
      show Steps p.tables e below (T1.setTop (mkF m 252 #[.val (.int p0), .val (.int p1), .val (.int p2), .val (.int p3), .val (.int p4), .val (.int (Int32.ofNat nz)), .val (.int c0), .val (.int c1), .val (.int c2), .val (.int c3), .val (.ref al), .val (.ref tx), .val (.ref rr), .val (.int (Int32.ofNat js)), .val (.int (1 : Int32)), .unset] [])) _
      have qn : 0 < nz := (own_olt (i := 0) (by decide) (by omega)).mp hc232
      have qb : own_ns c0 = true := decide_eq_true hc240
      rw [show (own_t3 nz (own_ns c0)) = _ from if_pos ⟨qn, qb⟩] at kt
      exact kt
    · refine ⟨T1, _, X1, N1, e1, fun target kt => ?_⟩
      show Steps p.tables e below (T0.setTop (mkF m 230 #[.val (.int p0), .val (.int p1), .val (.int p2), .val (.int p3), .val (.int p4), .val (.int (Int32.ofNat nz)), .val (.int c0), .val (.int c1), .val (.int c2), .val (.int c3), .val (.ref al), .val (.ref tx), .val (.ref rr), .val (.int (Int32.ofNat js)), .unset, .unset] [])) _
      refine XS.iload X0.here hx rfl (hb hby at_230) rfl ?_
      show Steps p.tables e below (T0.setTop (mkF m 232 #[.val (.int p0), .val (.int p1), .val (.int p2), .val (.int p3), .val (.int p4), .val (.int (Int32.ofNat nz)), .val (.int c0), .val (.int c1), .val (.int c2), .val (.int c3), .val (.ref al), .val (.ref tx), .val (.ref rr), .val (.int (Int32.ofNat js)), .unset, .unset] [(.int (Int32.ofNat nz))])) _
      refine XS.ifNo X0.here hx rfl (hb hby at_232) rfl ((if0 _ _).trans (tlt hc232).2.2.2) ?_
      refine XS.iload X0.here hx rfl (hb hby at_235) rfl ?_
      show Steps p.tables e below (T0.setTop (mkF m 237 #[.val (.int p0), .val (.int p1), .val (.int p2), .val (.int p3), .val (.int p4), .val (.int (Int32.ofNat nz)), .val (.int c0), .val (.int c1), .val (.int c2), .val (.int c3), .val (.ref al), .val (.ref tx), .val (.ref rr), .val (.int (Int32.ofNat js)), .unset, .unset] [(.int c0)])) _
      refine st1 _ ?_
      show Steps p.tables e below (T1.setTop (mkF m 240 #[.val (.int p0), .val (.int p1), .val (.int p2), .val (.int p3), .val (.int p4), .val (.int (Int32.ofNat nz)), .val (.int c0), .val (.int c1), .val (.int c2), .val (.int c3), .val (.ref al), .val (.ref tx), .val (.ref rr), .val (.int (Int32.ofNat js)), .unset, .unset] [(.int (own_sp c0))])) _
      refine XS.ifYes X1.here hx rfl (pc0 := 240) (pc' := 249) rfl (hb hby at_240) rfl ((if0 _ _).trans (feq hc240).2) (by decide) (by decide) ?_
      refine XS.iconst X1.here hx rfl (hb hby at_249) ?_
      show Steps p.tables e below (T1.setTop (mkF m 250 #[.val (.int p0), .val (.int p1), .val (.int p2), .val (.int p3), .val (.int p4), .val (.int (Int32.ofNat nz)), .val (.int c0), .val (.int c1), .val (.int c2), .val (.int c3), .val (.ref al), .val (.ref tx), .val (.ref rr), .val (.int (Int32.ofNat js)), .unset, .unset] [(.int (0 : Int32))])) _
      refine XS.istore X1.here hx rfl (hb hby at_250) rfl (l' := #[.val (.int p0), .val (.int p1), .val (.int p2), .val (.int p3), .val (.int p4), .val (.int (Int32.ofNat nz)), .val (.int c0), .val (.int c1), .val (.int c2), .val (.int c3), .val (.ref al), .val (.ref tx), .val (.ref rr), .val (.int (Int32.ofNat js)), .val (.int (0 : Int32)), .unset]) rfl ?_
      show Steps p.tables e below (T1.setTop (mkF m 252 #[.val (.int p0), .val (.int p1), .val (.int p2), .val (.int p3), .val (.int p4), .val (.int (Int32.ofNat nz)), .val (.int c0), .val (.int c1), .val (.int c2), .val (.int c3), .val (.ref al), .val (.ref tx), .val (.ref rr), .val (.int (Int32.ofNat js)), .val (.int (0 : Int32)), .unset] [])) _
      have qn : 0 < nz := (own_olt (i := 0) (by decide) (by omega)).mp hc232
      have qb : own_ns c0 = false := decide_eq_false hc240
      rw [show (own_t3 nz (own_ns c0)) = _ from if_neg (fun z => by rw [qb] at z; exact absurd z.2 (by decide))] at kt
      exact kt
  · refine ⟨T0, _, X0, N0, e0, fun target kt => ?_⟩
    show Steps p.tables e below (T0.setTop (mkF m 230 #[.val (.int p0), .val (.int p1), .val (.int p2), .val (.int p3), .val (.int p4), .val (.int (Int32.ofNat nz)), .val (.int c0), .val (.int c1), .val (.int c2), .val (.int c3), .val (.ref al), .val (.ref tx), .val (.ref rr), .val (.int (Int32.ofNat js)), .unset, .unset] [])) _
    refine XS.iload X0.here hx rfl (hb hby at_230) rfl ?_
    show Steps p.tables e below (T0.setTop (mkF m 232 #[.val (.int p0), .val (.int p1), .val (.int p2), .val (.int p3), .val (.int p4), .val (.int (Int32.ofNat nz)), .val (.int c0), .val (.int c1), .val (.int c2), .val (.int c3), .val (.ref al), .val (.ref tx), .val (.ref rr), .val (.int (Int32.ofNat js)), .unset, .unset] [(.int (Int32.ofNat nz))])) _
    refine XS.ifYes X0.here hx rfl (pc0 := 232) (pc' := 249) rfl (hb hby at_232) rfl ((if0 _ _).trans (flt hc232).2.2.2) (by decide) (by decide) ?_
    refine XS.iconst X0.here hx rfl (hb hby at_249) ?_
    show Steps p.tables e below (T0.setTop (mkF m 250 #[.val (.int p0), .val (.int p1), .val (.int p2), .val (.int p3), .val (.int p4), .val (.int (Int32.ofNat nz)), .val (.int c0), .val (.int c1), .val (.int c2), .val (.int c3), .val (.ref al), .val (.ref tx), .val (.ref rr), .val (.int (Int32.ofNat js)), .unset, .unset] [(.int (0 : Int32))])) _
    refine XS.istore X0.here hx rfl (hb hby at_250) rfl (l' := #[.val (.int p0), .val (.int p1), .val (.int p2), .val (.int p3), .val (.int p4), .val (.int (Int32.ofNat nz)), .val (.int c0), .val (.int c1), .val (.int c2), .val (.int c3), .val (.ref al), .val (.ref tx), .val (.ref rr), .val (.int (Int32.ofNat js)), .val (.int (0 : Int32)), .unset]) rfl ?_
    show Steps p.tables e below (T0.setTop (mkF m 252 #[.val (.int p0), .val (.int p1), .val (.int p2), .val (.int p3), .val (.int p4), .val (.int (Int32.ofNat nz)), .val (.int c0), .val (.int c1), .val (.int c2), .val (.int c3), .val (.ref al), .val (.ref tx), .val (.ref rr), .val (.int (Int32.ofNat js)), .val (.int (0 : Int32)), .unset] [])) _
    have qn : ¬ 0 < nz := fun z => hc232 ((own_olt (i := 0) (by decide) (by omega)).mpr z)
    rw [show (own_t3 nz (own_ns c0)) = _ from if_neg (fun z => qn z.1)] at kt
    exact kt
def own_t2 (n : Nat) (b1 : Bool) (b0 : Bool) : Nat := if 1 < n ∧ b1 = true then 2 else own_t3 n b0
set_option maxRecDepth 65536 in
set_option maxHeartbeats 40000000 in
theorem la_t2 {p : Program} {l : Launch} {e : Env} {s : State} {m : MethodId} {args : Array Value} {below : List Frame} {meth : Method} {c : Code} {T0 : State} {locs : List Loc} {Z : State} {a0 : Array Value} {h0 : Heap} {n0 : Nat} (p0 p1 p2 p3 p4 : Int32) (nz : Nat) (c0 c1 c2 c3 : Int32) (al tx rr : Addr) {cells slots : Nat} (js : Nat)
    (X0 : Stand p l e room_1 s m args below meth c T0 locs cells slots) (hx : p.tables.exec = Jvm.exec) (hZ : Z.Warmed39 s.vm) (hw : ∀ d ∈ tables_1, d.before a0 Z = true) (hby : c.code = code) (hml : c.maxLocals = 16) (hown : s.vm.findClass "com/example/commitwright/commitwright/http/HeadTrimSpacePinLaw" = some m.cls) (e0 : T0.heap = h0) (Z0 : n0 ≤ h0.size) (N0 : Fr n0 locs) (hz4 : nz ≤ 4) (hcl : cells ≤ room_1.cells) (hsl : slots ≤ room_1.slots) :
    ∃ (T' : State) (locs' : List Loc), Stand p l e room_1 s m args below meth c T' locs' cells slots ∧ Fr n0 locs' ∧ T'.heap = h0 ∧ ∀ target, Steps p.tables e below (T'.setTop (mkF m 252 #[.val (.int p0), .val (.int p1), .val (.int p2), .val (.int p3), .val (.int p4), .val (.int (Int32.ofNat nz)), .val (.int c0), .val (.int c1), .val (.int c2), .val (.int c3), .val (.ref al), .val (.ref tx), .val (.ref rr), .val (.int (Int32.ofNat js)), .val (.int (Int32.ofNat (own_t2 nz (own_ns c1) (own_ns c0)))), .unset] [])) target → Steps p.tables e below (T0.setTop (mkF m 210 #[.val (.int p0), .val (.int p1), .val (.int p2), .val (.int p3), .val (.int p4), .val (.int (Int32.ofNat nz)), .val (.int c0), .val (.int c1), .val (.int c2), .val (.int c3), .val (.ref al), .val (.ref tx), .val (.ref rr), .val (.int (Int32.ofNat js)), .unset, .unset] [])) target := by
  by_cases hc213 : (1 : Int32) < (Int32.ofNat nz)
  · obtain ⟨_, _, ⟨T1, L1, k1, n1⟩, -, X1, ⟨Lc1, hQ1, l1, y1, z1⟩, st1⟩ := Jvm.LawKit.callS X0 hx (y := (⟨"com/example/commitwright/commitwright/http/HeadTrimSpacePinLaw", "sp", "(C)Z"⟩ : MethodName)) hown (mvT hZ (hw _ (List.mem_of_getElem? (i := 121) rfl))) (mvT hZ (hw _ (List.mem_of_getElem? (i := 122) rfl))) (mvT hZ (hw _ (List.mem_of_getElem? (i := 3) rfl))) (mvT hZ (hw _ (List.mem_of_getElem? (i := 123) rfl))) (by decide) (backOf (W := 0) (rm28 l Z a0 hw [] c1 h0 n0 Z0) hZ (hw _ (List.mem_of_getElem? (i := 123) rfl)) (hw _ (List.mem_of_getElem? (i := 3) rfl)) (by decide) (by decide)) (g := (mkF m 218 #[.val (.int p0), .val (.int p1), .val (.int p2), .val (.int p3), .val (.int p4), .val (.int (Int32.ofNat nz)), .val (.int c0), .val (.int c1), .val (.int c2), .val (.int c3), .val (.ref al), .val (.ref tx), .val (.ref rr), .val (.int (Int32.ofNat js)), .unset, .unset] [(.int c1)])) rfl (by rw [hml]; rfl) (argsL := [(.int c1)]) (rest := []) (lenOf pd_28C29Z rfl) rfl (by show 2 * 0 + _ ≤ _; exact Nat.le_of_eq rfl) (hb hby at_218) (fun _ _ => ⟨rfl, e0, hcl, hsl⟩)
    dsimp only [Pt.U, Pt.locs, Pt.cells, Pt.slots] at X1 l1 y1 z1 st1 hQ1
    subst l1 y1 z1
    obtain ⟨rfl, N1q, e1⟩ := hQ1
    have N1 := Fr.app N0 N1q
    by_cases hc221 : (own_sp c1) = (0 : Int32)
    · refine ⟨T1, _, X1, N1, e1, fun target kt => ?_⟩
      show Steps p.tables e below (T0.setTop (mkF m 210 #[.val (.int p0), .val (.int p1), .val (.int p2), .val (.int p3), .val (.int p4), .val (.int (Int32.ofNat nz)), .val (.int c0), .val (.int c1), .val (.int c2), .val (.int c3), .val (.ref al), .val (.ref tx), .val (.ref rr), .val (.int (Int32.ofNat js)), .unset, .unset] [])) _
      refine XS.iload X0.here hx rfl (hb hby at_210) rfl ?_
      refine XS.iconst X0.here hx rfl (hb hby at_212) ?_
      show Steps p.tables e below (T0.setTop (mkF m 213 #[.val (.int p0), .val (.int p1), .val (.int p2), .val (.int p3), .val (.int p4), .val (.int (Int32.ofNat nz)), .val (.int c0), .val (.int c1), .val (.int c2), .val (.int c3), .val (.ref al), .val (.ref tx), .val (.ref rr), .val (.int (Int32.ofNat js)), .unset, .unset] [(.int (1 : Int32)), (.int (Int32.ofNat nz))])) _
      refine XS.icmpNo X0.here hx rfl (hb hby at_213) rfl (tlt hc213).2.2.2 ?_
      refine XS.iload X0.here hx rfl (hb hby at_216) rfl ?_
      show Steps p.tables e below (T0.setTop (mkF m 218 #[.val (.int p0), .val (.int p1), .val (.int p2), .val (.int p3), .val (.int p4), .val (.int (Int32.ofNat nz)), .val (.int c0), .val (.int c1), .val (.int c2), .val (.int c3), .val (.ref al), .val (.ref tx), .val (.ref rr), .val (.int (Int32.ofNat js)), .unset, .unset] [(.int c1)])) _
      refine st1 _ ?_
      show Steps p.tables e below (T1.setTop (mkF m 221 #[.val (.int p0), .val (.int p1), .val (.int p2), .val (.int p3), .val (.int p4), .val (.int (Int32.ofNat nz)), .val (.int c0), .val (.int c1), .val (.int c2), .val (.int c3), .val (.ref al), .val (.ref tx), .val (.ref rr), .val (.int (Int32.ofNat js)), .unset, .unset] [(.int (own_sp c1))])) _
      refine XS.ifNo X1.here hx rfl (hb hby at_221) rfl ((if0 _ _).trans (teq hc221).2) ?_
      refine XS.iconst X1.here hx rfl (hb hby at_224) ?_
      show Steps p.tables e below (T1.setTop (mkF m 225 #[.val (.int p0), .val (.int p1), .val (.int p2), .val (.int p3), .val (.int p4), .val (.int (Int32.ofNat nz)), .val (.int c0), .val (.int c1), .val (.int c2), .val (.int c3), .val (.ref al), .val (.ref tx), .val (.ref rr), .val (.int (Int32.ofNat js)), .unset, .unset] [(.int (2 : Int32))])) _
      refine XS.istore X1.here hx rfl (hb hby at_225) rfl (l' := #[.val (.int p0), .val (.int p1), .val (.int p2), .val (.int p3), .val (.int p4), .val (.int (Int32.ofNat nz)), .val (.int c0), .val (.int c1), .val (.int c2), .val (.int c3), .val (.ref al), .val (.ref tx), .val (.ref rr), .val (.int (Int32.ofNat js)), .val (.int (2 : Int32)), .unset]) rfl ?_
      show Steps p.tables e below (T1.setTop (mkF m 227 #[.val (.int p0), .val (.int p1), .val (.int p2), .val (.int p3), .val (.int p4), .val (.int (Int32.ofNat nz)), .val (.int c0), .val (.int c1), .val (.int c2), .val (.int c3), .val (.ref al), .val (.ref tx), .val (.ref rr), .val (.int (Int32.ofNat js)), .val (.int (2 : Int32)), .unset] [])) _
      refine XS.goto X1.here hx rfl (pc0 := 227) (pc' := 252) rfl (hb hby at_227) (by decide) (by decide) ?_
      show Steps p.tables e below (T1.setTop (mkF m 252 #[.val (.int p0), .val (.int p1), .val (.int p2), .val (.int p3), .val (.int p4), .val (.int (Int32.ofNat nz)), .val (.int c0), .val (.int c1), .val (.int c2), .val (.int c3), .val (.ref al), .val (.ref tx), .val (.ref rr), .val (.int (Int32.ofNat js)), .val (.int (2 : Int32)), .unset] [])) _
      have qn : 1 < nz := (own_olt (i := 1) (by decide) (by omega)).mp hc213
      have qb : own_ns c1 = true := decide_eq_true hc221
      rw [show (own_t2 nz (own_ns c1) (own_ns c0)) = _ from if_pos ⟨qn, qb⟩] at kt
      exact kt
    · obtain ⟨TT, lT, XT, NT, eT, stT⟩ := la_t3 p0 p1 p2 p3 p4 nz c0 c1 c2 c3 al tx rr js X1 hx hZ hw hby hml hown e1 Z0 N1 hz4 hcl hsl
      refine ⟨TT, _, XT, NT, eT, fun target kt => ?_⟩
      show Steps p.tables e below (T0.setTop (mkF m 210 #[.val (.int p0), .val (.int p1), .val (.int p2), .val (.int p3), .val (.int p4), .val (.int (Int32.ofNat nz)), .val (.int c0), .val (.int c1), .val (.int c2), .val (.int c3), .val (.ref al), .val (.ref tx), .val (.ref rr), .val (.int (Int32.ofNat js)), .unset, .unset] [])) _
      refine XS.iload X0.here hx rfl (hb hby at_210) rfl ?_
      refine XS.iconst X0.here hx rfl (hb hby at_212) ?_
      show Steps p.tables e below (T0.setTop (mkF m 213 #[.val (.int p0), .val (.int p1), .val (.int p2), .val (.int p3), .val (.int p4), .val (.int (Int32.ofNat nz)), .val (.int c0), .val (.int c1), .val (.int c2), .val (.int c3), .val (.ref al), .val (.ref tx), .val (.ref rr), .val (.int (Int32.ofNat js)), .unset, .unset] [(.int (1 : Int32)), (.int (Int32.ofNat nz))])) _
      refine XS.icmpNo X0.here hx rfl (hb hby at_213) rfl (tlt hc213).2.2.2 ?_
      refine XS.iload X0.here hx rfl (hb hby at_216) rfl ?_
      show Steps p.tables e below (T0.setTop (mkF m 218 #[.val (.int p0), .val (.int p1), .val (.int p2), .val (.int p3), .val (.int p4), .val (.int (Int32.ofNat nz)), .val (.int c0), .val (.int c1), .val (.int c2), .val (.int c3), .val (.ref al), .val (.ref tx), .val (.ref rr), .val (.int (Int32.ofNat js)), .unset, .unset] [(.int c1)])) _
      refine st1 _ ?_
      show Steps p.tables e below (T1.setTop (mkF m 221 #[.val (.int p0), .val (.int p1), .val (.int p2), .val (.int p3), .val (.int p4), .val (.int (Int32.ofNat nz)), .val (.int c0), .val (.int c1), .val (.int c2), .val (.int c3), .val (.ref al), .val (.ref tx), .val (.ref rr), .val (.int (Int32.ofNat js)), .unset, .unset] [(.int (own_sp c1))])) _
      refine XS.ifYes X1.here hx rfl (pc0 := 221) (pc' := 230) rfl (hb hby at_221) rfl ((if0 _ _).trans (feq hc221).2) (by decide) (by decide) ?_
      show Steps p.tables e below (T1.setTop (mkF m 230 #[.val (.int p0), .val (.int p1), .val (.int p2), .val (.int p3), .val (.int p4), .val (.int (Int32.ofNat nz)), .val (.int c0), .val (.int c1), .val (.int c2), .val (.int c3), .val (.ref al), .val (.ref tx), .val (.ref rr), .val (.int (Int32.ofNat js)), .unset, .unset] [])) _
      refine stT _ ?_
      show Steps p.tables e below (TT.setTop (mkF m 252 #[.val (.int p0), .val (.int p1), .val (.int p2), .val (.int p3), .val (.int p4), .val (.int (Int32.ofNat nz)), .val (.int c0), .val (.int c1), .val (.int c2), .val (.int c3), .val (.ref al), .val (.ref tx), .val (.ref rr), .val (.int (Int32.ofNat js)), .val (.int (Int32.ofNat (own_t3 nz (own_ns c0)))), .unset] [])) _
      have qn : 1 < nz := (own_olt (i := 1) (by decide) (by omega)).mp hc213
      have qb : own_ns c1 = false := decide_eq_false hc221
      rw [show (own_t2 nz (own_ns c1) (own_ns c0)) = _ from if_neg (fun z => by rw [qb] at z; exact absurd z.2 (by decide))] at kt
      exact kt
  · obtain ⟨TT, lT, XT, NT, eT, stT⟩ := la_t3 p0 p1 p2 p3 p4 nz c0 c1 c2 c3 al tx rr js X0 hx hZ hw hby hml hown e0 Z0 N0 hz4 hcl hsl
    refine ⟨TT, _, XT, NT, eT, fun target kt => ?_⟩
    show Steps p.tables e below (T0.setTop (mkF m 210 #[.val (.int p0), .val (.int p1), .val (.int p2), .val (.int p3), .val (.int p4), .val (.int (Int32.ofNat nz)), .val (.int c0), .val (.int c1), .val (.int c2), .val (.int c3), .val (.ref al), .val (.ref tx), .val (.ref rr), .val (.int (Int32.ofNat js)), .unset, .unset] [])) _
    refine XS.iload X0.here hx rfl (hb hby at_210) rfl ?_
    refine XS.iconst X0.here hx rfl (hb hby at_212) ?_
    show Steps p.tables e below (T0.setTop (mkF m 213 #[.val (.int p0), .val (.int p1), .val (.int p2), .val (.int p3), .val (.int p4), .val (.int (Int32.ofNat nz)), .val (.int c0), .val (.int c1), .val (.int c2), .val (.int c3), .val (.ref al), .val (.ref tx), .val (.ref rr), .val (.int (Int32.ofNat js)), .unset, .unset] [(.int (1 : Int32)), (.int (Int32.ofNat nz))])) _
    refine XS.icmpYes X0.here hx rfl (pc0 := 213) (pc' := 230) rfl (hb hby at_213) rfl (flt hc213).2.2.2 (by decide) (by decide) ?_
    show Steps p.tables e below (T0.setTop (mkF m 230 #[.val (.int p0), .val (.int p1), .val (.int p2), .val (.int p3), .val (.int p4), .val (.int (Int32.ofNat nz)), .val (.int c0), .val (.int c1), .val (.int c2), .val (.int c3), .val (.ref al), .val (.ref tx), .val (.ref rr), .val (.int (Int32.ofNat js)), .unset, .unset] [])) _
    refine stT _ ?_
    show Steps p.tables e below (TT.setTop (mkF m 252 #[.val (.int p0), .val (.int p1), .val (.int p2), .val (.int p3), .val (.int p4), .val (.int (Int32.ofNat nz)), .val (.int c0), .val (.int c1), .val (.int c2), .val (.int c3), .val (.ref al), .val (.ref tx), .val (.ref rr), .val (.int (Int32.ofNat js)), .val (.int (Int32.ofNat (own_t3 nz (own_ns c0)))), .unset] [])) _
    have qn : ¬ 1 < nz := fun z => hc213 ((own_olt (i := 1) (by decide) (by omega)).mpr z)
    rw [show (own_t2 nz (own_ns c1) (own_ns c0)) = _ from if_neg (fun z => qn z.1)] at kt
    exact kt
def own_t1 (n : Nat) (b2 : Bool) (b1 : Bool) (b0 : Bool) : Nat := if 2 < n ∧ b2 = true then 3 else own_t2 n b1 b0
set_option maxRecDepth 65536 in
set_option maxHeartbeats 40000000 in
theorem la_t1 {p : Program} {l : Launch} {e : Env} {s : State} {m : MethodId} {args : Array Value} {below : List Frame} {meth : Method} {c : Code} {T0 : State} {locs : List Loc} {Z : State} {a0 : Array Value} {h0 : Heap} {n0 : Nat} (p0 p1 p2 p3 p4 : Int32) (nz : Nat) (c0 c1 c2 c3 : Int32) (al tx rr : Addr) {cells slots : Nat} (js : Nat)
    (X0 : Stand p l e room_1 s m args below meth c T0 locs cells slots) (hx : p.tables.exec = Jvm.exec) (hZ : Z.Warmed39 s.vm) (hw : ∀ d ∈ tables_1, d.before a0 Z = true) (hby : c.code = code) (hml : c.maxLocals = 16) (hown : s.vm.findClass "com/example/commitwright/commitwright/http/HeadTrimSpacePinLaw" = some m.cls) (e0 : T0.heap = h0) (Z0 : n0 ≤ h0.size) (N0 : Fr n0 locs) (hz4 : nz ≤ 4) (hcl : cells ≤ room_1.cells) (hsl : slots ≤ room_1.slots) :
    ∃ (T' : State) (locs' : List Loc), Stand p l e room_1 s m args below meth c T' locs' cells slots ∧ Fr n0 locs' ∧ T'.heap = h0 ∧ ∀ target, Steps p.tables e below (T'.setTop (mkF m 252 #[.val (.int p0), .val (.int p1), .val (.int p2), .val (.int p3), .val (.int p4), .val (.int (Int32.ofNat nz)), .val (.int c0), .val (.int c1), .val (.int c2), .val (.int c3), .val (.ref al), .val (.ref tx), .val (.ref rr), .val (.int (Int32.ofNat js)), .val (.int (Int32.ofNat (own_t1 nz (own_ns c2) (own_ns c1) (own_ns c0)))), .unset] [])) target → Steps p.tables e below (T0.setTop (mkF m 190 #[.val (.int p0), .val (.int p1), .val (.int p2), .val (.int p3), .val (.int p4), .val (.int (Int32.ofNat nz)), .val (.int c0), .val (.int c1), .val (.int c2), .val (.int c3), .val (.ref al), .val (.ref tx), .val (.ref rr), .val (.int (Int32.ofNat js)), .unset, .unset] [])) target := by
  by_cases hc193 : (2 : Int32) < (Int32.ofNat nz)
  · obtain ⟨_, _, ⟨T1, L1, k1, n1⟩, -, X1, ⟨Lc1, hQ1, l1, y1, z1⟩, st1⟩ := Jvm.LawKit.callS X0 hx (y := (⟨"com/example/commitwright/commitwright/http/HeadTrimSpacePinLaw", "sp", "(C)Z"⟩ : MethodName)) hown (mvT hZ (hw _ (List.mem_of_getElem? (i := 121) rfl))) (mvT hZ (hw _ (List.mem_of_getElem? (i := 122) rfl))) (mvT hZ (hw _ (List.mem_of_getElem? (i := 3) rfl))) (mvT hZ (hw _ (List.mem_of_getElem? (i := 123) rfl))) (by decide) (backOf (W := 0) (rm28 l Z a0 hw [] c2 h0 n0 Z0) hZ (hw _ (List.mem_of_getElem? (i := 123) rfl)) (hw _ (List.mem_of_getElem? (i := 3) rfl)) (by decide) (by decide)) (g := (mkF m 198 #[.val (.int p0), .val (.int p1), .val (.int p2), .val (.int p3), .val (.int p4), .val (.int (Int32.ofNat nz)), .val (.int c0), .val (.int c1), .val (.int c2), .val (.int c3), .val (.ref al), .val (.ref tx), .val (.ref rr), .val (.int (Int32.ofNat js)), .unset, .unset] [(.int c2)])) rfl (by rw [hml]; rfl) (argsL := [(.int c2)]) (rest := []) (lenOf pd_28C29Z rfl) rfl (by show 2 * 0 + _ ≤ _; exact Nat.le_of_eq rfl) (hb hby at_198) (fun _ _ => ⟨rfl, e0, hcl, hsl⟩)
    dsimp only [Pt.U, Pt.locs, Pt.cells, Pt.slots] at X1 l1 y1 z1 st1 hQ1
    subst l1 y1 z1
    obtain ⟨rfl, N1q, e1⟩ := hQ1
    have N1 := Fr.app N0 N1q
    by_cases hc201 : (own_sp c2) = (0 : Int32)
    · refine ⟨T1, _, X1, N1, e1, fun target kt => ?_⟩
      show Steps p.tables e below (T0.setTop (mkF m 190 #[.val (.int p0), .val (.int p1), .val (.int p2), .val (.int p3), .val (.int p4), .val (.int (Int32.ofNat nz)), .val (.int c0), .val (.int c1), .val (.int c2), .val (.int c3), .val (.ref al), .val (.ref tx), .val (.ref rr), .val (.int (Int32.ofNat js)), .unset, .unset] [])) _
      refine XS.iload X0.here hx rfl (hb hby at_190) rfl ?_
      refine XS.iconst X0.here hx rfl (hb hby at_192) ?_
      show Steps p.tables e below (T0.setTop (mkF m 193 #[.val (.int p0), .val (.int p1), .val (.int p2), .val (.int p3), .val (.int p4), .val (.int (Int32.ofNat nz)), .val (.int c0), .val (.int c1), .val (.int c2), .val (.int c3), .val (.ref al), .val (.ref tx), .val (.ref rr), .val (.int (Int32.ofNat js)), .unset, .unset] [(.int (2 : Int32)), (.int (Int32.ofNat nz))])) _
      refine XS.icmpNo X0.here hx rfl (hb hby at_193) rfl (tlt hc193).2.2.2 ?_
      refine XS.iload X0.here hx rfl (hb hby at_196) rfl ?_
      show Steps p.tables e below (T0.setTop (mkF m 198 #[.val (.int p0), .val (.int p1), .val (.int p2), .val (.int p3), .val (.int p4), .val (.int (Int32.ofNat nz)), .val (.int c0), .val (.int c1), .val (.int c2), .val (.int c3), .val (.ref al), .val (.ref tx), .val (.ref rr), .val (.int (Int32.ofNat js)), .unset, .unset] [(.int c2)])) _
      refine st1 _ ?_
      show Steps p.tables e below (T1.setTop (mkF m 201 #[.val (.int p0), .val (.int p1), .val (.int p2), .val (.int p3), .val (.int p4), .val (.int (Int32.ofNat nz)), .val (.int c0), .val (.int c1), .val (.int c2), .val (.int c3), .val (.ref al), .val (.ref tx), .val (.ref rr), .val (.int (Int32.ofNat js)), .unset, .unset] [(.int (own_sp c2))])) _
      refine XS.ifNo X1.here hx rfl (hb hby at_201) rfl ((if0 _ _).trans (teq hc201).2) ?_
      refine XS.iconst X1.here hx rfl (hb hby at_204) ?_
      show Steps p.tables e below (T1.setTop (mkF m 205 #[.val (.int p0), .val (.int p1), .val (.int p2), .val (.int p3), .val (.int p4), .val (.int (Int32.ofNat nz)), .val (.int c0), .val (.int c1), .val (.int c2), .val (.int c3), .val (.ref al), .val (.ref tx), .val (.ref rr), .val (.int (Int32.ofNat js)), .unset, .unset] [(.int (3 : Int32))])) _
      refine XS.istore X1.here hx rfl (hb hby at_205) rfl (l' := #[.val (.int p0), .val (.int p1), .val (.int p2), .val (.int p3), .val (.int p4), .val (.int (Int32.ofNat nz)), .val (.int c0), .val (.int c1), .val (.int c2), .val (.int c3), .val (.ref al), .val (.ref tx), .val (.ref rr), .val (.int (Int32.ofNat js)), .val (.int (3 : Int32)), .unset]) rfl ?_
      show Steps p.tables e below (T1.setTop (mkF m 207 #[.val (.int p0), .val (.int p1), .val (.int p2), .val (.int p3), .val (.int p4), .val (.int (Int32.ofNat nz)), .val (.int c0), .val (.int c1), .val (.int c2), .val (.int c3), .val (.ref al), .val (.ref tx), .val (.ref rr), .val (.int (Int32.ofNat js)), .val (.int (3 : Int32)), .unset] [])) _
      refine XS.goto X1.here hx rfl (pc0 := 207) (pc' := 252) rfl (hb hby at_207) (by decide) (by decide) ?_
      show Steps p.tables e below (T1.setTop (mkF m 252 #[.val (.int p0), .val (.int p1), .val (.int p2), .val (.int p3), .val (.int p4), .val (.int (Int32.ofNat nz)), .val (.int c0), .val (.int c1), .val (.int c2), .val (.int c3), .val (.ref al), .val (.ref tx), .val (.ref rr), .val (.int (Int32.ofNat js)), .val (.int (3 : Int32)), .unset] [])) _
      have qn : 2 < nz := (own_olt (i := 2) (by decide) (by omega)).mp hc193
      have qb : own_ns c2 = true := decide_eq_true hc201
      rw [show (own_t1 nz (own_ns c2) (own_ns c1) (own_ns c0)) = _ from if_pos ⟨qn, qb⟩] at kt
      exact kt
    · obtain ⟨TT, lT, XT, NT, eT, stT⟩ := la_t2 p0 p1 p2 p3 p4 nz c0 c1 c2 c3 al tx rr js X1 hx hZ hw hby hml hown e1 Z0 N1 hz4 hcl hsl
      refine ⟨TT, _, XT, NT, eT, fun target kt => ?_⟩
      show Steps p.tables e below (T0.setTop (mkF m 190 #[.val (.int p0), .val (.int p1), .val (.int p2), .val (.int p3), .val (.int p4), .val (.int (Int32.ofNat nz)), .val (.int c0), .val (.int c1), .val (.int c2), .val (.int c3), .val (.ref al), .val (.ref tx), .val (.ref rr), .val (.int (Int32.ofNat js)), .unset, .unset] [])) _
      refine XS.iload X0.here hx rfl (hb hby at_190) rfl ?_
      refine XS.iconst X0.here hx rfl (hb hby at_192) ?_
      show Steps p.tables e below (T0.setTop (mkF m 193 #[.val (.int p0), .val (.int p1), .val (.int p2), .val (.int p3), .val (.int p4), .val (.int (Int32.ofNat nz)), .val (.int c0), .val (.int c1), .val (.int c2), .val (.int c3), .val (.ref al), .val (.ref tx), .val (.ref rr), .val (.int (Int32.ofNat js)), .unset, .unset] [(.int (2 : Int32)), (.int (Int32.ofNat nz))])) _
      refine XS.icmpNo X0.here hx rfl (hb hby at_193) rfl (tlt hc193).2.2.2 ?_
      refine XS.iload X0.here hx rfl (hb hby at_196) rfl ?_
      show Steps p.tables e below (T0.setTop (mkF m 198 #[.val (.int p0), .val (.int p1), .val (.int p2), .val (.int p3), .val (.int p4), .val (.int (Int32.ofNat nz)), .val (.int c0), .val (.int c1), .val (.int c2), .val (.int c3), .val (.ref al), .val (.ref tx), .val (.ref rr), .val (.int (Int32.ofNat js)), .unset, .unset] [(.int c2)])) _
      refine st1 _ ?_
      show Steps p.tables e below (T1.setTop (mkF m 201 #[.val (.int p0), .val (.int p1), .val (.int p2), .val (.int p3), .val (.int p4), .val (.int (Int32.ofNat nz)), .val (.int c0), .val (.int c1), .val (.int c2), .val (.int c3), .val (.ref al), .val (.ref tx), .val (.ref rr), .val (.int (Int32.ofNat js)), .unset, .unset] [(.int (own_sp c2))])) _
      refine XS.ifYes X1.here hx rfl (pc0 := 201) (pc' := 210) rfl (hb hby at_201) rfl ((if0 _ _).trans (feq hc201).2) (by decide) (by decide) ?_
      show Steps p.tables e below (T1.setTop (mkF m 210 #[.val (.int p0), .val (.int p1), .val (.int p2), .val (.int p3), .val (.int p4), .val (.int (Int32.ofNat nz)), .val (.int c0), .val (.int c1), .val (.int c2), .val (.int c3), .val (.ref al), .val (.ref tx), .val (.ref rr), .val (.int (Int32.ofNat js)), .unset, .unset] [])) _
      refine stT _ ?_
      show Steps p.tables e below (TT.setTop (mkF m 252 #[.val (.int p0), .val (.int p1), .val (.int p2), .val (.int p3), .val (.int p4), .val (.int (Int32.ofNat nz)), .val (.int c0), .val (.int c1), .val (.int c2), .val (.int c3), .val (.ref al), .val (.ref tx), .val (.ref rr), .val (.int (Int32.ofNat js)), .val (.int (Int32.ofNat (own_t2 nz (own_ns c1) (own_ns c0)))), .unset] [])) _
      have qn : 2 < nz := (own_olt (i := 2) (by decide) (by omega)).mp hc193
      have qb : own_ns c2 = false := decide_eq_false hc201
      rw [show (own_t1 nz (own_ns c2) (own_ns c1) (own_ns c0)) = _ from if_neg (fun z => by rw [qb] at z; exact absurd z.2 (by decide))] at kt
      exact kt
  · obtain ⟨TT, lT, XT, NT, eT, stT⟩ := la_t2 p0 p1 p2 p3 p4 nz c0 c1 c2 c3 al tx rr js X0 hx hZ hw hby hml hown e0 Z0 N0 hz4 hcl hsl
    refine ⟨TT, _, XT, NT, eT, fun target kt => ?_⟩
    show Steps p.tables e below (T0.setTop (mkF m 190 #[.val (.int p0), .val (.int p1), .val (.int p2), .val (.int p3), .val (.int p4), .val (.int (Int32.ofNat nz)), .val (.int c0), .val (.int c1), .val (.int c2), .val (.int c3), .val (.ref al), .val (.ref tx), .val (.ref rr), .val (.int (Int32.ofNat js)), .unset, .unset] [])) _
    refine XS.iload X0.here hx rfl (hb hby at_190) rfl ?_
    refine XS.iconst X0.here hx rfl (hb hby at_192) ?_
    show Steps p.tables e below (T0.setTop (mkF m 193 #[.val (.int p0), .val (.int p1), .val (.int p2), .val (.int p3), .val (.int p4), .val (.int (Int32.ofNat nz)), .val (.int c0), .val (.int c1), .val (.int c2), .val (.int c3), .val (.ref al), .val (.ref tx), .val (.ref rr), .val (.int (Int32.ofNat js)), .unset, .unset] [(.int (2 : Int32)), (.int (Int32.ofNat nz))])) _
    refine XS.icmpYes X0.here hx rfl (pc0 := 193) (pc' := 210) rfl (hb hby at_193) rfl (flt hc193).2.2.2 (by decide) (by decide) ?_
    show Steps p.tables e below (T0.setTop (mkF m 210 #[.val (.int p0), .val (.int p1), .val (.int p2), .val (.int p3), .val (.int p4), .val (.int (Int32.ofNat nz)), .val (.int c0), .val (.int c1), .val (.int c2), .val (.int c3), .val (.ref al), .val (.ref tx), .val (.ref rr), .val (.int (Int32.ofNat js)), .unset, .unset] [])) _
    refine stT _ ?_
    show Steps p.tables e below (TT.setTop (mkF m 252 #[.val (.int p0), .val (.int p1), .val (.int p2), .val (.int p3), .val (.int p4), .val (.int (Int32.ofNat nz)), .val (.int c0), .val (.int c1), .val (.int c2), .val (.int c3), .val (.ref al), .val (.ref tx), .val (.ref rr), .val (.int (Int32.ofNat js)), .val (.int (Int32.ofNat (own_t2 nz (own_ns c1) (own_ns c0)))), .unset] [])) _
    have qn : ¬ 2 < nz := fun z => hc193 ((own_olt (i := 2) (by decide) (by omega)).mpr z)
    rw [show (own_t1 nz (own_ns c2) (own_ns c1) (own_ns c0)) = _ from if_neg (fun z => qn z.1)] at kt
    exact kt
def own_t0 (n : Nat) (b3 : Bool) (b2 : Bool) (b1 : Bool) (b0 : Bool) : Nat := if 3 < n ∧ b3 = true then 4 else own_t1 n b2 b1 b0
set_option maxRecDepth 65536 in
set_option maxHeartbeats 40000000 in
theorem la_t0 {p : Program} {l : Launch} {e : Env} {s : State} {m : MethodId} {args : Array Value} {below : List Frame} {meth : Method} {c : Code} {T0 : State} {locs : List Loc} {Z : State} {a0 : Array Value} {h0 : Heap} {n0 : Nat} (p0 p1 p2 p3 p4 : Int32) (nz : Nat) (c0 c1 c2 c3 : Int32) (al tx rr : Addr) {cells slots : Nat} (js : Nat)
    (X0 : Stand p l e room_1 s m args below meth c T0 locs cells slots) (hx : p.tables.exec = Jvm.exec) (hZ : Z.Warmed39 s.vm) (hw : ∀ d ∈ tables_1, d.before a0 Z = true) (hby : c.code = code) (hml : c.maxLocals = 16) (hown : s.vm.findClass "com/example/commitwright/commitwright/http/HeadTrimSpacePinLaw" = some m.cls) (e0 : T0.heap = h0) (Z0 : n0 ≤ h0.size) (N0 : Fr n0 locs) (hz4 : nz ≤ 4) (hcl : cells ≤ room_1.cells) (hsl : slots ≤ room_1.slots) :
    ∃ (T' : State) (locs' : List Loc), Stand p l e room_1 s m args below meth c T' locs' cells slots ∧ Fr n0 locs' ∧ T'.heap = h0 ∧ ∀ target, Steps p.tables e below (T'.setTop (mkF m 252 #[.val (.int p0), .val (.int p1), .val (.int p2), .val (.int p3), .val (.int p4), .val (.int (Int32.ofNat nz)), .val (.int c0), .val (.int c1), .val (.int c2), .val (.int c3), .val (.ref al), .val (.ref tx), .val (.ref rr), .val (.int (Int32.ofNat js)), .val (.int (Int32.ofNat (own_t0 nz (own_ns c3) (own_ns c2) (own_ns c1) (own_ns c0)))), .unset] [])) target → Steps p.tables e below (T0.setTop (mkF m 170 #[.val (.int p0), .val (.int p1), .val (.int p2), .val (.int p3), .val (.int p4), .val (.int (Int32.ofNat nz)), .val (.int c0), .val (.int c1), .val (.int c2), .val (.int c3), .val (.ref al), .val (.ref tx), .val (.ref rr), .val (.int (Int32.ofNat js)), .unset, .unset] [])) target := by
  by_cases hc173 : (3 : Int32) < (Int32.ofNat nz)
  · obtain ⟨_, _, ⟨T1, L1, k1, n1⟩, -, X1, ⟨Lc1, hQ1, l1, y1, z1⟩, st1⟩ := Jvm.LawKit.callS X0 hx (y := (⟨"com/example/commitwright/commitwright/http/HeadTrimSpacePinLaw", "sp", "(C)Z"⟩ : MethodName)) hown (mvT hZ (hw _ (List.mem_of_getElem? (i := 121) rfl))) (mvT hZ (hw _ (List.mem_of_getElem? (i := 122) rfl))) (mvT hZ (hw _ (List.mem_of_getElem? (i := 3) rfl))) (mvT hZ (hw _ (List.mem_of_getElem? (i := 123) rfl))) (by decide) (backOf (W := 0) (rm28 l Z a0 hw [] c3 h0 n0 Z0) hZ (hw _ (List.mem_of_getElem? (i := 123) rfl)) (hw _ (List.mem_of_getElem? (i := 3) rfl)) (by decide) (by decide)) (g := (mkF m 178 #[.val (.int p0), .val (.int p1), .val (.int p2), .val (.int p3), .val (.int p4), .val (.int (Int32.ofNat nz)), .val (.int c0), .val (.int c1), .val (.int c2), .val (.int c3), .val (.ref al), .val (.ref tx), .val (.ref rr), .val (.int (Int32.ofNat js)), .unset, .unset] [(.int c3)])) rfl (by rw [hml]; rfl) (argsL := [(.int c3)]) (rest := []) (lenOf pd_28C29Z rfl) rfl (by show 2 * 0 + _ ≤ _; exact Nat.le_of_eq rfl) (hb hby at_178) (fun _ _ => ⟨rfl, e0, hcl, hsl⟩)
    dsimp only [Pt.U, Pt.locs, Pt.cells, Pt.slots] at X1 l1 y1 z1 st1 hQ1
    subst l1 y1 z1
    obtain ⟨rfl, N1q, e1⟩ := hQ1
    have N1 := Fr.app N0 N1q
    by_cases hc181 : (own_sp c3) = (0 : Int32)
    · refine ⟨T1, _, X1, N1, e1, fun target kt => ?_⟩
      show Steps p.tables e below (T0.setTop (mkF m 170 #[.val (.int p0), .val (.int p1), .val (.int p2), .val (.int p3), .val (.int p4), .val (.int (Int32.ofNat nz)), .val (.int c0), .val (.int c1), .val (.int c2), .val (.int c3), .val (.ref al), .val (.ref tx), .val (.ref rr), .val (.int (Int32.ofNat js)), .unset, .unset] [])) _
      refine XS.iload X0.here hx rfl (hb hby at_170) rfl ?_
      refine XS.iconst X0.here hx rfl (hb hby at_172) ?_
      show Steps p.tables e below (T0.setTop (mkF m 173 #[.val (.int p0), .val (.int p1), .val (.int p2), .val (.int p3), .val (.int p4), .val (.int (Int32.ofNat nz)), .val (.int c0), .val (.int c1), .val (.int c2), .val (.int c3), .val (.ref al), .val (.ref tx), .val (.ref rr), .val (.int (Int32.ofNat js)), .unset, .unset] [(.int (3 : Int32)), (.int (Int32.ofNat nz))])) _
      refine XS.icmpNo X0.here hx rfl (hb hby at_173) rfl (tlt hc173).2.2.2 ?_
      refine XS.iload X0.here hx rfl (hb hby at_176) rfl ?_
      show Steps p.tables e below (T0.setTop (mkF m 178 #[.val (.int p0), .val (.int p1), .val (.int p2), .val (.int p3), .val (.int p4), .val (.int (Int32.ofNat nz)), .val (.int c0), .val (.int c1), .val (.int c2), .val (.int c3), .val (.ref al), .val (.ref tx), .val (.ref rr), .val (.int (Int32.ofNat js)), .unset, .unset] [(.int c3)])) _
      refine st1 _ ?_
      show Steps p.tables e below (T1.setTop (mkF m 181 #[.val (.int p0), .val (.int p1), .val (.int p2), .val (.int p3), .val (.int p4), .val (.int (Int32.ofNat nz)), .val (.int c0), .val (.int c1), .val (.int c2), .val (.int c3), .val (.ref al), .val (.ref tx), .val (.ref rr), .val (.int (Int32.ofNat js)), .unset, .unset] [(.int (own_sp c3))])) _
      refine XS.ifNo X1.here hx rfl (hb hby at_181) rfl ((if0 _ _).trans (teq hc181).2) ?_
      refine XS.iconst X1.here hx rfl (hb hby at_184) ?_
      show Steps p.tables e below (T1.setTop (mkF m 185 #[.val (.int p0), .val (.int p1), .val (.int p2), .val (.int p3), .val (.int p4), .val (.int (Int32.ofNat nz)), .val (.int c0), .val (.int c1), .val (.int c2), .val (.int c3), .val (.ref al), .val (.ref tx), .val (.ref rr), .val (.int (Int32.ofNat js)), .unset, .unset] [(.int (4 : Int32))])) _
      refine XS.istore X1.here hx rfl (hb hby at_185) rfl (l' := #[.val (.int p0), .val (.int p1), .val (.int p2), .val (.int p3), .val (.int p4), .val (.int (Int32.ofNat nz)), .val (.int c0), .val (.int c1), .val (.int c2), .val (.int c3), .val (.ref al), .val (.ref tx), .val (.ref rr), .val (.int (Int32.ofNat js)), .val (.int (4 : Int32)), .unset]) rfl ?_
      show Steps p.tables e below (T1.setTop (mkF m 187 #[.val (.int p0), .val (.int p1), .val (.int p2), .val (.int p3), .val (.int p4), .val (.int (Int32.ofNat nz)), .val (.int c0), .val (.int c1), .val (.int c2), .val (.int c3), .val (.ref al), .val (.ref tx), .val (.ref rr), .val (.int (Int32.ofNat js)), .val (.int (4 : Int32)), .unset] [])) _
      refine XS.goto X1.here hx rfl (pc0 := 187) (pc' := 252) rfl (hb hby at_187) (by decide) (by decide) ?_
      show Steps p.tables e below (T1.setTop (mkF m 252 #[.val (.int p0), .val (.int p1), .val (.int p2), .val (.int p3), .val (.int p4), .val (.int (Int32.ofNat nz)), .val (.int c0), .val (.int c1), .val (.int c2), .val (.int c3), .val (.ref al), .val (.ref tx), .val (.ref rr), .val (.int (Int32.ofNat js)), .val (.int (4 : Int32)), .unset] [])) _
      have qn : 3 < nz := (own_olt (i := 3) (by decide) (by omega)).mp hc173
      have qb : own_ns c3 = true := decide_eq_true hc181
      rw [show (own_t0 nz (own_ns c3) (own_ns c2) (own_ns c1) (own_ns c0)) = _ from if_pos ⟨qn, qb⟩] at kt
      exact kt
    · obtain ⟨TT, lT, XT, NT, eT, stT⟩ := la_t1 p0 p1 p2 p3 p4 nz c0 c1 c2 c3 al tx rr js X1 hx hZ hw hby hml hown e1 Z0 N1 hz4 hcl hsl
      refine ⟨TT, _, XT, NT, eT, fun target kt => ?_⟩
      show Steps p.tables e below (T0.setTop (mkF m 170 #[.val (.int p0), .val (.int p1), .val (.int p2), .val (.int p3), .val (.int p4), .val (.int (Int32.ofNat nz)), .val (.int c0), .val (.int c1), .val (.int c2), .val (.int c3), .val (.ref al), .val (.ref tx), .val (.ref rr), .val (.int (Int32.ofNat js)), .unset, .unset] [])) _
      refine XS.iload X0.here hx rfl (hb hby at_170) rfl ?_
      refine XS.iconst X0.here hx rfl (hb hby at_172) ?_
      show Steps p.tables e below (T0.setTop (mkF m 173 #[.val (.int p0), .val (.int p1), .val (.int p2), .val (.int p3), .val (.int p4), .val (.int (Int32.ofNat nz)), .val (.int c0), .val (.int c1), .val (.int c2), .val (.int c3), .val (.ref al), .val (.ref tx), .val (.ref rr), .val (.int (Int32.ofNat js)), .unset, .unset] [(.int (3 : Int32)), (.int (Int32.ofNat nz))])) _
      refine XS.icmpNo X0.here hx rfl (hb hby at_173) rfl (tlt hc173).2.2.2 ?_
      refine XS.iload X0.here hx rfl (hb hby at_176) rfl ?_
      show Steps p.tables e below (T0.setTop (mkF m 178 #[.val (.int p0), .val (.int p1), .val (.int p2), .val (.int p3), .val (.int p4), .val (.int (Int32.ofNat nz)), .val (.int c0), .val (.int c1), .val (.int c2), .val (.int c3), .val (.ref al), .val (.ref tx), .val (.ref rr), .val (.int (Int32.ofNat js)), .unset, .unset] [(.int c3)])) _
      refine st1 _ ?_
      show Steps p.tables e below (T1.setTop (mkF m 181 #[.val (.int p0), .val (.int p1), .val (.int p2), .val (.int p3), .val (.int p4), .val (.int (Int32.ofNat nz)), .val (.int c0), .val (.int c1), .val (.int c2), .val (.int c3), .val (.ref al), .val (.ref tx), .val (.ref rr), .val (.int (Int32.ofNat js)), .unset, .unset] [(.int (own_sp c3))])) _
      refine XS.ifYes X1.here hx rfl (pc0 := 181) (pc' := 190) rfl (hb hby at_181) rfl ((if0 _ _).trans (feq hc181).2) (by decide) (by decide) ?_
      show Steps p.tables e below (T1.setTop (mkF m 190 #[.val (.int p0), .val (.int p1), .val (.int p2), .val (.int p3), .val (.int p4), .val (.int (Int32.ofNat nz)), .val (.int c0), .val (.int c1), .val (.int c2), .val (.int c3), .val (.ref al), .val (.ref tx), .val (.ref rr), .val (.int (Int32.ofNat js)), .unset, .unset] [])) _
      refine stT _ ?_
      show Steps p.tables e below (TT.setTop (mkF m 252 #[.val (.int p0), .val (.int p1), .val (.int p2), .val (.int p3), .val (.int p4), .val (.int (Int32.ofNat nz)), .val (.int c0), .val (.int c1), .val (.int c2), .val (.int c3), .val (.ref al), .val (.ref tx), .val (.ref rr), .val (.int (Int32.ofNat js)), .val (.int (Int32.ofNat (own_t1 nz (own_ns c2) (own_ns c1) (own_ns c0)))), .unset] [])) _
      have qn : 3 < nz := (own_olt (i := 3) (by decide) (by omega)).mp hc173
      have qb : own_ns c3 = false := decide_eq_false hc181
      rw [show (own_t0 nz (own_ns c3) (own_ns c2) (own_ns c1) (own_ns c0)) = _ from if_neg (fun z => by rw [qb] at z; exact absurd z.2 (by decide))] at kt
      exact kt
  · obtain ⟨TT, lT, XT, NT, eT, stT⟩ := la_t1 p0 p1 p2 p3 p4 nz c0 c1 c2 c3 al tx rr js X0 hx hZ hw hby hml hown e0 Z0 N0 hz4 hcl hsl
    refine ⟨TT, _, XT, NT, eT, fun target kt => ?_⟩
    show Steps p.tables e below (T0.setTop (mkF m 170 #[.val (.int p0), .val (.int p1), .val (.int p2), .val (.int p3), .val (.int p4), .val (.int (Int32.ofNat nz)), .val (.int c0), .val (.int c1), .val (.int c2), .val (.int c3), .val (.ref al), .val (.ref tx), .val (.ref rr), .val (.int (Int32.ofNat js)), .unset, .unset] [])) _
    refine XS.iload X0.here hx rfl (hb hby at_170) rfl ?_
    refine XS.iconst X0.here hx rfl (hb hby at_172) ?_
    show Steps p.tables e below (T0.setTop (mkF m 173 #[.val (.int p0), .val (.int p1), .val (.int p2), .val (.int p3), .val (.int p4), .val (.int (Int32.ofNat nz)), .val (.int c0), .val (.int c1), .val (.int c2), .val (.int c3), .val (.ref al), .val (.ref tx), .val (.ref rr), .val (.int (Int32.ofNat js)), .unset, .unset] [(.int (3 : Int32)), (.int (Int32.ofNat nz))])) _
    refine XS.icmpYes X0.here hx rfl (pc0 := 173) (pc' := 190) rfl (hb hby at_173) rfl (flt hc173).2.2.2 (by decide) (by decide) ?_
    show Steps p.tables e below (T0.setTop (mkF m 190 #[.val (.int p0), .val (.int p1), .val (.int p2), .val (.int p3), .val (.int p4), .val (.int (Int32.ofNat nz)), .val (.int c0), .val (.int c1), .val (.int c2), .val (.int c3), .val (.ref al), .val (.ref tx), .val (.ref rr), .val (.int (Int32.ofNat js)), .unset, .unset] [])) _
    refine stT _ ?_
    show Steps p.tables e below (TT.setTop (mkF m 252 #[.val (.int p0), .val (.int p1), .val (.int p2), .val (.int p3), .val (.int p4), .val (.int (Int32.ofNat nz)), .val (.int c0), .val (.int c1), .val (.int c2), .val (.int c3), .val (.ref al), .val (.ref tx), .val (.ref rr), .val (.int (Int32.ofNat js)), .val (.int (Int32.ofNat (own_t1 nz (own_ns c2) (own_ns c1) (own_ns c0)))), .unset] [])) _
    have qn : ¬ 3 < nz := fun z => hc173 ((own_olt (i := 3) (by decide) (by omega)).mpr z)
    rw [show (own_t0 nz (own_ns c3) (own_ns c2) (own_ns c1) (own_ns c0)) = _ from if_neg (fun z => qn z.1)] at kt
    exact kt
set_option maxRecDepth 65536 in
set_option maxHeartbeats 40000000 in
theorem la_mx {p : Program} {l : Launch} {e : Env} {s : State} {m : MethodId} {args : Array Value} {below : List Frame} {meth : Method} {c : Code} {T0 : State} {locs : List Loc} {Z : State} {a0 : Array Value} {h0 : Heap} {n0 : Nat} (p0 p1 p2 p3 p4 : Int32) (nz : Nat) (c0 c1 c2 c3 : Int32) (al tx rr : Addr) {cells slots : Nat} (js je k : Nat)
    (X0 : Stand p l e room_1 s m args below meth c T0 locs cells slots) (hx : p.tables.exec = Jvm.exec) (hZ : Z.Warmed39 s.vm) (hw : ∀ d ∈ tables_1, d.before a0 Z = true) (hby : c.code = code) (hml : c.maxLocals = 16) (hown : s.vm.findClass "com/example/commitwright/commitwright/http/HeadTrimSpacePinLaw" = some m.cls) (e0 : T0.heap = h0) (Z0 : n0 ≤ h0.size) (N0 : Fr n0 locs) (hz4 : nz ≤ 4) (hcl : cells ≤ room_1.cells) (hsl : slots ≤ room_1.slots) (hL : own_mx (0 : Int32) ((Int32.ofNat je) - (Int32.ofNat js)) = (Int32.ofNat k)) :
    ∃ (T' : State) (locs' : List Loc), Stand p l e room_1 s m args below meth c T' locs' cells slots ∧ Fr n0 locs' ∧ T'.heap = h0 ∧ ∀ target, Steps p.tables e below (T'.setTop (mkF m 263 #[.val (.int p0), .val (.int p1), .val (.int p2), .val (.int p3), .val (.int p4), .val (.int (Int32.ofNat nz)), .val (.int c0), .val (.int c1), .val (.int c2), .val (.int c3), .val (.ref al), .val (.ref tx), .val (.ref rr), .val (.int (Int32.ofNat js)), .val (.int (Int32.ofNat je)), .val (.int (Int32.ofNat k))] [])) target → Steps p.tables e below (T0.setTop (mkF m 252 #[.val (.int p0), .val (.int p1), .val (.int p2), .val (.int p3), .val (.int p4), .val (.int (Int32.ofNat nz)), .val (.int c0), .val (.int c1), .val (.int c2), .val (.int c3), .val (.ref al), .val (.ref tx), .val (.ref rr), .val (.int (Int32.ofNat js)), .val (.int (Int32.ofNat je)), .unset] [])) target := by
  obtain ⟨_, _, ⟨T1, L1, k1, n1⟩, -, X1, ⟨Lc1, hQ1, l1, y1, z1⟩, st1⟩ := Jvm.LawKit.callS X0 hx (y := (⟨"java/lang/Math", "max", "(II)I"⟩ : MethodName)) hown (mvT hZ (hw _ (List.mem_of_getElem? (i := 59) rfl))) (mvT hZ (hw _ (List.mem_of_getElem? (i := 60) rfl))) (mvT hZ (hw _ (List.mem_of_getElem? (i := 61) rfl))) (mvT hZ (hw _ (List.mem_of_getElem? (i := 62) rfl))) (by decide) (backOf (W := 0) (rm12 l Z a0 hw [] (0 : Int32) ((Int32.ofNat je) - (Int32.ofNat js)) h0 n0 Z0) hZ (hw _ (List.mem_of_getElem? (i := 62) rfl)) (hw _ (List.mem_of_getElem? (i := 61) rfl)) (by decide) (by decide)) (g := (mkF m 258 #[.val (.int p0), .val (.int p1), .val (.int p2), .val (.int p3), .val (.int p4), .val (.int (Int32.ofNat nz)), .val (.int c0), .val (.int c1), .val (.int c2), .val (.int c3), .val (.ref al), .val (.ref tx), .val (.ref rr), .val (.int (Int32.ofNat js)), .val (.int (Int32.ofNat je)), .unset] [(.int ((Int32.ofNat je) - (Int32.ofNat js))), (.int (0 : Int32))])) rfl (by rw [hml]; rfl) (argsL := [(.int (0 : Int32)), (.int ((Int32.ofNat je) - (Int32.ofNat js)))]) (rest := []) (lenOf pd_28II29I rfl) rfl (by show 2 * 0 + _ ≤ _; exact Nat.le_of_eq rfl) (hb hby at_258) (fun _ _ => ⟨rfl, e0, hcl, hsl⟩)
  dsimp only [Pt.U, Pt.locs, Pt.cells, Pt.slots] at X1 l1 y1 z1 st1 hQ1
  subst l1 y1 z1
  obtain ⟨rfl, N1q, e1⟩ := hQ1
  have N1 := Fr.app N0 N1q
  refine ⟨T1, _, X1, N1, e1, fun target kt => ?_⟩
  show Steps p.tables e below (T0.setTop (mkF m 252 #[.val (.int p0), .val (.int p1), .val (.int p2), .val (.int p3), .val (.int p4), .val (.int (Int32.ofNat nz)), .val (.int c0), .val (.int c1), .val (.int c2), .val (.int c3), .val (.ref al), .val (.ref tx), .val (.ref rr), .val (.int (Int32.ofNat js)), .val (.int (Int32.ofNat je)), .unset] [])) _
  refine XS.iconst X0.here hx rfl (hb hby at_252) ?_
  refine XS.iload X0.here hx rfl (hb hby at_253) rfl ?_
  refine XS.iload X0.here hx rfl (hb hby at_255) rfl ?_
  refine XS.isub X0.here hx rfl (hb hby at_257) rfl ?_
  show Steps p.tables e below (T0.setTop (mkF m 258 #[.val (.int p0), .val (.int p1), .val (.int p2), .val (.int p3), .val (.int p4), .val (.int (Int32.ofNat nz)), .val (.int c0), .val (.int c1), .val (.int c2), .val (.int c3), .val (.ref al), .val (.ref tx), .val (.ref rr), .val (.int (Int32.ofNat js)), .val (.int (Int32.ofNat je)), .unset] [(.int ((Int32.ofNat je) - (Int32.ofNat js))), (.int (0 : Int32))])) _
  refine st1 _ ?_
  show Steps p.tables e below (T1.setTop (mkF m 261 #[.val (.int p0), .val (.int p1), .val (.int p2), .val (.int p3), .val (.int p4), .val (.int (Int32.ofNat nz)), .val (.int c0), .val (.int c1), .val (.int c2), .val (.int c3), .val (.ref al), .val (.ref tx), .val (.ref rr), .val (.int (Int32.ofNat js)), .val (.int (Int32.ofNat je)), .unset] [(.int (own_mx (0 : Int32) ((Int32.ofNat je) - (Int32.ofNat js))))])) _
  rw [hL]
  show Steps p.tables e below (T1.setTop (mkF m 261 #[.val (.int p0), .val (.int p1), .val (.int p2), .val (.int p3), .val (.int p4), .val (.int (Int32.ofNat nz)), .val (.int c0), .val (.int c1), .val (.int c2), .val (.int c3), .val (.ref al), .val (.ref tx), .val (.ref rr), .val (.int (Int32.ofNat js)), .val (.int (Int32.ofNat je)), .unset] [(.int (Int32.ofNat k))])) _
  refine XS.istore X1.here hx rfl (hb hby at_261) rfl (l' := #[.val (.int p0), .val (.int p1), .val (.int p2), .val (.int p3), .val (.int p4), .val (.int (Int32.ofNat nz)), .val (.int c0), .val (.int c1), .val (.int c2), .val (.int c3), .val (.ref al), .val (.ref tx), .val (.ref rr), .val (.int (Int32.ofNat js)), .val (.int (Int32.ofNat je)), .val (.int (Int32.ofNat k))]) rfl ?_
  show Steps p.tables e below (T1.setTop (mkF m 263 #[.val (.int p0), .val (.int p1), .val (.int p2), .val (.int p3), .val (.int p4), .val (.int (Int32.ofNat nz)), .val (.int c0), .val (.int c1), .val (.int c2), .val (.int c3), .val (.ref al), .val (.ref tx), .val (.ref rr), .val (.int (Int32.ofNat js)), .val (.int (Int32.ofNat je)), .val (.int (Int32.ofNat k))] [])) _
  exact kt
set_option maxRecDepth 65536 in
set_option maxHeartbeats 40000000 in
theorem la_len {p : Program} {l : Launch} {e : Env} {s : State} {m : MethodId} {args : Array Value} {below : List Frame} {meth : Method} {c : Code} {T0 : State} {locs : List Loc} {Z : State} {a0 : Array Value} {h0 : Heap} {n0 : Nat} (p0 p1 p2 p3 p4 : Int32) (nz : Nat) (c0 c1 c2 c3 : Int32) (al tx rr : Addr) {cells slots : Nat} (js je k : Nat) (b : Addr) (kb : ClassId) (rl : List Value) (cs : Int32) (fm : Value)
    (X0 : Stand p l e room_1 s m args below meth c T0 locs cells slots) (hx : p.tables.exec = Jvm.exec) (hZ : Z.Warmed39 s.vm) (hw : ∀ d ∈ tables_1, d.before a0 Z = true) (hby : c.code = code) (hml : c.maxLocals = 16) (hown : s.vm.findClass "com/example/commitwright/commitwright/http/HeadTrimSpacePinLaw" = some m.cls) (e0 : T0.heap = h0) (Z0 : n0 ≤ h0.size) (N0 : Fr n0 locs) (hz4 : nz ≤ 4) (hcl : cells ≤ room_1.cells) (hsl : slots ≤ room_1.slots) (hk4 : k ≤ 4) (hjs : js ≤ 4) (E_rr : Exa Z h0 rr "java/lang/String") (C_rr : Fld Z h0 rr "java/lang/String" "coder" "B" (.int (0 : Int32))) (V_rr : Fld Z h0 rr "java/lang/String" "value" "[B" (.ref b)) (K_b : Arv Z h0 b kb .byte (Int32.ofNat k) rl (.int (0 : Int32))) (O_0 : Old Z n0 h0) (S_cs : Sta Z Z.heap "java/lang/String" "COMPACT_STRINGS" "Z" (.int cs)) (hcs : ¬ (cs = (0 : Int32))) (S_fm : Sta Z Z.heap "jdk/internal/util/Preconditions" "SIOOBE_FORMATTER" "Ljava/util/function/BiFunction;" fm) (hfm : fm.isRef = true) :
    ∃ (T' : State) (locs' : List Loc), Stand p l e room_1 s m args below meth c T' locs' cells slots ∧ Fr n0 locs' ∧ T'.heap = h0 ∧ ∀ target, Steps p.tables e below (T'.setTop (mkF m 275 #[.val (.int p0), .val (.int p1), .val (.int p2), .val (.int p3), .val (.int p4), .val (.int (Int32.ofNat nz)), .val (.int c0), .val (.int c1), .val (.int c2), .val (.int c3), .val (.ref al), .val (.ref tx), .val (.ref rr), .val (.int (Int32.ofNat js)), .val (.int (Int32.ofNat je)), .val (.int (Int32.ofNat k))] [])) target → Steps p.tables e below (T0.setTop (mkF m 263 #[.val (.int p0), .val (.int p1), .val (.int p2), .val (.int p3), .val (.int p4), .val (.int (Int32.ofNat nz)), .val (.int c0), .val (.int c1), .val (.int c2), .val (.int c3), .val (.ref al), .val (.ref tx), .val (.ref rr), .val (.int (Int32.ofNat js)), .val (.int (Int32.ofNat je)), .val (.int (Int32.ofNat k))] [])) target := by
  obtain ⟨cq1, kq1, q1a, q1b, q1c⟩ := isOf hZ e0 E_rr
  obtain ⟨_, _, ⟨T1, L1, k1, n1⟩, -, X1, ⟨Lc1, hQ1, l1, y1, z1⟩, st1⟩ := X0.virtualBack hx (y := (⟨"java/lang/String", "length", "()I"⟩ : MethodName)) (z := (⟨"java/lang/String", "length", "()I"⟩ : MethodName)) hown (mvT hZ (hw _ (List.mem_of_getElem? (i := 63) rfl))) (mvT hZ (hw _ (List.mem_of_getElem? (i := 35) rfl))) (notFace_of_selects (args := #[]) (mvT hZ (hw _ (List.mem_of_getElem? (i := 37) rfl)))) (mvT hZ (hw _ (List.mem_of_getElem? (i := 37) rfl))) (mvT hZ (hw _ (List.mem_of_getElem? (i := 36) rfl))) (by decide) (backOf (W := 0) (rm7 l Z a0 hw [] rr b kb (Int32.ofNat k) rl cs h0 n0 Z0 E_rr C_rr V_rr K_b O_0 S_cs hcs) hZ (hw _ (List.mem_of_getElem? (i := 38) rfl)) (hw _ (List.mem_of_getElem? (i := 11) rfl)) (by decide) (by decide)) q1a q1c (g := (mkF m 265 #[.val (.int p0), .val (.int p1), .val (.int p2), .val (.int p3), .val (.int p4), .val (.int (Int32.ofNat nz)), .val (.int c0), .val (.int c1), .val (.int c2), .val (.int c3), .val (.ref al), .val (.ref tx), .val (.ref rr), .val (.int (Int32.ofNat js)), .val (.int (Int32.ofNat je)), .val (.int (Int32.ofNat k))] [(.ref rr)])) rfl (by rw [hml]; rfl) (Steps.refl _) (argsL := []) (rest := []) (lenOf pd_2829I rfl) rfl (by show 2 * 0 + _ ≤ _; exact Nat.le_of_eq rfl) (hb hby at_265) (fun _ _ => ⟨rfl, e0, hcl, hsl⟩)
  dsimp only [Pt.U, Pt.locs, Pt.cells, Pt.slots] at X1 l1 y1 z1 st1 hQ1
  subst l1 y1 z1
  obtain ⟨rfl, N1q, e1⟩ := hQ1
  have N1 := Fr.app N0 N1q
  refine ⟨T1, _, X1, N1, e1, fun target kt => ?_⟩
  show Steps p.tables e below (T0.setTop (mkF m 263 #[.val (.int p0), .val (.int p1), .val (.int p2), .val (.int p3), .val (.int p4), .val (.int (Int32.ofNat nz)), .val (.int c0), .val (.int c1), .val (.int c2), .val (.int c3), .val (.ref al), .val (.ref tx), .val (.ref rr), .val (.int (Int32.ofNat js)), .val (.int (Int32.ofNat je)), .val (.int (Int32.ofNat k))] [])) _
  refine XS.aload X0.here hx rfl (hb hby at_263) rfl rfl ?_
  show Steps p.tables e below (T0.setTop (mkF m 265 #[.val (.int p0), .val (.int p1), .val (.int p2), .val (.int p3), .val (.int p4), .val (.int (Int32.ofNat nz)), .val (.int c0), .val (.int c1), .val (.int c2), .val (.int c3), .val (.ref al), .val (.ref tx), .val (.ref rr), .val (.int (Int32.ofNat js)), .val (.int (Int32.ofNat je)), .val (.int (Int32.ofNat k))] [(.ref rr)])) _
  refine st1.trans ?_
  show Steps p.tables e below (T1.setTop (mkF m 268 #[.val (.int p0), .val (.int p1), .val (.int p2), .val (.int p3), .val (.int p4), .val (.int (Int32.ofNat nz)), .val (.int c0), .val (.int c1), .val (.int c2), .val (.int c3), .val (.ref al), .val (.ref tx), .val (.ref rr), .val (.int (Int32.ofNat js)), .val (.int (Int32.ofNat je)), .val (.int (Int32.ofNat k))] [(.int (Int32.ofNat k))])) _
  refine XS.iload X1.here hx rfl (hb hby at_268) rfl ?_
  show Steps p.tables e below (T1.setTop (mkF m 270 #[.val (.int p0), .val (.int p1), .val (.int p2), .val (.int p3), .val (.int p4), .val (.int (Int32.ofNat nz)), .val (.int c0), .val (.int c1), .val (.int c2), .val (.int c3), .val (.ref al), .val (.ref tx), .val (.ref rr), .val (.int (Int32.ofNat js)), .val (.int (Int32.ofNat je)), .val (.int (Int32.ofNat k))] [(.int (Int32.ofNat k)), (.int (Int32.ofNat k))])) _
  refine XS.icmpYes X1.here hx rfl (pc0 := 270) (pc' := 275) rfl (hb hby at_270) rfl (teq (rfl : (Int32.ofNat k) = (Int32.ofNat k))).1 (by decide) (by decide) ?_
  show Steps p.tables e below (T1.setTop (mkF m 275 #[.val (.int p0), .val (.int p1), .val (.int p2), .val (.int p3), .val (.int p4), .val (.int (Int32.ofNat nz)), .val (.int c0), .val (.int c1), .val (.int c2), .val (.int c3), .val (.ref al), .val (.ref tx), .val (.ref rr), .val (.int (Int32.ofNat js)), .val (.int (Int32.ofNat je)), .val (.int (Int32.ofNat k))] [])) _
  exact kt
set_option maxRecDepth 65536 in
set_option maxHeartbeats 40000000 in
theorem la_c0 {p : Program} {l : Launch} {e : Env} {s : State} {m : MethodId} {args : Array Value} {below : List Frame} {meth : Method} {c : Code} {T0 : State} {locs : List Loc} {Z : State} {a0 : Array Value} {h0 : Heap} {n0 : Nat} (p0 p1 p2 p3 p4 : Int32) (nz : Nat) (c0 c1 c2 c3 : Int32) (al tx rr : Addr) {cells slots : Nat} (js je k : Nat) (b : Addr) (kb : ClassId) (rl : List Value) (cs : Int32) (fm : Value) (ka : ClassId)
    (X0 : Stand p l e room_1 s m args below meth c T0 locs cells slots) (hx : p.tables.exec = Jvm.exec) (hZ : Z.Warmed39 s.vm) (hw : ∀ d ∈ tables_1, d.before a0 Z = true) (hby : c.code = code) (hml : c.maxLocals = 16) (hown : s.vm.findClass "com/example/commitwright/commitwright/http/HeadTrimSpacePinLaw" = some m.cls) (e0 : T0.heap = h0) (Z0 : n0 ≤ h0.size) (N0 : Fr n0 locs) (hz4 : nz ≤ 4) (hcl : cells ≤ room_1.cells) (hsl : slots ≤ room_1.slots) (hk4 : k ≤ 4) (hjs : js ≤ 4) (E_rr : Exa Z h0 rr "java/lang/String") (C_rr : Fld Z h0 rr "java/lang/String" "coder" "B" (.int (0 : Int32))) (V_rr : Fld Z h0 rr "java/lang/String" "value" "[B" (.ref b)) (K_b : Arv Z h0 b kb .byte (Int32.ofNat k) rl (.int (0 : Int32))) (O_0 : Old Z n0 h0) (S_cs : Sta Z Z.heap "java/lang/String" "COMPACT_STRINGS" "Z" (.int cs)) (hcs : ¬ (cs = (0 : Int32))) (S_fm : Sta Z Z.heap "jdk/internal/util/Preconditions" "SIOOBE_FORMATTER" "Ljava/util/function/BiFunction;" fm) (hfm : fm.isRef = true) (V_al : Arv Z h0 al ka .char (4 : Int32) [(.int c0), (.int c1), (.int c2), (.int c3)] (.int (0 : Int32))) (HK : ∀ i, i < k → js + i < 4 ∧ own_ch (own_el c0 c1 c2 c3 (js + i)) ∧ rl.getD i (.int (0 : Int32)) = .int (own_by (own_el c0 c1 c2 c3 (js + i)))) :
    ∃ (T' : State) (locs' : List Loc), Stand p l e room_1 s m args below meth c T' locs' cells slots ∧ Fr n0 locs' ∧ T'.heap = h0 ∧ ∀ target, Steps p.tables e below (T'.setTop (mkF m 296 #[.val (.int p0), .val (.int p1), .val (.int p2), .val (.int p3), .val (.int p4), .val (.int (Int32.ofNat nz)), .val (.int c0), .val (.int c1), .val (.int c2), .val (.int c3), .val (.ref al), .val (.ref tx), .val (.ref rr), .val (.int (Int32.ofNat js)), .val (.int (Int32.ofNat je)), .val (.int (Int32.ofNat k))] [])) target → Steps p.tables e below (T0.setTop (mkF m 275 #[.val (.int p0), .val (.int p1), .val (.int p2), .val (.int p3), .val (.int p4), .val (.int (Int32.ofNat nz)), .val (.int c0), .val (.int c1), .val (.int c2), .val (.int c3), .val (.ref al), .val (.ref tx), .val (.ref rr), .val (.int (Int32.ofNat js)), .val (.int (Int32.ofNat je)), .val (.int (Int32.ofNat k))] [])) target := by
  by_cases hc277 : (0 : Int32) < (Int32.ofNat k)
  · have hk_ : 0 < k := (own_olt (i := 0) (by decide) (by omega)).mp hc277
    obtain ⟨cq1, kq1, q1a, q1b, q1c⟩ := isOf hZ e0 E_rr
    obtain ⟨_, _, ⟨T1, L1, k1, n1⟩, -, X1, ⟨Lc1, hQ1, l1, y1, z1⟩, st1⟩ := X0.virtualBack hx (y := (⟨"java/lang/String", "charAt", "(I)C"⟩ : MethodName)) (z := (⟨"java/lang/String", "charAt", "(I)C"⟩ : MethodName)) hown (mvT hZ (hw _ (List.mem_of_getElem? (i := 124) rfl))) (mvT hZ (hw _ (List.mem_of_getElem? (i := 75) rfl))) (notFace_of_selects (args := #[]) (mvT hZ (hw _ (List.mem_of_getElem? (i := 77) rfl)))) (mvT hZ (hw _ (List.mem_of_getElem? (i := 77) rfl))) (mvT hZ (hw _ (List.mem_of_getElem? (i := 76) rfl))) (by decide) (backOf (W := 0) (rm16 l Z a0 hw [] rr (0 : Int32) b kb (Int32.ofNat k) rl (own_el c0 c1 c2 c3 js) cs fm h0 n0 Z0 E_rr C_rr V_rr K_b O_0 S_cs hcs S_fm hfm (by decide) hc277 (HK 0 hk_).2.2 (HK 0 hk_).2.1) hZ (hw _ (List.mem_of_getElem? (i := 78) rfl)) (hw _ (List.mem_of_getElem? (i := 11) rfl)) (by decide) (by decide)) q1a q1c (g := (mkF m 283 #[.val (.int p0), .val (.int p1), .val (.int p2), .val (.int p3), .val (.int p4), .val (.int (Int32.ofNat nz)), .val (.int c0), .val (.int c1), .val (.int c2), .val (.int c3), .val (.ref al), .val (.ref tx), .val (.ref rr), .val (.int (Int32.ofNat js)), .val (.int (Int32.ofNat je)), .val (.int (Int32.ofNat k))] [(.int (0 : Int32)), (.ref rr)])) rfl (by rw [hml]; rfl) (Steps.refl _) (argsL := [(.int (0 : Int32))]) (rest := []) (lenOf pd_28I29C rfl) rfl (by show 2 * 0 + _ ≤ _; exact Nat.le_of_eq rfl) (hb hby at_283) (fun _ _ => ⟨rfl, e0, hcl, hsl⟩)
    dsimp only [Pt.U, Pt.locs, Pt.cells, Pt.slots] at X1 l1 y1 z1 st1 hQ1
    subst l1 y1 z1
    obtain ⟨rfl, N1q, e1⟩ := hQ1
    have N1 := Fr.app N0 N1q
    obtain ⟨cl_290_2, Ar_290_2, -, S_290_2, M_290_2, H_290_2, -⟩ := id V_al
    have hin290_2 : ¬ ((Int32.ofNat js) < 0 ∨ cl_290_2.slots.size ≤ ((Int32.ofNat js)).toNatClampNeg) := inb_of S_290_2 ⟨own_o0 (by have := (HK 0 hk_).1; omega), (own_olt (j := 4) (by have := (HK 0 hk_).1; omega) (by decide)).mpr (HK 0 hk_).1⟩
    have hat290_2 : cl_290_2.slots[((Int32.ofNat js)).toNatClampNeg]? = some (.int (own_el c0 c1 c2 c3 js)) := H_290_2.at hin290_2 (by rw [own_oN (by have := (HK 0 hk_).1; omega)]; exact own_elv c0 c1 c2 c3 (HK 0 hk_).1)
    refine ⟨T1, _, X1, N1, e1, fun target kt => ?_⟩
    show Steps p.tables e below (T0.setTop (mkF m 275 #[.val (.int p0), .val (.int p1), .val (.int p2), .val (.int p3), .val (.int p4), .val (.int (Int32.ofNat nz)), .val (.int c0), .val (.int c1), .val (.int c2), .val (.int c3), .val (.ref al), .val (.ref tx), .val (.ref rr), .val (.int (Int32.ofNat js)), .val (.int (Int32.ofNat je)), .val (.int (Int32.ofNat k))] [])) _
    refine XS.iload X0.here hx rfl (hb hby at_275) rfl ?_
    show Steps p.tables e below (T0.setTop (mkF m 277 #[.val (.int p0), .val (.int p1), .val (.int p2), .val (.int p3), .val (.int p4), .val (.int (Int32.ofNat nz)), .val (.int c0), .val (.int c1), .val (.int c2), .val (.int c3), .val (.ref al), .val (.ref tx), .val (.ref rr), .val (.int (Int32.ofNat js)), .val (.int (Int32.ofNat je)), .val (.int (Int32.ofNat k))] [(.int (Int32.ofNat k))])) _
    refine XS.ifNo X0.here hx rfl (hb hby at_277) rfl ((if0 _ _).trans (tlt hc277).2.2.2) ?_
    refine XS.aload X0.here hx rfl (hb hby at_280) rfl rfl ?_
    refine XS.iconst X0.here hx rfl (hb hby at_282) ?_
    show Steps p.tables e below (T0.setTop (mkF m 283 #[.val (.int p0), .val (.int p1), .val (.int p2), .val (.int p3), .val (.int p4), .val (.int (Int32.ofNat nz)), .val (.int c0), .val (.int c1), .val (.int c2), .val (.int c3), .val (.ref al), .val (.ref tx), .val (.ref rr), .val (.int (Int32.ofNat js)), .val (.int (Int32.ofNat je)), .val (.int (Int32.ofNat k))] [(.int (0 : Int32)), (.ref rr)])) _
    refine st1.trans ?_
    show Steps p.tables e below (T1.setTop (mkF m 286 #[.val (.int p0), .val (.int p1), .val (.int p2), .val (.int p3), .val (.int p4), .val (.int (Int32.ofNat nz)), .val (.int c0), .val (.int c1), .val (.int c2), .val (.int c3), .val (.ref al), .val (.ref tx), .val (.ref rr), .val (.int (Int32.ofNat js)), .val (.int (Int32.ofNat je)), .val (.int (Int32.ofNat k))] [(.int (own_el c0 c1 c2 c3 js))])) _
    refine XS.aload X1.here hx rfl (hb hby at_286) rfl rfl ?_
    refine XS.iload X1.here hx rfl (hb hby at_288) rfl ?_
    show Steps p.tables e below (T1.setTop (mkF m 290 #[.val (.int p0), .val (.int p1), .val (.int p2), .val (.int p3), .val (.int p4), .val (.int (Int32.ofNat nz)), .val (.int c0), .val (.int c1), .val (.int c2), .val (.int c3), .val (.ref al), .val (.ref tx), .val (.ref rr), .val (.int (Int32.ofNat js)), .val (.int (Int32.ofNat je)), .val (.int (Int32.ofNat k))] [(.int (Int32.ofNat js)), (.ref al), (.int (own_el c0 c1 c2 c3 js))])) _
    refine X1.caload hx (j := (Int32.ofNat js)) (v := (.int (own_el c0 c1 c2 c3 js))) (by rw [e1]; exact Ar_290_2.1) (State.isArrayOf_alike hZ.alike Ar_290_2.2.1) Ar_290_2.2.2 hin290_2 hat290_2 (g := (mkF m 290 #[.val (.int p0), .val (.int p1), .val (.int p2), .val (.int p3), .val (.int p4), .val (.int (Int32.ofNat nz)), .val (.int c0), .val (.int c1), .val (.int c2), .val (.int c3), .val (.ref al), .val (.ref tx), .val (.ref rr), .val (.int (Int32.ofNat js)), .val (.int (Int32.ofNat je)), .val (.int (Int32.ofNat k))] [(.int (Int32.ofNat js)), (.ref al), (.int (own_el c0 c1 c2 c3 js))])) rfl rfl (hb hby at_290) _ ?_
    show Steps p.tables e below (T1.setTop (mkF m 291 #[.val (.int p0), .val (.int p1), .val (.int p2), .val (.int p3), .val (.int p4), .val (.int (Int32.ofNat nz)), .val (.int c0), .val (.int c1), .val (.int c2), .val (.int c3), .val (.ref al), .val (.ref tx), .val (.ref rr), .val (.int (Int32.ofNat js)), .val (.int (Int32.ofNat je)), .val (.int (Int32.ofNat k))] [(.int (own_el c0 c1 c2 c3 js)), (.int (own_el c0 c1 c2 c3 js))])) _
    refine XS.icmpYes X1.here hx rfl (pc0 := 291) (pc' := 296) rfl (hb hby at_291) rfl (teq (rfl : (own_el c0 c1 c2 c3 js) = (own_el c0 c1 c2 c3 js))).1 (by decide) (by decide) ?_
    show Steps p.tables e below (T1.setTop (mkF m 296 #[.val (.int p0), .val (.int p1), .val (.int p2), .val (.int p3), .val (.int p4), .val (.int (Int32.ofNat nz)), .val (.int c0), .val (.int c1), .val (.int c2), .val (.int c3), .val (.ref al), .val (.ref tx), .val (.ref rr), .val (.int (Int32.ofNat js)), .val (.int (Int32.ofNat je)), .val (.int (Int32.ofNat k))] [])) _
    exact kt
  · refine ⟨T0, _, X0, N0, e0, fun target kt => ?_⟩
    show Steps p.tables e below (T0.setTop (mkF m 275 #[.val (.int p0), .val (.int p1), .val (.int p2), .val (.int p3), .val (.int p4), .val (.int (Int32.ofNat nz)), .val (.int c0), .val (.int c1), .val (.int c2), .val (.int c3), .val (.ref al), .val (.ref tx), .val (.ref rr), .val (.int (Int32.ofNat js)), .val (.int (Int32.ofNat je)), .val (.int (Int32.ofNat k))] [])) _
    refine XS.iload X0.here hx rfl (hb hby at_275) rfl ?_
    show Steps p.tables e below (T0.setTop (mkF m 277 #[.val (.int p0), .val (.int p1), .val (.int p2), .val (.int p3), .val (.int p4), .val (.int (Int32.ofNat nz)), .val (.int c0), .val (.int c1), .val (.int c2), .val (.int c3), .val (.ref al), .val (.ref tx), .val (.ref rr), .val (.int (Int32.ofNat js)), .val (.int (Int32.ofNat je)), .val (.int (Int32.ofNat k))] [(.int (Int32.ofNat k))])) _
    refine XS.ifYes X0.here hx rfl (pc0 := 277) (pc' := 296) rfl (hb hby at_277) rfl ((if0 _ _).trans (flt hc277).2.2.2) (by decide) (by decide) ?_
    show Steps p.tables e below (T0.setTop (mkF m 296 #[.val (.int p0), .val (.int p1), .val (.int p2), .val (.int p3), .val (.int p4), .val (.int (Int32.ofNat nz)), .val (.int c0), .val (.int c1), .val (.int c2), .val (.int c3), .val (.ref al), .val (.ref tx), .val (.ref rr), .val (.int (Int32.ofNat js)), .val (.int (Int32.ofNat je)), .val (.int (Int32.ofNat k))] [])) _
    exact kt
set_option maxRecDepth 65536 in
set_option maxHeartbeats 40000000 in
theorem la_c1 {p : Program} {l : Launch} {e : Env} {s : State} {m : MethodId} {args : Array Value} {below : List Frame} {meth : Method} {c : Code} {T0 : State} {locs : List Loc} {Z : State} {a0 : Array Value} {h0 : Heap} {n0 : Nat} (p0 p1 p2 p3 p4 : Int32) (nz : Nat) (c0 c1 c2 c3 : Int32) (al tx rr : Addr) {cells slots : Nat} (js je k : Nat) (b : Addr) (kb : ClassId) (rl : List Value) (cs : Int32) (fm : Value) (ka : ClassId)
    (X0 : Stand p l e room_1 s m args below meth c T0 locs cells slots) (hx : p.tables.exec = Jvm.exec) (hZ : Z.Warmed39 s.vm) (hw : ∀ d ∈ tables_1, d.before a0 Z = true) (hby : c.code = code) (hml : c.maxLocals = 16) (hown : s.vm.findClass "com/example/commitwright/commitwright/http/HeadTrimSpacePinLaw" = some m.cls) (e0 : T0.heap = h0) (Z0 : n0 ≤ h0.size) (N0 : Fr n0 locs) (hz4 : nz ≤ 4) (hcl : cells ≤ room_1.cells) (hsl : slots ≤ room_1.slots) (hk4 : k ≤ 4) (hjs : js ≤ 4) (E_rr : Exa Z h0 rr "java/lang/String") (C_rr : Fld Z h0 rr "java/lang/String" "coder" "B" (.int (0 : Int32))) (V_rr : Fld Z h0 rr "java/lang/String" "value" "[B" (.ref b)) (K_b : Arv Z h0 b kb .byte (Int32.ofNat k) rl (.int (0 : Int32))) (O_0 : Old Z n0 h0) (S_cs : Sta Z Z.heap "java/lang/String" "COMPACT_STRINGS" "Z" (.int cs)) (hcs : ¬ (cs = (0 : Int32))) (S_fm : Sta Z Z.heap "jdk/internal/util/Preconditions" "SIOOBE_FORMATTER" "Ljava/util/function/BiFunction;" fm) (hfm : fm.isRef = true) (V_al : Arv Z h0 al ka .char (4 : Int32) [(.int c0), (.int c1), (.int c2), (.int c3)] (.int (0 : Int32))) (HK : ∀ i, i < k → js + i < 4 ∧ own_ch (own_el c0 c1 c2 c3 (js + i)) ∧ rl.getD i (.int (0 : Int32)) = .int (own_by (own_el c0 c1 c2 c3 (js + i)))) :
    ∃ (T' : State) (locs' : List Loc), Stand p l e room_1 s m args below meth c T' locs' cells slots ∧ Fr n0 locs' ∧ T'.heap = h0 ∧ ∀ target, Steps p.tables e below (T'.setTop (mkF m 320 #[.val (.int p0), .val (.int p1), .val (.int p2), .val (.int p3), .val (.int p4), .val (.int (Int32.ofNat nz)), .val (.int c0), .val (.int c1), .val (.int c2), .val (.int c3), .val (.ref al), .val (.ref tx), .val (.ref rr), .val (.int (Int32.ofNat js)), .val (.int (Int32.ofNat je)), .val (.int (Int32.ofNat k))] [])) target → Steps p.tables e below (T0.setTop (mkF m 296 #[.val (.int p0), .val (.int p1), .val (.int p2), .val (.int p3), .val (.int p4), .val (.int (Int32.ofNat nz)), .val (.int c0), .val (.int c1), .val (.int c2), .val (.int c3), .val (.ref al), .val (.ref tx), .val (.ref rr), .val (.int (Int32.ofNat js)), .val (.int (Int32.ofNat je)), .val (.int (Int32.ofNat k))] [])) target := by
  by_cases hc299 : (1 : Int32) < (Int32.ofNat k)
  · have hk_ : 1 < k := (own_olt (i := 1) (by decide) (by omega)).mp hc299
    obtain ⟨cq1, kq1, q1a, q1b, q1c⟩ := isOf hZ e0 E_rr
    obtain ⟨_, _, ⟨T1, L1, k1, n1⟩, -, X1, ⟨Lc1, hQ1, l1, y1, z1⟩, st1⟩ := X0.virtualBack hx (y := (⟨"java/lang/String", "charAt", "(I)C"⟩ : MethodName)) (z := (⟨"java/lang/String", "charAt", "(I)C"⟩ : MethodName)) hown (mvT hZ (hw _ (List.mem_of_getElem? (i := 124) rfl))) (mvT hZ (hw _ (List.mem_of_getElem? (i := 75) rfl))) (notFace_of_selects (args := #[]) (mvT hZ (hw _ (List.mem_of_getElem? (i := 77) rfl)))) (mvT hZ (hw _ (List.mem_of_getElem? (i := 77) rfl))) (mvT hZ (hw _ (List.mem_of_getElem? (i := 76) rfl))) (by decide) (backOf (W := 0) (rm16 l Z a0 hw [] rr (1 : Int32) b kb (Int32.ofNat k) rl (own_el c0 c1 c2 c3 (js + 1)) cs fm h0 n0 Z0 E_rr C_rr V_rr K_b O_0 S_cs hcs S_fm hfm (by decide) hc299 (HK 1 hk_).2.2 (HK 1 hk_).2.1) hZ (hw _ (List.mem_of_getElem? (i := 78) rfl)) (hw _ (List.mem_of_getElem? (i := 11) rfl)) (by decide) (by decide)) q1a q1c (g := (mkF m 305 #[.val (.int p0), .val (.int p1), .val (.int p2), .val (.int p3), .val (.int p4), .val (.int (Int32.ofNat nz)), .val (.int c0), .val (.int c1), .val (.int c2), .val (.int c3), .val (.ref al), .val (.ref tx), .val (.ref rr), .val (.int (Int32.ofNat js)), .val (.int (Int32.ofNat je)), .val (.int (Int32.ofNat k))] [(.int (1 : Int32)), (.ref rr)])) rfl (by rw [hml]; rfl) (Steps.refl _) (argsL := [(.int (1 : Int32))]) (rest := []) (lenOf pd_28I29C rfl) rfl (by show 2 * 0 + _ ≤ _; exact Nat.le_of_eq rfl) (hb hby at_305) (fun _ _ => ⟨rfl, e0, hcl, hsl⟩)
    dsimp only [Pt.U, Pt.locs, Pt.cells, Pt.slots] at X1 l1 y1 z1 st1 hQ1
    subst l1 y1 z1
    obtain ⟨rfl, N1q, e1⟩ := hQ1
    have N1 := Fr.app N0 N1q
    obtain ⟨cl_314_2, Ar_314_2, -, S_314_2, M_314_2, H_314_2, -⟩ := id V_al
    have hin314_2 : ¬ ((Int32.ofNat (js + 1)) < 0 ∨ cl_314_2.slots.size ≤ ((Int32.ofNat (js + 1))).toNatClampNeg) := inb_of S_314_2 ⟨own_o0 (by have := (HK 1 hk_).1; omega), (own_olt (j := 4) (by have := (HK 1 hk_).1; omega) (by decide)).mpr (HK 1 hk_).1⟩
    have hat314_2 : cl_314_2.slots[((Int32.ofNat (js + 1))).toNatClampNeg]? = some (.int (own_el c0 c1 c2 c3 (js + 1))) := H_314_2.at hin314_2 (by rw [own_oN (by have := (HK 1 hk_).1; omega)]; exact own_elv c0 c1 c2 c3 (HK 1 hk_).1)
    refine ⟨T1, _, X1, N1, e1, fun target kt => ?_⟩
    show Steps p.tables e below (T0.setTop (mkF m 296 #[.val (.int p0), .val (.int p1), .val (.int p2), .val (.int p3), .val (.int p4), .val (.int (Int32.ofNat nz)), .val (.int c0), .val (.int c1), .val (.int c2), .val (.int c3), .val (.ref al), .val (.ref tx), .val (.ref rr), .val (.int (Int32.ofNat js)), .val (.int (Int32.ofNat je)), .val (.int (Int32.ofNat k))] [])) _
    refine XS.iload X0.here hx rfl (hb hby at_296) rfl ?_
    refine XS.iconst X0.here hx rfl (hb hby at_298) ?_
    show Steps p.tables e below (T0.setTop (mkF m 299 #[.val (.int p0), .val (.int p1), .val (.int p2), .val (.int p3), .val (.int p4), .val (.int (Int32.ofNat nz)), .val (.int c0), .val (.int c1), .val (.int c2), .val (.int c3), .val (.ref al), .val (.ref tx), .val (.ref rr), .val (.int (Int32.ofNat js)), .val (.int (Int32.ofNat je)), .val (.int (Int32.ofNat k))] [(.int (1 : Int32)), (.int (Int32.ofNat k))])) _
    refine XS.icmpNo X0.here hx rfl (hb hby at_299) rfl (tlt hc299).2.2.2 ?_
    refine XS.aload X0.here hx rfl (hb hby at_302) rfl rfl ?_
    refine XS.iconst X0.here hx rfl (hb hby at_304) ?_
    show Steps p.tables e below (T0.setTop (mkF m 305 #[.val (.int p0), .val (.int p1), .val (.int p2), .val (.int p3), .val (.int p4), .val (.int (Int32.ofNat nz)), .val (.int c0), .val (.int c1), .val (.int c2), .val (.int c3), .val (.ref al), .val (.ref tx), .val (.ref rr), .val (.int (Int32.ofNat js)), .val (.int (Int32.ofNat je)), .val (.int (Int32.ofNat k))] [(.int (1 : Int32)), (.ref rr)])) _
    refine st1.trans ?_
    show Steps p.tables e below (T1.setTop (mkF m 308 #[.val (.int p0), .val (.int p1), .val (.int p2), .val (.int p3), .val (.int p4), .val (.int (Int32.ofNat nz)), .val (.int c0), .val (.int c1), .val (.int c2), .val (.int c3), .val (.ref al), .val (.ref tx), .val (.ref rr), .val (.int (Int32.ofNat js)), .val (.int (Int32.ofNat je)), .val (.int (Int32.ofNat k))] [(.int (own_el c0 c1 c2 c3 (js + 1)))])) _
    refine XS.aload X1.here hx rfl (hb hby at_308) rfl rfl ?_
    refine XS.iload X1.here hx rfl (hb hby at_310) rfl ?_
    refine XS.iconst X1.here hx rfl (hb hby at_312) ?_
    refine XS.iadd X1.here hx rfl (hb hby at_313) rfl ?_
    show Steps p.tables e below (T1.setTop (mkF m 314 #[.val (.int p0), .val (.int p1), .val (.int p2), .val (.int p3), .val (.int p4), .val (.int (Int32.ofNat nz)), .val (.int c0), .val (.int c1), .val (.int c2), .val (.int c3), .val (.ref al), .val (.ref tx), .val (.ref rr), .val (.int (Int32.ofNat js)), .val (.int (Int32.ofNat je)), .val (.int (Int32.ofNat k))] [(.int ((Int32.ofNat js) + (1 : Int32))), (.ref al), (.int (own_el c0 c1 c2 c3 (js + 1)))])) _
    rw [own_osucc (by omega)]
    show Steps p.tables e below (T1.setTop (mkF m 314 #[.val (.int p0), .val (.int p1), .val (.int p2), .val (.int p3), .val (.int p4), .val (.int (Int32.ofNat nz)), .val (.int c0), .val (.int c1), .val (.int c2), .val (.int c3), .val (.ref al), .val (.ref tx), .val (.ref rr), .val (.int (Int32.ofNat js)), .val (.int (Int32.ofNat je)), .val (.int (Int32.ofNat k))] [(.int (Int32.ofNat (js + 1))), (.ref al), (.int (own_el c0 c1 c2 c3 (js + 1)))])) _
    refine X1.caload hx (j := (Int32.ofNat (js + 1))) (v := (.int (own_el c0 c1 c2 c3 (js + 1)))) (by rw [e1]; exact Ar_314_2.1) (State.isArrayOf_alike hZ.alike Ar_314_2.2.1) Ar_314_2.2.2 hin314_2 hat314_2 (g := (mkF m 314 #[.val (.int p0), .val (.int p1), .val (.int p2), .val (.int p3), .val (.int p4), .val (.int (Int32.ofNat nz)), .val (.int c0), .val (.int c1), .val (.int c2), .val (.int c3), .val (.ref al), .val (.ref tx), .val (.ref rr), .val (.int (Int32.ofNat js)), .val (.int (Int32.ofNat je)), .val (.int (Int32.ofNat k))] [(.int (Int32.ofNat (js + 1))), (.ref al), (.int (own_el c0 c1 c2 c3 (js + 1)))])) rfl rfl (hb hby at_314) _ ?_
    show Steps p.tables e below (T1.setTop (mkF m 315 #[.val (.int p0), .val (.int p1), .val (.int p2), .val (.int p3), .val (.int p4), .val (.int (Int32.ofNat nz)), .val (.int c0), .val (.int c1), .val (.int c2), .val (.int c3), .val (.ref al), .val (.ref tx), .val (.ref rr), .val (.int (Int32.ofNat js)), .val (.int (Int32.ofNat je)), .val (.int (Int32.ofNat k))] [(.int (own_el c0 c1 c2 c3 (js + 1))), (.int (own_el c0 c1 c2 c3 (js + 1)))])) _
    refine XS.icmpYes X1.here hx rfl (pc0 := 315) (pc' := 320) rfl (hb hby at_315) rfl (teq (rfl : (own_el c0 c1 c2 c3 (js + 1)) = (own_el c0 c1 c2 c3 (js + 1)))).1 (by decide) (by decide) ?_
    show Steps p.tables e below (T1.setTop (mkF m 320 #[.val (.int p0), .val (.int p1), .val (.int p2), .val (.int p3), .val (.int p4), .val (.int (Int32.ofNat nz)), .val (.int c0), .val (.int c1), .val (.int c2), .val (.int c3), .val (.ref al), .val (.ref tx), .val (.ref rr), .val (.int (Int32.ofNat js)), .val (.int (Int32.ofNat je)), .val (.int (Int32.ofNat k))] [])) _
    exact kt
  · refine ⟨T0, _, X0, N0, e0, fun target kt => ?_⟩
    show Steps p.tables e below (T0.setTop (mkF m 296 #[.val (.int p0), .val (.int p1), .val (.int p2), .val (.int p3), .val (.int p4), .val (.int (Int32.ofNat nz)), .val (.int c0), .val (.int c1), .val (.int c2), .val (.int c3), .val (.ref al), .val (.ref tx), .val (.ref rr), .val (.int (Int32.ofNat js)), .val (.int (Int32.ofNat je)), .val (.int (Int32.ofNat k))] [])) _
    refine XS.iload X0.here hx rfl (hb hby at_296) rfl ?_
    refine XS.iconst X0.here hx rfl (hb hby at_298) ?_
    show Steps p.tables e below (T0.setTop (mkF m 299 #[.val (.int p0), .val (.int p1), .val (.int p2), .val (.int p3), .val (.int p4), .val (.int (Int32.ofNat nz)), .val (.int c0), .val (.int c1), .val (.int c2), .val (.int c3), .val (.ref al), .val (.ref tx), .val (.ref rr), .val (.int (Int32.ofNat js)), .val (.int (Int32.ofNat je)), .val (.int (Int32.ofNat k))] [(.int (1 : Int32)), (.int (Int32.ofNat k))])) _
    refine XS.icmpYes X0.here hx rfl (pc0 := 299) (pc' := 320) rfl (hb hby at_299) rfl (flt hc299).2.2.2 (by decide) (by decide) ?_
    show Steps p.tables e below (T0.setTop (mkF m 320 #[.val (.int p0), .val (.int p1), .val (.int p2), .val (.int p3), .val (.int p4), .val (.int (Int32.ofNat nz)), .val (.int c0), .val (.int c1), .val (.int c2), .val (.int c3), .val (.ref al), .val (.ref tx), .val (.ref rr), .val (.int (Int32.ofNat js)), .val (.int (Int32.ofNat je)), .val (.int (Int32.ofNat k))] [])) _
    exact kt
set_option maxRecDepth 65536 in
set_option maxHeartbeats 40000000 in
theorem la_c2 {p : Program} {l : Launch} {e : Env} {s : State} {m : MethodId} {args : Array Value} {below : List Frame} {meth : Method} {c : Code} {T0 : State} {locs : List Loc} {Z : State} {a0 : Array Value} {h0 : Heap} {n0 : Nat} (p0 p1 p2 p3 p4 : Int32) (nz : Nat) (c0 c1 c2 c3 : Int32) (al tx rr : Addr) {cells slots : Nat} (js je k : Nat) (b : Addr) (kb : ClassId) (rl : List Value) (cs : Int32) (fm : Value) (ka : ClassId)
    (X0 : Stand p l e room_1 s m args below meth c T0 locs cells slots) (hx : p.tables.exec = Jvm.exec) (hZ : Z.Warmed39 s.vm) (hw : ∀ d ∈ tables_1, d.before a0 Z = true) (hby : c.code = code) (hml : c.maxLocals = 16) (hown : s.vm.findClass "com/example/commitwright/commitwright/http/HeadTrimSpacePinLaw" = some m.cls) (e0 : T0.heap = h0) (Z0 : n0 ≤ h0.size) (N0 : Fr n0 locs) (hz4 : nz ≤ 4) (hcl : cells ≤ room_1.cells) (hsl : slots ≤ room_1.slots) (hk4 : k ≤ 4) (hjs : js ≤ 4) (E_rr : Exa Z h0 rr "java/lang/String") (C_rr : Fld Z h0 rr "java/lang/String" "coder" "B" (.int (0 : Int32))) (V_rr : Fld Z h0 rr "java/lang/String" "value" "[B" (.ref b)) (K_b : Arv Z h0 b kb .byte (Int32.ofNat k) rl (.int (0 : Int32))) (O_0 : Old Z n0 h0) (S_cs : Sta Z Z.heap "java/lang/String" "COMPACT_STRINGS" "Z" (.int cs)) (hcs : ¬ (cs = (0 : Int32))) (S_fm : Sta Z Z.heap "jdk/internal/util/Preconditions" "SIOOBE_FORMATTER" "Ljava/util/function/BiFunction;" fm) (hfm : fm.isRef = true) (V_al : Arv Z h0 al ka .char (4 : Int32) [(.int c0), (.int c1), (.int c2), (.int c3)] (.int (0 : Int32))) (HK : ∀ i, i < k → js + i < 4 ∧ own_ch (own_el c0 c1 c2 c3 (js + i)) ∧ rl.getD i (.int (0 : Int32)) = .int (own_by (own_el c0 c1 c2 c3 (js + i)))) :
    ∃ (T' : State) (locs' : List Loc), Stand p l e room_1 s m args below meth c T' locs' cells slots ∧ Fr n0 locs' ∧ T'.heap = h0 ∧ ∀ target, Steps p.tables e below (T'.setTop (mkF m 344 #[.val (.int p0), .val (.int p1), .val (.int p2), .val (.int p3), .val (.int p4), .val (.int (Int32.ofNat nz)), .val (.int c0), .val (.int c1), .val (.int c2), .val (.int c3), .val (.ref al), .val (.ref tx), .val (.ref rr), .val (.int (Int32.ofNat js)), .val (.int (Int32.ofNat je)), .val (.int (Int32.ofNat k))] [])) target → Steps p.tables e below (T0.setTop (mkF m 320 #[.val (.int p0), .val (.int p1), .val (.int p2), .val (.int p3), .val (.int p4), .val (.int (Int32.ofNat nz)), .val (.int c0), .val (.int c1), .val (.int c2), .val (.int c3), .val (.ref al), .val (.ref tx), .val (.ref rr), .val (.int (Int32.ofNat js)), .val (.int (Int32.ofNat je)), .val (.int (Int32.ofNat k))] [])) target := by
  by_cases hc323 : (2 : Int32) < (Int32.ofNat k)
  · have hk_ : 2 < k := (own_olt (i := 2) (by decide) (by omega)).mp hc323
    obtain ⟨cq1, kq1, q1a, q1b, q1c⟩ := isOf hZ e0 E_rr
    obtain ⟨_, _, ⟨T1, L1, k1, n1⟩, -, X1, ⟨Lc1, hQ1, l1, y1, z1⟩, st1⟩ := X0.virtualBack hx (y := (⟨"java/lang/String", "charAt", "(I)C"⟩ : MethodName)) (z := (⟨"java/lang/String", "charAt", "(I)C"⟩ : MethodName)) hown (mvT hZ (hw _ (List.mem_of_getElem? (i := 124) rfl))) (mvT hZ (hw _ (List.mem_of_getElem? (i := 75) rfl))) (notFace_of_selects (args := #[]) (mvT hZ (hw _ (List.mem_of_getElem? (i := 77) rfl)))) (mvT hZ (hw _ (List.mem_of_getElem? (i := 77) rfl))) (mvT hZ (hw _ (List.mem_of_getElem? (i := 76) rfl))) (by decide) (backOf (W := 0) (rm16 l Z a0 hw [] rr (2 : Int32) b kb (Int32.ofNat k) rl (own_el c0 c1 c2 c3 (js + 2)) cs fm h0 n0 Z0 E_rr C_rr V_rr K_b O_0 S_cs hcs S_fm hfm (by decide) hc323 (HK 2 hk_).2.2 (HK 2 hk_).2.1) hZ (hw _ (List.mem_of_getElem? (i := 78) rfl)) (hw _ (List.mem_of_getElem? (i := 11) rfl)) (by decide) (by decide)) q1a q1c (g := (mkF m 329 #[.val (.int p0), .val (.int p1), .val (.int p2), .val (.int p3), .val (.int p4), .val (.int (Int32.ofNat nz)), .val (.int c0), .val (.int c1), .val (.int c2), .val (.int c3), .val (.ref al), .val (.ref tx), .val (.ref rr), .val (.int (Int32.ofNat js)), .val (.int (Int32.ofNat je)), .val (.int (Int32.ofNat k))] [(.int (2 : Int32)), (.ref rr)])) rfl (by rw [hml]; rfl) (Steps.refl _) (argsL := [(.int (2 : Int32))]) (rest := []) (lenOf pd_28I29C rfl) rfl (by show 2 * 0 + _ ≤ _; exact Nat.le_of_eq rfl) (hb hby at_329) (fun _ _ => ⟨rfl, e0, hcl, hsl⟩)
    dsimp only [Pt.U, Pt.locs, Pt.cells, Pt.slots] at X1 l1 y1 z1 st1 hQ1
    subst l1 y1 z1
    obtain ⟨rfl, N1q, e1⟩ := hQ1
    have N1 := Fr.app N0 N1q
    obtain ⟨cl_338_2, Ar_338_2, -, S_338_2, M_338_2, H_338_2, -⟩ := id V_al
    have hin338_2 : ¬ ((Int32.ofNat (js + 2)) < 0 ∨ cl_338_2.slots.size ≤ ((Int32.ofNat (js + 2))).toNatClampNeg) := inb_of S_338_2 ⟨own_o0 (by have := (HK 2 hk_).1; omega), (own_olt (j := 4) (by have := (HK 2 hk_).1; omega) (by decide)).mpr (HK 2 hk_).1⟩
    have hat338_2 : cl_338_2.slots[((Int32.ofNat (js + 2))).toNatClampNeg]? = some (.int (own_el c0 c1 c2 c3 (js + 2))) := H_338_2.at hin338_2 (by rw [own_oN (by have := (HK 2 hk_).1; omega)]; exact own_elv c0 c1 c2 c3 (HK 2 hk_).1)
    refine ⟨T1, _, X1, N1, e1, fun target kt => ?_⟩
    show Steps p.tables e below (T0.setTop (mkF m 320 #[.val (.int p0), .val (.int p1), .val (.int p2), .val (.int p3), .val (.int p4), .val (.int (Int32.ofNat nz)), .val (.int c0), .val (.int c1), .val (.int c2), .val (.int c3), .val (.ref al), .val (.ref tx), .val (.ref rr), .val (.int (Int32.ofNat js)), .val (.int (Int32.ofNat je)), .val (.int (Int32.ofNat k))] [])) _
    refine XS.iload X0.here hx rfl (hb hby at_320) rfl ?_
    refine XS.iconst X0.here hx rfl (hb hby at_322) ?_
    show Steps p.tables e below (T0.setTop (mkF m 323 #[.val (.int p0), .val (.int p1), .val (.int p2), .val (.int p3), .val (.int p4), .val (.int (Int32.ofNat nz)), .val (.int c0), .val (.int c1), .val (.int c2), .val (.int c3), .val (.ref al), .val (.ref tx), .val (.ref rr), .val (.int (Int32.ofNat js)), .val (.int (Int32.ofNat je)), .val (.int (Int32.ofNat k))] [(.int (2 : Int32)), (.int (Int32.ofNat k))])) _
    refine XS.icmpNo X0.here hx rfl (hb hby at_323) rfl (tlt hc323).2.2.2 ?_
    refine XS.aload X0.here hx rfl (hb hby at_326) rfl rfl ?_
    refine XS.iconst X0.here hx rfl (hb hby at_328) ?_
    show Steps p.tables e below (T0.setTop (mkF m 329 #[.val (.int p0), .val (.int p1), .val (.int p2), .val (.int p3), .val (.int p4), .val (.int (Int32.ofNat nz)), .val (.int c0), .val (.int c1), .val (.int c2), .val (.int c3), .val (.ref al), .val (.ref tx), .val (.ref rr), .val (.int (Int32.ofNat js)), .val (.int (Int32.ofNat je)), .val (.int (Int32.ofNat k))] [(.int (2 : Int32)), (.ref rr)])) _
    refine st1.trans ?_
    show Steps p.tables e below (T1.setTop (mkF m 332 #[.val (.int p0), .val (.int p1), .val (.int p2), .val (.int p3), .val (.int p4), .val (.int (Int32.ofNat nz)), .val (.int c0), .val (.int c1), .val (.int c2), .val (.int c3), .val (.ref al), .val (.ref tx), .val (.ref rr), .val (.int (Int32.ofNat js)), .val (.int (Int32.ofNat je)), .val (.int (Int32.ofNat k))] [(.int (own_el c0 c1 c2 c3 (js + 2)))])) _
    refine XS.aload X1.here hx rfl (hb hby at_332) rfl rfl ?_
    refine XS.iload X1.here hx rfl (hb hby at_334) rfl ?_
    refine XS.iconst X1.here hx rfl (hb hby at_336) ?_
    refine XS.iadd X1.here hx rfl (hb hby at_337) rfl ?_
    show Steps p.tables e below (T1.setTop (mkF m 338 #[.val (.int p0), .val (.int p1), .val (.int p2), .val (.int p3), .val (.int p4), .val (.int (Int32.ofNat nz)), .val (.int c0), .val (.int c1), .val (.int c2), .val (.int c3), .val (.ref al), .val (.ref tx), .val (.ref rr), .val (.int (Int32.ofNat js)), .val (.int (Int32.ofNat je)), .val (.int (Int32.ofNat k))] [(.int ((Int32.ofNat js) + (2 : Int32))), (.ref al), (.int (own_el c0 c1 c2 c3 (js + 2)))])) _
    rw [own_oadd2 (by omega)]
    show Steps p.tables e below (T1.setTop (mkF m 338 #[.val (.int p0), .val (.int p1), .val (.int p2), .val (.int p3), .val (.int p4), .val (.int (Int32.ofNat nz)), .val (.int c0), .val (.int c1), .val (.int c2), .val (.int c3), .val (.ref al), .val (.ref tx), .val (.ref rr), .val (.int (Int32.ofNat js)), .val (.int (Int32.ofNat je)), .val (.int (Int32.ofNat k))] [(.int (Int32.ofNat (js + 2))), (.ref al), (.int (own_el c0 c1 c2 c3 (js + 2)))])) _
    refine X1.caload hx (j := (Int32.ofNat (js + 2))) (v := (.int (own_el c0 c1 c2 c3 (js + 2)))) (by rw [e1]; exact Ar_338_2.1) (State.isArrayOf_alike hZ.alike Ar_338_2.2.1) Ar_338_2.2.2 hin338_2 hat338_2 (g := (mkF m 338 #[.val (.int p0), .val (.int p1), .val (.int p2), .val (.int p3), .val (.int p4), .val (.int (Int32.ofNat nz)), .val (.int c0), .val (.int c1), .val (.int c2), .val (.int c3), .val (.ref al), .val (.ref tx), .val (.ref rr), .val (.int (Int32.ofNat js)), .val (.int (Int32.ofNat je)), .val (.int (Int32.ofNat k))] [(.int (Int32.ofNat (js + 2))), (.ref al), (.int (own_el c0 c1 c2 c3 (js + 2)))])) rfl rfl (hb hby at_338) _ ?_
    show Steps p.tables e below (T1.setTop (mkF m 339 #[.val (.int p0), .val (.int p1), .val (.int p2), .val (.int p3), .val (.int p4), .val (.int (Int32.ofNat nz)), .val (.int c0), .val (.int c1), .val (.int c2), .val (.int c3), .val (.ref al), .val (.ref tx), .val (.ref rr), .val (.int (Int32.ofNat js)), .val (.int (Int32.ofNat je)), .val (.int (Int32.ofNat k))] [(.int (own_el c0 c1 c2 c3 (js + 2))), (.int (own_el c0 c1 c2 c3 (js + 2)))])) _
    refine XS.icmpYes X1.here hx rfl (pc0 := 339) (pc' := 344) rfl (hb hby at_339) rfl (teq (rfl : (own_el c0 c1 c2 c3 (js + 2)) = (own_el c0 c1 c2 c3 (js + 2)))).1 (by decide) (by decide) ?_
    show Steps p.tables e below (T1.setTop (mkF m 344 #[.val (.int p0), .val (.int p1), .val (.int p2), .val (.int p3), .val (.int p4), .val (.int (Int32.ofNat nz)), .val (.int c0), .val (.int c1), .val (.int c2), .val (.int c3), .val (.ref al), .val (.ref tx), .val (.ref rr), .val (.int (Int32.ofNat js)), .val (.int (Int32.ofNat je)), .val (.int (Int32.ofNat k))] [])) _
    exact kt
  · refine ⟨T0, _, X0, N0, e0, fun target kt => ?_⟩
    show Steps p.tables e below (T0.setTop (mkF m 320 #[.val (.int p0), .val (.int p1), .val (.int p2), .val (.int p3), .val (.int p4), .val (.int (Int32.ofNat nz)), .val (.int c0), .val (.int c1), .val (.int c2), .val (.int c3), .val (.ref al), .val (.ref tx), .val (.ref rr), .val (.int (Int32.ofNat js)), .val (.int (Int32.ofNat je)), .val (.int (Int32.ofNat k))] [])) _
    refine XS.iload X0.here hx rfl (hb hby at_320) rfl ?_
    refine XS.iconst X0.here hx rfl (hb hby at_322) ?_
    show Steps p.tables e below (T0.setTop (mkF m 323 #[.val (.int p0), .val (.int p1), .val (.int p2), .val (.int p3), .val (.int p4), .val (.int (Int32.ofNat nz)), .val (.int c0), .val (.int c1), .val (.int c2), .val (.int c3), .val (.ref al), .val (.ref tx), .val (.ref rr), .val (.int (Int32.ofNat js)), .val (.int (Int32.ofNat je)), .val (.int (Int32.ofNat k))] [(.int (2 : Int32)), (.int (Int32.ofNat k))])) _
    refine XS.icmpYes X0.here hx rfl (pc0 := 323) (pc' := 344) rfl (hb hby at_323) rfl (flt hc323).2.2.2 (by decide) (by decide) ?_
    show Steps p.tables e below (T0.setTop (mkF m 344 #[.val (.int p0), .val (.int p1), .val (.int p2), .val (.int p3), .val (.int p4), .val (.int (Int32.ofNat nz)), .val (.int c0), .val (.int c1), .val (.int c2), .val (.int c3), .val (.ref al), .val (.ref tx), .val (.ref rr), .val (.int (Int32.ofNat js)), .val (.int (Int32.ofNat je)), .val (.int (Int32.ofNat k))] [])) _
    exact kt
set_option maxRecDepth 65536 in
set_option maxHeartbeats 40000000 in
theorem la_c3 {p : Program} {l : Launch} {e : Env} {s : State} {m : MethodId} {args : Array Value} {below : List Frame} {meth : Method} {c : Code} {T0 : State} {locs : List Loc} {Z : State} {a0 : Array Value} {h0 : Heap} {n0 : Nat} (p0 p1 p2 p3 p4 : Int32) (nz : Nat) (c0 c1 c2 c3 : Int32) (al tx rr : Addr) {cells slots : Nat} (js je k : Nat) (b : Addr) (kb : ClassId) (rl : List Value) (cs : Int32) (fm : Value) (ka : ClassId)
    (X0 : Stand p l e room_1 s m args below meth c T0 locs cells slots) (hx : p.tables.exec = Jvm.exec) (hZ : Z.Warmed39 s.vm) (hw : ∀ d ∈ tables_1, d.before a0 Z = true) (hby : c.code = code) (hml : c.maxLocals = 16) (hown : s.vm.findClass "com/example/commitwright/commitwright/http/HeadTrimSpacePinLaw" = some m.cls) (e0 : T0.heap = h0) (Z0 : n0 ≤ h0.size) (N0 : Fr n0 locs) (hz4 : nz ≤ 4) (hcl : cells ≤ room_1.cells) (hsl : slots ≤ room_1.slots) (hk4 : k ≤ 4) (hjs : js ≤ 4) (E_rr : Exa Z h0 rr "java/lang/String") (C_rr : Fld Z h0 rr "java/lang/String" "coder" "B" (.int (0 : Int32))) (V_rr : Fld Z h0 rr "java/lang/String" "value" "[B" (.ref b)) (K_b : Arv Z h0 b kb .byte (Int32.ofNat k) rl (.int (0 : Int32))) (O_0 : Old Z n0 h0) (S_cs : Sta Z Z.heap "java/lang/String" "COMPACT_STRINGS" "Z" (.int cs)) (hcs : ¬ (cs = (0 : Int32))) (S_fm : Sta Z Z.heap "jdk/internal/util/Preconditions" "SIOOBE_FORMATTER" "Ljava/util/function/BiFunction;" fm) (hfm : fm.isRef = true) (V_al : Arv Z h0 al ka .char (4 : Int32) [(.int c0), (.int c1), (.int c2), (.int c3)] (.int (0 : Int32))) (HK : ∀ i, i < k → js + i < 4 ∧ own_ch (own_el c0 c1 c2 c3 (js + i)) ∧ rl.getD i (.int (0 : Int32)) = .int (own_by (own_el c0 c1 c2 c3 (js + i)))) :
    ∃ (T' : State) (locs' : List Loc), Stand p l e room_1 s m args below meth c T' locs' cells slots ∧ Fr n0 locs' ∧ T'.heap = h0 ∧ ∀ target, Steps p.tables e below (T'.setTop (mkF m 368 #[.val (.int p0), .val (.int p1), .val (.int p2), .val (.int p3), .val (.int p4), .val (.int (Int32.ofNat nz)), .val (.int c0), .val (.int c1), .val (.int c2), .val (.int c3), .val (.ref al), .val (.ref tx), .val (.ref rr), .val (.int (Int32.ofNat js)), .val (.int (Int32.ofNat je)), .val (.int (Int32.ofNat k))] [])) target → Steps p.tables e below (T0.setTop (mkF m 344 #[.val (.int p0), .val (.int p1), .val (.int p2), .val (.int p3), .val (.int p4), .val (.int (Int32.ofNat nz)), .val (.int c0), .val (.int c1), .val (.int c2), .val (.int c3), .val (.ref al), .val (.ref tx), .val (.ref rr), .val (.int (Int32.ofNat js)), .val (.int (Int32.ofNat je)), .val (.int (Int32.ofNat k))] [])) target := by
  by_cases hc347 : (3 : Int32) < (Int32.ofNat k)
  · have hk_ : 3 < k := (own_olt (i := 3) (by decide) (by omega)).mp hc347
    obtain ⟨cq1, kq1, q1a, q1b, q1c⟩ := isOf hZ e0 E_rr
    obtain ⟨_, _, ⟨T1, L1, k1, n1⟩, -, X1, ⟨Lc1, hQ1, l1, y1, z1⟩, st1⟩ := X0.virtualBack hx (y := (⟨"java/lang/String", "charAt", "(I)C"⟩ : MethodName)) (z := (⟨"java/lang/String", "charAt", "(I)C"⟩ : MethodName)) hown (mvT hZ (hw _ (List.mem_of_getElem? (i := 124) rfl))) (mvT hZ (hw _ (List.mem_of_getElem? (i := 75) rfl))) (notFace_of_selects (args := #[]) (mvT hZ (hw _ (List.mem_of_getElem? (i := 77) rfl)))) (mvT hZ (hw _ (List.mem_of_getElem? (i := 77) rfl))) (mvT hZ (hw _ (List.mem_of_getElem? (i := 76) rfl))) (by decide) (backOf (W := 0) (rm16 l Z a0 hw [] rr (3 : Int32) b kb (Int32.ofNat k) rl (own_el c0 c1 c2 c3 (js + 3)) cs fm h0 n0 Z0 E_rr C_rr V_rr K_b O_0 S_cs hcs S_fm hfm (by decide) hc347 (HK 3 hk_).2.2 (HK 3 hk_).2.1) hZ (hw _ (List.mem_of_getElem? (i := 78) rfl)) (hw _ (List.mem_of_getElem? (i := 11) rfl)) (by decide) (by decide)) q1a q1c (g := (mkF m 353 #[.val (.int p0), .val (.int p1), .val (.int p2), .val (.int p3), .val (.int p4), .val (.int (Int32.ofNat nz)), .val (.int c0), .val (.int c1), .val (.int c2), .val (.int c3), .val (.ref al), .val (.ref tx), .val (.ref rr), .val (.int (Int32.ofNat js)), .val (.int (Int32.ofNat je)), .val (.int (Int32.ofNat k))] [(.int (3 : Int32)), (.ref rr)])) rfl (by rw [hml]; rfl) (Steps.refl _) (argsL := [(.int (3 : Int32))]) (rest := []) (lenOf pd_28I29C rfl) rfl (by show 2 * 0 + _ ≤ _; exact Nat.le_of_eq rfl) (hb hby at_353) (fun _ _ => ⟨rfl, e0, hcl, hsl⟩)
    dsimp only [Pt.U, Pt.locs, Pt.cells, Pt.slots] at X1 l1 y1 z1 st1 hQ1
    subst l1 y1 z1
    obtain ⟨rfl, N1q, e1⟩ := hQ1
    have N1 := Fr.app N0 N1q
    obtain ⟨cl_362_2, Ar_362_2, -, S_362_2, M_362_2, H_362_2, -⟩ := id V_al
    have hin362_2 : ¬ ((Int32.ofNat (js + 3)) < 0 ∨ cl_362_2.slots.size ≤ ((Int32.ofNat (js + 3))).toNatClampNeg) := inb_of S_362_2 ⟨own_o0 (by have := (HK 3 hk_).1; omega), (own_olt (j := 4) (by have := (HK 3 hk_).1; omega) (by decide)).mpr (HK 3 hk_).1⟩
    have hat362_2 : cl_362_2.slots[((Int32.ofNat (js + 3))).toNatClampNeg]? = some (.int (own_el c0 c1 c2 c3 (js + 3))) := H_362_2.at hin362_2 (by rw [own_oN (by have := (HK 3 hk_).1; omega)]; exact own_elv c0 c1 c2 c3 (HK 3 hk_).1)
    refine ⟨T1, _, X1, N1, e1, fun target kt => ?_⟩
    show Steps p.tables e below (T0.setTop (mkF m 344 #[.val (.int p0), .val (.int p1), .val (.int p2), .val (.int p3), .val (.int p4), .val (.int (Int32.ofNat nz)), .val (.int c0), .val (.int c1), .val (.int c2), .val (.int c3), .val (.ref al), .val (.ref tx), .val (.ref rr), .val (.int (Int32.ofNat js)), .val (.int (Int32.ofNat je)), .val (.int (Int32.ofNat k))] [])) _
    refine XS.iload X0.here hx rfl (hb hby at_344) rfl ?_
    refine XS.iconst X0.here hx rfl (hb hby at_346) ?_
    show Steps p.tables e below (T0.setTop (mkF m 347 #[.val (.int p0), .val (.int p1), .val (.int p2), .val (.int p3), .val (.int p4), .val (.int (Int32.ofNat nz)), .val (.int c0), .val (.int c1), .val (.int c2), .val (.int c3), .val (.ref al), .val (.ref tx), .val (.ref rr), .val (.int (Int32.ofNat js)), .val (.int (Int32.ofNat je)), .val (.int (Int32.ofNat k))] [(.int (3 : Int32)), (.int (Int32.ofNat k))])) _
    refine XS.icmpNo X0.here hx rfl (hb hby at_347) rfl (tlt hc347).2.2.2 ?_
    refine XS.aload X0.here hx rfl (hb hby at_350) rfl rfl ?_
    refine XS.iconst X0.here hx rfl (hb hby at_352) ?_
    show Steps p.tables e below (T0.setTop (mkF m 353 #[.val (.int p0), .val (.int p1), .val (.int p2), .val (.int p3), .val (.int p4), .val (.int (Int32.ofNat nz)), .val (.int c0), .val (.int c1), .val (.int c2), .val (.int c3), .val (.ref al), .val (.ref tx), .val (.ref rr), .val (.int (Int32.ofNat js)), .val (.int (Int32.ofNat je)), .val (.int (Int32.ofNat k))] [(.int (3 : Int32)), (.ref rr)])) _
    refine st1.trans ?_
    show Steps p.tables e below (T1.setTop (mkF m 356 #[.val (.int p0), .val (.int p1), .val (.int p2), .val (.int p3), .val (.int p4), .val (.int (Int32.ofNat nz)), .val (.int c0), .val (.int c1), .val (.int c2), .val (.int c3), .val (.ref al), .val (.ref tx), .val (.ref rr), .val (.int (Int32.ofNat js)), .val (.int (Int32.ofNat je)), .val (.int (Int32.ofNat k))] [(.int (own_el c0 c1 c2 c3 (js + 3)))])) _
    refine XS.aload X1.here hx rfl (hb hby at_356) rfl rfl ?_
    refine XS.iload X1.here hx rfl (hb hby at_358) rfl ?_
    refine XS.iconst X1.here hx rfl (hb hby at_360) ?_
    refine XS.iadd X1.here hx rfl (hb hby at_361) rfl ?_
    show Steps p.tables e below (T1.setTop (mkF m 362 #[.val (.int p0), .val (.int p1), .val (.int p2), .val (.int p3), .val (.int p4), .val (.int (Int32.ofNat nz)), .val (.int c0), .val (.int c1), .val (.int c2), .val (.int c3), .val (.ref al), .val (.ref tx), .val (.ref rr), .val (.int (Int32.ofNat js)), .val (.int (Int32.ofNat je)), .val (.int (Int32.ofNat k))] [(.int ((Int32.ofNat js) + (3 : Int32))), (.ref al), (.int (own_el c0 c1 c2 c3 (js + 3)))])) _
    rw [own_oadd3 (by omega)]
    show Steps p.tables e below (T1.setTop (mkF m 362 #[.val (.int p0), .val (.int p1), .val (.int p2), .val (.int p3), .val (.int p4), .val (.int (Int32.ofNat nz)), .val (.int c0), .val (.int c1), .val (.int c2), .val (.int c3), .val (.ref al), .val (.ref tx), .val (.ref rr), .val (.int (Int32.ofNat js)), .val (.int (Int32.ofNat je)), .val (.int (Int32.ofNat k))] [(.int (Int32.ofNat (js + 3))), (.ref al), (.int (own_el c0 c1 c2 c3 (js + 3)))])) _
    refine X1.caload hx (j := (Int32.ofNat (js + 3))) (v := (.int (own_el c0 c1 c2 c3 (js + 3)))) (by rw [e1]; exact Ar_362_2.1) (State.isArrayOf_alike hZ.alike Ar_362_2.2.1) Ar_362_2.2.2 hin362_2 hat362_2 (g := (mkF m 362 #[.val (.int p0), .val (.int p1), .val (.int p2), .val (.int p3), .val (.int p4), .val (.int (Int32.ofNat nz)), .val (.int c0), .val (.int c1), .val (.int c2), .val (.int c3), .val (.ref al), .val (.ref tx), .val (.ref rr), .val (.int (Int32.ofNat js)), .val (.int (Int32.ofNat je)), .val (.int (Int32.ofNat k))] [(.int (Int32.ofNat (js + 3))), (.ref al), (.int (own_el c0 c1 c2 c3 (js + 3)))])) rfl rfl (hb hby at_362) _ ?_
    show Steps p.tables e below (T1.setTop (mkF m 363 #[.val (.int p0), .val (.int p1), .val (.int p2), .val (.int p3), .val (.int p4), .val (.int (Int32.ofNat nz)), .val (.int c0), .val (.int c1), .val (.int c2), .val (.int c3), .val (.ref al), .val (.ref tx), .val (.ref rr), .val (.int (Int32.ofNat js)), .val (.int (Int32.ofNat je)), .val (.int (Int32.ofNat k))] [(.int (own_el c0 c1 c2 c3 (js + 3))), (.int (own_el c0 c1 c2 c3 (js + 3)))])) _
    refine XS.icmpYes X1.here hx rfl (pc0 := 363) (pc' := 368) rfl (hb hby at_363) rfl (teq (rfl : (own_el c0 c1 c2 c3 (js + 3)) = (own_el c0 c1 c2 c3 (js + 3)))).1 (by decide) (by decide) ?_
    show Steps p.tables e below (T1.setTop (mkF m 368 #[.val (.int p0), .val (.int p1), .val (.int p2), .val (.int p3), .val (.int p4), .val (.int (Int32.ofNat nz)), .val (.int c0), .val (.int c1), .val (.int c2), .val (.int c3), .val (.ref al), .val (.ref tx), .val (.ref rr), .val (.int (Int32.ofNat js)), .val (.int (Int32.ofNat je)), .val (.int (Int32.ofNat k))] [])) _
    exact kt
  · refine ⟨T0, _, X0, N0, e0, fun target kt => ?_⟩
    show Steps p.tables e below (T0.setTop (mkF m 344 #[.val (.int p0), .val (.int p1), .val (.int p2), .val (.int p3), .val (.int p4), .val (.int (Int32.ofNat nz)), .val (.int c0), .val (.int c1), .val (.int c2), .val (.int c3), .val (.ref al), .val (.ref tx), .val (.ref rr), .val (.int (Int32.ofNat js)), .val (.int (Int32.ofNat je)), .val (.int (Int32.ofNat k))] [])) _
    refine XS.iload X0.here hx rfl (hb hby at_344) rfl ?_
    refine XS.iconst X0.here hx rfl (hb hby at_346) ?_
    show Steps p.tables e below (T0.setTop (mkF m 347 #[.val (.int p0), .val (.int p1), .val (.int p2), .val (.int p3), .val (.int p4), .val (.int (Int32.ofNat nz)), .val (.int c0), .val (.int c1), .val (.int c2), .val (.int c3), .val (.ref al), .val (.ref tx), .val (.ref rr), .val (.int (Int32.ofNat js)), .val (.int (Int32.ofNat je)), .val (.int (Int32.ofNat k))] [(.int (3 : Int32)), (.int (Int32.ofNat k))])) _
    refine XS.icmpYes X0.here hx rfl (pc0 := 347) (pc' := 368) rfl (hb hby at_347) rfl (flt hc347).2.2.2 (by decide) (by decide) ?_
    show Steps p.tables e below (T0.setTop (mkF m 368 #[.val (.int p0), .val (.int p1), .val (.int p2), .val (.int p3), .val (.int p4), .val (.int (Int32.ofNat nz)), .val (.int c0), .val (.int c1), .val (.int c2), .val (.int c3), .val (.ref al), .val (.ref tx), .val (.ref rr), .val (.int (Int32.ofNat js)), .val (.int (Int32.ofNat je)), .val (.int (Int32.ofNat k))] [])) _
    exact kt
theorem own_stle {n : Nat} {b0 b1 b2 b3 : Bool} (hn : n ≤ 4) : own_st n b0 b1 b2 b3 ≤ 4 := by
  rw [own_st]
  repeat' split
  all_goals omega
theorem ef_0_p (m : MethodId) (x0 : Int32) (x1 : Int32) (x2 : Int32) (x3 : Int32) (x4 : Int32) : entryFrame m #[(.int x0), (.int x1), (.int x2), (.int x3), (.int x4)] maxLocals = mkF m 0 #[.val (.int x0), .val (.int x1), .val (.int x2), .val (.int x3), .val (.int x4), .unset, .unset, .unset, .unset, .unset, .unset, .unset, .unset, .unset, .unset, .unset] [] := by first | (simp [entryFrame, mkF, argsToLocals, Value.category, maxLocals]; done) | rfl
theorem pd_28ICCCC29Ljava2flang2fString3b : parseMethodDescriptor "(ICCCC)Ljava/lang/String;" = some ⟨[.int, .char, .char, .char, .char], some (.object "java/lang/String")⟩ := by decide +kernel
theorem pd_28Ljava2flang2fString3b29Ljava2flang2fString3b : parseMethodDescriptor "(Ljava/lang/String;)Ljava/lang/String;" = some ⟨[(.object "java/lang/String")], some (.object "java/lang/String")⟩ := by decide +kernel
def Q0_p (Z : State) (p0 : Int32) (p1 : Int32) (p2 : Int32) (p3 : Int32) (p4 : Int32) (nz : Nat) (k : Nat) (cs : Int32) (fm : Value) (h0 : Heap) (n0 : Nat) (v : Option Value) (h : Heap) (L : List Loc) : Prop := v = some (.int 1) ∧ Fr n0 L
set_option maxRecDepth 65536 in
set_option maxHeartbeats 40000000 in
theorem rm0_p (l : Launch) (Z : State) (a0 : Array Value) (hw : ∀ d ∈ tables_1, d.before a0 Z = true) (ws : List Jvm.Cond) (p0 : Int32) (p1 : Int32) (p2 : Int32) (p3 : Int32) (p4 : Int32) (nz : Nat) (k : Nat) (cs : Int32) (fm : Value) (h0 : Heap) (n0 : Nat) (Z0 : n0 ≤ h0.size) (O_0 : Old Z n0 h0) (S_cs : Sta Z Z.heap "java/lang/String" "COMPACT_STRINGS" "Z" (.int cs)) (hcs : ¬ (cs = (0 : Int32))) (S_fm : Sta Z Z.heap "jdk/internal/util/Preconditions" "SIOOBE_FORMATTER" "Ljava/util/function/BiFunction;" fm) (hfm : fm.isRef = true) (hn : own_n5 p0 = (Int32.ofNat nz)) (hz0 : 0 < nz) (hz4 : nz ≤ 4) (htl : own_tail ([(own_chr p1), (own_chr p2), (own_chr p3), (own_chr p4)].take nz) (own_lead ([(own_chr p1), (own_chr p2), (own_chr p3), (own_chr p4)].take nz)) nz = (own_lead ([(own_chr p1), (own_chr p2), (own_chr p3), (own_chr p4)].take nz)) + k) (hz : (own_lead ([(own_chr p1), (own_chr p2), (own_chr p3), (own_chr p4)].take nz)) + k ≤ nz) (hL : own_mx (0 : Int32) ((Int32.ofNat (own_en nz (own_ns (own_chr p1)) (own_ns (own_chr p2)) (own_ns (own_chr p3)) (own_ns (own_chr p4)))) - (Int32.ofNat (own_st nz (own_ns (own_chr p1)) (own_ns (own_chr p2)) (own_ns (own_chr p3)) (own_ns (own_chr p4))))) = (Int32.ofNat k)) (HK0 : ∀ rl : List Value, (∀ i, i < k → rl.getD i (.int (0 : Int32)) = (own_bys ([(own_chr p1), (own_chr p2), (own_chr p3), (own_chr p4)].take nz)).getD ((own_lead ([(own_chr p1), (own_chr p2), (own_chr p3), (own_chr p4)].take nz)) + i) (.int (0 : Int32))) → ∀ i, i < k → (own_st nz (own_ns (own_chr p1)) (own_ns (own_chr p2)) (own_ns (own_chr p3)) (own_ns (own_chr p4))) + i < 4 ∧ own_ch (own_el (own_chr p1) (own_chr p2) (own_chr p3) (own_chr p4) ((own_st nz (own_ns (own_chr p1)) (own_ns (own_chr p2)) (own_ns (own_chr p3)) (own_ns (own_chr p4))) + i)) ∧ rl.getD i (.int (0 : Int32)) = .int (own_by (own_el (own_chr p1) (own_chr p2) (own_chr p3) (own_chr p4) ((own_st nz (own_ns (own_chr p1)) (own_ns (own_chr p2)) (own_ns (own_chr p3)) (own_ns (own_chr p4))) + i)))) (hcase : (0 < k ∧ ¬ ((own_lead ([(own_chr p1), (own_chr p2), (own_chr p3), (own_chr p4)].take nz)) = 0 ∧ (own_lead ([(own_chr p1), (own_chr p2), (own_chr p3), (own_chr p4)].take nz)) + k = nz)) ∨ ((own_lead ([(own_chr p1), (own_chr p2), (own_chr p3), (own_chr p4)].take nz)) = 0 ∧ (own_lead ([(own_chr p1), (own_chr p2), (own_chr p3), (own_chr p4)].take nz)) + k = nz)) :
    MetFree l x (head1 (Jvm.Cond.code x code maxLocals ret :: ws) room_1) (fun a U => a = #[(.int p0), (.int p1), (.int p2), (.int p3), (.int p4)] ∧ Z.Warmed39 U.vm ∧ U.heap = h0 ∧ CHv Z own_EL U.vm h0) (fun _ _ _ _ _ => True) (fun _ U o U' => ∃ v L, o = .returned v ∧ Q0_p Z p0 p1 p2 p3 p4 nz k cs fm h0 n0 v U'.heap L ∧ CHr Z own_EL U.vm U.heap U'.vm U'.heap ∧ ReturnedEndW U o U' L room_1.cells room_1.slots) := by
  refine MetFree.of_bodySF (plainFor_of_name pn_com_example_commitwright_commitwright_http_HeadTrimSpacePinLaw) hisR ?_
  intro p e s m args below meth c s₁ Bd hml0 hP hK
  obtain ⟨rfl, hZ, hh, hCH⟩ := hP
  have hx := Bd.exec
  have hby := Bd.bytes
  have hml : c.maxLocals = 16 := hml0
  have hown : s.vm.findClass "com/example/commitwright/commitwright/http/HeadTrimSpacePinLaw" = some m.cls := findClass_of_methodNamed Bd.named
  have hnm := (name_of_methodNamed Bd.named Bd.method).1
  have X0 : Stand p l e room_1 s m #[(.int p0), (.int p1), (.int p2), (.int p3), (.int p4)] below meth c s₁ [] 0 0 := Stand.of_body Bd
  have e0 : s₁.heap = h0 := by rw [← hh, Bd.state]; rfl
  have N0 := Fr.nil n0
  have pre0 : ∀ t, Steps p.tables e below (s₁.setTop (mkF m 0 #[.val (.int p0), .val (.int p1), .val (.int p2), .val (.int p3), .val (.int p4), .unset, .unset, .unset, .unset, .unset, .unset, .unset, .unset, .unset, .unset, .unset] [])) t → Steps p.tables e below (s₁.setTop (entryFrame m #[(.int p0), (.int p1), (.int p2), (.int p3), (.int p4)] maxLocals)) t := fun tt kt_ => castTop (ef_0_p m p0 p1 p2 p3 p4) kt_
  have CH0 : CHr Z own_EL s.vm h0 s.vm h0 := CHr.refl hCH
  have K0 : Keep h0 h0 [] := Keep.refl h0 []
  obtain ⟨TA, lA, XA, NA, eA, stA⟩ := la_33 p0 p1 p2 p3 p4 nz X0 hx hZ hw hby hml hown e0 Z0 N0 hn
  obtain ⟨T1, h1, k1, X1, e1, E1, A1, st1⟩ := newP XA hx hZ (hw _ (List.mem_of_getElem? (i := 5) rfl)) eA (g := (mkF m 34 #[.val (.int p0), .val (.int p1), .val (.int p2), .val (.int p3), .val (.int p4), .val (.int (Int32.ofNat nz)), .val (.int (own_chr p1)), .val (.int (own_chr p2)), .val (.int (own_chr p3)), .val (.int (own_chr p4)), .unset, .unset, .unset, .unset, .unset, .unset] [(.int (4 : Int32))])) rfl (hb hby at_34) rfl (by decide) (cap := 4) (by decide) (by decide) (by decide) (by decide)
  obtain ⟨b1, g1⟩ : ∃ z, z = h0.size := ⟨_, rfl⟩
  rw [← g1] at A1 st1
  have g_b1 : n0 ≤ b1 := Nat.le_trans Z0 (Nat.le_of_eq g1.symm)
  have sz_b1 : h0.size ≤ b1 := Nat.le_trans K0.1 (Nat.le_of_eq g1.symm)
  have CH1 : CHr Z own_EL s.vm h0 s.vm h1 := CH0.trans (CHr.ext E1 CH0.1)
  have O_0_at1 : Old Z n0 h1 := O_0.ext E1
  have K1 : Keep h0 h1 [] := K0.ext E1
  have Z1 : n0 ≤ h1.size := Nat.le_trans Z0 E1.1
  have xV_b1_at1 := (Arv.new A1 (by decide)).pad (pad_rep [] (.int (0 : Int32)) 4)
  have V_b1_at1 : Arv Z h1 b1 k1 .char (4 : Int32) [(.int (0 : Int32)), (.int (0 : Int32)), (.int (0 : Int32)), (.int (0 : Int32))] (.int (0 : Int32)) := xV_b1_at1
  obtain ⟨cl_40_2, Ar_40_2, q_40_2, S_40_2, N_40_2, H_40_2, G_40_2⟩ := id V_b1_at1
  have hin40_2 : ¬ ((0 : Int32) < 0 ∨ cl_40_2.slots.size ≤ ((0 : Int32)).toNatClampNeg) := inb_of S_40_2 ⟨by decide, by decide⟩
  obtain ⟨T3, h3, X3, e3, W3, st3⟩ := stC X1 hx hZ e1 Ar_40_2 (j := (0 : Int32)) hin40_2 (g := (mkF m 40 #[.val (.int p0), .val (.int p1), .val (.int p2), .val (.int p3), .val (.int p4), .val (.int (Int32.ofNat nz)), .val (.int (own_chr p1)), .val (.int (own_chr p2)), .val (.int (own_chr p3)), .val (.int (own_chr p4)), .unset, .unset, .unset, .unset, .unset, .unset] [(.int (own_chr p1)), (.int (0 : Int32)), (.ref b1), (.ref b1)])) rfl rfl (hb hby at_40)
  rw [own_cc (own_chI p1)] at W3
  have CH3 : CHr Z own_EL s.vm h0 s.vm h3 := CH1.trans (CHr.wr W3 (Safe.arr hZ.alike Ar_40_2 (by decide)) CH1.1)
  have O_0_at3 : Old Z n0 h3 := O_0_at1.wr W3 g_b1
  have xV_b1_at3 := Arv.set Ar_40_2 q_40_2 S_40_2 N_40_2 H_40_2 G_40_2 (own_fc (own_chI p1)) W3 0 rfl (Nat.le_of_ble_eq_true rfl)
  have V_b1_at3 : Arv Z h3 b1 k1 .char (4 : Int32) [(.int (own_chr p1)), (.int (0 : Int32)), (.int (0 : Int32)), (.int (0 : Int32))] (.int (0 : Int32)) := xV_b1_at3
  have K3 : Keep h0 h3 [] := K1.wr W3 (Or.inr sz_b1)
  have Z3 : n0 ≤ h3.size := Nat.le_trans Z1 (Keep.of_wr W3).1
  have N3 := Fr.snoc X3 NA g_b1
  obtain ⟨cl_45_4, Ar_45_4, q_45_4, S_45_4, N_45_4, H_45_4, G_45_4⟩ := id V_b1_at3
  have hin45_4 : ¬ ((1 : Int32) < 0 ∨ cl_45_4.slots.size ≤ ((1 : Int32)).toNatClampNeg) := inb_of S_45_4 ⟨by decide, by decide⟩
  obtain ⟨T5, h5, X5, e5, W5, st5⟩ := stC X3 hx hZ e3 Ar_45_4 (j := (1 : Int32)) hin45_4 (g := (mkF m 45 #[.val (.int p0), .val (.int p1), .val (.int p2), .val (.int p3), .val (.int p4), .val (.int (Int32.ofNat nz)), .val (.int (own_chr p1)), .val (.int (own_chr p2)), .val (.int (own_chr p3)), .val (.int (own_chr p4)), .unset, .unset, .unset, .unset, .unset, .unset] [(.int (own_chr p2)), (.int (1 : Int32)), (.ref b1), (.ref b1)])) rfl rfl (hb hby at_45)
  rw [own_cc (own_chI p2)] at W5
  have CH5 : CHr Z own_EL s.vm h0 s.vm h5 := CH3.trans (CHr.wr W5 (Safe.arr hZ.alike Ar_45_4 (by decide)) CH3.1)
  have O_0_at5 : Old Z n0 h5 := O_0_at3.wr W5 g_b1
  have xV_b1_at5 := Arv.set Ar_45_4 q_45_4 S_45_4 N_45_4 H_45_4 G_45_4 (own_fc (own_chI p2)) W5 1 rfl (Nat.le_of_ble_eq_true rfl)
  have V_b1_at5 : Arv Z h5 b1 k1 .char (4 : Int32) [(.int (own_chr p1)), (.int (own_chr p2)), (.int (0 : Int32)), (.int (0 : Int32))] (.int (0 : Int32)) := xV_b1_at5
  have K5 : Keep h0 h5 [] := K3.wr W5 (Or.inr sz_b1)
  have Z5 : n0 ≤ h5.size := Nat.le_trans Z3 (Keep.of_wr W5).1
  have N5 := Fr.snoc X5 N3 g_b1
  obtain ⟨cl_50_6, Ar_50_6, q_50_6, S_50_6, N_50_6, H_50_6, G_50_6⟩ := id V_b1_at5
  have hin50_6 : ¬ ((2 : Int32) < 0 ∨ cl_50_6.slots.size ≤ ((2 : Int32)).toNatClampNeg) := inb_of S_50_6 ⟨by decide, by decide⟩
  obtain ⟨T7, h7, X7, e7, W7, st7⟩ := stC X5 hx hZ e5 Ar_50_6 (j := (2 : Int32)) hin50_6 (g := (mkF m 50 #[.val (.int p0), .val (.int p1), .val (.int p2), .val (.int p3), .val (.int p4), .val (.int (Int32.ofNat nz)), .val (.int (own_chr p1)), .val (.int (own_chr p2)), .val (.int (own_chr p3)), .val (.int (own_chr p4)), .unset, .unset, .unset, .unset, .unset, .unset] [(.int (own_chr p3)), (.int (2 : Int32)), (.ref b1), (.ref b1)])) rfl rfl (hb hby at_50)
  rw [own_cc (own_chI p3)] at W7
  have CH7 : CHr Z own_EL s.vm h0 s.vm h7 := CH5.trans (CHr.wr W7 (Safe.arr hZ.alike Ar_50_6 (by decide)) CH5.1)
  have O_0_at7 : Old Z n0 h7 := O_0_at5.wr W7 g_b1
  have xV_b1_at7 := Arv.set Ar_50_6 q_50_6 S_50_6 N_50_6 H_50_6 G_50_6 (own_fc (own_chI p3)) W7 2 rfl (Nat.le_of_ble_eq_true rfl)
  have V_b1_at7 : Arv Z h7 b1 k1 .char (4 : Int32) [(.int (own_chr p1)), (.int (own_chr p2)), (.int (own_chr p3)), (.int (0 : Int32))] (.int (0 : Int32)) := xV_b1_at7
  have K7 : Keep h0 h7 [] := K5.wr W7 (Or.inr sz_b1)
  have Z7 : n0 ≤ h7.size := Nat.le_trans Z5 (Keep.of_wr W7).1
  have N7 := Fr.snoc X7 N5 g_b1
  obtain ⟨cl_55_8, Ar_55_8, q_55_8, S_55_8, N_55_8, H_55_8, G_55_8⟩ := id V_b1_at7
  have hin55_8 : ¬ ((3 : Int32) < 0 ∨ cl_55_8.slots.size ≤ ((3 : Int32)).toNatClampNeg) := inb_of S_55_8 ⟨by decide, by decide⟩
  obtain ⟨T9, h9, X9, e9, W9, st9⟩ := stC X7 hx hZ e7 Ar_55_8 (j := (3 : Int32)) hin55_8 (g := (mkF m 55 #[.val (.int p0), .val (.int p1), .val (.int p2), .val (.int p3), .val (.int p4), .val (.int (Int32.ofNat nz)), .val (.int (own_chr p1)), .val (.int (own_chr p2)), .val (.int (own_chr p3)), .val (.int (own_chr p4)), .unset, .unset, .unset, .unset, .unset, .unset] [(.int (own_chr p4)), (.int (3 : Int32)), (.ref b1), (.ref b1)])) rfl rfl (hb hby at_55)
  rw [own_cc (own_chI p4)] at W9
  have CH9 : CHr Z own_EL s.vm h0 s.vm h9 := CH7.trans (CHr.wr W9 (Safe.arr hZ.alike Ar_55_8 (by decide)) CH7.1)
  have O_0_at9 : Old Z n0 h9 := O_0_at7.wr W9 g_b1
  have xV_b1_at9 := Arv.set Ar_55_8 q_55_8 S_55_8 N_55_8 H_55_8 G_55_8 (own_fc (own_chI p4)) W9 3 rfl (Nat.le_of_ble_eq_true rfl)
  have V_b1_at9 : Arv Z h9 b1 k1 .char (4 : Int32) [(.int (own_chr p1)), (.int (own_chr p2)), (.int (own_chr p3)), (.int (own_chr p4))] (.int (0 : Int32)) := xV_b1_at9
  have K9 : Keep h0 h9 [] := K7.wr W9 (Or.inr sz_b1)
  have Z9 : n0 ≤ h9.size := Nat.le_trans Z7 (Keep.of_wr W9).1
  have N9 := Fr.snoc X9 N7 g_b1
  obtain ⟨_, _, ⟨T10, L10, k10, n10⟩, -, X10, ⟨Lc10, hQ10, l10, y10, z10⟩, st10⟩ := Jvm.LawKit.callS X9 hx (y := (⟨"com/example/commitwright/commitwright/http/HeadTrimSpacePinLaw", "make", "(ICCCC)Ljava/lang/String;"⟩ : MethodName)) hown (mvT hZ (hw _ (List.mem_of_getElem? (i := 6) rfl))) (mvT hZ (hw _ (List.mem_of_getElem? (i := 7) rfl))) (mvT hZ (hw _ (List.mem_of_getElem? (i := 3) rfl))) (mvT hZ (hw _ (List.mem_of_getElem? (i := 8) rfl))) (by decide) (backOf (W := 0) (rm2m l Z a0 hw [] nz (own_chr p1) (own_chr p2) (own_chr p3) (own_chr p4) cs h9 n0 Z9 O_0_at9 S_cs hcs (own_chI p1) (own_chI p2) (own_chI p3) (own_chI p4) hz0 hz4) hZ (hw _ (List.mem_of_getElem? (i := 8) rfl)) (hw _ (List.mem_of_getElem? (i := 3) rfl)) (by decide) (by decide)) (g := (mkF m 68 #[.val (.int p0), .val (.int p1), .val (.int p2), .val (.int p3), .val (.int p4), .val (.int (Int32.ofNat nz)), .val (.int (own_chr p1)), .val (.int (own_chr p2)), .val (.int (own_chr p3)), .val (.int (own_chr p4)), .val (.ref b1), .unset, .unset, .unset, .unset, .unset] [(.int (own_chr p4)), (.int (own_chr p3)), (.int (own_chr p2)), (.int (own_chr p1)), (.int (Int32.ofNat nz))])) rfl (by rw [hml]; rfl) (argsL := [(.int (Int32.ofNat nz)), (.int (own_chr p1)), (.int (own_chr p2)), (.int (own_chr p3)), (.int (own_chr p4))]) (rest := []) (lenOf pd_28ICCCC29Ljava2flang2fString3b rfl) rfl (by show 2 * 0 + _ ≤ _; exact Nat.le_of_eq rfl) (hb hby at_68) (fun _ _ => ⟨rfl, e9, (by decide : 1 + 3 ≤ _), (by decide : 4 + 12 ≤ _)⟩)
  dsimp only [Pt.U, Pt.locs, Pt.cells, Pt.slots] at X10 l10 y10 z10 st10 hQ10
  subst l10 y10 z10
  obtain ⟨r10, b10, kb10, rfl, N10q, KK10, ER10, FC10, FV10, VB10⟩ := hQ10
  obtain ⟨h10, e10⟩ : ∃ z, T10.heap = z := ⟨_, rfl⟩
  rw [e10] at KK10 ER10 FC10 FV10 VB10
  have O_0_at10 : Old Z n0 h10 := O_0_at9.keep KK10 all0
  have V_b1_at10 : Arv Z h10 b1 k1 .char (4 : Int32) [(.int (own_chr p1)), (.int (own_chr p2)), (.int (own_chr p3)), (.int (own_chr p4))] (.int (0 : Int32)) := V_b1_at9.keep KK10 nin0
  have CH10 : CHr Z own_EL s.vm h0 s.vm h10 := CH9.trans (CHr.keep KK10 all0 CH9.1)
  have K10 : Keep h0 h10 [] := K9.trans KK10 all0
  have Z10 : n0 ≤ h10.size := Nat.le_trans Z9 KK10.1
  have hlen : ([(own_chr p1), (own_chr p2), (own_chr p3), (own_chr p4)].take nz).length = nz := own_xlen (own_chr p1) (own_chr p2) (own_chr p3) (own_chr p4) hz4
  have KT10 : Arv Z h10 b10 kb10 .byte (Int32.ofNat ([(own_chr p1), (own_chr p2), (own_chr p3), (own_chr p4)].take nz).length) (own_bys ([(own_chr p1), (own_chr p2), (own_chr p3), (own_chr p4)].take nz)) (.int (0 : Int32)) := by rw [hlen]; exact VB10
  have N10 := Fr.app N9 N10q
  obtain ⟨_, _, ⟨T11, L11, k11, n11⟩, -, X11, ⟨Lc11, hQ11, l11, y11, z11⟩, st11⟩ := Jvm.LawKit.callS X10 hx (y := (⟨"com/example/commitwright/commitwright/http/Head", "trimSpace", "(Ljava/lang/String;)Ljava/lang/String;"⟩ : MethodName)) hown (mvT hZ (hw _ (List.mem_of_getElem? (i := 30) rfl))) (mvT hZ (hw _ (List.mem_of_getElem? (i := 31) rfl))) (mvT hZ (hw _ (List.mem_of_getElem? (i := 32) rfl))) (mvT hZ (hw _ (List.mem_of_getElem? (i := 33) rfl))) (by decide) (backOf (W := 0) (rm6_p l Z a0 hw [] r10 b10 kb10 ([(own_chr p1), (own_chr p2), (own_chr p3), (own_chr p4)].take nz) (own_lead ([(own_chr p1), (own_chr p2), (own_chr p3), (own_chr p4)].take nz)) k cs fm h10 n0 Z10 ER10 FC10 FV10 KT10 O_0_at10 S_cs hcs S_fm hfm (Nat.le_trans (Nat.le_of_eq hlen) hz4) (own_xch (own_chI p1) (own_chI p2) (own_chI p3) (own_chI p4) hz4) rfl (by rw [hlen]; exact htl) (by rw [hlen]; exact hz) (by rw [hlen]; exact hcase)) hZ (hw _ (List.mem_of_getElem? (i := 33) rfl)) (hw _ (List.mem_of_getElem? (i := 32) rfl)) (by decide) (by decide)) (g := (mkF m 75 #[.val (.int p0), .val (.int p1), .val (.int p2), .val (.int p3), .val (.int p4), .val (.int (Int32.ofNat nz)), .val (.int (own_chr p1)), .val (.int (own_chr p2)), .val (.int (own_chr p3)), .val (.int (own_chr p4)), .val (.ref b1), .val (.ref r10), .unset, .unset, .unset, .unset] [(.ref r10)])) rfl (by rw [hml]; rfl) (argsL := [(.ref r10)]) (rest := []) (lenOf pd_28Ljava2flang2fString3b29Ljava2flang2fString3b rfl) rfl (by show 2 * 0 + _ ≤ _; exact Nat.le_of_eq rfl) (hb hby at_75) (fun _ _ => ⟨rfl, e10, (by decide : 4 + 2 ≤ _), (by decide : 16 + 8 ≤ _)⟩)
  dsimp only [Pt.U, Pt.locs, Pt.cells, Pt.slots] at X11 l11 y11 z11 st11 hQ11
  subst l11 y11 z11
  obtain ⟨r11, b11, kb11, rl11, rfl, N11q, KK11, ER11, FC11, FV11, VB11, hP11⟩ := hQ11
  obtain ⟨h11, e11⟩ : ∃ z, T11.heap = z := ⟨_, rfl⟩
  rw [e11] at KK11 ER11 FC11 FV11 VB11
  have O_0_at11 : Old Z n0 h11 := O_0_at10.keep KK11 all0
  have V_b1_at11 : Arv Z h11 b1 k1 .char (4 : Int32) [(.int (own_chr p1)), (.int (own_chr p2)), (.int (own_chr p3)), (.int (own_chr p4))] (.int (0 : Int32)) := V_b1_at10.keep KK11 nin0
  have ER10_at11 : Exa Z h11 r10 "java/lang/String" := ER10.keep KK11
  have FC10_at11 : Fld Z h11 r10 "java/lang/String" "coder" "B" (.int (0 : Int32)) := FC10.keep KK11 nin0
  have FV10_at11 : Fld Z h11 r10 "java/lang/String" "value" "[B" (.ref b10) := FV10.keep KK11 nin0
  have KT10_at11 : Arv Z h11 b10 kb10 .byte (Int32.ofNat ([(own_chr p1), (own_chr p2), (own_chr p3), (own_chr p4)].take nz).length) (own_bys ([(own_chr p1), (own_chr p2), (own_chr p3), (own_chr p4)].take nz)) (.int (0 : Int32)) := KT10.keep KK11 nin0
  have CH11 : CHr Z own_EL s.vm h0 s.vm h11 := CH10.trans (CHr.keep KK11 all0 CH10.1)
  have K11 : Keep h0 h11 [] := K10.trans KK11 all0
  have Z11 : n0 ≤ h11.size := Nat.le_trans Z10 KK11.1
  have N11 := Fr.app N10 N11q
  have HKf := HK0 rl11 hP11
  have hjs : (own_st nz (own_ns (own_chr p1)) (own_ns (own_chr p2)) (own_ns (own_chr p3)) (own_ns (own_chr p4))) ≤ 4 := own_stle hz4
  have hk4 : k ≤ 4 := by have := Nat.le_trans hz hz4; omega
  obtain ⟨T12, l12, X12, N12, e12, st12⟩ := la_s0 p0 p1 p2 p3 p4 nz (own_chr p1) (own_chr p2) (own_chr p3) (own_chr p4) b1 r10 r11  X11 hx hZ hw hby hml hown e11 Z11 N11 hz4 (by decide) (by decide)
  rw [show (own_s0 nz (own_ns (own_chr p1)) (own_ns (own_chr p2)) (own_ns (own_chr p3)) (own_ns (own_chr p4))) = (own_st nz (own_ns (own_chr p1)) (own_ns (own_chr p2)) (own_ns (own_chr p3)) (own_ns (own_chr p4))) from rfl] at st12
  obtain ⟨T13, l13, X13, N13, e13, st13⟩ := la_t0 p0 p1 p2 p3 p4 nz (own_chr p1) (own_chr p2) (own_chr p3) (own_chr p4) b1 r10 r11 (own_st nz (own_ns (own_chr p1)) (own_ns (own_chr p2)) (own_ns (own_chr p3)) (own_ns (own_chr p4))) X12 hx hZ hw hby hml hown e12 Z11 N12 hz4 (by decide) (by decide)
  rw [show (own_t0 nz (own_ns (own_chr p4)) (own_ns (own_chr p3)) (own_ns (own_chr p2)) (own_ns (own_chr p1))) = (own_en nz (own_ns (own_chr p1)) (own_ns (own_chr p2)) (own_ns (own_chr p3)) (own_ns (own_chr p4))) from rfl] at st13
  obtain ⟨T14, l14, X14, N14, e14, st14⟩ := la_mx p0 p1 p2 p3 p4 nz (own_chr p1) (own_chr p2) (own_chr p3) (own_chr p4) b1 r10 r11 (own_st nz (own_ns (own_chr p1)) (own_ns (own_chr p2)) (own_ns (own_chr p3)) (own_ns (own_chr p4))) (own_en nz (own_ns (own_chr p1)) (own_ns (own_chr p2)) (own_ns (own_chr p3)) (own_ns (own_chr p4))) k X13 hx hZ hw hby hml hown e13 Z11 N13 hz4 (by decide) (by decide) hL
  obtain ⟨T15, l15, X15, N15, e15, st15⟩ := la_len p0 p1 p2 p3 p4 nz (own_chr p1) (own_chr p2) (own_chr p3) (own_chr p4) b1 r10 r11 (own_st nz (own_ns (own_chr p1)) (own_ns (own_chr p2)) (own_ns (own_chr p3)) (own_ns (own_chr p4))) (own_en nz (own_ns (own_chr p1)) (own_ns (own_chr p2)) (own_ns (own_chr p3)) (own_ns (own_chr p4))) k b11 kb11 rl11 cs fm X14 hx hZ hw hby hml hown e14 Z11 N14 hz4 (by decide) (by decide) hk4 hjs ER11 FC11 FV11 VB11 O_0_at11 S_cs hcs S_fm hfm
  obtain ⟨T16, l16, X16, N16, e16, st16⟩ := la_c0 p0 p1 p2 p3 p4 nz (own_chr p1) (own_chr p2) (own_chr p3) (own_chr p4) b1 r10 r11 (own_st nz (own_ns (own_chr p1)) (own_ns (own_chr p2)) (own_ns (own_chr p3)) (own_ns (own_chr p4))) (own_en nz (own_ns (own_chr p1)) (own_ns (own_chr p2)) (own_ns (own_chr p3)) (own_ns (own_chr p4))) k b11 kb11 rl11 cs fm k1 X15 hx hZ hw hby hml hown e15 Z11 N15 hz4 (by decide) (by decide) hk4 hjs ER11 FC11 FV11 VB11 O_0_at11 S_cs hcs S_fm hfm V_b1_at11 HKf
  obtain ⟨T17, l17, X17, N17, e17, st17⟩ := la_c1 p0 p1 p2 p3 p4 nz (own_chr p1) (own_chr p2) (own_chr p3) (own_chr p4) b1 r10 r11 (own_st nz (own_ns (own_chr p1)) (own_ns (own_chr p2)) (own_ns (own_chr p3)) (own_ns (own_chr p4))) (own_en nz (own_ns (own_chr p1)) (own_ns (own_chr p2)) (own_ns (own_chr p3)) (own_ns (own_chr p4))) k b11 kb11 rl11 cs fm k1 X16 hx hZ hw hby hml hown e16 Z11 N16 hz4 (by decide) (by decide) hk4 hjs ER11 FC11 FV11 VB11 O_0_at11 S_cs hcs S_fm hfm V_b1_at11 HKf
  obtain ⟨T18, l18, X18, N18, e18, st18⟩ := la_c2 p0 p1 p2 p3 p4 nz (own_chr p1) (own_chr p2) (own_chr p3) (own_chr p4) b1 r10 r11 (own_st nz (own_ns (own_chr p1)) (own_ns (own_chr p2)) (own_ns (own_chr p3)) (own_ns (own_chr p4))) (own_en nz (own_ns (own_chr p1)) (own_ns (own_chr p2)) (own_ns (own_chr p3)) (own_ns (own_chr p4))) k b11 kb11 rl11 cs fm k1 X17 hx hZ hw hby hml hown e17 Z11 N17 hz4 (by decide) (by decide) hk4 hjs ER11 FC11 FV11 VB11 O_0_at11 S_cs hcs S_fm hfm V_b1_at11 HKf
  obtain ⟨T19, l19, X19, N19, e19, st19⟩ := la_c3 p0 p1 p2 p3 p4 nz (own_chr p1) (own_chr p2) (own_chr p3) (own_chr p4) b1 r10 r11 (own_st nz (own_ns (own_chr p1)) (own_ns (own_chr p2)) (own_ns (own_chr p3)) (own_ns (own_chr p4))) (own_en nz (own_ns (own_chr p1)) (own_ns (own_chr p2)) (own_ns (own_chr p3)) (own_ns (own_chr p4))) k b11 kb11 rl11 cs fm k1 X18 hx hZ hw hby hml hown e18 Z11 N18 hz4 (by decide) (by decide) hk4 hjs ER11 FC11 FV11 VB11 O_0_at11 S_cs hcs S_fm hfm V_b1_at11 HKf
  have CHe : CHr Z own_EL s.vm s.heap T19.vm T19.heap := by
    have q := CH11.trans (CHv.at (s := s) (vm0 := s.vm) X19 hZ (own_EW hw) CH11.1)
    rw [hh, e19]
    exact q
  obtain ⟨fs, hr, hrun, hended, hW, hsame⟩ := X19.leave (v := some (.int (1 : Int32))) (fun h => by rw [Bd.returns] at h; cases h)
  refine ⟨_, _, pre0 _ ?_, hrun, hended, _, _, rfl, ?_, CHe, ReturnedEndW.of_narrow ⟨_, rfl⟩ hW (hsame.mono (by decide) (by decide))⟩
  · show Steps p.tables e below (s₁.setTop (mkF m 0 #[.val (.int p0), .val (.int p1), .val (.int p2), .val (.int p3), .val (.int p4), .unset, .unset, .unset, .unset, .unset, .unset, .unset, .unset, .unset, .unset, .unset] [])) _
    refine stA _ ?_
    show Steps p.tables e below (TA.setTop (mkF m 33 #[.val (.int p0), .val (.int p1), .val (.int p2), .val (.int p3), .val (.int p4), .val (.int (Int32.ofNat nz)), .val (.int (own_chr p1)), .val (.int (own_chr p2)), .val (.int (own_chr p3)), .val (.int (own_chr p4)), .unset, .unset, .unset, .unset, .unset, .unset] [])) _
    refine XS.iconst XA.here hx rfl (hb hby at_33) ?_
    show Steps p.tables e below (TA.setTop (mkF m 34 #[.val (.int p0), .val (.int p1), .val (.int p2), .val (.int p3), .val (.int p4), .val (.int (Int32.ofNat nz)), .val (.int (own_chr p1)), .val (.int (own_chr p2)), .val (.int (own_chr p3)), .val (.int (own_chr p4)), .unset, .unset, .unset, .unset, .unset, .unset] [(.int (4 : Int32))])) _
    refine st1 _ ?_
    show Steps p.tables e below (T1.setTop (mkF m 36 #[.val (.int p0), .val (.int p1), .val (.int p2), .val (.int p3), .val (.int p4), .val (.int (Int32.ofNat nz)), .val (.int (own_chr p1)), .val (.int (own_chr p2)), .val (.int (own_chr p3)), .val (.int (own_chr p4)), .unset, .unset, .unset, .unset, .unset, .unset] [(.ref b1)])) _
    refine XS.dup X1.here hx rfl (hb hby at_36) rfl rfl ?_
    refine XS.iconst X1.here hx rfl (hb hby at_37) ?_
    refine XS.iload X1.here hx rfl (hb hby at_38) rfl ?_
    show Steps p.tables e below (T1.setTop (mkF m 40 #[.val (.int p0), .val (.int p1), .val (.int p2), .val (.int p3), .val (.int p4), .val (.int (Int32.ofNat nz)), .val (.int (own_chr p1)), .val (.int (own_chr p2)), .val (.int (own_chr p3)), .val (.int (own_chr p4)), .unset, .unset, .unset, .unset, .unset, .unset] [(.int (own_chr p1)), (.int (0 : Int32)), (.ref b1), (.ref b1)])) _
    refine st3 _ ?_
    show Steps p.tables e below (T3.setTop (mkF m 41 #[.val (.int p0), .val (.int p1), .val (.int p2), .val (.int p3), .val (.int p4), .val (.int (Int32.ofNat nz)), .val (.int (own_chr p1)), .val (.int (own_chr p2)), .val (.int (own_chr p3)), .val (.int (own_chr p4)), .unset, .unset, .unset, .unset, .unset, .unset] [(.ref b1)])) _
    refine XS.dup X3.here hx rfl (hb hby at_41) rfl rfl ?_
    refine XS.iconst X3.here hx rfl (hb hby at_42) ?_
    refine XS.iload X3.here hx rfl (hb hby at_43) rfl ?_
    show Steps p.tables e below (T3.setTop (mkF m 45 #[.val (.int p0), .val (.int p1), .val (.int p2), .val (.int p3), .val (.int p4), .val (.int (Int32.ofNat nz)), .val (.int (own_chr p1)), .val (.int (own_chr p2)), .val (.int (own_chr p3)), .val (.int (own_chr p4)), .unset, .unset, .unset, .unset, .unset, .unset] [(.int (own_chr p2)), (.int (1 : Int32)), (.ref b1), (.ref b1)])) _
    refine st5 _ ?_
    show Steps p.tables e below (T5.setTop (mkF m 46 #[.val (.int p0), .val (.int p1), .val (.int p2), .val (.int p3), .val (.int p4), .val (.int (Int32.ofNat nz)), .val (.int (own_chr p1)), .val (.int (own_chr p2)), .val (.int (own_chr p3)), .val (.int (own_chr p4)), .unset, .unset, .unset, .unset, .unset, .unset] [(.ref b1)])) _
    refine XS.dup X5.here hx rfl (hb hby at_46) rfl rfl ?_
    refine XS.iconst X5.here hx rfl (hb hby at_47) ?_
    refine XS.iload X5.here hx rfl (hb hby at_48) rfl ?_
    show Steps p.tables e below (T5.setTop (mkF m 50 #[.val (.int p0), .val (.int p1), .val (.int p2), .val (.int p3), .val (.int p4), .val (.int (Int32.ofNat nz)), .val (.int (own_chr p1)), .val (.int (own_chr p2)), .val (.int (own_chr p3)), .val (.int (own_chr p4)), .unset, .unset, .unset, .unset, .unset, .unset] [(.int (own_chr p3)), (.int (2 : Int32)), (.ref b1), (.ref b1)])) _
    refine st7 _ ?_
    show Steps p.tables e below (T7.setTop (mkF m 51 #[.val (.int p0), .val (.int p1), .val (.int p2), .val (.int p3), .val (.int p4), .val (.int (Int32.ofNat nz)), .val (.int (own_chr p1)), .val (.int (own_chr p2)), .val (.int (own_chr p3)), .val (.int (own_chr p4)), .unset, .unset, .unset, .unset, .unset, .unset] [(.ref b1)])) _
    refine XS.dup X7.here hx rfl (hb hby at_51) rfl rfl ?_
    refine XS.iconst X7.here hx rfl (hb hby at_52) ?_
    refine XS.iload X7.here hx rfl (hb hby at_53) rfl ?_
    show Steps p.tables e below (T7.setTop (mkF m 55 #[.val (.int p0), .val (.int p1), .val (.int p2), .val (.int p3), .val (.int p4), .val (.int (Int32.ofNat nz)), .val (.int (own_chr p1)), .val (.int (own_chr p2)), .val (.int (own_chr p3)), .val (.int (own_chr p4)), .unset, .unset, .unset, .unset, .unset, .unset] [(.int (own_chr p4)), (.int (3 : Int32)), (.ref b1), (.ref b1)])) _
    refine st9 _ ?_
    show Steps p.tables e below (T9.setTop (mkF m 56 #[.val (.int p0), .val (.int p1), .val (.int p2), .val (.int p3), .val (.int p4), .val (.int (Int32.ofNat nz)), .val (.int (own_chr p1)), .val (.int (own_chr p2)), .val (.int (own_chr p3)), .val (.int (own_chr p4)), .unset, .unset, .unset, .unset, .unset, .unset] [(.ref b1)])) _
    refine XS.astore X9.here hx rfl (hb hby at_56) rfl rfl (l' := #[.val (.int p0), .val (.int p1), .val (.int p2), .val (.int p3), .val (.int p4), .val (.int (Int32.ofNat nz)), .val (.int (own_chr p1)), .val (.int (own_chr p2)), .val (.int (own_chr p3)), .val (.int (own_chr p4)), .val (.ref b1), .unset, .unset, .unset, .unset, .unset]) rfl ?_
    refine XS.iload X9.here hx rfl (hb hby at_58) rfl ?_
    refine XS.iload X9.here hx rfl (hb hby at_60) rfl ?_
    refine XS.iload X9.here hx rfl (hb hby at_62) rfl ?_
    show Steps p.tables e below (T9.setTop (mkF m 64 #[.val (.int p0), .val (.int p1), .val (.int p2), .val (.int p3), .val (.int p4), .val (.int (Int32.ofNat nz)), .val (.int (own_chr p1)), .val (.int (own_chr p2)), .val (.int (own_chr p3)), .val (.int (own_chr p4)), .val (.ref b1), .unset, .unset, .unset, .unset, .unset] [(.int (own_chr p2)), (.int (own_chr p1)), (.int (Int32.ofNat nz))])) _
    refine XS.iload X9.here hx rfl (hb hby at_64) rfl ?_
    refine XS.iload X9.here hx rfl (hb hby at_66) rfl ?_
    show Steps p.tables e below (T9.setTop (mkF m 68 #[.val (.int p0), .val (.int p1), .val (.int p2), .val (.int p3), .val (.int p4), .val (.int (Int32.ofNat nz)), .val (.int (own_chr p1)), .val (.int (own_chr p2)), .val (.int (own_chr p3)), .val (.int (own_chr p4)), .val (.ref b1), .unset, .unset, .unset, .unset, .unset] [(.int (own_chr p4)), (.int (own_chr p3)), (.int (own_chr p2)), (.int (own_chr p1)), (.int (Int32.ofNat nz))])) _
    refine st10 _ ?_
    show Steps p.tables e below (T10.setTop (mkF m 71 #[.val (.int p0), .val (.int p1), .val (.int p2), .val (.int p3), .val (.int p4), .val (.int (Int32.ofNat nz)), .val (.int (own_chr p1)), .val (.int (own_chr p2)), .val (.int (own_chr p3)), .val (.int (own_chr p4)), .val (.ref b1), .unset, .unset, .unset, .unset, .unset] [(.ref r10)])) _
    refine XS.astore X10.here hx rfl (hb hby at_71) rfl rfl (l' := #[.val (.int p0), .val (.int p1), .val (.int p2), .val (.int p3), .val (.int p4), .val (.int (Int32.ofNat nz)), .val (.int (own_chr p1)), .val (.int (own_chr p2)), .val (.int (own_chr p3)), .val (.int (own_chr p4)), .val (.ref b1), .val (.ref r10), .unset, .unset, .unset, .unset]) rfl ?_
    refine XS.aload X10.here hx rfl (hb hby at_73) rfl rfl ?_
    show Steps p.tables e below (T10.setTop (mkF m 75 #[.val (.int p0), .val (.int p1), .val (.int p2), .val (.int p3), .val (.int p4), .val (.int (Int32.ofNat nz)), .val (.int (own_chr p1)), .val (.int (own_chr p2)), .val (.int (own_chr p3)), .val (.int (own_chr p4)), .val (.ref b1), .val (.ref r10), .unset, .unset, .unset, .unset] [(.ref r10)])) _
    refine st11 _ ?_
    show Steps p.tables e below (T11.setTop (mkF m 78 #[.val (.int p0), .val (.int p1), .val (.int p2), .val (.int p3), .val (.int p4), .val (.int (Int32.ofNat nz)), .val (.int (own_chr p1)), .val (.int (own_chr p2)), .val (.int (own_chr p3)), .val (.int (own_chr p4)), .val (.ref b1), .val (.ref r10), .unset, .unset, .unset, .unset] [(.ref r11)])) _
    refine XS.astore X11.here hx rfl (hb hby at_78) rfl rfl (l' := #[.val (.int p0), .val (.int p1), .val (.int p2), .val (.int p3), .val (.int p4), .val (.int (Int32.ofNat nz)), .val (.int (own_chr p1)), .val (.int (own_chr p2)), .val (.int (own_chr p3)), .val (.int (own_chr p4)), .val (.ref b1), .val (.ref r10), .val (.ref r11), .unset, .unset, .unset]) rfl ?_
    refine XS.aload X11.here hx rfl (hb hby at_80) rfl rfl ?_
    show Steps p.tables e below (T11.setTop (mkF m 82 #[.val (.int p0), .val (.int p1), .val (.int p2), .val (.int p3), .val (.int p4), .val (.int (Int32.ofNat nz)), .val (.int (own_chr p1)), .val (.int (own_chr p2)), .val (.int (own_chr p3)), .val (.int (own_chr p4)), .val (.ref b1), .val (.ref r10), .val (.ref r11), .unset, .unset, .unset] [(.ref r11)])) _
    refine XS.ifnonnullYes X11.here hx rfl (pc0 := 82) (pc' := 87) rfl (hb hby at_82) rfl (by decide) (by decide) ?_
    show Steps p.tables e below (T11.setTop (mkF m 87 #[.val (.int p0), .val (.int p1), .val (.int p2), .val (.int p3), .val (.int p4), .val (.int (Int32.ofNat nz)), .val (.int (own_chr p1)), .val (.int (own_chr p2)), .val (.int (own_chr p3)), .val (.int (own_chr p4)), .val (.ref b1), .val (.ref r10), .val (.ref r11), .unset, .unset, .unset] [])) _
    refine st12 _ ?_
    show Steps p.tables e below (T12.setTop (mkF m 170 #[.val (.int p0), .val (.int p1), .val (.int p2), .val (.int p3), .val (.int p4), .val (.int (Int32.ofNat nz)), .val (.int (own_chr p1)), .val (.int (own_chr p2)), .val (.int (own_chr p3)), .val (.int (own_chr p4)), .val (.ref b1), .val (.ref r10), .val (.ref r11), .val (.int (Int32.ofNat (own_st nz (own_ns (own_chr p1)) (own_ns (own_chr p2)) (own_ns (own_chr p3)) (own_ns (own_chr p4))))), .unset, .unset] [])) _
    refine st13 _ ?_
    show Steps p.tables e below (T13.setTop (mkF m 252 #[.val (.int p0), .val (.int p1), .val (.int p2), .val (.int p3), .val (.int p4), .val (.int (Int32.ofNat nz)), .val (.int (own_chr p1)), .val (.int (own_chr p2)), .val (.int (own_chr p3)), .val (.int (own_chr p4)), .val (.ref b1), .val (.ref r10), .val (.ref r11), .val (.int (Int32.ofNat (own_st nz (own_ns (own_chr p1)) (own_ns (own_chr p2)) (own_ns (own_chr p3)) (own_ns (own_chr p4))))), .val (.int (Int32.ofNat (own_en nz (own_ns (own_chr p1)) (own_ns (own_chr p2)) (own_ns (own_chr p3)) (own_ns (own_chr p4))))), .unset] [])) _
    refine st14 _ ?_
    show Steps p.tables e below (T14.setTop (mkF m 263 #[.val (.int p0), .val (.int p1), .val (.int p2), .val (.int p3), .val (.int p4), .val (.int (Int32.ofNat nz)), .val (.int (own_chr p1)), .val (.int (own_chr p2)), .val (.int (own_chr p3)), .val (.int (own_chr p4)), .val (.ref b1), .val (.ref r10), .val (.ref r11), .val (.int (Int32.ofNat (own_st nz (own_ns (own_chr p1)) (own_ns (own_chr p2)) (own_ns (own_chr p3)) (own_ns (own_chr p4))))), .val (.int (Int32.ofNat (own_en nz (own_ns (own_chr p1)) (own_ns (own_chr p2)) (own_ns (own_chr p3)) (own_ns (own_chr p4))))), .val (.int (Int32.ofNat k))] [])) _
    refine st15 _ ?_
    show Steps p.tables e below (T15.setTop (mkF m 275 #[.val (.int p0), .val (.int p1), .val (.int p2), .val (.int p3), .val (.int p4), .val (.int (Int32.ofNat nz)), .val (.int (own_chr p1)), .val (.int (own_chr p2)), .val (.int (own_chr p3)), .val (.int (own_chr p4)), .val (.ref b1), .val (.ref r10), .val (.ref r11), .val (.int (Int32.ofNat (own_st nz (own_ns (own_chr p1)) (own_ns (own_chr p2)) (own_ns (own_chr p3)) (own_ns (own_chr p4))))), .val (.int (Int32.ofNat (own_en nz (own_ns (own_chr p1)) (own_ns (own_chr p2)) (own_ns (own_chr p3)) (own_ns (own_chr p4))))), .val (.int (Int32.ofNat k))] [])) _
    refine st16 _ ?_
    show Steps p.tables e below (T16.setTop (mkF m 296 #[.val (.int p0), .val (.int p1), .val (.int p2), .val (.int p3), .val (.int p4), .val (.int (Int32.ofNat nz)), .val (.int (own_chr p1)), .val (.int (own_chr p2)), .val (.int (own_chr p3)), .val (.int (own_chr p4)), .val (.ref b1), .val (.ref r10), .val (.ref r11), .val (.int (Int32.ofNat (own_st nz (own_ns (own_chr p1)) (own_ns (own_chr p2)) (own_ns (own_chr p3)) (own_ns (own_chr p4))))), .val (.int (Int32.ofNat (own_en nz (own_ns (own_chr p1)) (own_ns (own_chr p2)) (own_ns (own_chr p3)) (own_ns (own_chr p4))))), .val (.int (Int32.ofNat k))] [])) _
    refine st17 _ ?_
    show Steps p.tables e below (T17.setTop (mkF m 320 #[.val (.int p0), .val (.int p1), .val (.int p2), .val (.int p3), .val (.int p4), .val (.int (Int32.ofNat nz)), .val (.int (own_chr p1)), .val (.int (own_chr p2)), .val (.int (own_chr p3)), .val (.int (own_chr p4)), .val (.ref b1), .val (.ref r10), .val (.ref r11), .val (.int (Int32.ofNat (own_st nz (own_ns (own_chr p1)) (own_ns (own_chr p2)) (own_ns (own_chr p3)) (own_ns (own_chr p4))))), .val (.int (Int32.ofNat (own_en nz (own_ns (own_chr p1)) (own_ns (own_chr p2)) (own_ns (own_chr p3)) (own_ns (own_chr p4))))), .val (.int (Int32.ofNat k))] [])) _
    refine st18 _ ?_
    show Steps p.tables e below (T18.setTop (mkF m 344 #[.val (.int p0), .val (.int p1), .val (.int p2), .val (.int p3), .val (.int p4), .val (.int (Int32.ofNat nz)), .val (.int (own_chr p1)), .val (.int (own_chr p2)), .val (.int (own_chr p3)), .val (.int (own_chr p4)), .val (.ref b1), .val (.ref r10), .val (.ref r11), .val (.int (Int32.ofNat (own_st nz (own_ns (own_chr p1)) (own_ns (own_chr p2)) (own_ns (own_chr p3)) (own_ns (own_chr p4))))), .val (.int (Int32.ofNat (own_en nz (own_ns (own_chr p1)) (own_ns (own_chr p2)) (own_ns (own_chr p3)) (own_ns (own_chr p4))))), .val (.int (Int32.ofNat k))] [])) _
    refine st19 _ ?_
    show Steps p.tables e below (T19.setTop (mkF m 368 #[.val (.int p0), .val (.int p1), .val (.int p2), .val (.int p3), .val (.int p4), .val (.int (Int32.ofNat nz)), .val (.int (own_chr p1)), .val (.int (own_chr p2)), .val (.int (own_chr p3)), .val (.int (own_chr p4)), .val (.ref b1), .val (.ref r10), .val (.ref r11), .val (.int (Int32.ofNat (own_st nz (own_ns (own_chr p1)) (own_ns (own_chr p2)) (own_ns (own_chr p3)) (own_ns (own_chr p4))))), .val (.int (Int32.ofNat (own_en nz (own_ns (own_chr p1)) (own_ns (own_chr p2)) (own_ns (own_chr p3)) (own_ns (own_chr p4))))), .val (.int (Int32.ofNat k))] [])) _
    refine XS.iconst X19.here hx rfl (hb hby at_368) ?_
    show Steps p.tables e below (T19.setTop (mkF m 369 #[.val (.int p0), .val (.int p1), .val (.int p2), .val (.int p3), .val (.int p4), .val (.int (Int32.ofNat nz)), .val (.int (own_chr p1)), .val (.int (own_chr p2)), .val (.int (own_chr p3)), .val (.int (own_chr p4)), .val (.ref b1), .val (.ref r10), .val (.ref r11), .val (.int (Int32.ofNat (own_st nz (own_ns (own_chr p1)) (own_ns (own_chr p2)) (own_ns (own_chr p3)) (own_ns (own_chr p4))))), .val (.int (Int32.ofNat (own_en nz (own_ns (own_chr p1)) (own_ns (own_chr p2)) (own_ns (own_chr p3)) (own_ns (own_chr p4))))), .val (.int (Int32.ofNat k))] [(.int (1 : Int32))])) _
    exact retN X19 hx (t := .boolean) Bd.returns (by simp) (hb hby at_369) hr
  · show Q0_p Z p0 p1 p2 p3 p4 nz k cs fm h0 n0 _ T19.heap _
    rw [e19]
    exact ⟨rfl, N19⟩
theorem ef_0_e (m : MethodId) (x0 : Int32) (x1 : Int32) (x2 : Int32) (x3 : Int32) (x4 : Int32) : entryFrame m #[(.int x0), (.int x1), (.int x2), (.int x3), (.int x4)] maxLocals = mkF m 0 #[.val (.int x0), .val (.int x1), .val (.int x2), .val (.int x3), .val (.int x4), .unset, .unset, .unset, .unset, .unset, .unset, .unset, .unset, .unset, .unset, .unset] [] := by first | (simp [entryFrame, mkF, argsToLocals, Value.category, maxLocals]; done) | rfl
def Q0_e (Z : State) (p0 : Int32) (p1 : Int32) (p2 : Int32) (p3 : Int32) (p4 : Int32) (nz : Nat) (k : Nat) (cs : Int32) (fm : Value) (h0 : Heap) (n0 : Nat) (v : Option Value) (h : Heap) (L : List Loc) : Prop := v = some (.int 1) ∧ Fr n0 L
set_option maxRecDepth 65536 in
set_option maxHeartbeats 40000000 in
theorem rm0_e (l : Launch) (Z : State) (a0 : Array Value) (hw : ∀ d ∈ tables_1, d.before a0 Z = true) (ws : List Jvm.Cond) (p0 : Int32) (p1 : Int32) (p2 : Int32) (p3 : Int32) (p4 : Int32) (nz : Nat) (k : Nat) (cs : Int32) (fm : Value) (h0 : Heap) (n0 : Nat) (Z0 : n0 ≤ h0.size) (O_0 : Old Z n0 h0) (S_cs : Sta Z Z.heap "java/lang/String" "COMPACT_STRINGS" "Z" (.int cs)) (hcs : ¬ (cs = (0 : Int32))) (S_fm : Sta Z Z.heap "jdk/internal/util/Preconditions" "SIOOBE_FORMATTER" "Ljava/util/function/BiFunction;" fm) (hfm : fm.isRef = true) (hn : own_n5 p0 = (Int32.ofNat nz)) (hz0 : 0 < nz) (hz4 : nz ≤ 4) (htl : own_tail ([(own_chr p1), (own_chr p2), (own_chr p3), (own_chr p4)].take nz) (own_lead ([(own_chr p1), (own_chr p2), (own_chr p3), (own_chr p4)].take nz)) nz = (own_lead ([(own_chr p1), (own_chr p2), (own_chr p3), (own_chr p4)].take nz)) + k) (hz : (own_lead ([(own_chr p1), (own_chr p2), (own_chr p3), (own_chr p4)].take nz)) + k ≤ nz) (hL : own_mx (0 : Int32) ((Int32.ofNat (own_en nz (own_ns (own_chr p1)) (own_ns (own_chr p2)) (own_ns (own_chr p3)) (own_ns (own_chr p4)))) - (Int32.ofNat (own_st nz (own_ns (own_chr p1)) (own_ns (own_chr p2)) (own_ns (own_chr p3)) (own_ns (own_chr p4))))) = (Int32.ofNat k)) (HK0 : ∀ rl : List Value, (∀ i, i < k → rl.getD i (.int (0 : Int32)) = (own_bys ([(own_chr p1), (own_chr p2), (own_chr p3), (own_chr p4)].take nz)).getD ((own_lead ([(own_chr p1), (own_chr p2), (own_chr p3), (own_chr p4)].take nz)) + i) (.int (0 : Int32))) → ∀ i, i < k → (own_st nz (own_ns (own_chr p1)) (own_ns (own_chr p2)) (own_ns (own_chr p3)) (own_ns (own_chr p4))) + i < 4 ∧ own_ch (own_el (own_chr p1) (own_chr p2) (own_chr p3) (own_chr p4) ((own_st nz (own_ns (own_chr p1)) (own_ns (own_chr p2)) (own_ns (own_chr p3)) (own_ns (own_chr p4))) + i)) ∧ rl.getD i (.int (0 : Int32)) = .int (own_by (own_el (own_chr p1) (own_chr p2) (own_chr p3) (own_chr p4) ((own_st nz (own_ns (own_chr p1)) (own_ns (own_chr p2)) (own_ns (own_chr p3)) (own_ns (own_chr p4))) + i)))) (hk0 : k = 0) (hnw : ¬ ((own_lead ([(own_chr p1), (own_chr p2), (own_chr p3), (own_chr p4)].take nz)) = 0 ∧ (own_lead ([(own_chr p1), (own_chr p2), (own_chr p3), (own_chr p4)].take nz)) + k = nz)) :
    MetFree l x (head1 (Jvm.Cond.code x code maxLocals ret :: ws) room_1) (fun a U => a = #[(.int p0), (.int p1), (.int p2), (.int p3), (.int p4)] ∧ Z.Warmed39 U.vm ∧ U.heap = h0 ∧ CHv Z own_EL U.vm h0) (fun _ _ _ _ _ => True) (fun _ U o U' => ∃ v L, o = .returned v ∧ Q0_e Z p0 p1 p2 p3 p4 nz k cs fm h0 n0 v U'.heap L ∧ CHr Z own_EL U.vm U.heap U'.vm U'.heap ∧ ReturnedEndW U o U' L room_1.cells room_1.slots) := by
  refine MetFree.of_bodySF (plainFor_of_name pn_com_example_commitwright_commitwright_http_HeadTrimSpacePinLaw) hisR ?_
  intro p e s m args below meth c s₁ Bd hml0 hP hK
  obtain ⟨rfl, hZ, hh, hCH⟩ := hP
  have hx := Bd.exec
  have hby := Bd.bytes
  have hml : c.maxLocals = 16 := hml0
  have hown : s.vm.findClass "com/example/commitwright/commitwright/http/HeadTrimSpacePinLaw" = some m.cls := findClass_of_methodNamed Bd.named
  have hnm := (name_of_methodNamed Bd.named Bd.method).1
  have X0 : Stand p l e room_1 s m #[(.int p0), (.int p1), (.int p2), (.int p3), (.int p4)] below meth c s₁ [] 0 0 := Stand.of_body Bd
  have e0 : s₁.heap = h0 := by rw [← hh, Bd.state]; rfl
  have N0 := Fr.nil n0
  have pre0 : ∀ t, Steps p.tables e below (s₁.setTop (mkF m 0 #[.val (.int p0), .val (.int p1), .val (.int p2), .val (.int p3), .val (.int p4), .unset, .unset, .unset, .unset, .unset, .unset, .unset, .unset, .unset, .unset, .unset] [])) t → Steps p.tables e below (s₁.setTop (entryFrame m #[(.int p0), (.int p1), (.int p2), (.int p3), (.int p4)] maxLocals)) t := fun tt kt_ => castTop (ef_0_e m p0 p1 p2 p3 p4) kt_
  have CH0 : CHr Z own_EL s.vm h0 s.vm h0 := CHr.refl hCH
  have K0 : Keep h0 h0 [] := Keep.refl h0 []
  obtain ⟨TA, lA, XA, NA, eA, stA⟩ := la_33 p0 p1 p2 p3 p4 nz X0 hx hZ hw hby hml hown e0 Z0 N0 hn
  obtain ⟨T1, h1, k1, X1, e1, E1, A1, st1⟩ := newP XA hx hZ (hw _ (List.mem_of_getElem? (i := 5) rfl)) eA (g := (mkF m 34 #[.val (.int p0), .val (.int p1), .val (.int p2), .val (.int p3), .val (.int p4), .val (.int (Int32.ofNat nz)), .val (.int (own_chr p1)), .val (.int (own_chr p2)), .val (.int (own_chr p3)), .val (.int (own_chr p4)), .unset, .unset, .unset, .unset, .unset, .unset] [(.int (4 : Int32))])) rfl (hb hby at_34) rfl (by decide) (cap := 4) (by decide) (by decide) (by decide) (by decide)
  obtain ⟨b1, g1⟩ : ∃ z, z = h0.size := ⟨_, rfl⟩
  rw [← g1] at A1 st1
  have g_b1 : n0 ≤ b1 := Nat.le_trans Z0 (Nat.le_of_eq g1.symm)
  have sz_b1 : h0.size ≤ b1 := Nat.le_trans K0.1 (Nat.le_of_eq g1.symm)
  have CH1 : CHr Z own_EL s.vm h0 s.vm h1 := CH0.trans (CHr.ext E1 CH0.1)
  have O_0_at1 : Old Z n0 h1 := O_0.ext E1
  have K1 : Keep h0 h1 [] := K0.ext E1
  have Z1 : n0 ≤ h1.size := Nat.le_trans Z0 E1.1
  have xV_b1_at1 := (Arv.new A1 (by decide)).pad (pad_rep [] (.int (0 : Int32)) 4)
  have V_b1_at1 : Arv Z h1 b1 k1 .char (4 : Int32) [(.int (0 : Int32)), (.int (0 : Int32)), (.int (0 : Int32)), (.int (0 : Int32))] (.int (0 : Int32)) := xV_b1_at1
  obtain ⟨cl_40_2, Ar_40_2, q_40_2, S_40_2, N_40_2, H_40_2, G_40_2⟩ := id V_b1_at1
  have hin40_2 : ¬ ((0 : Int32) < 0 ∨ cl_40_2.slots.size ≤ ((0 : Int32)).toNatClampNeg) := inb_of S_40_2 ⟨by decide, by decide⟩
  obtain ⟨T3, h3, X3, e3, W3, st3⟩ := stC X1 hx hZ e1 Ar_40_2 (j := (0 : Int32)) hin40_2 (g := (mkF m 40 #[.val (.int p0), .val (.int p1), .val (.int p2), .val (.int p3), .val (.int p4), .val (.int (Int32.ofNat nz)), .val (.int (own_chr p1)), .val (.int (own_chr p2)), .val (.int (own_chr p3)), .val (.int (own_chr p4)), .unset, .unset, .unset, .unset, .unset, .unset] [(.int (own_chr p1)), (.int (0 : Int32)), (.ref b1), (.ref b1)])) rfl rfl (hb hby at_40)
  rw [own_cc (own_chI p1)] at W3
  have CH3 : CHr Z own_EL s.vm h0 s.vm h3 := CH1.trans (CHr.wr W3 (Safe.arr hZ.alike Ar_40_2 (by decide)) CH1.1)
  have O_0_at3 : Old Z n0 h3 := O_0_at1.wr W3 g_b1
  have xV_b1_at3 := Arv.set Ar_40_2 q_40_2 S_40_2 N_40_2 H_40_2 G_40_2 (own_fc (own_chI p1)) W3 0 rfl (Nat.le_of_ble_eq_true rfl)
  have V_b1_at3 : Arv Z h3 b1 k1 .char (4 : Int32) [(.int (own_chr p1)), (.int (0 : Int32)), (.int (0 : Int32)), (.int (0 : Int32))] (.int (0 : Int32)) := xV_b1_at3
  have K3 : Keep h0 h3 [] := K1.wr W3 (Or.inr sz_b1)
  have Z3 : n0 ≤ h3.size := Nat.le_trans Z1 (Keep.of_wr W3).1
  have N3 := Fr.snoc X3 NA g_b1
  obtain ⟨cl_45_4, Ar_45_4, q_45_4, S_45_4, N_45_4, H_45_4, G_45_4⟩ := id V_b1_at3
  have hin45_4 : ¬ ((1 : Int32) < 0 ∨ cl_45_4.slots.size ≤ ((1 : Int32)).toNatClampNeg) := inb_of S_45_4 ⟨by decide, by decide⟩
  obtain ⟨T5, h5, X5, e5, W5, st5⟩ := stC X3 hx hZ e3 Ar_45_4 (j := (1 : Int32)) hin45_4 (g := (mkF m 45 #[.val (.int p0), .val (.int p1), .val (.int p2), .val (.int p3), .val (.int p4), .val (.int (Int32.ofNat nz)), .val (.int (own_chr p1)), .val (.int (own_chr p2)), .val (.int (own_chr p3)), .val (.int (own_chr p4)), .unset, .unset, .unset, .unset, .unset, .unset] [(.int (own_chr p2)), (.int (1 : Int32)), (.ref b1), (.ref b1)])) rfl rfl (hb hby at_45)
  rw [own_cc (own_chI p2)] at W5
  have CH5 : CHr Z own_EL s.vm h0 s.vm h5 := CH3.trans (CHr.wr W5 (Safe.arr hZ.alike Ar_45_4 (by decide)) CH3.1)
  have O_0_at5 : Old Z n0 h5 := O_0_at3.wr W5 g_b1
  have xV_b1_at5 := Arv.set Ar_45_4 q_45_4 S_45_4 N_45_4 H_45_4 G_45_4 (own_fc (own_chI p2)) W5 1 rfl (Nat.le_of_ble_eq_true rfl)
  have V_b1_at5 : Arv Z h5 b1 k1 .char (4 : Int32) [(.int (own_chr p1)), (.int (own_chr p2)), (.int (0 : Int32)), (.int (0 : Int32))] (.int (0 : Int32)) := xV_b1_at5
  have K5 : Keep h0 h5 [] := K3.wr W5 (Or.inr sz_b1)
  have Z5 : n0 ≤ h5.size := Nat.le_trans Z3 (Keep.of_wr W5).1
  have N5 := Fr.snoc X5 N3 g_b1
  obtain ⟨cl_50_6, Ar_50_6, q_50_6, S_50_6, N_50_6, H_50_6, G_50_6⟩ := id V_b1_at5
  have hin50_6 : ¬ ((2 : Int32) < 0 ∨ cl_50_6.slots.size ≤ ((2 : Int32)).toNatClampNeg) := inb_of S_50_6 ⟨by decide, by decide⟩
  obtain ⟨T7, h7, X7, e7, W7, st7⟩ := stC X5 hx hZ e5 Ar_50_6 (j := (2 : Int32)) hin50_6 (g := (mkF m 50 #[.val (.int p0), .val (.int p1), .val (.int p2), .val (.int p3), .val (.int p4), .val (.int (Int32.ofNat nz)), .val (.int (own_chr p1)), .val (.int (own_chr p2)), .val (.int (own_chr p3)), .val (.int (own_chr p4)), .unset, .unset, .unset, .unset, .unset, .unset] [(.int (own_chr p3)), (.int (2 : Int32)), (.ref b1), (.ref b1)])) rfl rfl (hb hby at_50)
  rw [own_cc (own_chI p3)] at W7
  have CH7 : CHr Z own_EL s.vm h0 s.vm h7 := CH5.trans (CHr.wr W7 (Safe.arr hZ.alike Ar_50_6 (by decide)) CH5.1)
  have O_0_at7 : Old Z n0 h7 := O_0_at5.wr W7 g_b1
  have xV_b1_at7 := Arv.set Ar_50_6 q_50_6 S_50_6 N_50_6 H_50_6 G_50_6 (own_fc (own_chI p3)) W7 2 rfl (Nat.le_of_ble_eq_true rfl)
  have V_b1_at7 : Arv Z h7 b1 k1 .char (4 : Int32) [(.int (own_chr p1)), (.int (own_chr p2)), (.int (own_chr p3)), (.int (0 : Int32))] (.int (0 : Int32)) := xV_b1_at7
  have K7 : Keep h0 h7 [] := K5.wr W7 (Or.inr sz_b1)
  have Z7 : n0 ≤ h7.size := Nat.le_trans Z5 (Keep.of_wr W7).1
  have N7 := Fr.snoc X7 N5 g_b1
  obtain ⟨cl_55_8, Ar_55_8, q_55_8, S_55_8, N_55_8, H_55_8, G_55_8⟩ := id V_b1_at7
  have hin55_8 : ¬ ((3 : Int32) < 0 ∨ cl_55_8.slots.size ≤ ((3 : Int32)).toNatClampNeg) := inb_of S_55_8 ⟨by decide, by decide⟩
  obtain ⟨T9, h9, X9, e9, W9, st9⟩ := stC X7 hx hZ e7 Ar_55_8 (j := (3 : Int32)) hin55_8 (g := (mkF m 55 #[.val (.int p0), .val (.int p1), .val (.int p2), .val (.int p3), .val (.int p4), .val (.int (Int32.ofNat nz)), .val (.int (own_chr p1)), .val (.int (own_chr p2)), .val (.int (own_chr p3)), .val (.int (own_chr p4)), .unset, .unset, .unset, .unset, .unset, .unset] [(.int (own_chr p4)), (.int (3 : Int32)), (.ref b1), (.ref b1)])) rfl rfl (hb hby at_55)
  rw [own_cc (own_chI p4)] at W9
  have CH9 : CHr Z own_EL s.vm h0 s.vm h9 := CH7.trans (CHr.wr W9 (Safe.arr hZ.alike Ar_55_8 (by decide)) CH7.1)
  have O_0_at9 : Old Z n0 h9 := O_0_at7.wr W9 g_b1
  have xV_b1_at9 := Arv.set Ar_55_8 q_55_8 S_55_8 N_55_8 H_55_8 G_55_8 (own_fc (own_chI p4)) W9 3 rfl (Nat.le_of_ble_eq_true rfl)
  have V_b1_at9 : Arv Z h9 b1 k1 .char (4 : Int32) [(.int (own_chr p1)), (.int (own_chr p2)), (.int (own_chr p3)), (.int (own_chr p4))] (.int (0 : Int32)) := xV_b1_at9
  have K9 : Keep h0 h9 [] := K7.wr W9 (Or.inr sz_b1)
  have Z9 : n0 ≤ h9.size := Nat.le_trans Z7 (Keep.of_wr W9).1
  have N9 := Fr.snoc X9 N7 g_b1
  obtain ⟨_, _, ⟨T10, L10, k10, n10⟩, -, X10, ⟨Lc10, hQ10, l10, y10, z10⟩, st10⟩ := Jvm.LawKit.callS X9 hx (y := (⟨"com/example/commitwright/commitwright/http/HeadTrimSpacePinLaw", "make", "(ICCCC)Ljava/lang/String;"⟩ : MethodName)) hown (mvT hZ (hw _ (List.mem_of_getElem? (i := 6) rfl))) (mvT hZ (hw _ (List.mem_of_getElem? (i := 7) rfl))) (mvT hZ (hw _ (List.mem_of_getElem? (i := 3) rfl))) (mvT hZ (hw _ (List.mem_of_getElem? (i := 8) rfl))) (by decide) (backOf (W := 0) (rm2m l Z a0 hw [] nz (own_chr p1) (own_chr p2) (own_chr p3) (own_chr p4) cs h9 n0 Z9 O_0_at9 S_cs hcs (own_chI p1) (own_chI p2) (own_chI p3) (own_chI p4) hz0 hz4) hZ (hw _ (List.mem_of_getElem? (i := 8) rfl)) (hw _ (List.mem_of_getElem? (i := 3) rfl)) (by decide) (by decide)) (g := (mkF m 68 #[.val (.int p0), .val (.int p1), .val (.int p2), .val (.int p3), .val (.int p4), .val (.int (Int32.ofNat nz)), .val (.int (own_chr p1)), .val (.int (own_chr p2)), .val (.int (own_chr p3)), .val (.int (own_chr p4)), .val (.ref b1), .unset, .unset, .unset, .unset, .unset] [(.int (own_chr p4)), (.int (own_chr p3)), (.int (own_chr p2)), (.int (own_chr p1)), (.int (Int32.ofNat nz))])) rfl (by rw [hml]; rfl) (argsL := [(.int (Int32.ofNat nz)), (.int (own_chr p1)), (.int (own_chr p2)), (.int (own_chr p3)), (.int (own_chr p4))]) (rest := []) (lenOf pd_28ICCCC29Ljava2flang2fString3b rfl) rfl (by show 2 * 0 + _ ≤ _; exact Nat.le_of_eq rfl) (hb hby at_68) (fun _ _ => ⟨rfl, e9, (by decide : 1 + 3 ≤ _), (by decide : 4 + 12 ≤ _)⟩)
  dsimp only [Pt.U, Pt.locs, Pt.cells, Pt.slots] at X10 l10 y10 z10 st10 hQ10
  subst l10 y10 z10
  obtain ⟨r10, b10, kb10, rfl, N10q, KK10, ER10, FC10, FV10, VB10⟩ := hQ10
  obtain ⟨h10, e10⟩ : ∃ z, T10.heap = z := ⟨_, rfl⟩
  rw [e10] at KK10 ER10 FC10 FV10 VB10
  have O_0_at10 : Old Z n0 h10 := O_0_at9.keep KK10 all0
  have V_b1_at10 : Arv Z h10 b1 k1 .char (4 : Int32) [(.int (own_chr p1)), (.int (own_chr p2)), (.int (own_chr p3)), (.int (own_chr p4))] (.int (0 : Int32)) := V_b1_at9.keep KK10 nin0
  have CH10 : CHr Z own_EL s.vm h0 s.vm h10 := CH9.trans (CHr.keep KK10 all0 CH9.1)
  have K10 : Keep h0 h10 [] := K9.trans KK10 all0
  have Z10 : n0 ≤ h10.size := Nat.le_trans Z9 KK10.1
  have hlen : ([(own_chr p1), (own_chr p2), (own_chr p3), (own_chr p4)].take nz).length = nz := own_xlen (own_chr p1) (own_chr p2) (own_chr p3) (own_chr p4) hz4
  have KT10 : Arv Z h10 b10 kb10 .byte (Int32.ofNat ([(own_chr p1), (own_chr p2), (own_chr p3), (own_chr p4)].take nz).length) (own_bys ([(own_chr p1), (own_chr p2), (own_chr p3), (own_chr p4)].take nz)) (.int (0 : Int32)) := by rw [hlen]; exact VB10
  have N10 := Fr.app N9 N10q
  obtain ⟨_, _, ⟨T11, L11, k11, n11⟩, -, Y11, hs11, hg11, ⟨Lc11, hQ11, l11, y11, z11, hC11⟩, st11⟩ := callSS X10 hx (y := (⟨"com/example/commitwright/commitwright/http/Head", "trimSpace", "(Ljava/lang/String;)Ljava/lang/String;"⟩ : MethodName)) hown (mvT hZ (hw _ (List.mem_of_getElem? (i := 30) rfl))) (mvT hZ (hw _ (List.mem_of_getElem? (i := 31) rfl))) (mvT hZ (hw _ (List.mem_of_getElem? (i := 32) rfl))) (mvT hZ (hw _ (List.mem_of_getElem? (i := 33) rfl))) (by decide) (backOfSH (s := s) (vm0 := s.vm) (W := 0) (rm6_e l Z a0 hw [] r10 b10 kb10 ([(own_chr p1), (own_chr p2), (own_chr p3), (own_chr p4)].take nz) (own_lead ([(own_chr p1), (own_chr p2), (own_chr p3), (own_chr p4)].take nz)) k cs fm h10 n0 Z10 ER10 FC10 FV10 KT10 O_0_at10 S_cs hcs S_fm hfm (Nat.le_trans (Nat.le_of_eq hlen) hz4) (own_xch (own_chI p1) (own_chI p2) (own_chI p3) (own_chI p4) hz4) rfl (by rw [hlen]; exact htl) (by rw [hlen]; exact hz) hk0 (by rw [hlen]; exact hnw)) hZ (hw _ (List.mem_of_getElem? (i := 33) rfl)) (hw _ (List.mem_of_getElem? (i := 32) rfl)) (by decide) (by decide) (own_EW hw) CH10.1) (g := (mkF m 75 #[.val (.int p0), .val (.int p1), .val (.int p2), .val (.int p3), .val (.int p4), .val (.int (Int32.ofNat nz)), .val (.int (own_chr p1)), .val (.int (own_chr p2)), .val (.int (own_chr p3)), .val (.int (own_chr p4)), .val (.ref b1), .val (.ref r10), .unset, .unset, .unset, .unset] [(.ref r10)])) rfl (by rw [hml]; rfl) (argsL := [(.ref r10)]) (rest := []) (lenOf pd_28Ljava2flang2fString3b29Ljava2flang2fString3b rfl) rfl (by show 2 * 0 + _ ≤ _; exact Nat.le_of_eq rfl) (hb hby at_75) (fun _ _ => ⟨rfl, e10, (by decide : 4 + 2 ≤ _), (by decide : 16 + 4 ≤ _)⟩)
  dsimp only [Pt.U, Pt.locs, Pt.cells, Pt.slots] at Y11 hs11 hg11 l11 y11 z11 st11 hQ11 hC11
  subst l11 y11 z11
  obtain ⟨X11, hS11, hZ11, hown11⟩ := rebS (s := s) (vm0 := s.vm) ((State.WarmedH.refl s).since 0) (Nat.zero_le _) Y11 hs11 hg11 hZ hown
  obtain ⟨r11, b11, kb11, rl11, rfl, N11q, KK11, ER11, FC11, FV11, VB11, hP11⟩ := hQ11
  obtain ⟨h11, e11⟩ : ∃ z, T11.heap = z := ⟨_, rfl⟩
  rw [e11] at KK11 ER11 FC11 FV11 VB11
  have O_0_at11 : Old Z n0 h11 := O_0_at10.keep KK11 all0
  have V_b1_at11 : Arv Z h11 b1 k1 .char (4 : Int32) [(.int (own_chr p1)), (.int (own_chr p2)), (.int (own_chr p3)), (.int (own_chr p4))] (.int (0 : Int32)) := V_b1_at10.keep KK11 nin0
  have ER10_at11 : Exa Z h11 r10 "java/lang/String" := ER10.keep KK11
  have FC10_at11 : Fld Z h11 r10 "java/lang/String" "coder" "B" (.int (0 : Int32)) := FC10.keep KK11 nin0
  have FV10_at11 : Fld Z h11 r10 "java/lang/String" "value" "[B" (.ref b10) := FV10.keep KK11 nin0
  have KT10_at11 : Arv Z h11 b10 kb10 .byte (Int32.ofNat ([(own_chr p1), (own_chr p2), (own_chr p3), (own_chr p4)].take nz).length) (own_bys ([(own_chr p1), (own_chr p2), (own_chr p3), (own_chr p4)].take nz)) (.int (0 : Int32)) := KT10.keep KK11 nin0
  rw [e11] at hC11
  have CH11 : CHr Z own_EL s.vm h0 T11.vm h11 := CH10.trans hC11
  have K11 : Keep h0 h11 [] := K10.trans KK11 all0
  have Z11 : n0 ≤ h11.size := Nat.le_trans Z10 KK11.1
  rw [e11] at hS11
  have N11 := Fr.app N10 N11q
  have HKf := HK0 rl11 hP11
  have hjs : (own_st nz (own_ns (own_chr p1)) (own_ns (own_chr p2)) (own_ns (own_chr p3)) (own_ns (own_chr p4))) ≤ 4 := own_stle hz4
  have hk4 : k ≤ 4 := by have := Nat.le_trans hz hz4; omega
  obtain ⟨T12, l12, X12, N12, e12, st12⟩ := la_s0 p0 p1 p2 p3 p4 nz (own_chr p1) (own_chr p2) (own_chr p3) (own_chr p4) b1 r10 r11  X11 hx hZ11 hw hby hml hown11 e11 Z11 N11 hz4 (by decide) (by decide)
  rw [show (own_s0 nz (own_ns (own_chr p1)) (own_ns (own_chr p2)) (own_ns (own_chr p3)) (own_ns (own_chr p4))) = (own_st nz (own_ns (own_chr p1)) (own_ns (own_chr p2)) (own_ns (own_chr p3)) (own_ns (own_chr p4))) from rfl] at st12
  obtain ⟨T13, l13, X13, N13, e13, st13⟩ := la_t0 p0 p1 p2 p3 p4 nz (own_chr p1) (own_chr p2) (own_chr p3) (own_chr p4) b1 r10 r11 (own_st nz (own_ns (own_chr p1)) (own_ns (own_chr p2)) (own_ns (own_chr p3)) (own_ns (own_chr p4))) X12 hx hZ11 hw hby hml hown11 e12 Z11 N12 hz4 (by decide) (by decide)
  rw [show (own_t0 nz (own_ns (own_chr p4)) (own_ns (own_chr p3)) (own_ns (own_chr p2)) (own_ns (own_chr p1))) = (own_en nz (own_ns (own_chr p1)) (own_ns (own_chr p2)) (own_ns (own_chr p3)) (own_ns (own_chr p4))) from rfl] at st13
  obtain ⟨T14, l14, X14, N14, e14, st14⟩ := la_mx p0 p1 p2 p3 p4 nz (own_chr p1) (own_chr p2) (own_chr p3) (own_chr p4) b1 r10 r11 (own_st nz (own_ns (own_chr p1)) (own_ns (own_chr p2)) (own_ns (own_chr p3)) (own_ns (own_chr p4))) (own_en nz (own_ns (own_chr p1)) (own_ns (own_chr p2)) (own_ns (own_chr p3)) (own_ns (own_chr p4))) k X13 hx hZ11 hw hby hml hown11 e13 Z11 N13 hz4 (by decide) (by decide) hL
  obtain ⟨T15, l15, X15, N15, e15, st15⟩ := la_len p0 p1 p2 p3 p4 nz (own_chr p1) (own_chr p2) (own_chr p3) (own_chr p4) b1 r10 r11 (own_st nz (own_ns (own_chr p1)) (own_ns (own_chr p2)) (own_ns (own_chr p3)) (own_ns (own_chr p4))) (own_en nz (own_ns (own_chr p1)) (own_ns (own_chr p2)) (own_ns (own_chr p3)) (own_ns (own_chr p4))) k b11 kb11 rl11 cs fm X14 hx hZ11 hw hby hml hown11 e14 Z11 N14 hz4 (by decide) (by decide) hk4 hjs ER11 FC11 FV11 VB11 O_0_at11 S_cs hcs S_fm hfm
  obtain ⟨T16, l16, X16, N16, e16, st16⟩ := la_c0 p0 p1 p2 p3 p4 nz (own_chr p1) (own_chr p2) (own_chr p3) (own_chr p4) b1 r10 r11 (own_st nz (own_ns (own_chr p1)) (own_ns (own_chr p2)) (own_ns (own_chr p3)) (own_ns (own_chr p4))) (own_en nz (own_ns (own_chr p1)) (own_ns (own_chr p2)) (own_ns (own_chr p3)) (own_ns (own_chr p4))) k b11 kb11 rl11 cs fm k1 X15 hx hZ11 hw hby hml hown11 e15 Z11 N15 hz4 (by decide) (by decide) hk4 hjs ER11 FC11 FV11 VB11 O_0_at11 S_cs hcs S_fm hfm V_b1_at11 HKf
  obtain ⟨T17, l17, X17, N17, e17, st17⟩ := la_c1 p0 p1 p2 p3 p4 nz (own_chr p1) (own_chr p2) (own_chr p3) (own_chr p4) b1 r10 r11 (own_st nz (own_ns (own_chr p1)) (own_ns (own_chr p2)) (own_ns (own_chr p3)) (own_ns (own_chr p4))) (own_en nz (own_ns (own_chr p1)) (own_ns (own_chr p2)) (own_ns (own_chr p3)) (own_ns (own_chr p4))) k b11 kb11 rl11 cs fm k1 X16 hx hZ11 hw hby hml hown11 e16 Z11 N16 hz4 (by decide) (by decide) hk4 hjs ER11 FC11 FV11 VB11 O_0_at11 S_cs hcs S_fm hfm V_b1_at11 HKf
  obtain ⟨T18, l18, X18, N18, e18, st18⟩ := la_c2 p0 p1 p2 p3 p4 nz (own_chr p1) (own_chr p2) (own_chr p3) (own_chr p4) b1 r10 r11 (own_st nz (own_ns (own_chr p1)) (own_ns (own_chr p2)) (own_ns (own_chr p3)) (own_ns (own_chr p4))) (own_en nz (own_ns (own_chr p1)) (own_ns (own_chr p2)) (own_ns (own_chr p3)) (own_ns (own_chr p4))) k b11 kb11 rl11 cs fm k1 X17 hx hZ11 hw hby hml hown11 e17 Z11 N17 hz4 (by decide) (by decide) hk4 hjs ER11 FC11 FV11 VB11 O_0_at11 S_cs hcs S_fm hfm V_b1_at11 HKf
  obtain ⟨T19, l19, X19, N19, e19, st19⟩ := la_c3 p0 p1 p2 p3 p4 nz (own_chr p1) (own_chr p2) (own_chr p3) (own_chr p4) b1 r10 r11 (own_st nz (own_ns (own_chr p1)) (own_ns (own_chr p2)) (own_ns (own_chr p3)) (own_ns (own_chr p4))) (own_en nz (own_ns (own_chr p1)) (own_ns (own_chr p2)) (own_ns (own_chr p3)) (own_ns (own_chr p4))) k b11 kb11 rl11 cs fm k1 X18 hx hZ11 hw hby hml hown11 e18 Z11 N18 hz4 (by decide) (by decide) hk4 hjs ER11 FC11 FV11 VB11 O_0_at11 S_cs hcs S_fm hfm V_b1_at11 HKf
  have CHe : CHr Z own_EL s.vm s.heap T19.vm T19.heap := by
    have q := CH11.trans (CHv.at (s := s) X19 hZ11 (own_EW hw) CH11.1)
    rw [hh, e19]
    exact q
  obtain ⟨fs, hr, hrun, hended, rw1, rw2, rw3, rw4⟩ := X19.leaveW hS11 (by rw [e19]; exact (Nat.le_refl _)) (v := some (.int (1 : Int32))) (fun h => by rw [Bd.returns] at h; cases h)
  refine ⟨_, _, pre0 _ ?_, hrun, hended, _, _, rfl, ?_, CHe, rw1, rw2, rw3, rw4.mono (by decide) (by decide)⟩
  · show Steps p.tables e below (s₁.setTop (mkF m 0 #[.val (.int p0), .val (.int p1), .val (.int p2), .val (.int p3), .val (.int p4), .unset, .unset, .unset, .unset, .unset, .unset, .unset, .unset, .unset, .unset, .unset] [])) _
    refine stA _ ?_
    show Steps p.tables e below (TA.setTop (mkF m 33 #[.val (.int p0), .val (.int p1), .val (.int p2), .val (.int p3), .val (.int p4), .val (.int (Int32.ofNat nz)), .val (.int (own_chr p1)), .val (.int (own_chr p2)), .val (.int (own_chr p3)), .val (.int (own_chr p4)), .unset, .unset, .unset, .unset, .unset, .unset] [])) _
    refine XS.iconst XA.here hx rfl (hb hby at_33) ?_
    show Steps p.tables e below (TA.setTop (mkF m 34 #[.val (.int p0), .val (.int p1), .val (.int p2), .val (.int p3), .val (.int p4), .val (.int (Int32.ofNat nz)), .val (.int (own_chr p1)), .val (.int (own_chr p2)), .val (.int (own_chr p3)), .val (.int (own_chr p4)), .unset, .unset, .unset, .unset, .unset, .unset] [(.int (4 : Int32))])) _
    refine st1 _ ?_
    show Steps p.tables e below (T1.setTop (mkF m 36 #[.val (.int p0), .val (.int p1), .val (.int p2), .val (.int p3), .val (.int p4), .val (.int (Int32.ofNat nz)), .val (.int (own_chr p1)), .val (.int (own_chr p2)), .val (.int (own_chr p3)), .val (.int (own_chr p4)), .unset, .unset, .unset, .unset, .unset, .unset] [(.ref b1)])) _
    refine XS.dup X1.here hx rfl (hb hby at_36) rfl rfl ?_
    refine XS.iconst X1.here hx rfl (hb hby at_37) ?_
    refine XS.iload X1.here hx rfl (hb hby at_38) rfl ?_
    show Steps p.tables e below (T1.setTop (mkF m 40 #[.val (.int p0), .val (.int p1), .val (.int p2), .val (.int p3), .val (.int p4), .val (.int (Int32.ofNat nz)), .val (.int (own_chr p1)), .val (.int (own_chr p2)), .val (.int (own_chr p3)), .val (.int (own_chr p4)), .unset, .unset, .unset, .unset, .unset, .unset] [(.int (own_chr p1)), (.int (0 : Int32)), (.ref b1), (.ref b1)])) _
    refine st3 _ ?_
    show Steps p.tables e below (T3.setTop (mkF m 41 #[.val (.int p0), .val (.int p1), .val (.int p2), .val (.int p3), .val (.int p4), .val (.int (Int32.ofNat nz)), .val (.int (own_chr p1)), .val (.int (own_chr p2)), .val (.int (own_chr p3)), .val (.int (own_chr p4)), .unset, .unset, .unset, .unset, .unset, .unset] [(.ref b1)])) _
    refine XS.dup X3.here hx rfl (hb hby at_41) rfl rfl ?_
    refine XS.iconst X3.here hx rfl (hb hby at_42) ?_
    refine XS.iload X3.here hx rfl (hb hby at_43) rfl ?_
    show Steps p.tables e below (T3.setTop (mkF m 45 #[.val (.int p0), .val (.int p1), .val (.int p2), .val (.int p3), .val (.int p4), .val (.int (Int32.ofNat nz)), .val (.int (own_chr p1)), .val (.int (own_chr p2)), .val (.int (own_chr p3)), .val (.int (own_chr p4)), .unset, .unset, .unset, .unset, .unset, .unset] [(.int (own_chr p2)), (.int (1 : Int32)), (.ref b1), (.ref b1)])) _
    refine st5 _ ?_
    show Steps p.tables e below (T5.setTop (mkF m 46 #[.val (.int p0), .val (.int p1), .val (.int p2), .val (.int p3), .val (.int p4), .val (.int (Int32.ofNat nz)), .val (.int (own_chr p1)), .val (.int (own_chr p2)), .val (.int (own_chr p3)), .val (.int (own_chr p4)), .unset, .unset, .unset, .unset, .unset, .unset] [(.ref b1)])) _
    refine XS.dup X5.here hx rfl (hb hby at_46) rfl rfl ?_
    refine XS.iconst X5.here hx rfl (hb hby at_47) ?_
    refine XS.iload X5.here hx rfl (hb hby at_48) rfl ?_
    show Steps p.tables e below (T5.setTop (mkF m 50 #[.val (.int p0), .val (.int p1), .val (.int p2), .val (.int p3), .val (.int p4), .val (.int (Int32.ofNat nz)), .val (.int (own_chr p1)), .val (.int (own_chr p2)), .val (.int (own_chr p3)), .val (.int (own_chr p4)), .unset, .unset, .unset, .unset, .unset, .unset] [(.int (own_chr p3)), (.int (2 : Int32)), (.ref b1), (.ref b1)])) _
    refine st7 _ ?_
    show Steps p.tables e below (T7.setTop (mkF m 51 #[.val (.int p0), .val (.int p1), .val (.int p2), .val (.int p3), .val (.int p4), .val (.int (Int32.ofNat nz)), .val (.int (own_chr p1)), .val (.int (own_chr p2)), .val (.int (own_chr p3)), .val (.int (own_chr p4)), .unset, .unset, .unset, .unset, .unset, .unset] [(.ref b1)])) _
    refine XS.dup X7.here hx rfl (hb hby at_51) rfl rfl ?_
    refine XS.iconst X7.here hx rfl (hb hby at_52) ?_
    refine XS.iload X7.here hx rfl (hb hby at_53) rfl ?_
    show Steps p.tables e below (T7.setTop (mkF m 55 #[.val (.int p0), .val (.int p1), .val (.int p2), .val (.int p3), .val (.int p4), .val (.int (Int32.ofNat nz)), .val (.int (own_chr p1)), .val (.int (own_chr p2)), .val (.int (own_chr p3)), .val (.int (own_chr p4)), .unset, .unset, .unset, .unset, .unset, .unset] [(.int (own_chr p4)), (.int (3 : Int32)), (.ref b1), (.ref b1)])) _
    refine st9 _ ?_
    show Steps p.tables e below (T9.setTop (mkF m 56 #[.val (.int p0), .val (.int p1), .val (.int p2), .val (.int p3), .val (.int p4), .val (.int (Int32.ofNat nz)), .val (.int (own_chr p1)), .val (.int (own_chr p2)), .val (.int (own_chr p3)), .val (.int (own_chr p4)), .unset, .unset, .unset, .unset, .unset, .unset] [(.ref b1)])) _
    refine XS.astore X9.here hx rfl (hb hby at_56) rfl rfl (l' := #[.val (.int p0), .val (.int p1), .val (.int p2), .val (.int p3), .val (.int p4), .val (.int (Int32.ofNat nz)), .val (.int (own_chr p1)), .val (.int (own_chr p2)), .val (.int (own_chr p3)), .val (.int (own_chr p4)), .val (.ref b1), .unset, .unset, .unset, .unset, .unset]) rfl ?_
    refine XS.iload X9.here hx rfl (hb hby at_58) rfl ?_
    refine XS.iload X9.here hx rfl (hb hby at_60) rfl ?_
    refine XS.iload X9.here hx rfl (hb hby at_62) rfl ?_
    show Steps p.tables e below (T9.setTop (mkF m 64 #[.val (.int p0), .val (.int p1), .val (.int p2), .val (.int p3), .val (.int p4), .val (.int (Int32.ofNat nz)), .val (.int (own_chr p1)), .val (.int (own_chr p2)), .val (.int (own_chr p3)), .val (.int (own_chr p4)), .val (.ref b1), .unset, .unset, .unset, .unset, .unset] [(.int (own_chr p2)), (.int (own_chr p1)), (.int (Int32.ofNat nz))])) _
    refine XS.iload X9.here hx rfl (hb hby at_64) rfl ?_
    refine XS.iload X9.here hx rfl (hb hby at_66) rfl ?_
    show Steps p.tables e below (T9.setTop (mkF m 68 #[.val (.int p0), .val (.int p1), .val (.int p2), .val (.int p3), .val (.int p4), .val (.int (Int32.ofNat nz)), .val (.int (own_chr p1)), .val (.int (own_chr p2)), .val (.int (own_chr p3)), .val (.int (own_chr p4)), .val (.ref b1), .unset, .unset, .unset, .unset, .unset] [(.int (own_chr p4)), (.int (own_chr p3)), (.int (own_chr p2)), (.int (own_chr p1)), (.int (Int32.ofNat nz))])) _
    refine st10 _ ?_
    show Steps p.tables e below (T10.setTop (mkF m 71 #[.val (.int p0), .val (.int p1), .val (.int p2), .val (.int p3), .val (.int p4), .val (.int (Int32.ofNat nz)), .val (.int (own_chr p1)), .val (.int (own_chr p2)), .val (.int (own_chr p3)), .val (.int (own_chr p4)), .val (.ref b1), .unset, .unset, .unset, .unset, .unset] [(.ref r10)])) _
    refine XS.astore X10.here hx rfl (hb hby at_71) rfl rfl (l' := #[.val (.int p0), .val (.int p1), .val (.int p2), .val (.int p3), .val (.int p4), .val (.int (Int32.ofNat nz)), .val (.int (own_chr p1)), .val (.int (own_chr p2)), .val (.int (own_chr p3)), .val (.int (own_chr p4)), .val (.ref b1), .val (.ref r10), .unset, .unset, .unset, .unset]) rfl ?_
    refine XS.aload X10.here hx rfl (hb hby at_73) rfl rfl ?_
    show Steps p.tables e below (T10.setTop (mkF m 75 #[.val (.int p0), .val (.int p1), .val (.int p2), .val (.int p3), .val (.int p4), .val (.int (Int32.ofNat nz)), .val (.int (own_chr p1)), .val (.int (own_chr p2)), .val (.int (own_chr p3)), .val (.int (own_chr p4)), .val (.ref b1), .val (.ref r10), .unset, .unset, .unset, .unset] [(.ref r10)])) _
    refine st11.trans ?_
    show Steps p.tables e below (T11.setTop (mkF m 78 #[.val (.int p0), .val (.int p1), .val (.int p2), .val (.int p3), .val (.int p4), .val (.int (Int32.ofNat nz)), .val (.int (own_chr p1)), .val (.int (own_chr p2)), .val (.int (own_chr p3)), .val (.int (own_chr p4)), .val (.ref b1), .val (.ref r10), .unset, .unset, .unset, .unset] [(.ref r11)])) _
    refine XS.astore X11.here hx rfl (hb hby at_78) rfl rfl (l' := #[.val (.int p0), .val (.int p1), .val (.int p2), .val (.int p3), .val (.int p4), .val (.int (Int32.ofNat nz)), .val (.int (own_chr p1)), .val (.int (own_chr p2)), .val (.int (own_chr p3)), .val (.int (own_chr p4)), .val (.ref b1), .val (.ref r10), .val (.ref r11), .unset, .unset, .unset]) rfl ?_
    refine XS.aload X11.here hx rfl (hb hby at_80) rfl rfl ?_
    show Steps p.tables e below (T11.setTop (mkF m 82 #[.val (.int p0), .val (.int p1), .val (.int p2), .val (.int p3), .val (.int p4), .val (.int (Int32.ofNat nz)), .val (.int (own_chr p1)), .val (.int (own_chr p2)), .val (.int (own_chr p3)), .val (.int (own_chr p4)), .val (.ref b1), .val (.ref r10), .val (.ref r11), .unset, .unset, .unset] [(.ref r11)])) _
    refine XS.ifnonnullYes X11.here hx rfl (pc0 := 82) (pc' := 87) rfl (hb hby at_82) rfl (by decide) (by decide) ?_
    show Steps p.tables e below (T11.setTop (mkF m 87 #[.val (.int p0), .val (.int p1), .val (.int p2), .val (.int p3), .val (.int p4), .val (.int (Int32.ofNat nz)), .val (.int (own_chr p1)), .val (.int (own_chr p2)), .val (.int (own_chr p3)), .val (.int (own_chr p4)), .val (.ref b1), .val (.ref r10), .val (.ref r11), .unset, .unset, .unset] [])) _
    refine st12 _ ?_
    show Steps p.tables e below (T12.setTop (mkF m 170 #[.val (.int p0), .val (.int p1), .val (.int p2), .val (.int p3), .val (.int p4), .val (.int (Int32.ofNat nz)), .val (.int (own_chr p1)), .val (.int (own_chr p2)), .val (.int (own_chr p3)), .val (.int (own_chr p4)), .val (.ref b1), .val (.ref r10), .val (.ref r11), .val (.int (Int32.ofNat (own_st nz (own_ns (own_chr p1)) (own_ns (own_chr p2)) (own_ns (own_chr p3)) (own_ns (own_chr p4))))), .unset, .unset] [])) _
    refine st13 _ ?_
    show Steps p.tables e below (T13.setTop (mkF m 252 #[.val (.int p0), .val (.int p1), .val (.int p2), .val (.int p3), .val (.int p4), .val (.int (Int32.ofNat nz)), .val (.int (own_chr p1)), .val (.int (own_chr p2)), .val (.int (own_chr p3)), .val (.int (own_chr p4)), .val (.ref b1), .val (.ref r10), .val (.ref r11), .val (.int (Int32.ofNat (own_st nz (own_ns (own_chr p1)) (own_ns (own_chr p2)) (own_ns (own_chr p3)) (own_ns (own_chr p4))))), .val (.int (Int32.ofNat (own_en nz (own_ns (own_chr p1)) (own_ns (own_chr p2)) (own_ns (own_chr p3)) (own_ns (own_chr p4))))), .unset] [])) _
    refine st14 _ ?_
    show Steps p.tables e below (T14.setTop (mkF m 263 #[.val (.int p0), .val (.int p1), .val (.int p2), .val (.int p3), .val (.int p4), .val (.int (Int32.ofNat nz)), .val (.int (own_chr p1)), .val (.int (own_chr p2)), .val (.int (own_chr p3)), .val (.int (own_chr p4)), .val (.ref b1), .val (.ref r10), .val (.ref r11), .val (.int (Int32.ofNat (own_st nz (own_ns (own_chr p1)) (own_ns (own_chr p2)) (own_ns (own_chr p3)) (own_ns (own_chr p4))))), .val (.int (Int32.ofNat (own_en nz (own_ns (own_chr p1)) (own_ns (own_chr p2)) (own_ns (own_chr p3)) (own_ns (own_chr p4))))), .val (.int (Int32.ofNat k))] [])) _
    refine st15 _ ?_
    show Steps p.tables e below (T15.setTop (mkF m 275 #[.val (.int p0), .val (.int p1), .val (.int p2), .val (.int p3), .val (.int p4), .val (.int (Int32.ofNat nz)), .val (.int (own_chr p1)), .val (.int (own_chr p2)), .val (.int (own_chr p3)), .val (.int (own_chr p4)), .val (.ref b1), .val (.ref r10), .val (.ref r11), .val (.int (Int32.ofNat (own_st nz (own_ns (own_chr p1)) (own_ns (own_chr p2)) (own_ns (own_chr p3)) (own_ns (own_chr p4))))), .val (.int (Int32.ofNat (own_en nz (own_ns (own_chr p1)) (own_ns (own_chr p2)) (own_ns (own_chr p3)) (own_ns (own_chr p4))))), .val (.int (Int32.ofNat k))] [])) _
    refine st16 _ ?_
    show Steps p.tables e below (T16.setTop (mkF m 296 #[.val (.int p0), .val (.int p1), .val (.int p2), .val (.int p3), .val (.int p4), .val (.int (Int32.ofNat nz)), .val (.int (own_chr p1)), .val (.int (own_chr p2)), .val (.int (own_chr p3)), .val (.int (own_chr p4)), .val (.ref b1), .val (.ref r10), .val (.ref r11), .val (.int (Int32.ofNat (own_st nz (own_ns (own_chr p1)) (own_ns (own_chr p2)) (own_ns (own_chr p3)) (own_ns (own_chr p4))))), .val (.int (Int32.ofNat (own_en nz (own_ns (own_chr p1)) (own_ns (own_chr p2)) (own_ns (own_chr p3)) (own_ns (own_chr p4))))), .val (.int (Int32.ofNat k))] [])) _
    refine st17 _ ?_
    show Steps p.tables e below (T17.setTop (mkF m 320 #[.val (.int p0), .val (.int p1), .val (.int p2), .val (.int p3), .val (.int p4), .val (.int (Int32.ofNat nz)), .val (.int (own_chr p1)), .val (.int (own_chr p2)), .val (.int (own_chr p3)), .val (.int (own_chr p4)), .val (.ref b1), .val (.ref r10), .val (.ref r11), .val (.int (Int32.ofNat (own_st nz (own_ns (own_chr p1)) (own_ns (own_chr p2)) (own_ns (own_chr p3)) (own_ns (own_chr p4))))), .val (.int (Int32.ofNat (own_en nz (own_ns (own_chr p1)) (own_ns (own_chr p2)) (own_ns (own_chr p3)) (own_ns (own_chr p4))))), .val (.int (Int32.ofNat k))] [])) _
    refine st18 _ ?_
    show Steps p.tables e below (T18.setTop (mkF m 344 #[.val (.int p0), .val (.int p1), .val (.int p2), .val (.int p3), .val (.int p4), .val (.int (Int32.ofNat nz)), .val (.int (own_chr p1)), .val (.int (own_chr p2)), .val (.int (own_chr p3)), .val (.int (own_chr p4)), .val (.ref b1), .val (.ref r10), .val (.ref r11), .val (.int (Int32.ofNat (own_st nz (own_ns (own_chr p1)) (own_ns (own_chr p2)) (own_ns (own_chr p3)) (own_ns (own_chr p4))))), .val (.int (Int32.ofNat (own_en nz (own_ns (own_chr p1)) (own_ns (own_chr p2)) (own_ns (own_chr p3)) (own_ns (own_chr p4))))), .val (.int (Int32.ofNat k))] [])) _
    refine st19 _ ?_
    show Steps p.tables e below (T19.setTop (mkF m 368 #[.val (.int p0), .val (.int p1), .val (.int p2), .val (.int p3), .val (.int p4), .val (.int (Int32.ofNat nz)), .val (.int (own_chr p1)), .val (.int (own_chr p2)), .val (.int (own_chr p3)), .val (.int (own_chr p4)), .val (.ref b1), .val (.ref r10), .val (.ref r11), .val (.int (Int32.ofNat (own_st nz (own_ns (own_chr p1)) (own_ns (own_chr p2)) (own_ns (own_chr p3)) (own_ns (own_chr p4))))), .val (.int (Int32.ofNat (own_en nz (own_ns (own_chr p1)) (own_ns (own_chr p2)) (own_ns (own_chr p3)) (own_ns (own_chr p4))))), .val (.int (Int32.ofNat k))] [])) _
    refine XS.iconst X19.here hx rfl (hb hby at_368) ?_
    show Steps p.tables e below (T19.setTop (mkF m 369 #[.val (.int p0), .val (.int p1), .val (.int p2), .val (.int p3), .val (.int p4), .val (.int (Int32.ofNat nz)), .val (.int (own_chr p1)), .val (.int (own_chr p2)), .val (.int (own_chr p3)), .val (.int (own_chr p4)), .val (.ref b1), .val (.ref r10), .val (.ref r11), .val (.int (Int32.ofNat (own_st nz (own_ns (own_chr p1)) (own_ns (own_chr p2)) (own_ns (own_chr p3)) (own_ns (own_chr p4))))), .val (.int (Int32.ofNat (own_en nz (own_ns (own_chr p1)) (own_ns (own_chr p2)) (own_ns (own_chr p3)) (own_ns (own_chr p4))))), .val (.int (Int32.ofNat k))] [(.int (1 : Int32))])) _
    exact retN X19 hx (t := .boolean) Bd.returns (by simp) (hb hby at_369) hr
  · show Q0_e Z p0 p1 p2 p3 p4 nz k cs fm h0 n0 _ T19.heap _
    rw [e19]
    exact ⟨rfl, N19⟩
theorem ef_0_0 (m : MethodId) (x0 : Int32) (x1 : Int32) (x2 : Int32) (x3 : Int32) (x4 : Int32) : entryFrame m #[(.int x0), (.int x1), (.int x2), (.int x3), (.int x4)] maxLocals = mkF m 0 #[.val (.int x0), .val (.int x1), .val (.int x2), .val (.int x3), .val (.int x4), .unset, .unset, .unset, .unset, .unset, .unset, .unset, .unset, .unset, .unset, .unset] [] := by first | (simp [entryFrame, mkF, argsToLocals, Value.category, maxLocals]; done) | rfl
def Q0_0 (Z : State) (p0 : Int32) (p1 : Int32) (p2 : Int32) (p3 : Int32) (p4 : Int32)  (k : Nat) (cs : Int32) (fm : Value) (h0 : Heap) (n0 : Nat) (v : Option Value) (h : Heap) (L : List Loc) : Prop := v = some (.int 1) ∧ Fr n0 L
set_option maxRecDepth 65536 in
set_option maxHeartbeats 40000000 in
theorem rm0_0 (l : Launch) (Z : State) (a0 : Array Value) (hw : ∀ d ∈ tables_1, d.before a0 Z = true) (ws : List Jvm.Cond) (p0 : Int32) (p1 : Int32) (p2 : Int32) (p3 : Int32) (p4 : Int32)  (k : Nat) (cs : Int32) (fm : Value) (h0 : Heap) (n0 : Nat) (Z0 : n0 ≤ h0.size) (O_0 : Old Z n0 h0) (S_cs : Sta Z Z.heap "java/lang/String" "COMPACT_STRINGS" "Z" (.int cs)) (hcs : ¬ (cs = (0 : Int32))) (S_fm : Sta Z Z.heap "jdk/internal/util/Preconditions" "SIOOBE_FORMATTER" "Ljava/util/function/BiFunction;" fm) (hfm : fm.isRef = true) (hn : own_n5 p0 = (Int32.ofNat 0)) (htl : own_tail ([(own_chr p1), (own_chr p2), (own_chr p3), (own_chr p4)].take 0) (own_lead ([(own_chr p1), (own_chr p2), (own_chr p3), (own_chr p4)].take 0)) 0 = (own_lead ([(own_chr p1), (own_chr p2), (own_chr p3), (own_chr p4)].take 0)) + k) (hz : (own_lead ([(own_chr p1), (own_chr p2), (own_chr p3), (own_chr p4)].take 0)) + k ≤ 0) (hL : own_mx (0 : Int32) ((Int32.ofNat (own_en 0 (own_ns (own_chr p1)) (own_ns (own_chr p2)) (own_ns (own_chr p3)) (own_ns (own_chr p4)))) - (Int32.ofNat (own_st 0 (own_ns (own_chr p1)) (own_ns (own_chr p2)) (own_ns (own_chr p3)) (own_ns (own_chr p4))))) = (Int32.ofNat k)) (HK0 : ∀ rl : List Value, (∀ i, i < k → rl.getD i (.int (0 : Int32)) = (own_bys ([(own_chr p1), (own_chr p2), (own_chr p3), (own_chr p4)].take 0)).getD ((own_lead ([(own_chr p1), (own_chr p2), (own_chr p3), (own_chr p4)].take 0)) + i) (.int (0 : Int32))) → ∀ i, i < k → (own_st 0 (own_ns (own_chr p1)) (own_ns (own_chr p2)) (own_ns (own_chr p3)) (own_ns (own_chr p4))) + i < 4 ∧ own_ch (own_el (own_chr p1) (own_chr p2) (own_chr p3) (own_chr p4) ((own_st 0 (own_ns (own_chr p1)) (own_ns (own_chr p2)) (own_ns (own_chr p3)) (own_ns (own_chr p4))) + i)) ∧ rl.getD i (.int (0 : Int32)) = .int (own_by (own_el (own_chr p1) (own_chr p2) (own_chr p3) (own_chr p4) ((own_st 0 (own_ns (own_chr p1)) (own_ns (own_chr p2)) (own_ns (own_chr p3)) (own_ns (own_chr p4))) + i)))) (hcase : (0 < k ∧ ¬ ((own_lead ([(own_chr p1), (own_chr p2), (own_chr p3), (own_chr p4)].take 0)) = 0 ∧ (own_lead ([(own_chr p1), (own_chr p2), (own_chr p3), (own_chr p4)].take 0)) + k = 0)) ∨ ((own_lead ([(own_chr p1), (own_chr p2), (own_chr p3), (own_chr p4)].take 0)) = 0 ∧ (own_lead ([(own_chr p1), (own_chr p2), (own_chr p3), (own_chr p4)].take 0)) + k = 0)) :
    MetFree l x (head1 (Jvm.Cond.code x code maxLocals ret :: ws) room_1) (fun a U => a = #[(.int p0), (.int p1), (.int p2), (.int p3), (.int p4)] ∧ Z.Warmed39 U.vm ∧ U.heap = h0 ∧ CHv Z own_EL U.vm h0) (fun _ _ _ _ _ => True) (fun _ U o U' => ∃ v L, o = .returned v ∧ Q0_0 Z p0 p1 p2 p3 p4 k cs fm h0 n0 v U'.heap L ∧ CHr Z own_EL U.vm U.heap U'.vm U'.heap ∧ ReturnedEndW U o U' L room_1.cells room_1.slots) := by
  refine MetFree.of_bodySF (plainFor_of_name pn_com_example_commitwright_commitwright_http_HeadTrimSpacePinLaw) hisR ?_
  intro p e s m args below meth c s₁ Bd hml0 hP hK
  obtain ⟨rfl, hZ, hh, hCH⟩ := hP
  have hx := Bd.exec
  have hby := Bd.bytes
  have hml : c.maxLocals = 16 := hml0
  have hown : s.vm.findClass "com/example/commitwright/commitwright/http/HeadTrimSpacePinLaw" = some m.cls := findClass_of_methodNamed Bd.named
  have hnm := (name_of_methodNamed Bd.named Bd.method).1
  have X0 : Stand p l e room_1 s m #[(.int p0), (.int p1), (.int p2), (.int p3), (.int p4)] below meth c s₁ [] 0 0 := Stand.of_body Bd
  have e0 : s₁.heap = h0 := by rw [← hh, Bd.state]; rfl
  have N0 := Fr.nil n0
  have pre0 : ∀ t, Steps p.tables e below (s₁.setTop (mkF m 0 #[.val (.int p0), .val (.int p1), .val (.int p2), .val (.int p3), .val (.int p4), .unset, .unset, .unset, .unset, .unset, .unset, .unset, .unset, .unset, .unset, .unset] [])) t → Steps p.tables e below (s₁.setTop (entryFrame m #[(.int p0), (.int p1), (.int p2), (.int p3), (.int p4)] maxLocals)) t := fun tt kt_ => castTop (ef_0_0 m p0 p1 p2 p3 p4) kt_
  have CH0 : CHr Z own_EL s.vm h0 s.vm h0 := CHr.refl hCH
  have K0 : Keep h0 h0 [] := Keep.refl h0 []
  obtain ⟨TA, lA, XA, NA, eA, stA⟩ := la_33 p0 p1 p2 p3 p4 0 X0 hx hZ hw hby hml hown e0 Z0 N0 hn
  obtain ⟨T1, h1, k1, X1, e1, E1, A1, st1⟩ := newP XA hx hZ (hw _ (List.mem_of_getElem? (i := 5) rfl)) eA (g := (mkF m 34 #[.val (.int p0), .val (.int p1), .val (.int p2), .val (.int p3), .val (.int p4), .val (.int (Int32.ofNat 0)), .val (.int (own_chr p1)), .val (.int (own_chr p2)), .val (.int (own_chr p3)), .val (.int (own_chr p4)), .unset, .unset, .unset, .unset, .unset, .unset] [(.int (4 : Int32))])) rfl (hb hby at_34) rfl (by decide) (cap := 4) (by decide) (by decide) (by decide) (by decide)
  obtain ⟨b1, g1⟩ : ∃ z, z = h0.size := ⟨_, rfl⟩
  rw [← g1] at A1 st1
  have g_b1 : n0 ≤ b1 := Nat.le_trans Z0 (Nat.le_of_eq g1.symm)
  have sz_b1 : h0.size ≤ b1 := Nat.le_trans K0.1 (Nat.le_of_eq g1.symm)
  have CH1 : CHr Z own_EL s.vm h0 s.vm h1 := CH0.trans (CHr.ext E1 CH0.1)
  have O_0_at1 : Old Z n0 h1 := O_0.ext E1
  have K1 : Keep h0 h1 [] := K0.ext E1
  have Z1 : n0 ≤ h1.size := Nat.le_trans Z0 E1.1
  have xV_b1_at1 := (Arv.new A1 (by decide)).pad (pad_rep [] (.int (0 : Int32)) 4)
  have V_b1_at1 : Arv Z h1 b1 k1 .char (4 : Int32) [(.int (0 : Int32)), (.int (0 : Int32)), (.int (0 : Int32)), (.int (0 : Int32))] (.int (0 : Int32)) := xV_b1_at1
  obtain ⟨cl_40_2, Ar_40_2, q_40_2, S_40_2, N_40_2, H_40_2, G_40_2⟩ := id V_b1_at1
  have hin40_2 : ¬ ((0 : Int32) < 0 ∨ cl_40_2.slots.size ≤ ((0 : Int32)).toNatClampNeg) := inb_of S_40_2 ⟨by decide, by decide⟩
  obtain ⟨T3, h3, X3, e3, W3, st3⟩ := stC X1 hx hZ e1 Ar_40_2 (j := (0 : Int32)) hin40_2 (g := (mkF m 40 #[.val (.int p0), .val (.int p1), .val (.int p2), .val (.int p3), .val (.int p4), .val (.int (Int32.ofNat 0)), .val (.int (own_chr p1)), .val (.int (own_chr p2)), .val (.int (own_chr p3)), .val (.int (own_chr p4)), .unset, .unset, .unset, .unset, .unset, .unset] [(.int (own_chr p1)), (.int (0 : Int32)), (.ref b1), (.ref b1)])) rfl rfl (hb hby at_40)
  rw [own_cc (own_chI p1)] at W3
  have CH3 : CHr Z own_EL s.vm h0 s.vm h3 := CH1.trans (CHr.wr W3 (Safe.arr hZ.alike Ar_40_2 (by decide)) CH1.1)
  have O_0_at3 : Old Z n0 h3 := O_0_at1.wr W3 g_b1
  have xV_b1_at3 := Arv.set Ar_40_2 q_40_2 S_40_2 N_40_2 H_40_2 G_40_2 (own_fc (own_chI p1)) W3 0 rfl (Nat.le_of_ble_eq_true rfl)
  have V_b1_at3 : Arv Z h3 b1 k1 .char (4 : Int32) [(.int (own_chr p1)), (.int (0 : Int32)), (.int (0 : Int32)), (.int (0 : Int32))] (.int (0 : Int32)) := xV_b1_at3
  have K3 : Keep h0 h3 [] := K1.wr W3 (Or.inr sz_b1)
  have Z3 : n0 ≤ h3.size := Nat.le_trans Z1 (Keep.of_wr W3).1
  have N3 := Fr.snoc X3 NA g_b1
  obtain ⟨cl_45_4, Ar_45_4, q_45_4, S_45_4, N_45_4, H_45_4, G_45_4⟩ := id V_b1_at3
  have hin45_4 : ¬ ((1 : Int32) < 0 ∨ cl_45_4.slots.size ≤ ((1 : Int32)).toNatClampNeg) := inb_of S_45_4 ⟨by decide, by decide⟩
  obtain ⟨T5, h5, X5, e5, W5, st5⟩ := stC X3 hx hZ e3 Ar_45_4 (j := (1 : Int32)) hin45_4 (g := (mkF m 45 #[.val (.int p0), .val (.int p1), .val (.int p2), .val (.int p3), .val (.int p4), .val (.int (Int32.ofNat 0)), .val (.int (own_chr p1)), .val (.int (own_chr p2)), .val (.int (own_chr p3)), .val (.int (own_chr p4)), .unset, .unset, .unset, .unset, .unset, .unset] [(.int (own_chr p2)), (.int (1 : Int32)), (.ref b1), (.ref b1)])) rfl rfl (hb hby at_45)
  rw [own_cc (own_chI p2)] at W5
  have CH5 : CHr Z own_EL s.vm h0 s.vm h5 := CH3.trans (CHr.wr W5 (Safe.arr hZ.alike Ar_45_4 (by decide)) CH3.1)
  have O_0_at5 : Old Z n0 h5 := O_0_at3.wr W5 g_b1
  have xV_b1_at5 := Arv.set Ar_45_4 q_45_4 S_45_4 N_45_4 H_45_4 G_45_4 (own_fc (own_chI p2)) W5 1 rfl (Nat.le_of_ble_eq_true rfl)
  have V_b1_at5 : Arv Z h5 b1 k1 .char (4 : Int32) [(.int (own_chr p1)), (.int (own_chr p2)), (.int (0 : Int32)), (.int (0 : Int32))] (.int (0 : Int32)) := xV_b1_at5
  have K5 : Keep h0 h5 [] := K3.wr W5 (Or.inr sz_b1)
  have Z5 : n0 ≤ h5.size := Nat.le_trans Z3 (Keep.of_wr W5).1
  have N5 := Fr.snoc X5 N3 g_b1
  obtain ⟨cl_50_6, Ar_50_6, q_50_6, S_50_6, N_50_6, H_50_6, G_50_6⟩ := id V_b1_at5
  have hin50_6 : ¬ ((2 : Int32) < 0 ∨ cl_50_6.slots.size ≤ ((2 : Int32)).toNatClampNeg) := inb_of S_50_6 ⟨by decide, by decide⟩
  obtain ⟨T7, h7, X7, e7, W7, st7⟩ := stC X5 hx hZ e5 Ar_50_6 (j := (2 : Int32)) hin50_6 (g := (mkF m 50 #[.val (.int p0), .val (.int p1), .val (.int p2), .val (.int p3), .val (.int p4), .val (.int (Int32.ofNat 0)), .val (.int (own_chr p1)), .val (.int (own_chr p2)), .val (.int (own_chr p3)), .val (.int (own_chr p4)), .unset, .unset, .unset, .unset, .unset, .unset] [(.int (own_chr p3)), (.int (2 : Int32)), (.ref b1), (.ref b1)])) rfl rfl (hb hby at_50)
  rw [own_cc (own_chI p3)] at W7
  have CH7 : CHr Z own_EL s.vm h0 s.vm h7 := CH5.trans (CHr.wr W7 (Safe.arr hZ.alike Ar_50_6 (by decide)) CH5.1)
  have O_0_at7 : Old Z n0 h7 := O_0_at5.wr W7 g_b1
  have xV_b1_at7 := Arv.set Ar_50_6 q_50_6 S_50_6 N_50_6 H_50_6 G_50_6 (own_fc (own_chI p3)) W7 2 rfl (Nat.le_of_ble_eq_true rfl)
  have V_b1_at7 : Arv Z h7 b1 k1 .char (4 : Int32) [(.int (own_chr p1)), (.int (own_chr p2)), (.int (own_chr p3)), (.int (0 : Int32))] (.int (0 : Int32)) := xV_b1_at7
  have K7 : Keep h0 h7 [] := K5.wr W7 (Or.inr sz_b1)
  have Z7 : n0 ≤ h7.size := Nat.le_trans Z5 (Keep.of_wr W7).1
  have N7 := Fr.snoc X7 N5 g_b1
  obtain ⟨cl_55_8, Ar_55_8, q_55_8, S_55_8, N_55_8, H_55_8, G_55_8⟩ := id V_b1_at7
  have hin55_8 : ¬ ((3 : Int32) < 0 ∨ cl_55_8.slots.size ≤ ((3 : Int32)).toNatClampNeg) := inb_of S_55_8 ⟨by decide, by decide⟩
  obtain ⟨T9, h9, X9, e9, W9, st9⟩ := stC X7 hx hZ e7 Ar_55_8 (j := (3 : Int32)) hin55_8 (g := (mkF m 55 #[.val (.int p0), .val (.int p1), .val (.int p2), .val (.int p3), .val (.int p4), .val (.int (Int32.ofNat 0)), .val (.int (own_chr p1)), .val (.int (own_chr p2)), .val (.int (own_chr p3)), .val (.int (own_chr p4)), .unset, .unset, .unset, .unset, .unset, .unset] [(.int (own_chr p4)), (.int (3 : Int32)), (.ref b1), (.ref b1)])) rfl rfl (hb hby at_55)
  rw [own_cc (own_chI p4)] at W9
  have CH9 : CHr Z own_EL s.vm h0 s.vm h9 := CH7.trans (CHr.wr W9 (Safe.arr hZ.alike Ar_55_8 (by decide)) CH7.1)
  have O_0_at9 : Old Z n0 h9 := O_0_at7.wr W9 g_b1
  have xV_b1_at9 := Arv.set Ar_55_8 q_55_8 S_55_8 N_55_8 H_55_8 G_55_8 (own_fc (own_chI p4)) W9 3 rfl (Nat.le_of_ble_eq_true rfl)
  have V_b1_at9 : Arv Z h9 b1 k1 .char (4 : Int32) [(.int (own_chr p1)), (.int (own_chr p2)), (.int (own_chr p3)), (.int (own_chr p4))] (.int (0 : Int32)) := xV_b1_at9
  have K9 : Keep h0 h9 [] := K7.wr W9 (Or.inr sz_b1)
  have Z9 : n0 ≤ h9.size := Nat.le_trans Z7 (Keep.of_wr W9).1
  have N9 := Fr.snoc X9 N7 g_b1
  obtain ⟨_, _, ⟨T10, L10, k10, n10⟩, -, Y10, hs10, hg10, ⟨Lc10, hQ10, l10, y10, z10, hC10⟩, st10⟩ := callSS X9 hx (y := (⟨"com/example/commitwright/commitwright/http/HeadTrimSpacePinLaw", "make", "(ICCCC)Ljava/lang/String;"⟩ : MethodName)) hown (mvT hZ (hw _ (List.mem_of_getElem? (i := 6) rfl))) (mvT hZ (hw _ (List.mem_of_getElem? (i := 7) rfl))) (mvT hZ (hw _ (List.mem_of_getElem? (i := 3) rfl))) (mvT hZ (hw _ (List.mem_of_getElem? (i := 8) rfl))) (by decide) (backOfSH (s := s) (vm0 := s.vm) (W := 0) (rm2_0 l Z a0 hw [] (own_chr p1) (own_chr p2) (own_chr p3) (own_chr p4) h9 n0 Z9) hZ (hw _ (List.mem_of_getElem? (i := 8) rfl)) (hw _ (List.mem_of_getElem? (i := 3) rfl)) (by decide) (by decide) (own_EW hw) CH9.1) (g := (mkF m 68 #[.val (.int p0), .val (.int p1), .val (.int p2), .val (.int p3), .val (.int p4), .val (.int (Int32.ofNat 0)), .val (.int (own_chr p1)), .val (.int (own_chr p2)), .val (.int (own_chr p3)), .val (.int (own_chr p4)), .val (.ref b1), .unset, .unset, .unset, .unset, .unset] [(.int (own_chr p4)), (.int (own_chr p3)), (.int (own_chr p2)), (.int (own_chr p1)), (.int (Int32.ofNat 0))])) rfl (by rw [hml]; rfl) (argsL := [(.int (Int32.ofNat 0)), (.int (own_chr p1)), (.int (own_chr p2)), (.int (own_chr p3)), (.int (own_chr p4))]) (rest := []) (lenOf pd_28ICCCC29Ljava2flang2fString3b rfl) rfl (by show 2 * 0 + _ ≤ _; exact Nat.le_of_eq rfl) (hb hby at_68) (fun _ _ => ⟨rfl, e9, (by decide : 1 + 4 ≤ _), (by decide : 4 + 8 ≤ _)⟩)
  dsimp only [Pt.U, Pt.locs, Pt.cells, Pt.slots] at Y10 hs10 hg10 l10 y10 z10 st10 hQ10 hC10
  subst l10 y10 z10
  obtain ⟨X10, hS10, hZ10, hown10⟩ := rebS (s := s) (vm0 := s.vm) ((State.WarmedH.refl s).since 0) (Nat.zero_le _) Y10 hs10 hg10 hZ hown
  obtain ⟨r10, b10, kb10, rfl, N10q, KK10, ER10, FC10, FV10, VB10⟩ := hQ10
  obtain ⟨h10, e10⟩ : ∃ z, T10.heap = z := ⟨_, rfl⟩
  rw [e10] at KK10 ER10 FC10 FV10 VB10
  have O_0_at10 : Old Z n0 h10 := O_0_at9.keep KK10 all0
  have V_b1_at10 : Arv Z h10 b1 k1 .char (4 : Int32) [(.int (own_chr p1)), (.int (own_chr p2)), (.int (own_chr p3)), (.int (own_chr p4))] (.int (0 : Int32)) := V_b1_at9.keep KK10 nin0
  rw [e10] at hC10
  have CH10 : CHr Z own_EL s.vm h0 T10.vm h10 := CH9.trans hC10
  have K10 : Keep h0 h10 [] := K9.trans KK10 all0
  have Z10 : n0 ≤ h10.size := Nat.le_trans Z9 KK10.1
  rw [e10] at hS10
  have hlen : ([(own_chr p1), (own_chr p2), (own_chr p3), (own_chr p4)].take 0).length = 0 := own_xlen (own_chr p1) (own_chr p2) (own_chr p3) (own_chr p4) (by decide)
  have KT10 : Arv Z h10 b10 kb10 .byte (Int32.ofNat ([(own_chr p1), (own_chr p2), (own_chr p3), (own_chr p4)].take 0).length) (own_bys ([(own_chr p1), (own_chr p2), (own_chr p3), (own_chr p4)].take 0)) (.int (0 : Int32)) := by rw [hlen]; exact VB10
  have N10 := Fr.app N9 N10q
  obtain ⟨_, _, ⟨T11, L11, k11, n11⟩, -, X11, ⟨Lc11, hQ11, l11, y11, z11⟩, st11⟩ := Jvm.LawKit.callS X10 hx (y := (⟨"com/example/commitwright/commitwright/http/Head", "trimSpace", "(Ljava/lang/String;)Ljava/lang/String;"⟩ : MethodName)) hown10 (mvT hZ10 (hw _ (List.mem_of_getElem? (i := 30) rfl))) (mvT hZ10 (hw _ (List.mem_of_getElem? (i := 31) rfl))) (mvT hZ10 (hw _ (List.mem_of_getElem? (i := 32) rfl))) (mvT hZ10 (hw _ (List.mem_of_getElem? (i := 33) rfl))) (by decide) (backOf (W := 0) (rm6_p l Z a0 hw [] r10 b10 kb10 ([(own_chr p1), (own_chr p2), (own_chr p3), (own_chr p4)].take 0) (own_lead ([(own_chr p1), (own_chr p2), (own_chr p3), (own_chr p4)].take 0)) k cs fm h10 n0 Z10 ER10 FC10 FV10 KT10 O_0_at10 S_cs hcs S_fm hfm (Nat.le_trans (Nat.le_of_eq hlen) (by decide)) (own_xch (own_chI p1) (own_chI p2) (own_chI p3) (own_chI p4) (by decide)) rfl (by rw [hlen]; exact htl) (by rw [hlen]; exact hz) (by rw [hlen]; exact hcase)) hZ10 (hw _ (List.mem_of_getElem? (i := 33) rfl)) (hw _ (List.mem_of_getElem? (i := 32) rfl)) (by decide) (by decide)) (g := (mkF m 75 #[.val (.int p0), .val (.int p1), .val (.int p2), .val (.int p3), .val (.int p4), .val (.int (Int32.ofNat 0)), .val (.int (own_chr p1)), .val (.int (own_chr p2)), .val (.int (own_chr p3)), .val (.int (own_chr p4)), .val (.ref b1), .val (.ref r10), .unset, .unset, .unset, .unset] [(.ref r10)])) rfl (by rw [hml]; rfl) (argsL := [(.ref r10)]) (rest := []) (lenOf pd_28Ljava2flang2fString3b29Ljava2flang2fString3b rfl) rfl (by show 2 * 0 + _ ≤ _; exact Nat.le_of_eq rfl) (hb hby at_75) (fun _ _ => ⟨rfl, e10, (by decide : 5 + 2 ≤ _), (by decide : 12 + 8 ≤ _)⟩)
  dsimp only [Pt.U, Pt.locs, Pt.cells, Pt.slots] at X11 l11 y11 z11 st11 hQ11
  subst l11 y11 z11
  obtain ⟨r11, b11, kb11, rl11, rfl, N11q, KK11, ER11, FC11, FV11, VB11, hP11⟩ := hQ11
  obtain ⟨h11, e11⟩ : ∃ z, T11.heap = z := ⟨_, rfl⟩
  rw [e11] at KK11 ER11 FC11 FV11 VB11
  have O_0_at11 : Old Z n0 h11 := O_0_at10.keep KK11 all0
  have V_b1_at11 : Arv Z h11 b1 k1 .char (4 : Int32) [(.int (own_chr p1)), (.int (own_chr p2)), (.int (own_chr p3)), (.int (own_chr p4))] (.int (0 : Int32)) := V_b1_at10.keep KK11 nin0
  have ER10_at11 : Exa Z h11 r10 "java/lang/String" := ER10.keep KK11
  have FC10_at11 : Fld Z h11 r10 "java/lang/String" "coder" "B" (.int (0 : Int32)) := FC10.keep KK11 nin0
  have FV10_at11 : Fld Z h11 r10 "java/lang/String" "value" "[B" (.ref b10) := FV10.keep KK11 nin0
  have KT10_at11 : Arv Z h11 b10 kb10 .byte (Int32.ofNat ([(own_chr p1), (own_chr p2), (own_chr p3), (own_chr p4)].take 0).length) (own_bys ([(own_chr p1), (own_chr p2), (own_chr p3), (own_chr p4)].take 0)) (.int (0 : Int32)) := KT10.keep KK11 nin0
  have CH11 : CHr Z own_EL s.vm h0 T10.vm h11 := CH10.trans (CHr.keep KK11 all0 CH10.1)
  have K11 : Keep h0 h11 [] := K10.trans KK11 all0
  have Z11 : n0 ≤ h11.size := Nat.le_trans Z10 KK11.1
  have N11 := Fr.app N10 N11q
  have HKf := HK0 rl11 hP11
  have hjs : (own_st 0 (own_ns (own_chr p1)) (own_ns (own_chr p2)) (own_ns (own_chr p3)) (own_ns (own_chr p4))) ≤ 4 := own_stle (by decide)
  have hk4 : k ≤ 4 := by have := hz; omega
  obtain ⟨T12, l12, X12, N12, e12, st12⟩ := la_s0 p0 p1 p2 p3 p4 0 (own_chr p1) (own_chr p2) (own_chr p3) (own_chr p4) b1 r10 r11  X11 hx hZ10 hw hby hml hown10 e11 Z11 N11 (by decide) (by decide) (by decide)
  rw [show (own_s0 0 (own_ns (own_chr p1)) (own_ns (own_chr p2)) (own_ns (own_chr p3)) (own_ns (own_chr p4))) = (own_st 0 (own_ns (own_chr p1)) (own_ns (own_chr p2)) (own_ns (own_chr p3)) (own_ns (own_chr p4))) from rfl] at st12
  obtain ⟨T13, l13, X13, N13, e13, st13⟩ := la_t0 p0 p1 p2 p3 p4 0 (own_chr p1) (own_chr p2) (own_chr p3) (own_chr p4) b1 r10 r11 (own_st 0 (own_ns (own_chr p1)) (own_ns (own_chr p2)) (own_ns (own_chr p3)) (own_ns (own_chr p4))) X12 hx hZ10 hw hby hml hown10 e12 Z11 N12 (by decide) (by decide) (by decide)
  rw [show (own_t0 0 (own_ns (own_chr p4)) (own_ns (own_chr p3)) (own_ns (own_chr p2)) (own_ns (own_chr p1))) = (own_en 0 (own_ns (own_chr p1)) (own_ns (own_chr p2)) (own_ns (own_chr p3)) (own_ns (own_chr p4))) from rfl] at st13
  obtain ⟨T14, l14, X14, N14, e14, st14⟩ := la_mx p0 p1 p2 p3 p4 0 (own_chr p1) (own_chr p2) (own_chr p3) (own_chr p4) b1 r10 r11 (own_st 0 (own_ns (own_chr p1)) (own_ns (own_chr p2)) (own_ns (own_chr p3)) (own_ns (own_chr p4))) (own_en 0 (own_ns (own_chr p1)) (own_ns (own_chr p2)) (own_ns (own_chr p3)) (own_ns (own_chr p4))) k X13 hx hZ10 hw hby hml hown10 e13 Z11 N13 (by decide) (by decide) (by decide) hL
  obtain ⟨T15, l15, X15, N15, e15, st15⟩ := la_len p0 p1 p2 p3 p4 0 (own_chr p1) (own_chr p2) (own_chr p3) (own_chr p4) b1 r10 r11 (own_st 0 (own_ns (own_chr p1)) (own_ns (own_chr p2)) (own_ns (own_chr p3)) (own_ns (own_chr p4))) (own_en 0 (own_ns (own_chr p1)) (own_ns (own_chr p2)) (own_ns (own_chr p3)) (own_ns (own_chr p4))) k b11 kb11 rl11 cs fm X14 hx hZ10 hw hby hml hown10 e14 Z11 N14 (by decide) (by decide) (by decide) hk4 hjs ER11 FC11 FV11 VB11 O_0_at11 S_cs hcs S_fm hfm
  obtain ⟨T16, l16, X16, N16, e16, st16⟩ := la_c0 p0 p1 p2 p3 p4 0 (own_chr p1) (own_chr p2) (own_chr p3) (own_chr p4) b1 r10 r11 (own_st 0 (own_ns (own_chr p1)) (own_ns (own_chr p2)) (own_ns (own_chr p3)) (own_ns (own_chr p4))) (own_en 0 (own_ns (own_chr p1)) (own_ns (own_chr p2)) (own_ns (own_chr p3)) (own_ns (own_chr p4))) k b11 kb11 rl11 cs fm k1 X15 hx hZ10 hw hby hml hown10 e15 Z11 N15 (by decide) (by decide) (by decide) hk4 hjs ER11 FC11 FV11 VB11 O_0_at11 S_cs hcs S_fm hfm V_b1_at11 HKf
  obtain ⟨T17, l17, X17, N17, e17, st17⟩ := la_c1 p0 p1 p2 p3 p4 0 (own_chr p1) (own_chr p2) (own_chr p3) (own_chr p4) b1 r10 r11 (own_st 0 (own_ns (own_chr p1)) (own_ns (own_chr p2)) (own_ns (own_chr p3)) (own_ns (own_chr p4))) (own_en 0 (own_ns (own_chr p1)) (own_ns (own_chr p2)) (own_ns (own_chr p3)) (own_ns (own_chr p4))) k b11 kb11 rl11 cs fm k1 X16 hx hZ10 hw hby hml hown10 e16 Z11 N16 (by decide) (by decide) (by decide) hk4 hjs ER11 FC11 FV11 VB11 O_0_at11 S_cs hcs S_fm hfm V_b1_at11 HKf
  obtain ⟨T18, l18, X18, N18, e18, st18⟩ := la_c2 p0 p1 p2 p3 p4 0 (own_chr p1) (own_chr p2) (own_chr p3) (own_chr p4) b1 r10 r11 (own_st 0 (own_ns (own_chr p1)) (own_ns (own_chr p2)) (own_ns (own_chr p3)) (own_ns (own_chr p4))) (own_en 0 (own_ns (own_chr p1)) (own_ns (own_chr p2)) (own_ns (own_chr p3)) (own_ns (own_chr p4))) k b11 kb11 rl11 cs fm k1 X17 hx hZ10 hw hby hml hown10 e17 Z11 N17 (by decide) (by decide) (by decide) hk4 hjs ER11 FC11 FV11 VB11 O_0_at11 S_cs hcs S_fm hfm V_b1_at11 HKf
  obtain ⟨T19, l19, X19, N19, e19, st19⟩ := la_c3 p0 p1 p2 p3 p4 0 (own_chr p1) (own_chr p2) (own_chr p3) (own_chr p4) b1 r10 r11 (own_st 0 (own_ns (own_chr p1)) (own_ns (own_chr p2)) (own_ns (own_chr p3)) (own_ns (own_chr p4))) (own_en 0 (own_ns (own_chr p1)) (own_ns (own_chr p2)) (own_ns (own_chr p3)) (own_ns (own_chr p4))) k b11 kb11 rl11 cs fm k1 X18 hx hZ10 hw hby hml hown10 e18 Z11 N18 (by decide) (by decide) (by decide) hk4 hjs ER11 FC11 FV11 VB11 O_0_at11 S_cs hcs S_fm hfm V_b1_at11 HKf
  have CHe : CHr Z own_EL s.vm s.heap T19.vm T19.heap := by
    have q := CH11.trans (CHv.at (s := s) X19 hZ10 (own_EW hw) CH11.1)
    rw [hh, e19]
    exact q
  obtain ⟨fs, hr, hrun, hended, rw1, rw2, rw3, rw4⟩ := X19.leaveW hS10 (by rw [e19]; exact (Nat.le_trans (Nat.le_refl _) KK11.1)) (v := some (.int (1 : Int32))) (fun h => by rw [Bd.returns] at h; cases h)
  refine ⟨_, _, pre0 _ ?_, hrun, hended, _, _, rfl, ?_, CHe, rw1, rw2, rw3, rw4.mono (by decide) (by decide)⟩
  · show Steps p.tables e below (s₁.setTop (mkF m 0 #[.val (.int p0), .val (.int p1), .val (.int p2), .val (.int p3), .val (.int p4), .unset, .unset, .unset, .unset, .unset, .unset, .unset, .unset, .unset, .unset, .unset] [])) _
    refine stA _ ?_
    show Steps p.tables e below (TA.setTop (mkF m 33 #[.val (.int p0), .val (.int p1), .val (.int p2), .val (.int p3), .val (.int p4), .val (.int (Int32.ofNat 0)), .val (.int (own_chr p1)), .val (.int (own_chr p2)), .val (.int (own_chr p3)), .val (.int (own_chr p4)), .unset, .unset, .unset, .unset, .unset, .unset] [])) _
    refine XS.iconst XA.here hx rfl (hb hby at_33) ?_
    show Steps p.tables e below (TA.setTop (mkF m 34 #[.val (.int p0), .val (.int p1), .val (.int p2), .val (.int p3), .val (.int p4), .val (.int (Int32.ofNat 0)), .val (.int (own_chr p1)), .val (.int (own_chr p2)), .val (.int (own_chr p3)), .val (.int (own_chr p4)), .unset, .unset, .unset, .unset, .unset, .unset] [(.int (4 : Int32))])) _
    refine st1 _ ?_
    show Steps p.tables e below (T1.setTop (mkF m 36 #[.val (.int p0), .val (.int p1), .val (.int p2), .val (.int p3), .val (.int p4), .val (.int (Int32.ofNat 0)), .val (.int (own_chr p1)), .val (.int (own_chr p2)), .val (.int (own_chr p3)), .val (.int (own_chr p4)), .unset, .unset, .unset, .unset, .unset, .unset] [(.ref b1)])) _
    refine XS.dup X1.here hx rfl (hb hby at_36) rfl rfl ?_
    refine XS.iconst X1.here hx rfl (hb hby at_37) ?_
    refine XS.iload X1.here hx rfl (hb hby at_38) rfl ?_
    show Steps p.tables e below (T1.setTop (mkF m 40 #[.val (.int p0), .val (.int p1), .val (.int p2), .val (.int p3), .val (.int p4), .val (.int (Int32.ofNat 0)), .val (.int (own_chr p1)), .val (.int (own_chr p2)), .val (.int (own_chr p3)), .val (.int (own_chr p4)), .unset, .unset, .unset, .unset, .unset, .unset] [(.int (own_chr p1)), (.int (0 : Int32)), (.ref b1), (.ref b1)])) _
    refine st3 _ ?_
    show Steps p.tables e below (T3.setTop (mkF m 41 #[.val (.int p0), .val (.int p1), .val (.int p2), .val (.int p3), .val (.int p4), .val (.int (Int32.ofNat 0)), .val (.int (own_chr p1)), .val (.int (own_chr p2)), .val (.int (own_chr p3)), .val (.int (own_chr p4)), .unset, .unset, .unset, .unset, .unset, .unset] [(.ref b1)])) _
    refine XS.dup X3.here hx rfl (hb hby at_41) rfl rfl ?_
    refine XS.iconst X3.here hx rfl (hb hby at_42) ?_
    refine XS.iload X3.here hx rfl (hb hby at_43) rfl ?_
    show Steps p.tables e below (T3.setTop (mkF m 45 #[.val (.int p0), .val (.int p1), .val (.int p2), .val (.int p3), .val (.int p4), .val (.int (Int32.ofNat 0)), .val (.int (own_chr p1)), .val (.int (own_chr p2)), .val (.int (own_chr p3)), .val (.int (own_chr p4)), .unset, .unset, .unset, .unset, .unset, .unset] [(.int (own_chr p2)), (.int (1 : Int32)), (.ref b1), (.ref b1)])) _
    refine st5 _ ?_
    show Steps p.tables e below (T5.setTop (mkF m 46 #[.val (.int p0), .val (.int p1), .val (.int p2), .val (.int p3), .val (.int p4), .val (.int (Int32.ofNat 0)), .val (.int (own_chr p1)), .val (.int (own_chr p2)), .val (.int (own_chr p3)), .val (.int (own_chr p4)), .unset, .unset, .unset, .unset, .unset, .unset] [(.ref b1)])) _
    refine XS.dup X5.here hx rfl (hb hby at_46) rfl rfl ?_
    refine XS.iconst X5.here hx rfl (hb hby at_47) ?_
    refine XS.iload X5.here hx rfl (hb hby at_48) rfl ?_
    show Steps p.tables e below (T5.setTop (mkF m 50 #[.val (.int p0), .val (.int p1), .val (.int p2), .val (.int p3), .val (.int p4), .val (.int (Int32.ofNat 0)), .val (.int (own_chr p1)), .val (.int (own_chr p2)), .val (.int (own_chr p3)), .val (.int (own_chr p4)), .unset, .unset, .unset, .unset, .unset, .unset] [(.int (own_chr p3)), (.int (2 : Int32)), (.ref b1), (.ref b1)])) _
    refine st7 _ ?_
    show Steps p.tables e below (T7.setTop (mkF m 51 #[.val (.int p0), .val (.int p1), .val (.int p2), .val (.int p3), .val (.int p4), .val (.int (Int32.ofNat 0)), .val (.int (own_chr p1)), .val (.int (own_chr p2)), .val (.int (own_chr p3)), .val (.int (own_chr p4)), .unset, .unset, .unset, .unset, .unset, .unset] [(.ref b1)])) _
    refine XS.dup X7.here hx rfl (hb hby at_51) rfl rfl ?_
    refine XS.iconst X7.here hx rfl (hb hby at_52) ?_
    refine XS.iload X7.here hx rfl (hb hby at_53) rfl ?_
    show Steps p.tables e below (T7.setTop (mkF m 55 #[.val (.int p0), .val (.int p1), .val (.int p2), .val (.int p3), .val (.int p4), .val (.int (Int32.ofNat 0)), .val (.int (own_chr p1)), .val (.int (own_chr p2)), .val (.int (own_chr p3)), .val (.int (own_chr p4)), .unset, .unset, .unset, .unset, .unset, .unset] [(.int (own_chr p4)), (.int (3 : Int32)), (.ref b1), (.ref b1)])) _
    refine st9 _ ?_
    show Steps p.tables e below (T9.setTop (mkF m 56 #[.val (.int p0), .val (.int p1), .val (.int p2), .val (.int p3), .val (.int p4), .val (.int (Int32.ofNat 0)), .val (.int (own_chr p1)), .val (.int (own_chr p2)), .val (.int (own_chr p3)), .val (.int (own_chr p4)), .unset, .unset, .unset, .unset, .unset, .unset] [(.ref b1)])) _
    refine XS.astore X9.here hx rfl (hb hby at_56) rfl rfl (l' := #[.val (.int p0), .val (.int p1), .val (.int p2), .val (.int p3), .val (.int p4), .val (.int (Int32.ofNat 0)), .val (.int (own_chr p1)), .val (.int (own_chr p2)), .val (.int (own_chr p3)), .val (.int (own_chr p4)), .val (.ref b1), .unset, .unset, .unset, .unset, .unset]) rfl ?_
    refine XS.iload X9.here hx rfl (hb hby at_58) rfl ?_
    refine XS.iload X9.here hx rfl (hb hby at_60) rfl ?_
    refine XS.iload X9.here hx rfl (hb hby at_62) rfl ?_
    show Steps p.tables e below (T9.setTop (mkF m 64 #[.val (.int p0), .val (.int p1), .val (.int p2), .val (.int p3), .val (.int p4), .val (.int (Int32.ofNat 0)), .val (.int (own_chr p1)), .val (.int (own_chr p2)), .val (.int (own_chr p3)), .val (.int (own_chr p4)), .val (.ref b1), .unset, .unset, .unset, .unset, .unset] [(.int (own_chr p2)), (.int (own_chr p1)), (.int (Int32.ofNat 0))])) _
    refine XS.iload X9.here hx rfl (hb hby at_64) rfl ?_
    refine XS.iload X9.here hx rfl (hb hby at_66) rfl ?_
    show Steps p.tables e below (T9.setTop (mkF m 68 #[.val (.int p0), .val (.int p1), .val (.int p2), .val (.int p3), .val (.int p4), .val (.int (Int32.ofNat 0)), .val (.int (own_chr p1)), .val (.int (own_chr p2)), .val (.int (own_chr p3)), .val (.int (own_chr p4)), .val (.ref b1), .unset, .unset, .unset, .unset, .unset] [(.int (own_chr p4)), (.int (own_chr p3)), (.int (own_chr p2)), (.int (own_chr p1)), (.int (Int32.ofNat 0))])) _
    refine st10.trans ?_
    show Steps p.tables e below (T10.setTop (mkF m 71 #[.val (.int p0), .val (.int p1), .val (.int p2), .val (.int p3), .val (.int p4), .val (.int (Int32.ofNat 0)), .val (.int (own_chr p1)), .val (.int (own_chr p2)), .val (.int (own_chr p3)), .val (.int (own_chr p4)), .val (.ref b1), .unset, .unset, .unset, .unset, .unset] [(.ref r10)])) _
    refine XS.astore X10.here hx rfl (hb hby at_71) rfl rfl (l' := #[.val (.int p0), .val (.int p1), .val (.int p2), .val (.int p3), .val (.int p4), .val (.int (Int32.ofNat 0)), .val (.int (own_chr p1)), .val (.int (own_chr p2)), .val (.int (own_chr p3)), .val (.int (own_chr p4)), .val (.ref b1), .val (.ref r10), .unset, .unset, .unset, .unset]) rfl ?_
    refine XS.aload X10.here hx rfl (hb hby at_73) rfl rfl ?_
    show Steps p.tables e below (T10.setTop (mkF m 75 #[.val (.int p0), .val (.int p1), .val (.int p2), .val (.int p3), .val (.int p4), .val (.int (Int32.ofNat 0)), .val (.int (own_chr p1)), .val (.int (own_chr p2)), .val (.int (own_chr p3)), .val (.int (own_chr p4)), .val (.ref b1), .val (.ref r10), .unset, .unset, .unset, .unset] [(.ref r10)])) _
    refine st11 _ ?_
    show Steps p.tables e below (T11.setTop (mkF m 78 #[.val (.int p0), .val (.int p1), .val (.int p2), .val (.int p3), .val (.int p4), .val (.int (Int32.ofNat 0)), .val (.int (own_chr p1)), .val (.int (own_chr p2)), .val (.int (own_chr p3)), .val (.int (own_chr p4)), .val (.ref b1), .val (.ref r10), .unset, .unset, .unset, .unset] [(.ref r11)])) _
    refine XS.astore X11.here hx rfl (hb hby at_78) rfl rfl (l' := #[.val (.int p0), .val (.int p1), .val (.int p2), .val (.int p3), .val (.int p4), .val (.int (Int32.ofNat 0)), .val (.int (own_chr p1)), .val (.int (own_chr p2)), .val (.int (own_chr p3)), .val (.int (own_chr p4)), .val (.ref b1), .val (.ref r10), .val (.ref r11), .unset, .unset, .unset]) rfl ?_
    refine XS.aload X11.here hx rfl (hb hby at_80) rfl rfl ?_
    show Steps p.tables e below (T11.setTop (mkF m 82 #[.val (.int p0), .val (.int p1), .val (.int p2), .val (.int p3), .val (.int p4), .val (.int (Int32.ofNat 0)), .val (.int (own_chr p1)), .val (.int (own_chr p2)), .val (.int (own_chr p3)), .val (.int (own_chr p4)), .val (.ref b1), .val (.ref r10), .val (.ref r11), .unset, .unset, .unset] [(.ref r11)])) _
    refine XS.ifnonnullYes X11.here hx rfl (pc0 := 82) (pc' := 87) rfl (hb hby at_82) rfl (by decide) (by decide) ?_
    show Steps p.tables e below (T11.setTop (mkF m 87 #[.val (.int p0), .val (.int p1), .val (.int p2), .val (.int p3), .val (.int p4), .val (.int (Int32.ofNat 0)), .val (.int (own_chr p1)), .val (.int (own_chr p2)), .val (.int (own_chr p3)), .val (.int (own_chr p4)), .val (.ref b1), .val (.ref r10), .val (.ref r11), .unset, .unset, .unset] [])) _
    refine st12 _ ?_
    show Steps p.tables e below (T12.setTop (mkF m 170 #[.val (.int p0), .val (.int p1), .val (.int p2), .val (.int p3), .val (.int p4), .val (.int (Int32.ofNat 0)), .val (.int (own_chr p1)), .val (.int (own_chr p2)), .val (.int (own_chr p3)), .val (.int (own_chr p4)), .val (.ref b1), .val (.ref r10), .val (.ref r11), .val (.int (Int32.ofNat (own_st 0 (own_ns (own_chr p1)) (own_ns (own_chr p2)) (own_ns (own_chr p3)) (own_ns (own_chr p4))))), .unset, .unset] [])) _
    refine st13 _ ?_
    show Steps p.tables e below (T13.setTop (mkF m 252 #[.val (.int p0), .val (.int p1), .val (.int p2), .val (.int p3), .val (.int p4), .val (.int (Int32.ofNat 0)), .val (.int (own_chr p1)), .val (.int (own_chr p2)), .val (.int (own_chr p3)), .val (.int (own_chr p4)), .val (.ref b1), .val (.ref r10), .val (.ref r11), .val (.int (Int32.ofNat (own_st 0 (own_ns (own_chr p1)) (own_ns (own_chr p2)) (own_ns (own_chr p3)) (own_ns (own_chr p4))))), .val (.int (Int32.ofNat (own_en 0 (own_ns (own_chr p1)) (own_ns (own_chr p2)) (own_ns (own_chr p3)) (own_ns (own_chr p4))))), .unset] [])) _
    refine st14 _ ?_
    show Steps p.tables e below (T14.setTop (mkF m 263 #[.val (.int p0), .val (.int p1), .val (.int p2), .val (.int p3), .val (.int p4), .val (.int (Int32.ofNat 0)), .val (.int (own_chr p1)), .val (.int (own_chr p2)), .val (.int (own_chr p3)), .val (.int (own_chr p4)), .val (.ref b1), .val (.ref r10), .val (.ref r11), .val (.int (Int32.ofNat (own_st 0 (own_ns (own_chr p1)) (own_ns (own_chr p2)) (own_ns (own_chr p3)) (own_ns (own_chr p4))))), .val (.int (Int32.ofNat (own_en 0 (own_ns (own_chr p1)) (own_ns (own_chr p2)) (own_ns (own_chr p3)) (own_ns (own_chr p4))))), .val (.int (Int32.ofNat k))] [])) _
    refine st15 _ ?_
    show Steps p.tables e below (T15.setTop (mkF m 275 #[.val (.int p0), .val (.int p1), .val (.int p2), .val (.int p3), .val (.int p4), .val (.int (Int32.ofNat 0)), .val (.int (own_chr p1)), .val (.int (own_chr p2)), .val (.int (own_chr p3)), .val (.int (own_chr p4)), .val (.ref b1), .val (.ref r10), .val (.ref r11), .val (.int (Int32.ofNat (own_st 0 (own_ns (own_chr p1)) (own_ns (own_chr p2)) (own_ns (own_chr p3)) (own_ns (own_chr p4))))), .val (.int (Int32.ofNat (own_en 0 (own_ns (own_chr p1)) (own_ns (own_chr p2)) (own_ns (own_chr p3)) (own_ns (own_chr p4))))), .val (.int (Int32.ofNat k))] [])) _
    refine st16 _ ?_
    show Steps p.tables e below (T16.setTop (mkF m 296 #[.val (.int p0), .val (.int p1), .val (.int p2), .val (.int p3), .val (.int p4), .val (.int (Int32.ofNat 0)), .val (.int (own_chr p1)), .val (.int (own_chr p2)), .val (.int (own_chr p3)), .val (.int (own_chr p4)), .val (.ref b1), .val (.ref r10), .val (.ref r11), .val (.int (Int32.ofNat (own_st 0 (own_ns (own_chr p1)) (own_ns (own_chr p2)) (own_ns (own_chr p3)) (own_ns (own_chr p4))))), .val (.int (Int32.ofNat (own_en 0 (own_ns (own_chr p1)) (own_ns (own_chr p2)) (own_ns (own_chr p3)) (own_ns (own_chr p4))))), .val (.int (Int32.ofNat k))] [])) _
    refine st17 _ ?_
    show Steps p.tables e below (T17.setTop (mkF m 320 #[.val (.int p0), .val (.int p1), .val (.int p2), .val (.int p3), .val (.int p4), .val (.int (Int32.ofNat 0)), .val (.int (own_chr p1)), .val (.int (own_chr p2)), .val (.int (own_chr p3)), .val (.int (own_chr p4)), .val (.ref b1), .val (.ref r10), .val (.ref r11), .val (.int (Int32.ofNat (own_st 0 (own_ns (own_chr p1)) (own_ns (own_chr p2)) (own_ns (own_chr p3)) (own_ns (own_chr p4))))), .val (.int (Int32.ofNat (own_en 0 (own_ns (own_chr p1)) (own_ns (own_chr p2)) (own_ns (own_chr p3)) (own_ns (own_chr p4))))), .val (.int (Int32.ofNat k))] [])) _
    refine st18 _ ?_
    show Steps p.tables e below (T18.setTop (mkF m 344 #[.val (.int p0), .val (.int p1), .val (.int p2), .val (.int p3), .val (.int p4), .val (.int (Int32.ofNat 0)), .val (.int (own_chr p1)), .val (.int (own_chr p2)), .val (.int (own_chr p3)), .val (.int (own_chr p4)), .val (.ref b1), .val (.ref r10), .val (.ref r11), .val (.int (Int32.ofNat (own_st 0 (own_ns (own_chr p1)) (own_ns (own_chr p2)) (own_ns (own_chr p3)) (own_ns (own_chr p4))))), .val (.int (Int32.ofNat (own_en 0 (own_ns (own_chr p1)) (own_ns (own_chr p2)) (own_ns (own_chr p3)) (own_ns (own_chr p4))))), .val (.int (Int32.ofNat k))] [])) _
    refine st19 _ ?_
    show Steps p.tables e below (T19.setTop (mkF m 368 #[.val (.int p0), .val (.int p1), .val (.int p2), .val (.int p3), .val (.int p4), .val (.int (Int32.ofNat 0)), .val (.int (own_chr p1)), .val (.int (own_chr p2)), .val (.int (own_chr p3)), .val (.int (own_chr p4)), .val (.ref b1), .val (.ref r10), .val (.ref r11), .val (.int (Int32.ofNat (own_st 0 (own_ns (own_chr p1)) (own_ns (own_chr p2)) (own_ns (own_chr p3)) (own_ns (own_chr p4))))), .val (.int (Int32.ofNat (own_en 0 (own_ns (own_chr p1)) (own_ns (own_chr p2)) (own_ns (own_chr p3)) (own_ns (own_chr p4))))), .val (.int (Int32.ofNat k))] [])) _
    refine XS.iconst X19.here hx rfl (hb hby at_368) ?_
    show Steps p.tables e below (T19.setTop (mkF m 369 #[.val (.int p0), .val (.int p1), .val (.int p2), .val (.int p3), .val (.int p4), .val (.int (Int32.ofNat 0)), .val (.int (own_chr p1)), .val (.int (own_chr p2)), .val (.int (own_chr p3)), .val (.int (own_chr p4)), .val (.ref b1), .val (.ref r10), .val (.ref r11), .val (.int (Int32.ofNat (own_st 0 (own_ns (own_chr p1)) (own_ns (own_chr p2)) (own_ns (own_chr p3)) (own_ns (own_chr p4))))), .val (.int (Int32.ofNat (own_en 0 (own_ns (own_chr p1)) (own_ns (own_chr p2)) (own_ns (own_chr p3)) (own_ns (own_chr p4))))), .val (.int (Int32.ofNat k))] [(.int (1 : Int32))])) _
    exact retN X19 hx (t := .boolean) Bd.returns (by simp) (hb hby at_369) hr
  · show Q0_0 Z p0 p1 p2 p3 p4 k cs fm h0 n0 _ T19.heap _
    rw [e19]
    exact ⟨rfl, N19⟩
theorem rm0 (l : Launch) (Z : State) (a0 : Array Value) (hw : ∀ d ∈ tables_1, d.before a0 Z = true) (ws : List Jvm.Cond) (p0 p1 p2 p3 p4 : Int32) (cs : Int32) (fm : Value) (h0 : Heap) (n0 : Nat) (Z0 : n0 ≤ h0.size) (O_0 : Old Z n0 h0) (S_cs : Sta Z Z.heap "java/lang/String" "COMPACT_STRINGS" "Z" (.int cs)) (hcs : ¬ (cs = (0 : Int32))) (S_fm : Sta Z Z.heap "jdk/internal/util/Preconditions" "SIOOBE_FORMATTER" "Ljava/util/function/BiFunction;" fm) (hfm : fm.isRef = true) :
    MetFree l x (head1 (Jvm.Cond.code x code maxLocals ret :: ws) room_1) (fun a U => a = #[(.int p0), (.int p1), (.int p2), (.int p3), (.int p4)] ∧ Z.Warmed39 U.vm ∧ U.heap = h0 ∧ CHv Z own_EL U.vm h0) (fun _ _ _ _ _ => True) (fun _ U o U' => ∃ v L, o = .returned v ∧ (v = some (.int 1) ∧ Fr n0 L) ∧ CHr Z own_EL U.vm U.heap U'.vm U'.heap ∧ ReturnedEndW U o U' L room_1.cells room_1.slots) := by
  obtain ⟨nz, hz4, hn⟩ := own_n5I p0
  obtain ⟨k, htl, hz, hL, HK0⟩ := own_all (own_chr p1) (own_chr p2) (own_chr p3) (own_chr p4) (own_chI p1) (own_chI p2) (own_chI p3) (own_chI p4) hz4
  by_cases h0z : nz = 0
  · subst h0z
    exact rm0_0 l Z a0 hw ws p0 p1 p2 p3 p4 k cs fm h0 n0 Z0 O_0 S_cs hcs S_fm hfm hn htl hz hL HK0 (Or.inr ⟨by omega, by omega⟩)
  · by_cases hw0 : (own_lead ([(own_chr p1), (own_chr p2), (own_chr p3), (own_chr p4)].take nz) = 0 ∧ own_lead ([(own_chr p1), (own_chr p2), (own_chr p3), (own_chr p4)].take nz) + k = nz)
    · exact rm0_p l Z a0 hw ws p0 p1 p2 p3 p4 nz k cs fm h0 n0 Z0 O_0 S_cs hcs S_fm hfm hn (by omega) hz4 htl hz hL HK0 (Or.inr hw0)
    · by_cases hk0 : k = 0
      · exact rm0_e l Z a0 hw ws p0 p1 p2 p3 p4 nz k cs fm h0 n0 Z0 O_0 S_cs hcs S_fm hfm hn (by omega) hz4 htl hz hL HK0 hk0 hw0
      · exact rm0_p l Z a0 hw ws p0 p1 p2 p3 p4 nz k cs fm h0 n0 Z0 O_0 S_cs hcs S_fm hfm hn (by omega) hz4 htl hz hL HK0 (Or.inl ⟨by omega, hw0⟩)
set_option maxRecDepth 65536 in
set_option maxHeartbeats 40000000 in
theorem comes_1 {Post : Tables → Env → Array Value → State → Outcome → State → Prop} (hpost : ∀ tb e args s v u, (limb_1_1.after args s (.returned v) u = true ∧ limb_1_2.after args s (.returned v) u = true ∧ True) → ReturnedEndW s (.returned v) u (Jvm.fieldLocs frame_1_writes args s ++ Jvm.arrayLocs frame_1_arrays args s ++ Jvm.staticLocs frame_1_statics s) 24 2176 → Post tb e args s (.returned v) u) :
    ArmFor flags0 classFile x code maxLocals ret World_1 tables_1 room_1 Calls_1 rest_1 Pre_1 Post := by
  intro l hfl _ _ p e ha hc hk s m args below hf hA hF happ hP
  obtain ⟨hcalls, hrest, hpre⟩ := hP
  obtain ⟨-, -, -, hnamed, -, -, -, hat⟩ := (Spec.applies_iff hf).mp happ
  obtain ⟨hg, hn⟩ := and_e (Cond.before_iff.mp (show (Jvm.Cond.and given_1 narrow_1).before args s = true from hpre))
  obtain ⟨gc, g0⟩ := and_e hg
  obtain ⟨ga0, g1⟩ := and_e g0
  obtain ⟨ga1, g2⟩ := and_e g1
  obtain ⟨ga2, g3⟩ := and_e g2
  obtain ⟨ga3, g4⟩ := and_e g3
  obtain ⟨w0, w1, w2, w3, w4, rfl⟩ : ∃ w0 w1 w2 w3 w4 : Value, args = #[w0, w1, w2, w3, w4] := by
    have hs : args.size = 5 := by simpa [Cond.value, given_1] using gc
    obtain ⟨L⟩ := args
    match L, hs with
    | [w0, w1, w2, w3, w4], _ => exact ⟨w0, w1, w2, w3, w4, rfl⟩
  have hw := fun d (hd : d ∈ tables_1) => atoms_spec (ws := Jvm.Cond.code x code maxLocals ret :: tables_1) hat d (List.mem_cons_of_mem _ hd)
  obtain ⟨i0, ei0⟩ := is_v ga0
  obtain rfl : w0 = (.int i0) := Option.some.inj ei0
  obtain ⟨i1, ei1⟩ := is_v ga1
  obtain rfl : w1 = (.int i1) := Option.some.inj ei1
  obtain ⟨i2, ei2⟩ := is_v ga2
  obtain rfl : w2 = (.int i2) := Option.some.inj ei2
  obtain ⟨i3, ei3⟩ := is_v ga3
  obtain rfl : w3 = (.int i3) := Option.some.inj ei3
  obtain ⟨i4, ei4⟩ := is_v g4
  obtain rfl : w4 = (.int i4) := Option.some.inj ei4
  obtain ⟨hsets, hown0⟩ := atoms_of _ (rest_1_c_eq ▸ (show rest_1_c.before _ s = true from hrest))
  obtain ⟨cs, ecs⟩ := is_v (Cond.before_iff.mp (hsets _ (List.mem_of_getElem? (i := 1) rfl)))
  have S_cs : Sta s s.heap "java/lang/String" "COMPACT_STRINGS" "Z" (.int cs) := Sta.start ecs (Or.inl (hsets _ (List.mem_of_getElem? (i := 0) rfl)))
  have hcs : ¬ (cs = (0 : Int32)) := by
    have q := not_v (Cond.before_iff.mp (hsets _ (List.mem_of_getElem? (i := 2) rfl)))
    intro z; subst z
    rw [eq_i ecs (Term.int_eval (0)) rfl] at q; cases q
  obtain ⟨fm, efm, hfm⟩ := Cond.isRef_spec (hsets _ (List.mem_of_getElem? (i := 8) rfl))
  have S_fm : Sta s s.heap "jdk/internal/util/Preconditions" "SIOOBE_FORMATTER" "Ljava/util/function/BiFunction;" fm := Sta.start efm (Or.inl (hsets _ (List.mem_of_getElem? (i := 7) rfl)))
  obtain ⟨n, o, h1, h2, h3, _, L, rfl, ⟨rfl, N⟩, -, hq⟩ := rm0 l s _ hw tables_1 i0 i1 i2 i3 i4 cs fm s.heap s.heap.size (Nat.le_refl _) (Old.start s) S_cs hcs S_fm hfm p e ha hc hk s m _ below hf ((Spec.applies_iff_loose hf).mp happ).1 ⟨rfl, State.Warmed39.refl s, rfl, CHv.start (own_EW hw) (show ∀ p ∈ own_EL, Jvm.Lit.constHeld s p.1 p.2 from hcalls.1) (hsets _ (List.mem_of_getElem? (i := 2) rfl)) (hw _ (List.mem_of_getElem? (i := 23) rfl)) (hw _ (List.mem_of_getElem? (i := 10) rfl))⟩ trivial
  refine ⟨n, _, h1, h2, h3, hpost _ _ _ _ _ _ ⟨Cond.after_iff.mpr rfl, Cond.after_iff.mpr (eq_i res_at (Term.int_eval (1)) rfl), trivial⟩ ⟨hq.1, hq.2.1, hq.2.2.1, (hq.2.2.2.sift fun y hy => Or.inr (N y hy)).mono (by decide) (by decide)⟩⟩
theorem main_1_1 : Claimed_1_1 := comes_1 fun _ _ _ _ _ _ h hF => ⟨h.1, hF⟩
theorem main_1_2 : Claimed_1_2 := comes_1 fun _ _ _ _ _ _ h hF => ⟨h.2.1, hF⟩
end Jvm.Pilot.@@N@@
namespace Jvm.Pilot.@@N@@
open Jvm Jvm.ClassFile Sem Op Lib Jvm.Free Jvm.Stand Jvm.Pilot.@@N@@.Jvm.D
/-! MADE BY PROGRAM (witnessworld.py) out of the Statement's table words and the real class files: 24 classes; the members and pool entries that the words name. The judged class is class 1, her method 4. -/
namespace start1
open Jvm.ClassFile
def u (s : String) : CpInfo := .utf8 (stringToUtf16 s)
/-- a pool by its gaps: so many unusable entries, then the entry; so many at the end -/
def gap : Nat → List CpInfo → List CpInfo
  | 0, r => r
  | n + 1, r => .unusable :: gap n r
def poolList (es : List (Nat × CpInfo)) (last : Nat) : List CpInfo := es.foldr (fun e r => gap e.1 (e.2 :: r)) (gap last [])
def pool (es : List (Nat × CpInfo)) (last : Nat) : Array CpInfo := ⟨poolList es last⟩
def fileOf (pool : Array CpInfo) (this : Nat) (attrs : Array Attribute := #[]) (ms : Array MethodInfo := #[]) (fl : Nat := 33) (sup : Nat := 0) (ifs : Array Nat := #[]) (fds : Array FieldInfo := #[]) : ClassFile where
  minorVersion := 0
  majorVersion := 65
  constantPool := pool
  accessFlags := fl
  thisClass := this
  superClass := sup
  interfaces := ifs
  fields := fds
  methods := ms
  attributes := attrs
def plain (name : String) (sup : Option ClassId) : Class where
  name := name
  kind := .ordinary
  loader := none
  accessFlags := 33
  super := sup
  interfaces := #[]
  cf := none
  fields := #[]
  methods := #[]
  instanceTypes := #[]
  staticTypes := #[]
  resolved := #[]
  callSites := []
  init := .initialized
  statics := none
  mirror := none

def pool0 : Array CpInfo := pool [(5, u "<init>"), (0, u "()V"), (1, .class_ 10), (1, u "java/lang/Object")] 113

def k0c0 : Code := { maxStack := 0, maxLocals := 1, code := object_method_1_code, exceptionTable := #[], attributes := #[] }
def k0m0 : Method := { name := "<init>", desc := "()V", sig := { parameters := [], returnType := none }, accessFlags := 1, code := some k0c0 }
/-- java/lang/Object -/
def k0 : Class := { plain "java/lang/Object" none with
  accessFlags := 33
  interfaces := #[]
  cf := some (fileOf pool0 8 #[] #[{ accessFlags := 1, nameIndex := 5, descriptorIndex := 6, attributes := #[] }] 33 0 #[] #[])
  fields := #[]
  methods := #[k0m0]
  instanceTypes := #[]
  staticTypes := #[]
  resolved := Array.replicate 124 none
  statics := none }

def pool1 : Array CpInfo := pool [(2, .class_ 4), (1, u "java/lang/Object"), (0, u "<init>"), (0, u "()V"), (0, .class_ 8), (0, u "java/lang/String"), (0, .methodref 7 10), (0, .nameAndType 5 11), (0, u "([C)V"), (0, .integer 2147483647), (0, .methodref 14 15), (0, .class_ 16), (0, .nameAndType 17 18), (0, u "com/example/commitwright/commitwright/http/HeadTrimSpacePinLaw"), (0, u "ch"), (0, u "(I)C"), (0, .methodref 14 20), (0, .nameAndType 21 22), (0, u "make"), (0, u "(ICCCC)Ljava/lang/String;"), (0, .methodref 24 25), (0, .class_ 26), (0, .nameAndType 27 28), (0, u "com/example/commitwright/commitwright/http/Head"), (0, u "trimSpace"), (0, u "(Ljava/lang/String;)Ljava/lang/String;"), (0, .methodref 14 30), (0, .nameAndType 31 32), (0, u "sp"), (0, u "(C)Z"), (0, .methodref 34 35), (0, .class_ 36), (0, .nameAndType 37 38), (0, u "java/lang/Math"), (0, u "max"), (0, u "(II)I"), (0, .methodref 7 40), (0, .nameAndType 41 42), (0, u "length"), (0, u "()I"), (0, .methodref 7 44), (0, .nameAndType 45 18), (0, u "charAt"), (3, u "law"), (0, u "(IIIII)Z")] 4

def k1m0 : Method := { name := "<init>", desc := "()V", sig := { parameters := [], returnType := none }, accessFlags := 1, code := none }
def k1c1 : Code := { maxStack := 2, maxLocals := 2, code := method_2_code, exceptionTable := #[], attributes := #[] }
def k1m1 : Method := { name := "ch", desc := "(I)C", sig := { parameters := [.int], returnType := some .char }, accessFlags := 10, code := some k1c1 }
def k1c2 : Code := { maxStack := 2, maxLocals := 1, code := method_3_code, exceptionTable := #[], attributes := #[] }
def k1m2 : Method := { name := "sp", desc := "(C)Z", sig := { parameters := [.char], returnType := some .boolean }, accessFlags := 10, code := some k1c2 }
def k1c3 : Code := { maxStack := 6, maxLocals := 5, code := method_4_code, exceptionTable := #[], attributes := #[] }
def k1m3 : Method := { name := "make", desc := "(ICCCC)Ljava/lang/String;", sig := { parameters := [.int, .char, .char, .char, .char], returnType := some (.object "java/lang/String") }, accessFlags := 10, code := some k1c3 }
def k1c4 : Code := { maxStack := 5, maxLocals := 16, code := code, exceptionTable := #[], attributes := #[] }
def k1m4 : Method := { name := "law", desc := "(IIIII)Z", sig := { parameters := [.int, .int, .int, .int, .int], returnType := some .boolean }, accessFlags := 9, code := some k1c4 }
/-- com/example/commitwright/commitwright/http/HeadTrimSpacePinLaw -/
def k1 : Class := { plain "com/example/commitwright/commitwright/http/HeadTrimSpacePinLaw" (some 0) with
  accessFlags := 49
  interfaces := #[]
  cf := some (fileOf pool1 14 #[] #[{ accessFlags := 1, nameIndex := 5, descriptorIndex := 6, attributes := #[] }, { accessFlags := 10, nameIndex := 17, descriptorIndex := 18, attributes := #[] }, { accessFlags := 10, nameIndex := 31, descriptorIndex := 32, attributes := #[] }, { accessFlags := 10, nameIndex := 21, descriptorIndex := 22, attributes := #[] }, { accessFlags := 9, nameIndex := 49, descriptorIndex := 50, attributes := #[] }] 49 2 #[] #[])
  fields := #[]
  methods := #[k1m0, k1m1, k1m2, k1m3, k1m4]
  instanceTypes := #[]
  staticTypes := #[]
  resolved := Array.replicate 55 none
  statics := none }

def pool2 : Array CpInfo := pool [(1, .class_ 2), (0, u "java/io/Serializable"), (0, .class_ 4), (0, u "java/lang/Object")] 2

/-- java/io/Serializable -/
def k2 : Class := { plain "java/io/Serializable" (some 0) with
  accessFlags := 1537
  interfaces := #[]
  cf := some (fileOf pool2 1 #[] #[] 1537 3 #[] #[])
  fields := #[]
  methods := #[]
  instanceTypes := #[]
  staticTypes := #[]
  resolved := Array.replicate 7 none
  statics := none }

def pool3 : Array CpInfo := pool [(1, .class_ 2), (0, u "java/lang/Comparable"), (0, .class_ 4), (0, u "java/lang/Object")] 7

/-- java/lang/Comparable -/
def k3 : Class := { plain "java/lang/Comparable" (some 0) with
  accessFlags := 1537
  interfaces := #[]
  cf := some (fileOf pool3 1 #[] #[] 1537 3 #[] #[])
  fields := #[]
  methods := #[]
  instanceTypes := #[]
  staticTypes := #[]
  resolved := Array.replicate 12 none
  statics := none }

def pool4 : Array CpInfo := pool [(2, .class_ 4), (1, u "java/lang/CharSequence"), (42, .class_ 48), (0, u "java/lang/CharSequence$1CodePointIterator"), (10, .class_ 60), (0, u "java/lang/CharSequence$1CharIterator"), (5, .class_ 67), (0, u "java/lang/Object")] 63

/-- java/lang/CharSequence -/
def k4 : Class := { plain "java/lang/CharSequence" (some 0) with
  accessFlags := 1537
  interfaces := #[]
  cf := some (fileOf pool4 2 #[.nestMembers #[47, 59]] #[] 1537 66 #[] #[])
  fields := #[]
  methods := #[]
  instanceTypes := #[]
  staticTypes := #[]
  resolved := Array.replicate 131 none
  statics := none }

def pool5 : Array CpInfo := pool [(1, .class_ 2), (0, u "java/lang/constant/Constable"), (0, .class_ 4), (0, u "java/lang/Object")] 6

/-- java/lang/constant/Constable -/
def k5 : Class := { plain "java/lang/constant/Constable" (some 0) with
  accessFlags := 1537
  interfaces := #[]
  cf := some (fileOf pool5 1 #[] #[] 1537 3 #[] #[])
  fields := #[]
  methods := #[]
  instanceTypes := #[]
  staticTypes := #[]
  resolved := Array.replicate 11 none
  statics := none }

def pool6 : Array CpInfo := pool [(1, .class_ 2), (0, u "java/lang/constant/ConstantDesc"), (0, .class_ 4), (0, u "java/lang/Object")] 32

/-- java/lang/constant/ConstantDesc -/
def k6 : Class := { plain "java/lang/constant/ConstantDesc" (some 0) with
  accessFlags := 1537
  interfaces := #[]
  cf := some (fileOf pool6 1 #[] #[] 1537 3 #[] #[])
  fields := #[]
  methods := #[]
  instanceTypes := #[]
  staticTypes := #[]
  resolved := Array.replicate 37 none
  statics := none }

def pool7 : Array CpInfo := pool [(1, .methodref 2 3), (0, .class_ 4), (0, .nameAndType 5 6), (0, u "java/lang/Object"), (0, u "<init>"), (0, u "()V"), (0, .string 8), (0, u ""), (0, .fieldref 10 11), (0, .class_ 12), (0, .nameAndType 13 14), (0, u "java/lang/String"), (0, u "value"), (0, u "[B"), (0, .fieldref 10 16), (0, .nameAndType 17 18), (0, u "coder"), (0, u "B"), (2, u "hash"), (0, u "I"), (2, u "hashIsZero"), (0, u "Z"), (0, .methodref 10 28), (0, .nameAndType 5 29), (0, u "([CIILjava/lang/Void;)V"), (8, .fieldref 10 39), (0, .nameAndType 40 26), (0, u "COMPACT_STRINGS"), (1, .class_ 44), (1, u "java/lang/StringUTF16"), (0, u "compress"), (1, .methodref 42 48), (0, .nameAndType 49 50), (0, u "coderFromArrayLen"), (0, u "([BI)B"), (56, .class_ 109), (1, u "java/lang/StringLatin1"), (32, u "()Z"), (34, .methodref 42 178), (0, .nameAndType 45 179), (0, u "([CII)[B"), (31, u "([BB)V"), (122, u "()I"), (0, .methodref 10 336), (0, .nameAndType 17 337), (0, u "()B"), (25, u "([BI)C"), (27, u "(II)V"), (35, u "(I)C"), (64, .methodref 10 493), (0, .nameAndType 494 142), (0, u "isLatin1"), (0, .methodref 107 496), (0, .nameAndType 497 363), (0, u "charAt"), (3, u "checkIndex"), (3, .methodref 10 506), (0, .nameAndType 507 334), (0, u "length"), (5, u "checkFromToIndex"), (7, .methodref 10 522), (0, .nameAndType 523 524), (0, u "checkBoundsBeginEnd"), (0, u "(III)V"), (50, .class_ 576), (0, u "java/lang/CharSequence"), (22, u "CASE_INSENSITIVE_ORDER"), (0, u "Ljava/util/Comparator;"), (82, u "substring"), (0, u "(II)Ljava/lang/String;"), (0, .methodref 107 686), (0, .nameAndType 687 688), (0, u "newString"), (0, u "([BII)Ljava/lang/String;"), (321, u "([C)V"), (42, .fieldref 1054 1055), (0, .class_ 1056), (0, .nameAndType 1057 1058), (0, u "jdk/internal/util/Preconditions"), (0, u "SIOOBE_FORMATTER"), (0, u "Ljava/util/function/BiFunction;"), (0, .methodref 1054 1060), (0, .nameAndType 501 1061), (0, u "(IILjava/util/function/BiFunction;)I"), (0, .methodref 1054 1063), (0, .nameAndType 513 1064), (0, u "(IIILjava/util/function/BiFunction;)I"), (36, u "serialPersistentFields"), (0, u "[Ljava/io/ObjectStreamField;"), (0, .class_ 1104), (0, u "java/lang/String$CaseInsensitiveComparator"), (1, .class_ 1107), (0, u "java/io/Serializable"), (0, .class_ 1109), (0, u "java/lang/Comparable"), (0, .class_ 1111), (0, u "java/lang/constant/Constable"), (0, .class_ 1113), (0, u "java/lang/constant/ConstantDesc"), (2, u "serialVersionUID"), (0, u "J"), (3, u "REPL"), (0, u "C"), (2, u "LATIN1"), (1, u "UTF16")] 323

def k7m0 : Method := { name := "<init>", desc := "()V", sig := { parameters := [], returnType := none }, accessFlags := 1, code := none }
def k7c1 : Code := { maxStack := 5, maxLocals := 2, code := jdk_42_method_3_code, exceptionTable := #[], attributes := #[] }
def k7m1 : Method := { name := "<init>", desc := "([C)V", sig := { parameters := [(.array .char)], returnType := none }, accessFlags := 1, code := some k7c1 }
def k7c2 : Code := { maxStack := 2, maxLocals := 1, code := jdk_42_method_54_code, exceptionTable := #[], attributes := #[] }
def k7m2 : Method := { name := "length", desc := "()I", sig := { parameters := [], returnType := some .int }, accessFlags := 1, code := some k7c2 }
def k7c3 : Code := { maxStack := 2, maxLocals := 2, code := jdk_42_method_56_code, exceptionTable := #[], attributes := #[] }
def k7m3 : Method := { name := "charAt", desc := "(I)C", sig := { parameters := [.int], returnType := some .char }, accessFlags := 1, code := some k7c3 }
def k7c4 : Code := { maxStack := 3, maxLocals := 5, code := jdk_42_method_92_code, exceptionTable := #[], attributes := #[] }
def k7m4 : Method := { name := "substring", desc := "(II)Ljava/lang/String;", sig := { parameters := [.int, .int], returnType := some (.object "java/lang/String") }, accessFlags := 1, code := some k7c4 }
def k7c5 : Code := { maxStack := 4, maxLocals := 6, code := jdk_42_method_149_code, exceptionTable := #[], attributes := #[] }
def k7m5 : Method := { name := "<init>", desc := "([CIILjava/lang/Void;)V", sig := { parameters := [(.array .char), .int, .int, (.object "java/lang/Void")], returnType := none }, accessFlags := 2, code := some k7c5 }
def k7c6 : Code := { maxStack := 2, maxLocals := 3, code := jdk_42_method_151_code, exceptionTable := #[], attributes := #[] }
def k7m6 : Method := { name := "<init>", desc := "([BB)V", sig := { parameters := [(.array .byte), .byte], returnType := none }, accessFlags := 0, code := some k7c6 }
def k7c7 : Code := { maxStack := 1, maxLocals := 1, code := jdk_42_method_152_code, exceptionTable := #[], attributes := #[] }
def k7m7 : Method := { name := "coder", desc := "()B", sig := { parameters := [], returnType := some .byte }, accessFlags := 0, code := some k7c7 }
def k7c8 : Code := { maxStack := 1, maxLocals := 1, code := jdk_42_method_154_code, exceptionTable := #[], attributes := #[] }
def k7m8 : Method := { name := "isLatin1", desc := "()Z", sig := { parameters := [], returnType := some .boolean }, accessFlags := 0, code := some k7c8 }
def k7c9 : Code := { maxStack := 3, maxLocals := 2, code := jdk_42_method_155_code, exceptionTable := #[], attributes := #[] }
def k7m9 : Method := { name := "checkIndex", desc := "(II)V", sig := { parameters := [.int, .int], returnType := none }, accessFlags := 8, code := some k7c9 }
def k7c10 : Code := { maxStack := 4, maxLocals := 3, code := jdk_42_method_158_code, exceptionTable := #[], attributes := #[] }
def k7m10 : Method := { name := "checkBoundsBeginEnd", desc := "(III)V", sig := { parameters := [.int, .int, .int], returnType := none }, accessFlags := 8, code := some k7c10 }
/-- java/lang/String -/
def k7 : Class := { plain "java/lang/String" (some 0) with
  accessFlags := 49
  interfaces := #[2, 3, 4, 5, 6]
  cf := some (fileOf pool7 10 #[.nestMembers #[1103]] #[{ accessFlags := 1, nameIndex := 5, descriptorIndex := 6, attributes := #[] }, { accessFlags := 1, nameIndex := 5, descriptorIndex := 1010, attributes := #[] }, { accessFlags := 1, nameIndex := 507, descriptorIndex := 334, attributes := #[] }, { accessFlags := 1, nameIndex := 497, descriptorIndex := 427, attributes := #[] }, { accessFlags := 1, nameIndex := 683, descriptorIndex := 684, attributes := #[] }, { accessFlags := 2, nameIndex := 5, descriptorIndex := 29, attributes := #[] }, { accessFlags := 0, nameIndex := 5, descriptorIndex := 211, attributes := #[] }, { accessFlags := 0, nameIndex := 17, descriptorIndex := 337, attributes := #[] }, { accessFlags := 0, nameIndex := 494, descriptorIndex := 142, attributes := #[] }, { accessFlags := 8, nameIndex := 501, descriptorIndex := 391, attributes := #[] }, { accessFlags := 8, nameIndex := 523, descriptorIndex := 524, attributes := #[] }] 49 2 #[1106, 1108, 575, 1110, 1112] #[{ accessFlags := 18, nameIndex := 13, descriptorIndex := 14, attributes := #[] }, { accessFlags := 18, nameIndex := 17, descriptorIndex := 18, attributes := #[] }, { accessFlags := 2, nameIndex := 21, descriptorIndex := 22, attributes := #[] }, { accessFlags := 2, nameIndex := 25, descriptorIndex := 26, attributes := #[] }, { accessFlags := 26, nameIndex := 1116, descriptorIndex := 1117, attributes := #[] }, { accessFlags := 24, nameIndex := 40, descriptorIndex := 26, attributes := #[] }, { accessFlags := 26, nameIndex := 1101, descriptorIndex := 1102, attributes := #[] }, { accessFlags := 26, nameIndex := 1121, descriptorIndex := 1122, attributes := #[] }, { accessFlags := 25, nameIndex := 599, descriptorIndex := 600, attributes := #[] }, { accessFlags := 24, nameIndex := 1125, descriptorIndex := 18, attributes := #[] }, { accessFlags := 24, nameIndex := 1127, descriptorIndex := 18, attributes := #[] }])
  fields := #[{ name := "value", type := (.array .byte), accessFlags := 18, slot := 0, constantValue := 0 }, { name := "coder", type := .byte, accessFlags := 18, slot := 1, constantValue := 0 }, { name := "hash", type := .int, accessFlags := 2, slot := 2, constantValue := 0 }, { name := "hashIsZero", type := .boolean, accessFlags := 2, slot := 3, constantValue := 0 }, { name := "serialVersionUID", type := .long, accessFlags := 26, slot := 0, constantValue := 0 }, { name := "COMPACT_STRINGS", type := .boolean, accessFlags := 24, slot := 1, constantValue := 0 }, { name := "serialPersistentFields", type := (.array (.object "java/io/ObjectStreamField")), accessFlags := 26, slot := 2, constantValue := 0 }, { name := "REPL", type := .char, accessFlags := 26, slot := 3, constantValue := 0 }, { name := "CASE_INSENSITIVE_ORDER", type := (.object "java/util/Comparator"), accessFlags := 25, slot := 4, constantValue := 0 }, { name := "LATIN1", type := .byte, accessFlags := 24, slot := 5, constantValue := 0 }, { name := "UTF16", type := .byte, accessFlags := 24, slot := 6, constantValue := 0 }]
  methods := #[k7m0, k7m1, k7m2, k7m3, k7m4, k7m5, k7m6, k7m7, k7m8, k7m9, k7m10]
  instanceTypes := #[(.array .byte), .byte, .int, .boolean]
  staticTypes := #[.long, .boolean, (.array (.object "java/io/ObjectStreamField")), .char, (.object "java/util/Comparator"), .byte, .byte]
  resolved := Array.replicate 1451 none
  statics := some 0 }

def pool8 : Array CpInfo := pool [(2, .class_ 4), (1, u "java/lang/Object"), (0, u "<init>"), (0, u "()V"), (0, .class_ 8), (0, u "java/lang/Record")] 13

def k8m0 : Method := { name := "<init>", desc := "()V", sig := { parameters := [], returnType := none }, accessFlags := 4, code := none }
/-- java/lang/Record -/
def k8 : Class := { plain "java/lang/Record" (some 0) with
  accessFlags := 1057
  interfaces := #[]
  cf := some (fileOf pool8 7 #[] #[{ accessFlags := 4, nameIndex := 5, descriptorIndex := 6, attributes := #[] }] 1057 2 #[] #[])
  fields := #[]
  methods := #[k8m0]
  instanceTypes := #[]
  staticTypes := #[]
  resolved := Array.replicate 22 none
  statics := none }

def pool9 : Array CpInfo := pool [(2, .class_ 4), (1, u "java/lang/Record"), (3, .class_ 10), (1, u "com/example/commitwright/commitwright/http/Head"), (0, u "method"), (0, u "Ljava/lang/String;"), (2, u "target"), (2, u "path"), (2, u "bodyLength"), (0, u "J"), (2, u "expectsContinue"), (0, u "Z"), (2, u "close"), (0, .class_ 31), (0, u "com/example/commitwright/commitwright/http/Head$Lines"), (8, .class_ 42), (1, u "java/lang/String"), (35, u "(Ljava/lang/String;)Ljava/lang/String;"), (4, .class_ 85), (1, u "com/example/commitwright/commitwright/http/Head$Field"), (8, u "()I"), (38, .methodref 40 134), (0, .nameAndType 135 94), (0, u "length"), (0, .methodref 40 137), (0, .nameAndType 138 139), (0, u "charAt"), (0, u "(I)C"), (6, u "ABSOLUTE"), (0, u "Ljava/util/regex/Pattern;"), (16, u "substring"), (11, .methodref 40 177), (0, .nameAndType 164 178), (0, u "(II)Ljava/lang/String;"), (34, u "trimSpace"), (27, .methodref 8 242), (0, .nameAndType 243 244), (0, u "isSpace"), (0, u "(C)Z"), (23, u "CHUNKED"), (1, u "TOKEN_SYMBOLS")] 66

def k9c0 : Code := { maxStack := 3, maxLocals := 3, code := prog_15_method_7_code, exceptionTable := #[], attributes := #[] }
def k9m0 : Method := { name := "trimSpace", desc := "(Ljava/lang/String;)Ljava/lang/String;", sig := { parameters := [(.object "java/lang/String")], returnType := some (.object "java/lang/String") }, accessFlags := 8, code := some k9c0 }
def k9c1 : Code := { maxStack := 2, maxLocals := 1, code := prog_15_method_8_code, exceptionTable := #[], attributes := #[] }
def k9m1 : Method := { name := "isSpace", desc := "(C)Z", sig := { parameters := [.char], returnType := some .boolean }, accessFlags := 10, code := some k9c1 }
/-- com/example/commitwright/commitwright/http/Head -/
def k9 : Class := { plain "com/example/commitwright/commitwright/http/Head" (some 8) with
  accessFlags := 48
  interfaces := #[]
  cf := some (fileOf pool9 8 #[.nestMembers #[83, 30]] #[{ accessFlags := 8, nameIndex := 213, descriptorIndex := 78, attributes := #[] }, { accessFlags := 10, nameIndex := 243, descriptorIndex := 244, attributes := #[] }] 48 2 #[] #[{ accessFlags := 18, nameIndex := 11, descriptorIndex := 12, attributes := #[] }, { accessFlags := 18, nameIndex := 15, descriptorIndex := 12, attributes := #[] }, { accessFlags := 18, nameIndex := 18, descriptorIndex := 12, attributes := #[] }, { accessFlags := 18, nameIndex := 21, descriptorIndex := 22, attributes := #[] }, { accessFlags := 18, nameIndex := 25, descriptorIndex := 26, attributes := #[] }, { accessFlags := 18, nameIndex := 29, descriptorIndex := 26, attributes := #[] }, { accessFlags := 24, nameIndex := 268, descriptorIndex := 22, attributes := #[] }, { accessFlags := 26, nameIndex := 146, descriptorIndex := 147, attributes := #[] }, { accessFlags := 26, nameIndex := 270, descriptorIndex := 12, attributes := #[] }])
  fields := #[{ name := "method", type := (.object "java/lang/String"), accessFlags := 18, slot := 0, constantValue := 0 }, { name := "target", type := (.object "java/lang/String"), accessFlags := 18, slot := 1, constantValue := 0 }, { name := "path", type := (.object "java/lang/String"), accessFlags := 18, slot := 2, constantValue := 0 }, { name := "bodyLength", type := .long, accessFlags := 18, slot := 3, constantValue := 0 }, { name := "expectsContinue", type := .boolean, accessFlags := 18, slot := 4, constantValue := 0 }, { name := "close", type := .boolean, accessFlags := 18, slot := 5, constantValue := 0 }, { name := "CHUNKED", type := .long, accessFlags := 24, slot := 0, constantValue := 0 }, { name := "ABSOLUTE", type := (.object "java/util/regex/Pattern"), accessFlags := 26, slot := 1, constantValue := 0 }, { name := "TOKEN_SYMBOLS", type := (.object "java/lang/String"), accessFlags := 26, slot := 2, constantValue := 0 }]
  methods := #[k9m0, k9m1]
  instanceTypes := #[(.object "java/lang/String"), (.object "java/lang/String"), (.object "java/lang/String"), .long, .boolean, .boolean]
  staticTypes := #[.long, (.object "java/util/regex/Pattern"), (.object "java/lang/String")]
  resolved := Array.replicate 337 none
  statics := none }

def pool10 : Array CpInfo := pool [(2, .class_ 4), (1, u "java/lang/Object"), (0, u "<init>"), (0, u "()V"), (17, .class_ 26), (1, u "jdk/internal/util/Preconditions"), (6, u "checkIndex"), (13, u "checkFromToIndex"), (7, .class_ 56), (0, u "jdk/internal/util/Preconditions$4"), (57, .class_ 115), (0, u "jdk/internal/util/Preconditions$1"), (7, u "SIOOBE_FORMATTER"), (0, u "Ljava/util/function/BiFunction;"), (0, .class_ 126), (0, u "jdk/internal/util/Preconditions$2"), (3, u "AIOOBE_FORMATTER"), (0, .class_ 132), (0, u "jdk/internal/util/Preconditions$3"), (3, u "IOOBE_FORMATTER"), (41, u "(IILjava/util/function/BiFunction;)I"), (4, u "(IIILjava/util/function/BiFunction;)I")] 10

def k10m0 : Method := { name := "<init>", desc := "()V", sig := { parameters := [], returnType := none }, accessFlags := 1, code := none }
def k10c1 : Code := { maxStack := 3, maxLocals := 3, code := jdk_41_method_11_code, exceptionTable := #[], attributes := #[] }
def k10m1 : Method := { name := "checkIndex", desc := "(IILjava/util/function/BiFunction;)I", sig := { parameters := [.int, .int, (.object "java/util/function/BiFunction")], returnType := some .int }, accessFlags := 9, code := some k10c1 }
def k10c2 : Code := { maxStack := 4, maxLocals := 4, code := jdk_41_method_12_code, exceptionTable := #[], attributes := #[] }
def k10m2 : Method := { name := "checkFromToIndex", desc := "(IIILjava/util/function/BiFunction;)I", sig := { parameters := [.int, .int, .int, (.object "java/util/function/BiFunction")], returnType := some .int }, accessFlags := 9, code := some k10c2 }
/-- jdk/internal/util/Preconditions -/
def k10 : Class := { plain "jdk/internal/util/Preconditions" (some 0) with
  accessFlags := 33
  interfaces := #[]
  cf := some (fileOf pool10 24 #[.nestMembers #[55, 131, 125, 114]] #[{ accessFlags := 1, nameIndex := 5, descriptorIndex := 6, attributes := #[] }, { accessFlags := 9, nameIndex := 33, descriptorIndex := 178, attributes := #[] }, { accessFlags := 9, nameIndex := 47, descriptorIndex := 183, attributes := #[] }] 33 2 #[] #[{ accessFlags := 25, nameIndex := 123, descriptorIndex := 124, attributes := #[] }, { accessFlags := 25, nameIndex := 130, descriptorIndex := 124, attributes := #[] }, { accessFlags := 25, nameIndex := 136, descriptorIndex := 124, attributes := #[] }])
  fields := #[{ name := "SIOOBE_FORMATTER", type := (.object "java/util/function/BiFunction"), accessFlags := 25, slot := 0, constantValue := 0 }, { name := "AIOOBE_FORMATTER", type := (.object "java/util/function/BiFunction"), accessFlags := 25, slot := 1, constantValue := 0 }, { name := "IOOBE_FORMATTER", type := (.object "java/util/function/BiFunction"), accessFlags := 25, slot := 2, constantValue := 0 }]
  methods := #[k10m0, k10m1, k10m2]
  instanceTypes := #[]
  staticTypes := #[(.object "java/util/function/BiFunction"), (.object "java/util/function/BiFunction"), (.object "java/util/function/BiFunction")]
  resolved := Array.replicate 194 none
  statics := some 1 }

def pool11 : Array CpInfo := pool [(1, .class_ 2), (0, u "java/lang/Math"), (1, .class_ 6), (1, u "java/lang/Object"), (0, u "<init>"), (0, u "()V"), (89, .class_ 100), (1, u "java/lang/Math$RandomNumberGeneratorHolder"), (71, u "negativeZeroFloatBits"), (0, u "J"), (2, u "negativeZeroDoubleBits"), (21, u "max"), (2, u "min"), (43, u "$assertionsDisabled"), (0, u "Z"), (88, u "(II)I"), (2, u "twoToTheDoubleScaleDown"), (0, u "D"), (4, u "twoToTheDoubleScaleUp"), (9, u "E"), (3, u "PI"), (2, u "TAU"), (2, u "DEGREES_TO_RADIANS"), (0, u "RADIANS_TO_DEGREES")] 94

def k11m0 : Method := { name := "<init>", desc := "()V", sig := { parameters := [], returnType := none }, accessFlags := 2, code := none }
def k11c1 : Code := { maxStack := 2, maxLocals := 2, code := jdk_29_method_65_code, exceptionTable := #[], attributes := #[] }
def k11m1 : Method := { name := "max", desc := "(II)I", sig := { parameters := [.int, .int], returnType := some .int }, accessFlags := 9, code := some k11c1 }
def k11c2 : Code := { maxStack := 2, maxLocals := 2, code := jdk_29_method_69_code, exceptionTable := #[], attributes := #[] }
def k11m2 : Method := { name := "min", desc := "(II)I", sig := { parameters := [.int, .int], returnType := some .int }, accessFlags := 9, code := some k11c2 }
/-- java/lang/Math -/
def k11 : Class := { plain "java/lang/Math" (some 0) with
  accessFlags := 49
  interfaces := #[]
  cf := some (fileOf pool11 1 #[.nestMembers #[98]] #[{ accessFlags := 2, nameIndex := 7, descriptorIndex := 8, attributes := #[] }, { accessFlags := 9, nameIndex := 198, descriptorIndex := 335, attributes := #[] }, { accessFlags := 9, nameIndex := 201, descriptorIndex := 335, attributes := #[] }] 49 4 #[] #[{ accessFlags := 25, nameIndex := 354, descriptorIndex := 339, attributes := #[] }, { accessFlags := 25, nameIndex := 358, descriptorIndex := 339, attributes := #[] }, { accessFlags := 25, nameIndex := 361, descriptorIndex := 339, attributes := #[] }, { accessFlags := 26, nameIndex := 364, descriptorIndex := 339, attributes := #[] }, { accessFlags := 26, nameIndex := 365, descriptorIndex := 339, attributes := #[] }, { accessFlags := 26, nameIndex := 172, descriptorIndex := 173, attributes := #[] }, { accessFlags := 26, nameIndex := 176, descriptorIndex := 173, attributes := #[] }, { accessFlags := 8, nameIndex := 344, descriptorIndex := 339, attributes := #[] }, { accessFlags := 8, nameIndex := 338, descriptorIndex := 339, attributes := #[] }, { accessFlags := 4120, nameIndex := 245, descriptorIndex := 246, attributes := #[] }])
  fields := #[{ name := "E", type := .double, accessFlags := 25, slot := 0, constantValue := 0 }, { name := "PI", type := .double, accessFlags := 25, slot := 1, constantValue := 0 }, { name := "TAU", type := .double, accessFlags := 25, slot := 2, constantValue := 0 }, { name := "DEGREES_TO_RADIANS", type := .double, accessFlags := 26, slot := 3, constantValue := 0 }, { name := "RADIANS_TO_DEGREES", type := .double, accessFlags := 26, slot := 4, constantValue := 0 }, { name := "negativeZeroFloatBits", type := .long, accessFlags := 26, slot := 5, constantValue := 0 }, { name := "negativeZeroDoubleBits", type := .long, accessFlags := 26, slot := 6, constantValue := 0 }, { name := "twoToTheDoubleScaleUp", type := .double, accessFlags := 8, slot := 7, constantValue := 0 }, { name := "twoToTheDoubleScaleDown", type := .double, accessFlags := 8, slot := 8, constantValue := 0 }, { name := "$assertionsDisabled", type := .boolean, accessFlags := 4120, slot := 9, constantValue := 0 }]
  methods := #[k11m0, k11m1, k11m2]
  instanceTypes := #[]
  staticTypes := #[.double, .double, .double, .double, .double, .long, .long, .double, .double, .boolean]
  resolved := Array.replicate 460 none
  statics := none }

def pool12 : Array CpInfo := pool [(6, .class_ 8), (1, u "java/lang/Object"), (0, u "<init>"), (0, u "()V"), (1, .class_ 14), (1, u "java/lang/StringUTF16"), (31, u "$assertionsDisabled"), (0, u "Z"), (13, u "HI_BYTE_SHIFT"), (0, u "I"), (2, u "LO_BYTE_SHIFT"), (49, .methodref 12 116), (0, .nameAndType 117 118), (0, u "compress"), (0, u "([CI[BII)I"), (3, u "([CII)[B"), (138, u "coderFromArrayLen"), (0, u "([BI)B"), (106, .class_ 371), (1, u "java/lang/StringUTF16$LinesSpliterator"), (58, u "MAX_LENGTH"), (196, .class_ 628), (0, u "java/lang/StringUTF16$CodePointsSpliterator"), (0, .class_ 630), (0, u "java/lang/StringUTF16$CharsSpliterator")] 4

def k12m0 : Method := { name := "<init>", desc := "()V", sig := { parameters := [], returnType := none }, accessFlags := 0, code := none }
def k12c1 : Code := { maxStack := 2, maxLocals := 2, code := jdk_52_method_15_code, exceptionTable := #[], attributes := #[] }
def k12m1 : Method := { name := "coderFromArrayLen", desc := "([BI)B", sig := { parameters := [(.array .byte), .int], returnType := some .byte }, accessFlags := 8, code := some k12c1 }
def k12c2 : Code := { maxStack := 5, maxLocals := 6, code := jdk_52_method_16_code, exceptionTable := #[], attributes := #[] }
def k12m2 : Method := { name := "compress", desc := "([CII)[B", sig := { parameters := [(.array .char), .int, .int], returnType := some (.array .byte) }, accessFlags := 9, code := some k12c2 }
def k12c3 : Code := { maxStack := 3, maxLocals := 7, code := jdk_52_method_21_code, exceptionTable := #[], attributes := #[] }
def k12m3 : Method := { name := "compress", desc := "([CI[BII)I", sig := { parameters := [(.array .char), .int, (.array .byte), .int, .int], returnType := some .int }, accessFlags := 9, code := some k12c3 }
/-- java/lang/StringUTF16 -/
def k12 : Class := { plain "java/lang/StringUTF16" (some 0) with
  accessFlags := 48
  interfaces := #[]
  cf := some (fileOf pool12 12 #[.nestMembers #[627, 629, 369]] #[{ accessFlags := 0, nameIndex := 9, descriptorIndex := 10, attributes := #[] }, { accessFlags := 8, nameIndex := 261, descriptorIndex := 262, attributes := #[] }, { accessFlags := 9, nameIndex := 117, descriptorIndex := 122, attributes := #[] }, { accessFlags := 9, nameIndex := 117, descriptorIndex := 118, attributes := #[] }] 48 6 #[] #[{ accessFlags := 26, nameIndex := 61, descriptorIndex := 62, attributes := #[] }, { accessFlags := 26, nameIndex := 65, descriptorIndex := 62, attributes := #[] }, { accessFlags := 24, nameIndex := 430, descriptorIndex := 62, attributes := #[] }, { accessFlags := 4120, nameIndex := 46, descriptorIndex := 47, attributes := #[] }])
  fields := #[{ name := "HI_BYTE_SHIFT", type := .int, accessFlags := 26, slot := 0, constantValue := 0 }, { name := "LO_BYTE_SHIFT", type := .int, accessFlags := 26, slot := 1, constantValue := 0 }, { name := "MAX_LENGTH", type := .int, accessFlags := 24, slot := 2, constantValue := 0 }, { name := "$assertionsDisabled", type := .boolean, accessFlags := 4120, slot := 3, constantValue := 0 }]
  methods := #[k12m0, k12m1, k12m2, k12m3]
  instanceTypes := #[]
  staticTypes := #[.int, .int, .int, .boolean]
  resolved := Array.replicate 635 none
  statics := none }

def pool13 : Array CpInfo := pool [(1, .class_ 2), (0, u "java/lang/String"), (1, .class_ 6), (1, u "java/lang/Object"), (0, u "<init>"), (0, u "()V"), (0, .methodref 1 10), (0, .nameAndType 11 12), (0, u "checkIndex"), (0, u "(II)V"), (1, .class_ 16), (1, u "java/lang/StringLatin1"), (36, u "([BI)C"), (58, .methodref 1 113), (0, .nameAndType 7 114), (0, u "([BB)V"), (6, u "$assertionsDisabled"), (0, u "Z"), (8, .class_ 133), (1, u "java/util/Arrays"), (17, .string 152), (0, u ""), (43, u "newString"), (0, u "([BII)Ljava/lang/String;"), (23, .class_ 223), (1, u "java/lang/StringLatin1$LinesSpliterator"), (8, .methodref 131 233), (0, .nameAndType 234 235), (0, u "copyOfRange"), (0, u "([BII)[B"), (16, u "charAt"), (137, .class_ 391), (0, u "java/lang/StringLatin1$CharsSpliterator")] 3

def k13m0 : Method := { name := "<init>", desc := "()V", sig := { parameters := [], returnType := none }, accessFlags := 0, code := none }
def k13c1 : Code := { maxStack := 2, maxLocals := 2, code := jdk_43_method_2_code, exceptionTable := #[], attributes := #[] }
def k13m1 : Method := { name := "charAt", desc := "([BI)C", sig := { parameters := [(.array .byte), .int], returnType := some .char }, accessFlags := 9, code := some k13c1 }
def k13c2 : Code := { maxStack := 6, maxLocals := 3, code := jdk_43_method_47_code, exceptionTable := #[], attributes := #[] }
def k13m2 : Method := { name := "newString", desc := "([BII)Ljava/lang/String;", sig := { parameters := [(.array .byte), .int, .int], returnType := some (.object "java/lang/String") }, accessFlags := 9, code := some k13c2 }
/-- java/lang/StringLatin1 -/
def k13 : Class := { plain "java/lang/StringLatin1" (some 0) with
  accessFlags := 48
  interfaces := #[]
  cf := some (fileOf pool13 14 #[.nestMembers #[390, 221]] #[{ accessFlags := 0, nameIndex := 7, descriptorIndex := 8, attributes := #[] }, { accessFlags := 9, nameIndex := 252, descriptorIndex := 53, attributes := #[] }, { accessFlags := 9, nameIndex := 196, descriptorIndex := 197, attributes := #[] }] 48 4 #[] #[{ accessFlags := 4120, nameIndex := 121, descriptorIndex := 122, attributes := #[] }])
  fields := #[{ name := "$assertionsDisabled", type := .boolean, accessFlags := 4120, slot := 0, constantValue := 0 }]
  methods := #[k13m0, k13m1, k13m2]
  instanceTypes := #[]
  staticTypes := #[.boolean]
  resolved := Array.replicate 395 none
  statics := none }

def pool14 : Array CpInfo := pool [(2, .class_ 4), (1, u "java/lang/Object"), (0, u "<init>"), (0, u "()V"), (7, .class_ 16), (1, u "java/util/Arrays"), (57, .class_ 76), (1, u "java/util/Arrays$NaturalOrder"), (36, .class_ 115), (1, u "java/util/Arrays$LegacyMergeSort"), (1, u "Z"), (21, u "copyOfRange"), (10, .methodref 151 152), (0, .class_ 153), (0, .nameAndType 154 155), (0, u "java/lang/System"), (0, u "arraycopy"), (0, u "(Ljava/lang/Object;ILjava/lang/Object;II)V"), (148, .methodref 305 306), (0, .class_ 307), (0, .nameAndType 308 309), (0, u "java/lang/Math"), (0, u "min"), (0, u "(II)I"), (29, .methodref 14 340), (0, .nameAndType 341 342), (0, u "copyOfRangeByte"), (0, u "([BII)[B"), (0, .methodref 14 344), (0, .nameAndType 345 346), (0, u "checkLength"), (0, u "(II)V"), (28, .class_ 376), (0, u "java/util/Arrays$ArrayList"), (68, u "$assertionsDisabled"), (269, u "MIN_ARRAY_SORT_GRAN"), (0, u "I"), (2, u "INSERTIONSORT_THRESHOLD"), (255, .class_ 976), (0, u "java/util/Arrays$ArrayItr")] 52

def k14m0 : Method := { name := "<init>", desc := "()V", sig := { parameters := [], returnType := none }, accessFlags := 2, code := none }
def k14c1 : Code := { maxStack := 4, maxLocals := 2, code := jdk_65_method_131_code, exceptionTable := #[], attributes := #[] }
def k14m1 : Method := { name := "checkLength", desc := "(II)V", sig := { parameters := [.int, .int], returnType := none }, accessFlags := 10, code := some k14c1 }
def k14c2 : Code := { maxStack := 3, maxLocals := 3, code := jdk_65_method_132_code, exceptionTable := #[], attributes := #[] }
def k14m2 : Method := { name := "copyOfRange", desc := "([BII)[B", sig := { parameters := [(.array .byte), .int, .int], returnType := some (.array .byte) }, accessFlags := 9, code := some k14c2 }
def k14c3 : Code := { maxStack := 6, maxLocals := 5, code := jdk_65_method_133_code, exceptionTable := #[], attributes := #[] }
def k14m3 : Method := { name := "copyOfRangeByte", desc := "([BII)[B", sig := { parameters := [(.array .byte), .int, .int], returnType := some (.array .byte) }, accessFlags := 10, code := some k14c3 }
/-- java/util/Arrays -/
def k14 : Class := { plain "java/util/Arrays" (some 0) with
  accessFlags := 49
  interfaces := #[]
  cf := some (fileOf pool14 14 #[.nestMembers #[975, 375, 113, 74]] #[{ accessFlags := 2, nameIndex := 5, descriptorIndex := 6, attributes := #[] }, { accessFlags := 10, nameIndex := 345, descriptorIndex := 346, attributes := #[] }, { accessFlags := 9, nameIndex := 139, descriptorIndex := 342, attributes := #[] }, { accessFlags := 10, nameIndex := 341, descriptorIndex := 342, attributes := #[] }] 49 2 #[] #[{ accessFlags := 26, nameIndex := 715, descriptorIndex := 716, attributes := #[] }, { accessFlags := 26, nameIndex := 719, descriptorIndex := 716, attributes := #[] }, { accessFlags := 4120, nameIndex := 445, descriptorIndex := 117, attributes := #[] }])
  fields := #[{ name := "MIN_ARRAY_SORT_GRAN", type := .int, accessFlags := 26, slot := 0, constantValue := 0 }, { name := "INSERTIONSORT_THRESHOLD", type := .int, accessFlags := 26, slot := 1, constantValue := 0 }, { name := "$assertionsDisabled", type := .boolean, accessFlags := 4120, slot := 2, constantValue := 0 }]
  methods := #[k14m0, k14m1, k14m2, k14m3]
  instanceTypes := #[]
  staticTypes := #[.int, .int, .boolean]
  resolved := Array.replicate 1029 none
  statics := none }

def pool15 : Array CpInfo := pool [(2, .class_ 4), (1, u "java/lang/Object"), (0, u "<init>"), (0, u "()V"), (1, .class_ 10), (1, u "java/lang/System"), (0, u "allowSecurityManager"), (0, u "I"), (16, u "cons"), (0, u "Ljava/io/Console;"), (77, .class_ 110), (1, u "java/lang/System$CallersHolder"), (43, u "initialErrStream"), (0, u "Ljava/io/PrintStream;"), (19, u "security"), (0, u "Ljava/lang/SecurityManager;"), (31, .class_ 209), (0, u "java/lang/System$1"), (7, u "props"), (0, u "Ljava/util/Properties;"), (2, u "lineSeparator"), (0, u "Ljava/lang/String;"), (96, .class_ 321), (1, u "java/lang/System$LoggerFinder"), (5, .class_ 328), (0, u "java/lang/System$Logger"), (67, u "err"), (2, u "out"), (91, u "notSupportedJnuEncoding"), (15, u "in"), (17, u "initialIn"), (0, u "Ljava/io/InputStream;"), (35, u "bootLayer"), (0, u "Ljava/lang/ModuleLayer;"), (99, .class_ 664), (0, u "java/lang/System$2"), (9, u "NEVER"), (2, u "MAYBE"), (49, u "arraycopy"), (0, u "(Ljava/lang/Object;ILjava/lang/Object;II)V"), (72, .class_ 802), (0, u "java/lang/System$Logger$Level")] 31

def k15m0 : Method := { name := "<init>", desc := "()V", sig := { parameters := [], returnType := none }, accessFlags := 2, code := none }
def k15m1 : Method := { name := "arraycopy", desc := "(Ljava/lang/Object;ILjava/lang/Object;II)V", sig := { parameters := [(.object "java/lang/Object"), .int, (.object "java/lang/Object"), .int, .int], returnType := none }, accessFlags := 265, code := none }
/-- java/lang/System -/
def k15 : Class := { plain "java/lang/System" (some 0) with
  accessFlags := 49
  interfaces := #[]
  cf := some (fileOf pool15 8 #[.nestMembers #[319, 327, 801, 108, 663, 208]] #[{ accessFlags := 2, nameIndex := 5, descriptorIndex := 6, attributes := #[] }, { accessFlags := 265, nameIndex := 727, descriptorIndex := 728, attributes := #[] }] 49 2 #[] #[{ accessFlags := 25, nameIndex := 507, descriptorIndex := 526, attributes := #[] }, { accessFlags := 25, nameIndex := 399, descriptorIndex := 155, attributes := #[] }, { accessFlags := 25, nameIndex := 396, descriptorIndex := 155, attributes := #[] }, { accessFlags := 10, nameIndex := 525, descriptorIndex := 526, attributes := #[] }, { accessFlags := 26, nameIndex := 674, descriptorIndex := 12, attributes := #[] }, { accessFlags := 26, nameIndex := 677, descriptorIndex := 12, attributes := #[] }, { accessFlags := 10, nameIndex := 11, descriptorIndex := 12, attributes := #[] }, { accessFlags := 74, nameIndex := 175, descriptorIndex := 176, attributes := #[] }, { accessFlags := 10, nameIndex := 491, descriptorIndex := 222, attributes := #[] }, { accessFlags := 74, nameIndex := 29, descriptorIndex := 30, attributes := #[] }, { accessFlags := 74, nameIndex := 154, descriptorIndex := 155, attributes := #[] }, { accessFlags := 10, nameIndex := 217, descriptorIndex := 218, attributes := #[] }, { accessFlags := 10, nameIndex := 221, descriptorIndex := 222, attributes := #[] }, { accessFlags := 8, nameIndex := 562, descriptorIndex := 563, attributes := #[] }])
  fields := #[{ name := "in", type := (.object "java/io/InputStream"), accessFlags := 25, slot := 0, constantValue := 0 }, { name := "out", type := (.object "java/io/PrintStream"), accessFlags := 25, slot := 1, constantValue := 0 }, { name := "err", type := (.object "java/io/PrintStream"), accessFlags := 25, slot := 2, constantValue := 0 }, { name := "initialIn", type := (.object "java/io/InputStream"), accessFlags := 10, slot := 3, constantValue := 0 }, { name := "NEVER", type := .int, accessFlags := 26, slot := 4, constantValue := 0 }, { name := "MAYBE", type := .int, accessFlags := 26, slot := 5, constantValue := 0 }, { name := "allowSecurityManager", type := .int, accessFlags := 10, slot := 6, constantValue := 0 }, { name := "security", type := (.object "java/lang/SecurityManager"), accessFlags := 74, slot := 7, constantValue := 0 }, { name := "notSupportedJnuEncoding", type := (.object "java/lang/String"), accessFlags := 10, slot := 8, constantValue := 0 }, { name := "cons", type := (.object "java/io/Console"), accessFlags := 74, slot := 9, constantValue := 0 }, { name := "initialErrStream", type := (.object "java/io/PrintStream"), accessFlags := 74, slot := 10, constantValue := 0 }, { name := "props", type := (.object "java/util/Properties"), accessFlags := 10, slot := 11, constantValue := 0 }, { name := "lineSeparator", type := (.object "java/lang/String"), accessFlags := 10, slot := 12, constantValue := 0 }, { name := "bootLayer", type := (.object "java/lang/ModuleLayer"), accessFlags := 8, slot := 13, constantValue := 0 }]
  methods := #[k15m0, k15m1]
  instanceTypes := #[]
  staticTypes := #[(.object "java/io/InputStream"), (.object "java/io/PrintStream"), (.object "java/io/PrintStream"), (.object "java/io/InputStream"), .int, .int, .int, (.object "java/lang/SecurityManager"), (.object "java/lang/String"), (.object "java/io/Console"), (.object "java/io/PrintStream"), (.object "java/util/Properties"), (.object "java/lang/String"), (.object "java/lang/ModuleLayer")]
  resolved := Array.replicate 834 none
  statics := none }

def pool16 : Array CpInfo := pool [(9, u "<init>"), (6, .class_ 18), (1, u "java/lang/Object"), (0, u "()V"), (1, .class_ 23), (1, u "jdk/internal/util/ArraysSupport"), (0, u "LOG2_ARRAY_LONG_INDEX_SCALE"), (0, u "I"), (2, u "U"), (0, u "Ljdk/internal/misc/Unsafe;"), (8, u "BIG_ENDIAN"), (0, u "Z"), (8, u "LOG2_BYTE_BIT_SIZE"), (4, u "LOG2_ARRAY_INT_INDEX_SCALE"), (54, u "JLA"), (0, u "Ljdk/internal/access/JavaLangAccess;"), (11, u "LOG2_ARRAY_BOOLEAN_INDEX_SCALE"), (9, u "LOG2_ARRAY_BYTE_INDEX_SCALE"), (5, u "LOG2_ARRAY_CHAR_INDEX_SCALE"), (5, u "LOG2_ARRAY_SHORT_INDEX_SCALE"), (18, u "LOG2_ARRAY_FLOAT_INDEX_SCALE"), (24, u "LOG2_ARRAY_DOUBLE_INDEX_SCALE"), (89, u "T_BOOLEAN"), (2, u "T_CHAR"), (1, u "T_FLOAT"), (1, u "T_DOUBLE"), (1, u "T_BYTE"), (1, u "T_SHORT"), (1, u "T_INT"), (1, u "T_LONG"), (1, u "SOFT_MAX_ARRAY_LENGTH")] 83

def k16m0 : Method := { name := "<init>", desc := "()V", sig := { parameters := [], returnType := none }, accessFlags := 2, code := none }
/-- jdk/internal/util/ArraysSupport -/
def k16 : Class := { plain "jdk/internal/util/ArraysSupport" (some 0) with
  accessFlags := 33
  interfaces := #[]
  cf := some (fileOf pool16 21 #[] #[{ accessFlags := 2, nameIndex := 9, descriptorIndex := 19, attributes := #[] }] 33 16 #[] #[{ accessFlags := 24, nameIndex := 28, descriptorIndex := 29, attributes := #[] }, { accessFlags := 26, nameIndex := 38, descriptorIndex := 39, attributes := #[] }, { accessFlags := 25, nameIndex := 121, descriptorIndex := 25, attributes := #[] }, { accessFlags := 25, nameIndex := 131, descriptorIndex := 25, attributes := #[] }, { accessFlags := 25, nameIndex := 137, descriptorIndex := 25, attributes := #[] }, { accessFlags := 25, nameIndex := 143, descriptorIndex := 25, attributes := #[] }, { accessFlags := 25, nameIndex := 53, descriptorIndex := 25, attributes := #[] }, { accessFlags := 25, nameIndex := 24, descriptorIndex := 25, attributes := #[] }, { accessFlags := 25, nameIndex := 162, descriptorIndex := 25, attributes := #[] }, { accessFlags := 25, nameIndex := 187, descriptorIndex := 25, attributes := #[] }, { accessFlags := 26, nameIndex := 48, descriptorIndex := 25, attributes := #[] }, { accessFlags := 25, nameIndex := 277, descriptorIndex := 25, attributes := #[] }, { accessFlags := 25, nameIndex := 280, descriptorIndex := 25, attributes := #[] }, { accessFlags := 25, nameIndex := 282, descriptorIndex := 25, attributes := #[] }, { accessFlags := 25, nameIndex := 284, descriptorIndex := 25, attributes := #[] }, { accessFlags := 25, nameIndex := 286, descriptorIndex := 25, attributes := #[] }, { accessFlags := 25, nameIndex := 288, descriptorIndex := 25, attributes := #[] }, { accessFlags := 25, nameIndex := 290, descriptorIndex := 25, attributes := #[] }, { accessFlags := 25, nameIndex := 292, descriptorIndex := 25, attributes := #[] }, { accessFlags := 26, nameIndex := 108, descriptorIndex := 109, attributes := #[] }, { accessFlags := 25, nameIndex := 294, descriptorIndex := 25, attributes := #[] }])
  fields := #[{ name := "U", type := (.object "jdk/internal/misc/Unsafe"), accessFlags := 24, slot := 0, constantValue := 0 }, { name := "BIG_ENDIAN", type := .boolean, accessFlags := 26, slot := 1, constantValue := 0 }, { name := "LOG2_ARRAY_BOOLEAN_INDEX_SCALE", type := .int, accessFlags := 25, slot := 2, constantValue := 0 }, { name := "LOG2_ARRAY_BYTE_INDEX_SCALE", type := .int, accessFlags := 25, slot := 3, constantValue := 0 }, { name := "LOG2_ARRAY_CHAR_INDEX_SCALE", type := .int, accessFlags := 25, slot := 4, constantValue := 0 }, { name := "LOG2_ARRAY_SHORT_INDEX_SCALE", type := .int, accessFlags := 25, slot := 5, constantValue := 0 }, { name := "LOG2_ARRAY_INT_INDEX_SCALE", type := .int, accessFlags := 25, slot := 6, constantValue := 0 }, { name := "LOG2_ARRAY_LONG_INDEX_SCALE", type := .int, accessFlags := 25, slot := 7, constantValue := 0 }, { name := "LOG2_ARRAY_FLOAT_INDEX_SCALE", type := .int, accessFlags := 25, slot := 8, constantValue := 0 }, { name := "LOG2_ARRAY_DOUBLE_INDEX_SCALE", type := .int, accessFlags := 25, slot := 9, constantValue := 0 }, { name := "LOG2_BYTE_BIT_SIZE", type := .int, accessFlags := 26, slot := 10, constantValue := 0 }, { name := "T_BOOLEAN", type := .int, accessFlags := 25, slot := 11, constantValue := 0 }, { name := "T_CHAR", type := .int, accessFlags := 25, slot := 12, constantValue := 0 }, { name := "T_FLOAT", type := .int, accessFlags := 25, slot := 13, constantValue := 0 }, { name := "T_DOUBLE", type := .int, accessFlags := 25, slot := 14, constantValue := 0 }, { name := "T_BYTE", type := .int, accessFlags := 25, slot := 15, constantValue := 0 }, { name := "T_SHORT", type := .int, accessFlags := 25, slot := 16, constantValue := 0 }, { name := "T_INT", type := .int, accessFlags := 25, slot := 17, constantValue := 0 }, { name := "T_LONG", type := .int, accessFlags := 25, slot := 18, constantValue := 0 }, { name := "JLA", type := (.object "jdk/internal/access/JavaLangAccess"), accessFlags := 26, slot := 19, constantValue := 0 }, { name := "SOFT_MAX_ARRAY_LENGTH", type := .int, accessFlags := 25, slot := 20, constantValue := 0 }]
  methods := #[k16m0]
  instanceTypes := #[]
  staticTypes := #[(.object "jdk/internal/misc/Unsafe"), .boolean, .int, .int, .int, .int, .int, .int, .int, .int, .int, .int, .int, .int, .int, .int, .int, .int, .int, (.object "jdk/internal/access/JavaLangAccess"), .int]
  resolved := Array.replicate 378 none
  statics := none }

def pool17 : Array CpInfo := pool [(1, u "java/lang/Cloneable"), (0, .class_ 1), (0, u "java/lang/Object"), (0, .class_ 3)] 3

/-- java/lang/Cloneable -/
def k17 : Class := { plain "java/lang/Cloneable" (some 0) with
  accessFlags := 1537
  interfaces := #[]
  cf := some (fileOf pool17 2 #[] #[] 1537 4 #[] #[])
  fields := #[]
  methods := #[]
  instanceTypes := #[]
  staticTypes := #[]
  resolved := Array.replicate 8 none
  statics := none }

/-- the primitive byte -/
def k18 : Class := { plain "byte" none with kind := .primitive 'B', accessFlags := 0x411 }
/-- [B -/
def k19 : Class := { plain "[B" (some 0) with kind := .array 18 .byte, interfaces := #[17, 2], accessFlags := 1041 }

/-- the primitive char -/
def k20 : Class := { plain "char" none with kind := .primitive 'C', accessFlags := 0x411 }
/-- [C -/
def k21 : Class := { plain "[C" (some 0) with kind := .array 20 .char, interfaces := #[17, 2], accessFlags := 1041 }

/-- the primitive int -/
def k22 : Class := { plain "int" none with kind := .primitive 'I', accessFlags := 0x411 }
/-- [I -/
def k23 : Class := { plain "[I" (some 0) with kind := .array 22 .int, interfaces := #[17, 2], accessFlags := 1041 }

def heap : Heap := #[{ cls := 7, slots := #[.long 0, .int 1, .null, .int 0, .null, .int 0, .int 0], vm := .statics 7 },
  { cls := 10, slots := #[.null, .null, .null], vm := .statics 10 }]
def classes : Array Class := #[k0, k1, k2, k3, k4, k5, k6, k7, k8, k9, k10, k11, k12, k13, k14, k15, k16, k17, k18, k19, k20, k21, k22, k23]
def interned : List (Array UInt16 × Addr) := []
def slotsUsed : Nat := 10
def theMethod : MethodId := ⟨1, 4⟩
def args0 : Array Value := #[.int 5, .int 5, .int 5, .int 5, .int 5]
def aboutOver (below : List Frame) : State where
  vm := { classes := classes, interned := interned.toArray }
  heap := heap
  slotsUsed := slotsUsed
  threads := #[{ frames := .invoking theMethod args0 :: below }]
def below0 : List Frame := [.native { method := ⟨0, 0⟩, args := #[] }]
def about1 : State := aboutOver below0
def p0 : Program := .bare "" "" ""
def e0 : Env := launch0.env 0 0 0
theorem w_frames : about1.frames = Frame.invoking theMethod args0 :: below0 := rfl
set_option maxRecDepth 65536 in
theorem w_args : argsFit about1.vm theMethod args0 = true := by decide +kernel
set_option maxRecDepth 65536 in
theorem w_heap : heapFits about1 = true := by decide +kernel
set_option maxRecDepth 65536 in
theorem w_runnable : about1.curStatus? = some .runnable := by decide +kernel
set_option maxRecDepth 65536 in
theorem w_alone : about1.alone = true := by decide +kernel
set_option maxRecDepth 65536 in
theorem w_named : about1.methodNamed? x = some theMethod := by decide +kernel
set_option maxRecDepth 65536 in
theorem w_hears : about1.hears theMethod below0 = true := by decide +kernel
set_option maxRecDepth 65536 in
theorem w_ripe : about1.ripe theMethod args0 below0 = true := by decide +kernel
theorem w_running : about1.status = .running := rfl
set_option maxRecDepth 65536 in
theorem w_room : about1.hasRoom e0.platform room_1 = true :=
  launch0.hasRoom_least _ room_1 (by decide +kernel) (by decide +kernel) (by decide +kernel) (by decide +kernel) (by decide +kernel) (by decide +kernel)
theorem allAtoms_all (ts : List Jvm.Cond) (a : Array Jvm.Value) (st : Jvm.State) : (allAtoms ts).before a st = ts.all (fun c => c.before a st) := by
  induction ts with
  | nil => rfl
  | cons c t ih =>
    show (Jvm.Cond.and c (allAtoms t)).before a st = _
    rw [Jvm.Cond.before_and, ih, List.all_cons]
def words1 : List Jvm.Cond := Jvm.Cond.code x code maxLocals ret :: tables_1
/-- a 'code' word, met by the world's own term for the bytes: nothing is compared byte by byte -/
theorem code_word {y : MethodName} {bytes : ByteArray} {mx : Nat} {rt : Option FieldType} {a : Array Value} {s : State} {m : MethodId} {meth : Method} {c : Code} (h1 : s.methodNamed? y = some m) (h2 : s.vm.method? m = some meth) (h3 : meth.code = some c) (h4 : c.code = bytes)
    (h5 : (c.maxLocals == mx && c.exceptionTable.isEmpty && decide (c.maxStack ≤ mostOperands) && decide (meth.sig.returnType = rt) && !meth.locks && decide (parseMethodDescriptor y.desc = some meth.sig)) = true) : (Jvm.Cond.code y bytes mx rt).before a s = true := by
  simp only [Bool.and_eq_true, beq_iff_eq, Bool.not_eq_true', decide_eq_true_eq] at h5
  obtain ⟨⟨⟨⟨⟨g1, g2⟩, g3⟩, g4⟩, g5⟩, g6⟩ := h5
  simp [Cond.before, Cond.holds, Cond.value, h1, h2, h3, h4, g1, g2, g3, g4, g5, g6]
def isCode : Jvm.Cond → Bool
  | .code _ _ _ _ => true
  | _ => false
theorem all_split {L : List Jvm.Cond} {P : Jvm.Cond → Bool} (h1 : L.all (fun c => isCode c || P c) = true) (h2 : ∀ c ∈ L.filter isCode, P c = true) : L.all P = true := by
  refine List.all_eq_true.mpr fun c hc => ?_
  have h := List.all_eq_true.mp h1 c hc
  rcases Bool.eq_false_or_eq_true (isCode c) with hi | hi
  · exact h2 c (List.mem_filter.mpr ⟨hc, hi⟩)
  · simpa [hi] using h
set_option maxRecDepth 65536 in
theorem w_c0 : (Jvm.Cond.code x code maxLocals ret).before args0 about1 = true := code_word (m := ⟨1, 4⟩) (meth := k1m4) (c := k1c4) (by decide +kernel) rfl rfl rfl (by decide +kernel)
set_option maxRecDepth 65536 in
theorem w_c1 : (Jvm.Cond.code ({ cls := "com/example/commitwright/commitwright/http/HeadTrimSpacePinLaw", name := "ch", desc := "(I)C" } : Jvm.MethodName) method_2_code (2 : Nat) (Option.some Jvm.ClassFile.FieldType.char)).before args0 about1 = true := code_word (m := ⟨1, 1⟩) (meth := k1m1) (c := k1c1) (by decide +kernel) rfl rfl rfl (by decide +kernel)
set_option maxRecDepth 65536 in
theorem w_c2 : (Jvm.Cond.code ({ cls := "com/example/commitwright/commitwright/http/HeadTrimSpacePinLaw", name := "make", desc := "(ICCCC)Ljava/lang/String;" } : Jvm.MethodName) method_4_code (5 : Nat) (Option.some (Jvm.ClassFile.FieldType.object "java/lang/String"))).before args0 about1 = true := code_word (m := ⟨1, 3⟩) (meth := k1m3) (c := k1c3) (by decide +kernel) rfl rfl rfl (by decide +kernel)
set_option maxRecDepth 65536 in
theorem w_c3 : (Jvm.Cond.code ({ cls := "java/lang/String", name := "<init>", desc := "([C)V" } : Jvm.MethodName) jdk_42_method_3_code (2 : Nat) (Option.none : Option Jvm.ClassFile.FieldType)).before args0 about1 = true := code_word (m := ⟨7, 1⟩) (meth := k7m1) (c := k7c1) (by decide +kernel) rfl rfl rfl (by decide +kernel)
set_option maxRecDepth 65536 in
theorem w_c4 : (Jvm.Cond.code ({ cls := "java/lang/String", name := "<init>", desc := "([CIILjava/lang/Void;)V" } : Jvm.MethodName) jdk_42_method_149_code (6 : Nat) (Option.none : Option Jvm.ClassFile.FieldType)).before args0 about1 = true := code_word (m := ⟨7, 5⟩) (meth := k7m5) (c := k7c5) (by decide +kernel) rfl rfl rfl (by decide +kernel)
set_option maxRecDepth 65536 in
theorem w_c5 : (Jvm.Cond.code ({ cls := "java/lang/Object", name := "<init>", desc := "()V" } : Jvm.MethodName) object_method_1_code (1 : Nat) (Option.none : Option Jvm.ClassFile.FieldType)).before args0 about1 = true := code_word (m := ⟨0, 0⟩) (meth := k0m0) (c := k0c0) (by decide +kernel) rfl rfl rfl (by decide +kernel)
set_option maxRecDepth 65536 in
theorem w_c6 : (Jvm.Cond.code ({ cls := "com/example/commitwright/commitwright/http/Head", name := "trimSpace", desc := "(Ljava/lang/String;)Ljava/lang/String;" } : Jvm.MethodName) prog_15_method_7_code (3 : Nat) (Option.some (Jvm.ClassFile.FieldType.object "java/lang/String"))).before args0 about1 = true := code_word (m := ⟨9, 0⟩) (meth := k9m0) (c := k9c0) (by decide +kernel) rfl rfl rfl (by decide +kernel)
set_option maxRecDepth 65536 in
theorem w_c7 : (Jvm.Cond.code ({ cls := "java/lang/String", name := "length", desc := "()I" } : Jvm.MethodName) jdk_42_method_54_code (1 : Nat) (Option.some Jvm.ClassFile.FieldType.int)).before args0 about1 = true := code_word (m := ⟨7, 2⟩) (meth := k7m2) (c := k7c2) (by decide +kernel) rfl rfl rfl (by decide +kernel)
set_option maxRecDepth 65536 in
theorem w_c8 : (Jvm.Cond.code ({ cls := "java/lang/String", name := "coder", desc := "()B" } : Jvm.MethodName) jdk_42_method_152_code (1 : Nat) (Option.some Jvm.ClassFile.FieldType.byte)).before args0 about1 = true := code_word (m := ⟨7, 7⟩) (meth := k7m7) (c := k7c7) (by decide +kernel) rfl rfl rfl (by decide +kernel)
set_option maxRecDepth 65536 in
theorem w_c9 : (Jvm.Cond.code ({ cls := "java/lang/String", name := "substring", desc := "(II)Ljava/lang/String;" } : Jvm.MethodName) jdk_42_method_92_code (5 : Nat) (Option.some (Jvm.ClassFile.FieldType.object "java/lang/String"))).before args0 about1 = true := code_word (m := ⟨7, 4⟩) (meth := k7m4) (c := k7c4) (by decide +kernel) rfl rfl rfl (by decide +kernel)
set_option maxRecDepth 65536 in
theorem w_c10 : (Jvm.Cond.code ({ cls := "java/lang/String", name := "checkBoundsBeginEnd", desc := "(III)V" } : Jvm.MethodName) jdk_42_method_158_code (3 : Nat) (Option.none : Option Jvm.ClassFile.FieldType)).before args0 about1 = true := code_word (m := ⟨7, 10⟩) (meth := k7m10) (c := k7c10) (by decide +kernel) rfl rfl rfl (by decide +kernel)
set_option maxRecDepth 65536 in
theorem w_c11 : (Jvm.Cond.code ({ cls := "jdk/internal/util/Preconditions", name := "checkFromToIndex", desc := "(IIILjava/util/function/BiFunction;)I" } : Jvm.MethodName) jdk_41_method_12_code (4 : Nat) (Option.some Jvm.ClassFile.FieldType.int)).before args0 about1 = true := code_word (m := ⟨10, 2⟩) (meth := k10m2) (c := k10c2) (by decide +kernel) rfl rfl rfl (by decide +kernel)
set_option maxRecDepth 65536 in
theorem w_c12 : (Jvm.Cond.code ({ cls := "java/lang/Math", name := "max", desc := "(II)I" } : Jvm.MethodName) jdk_29_method_65_code (2 : Nat) (Option.some Jvm.ClassFile.FieldType.int)).before args0 about1 = true := code_word (m := ⟨11, 1⟩) (meth := k11m1) (c := k11c1) (by decide +kernel) rfl rfl rfl (by decide +kernel)
set_option maxRecDepth 65536 in
theorem w_c13 : (Jvm.Cond.code ({ cls := "java/lang/StringUTF16", name := "compress", desc := "([CII)[B" } : Jvm.MethodName) jdk_52_method_16_code (6 : Nat) (Option.some (Jvm.ClassFile.FieldType.array Jvm.ClassFile.FieldType.byte))).before args0 about1 = true := code_word (m := ⟨12, 2⟩) (meth := k12m2) (c := k12c2) (by decide +kernel) rfl rfl rfl (by decide +kernel)
set_option maxRecDepth 65536 in
theorem w_c14 : (Jvm.Cond.code ({ cls := "java/lang/StringUTF16", name := "compress", desc := "([CI[BII)I" } : Jvm.MethodName) jdk_52_method_21_code (7 : Nat) (Option.some Jvm.ClassFile.FieldType.int)).before args0 about1 = true := code_word (m := ⟨12, 3⟩) (meth := k12m3) (c := k12c3) (by decide +kernel) rfl rfl rfl (by decide +kernel)
set_option maxRecDepth 65536 in
theorem w_c15 : (Jvm.Cond.code ({ cls := "java/lang/StringUTF16", name := "coderFromArrayLen", desc := "([BI)B" } : Jvm.MethodName) jdk_52_method_15_code (2 : Nat) (Option.some Jvm.ClassFile.FieldType.byte)).before args0 about1 = true := code_word (m := ⟨12, 1⟩) (meth := k12m1) (c := k12c1) (by decide +kernel) rfl rfl rfl (by decide +kernel)
set_option maxRecDepth 65536 in
theorem w_c16 : (Jvm.Cond.code ({ cls := "java/lang/String", name := "charAt", desc := "(I)C" } : Jvm.MethodName) jdk_42_method_56_code (2 : Nat) (Option.some Jvm.ClassFile.FieldType.char)).before args0 about1 = true := code_word (m := ⟨7, 3⟩) (meth := k7m3) (c := k7c3) (by decide +kernel) rfl rfl rfl (by decide +kernel)
set_option maxRecDepth 65536 in
theorem w_c17 : (Jvm.Cond.code ({ cls := "java/lang/String", name := "isLatin1", desc := "()Z" } : Jvm.MethodName) jdk_42_method_154_code (1 : Nat) (Option.some Jvm.ClassFile.FieldType.boolean)).before args0 about1 = true := code_word (m := ⟨7, 8⟩) (meth := k7m8) (c := k7c8) (by decide +kernel) rfl rfl rfl (by decide +kernel)
set_option maxRecDepth 65536 in
theorem w_c18 : (Jvm.Cond.code ({ cls := "java/lang/StringLatin1", name := "charAt", desc := "([BI)C" } : Jvm.MethodName) jdk_43_method_2_code (2 : Nat) (Option.some Jvm.ClassFile.FieldType.char)).before args0 about1 = true := code_word (m := ⟨13, 1⟩) (meth := k13m1) (c := k13c1) (by decide +kernel) rfl rfl rfl (by decide +kernel)
set_option maxRecDepth 65536 in
theorem w_c19 : (Jvm.Cond.code ({ cls := "java/lang/String", name := "checkIndex", desc := "(II)V" } : Jvm.MethodName) jdk_42_method_155_code (2 : Nat) (Option.none : Option Jvm.ClassFile.FieldType)).before args0 about1 = true := code_word (m := ⟨7, 9⟩) (meth := k7m9) (c := k7c9) (by decide +kernel) rfl rfl rfl (by decide +kernel)
set_option maxRecDepth 65536 in
theorem w_c20 : (Jvm.Cond.code ({ cls := "jdk/internal/util/Preconditions", name := "checkIndex", desc := "(IILjava/util/function/BiFunction;)I" } : Jvm.MethodName) jdk_41_method_11_code (3 : Nat) (Option.some Jvm.ClassFile.FieldType.int)).before args0 about1 = true := code_word (m := ⟨10, 1⟩) (meth := k10m1) (c := k10c1) (by decide +kernel) rfl rfl rfl (by decide +kernel)
set_option maxRecDepth 65536 in
theorem w_c21 : (Jvm.Cond.code ({ cls := "com/example/commitwright/commitwright/http/Head", name := "isSpace", desc := "(C)Z" } : Jvm.MethodName) prog_15_method_8_code (1 : Nat) (Option.some Jvm.ClassFile.FieldType.boolean)).before args0 about1 = true := code_word (m := ⟨9, 1⟩) (meth := k9m1) (c := k9c1) (by decide +kernel) rfl rfl rfl (by decide +kernel)
set_option maxRecDepth 65536 in
theorem w_c22 : (Jvm.Cond.code ({ cls := "java/lang/StringLatin1", name := "newString", desc := "([BII)Ljava/lang/String;" } : Jvm.MethodName) jdk_43_method_47_code (3 : Nat) (Option.some (Jvm.ClassFile.FieldType.object "java/lang/String"))).before args0 about1 = true := code_word (m := ⟨13, 2⟩) (meth := k13m2) (c := k13c2) (by decide +kernel) rfl rfl rfl (by decide +kernel)
set_option maxRecDepth 65536 in
theorem w_c23 : (Jvm.Cond.code ({ cls := "java/util/Arrays", name := "copyOfRange", desc := "([BII)[B" } : Jvm.MethodName) jdk_65_method_132_code (3 : Nat) (Option.some (Jvm.ClassFile.FieldType.array Jvm.ClassFile.FieldType.byte))).before args0 about1 = true := code_word (m := ⟨14, 2⟩) (meth := k14m2) (c := k14c2) (by decide +kernel) rfl rfl rfl (by decide +kernel)
set_option maxRecDepth 65536 in
theorem w_c24 : (Jvm.Cond.code ({ cls := "java/util/Arrays", name := "copyOfRangeByte", desc := "([BII)[B" } : Jvm.MethodName) jdk_65_method_133_code (5 : Nat) (Option.some (Jvm.ClassFile.FieldType.array Jvm.ClassFile.FieldType.byte))).before args0 about1 = true := code_word (m := ⟨14, 3⟩) (meth := k14m3) (c := k14c3) (by decide +kernel) rfl rfl rfl (by decide +kernel)
set_option maxRecDepth 65536 in
theorem w_c25 : (Jvm.Cond.code ({ cls := "java/util/Arrays", name := "checkLength", desc := "(II)V" } : Jvm.MethodName) jdk_65_method_131_code (2 : Nat) (Option.none : Option Jvm.ClassFile.FieldType)).before args0 about1 = true := code_word (m := ⟨14, 1⟩) (meth := k14m1) (c := k14c1) (by decide +kernel) rfl rfl rfl (by decide +kernel)
set_option maxRecDepth 65536 in
theorem w_c26 : (Jvm.Cond.code ({ cls := "java/lang/Math", name := "min", desc := "(II)I" } : Jvm.MethodName) jdk_29_method_69_code (2 : Nat) (Option.some Jvm.ClassFile.FieldType.int)).before args0 about1 = true := code_word (m := ⟨11, 2⟩) (meth := k11m2) (c := k11c2) (by decide +kernel) rfl rfl rfl (by decide +kernel)
set_option maxRecDepth 65536 in
theorem w_c27 : (Jvm.Cond.code ({ cls := "java/lang/String", name := "<init>", desc := "([BB)V" } : Jvm.MethodName) jdk_42_method_151_code (3 : Nat) (Option.none : Option Jvm.ClassFile.FieldType)).before args0 about1 = true := code_word (m := ⟨7, 6⟩) (meth := k7m6) (c := k7c6) (by decide +kernel) rfl rfl rfl (by decide +kernel)
set_option maxRecDepth 65536 in
theorem w_c28 : (Jvm.Cond.code ({ cls := "com/example/commitwright/commitwright/http/HeadTrimSpacePinLaw", name := "sp", desc := "(C)Z" } : Jvm.MethodName) method_3_code (1 : Nat) (Option.some Jvm.ClassFile.FieldType.boolean)).before args0 about1 = true := code_word (m := ⟨1, 2⟩) (meth := k1m2) (c := k1c2) (by decide +kernel) rfl rfl rfl (by decide +kernel)
def codes1 : List Jvm.Cond := [Jvm.Cond.code x code maxLocals ret, Jvm.Cond.code ({ cls := "com/example/commitwright/commitwright/http/HeadTrimSpacePinLaw", name := "ch", desc := "(I)C" } : Jvm.MethodName) method_2_code (2 : Nat) (Option.some Jvm.ClassFile.FieldType.char), Jvm.Cond.code ({ cls := "com/example/commitwright/commitwright/http/HeadTrimSpacePinLaw", name := "make", desc := "(ICCCC)Ljava/lang/String;" } : Jvm.MethodName) method_4_code (5 : Nat) (Option.some (Jvm.ClassFile.FieldType.object "java/lang/String")), Jvm.Cond.code ({ cls := "java/lang/String", name := "<init>", desc := "([C)V" } : Jvm.MethodName) jdk_42_method_3_code (2 : Nat) (Option.none : Option Jvm.ClassFile.FieldType), Jvm.Cond.code ({ cls := "java/lang/String", name := "<init>", desc := "([CIILjava/lang/Void;)V" } : Jvm.MethodName) jdk_42_method_149_code (6 : Nat) (Option.none : Option Jvm.ClassFile.FieldType), Jvm.Cond.code ({ cls := "java/lang/Object", name := "<init>", desc := "()V" } : Jvm.MethodName) object_method_1_code (1 : Nat) (Option.none : Option Jvm.ClassFile.FieldType), Jvm.Cond.code ({ cls := "com/example/commitwright/commitwright/http/Head", name := "trimSpace", desc := "(Ljava/lang/String;)Ljava/lang/String;" } : Jvm.MethodName) prog_15_method_7_code (3 : Nat) (Option.some (Jvm.ClassFile.FieldType.object "java/lang/String")), Jvm.Cond.code ({ cls := "java/lang/String", name := "length", desc := "()I" } : Jvm.MethodName) jdk_42_method_54_code (1 : Nat) (Option.some Jvm.ClassFile.FieldType.int), Jvm.Cond.code ({ cls := "java/lang/String", name := "coder", desc := "()B" } : Jvm.MethodName) jdk_42_method_152_code (1 : Nat) (Option.some Jvm.ClassFile.FieldType.byte), Jvm.Cond.code ({ cls := "java/lang/String", name := "substring", desc := "(II)Ljava/lang/String;" } : Jvm.MethodName) jdk_42_method_92_code (5 : Nat) (Option.some (Jvm.ClassFile.FieldType.object "java/lang/String")), Jvm.Cond.code ({ cls := "java/lang/String", name := "checkBoundsBeginEnd", desc := "(III)V" } : Jvm.MethodName) jdk_42_method_158_code (3 : Nat) (Option.none : Option Jvm.ClassFile.FieldType), Jvm.Cond.code ({ cls := "jdk/internal/util/Preconditions", name := "checkFromToIndex", desc := "(IIILjava/util/function/BiFunction;)I" } : Jvm.MethodName) jdk_41_method_12_code (4 : Nat) (Option.some Jvm.ClassFile.FieldType.int), Jvm.Cond.code ({ cls := "java/lang/Math", name := "max", desc := "(II)I" } : Jvm.MethodName) jdk_29_method_65_code (2 : Nat) (Option.some Jvm.ClassFile.FieldType.int), Jvm.Cond.code ({ cls := "java/lang/StringUTF16", name := "compress", desc := "([CII)[B" } : Jvm.MethodName) jdk_52_method_16_code (6 : Nat) (Option.some (Jvm.ClassFile.FieldType.array Jvm.ClassFile.FieldType.byte)), Jvm.Cond.code ({ cls := "java/lang/StringUTF16", name := "compress", desc := "([CI[BII)I" } : Jvm.MethodName) jdk_52_method_21_code (7 : Nat) (Option.some Jvm.ClassFile.FieldType.int), Jvm.Cond.code ({ cls := "java/lang/StringUTF16", name := "coderFromArrayLen", desc := "([BI)B" } : Jvm.MethodName) jdk_52_method_15_code (2 : Nat) (Option.some Jvm.ClassFile.FieldType.byte), Jvm.Cond.code ({ cls := "java/lang/String", name := "charAt", desc := "(I)C" } : Jvm.MethodName) jdk_42_method_56_code (2 : Nat) (Option.some Jvm.ClassFile.FieldType.char), Jvm.Cond.code ({ cls := "java/lang/String", name := "isLatin1", desc := "()Z" } : Jvm.MethodName) jdk_42_method_154_code (1 : Nat) (Option.some Jvm.ClassFile.FieldType.boolean), Jvm.Cond.code ({ cls := "java/lang/StringLatin1", name := "charAt", desc := "([BI)C" } : Jvm.MethodName) jdk_43_method_2_code (2 : Nat) (Option.some Jvm.ClassFile.FieldType.char), Jvm.Cond.code ({ cls := "java/lang/String", name := "checkIndex", desc := "(II)V" } : Jvm.MethodName) jdk_42_method_155_code (2 : Nat) (Option.none : Option Jvm.ClassFile.FieldType), Jvm.Cond.code ({ cls := "jdk/internal/util/Preconditions", name := "checkIndex", desc := "(IILjava/util/function/BiFunction;)I" } : Jvm.MethodName) jdk_41_method_11_code (3 : Nat) (Option.some Jvm.ClassFile.FieldType.int), Jvm.Cond.code ({ cls := "com/example/commitwright/commitwright/http/Head", name := "isSpace", desc := "(C)Z" } : Jvm.MethodName) prog_15_method_8_code (1 : Nat) (Option.some Jvm.ClassFile.FieldType.boolean), Jvm.Cond.code ({ cls := "java/lang/StringLatin1", name := "newString", desc := "([BII)Ljava/lang/String;" } : Jvm.MethodName) jdk_43_method_47_code (3 : Nat) (Option.some (Jvm.ClassFile.FieldType.object "java/lang/String")), Jvm.Cond.code ({ cls := "java/util/Arrays", name := "copyOfRange", desc := "([BII)[B" } : Jvm.MethodName) jdk_65_method_132_code (3 : Nat) (Option.some (Jvm.ClassFile.FieldType.array Jvm.ClassFile.FieldType.byte)), Jvm.Cond.code ({ cls := "java/util/Arrays", name := "copyOfRangeByte", desc := "([BII)[B" } : Jvm.MethodName) jdk_65_method_133_code (5 : Nat) (Option.some (Jvm.ClassFile.FieldType.array Jvm.ClassFile.FieldType.byte)), Jvm.Cond.code ({ cls := "java/util/Arrays", name := "checkLength", desc := "(II)V" } : Jvm.MethodName) jdk_65_method_131_code (2 : Nat) (Option.none : Option Jvm.ClassFile.FieldType), Jvm.Cond.code ({ cls := "java/lang/Math", name := "min", desc := "(II)I" } : Jvm.MethodName) jdk_29_method_69_code (2 : Nat) (Option.some Jvm.ClassFile.FieldType.int), Jvm.Cond.code ({ cls := "java/lang/String", name := "<init>", desc := "([BB)V" } : Jvm.MethodName) jdk_42_method_151_code (3 : Nat) (Option.none : Option Jvm.ClassFile.FieldType), Jvm.Cond.code ({ cls := "com/example/commitwright/commitwright/http/HeadTrimSpacePinLaw", name := "sp", desc := "(C)Z" } : Jvm.MethodName) method_3_code (1 : Nat) (Option.some Jvm.ClassFile.FieldType.boolean)]
set_option maxRecDepth 65536 in
theorem codes_eq : words1.filter isCode = codes1 := rfl
theorem w_codes : ∀ c ∈ words1.filter isCode, c.before args0 about1 = true := by
  rw [codes_eq]
  intro c hc
  simp only [codes1, List.mem_cons, List.not_mem_nil, or_false] at hc
  rcases hc with rfl | rfl | rfl | rfl | rfl | rfl | rfl | rfl | rfl | rfl | rfl | rfl | rfl | rfl | rfl | rfl | rfl | rfl | rfl | rfl | rfl | rfl | rfl | rfl | rfl | rfl | rfl | rfl | rfl
  · exact w_c0
  · exact w_c1
  · exact w_c2
  · exact w_c3
  · exact w_c4
  · exact w_c5
  · exact w_c6
  · exact w_c7
  · exact w_c8
  · exact w_c9
  · exact w_c10
  · exact w_c11
  · exact w_c12
  · exact w_c13
  · exact w_c14
  · exact w_c15
  · exact w_c16
  · exact w_c17
  · exact w_c18
  · exact w_c19
  · exact w_c20
  · exact w_c21
  · exact w_c22
  · exact w_c23
  · exact w_c24
  · exact w_c25
  · exact w_c26
  · exact w_c27
  · exact w_c28
set_option maxRecDepth 65536 in
theorem w_t1 : (words1.take 24).all (fun c => isCode c || c.before args0 about1) = true := by decide +kernel
set_option maxRecDepth 65536 in
theorem w_t2 : ((words1.drop 24).take 24).all (fun c => isCode c || c.before args0 about1) = true := by decide +kernel
set_option maxRecDepth 65536 in
theorem w_t3 : (((words1.drop 24).drop 24).take 24).all (fun c => isCode c || c.before args0 about1) = true := by decide +kernel
set_option maxRecDepth 65536 in
theorem w_t4 : ((((words1.drop 24).drop 24).drop 24).take 24).all (fun c => isCode c || c.before args0 about1) = true := by decide +kernel
set_option maxRecDepth 65536 in
theorem w_t5 : (((((words1.drop 24).drop 24).drop 24).drop 24).take 24).all (fun c => isCode c || c.before args0 about1) = true := by decide +kernel
set_option maxRecDepth 65536 in
theorem w_t6 : (((((words1.drop 24).drop 24).drop 24).drop 24).drop 24).all (fun c => isCode c || c.before args0 about1) = true := by decide +kernel
theorem w_tables : (allAtoms (Jvm.Cond.code x code maxLocals ret :: tables_1)).before args0 about1 = true := by
  rw [allAtoms_all]
  show words1.all (fun c => c.before args0 about1) = true
  refine all_split ?_ w_codes
  rw [← List.take_append_drop 24 words1, List.all_append, w_t1, ← List.take_append_drop 24 (words1.drop 24), List.all_append, w_t2, ← List.take_append_drop 24 ((words1.drop 24).drop 24), List.all_append, w_t3, ← List.take_append_drop 24 (((words1.drop 24).drop 24).drop 24), List.all_append, w_t4, ← List.take_append_drop 24 ((((words1.drop 24).drop 24).drop 24).drop 24), List.all_append, w_t5, w_t6]
  rfl
set_option maxRecDepth 65536 in
theorem w_rest : rest_1_c.before args0 about1 = true := by decide +kernel
set_option maxRecDepth 65536 in
theorem w_case : (Jvm.Cond.and given_1 narrow_1).before args0 about1 = true := by decide +kernel
set_option maxRecDepth 65536 in
theorem w_consts : constsHeld consts_1 about1 := Jvm.Lit.constsHeldB_iff.mp (by decide +kernel)
theorem w_applies : (headSpec (Jvm.Cond.code x code maxLocals ret :: tables_1) room_1).applies x e0.platform about1 = true :=
  (Spec.applies_iff w_frames).mpr ⟨w_running, w_runnable, w_alone, w_named, w_hears, w_ripe, w_room, w_tables⟩
theorem atStart : AtStart classFile x code maxLocals ret World_1 tables_1 room_1 Calls_1 rest_1 Pre_1 launch0 p0 e0 about1 theMethod args0 below0 :=
  ⟨lists_1, trivial, launch0.admits_env _ _ _, launch0.least_env, fairChoices_fair.cas, fairChoices_fair.clock, w_frames, w_args, w_heap, w_applies, ⟨w_consts, trivial⟩, w_rest, w_case⟩
end start1
theorem witness_1 : WitnessClaimed_1 := ⟨start1.p0, start1.e0, start1.about1, start1.theMethod, start1.args0, start1.below0, start1.atStart⟩
end Jvm.Pilot.@@N@@
