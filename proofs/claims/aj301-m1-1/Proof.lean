import JvmDerived
import JvmDerived.Pilot.@@N@@Statement
import JvmDerived.Pilot.@@N@@Code
set_option linter.unusedVariables false
set_option linter.unusedSimpArgs false
@@BLOCK:NumsL.lean.txt@@
namespace Jvm.RoadKit
open Sem ClassFile Op Lib Jvm.Stand Jvm.Free Jvm.LawKit
section New
variable {p : Program} {l : Launch} {e : Env} {R : Room} {s : State} {m : MethodId} {args : Array Value} {below : List Frame} {meth : Method} {c : Code} {T : State} {locs : List Loc} {cells slots : Nat}
theorem retI (X : Stand p l e R s m args below meth c T locs cells slots) (hx : p.tables.exec = Jvm.exec) {pc : Nat} {Ls : Array Slot} {z : Int32} {rest : List Value} (hret : meth.sig.returnType = some .int) (hd : decode c.code pc = .ok (.ireturn, 1)) {fs : List Frame}
    (hl : ∀ (f : JFrame) (acts : List Action), f.method = m → f.locked = none → f.entered = [] → (doReturn e (T.setTop f) acts (some (.int z))).1 = T.setFrames fs) : Steps p.tables e below (T.setTop (mkF m pc Ls (.int z :: rest))) (T.setFrames fs) := by
  have hm' : T.vm.method? m = some meth := X.method'
  have hn : narrow .int (.int z) = .int z := rfl
  show Steps p.tables e below (T.setTop { method := m, pc := pc, locals := Ls, stack := _ :: rest, locked := none }) _
  jvm_step X.here [X.here.top, hx, hd, hm', hret, hn]
  first | (intro acts; rw [hl _ acts rfl rfl rfl]) | rw [hl _ _ rfl rfl rfl]
  exact Steps.refl _
end New
end Jvm.RoadKit
namespace Jvm.Pilot.@@N@@
open Jvm Jvm.ClassFile Sem Op Lib Jvm.Free Jvm.Stand Jvm.LawKit Jvm.RoadKit Bundle Jvm.Pilot.@@N@@.Jvm.D
/-! numbers -/
theorem own_lt {i n : Nat} (h : i < n) (hn : n ≤ 255) : Int32.ofNat i < Int32.ofNat n := by
  rw [Int32.lt_iff_toInt_lt, Int32.toInt_ofNat_of_lt (by omega), Int32.toInt_ofNat_of_lt (by omega)]
  omega
theorem own_nlt {i n : Nat} (h : ¬ i < n) (hi : i ≤ 255) : ¬ (Int32.ofNat i < Int32.ofNat n) := by
  rw [Int32.lt_iff_toInt_lt, Int32.toInt_ofNat_of_lt (by omega), Int32.toInt_ofNat_of_lt (by omega)]
  omega
theorem own_nn {n : Nat} (hn : n ≤ 255) : ¬ Int32.ofNat n < 0 := by
  rw [Int32.lt_iff_toInt_lt, Int32.toInt_ofNat_of_lt (by omega), show (0 : Int32).toInt = 0 from rfl]
  omega
theorem own_n32 {n : Nat} (hn : n ≤ 255) : (Int32.ofNat n).toNatClampNeg = n := by
  rw [Int32.toNatClampNeg, Int32.toInt_ofNat_of_lt (by omega)]; rfl
theorem own_one (i : Nat) : Int32.ofNat i + (1 : Int32) = Int32.ofNat (i + 1) := (Int32.ofNat_add i 1).symm
theorem own_seven (i : Nat) : Int32.ofNat (7 * i) + (7 : Int32) = Int32.ofNat (7 * (i + 1)) := (Int32.ofNat_add (7 * i) 7).symm
theorem own_less {n : Nat} (h1 : 1 ≤ n) (h2 : n ≤ 255) : Int32.ofNat n - (1 : Int32) = Int32.ofNat (n - 1) := by
  apply Int32.toInt_inj.mp
  rw [Jvm.Kit.i32_sub (by rw [Int32.toInt_ofNat_of_lt (by omega), show (1 : Int32).toInt = 1 from rfl]; omega) (by rw [Int32.toInt_ofNat_of_lt (by omega), show (1 : Int32).toInt = 1 from rfl]; omega), Int32.toInt_ofNat_of_lt (by omega), Int32.toInt_ofNat_of_lt (by omega), show (1 : Int32).toInt = 1 from rfl]
  omega
theorem own_k10 (x : Int32) : ∃ K : Nat, 1 ≤ K ∧ K ≤ 10 ∧ ((1 : Int32) + ((x &&& (2147483647 : Int32)) - (((x &&& (2147483647 : Int32)) / (10 : Int32)) * (10 : Int32)))) = Int32.ofNat K := by
  have hy : (x &&& (2147483647 : Int32)).toInt = x.toInt % 2 ^ 31 := Jvm.Kit.i32_mask x 2147483647 (k := 31) (by decide) (by decide)
  generalize (x &&& (2147483647 : Int32)) = y at hy
  have b0 : 0 ≤ y.toInt := by omega
  have b1 : y.toInt < 2 ^ 31 := by omega
  have s10 : (10 : Int32).toInt = 10 := by decide
  have s1 : (1 : Int32).toInt = 1 := by decide
  have hd : (y / (10 : Int32)).toInt = y.toInt / 10 := by
    rw [Jvm.Kit.i32_div (by omega), s10, Int.tdiv_eq_ediv_of_nonneg b0]
  have hm : ((y / (10 : Int32)) * (10 : Int32)).toInt = y.toInt / 10 * 10 := by
    rw [Jvm.Kit.i32_mul (by rw [hd, s10]; omega) (by rw [hd, s10]; omega), hd, s10]
  have hs : (y - (y / (10 : Int32)) * (10 : Int32)).toInt = y.toInt - y.toInt / 10 * 10 := by
    rw [Jvm.Kit.i32_sub (by rw [hm]; omega) (by rw [hm]; omega), hm]
  refine ⟨(1 + y.toInt % 10).toNat, by omega, by omega, Int32.toInt_inj.mp ?_⟩
  rw [Jvm.Kit.i32_add (by rw [s1, hs]; omega) (by rw [s1, hs]; omega), hs, s1, Int32.toInt_ofNat_of_lt (by omega)]
  omega
theorem own_p3 (x : Int32) : ∃ P : Nat, P ≤ 3 ∧ (x &&& (3 : Int32)) = Int32.ofNat P := by
  have hy : (x &&& (3 : Int32)).toInt = x.toInt % 2 ^ 2 := Jvm.Kit.i32_mask x 3 (k := 2) (by decide) (by decide)
  refine ⟨(x.toInt % 4).toNat, by omega, Int32.toInt_inj.mp ?_⟩
  rw [hy, Int32.toInt_ofNat_of_lt (by omega)]
  omega
/-! the bytes that are put, and what is read out of them -/
def own_g (I : Nat) (v : Int64) : Int32 := ((((v.toUInt64 >>> (((7 : Int32) * (Int32.ofNat I)) &&& 0x3f).toInt64.toUInt64).toInt64) &&& (127 : Int64)).toInt32)
def own_b (I K : Nat) (v : Int64) : Int32 := if I + 1 < K then nar .byte ((own_g I v ||| (128 : Int32)).toInt8.toInt32) else nar .byte ((own_g I v).toInt8.toInt32)
def own_put (vs : List Value) (P I K : Nat) (v : Int64) : List Value := if I < K then vs.set (P + I) (.int (own_b I K v)) else vs
def own_puts (vs : List Value) (P K : Nat) (v : Int64) : Nat → List Value
  | 0 => vs
  | n + 1 => own_put (own_puts vs P K v n) P n K v
theorem own_len1 (vs : List Value) (P I K : Nat) (v : Int64) : (own_put vs P I K v).length = vs.length := by
  by_cases h : I < K
  · rw [own_put, if_pos h, List.length_set]
  · rw [own_put, if_neg h]
theorem own_plen {vs : List Value} (P K : Nat) (v : Int64) (h : vs.length = 16) : ∀ n, (own_puts vs P K v n).length = 16
  | 0 => h
  | n + 1 => by rw [own_puts, own_len1]; exact own_plen P K v h n
theorem own_pat {vs : List Value} {P K : Nat} (v : Int64) (h : vs.length = 16) (hP : P ≤ 3) (hK : K ≤ 10) : ∀ n j, j < n → j < K → (own_puts vs P K v n).getD (P + j) (.int (0 : Int32)) = .int (own_b j K v)
  | 0, j, hj, _ => absurd hj (Nat.not_lt_zero j)
  | n + 1, j, hj, hk => by
    have hlen := own_plen P K v h n
    rw [own_puts, own_put]
    by_cases hn : n < K
    · rw [if_pos hn]
      by_cases e : j = n
      · subst e
        rw [List.getD_eq_getElem?_getD, List.getElem?_set_self (by omega)]; rfl
      · rw [List.getD_eq_getElem?_getD, List.getElem?_set_ne (by omega), ← List.getD_eq_getElem?_getD]
        exact own_pat v h hP hK n j (by omega) hk
    · rw [if_neg hn]
      exact own_pat v h hP hK n j (by omega) hk
def own_acc (B : Nat → Int32) : Nat → Int64
  | 0 => 0
  | t + 1 => own_acc B t ||| (((B t &&& (127 : Int32)).toInt64) <<< ((Int32.ofNat (7 * t)) &&& 0x3f).toInt64)
/-! seven bits a byte -/
theorem own_m127 (x : Int64) : (x &&& (127 : Int64)).toInt = x.toInt % 2 ^ 7 := Jvm.Kit.i64_mask x 127 (k := 7) (by decide) (by decide)
theorem own_low (I : Nat) (v : Int64) : ∃ n : Fin 128, own_g I v = Int32.ofNat n.val := by
  have h : (own_g I v).toInt = _ := Jvm.Kit.i32_of_i64 (x := (((v.toUInt64 >>> (((7 : Int32) * (Int32.ofNat I)) &&& 0x3f).toInt64.toUInt64).toInt64) &&& (127 : Int64))) (by rw [own_m127]; omega) (by rw [own_m127]; omega)
  rw [own_m127] at h
  refine ⟨⟨(own_g I v).toInt.toNat, by omega⟩, Int32.toInt_inj.mp ?_⟩
  rw [Int32.toInt_ofNat_of_lt (show (own_g I v).toInt.toNat < 2 ^ 31 by omega)]
  show (own_g I v).toInt = (((own_g I v).toInt.toNat : Nat) : Int)
  omega
theorem own_hi7 : ∀ n : Fin 128, (nar .byte ((Int32.ofNat n.val ||| (128 : Int32)).toInt8.toInt32) &&& (127 : Int32)) = Int32.ofNat n.val ∧ nar .byte ((Int32.ofNat n.val ||| (128 : Int32)).toInt8.toInt32) < (0 : Int32) := by decide +kernel
theorem own_lo7 : ∀ n : Fin 128, (nar .byte ((Int32.ofNat n.val).toInt8.toInt32) &&& (127 : Int32)) = Int32.ofNat n.val ∧ ¬ (nar .byte ((Int32.ofNat n.val).toInt8.toInt32) < (0 : Int32)) := by decide +kernel
theorem own_bg (I K : Nat) (v : Int64) : (own_b I K v &&& (127 : Int32)) = own_g I v := by
  obtain ⟨n, hn⟩ := own_low I v
  unfold own_b
  rw [hn]
  split
  · exact (own_hi7 n).1
  · exact (own_lo7 n).1
theorem own_neg {I K : Nat} (v : Int64) (h : I + 1 < K) : own_b I K v < (0 : Int32) := by
  obtain ⟨n, hn⟩ := own_low I v
  rw [own_b, hn, if_pos h]
  exact (own_hi7 n).2
theorem own_last {I K : Nat} (v : Int64) (h : ¬ I + 1 < K) : ¬ (own_b I K v < (0 : Int32)) := by
  obtain ⟨n, hn⟩ := own_low I v
  rw [own_b, hn, if_neg h]
  exact (own_lo7 n).2
def own_c (I : Nat) (v : Int64) : Int64 := (((v.toUInt64 >>> (((7 : Int32) * (Int32.ofNat I)) &&& 0x3f).toInt64.toUInt64).toInt64) &&& (127 : Int64))
theorem own_wide (I : Nat) (v : Int64) : (own_g I v).toInt64 = own_c I v := by
  apply Int64.toInt_inj.mp
  rw [Jvm.Kit.i64_of_i32]
  exact Jvm.Kit.i32_of_i64 (x := own_c I v) (by rw [own_c, own_m127]; omega) (by rw [own_c, own_m127]; omega)
theorem own_s7 : ∀ t : Fin 10, ((((7 : Int32) * (Int32.ofNat t.val)) &&& 0x3f).toInt64.toUInt64 % 64).toNat = 7 * t.val := by decide +kernel
theorem own_t7 : ∀ t : Fin 10, ((((Int32.ofNat (7 * t.val)) &&& 0x3f).toInt64).toBitVec.smod 64).toNat = 7 * t.val := by decide +kernel
theorem own_sh (z : Int64) (k : Int32) (n : Nat) (h : ((k &&& 0x3f).toInt64.toUInt64 % 64).toNat = n) : ((z.toUInt64 >>> (k &&& 0x3f).toInt64.toUInt64).toInt64).toBitVec = z.toBitVec >>> n := by
  subst h; rfl
theorem own_cbit {I : Nat} (hI : I < 10) (v : Int64) (i : Nat) : (own_c I v).toBitVec.getLsbD i = (decide (i < 7) && v.toBitVec.getLsbD (7 * I + i)) := by
  have h := own_sh v ((7 : Int32) * (Int32.ofNat I)) (7 * I) (own_s7 ⟨I, hI⟩)
  have e : (127 : Int64).toBitVec = BitVec.ofNat 64 (2 ^ 7 - 1) := by decide
  rw [own_c, Int64.toBitVec_and, h, e, BitVec.getLsbD_and, BitVec.getLsbD_ushiftRight, BitVec.getLsbD_ofNat, Nat.testBit_two_pow_sub_one]
  by_cases q : i < 7
  · have q2 : i < 64 := by omega
    simp [q, q2]
  · simp [q]
theorem own_bits {B : Nat → Int32} {v : Int64} (hB : ∀ j, (B j &&& (127 : Int32)) = own_g j v) : ∀ t, t ≤ 10 → ∀ i, i < 64 → (own_acc B t).toBitVec.getLsbD i = (decide (i < 7 * t) && v.toBitVec.getLsbD i)
  | 0, _, i, _ => by
    rw [own_acc, show (0 : Int64).toBitVec = 0#64 from rfl, BitVec.getLsbD_zero]
    simp
  | t + 1, ht, i, hi => by
    have ih := own_bits hB t (by omega) i hi
    rw [own_acc, hB t, own_wide, Int64.toBitVec_or, BitVec.getLsbD_or, ih, Int64.toBitVec_shiftLeft, BitVec.shiftLeft_eq', own_t7 ⟨t, by omega⟩, BitVec.getLsbD_shiftLeft, own_cbit (by omega)]
    by_cases a : i < 7 * t
    · have b : i < 7 * (t + 1) := by omega
      simp [a, b]
    · by_cases b : i < 7 * (t + 1)
      · have c : i - 7 * t < 7 := by omega
        have d : 7 * t + (i - 7 * t) = i := by omega
        simp [a, b, c, d, hi]
      · have c : ¬ (i - 7 * t < 7) := by omega
        simp [a, b, c]
theorem own_mask : ∀ K : Fin 10, ((((1 : Int64) <<< (((7 : Int32) * (Int32.ofNat K.val)) &&& 0x3f).toInt64) - (1 : Int64))).toBitVec = BitVec.ofNat 64 (2 ^ (7 * K.val) - 1) := by decide +kernel
theorem own_fin9 {B : Nat → Int32} {v : Int64} {K : Nat} (hB : ∀ j, (B j &&& (127 : Int32)) = own_g j v) (hK : K < 10) : lcmpW (own_acc B K) (v &&& (((1 : Int64) <<< (((7 : Int32) * (Int32.ofNat K)) &&& 0x3f).toInt64) - (1 : Int64))) = (0 : Int32) := by
  refine (lw_eq _ _).mpr (Int64.toBitVec_inj.mp (BitVec.eq_of_getLsbD_eq fun i hi => ?_))
  rw [own_bits hB K (by omega) i hi, Int64.toBitVec_and, own_mask ⟨K, hK⟩, BitVec.getLsbD_and, BitVec.getLsbD_ofNat, Nat.testBit_two_pow_sub_one]
  simp [hi, Bool.and_comm]
theorem own_fin10 {B : Nat → Int32} {v : Int64} {K : Nat} (hB : ∀ j, (B j &&& (127 : Int32)) = own_g j v) (hK : K = 10) : lcmpW (own_acc B K) v = (0 : Int32) := by
  refine (lw_eq _ _).mpr (Int64.toBitVec_inj.mp (BitVec.eq_of_getLsbD_eq fun i hi => ?_))
  have b : i < 7 * K := by omega
  rw [own_bits hB K (by omega) i hi]
  simp [b]
theorem own_k9 {K : Nat} (hK : K ≤ 10) (h : (Int32.ofNat K) < (10 : Int32)) : K < 10 := by
  rw [Int32.lt_iff_toInt_lt, Int32.toInt_ofNat_of_lt (by omega), show (10 : Int32).toInt = 10 from rfl] at h
  omega
theorem own_k0 {K : Nat} (hK : K ≤ 10) (h : ¬ ((Int32.ofNat K) < (10 : Int32))) : K = 10 := by
  rw [Int32.lt_iff_toInt_lt, Int32.toInt_ofNat_of_lt (by omega), show (10 : Int32).toInt = 10 from rfl] at h
  omega
theorem d1_0 : decode method_3_code 0 = .ok (.iload_n 2, 1) := by decide +kernel
theorem d1_1 : decode method_3_code 1 = .ok (.iload_n 3, 1) := by decide +kernel
theorem d1_2 : decode method_3_code 2 = .ok (.if_icmp .ge 41, 3) := by decide +kernel
theorem d1_43 : decode method_3_code 43 = .ok (.return_, 1) := by decide +kernel
theorem pn_1 : plainName "com/example/vor/vor/index/DecoderReadNumberPinLaw" = true := by first | (simp [plainName, overriddenIn]; done) | decide +kernel
theorem ef_1 (m : MethodId) (x0 : Addr) (x1 : Int32) (x2 : Int32) (x3 : Int32) (x4 : Int64) : entryFrame m #[(.ref x0), (.int x1), (.int x2), (.int x3), (.long x4)] 7 = mkF m 0 #[.val (.ref x0), .val (.int x1), .val (.int x2), .val (.int x3), .val (.long x4), .second, .unset] [] := by first | (simp [entryFrame, mkF, argsToLocals, Value.category]; done) | rfl
def Q1 (Z : State) (a1 : Addr) (ka : ClassId) (vs : List Value) (P I K : Nat) (q5 : Int64) (h0 : Heap) (n0 : Nat) (v : Option Value) (h : Heap) (L : List Loc) : Prop := v = none ∧ Fr n0 L ∧ h0.size ≤ h.size ∧ Arv Z h a1 ka .byte (16 : Int32) (own_put vs P I K q5) (.int (0 : Int32))
set_option maxRecDepth 65536 in
set_option maxHeartbeats 40000000 in
theorem rm1_t (l : Launch) (Z : State) (a0 : Array Value) (hw : ∀ d ∈ tables_1, d.before a0 Z = true) (ws : List Jvm.Cond) (a1 : Addr) (ka : ClassId) (vs : List Value) (P I K : Nat) (q5 : Int64) (h0 : Heap) (n0 : Nat) (Z0 : n0 ≤ h0.size) (V_a1 : Arv Z h0 a1 ka .byte (16 : Int32) vs (.int (0 : Int32))) (hl : vs.length = 16) (hPn : P ≤ 3) (hIn : I ≤ 9) (hKn : K ≤ 10) (g_a1 : n0 ≤ a1) (ha : ¬ I < K) :
    MetFree l (⟨"com/example/vor/vor/index/DecoderReadNumberPinLaw", "put", "([BIIIJ)V"⟩ : MethodName) (head1 (Jvm.Cond.code (⟨"com/example/vor/vor/index/DecoderReadNumberPinLaw", "put", "([BIIIJ)V"⟩ : MethodName) method_3_code 7 none :: ws) ({ frames := 0, cells := 0, slots := 0, locals := 0 } : Room)) (fun a U => a = #[(.ref a1), (.int (Int32.ofNat P)), (.int (Int32.ofNat I)), (.int (Int32.ofNat K)), (.long q5)] ∧ Z.Warmed39 U.vm ∧ U.heap = h0) (fun _ _ _ _ _ => True) (fun _ U o U' => ∃ v L, o = .returned v ∧ Q1 Z a1 ka vs P I K q5 h0 n0 v U'.heap L ∧ FrameEnd U o U' L ({ frames := 0, cells := 0, slots := 0, locals := 0 } : Room).cells ({ frames := 0, cells := 0, slots := 0, locals := 0 } : Room).slots) := by
  refine MetFree.of_bodySF (plainFor_of_name pn_1) hisR ?_
  intro p e s m args below meth c s₁ Bd hml0 hP hK
  obtain ⟨rfl, hZ, hh⟩ := hP
  have hx := Bd.exec
  have hby := Bd.bytes
  have hml : c.maxLocals = 7 := hml0
  have hown : s.vm.findClass "com/example/vor/vor/index/DecoderReadNumberPinLaw" = some m.cls := findClass_of_methodNamed Bd.named
  have hnm := (name_of_methodNamed Bd.named Bd.method).1
  have X0 : Stand p l e ({ frames := 0, cells := 0, slots := 0, locals := 0 } : Room) s m #[(.ref a1), (.int (Int32.ofNat P)), (.int (Int32.ofNat I)), (.int (Int32.ofNat K)), (.long q5)] below meth c s₁ [] 0 0 := Stand.of_body Bd
  have e0 : s₁.heap = h0 := by rw [← hh, Bd.state]; rfl
  have N0 := Fr.nil n0
  have hc2 := own_nlt ha (by omega)
  have pre0 : ∀ t, Steps p.tables e below (s₁.setTop (mkF m 0 #[.val (.ref a1), .val (.int (Int32.ofNat P)), .val (.int (Int32.ofNat I)), .val (.int (Int32.ofNat K)), .val (.long q5), .second, .unset] [])) t → Steps p.tables e below (s₁.setTop (entryFrame m #[(.ref a1), (.int (Int32.ofNat P)), (.int (Int32.ofNat I)), (.int (Int32.ofNat K)), (.long q5)] 7)) t := fun t k => castTop (ef_1 m a1 (Int32.ofNat P) (Int32.ofNat I) (Int32.ofNat K) q5) k
  obtain ⟨fs, hr, hrun, hended, hW, hsame⟩ := X0.leave (v := none) (fun _ => rfl)
  refine ⟨_, _, pre0 _ ?_, hrun, hended, _, _, rfl, ?_, ⟨_, rfl⟩, hW, hsame.mono (by decide) (by decide)⟩
  · show Steps p.tables e below (s₁.setTop (mkF m 0 #[.val (.ref a1), .val (.int (Int32.ofNat P)), .val (.int (Int32.ofNat I)), .val (.int (Int32.ofNat K)), .val (.long q5), .second, .unset] [])) _
    refine XS.iloadN X0.here hx rfl (hb hby d1_0) rfl ?_
    show Steps p.tables e below (s₁.setTop (mkF m 1 #[.val (.ref a1), .val (.int (Int32.ofNat P)), .val (.int (Int32.ofNat I)), .val (.int (Int32.ofNat K)), .val (.long q5), .second, .unset] [(.int (Int32.ofNat I))])) _
    refine XS.iloadN X0.here hx rfl (hb hby d1_1) rfl ?_
    show Steps p.tables e below (s₁.setTop (mkF m 2 #[.val (.ref a1), .val (.int (Int32.ofNat P)), .val (.int (Int32.ofNat I)), .val (.int (Int32.ofNat K)), .val (.long q5), .second, .unset] [(.int (Int32.ofNat K)), (.int (Int32.ofNat I))])) _
    refine XS.icmpYes X0.here hx rfl (pc0 := 2) (pc' := 43) rfl (hb hby d1_2) rfl (flt hc2).2.1 (by decide) (by decide) ?_
    show Steps p.tables e below (s₁.setTop (mkF m 43 #[.val (.ref a1), .val (.int (Int32.ofNat P)), .val (.int (Int32.ofNat I)), .val (.int (Int32.ofNat K)), .val (.long q5), .second, .unset] [])) _
    exact X0.returnOut hx Bd.returns (hb hby d1_43) hr
  · show Q1 Z a1 ka vs P I K q5 h0 n0 _ s₁.heap _
    rw [e0]
    exact ⟨rfl, N0, Nat.le_refl _, by rw [own_put, if_neg ha]; exact V_a1⟩
theorem d1_5 : decode method_3_code 5 = .ok (.lload 4, 2) := by decide +kernel
theorem d1_7 : decode method_3_code 7 = .ok (.bipush 7, 2) := by decide +kernel
theorem d1_9 : decode method_3_code 9 = .ok (.iload_n 2, 1) := by decide +kernel
theorem d1_10 : decode method_3_code 10 = .ok (.imul, 1) := by decide +kernel
theorem d1_11 : decode method_3_code 11 = .ok (.lushr, 1) := by decide +kernel
theorem d1_12 : decode method_3_code 12 = .ok (.ldc2_w 27, 3) := by decide +kernel
theorem d1_15 : decode method_3_code 15 = .ok (.land, 1) := by decide +kernel
theorem d1_16 : decode method_3_code 16 = .ok (.l2i, 1) := by decide +kernel
theorem d1_17 : decode method_3_code 17 = .ok (.istore 6, 2) := by decide +kernel
theorem d1_19 : decode method_3_code 19 = .ok (.aload_n 0, 1) := by decide +kernel
theorem d1_20 : decode method_3_code 20 = .ok (.iload_n 1, 1) := by decide +kernel
theorem d1_21 : decode method_3_code 21 = .ok (.iload_n 2, 1) := by decide +kernel
theorem d1_22 : decode method_3_code 22 = .ok (.iadd, 1) := by decide +kernel
theorem d1_23 : decode method_3_code 23 = .ok (.iload_n 2, 1) := by decide +kernel
theorem d1_24 : decode method_3_code 24 = .ok (.iload_n 3, 1) := by decide +kernel
theorem d1_25 : decode method_3_code 25 = .ok (.iconst 1, 1) := by decide +kernel
theorem d1_26 : decode method_3_code 26 = .ok (.isub, 1) := by decide +kernel
theorem d1_27 : decode method_3_code 27 = .ok (.if_icmp .ge 12, 3) := by decide +kernel
theorem d1_30 : decode method_3_code 30 = .ok (.iload 6, 2) := by decide +kernel
theorem d1_32 : decode method_3_code 32 = .ok (.sipush 128, 3) := by decide +kernel
theorem d1_35 : decode method_3_code 35 = .ok (.ior, 1) := by decide +kernel
theorem d1_36 : decode method_3_code 36 = .ok (.goto 5, 3) := by decide +kernel
theorem d1_41 : decode method_3_code 41 = .ok (.i2b, 1) := by decide +kernel
theorem d1_42 : decode method_3_code 42 = .ok (.bastore, 1) := by decide +kernel
set_option maxRecDepth 65536 in
set_option maxHeartbeats 40000000 in
theorem rm1_ff (l : Launch) (Z : State) (a0 : Array Value) (hw : ∀ d ∈ tables_1, d.before a0 Z = true) (ws : List Jvm.Cond) (a1 : Addr) (ka : ClassId) (vs : List Value) (P I K : Nat) (q5 : Int64) (h0 : Heap) (n0 : Nat) (Z0 : n0 ≤ h0.size) (V_a1 : Arv Z h0 a1 ka .byte (16 : Int32) vs (.int (0 : Int32))) (hl : vs.length = 16) (hPn : P ≤ 3) (hIn : I ≤ 9) (hKn : K ≤ 10) (g_a1 : n0 ≤ a1) (ha : I < K) (hbb : I + 1 < K) :
    MetFree l (⟨"com/example/vor/vor/index/DecoderReadNumberPinLaw", "put", "([BIIIJ)V"⟩ : MethodName) (head1 (Jvm.Cond.code (⟨"com/example/vor/vor/index/DecoderReadNumberPinLaw", "put", "([BIIIJ)V"⟩ : MethodName) method_3_code 7 none :: ws) ({ frames := 0, cells := 0, slots := 0, locals := 0 } : Room)) (fun a U => a = #[(.ref a1), (.int (Int32.ofNat P)), (.int (Int32.ofNat I)), (.int (Int32.ofNat K)), (.long q5)] ∧ Z.Warmed39 U.vm ∧ U.heap = h0) (fun _ _ _ _ _ => True) (fun _ U o U' => ∃ v L, o = .returned v ∧ Q1 Z a1 ka vs P I K q5 h0 n0 v U'.heap L ∧ FrameEnd U o U' L ({ frames := 0, cells := 0, slots := 0, locals := 0 } : Room).cells ({ frames := 0, cells := 0, slots := 0, locals := 0 } : Room).slots) := by
  refine MetFree.of_bodySF (plainFor_of_name pn_1) hisR ?_
  intro p e s m args below meth c s₁ Bd hml0 hP hK
  obtain ⟨rfl, hZ, hh⟩ := hP
  have hx := Bd.exec
  have hby := Bd.bytes
  have hml : c.maxLocals = 7 := hml0
  have hown : s.vm.findClass "com/example/vor/vor/index/DecoderReadNumberPinLaw" = some m.cls := findClass_of_methodNamed Bd.named
  have hnm := (name_of_methodNamed Bd.named Bd.method).1
  have X0 : Stand p l e ({ frames := 0, cells := 0, slots := 0, locals := 0 } : Room) s m #[(.ref a1), (.int (Int32.ofNat P)), (.int (Int32.ofNat I)), (.int (Int32.ofNat K)), (.long q5)] below meth c s₁ [] 0 0 := Stand.of_body Bd
  have e0 : s₁.heap = h0 := by rw [← hh, Bd.state]; rfl
  have N0 := Fr.nil n0
  have hc2 := own_lt ha (by omega)
  have hc27 : (Int32.ofNat I) < ((Int32.ofNat K) - (1 : Int32)) := by
    rw [own_less (by omega) (by omega)]
    exact own_lt (by omega) (by omega)
  have hj : (Int32.ofNat P) + (Int32.ofNat I) = Int32.ofNat (P + I) := (Int32.ofNat_add P I).symm
  obtain ⟨cl_a1, Ar_a1, q_a1, S_a1, N_a1, H_a1, G_a1⟩ := V_a1
  have hin42 : ¬ (((Int32.ofNat P) + (Int32.ofNat I)) < 0 ∨ cl_a1.slots.size ≤ ((Int32.ofNat P) + (Int32.ofNat I)).toNatClampNeg) := inb_of S_a1 (by rw [hj]; exact ⟨own_nn (by omega), own_lt (i := P + I) (n := 16) (by omega) (by omega)⟩)
  have pre0 : ∀ t, Steps p.tables e below (s₁.setTop (mkF m 0 #[.val (.ref a1), .val (.int (Int32.ofNat P)), .val (.int (Int32.ofNat I)), .val (.int (Int32.ofNat K)), .val (.long q5), .second, .unset] [])) t → Steps p.tables e below (s₁.setTop (entryFrame m #[(.ref a1), (.int (Int32.ofNat P)), (.int (Int32.ofNat I)), (.int (Int32.ofNat K)), (.long q5)] 7)) t := fun t k => castTop (ef_1 m a1 (Int32.ofNat P) (Int32.ofNat I) (Int32.ofNat K) q5) k
  obtain ⟨T6, h6, X6, e6, W6, st6⟩ := stB X0 hx hZ e0 Ar_a1 (j := ((Int32.ofNat P) + (Int32.ofNat I))) hin42 (g := (mkF m 42 #[.val (.ref a1), .val (.int (Int32.ofNat P)), .val (.int (Int32.ofNat I)), .val (.int (Int32.ofNat K)), .val (.long q5), .second, .val (.int (own_g I q5))] [(.int (((own_g I q5) ||| (128 : Int32)).toInt8.toInt32)), (.int ((Int32.ofNat P) + (Int32.ofNat I))), (.ref a1)])) rfl rfl (hb hby d1_42)
  have N6 := Fr.snoc X6 N0 g_a1
  have K6 : Keep h0 h6 [a1] := (Keep.refl h0 [a1]).wr W6 (Or.inl (List.mem_of_getElem? (i := 0) rfl))
  have V6 := Arv.set Ar_a1 q_a1 S_a1 N_a1 H_a1 G_a1 (fits_nar_byte _) W6 (P + I) (by rw [hj, own_n32 (by omega)]) (by omega)
  obtain ⟨fs, hr, hrun, hended, hW, hsame⟩ := X6.leave (v := none) (fun _ => rfl)
  refine ⟨_, _, pre0 _ ?_, hrun, hended, _, _, rfl, ?_, ⟨_, rfl⟩, hW, hsame.mono (by decide) (by decide)⟩
  · show Steps p.tables e below (s₁.setTop (mkF m 0 #[.val (.ref a1), .val (.int (Int32.ofNat P)), .val (.int (Int32.ofNat I)), .val (.int (Int32.ofNat K)), .val (.long q5), .second, .unset] [])) _
    refine XS.iloadN X0.here hx rfl (hb hby d1_0) rfl ?_
    show Steps p.tables e below (s₁.setTop (mkF m 1 #[.val (.ref a1), .val (.int (Int32.ofNat P)), .val (.int (Int32.ofNat I)), .val (.int (Int32.ofNat K)), .val (.long q5), .second, .unset] [(.int (Int32.ofNat I))])) _
    refine XS.iloadN X0.here hx rfl (hb hby d1_1) rfl ?_
    show Steps p.tables e below (s₁.setTop (mkF m 2 #[.val (.ref a1), .val (.int (Int32.ofNat P)), .val (.int (Int32.ofNat I)), .val (.int (Int32.ofNat K)), .val (.long q5), .second, .unset] [(.int (Int32.ofNat K)), (.int (Int32.ofNat I))])) _
    refine XS.icmpNo X0.here hx rfl (hb hby d1_2) rfl (tlt hc2).2.1 ?_
    show Steps p.tables e below (s₁.setTop (mkF m 5 #[.val (.ref a1), .val (.int (Int32.ofNat P)), .val (.int (Int32.ofNat I)), .val (.int (Int32.ofNat K)), .val (.long q5), .second, .unset] [])) _
    refine XS.lload X0.here hx rfl (hb hby d1_5) rfl ?_
    show Steps p.tables e below (s₁.setTop (mkF m 7 #[.val (.ref a1), .val (.int (Int32.ofNat P)), .val (.int (Int32.ofNat I)), .val (.int (Int32.ofNat K)), .val (.long q5), .second, .unset] [(.long q5)])) _
    refine XS.bipush X0.here hx rfl (hb hby d1_7) ?_
    show Steps p.tables e below (s₁.setTop (mkF m 9 #[.val (.ref a1), .val (.int (Int32.ofNat P)), .val (.int (Int32.ofNat I)), .val (.int (Int32.ofNat K)), .val (.long q5), .second, .unset] [(.int (7 : Int32)), (.long q5)])) _
    refine XS.iloadN X0.here hx rfl (hb hby d1_9) rfl ?_
    show Steps p.tables e below (s₁.setTop (mkF m 10 #[.val (.ref a1), .val (.int (Int32.ofNat P)), .val (.int (Int32.ofNat I)), .val (.int (Int32.ofNat K)), .val (.long q5), .second, .unset] [(.int (Int32.ofNat I)), (.int (7 : Int32)), (.long q5)])) _
    refine XS.imul X0.here hx rfl (hb hby d1_10) rfl ?_
    show Steps p.tables e below (s₁.setTop (mkF m 11 #[.val (.ref a1), .val (.int (Int32.ofNat P)), .val (.int (Int32.ofNat I)), .val (.int (Int32.ofNat K)), .val (.long q5), .second, .unset] [(.int ((7 : Int32) * (Int32.ofNat I))), (.long q5)])) _
    refine XS.lushr X0.here hx rfl (hb hby d1_11) rfl ?_
    show Steps p.tables e below (s₁.setTop (mkF m 12 #[.val (.ref a1), .val (.int (Int32.ofNat P)), .val (.int (Int32.ofNat I)), .val (.int (Int32.ofNat K)), .val (.long q5), .second, .unset] [(.long ((q5.toUInt64 >>> (((7 : Int32) * (Int32.ofNat I)) &&& 0x3f).toInt64.toUInt64).toInt64))])) _
    refine X0.ldc2Long hx hown (mvT hZ (hw _ (List.mem_of_getElem? (i := 6) rfl))) (g := (mkF m 12 #[.val (.ref a1), .val (.int (Int32.ofNat P)), .val (.int (Int32.ofNat I)), .val (.int (Int32.ofNat K)), .val (.long q5), .second, .unset] [(.long ((q5.toUInt64 >>> (((7 : Int32) * (Int32.ofNat I)) &&& 0x3f).toInt64.toUInt64).toInt64))])) rfl (hb hby d1_12) _ ?_
    show Steps p.tables e below (s₁.setTop (mkF m 15 #[.val (.ref a1), .val (.int (Int32.ofNat P)), .val (.int (Int32.ofNat I)), .val (.int (Int32.ofNat K)), .val (.long q5), .second, .unset] [(.long (127 : Int64)), (.long ((q5.toUInt64 >>> (((7 : Int32) * (Int32.ofNat I)) &&& 0x3f).toInt64.toUInt64).toInt64))])) _
    refine XS.land X0.here hx rfl (hb hby d1_15) rfl ?_
    show Steps p.tables e below (s₁.setTop (mkF m 16 #[.val (.ref a1), .val (.int (Int32.ofNat P)), .val (.int (Int32.ofNat I)), .val (.int (Int32.ofNat K)), .val (.long q5), .second, .unset] [(.long (((q5.toUInt64 >>> (((7 : Int32) * (Int32.ofNat I)) &&& 0x3f).toInt64.toUInt64).toInt64) &&& (127 : Int64)))])) _
    refine XS.l2i X0.here hx rfl (hb hby d1_16) rfl ?_
    show Steps p.tables e below (s₁.setTop (mkF m 17 #[.val (.ref a1), .val (.int (Int32.ofNat P)), .val (.int (Int32.ofNat I)), .val (.int (Int32.ofNat K)), .val (.long q5), .second, .unset] [(.int (own_g I q5))])) _
    refine XS.istore X0.here hx rfl (hb hby d1_17) rfl (l' := #[.val (.ref a1), .val (.int (Int32.ofNat P)), .val (.int (Int32.ofNat I)), .val (.int (Int32.ofNat K)), .val (.long q5), .second, .val (.int (own_g I q5))]) rfl ?_
    show Steps p.tables e below (s₁.setTop (mkF m 19 #[.val (.ref a1), .val (.int (Int32.ofNat P)), .val (.int (Int32.ofNat I)), .val (.int (Int32.ofNat K)), .val (.long q5), .second, .val (.int (own_g I q5))] [])) _
    refine XS.aloadN X0.here hx rfl (hb hby d1_19) rfl rfl ?_
    show Steps p.tables e below (s₁.setTop (mkF m 20 #[.val (.ref a1), .val (.int (Int32.ofNat P)), .val (.int (Int32.ofNat I)), .val (.int (Int32.ofNat K)), .val (.long q5), .second, .val (.int (own_g I q5))] [(.ref a1)])) _
    refine XS.iloadN X0.here hx rfl (hb hby d1_20) rfl ?_
    show Steps p.tables e below (s₁.setTop (mkF m 21 #[.val (.ref a1), .val (.int (Int32.ofNat P)), .val (.int (Int32.ofNat I)), .val (.int (Int32.ofNat K)), .val (.long q5), .second, .val (.int (own_g I q5))] [(.int (Int32.ofNat P)), (.ref a1)])) _
    refine XS.iloadN X0.here hx rfl (hb hby d1_21) rfl ?_
    show Steps p.tables e below (s₁.setTop (mkF m 22 #[.val (.ref a1), .val (.int (Int32.ofNat P)), .val (.int (Int32.ofNat I)), .val (.int (Int32.ofNat K)), .val (.long q5), .second, .val (.int (own_g I q5))] [(.int (Int32.ofNat I)), (.int (Int32.ofNat P)), (.ref a1)])) _
    refine XS.iadd X0.here hx rfl (hb hby d1_22) rfl ?_
    show Steps p.tables e below (s₁.setTop (mkF m 23 #[.val (.ref a1), .val (.int (Int32.ofNat P)), .val (.int (Int32.ofNat I)), .val (.int (Int32.ofNat K)), .val (.long q5), .second, .val (.int (own_g I q5))] [(.int ((Int32.ofNat P) + (Int32.ofNat I))), (.ref a1)])) _
    refine XS.iloadN X0.here hx rfl (hb hby d1_23) rfl ?_
    show Steps p.tables e below (s₁.setTop (mkF m 24 #[.val (.ref a1), .val (.int (Int32.ofNat P)), .val (.int (Int32.ofNat I)), .val (.int (Int32.ofNat K)), .val (.long q5), .second, .val (.int (own_g I q5))] [(.int (Int32.ofNat I)), (.int ((Int32.ofNat P) + (Int32.ofNat I))), (.ref a1)])) _
    refine XS.iloadN X0.here hx rfl (hb hby d1_24) rfl ?_
    show Steps p.tables e below (s₁.setTop (mkF m 25 #[.val (.ref a1), .val (.int (Int32.ofNat P)), .val (.int (Int32.ofNat I)), .val (.int (Int32.ofNat K)), .val (.long q5), .second, .val (.int (own_g I q5))] [(.int (Int32.ofNat K)), (.int (Int32.ofNat I)), (.int ((Int32.ofNat P) + (Int32.ofNat I))), (.ref a1)])) _
    refine XS.iconst X0.here hx rfl (hb hby d1_25) ?_
    show Steps p.tables e below (s₁.setTop (mkF m 26 #[.val (.ref a1), .val (.int (Int32.ofNat P)), .val (.int (Int32.ofNat I)), .val (.int (Int32.ofNat K)), .val (.long q5), .second, .val (.int (own_g I q5))] [(.int (1 : Int32)), (.int (Int32.ofNat K)), (.int (Int32.ofNat I)), (.int ((Int32.ofNat P) + (Int32.ofNat I))), (.ref a1)])) _
    refine XS.isub X0.here hx rfl (hb hby d1_26) rfl ?_
    show Steps p.tables e below (s₁.setTop (mkF m 27 #[.val (.ref a1), .val (.int (Int32.ofNat P)), .val (.int (Int32.ofNat I)), .val (.int (Int32.ofNat K)), .val (.long q5), .second, .val (.int (own_g I q5))] [(.int ((Int32.ofNat K) - (1 : Int32))), (.int (Int32.ofNat I)), (.int ((Int32.ofNat P) + (Int32.ofNat I))), (.ref a1)])) _
    refine XS.icmpNo X0.here hx rfl (hb hby d1_27) rfl (tlt hc27).2.1 ?_
    show Steps p.tables e below (s₁.setTop (mkF m 30 #[.val (.ref a1), .val (.int (Int32.ofNat P)), .val (.int (Int32.ofNat I)), .val (.int (Int32.ofNat K)), .val (.long q5), .second, .val (.int (own_g I q5))] [(.int ((Int32.ofNat P) + (Int32.ofNat I))), (.ref a1)])) _
    refine XS.iload X0.here hx rfl (hb hby d1_30) rfl ?_
    show Steps p.tables e below (s₁.setTop (mkF m 32 #[.val (.ref a1), .val (.int (Int32.ofNat P)), .val (.int (Int32.ofNat I)), .val (.int (Int32.ofNat K)), .val (.long q5), .second, .val (.int (own_g I q5))] [(.int (own_g I q5)), (.int ((Int32.ofNat P) + (Int32.ofNat I))), (.ref a1)])) _
    refine XS.sipush X0.here hx rfl (hb hby d1_32) ?_
    show Steps p.tables e below (s₁.setTop (mkF m 35 #[.val (.ref a1), .val (.int (Int32.ofNat P)), .val (.int (Int32.ofNat I)), .val (.int (Int32.ofNat K)), .val (.long q5), .second, .val (.int (own_g I q5))] [(.int (128 : Int32)), (.int (own_g I q5)), (.int ((Int32.ofNat P) + (Int32.ofNat I))), (.ref a1)])) _
    refine XS.ior X0.here hx rfl (hb hby d1_35) rfl ?_
    show Steps p.tables e below (s₁.setTop (mkF m 36 #[.val (.ref a1), .val (.int (Int32.ofNat P)), .val (.int (Int32.ofNat I)), .val (.int (Int32.ofNat K)), .val (.long q5), .second, .val (.int (own_g I q5))] [(.int ((own_g I q5) ||| (128 : Int32))), (.int ((Int32.ofNat P) + (Int32.ofNat I))), (.ref a1)])) _
    refine XS.goto X0.here hx rfl (pc0 := 36) (pc' := 41) rfl (hb hby d1_36) (by decide) (by decide) ?_
    show Steps p.tables e below (s₁.setTop (mkF m 41 #[.val (.ref a1), .val (.int (Int32.ofNat P)), .val (.int (Int32.ofNat I)), .val (.int (Int32.ofNat K)), .val (.long q5), .second, .val (.int (own_g I q5))] [(.int ((own_g I q5) ||| (128 : Int32))), (.int ((Int32.ofNat P) + (Int32.ofNat I))), (.ref a1)])) _
    refine XS.i2b X0.here hx rfl (hb hby d1_41) rfl ?_
    show Steps p.tables e below (s₁.setTop (mkF m 42 #[.val (.ref a1), .val (.int (Int32.ofNat P)), .val (.int (Int32.ofNat I)), .val (.int (Int32.ofNat K)), .val (.long q5), .second, .val (.int (own_g I q5))] [(.int (((own_g I q5) ||| (128 : Int32)).toInt8.toInt32)), (.int ((Int32.ofNat P) + (Int32.ofNat I))), (.ref a1)])) _
    refine st6 _ ?_
    show Steps p.tables e below (T6.setTop (mkF m 43 #[.val (.ref a1), .val (.int (Int32.ofNat P)), .val (.int (Int32.ofNat I)), .val (.int (Int32.ofNat K)), .val (.long q5), .second, .val (.int (own_g I q5))] [])) _
    exact X6.returnOut hx Bd.returns (hb hby d1_43) hr
  · show Q1 Z a1 ka vs P I K q5 h0 n0 _ T6.heap _
    rw [e6]
    exact ⟨rfl, N6, K6.1, by rw [own_put, if_pos ha, own_b, if_pos hbb]; exact V6⟩
theorem d1_39 : decode method_3_code 39 = .ok (.iload 6, 2) := by decide +kernel
set_option maxRecDepth 65536 in
set_option maxHeartbeats 40000000 in
theorem rm1_ft (l : Launch) (Z : State) (a0 : Array Value) (hw : ∀ d ∈ tables_1, d.before a0 Z = true) (ws : List Jvm.Cond) (a1 : Addr) (ka : ClassId) (vs : List Value) (P I K : Nat) (q5 : Int64) (h0 : Heap) (n0 : Nat) (Z0 : n0 ≤ h0.size) (V_a1 : Arv Z h0 a1 ka .byte (16 : Int32) vs (.int (0 : Int32))) (hl : vs.length = 16) (hPn : P ≤ 3) (hIn : I ≤ 9) (hKn : K ≤ 10) (g_a1 : n0 ≤ a1) (ha : I < K) (hbb : ¬ I + 1 < K) :
    MetFree l (⟨"com/example/vor/vor/index/DecoderReadNumberPinLaw", "put", "([BIIIJ)V"⟩ : MethodName) (head1 (Jvm.Cond.code (⟨"com/example/vor/vor/index/DecoderReadNumberPinLaw", "put", "([BIIIJ)V"⟩ : MethodName) method_3_code 7 none :: ws) ({ frames := 0, cells := 0, slots := 0, locals := 0 } : Room)) (fun a U => a = #[(.ref a1), (.int (Int32.ofNat P)), (.int (Int32.ofNat I)), (.int (Int32.ofNat K)), (.long q5)] ∧ Z.Warmed39 U.vm ∧ U.heap = h0) (fun _ _ _ _ _ => True) (fun _ U o U' => ∃ v L, o = .returned v ∧ Q1 Z a1 ka vs P I K q5 h0 n0 v U'.heap L ∧ FrameEnd U o U' L ({ frames := 0, cells := 0, slots := 0, locals := 0 } : Room).cells ({ frames := 0, cells := 0, slots := 0, locals := 0 } : Room).slots) := by
  refine MetFree.of_bodySF (plainFor_of_name pn_1) hisR ?_
  intro p e s m args below meth c s₁ Bd hml0 hP hK
  obtain ⟨rfl, hZ, hh⟩ := hP
  have hx := Bd.exec
  have hby := Bd.bytes
  have hml : c.maxLocals = 7 := hml0
  have hown : s.vm.findClass "com/example/vor/vor/index/DecoderReadNumberPinLaw" = some m.cls := findClass_of_methodNamed Bd.named
  have hnm := (name_of_methodNamed Bd.named Bd.method).1
  have X0 : Stand p l e ({ frames := 0, cells := 0, slots := 0, locals := 0 } : Room) s m #[(.ref a1), (.int (Int32.ofNat P)), (.int (Int32.ofNat I)), (.int (Int32.ofNat K)), (.long q5)] below meth c s₁ [] 0 0 := Stand.of_body Bd
  have e0 : s₁.heap = h0 := by rw [← hh, Bd.state]; rfl
  have N0 := Fr.nil n0
  have hc2 := own_lt ha (by omega)
  have hc27 : ¬ ((Int32.ofNat I) < ((Int32.ofNat K) - (1 : Int32))) := by
    rw [own_less (by omega) (by omega)]
    exact own_nlt (by omega) (by omega)
  have hj : (Int32.ofNat P) + (Int32.ofNat I) = Int32.ofNat (P + I) := (Int32.ofNat_add P I).symm
  obtain ⟨cl_a1, Ar_a1, q_a1, S_a1, N_a1, H_a1, G_a1⟩ := V_a1
  have hin42 : ¬ (((Int32.ofNat P) + (Int32.ofNat I)) < 0 ∨ cl_a1.slots.size ≤ ((Int32.ofNat P) + (Int32.ofNat I)).toNatClampNeg) := inb_of S_a1 (by rw [hj]; exact ⟨own_nn (by omega), own_lt (i := P + I) (n := 16) (by omega) (by omega)⟩)
  have pre0 : ∀ t, Steps p.tables e below (s₁.setTop (mkF m 0 #[.val (.ref a1), .val (.int (Int32.ofNat P)), .val (.int (Int32.ofNat I)), .val (.int (Int32.ofNat K)), .val (.long q5), .second, .unset] [])) t → Steps p.tables e below (s₁.setTop (entryFrame m #[(.ref a1), (.int (Int32.ofNat P)), (.int (Int32.ofNat I)), (.int (Int32.ofNat K)), (.long q5)] 7)) t := fun t k => castTop (ef_1 m a1 (Int32.ofNat P) (Int32.ofNat I) (Int32.ofNat K) q5) k
  obtain ⟨T6, h6, X6, e6, W6, st6⟩ := stB X0 hx hZ e0 Ar_a1 (j := ((Int32.ofNat P) + (Int32.ofNat I))) hin42 (g := (mkF m 42 #[.val (.ref a1), .val (.int (Int32.ofNat P)), .val (.int (Int32.ofNat I)), .val (.int (Int32.ofNat K)), .val (.long q5), .second, .val (.int (own_g I q5))] [(.int ((own_g I q5).toInt8.toInt32)), (.int ((Int32.ofNat P) + (Int32.ofNat I))), (.ref a1)])) rfl rfl (hb hby d1_42)
  have N6 := Fr.snoc X6 N0 g_a1
  have K6 : Keep h0 h6 [a1] := (Keep.refl h0 [a1]).wr W6 (Or.inl (List.mem_of_getElem? (i := 0) rfl))
  have V6 := Arv.set Ar_a1 q_a1 S_a1 N_a1 H_a1 G_a1 (fits_nar_byte _) W6 (P + I) (by rw [hj, own_n32 (by omega)]) (by omega)
  obtain ⟨fs, hr, hrun, hended, hW, hsame⟩ := X6.leave (v := none) (fun _ => rfl)
  refine ⟨_, _, pre0 _ ?_, hrun, hended, _, _, rfl, ?_, ⟨_, rfl⟩, hW, hsame.mono (by decide) (by decide)⟩
  · show Steps p.tables e below (s₁.setTop (mkF m 0 #[.val (.ref a1), .val (.int (Int32.ofNat P)), .val (.int (Int32.ofNat I)), .val (.int (Int32.ofNat K)), .val (.long q5), .second, .unset] [])) _
    refine XS.iloadN X0.here hx rfl (hb hby d1_0) rfl ?_
    show Steps p.tables e below (s₁.setTop (mkF m 1 #[.val (.ref a1), .val (.int (Int32.ofNat P)), .val (.int (Int32.ofNat I)), .val (.int (Int32.ofNat K)), .val (.long q5), .second, .unset] [(.int (Int32.ofNat I))])) _
    refine XS.iloadN X0.here hx rfl (hb hby d1_1) rfl ?_
    show Steps p.tables e below (s₁.setTop (mkF m 2 #[.val (.ref a1), .val (.int (Int32.ofNat P)), .val (.int (Int32.ofNat I)), .val (.int (Int32.ofNat K)), .val (.long q5), .second, .unset] [(.int (Int32.ofNat K)), (.int (Int32.ofNat I))])) _
    refine XS.icmpNo X0.here hx rfl (hb hby d1_2) rfl (tlt hc2).2.1 ?_
    show Steps p.tables e below (s₁.setTop (mkF m 5 #[.val (.ref a1), .val (.int (Int32.ofNat P)), .val (.int (Int32.ofNat I)), .val (.int (Int32.ofNat K)), .val (.long q5), .second, .unset] [])) _
    refine XS.lload X0.here hx rfl (hb hby d1_5) rfl ?_
    show Steps p.tables e below (s₁.setTop (mkF m 7 #[.val (.ref a1), .val (.int (Int32.ofNat P)), .val (.int (Int32.ofNat I)), .val (.int (Int32.ofNat K)), .val (.long q5), .second, .unset] [(.long q5)])) _
    refine XS.bipush X0.here hx rfl (hb hby d1_7) ?_
    show Steps p.tables e below (s₁.setTop (mkF m 9 #[.val (.ref a1), .val (.int (Int32.ofNat P)), .val (.int (Int32.ofNat I)), .val (.int (Int32.ofNat K)), .val (.long q5), .second, .unset] [(.int (7 : Int32)), (.long q5)])) _
    refine XS.iloadN X0.here hx rfl (hb hby d1_9) rfl ?_
    show Steps p.tables e below (s₁.setTop (mkF m 10 #[.val (.ref a1), .val (.int (Int32.ofNat P)), .val (.int (Int32.ofNat I)), .val (.int (Int32.ofNat K)), .val (.long q5), .second, .unset] [(.int (Int32.ofNat I)), (.int (7 : Int32)), (.long q5)])) _
    refine XS.imul X0.here hx rfl (hb hby d1_10) rfl ?_
    show Steps p.tables e below (s₁.setTop (mkF m 11 #[.val (.ref a1), .val (.int (Int32.ofNat P)), .val (.int (Int32.ofNat I)), .val (.int (Int32.ofNat K)), .val (.long q5), .second, .unset] [(.int ((7 : Int32) * (Int32.ofNat I))), (.long q5)])) _
    refine XS.lushr X0.here hx rfl (hb hby d1_11) rfl ?_
    show Steps p.tables e below (s₁.setTop (mkF m 12 #[.val (.ref a1), .val (.int (Int32.ofNat P)), .val (.int (Int32.ofNat I)), .val (.int (Int32.ofNat K)), .val (.long q5), .second, .unset] [(.long ((q5.toUInt64 >>> (((7 : Int32) * (Int32.ofNat I)) &&& 0x3f).toInt64.toUInt64).toInt64))])) _
    refine X0.ldc2Long hx hown (mvT hZ (hw _ (List.mem_of_getElem? (i := 6) rfl))) (g := (mkF m 12 #[.val (.ref a1), .val (.int (Int32.ofNat P)), .val (.int (Int32.ofNat I)), .val (.int (Int32.ofNat K)), .val (.long q5), .second, .unset] [(.long ((q5.toUInt64 >>> (((7 : Int32) * (Int32.ofNat I)) &&& 0x3f).toInt64.toUInt64).toInt64))])) rfl (hb hby d1_12) _ ?_
    show Steps p.tables e below (s₁.setTop (mkF m 15 #[.val (.ref a1), .val (.int (Int32.ofNat P)), .val (.int (Int32.ofNat I)), .val (.int (Int32.ofNat K)), .val (.long q5), .second, .unset] [(.long (127 : Int64)), (.long ((q5.toUInt64 >>> (((7 : Int32) * (Int32.ofNat I)) &&& 0x3f).toInt64.toUInt64).toInt64))])) _
    refine XS.land X0.here hx rfl (hb hby d1_15) rfl ?_
    show Steps p.tables e below (s₁.setTop (mkF m 16 #[.val (.ref a1), .val (.int (Int32.ofNat P)), .val (.int (Int32.ofNat I)), .val (.int (Int32.ofNat K)), .val (.long q5), .second, .unset] [(.long (((q5.toUInt64 >>> (((7 : Int32) * (Int32.ofNat I)) &&& 0x3f).toInt64.toUInt64).toInt64) &&& (127 : Int64)))])) _
    refine XS.l2i X0.here hx rfl (hb hby d1_16) rfl ?_
    show Steps p.tables e below (s₁.setTop (mkF m 17 #[.val (.ref a1), .val (.int (Int32.ofNat P)), .val (.int (Int32.ofNat I)), .val (.int (Int32.ofNat K)), .val (.long q5), .second, .unset] [(.int (own_g I q5))])) _
    refine XS.istore X0.here hx rfl (hb hby d1_17) rfl (l' := #[.val (.ref a1), .val (.int (Int32.ofNat P)), .val (.int (Int32.ofNat I)), .val (.int (Int32.ofNat K)), .val (.long q5), .second, .val (.int (own_g I q5))]) rfl ?_
    show Steps p.tables e below (s₁.setTop (mkF m 19 #[.val (.ref a1), .val (.int (Int32.ofNat P)), .val (.int (Int32.ofNat I)), .val (.int (Int32.ofNat K)), .val (.long q5), .second, .val (.int (own_g I q5))] [])) _
    refine XS.aloadN X0.here hx rfl (hb hby d1_19) rfl rfl ?_
    show Steps p.tables e below (s₁.setTop (mkF m 20 #[.val (.ref a1), .val (.int (Int32.ofNat P)), .val (.int (Int32.ofNat I)), .val (.int (Int32.ofNat K)), .val (.long q5), .second, .val (.int (own_g I q5))] [(.ref a1)])) _
    refine XS.iloadN X0.here hx rfl (hb hby d1_20) rfl ?_
    show Steps p.tables e below (s₁.setTop (mkF m 21 #[.val (.ref a1), .val (.int (Int32.ofNat P)), .val (.int (Int32.ofNat I)), .val (.int (Int32.ofNat K)), .val (.long q5), .second, .val (.int (own_g I q5))] [(.int (Int32.ofNat P)), (.ref a1)])) _
    refine XS.iloadN X0.here hx rfl (hb hby d1_21) rfl ?_
    show Steps p.tables e below (s₁.setTop (mkF m 22 #[.val (.ref a1), .val (.int (Int32.ofNat P)), .val (.int (Int32.ofNat I)), .val (.int (Int32.ofNat K)), .val (.long q5), .second, .val (.int (own_g I q5))] [(.int (Int32.ofNat I)), (.int (Int32.ofNat P)), (.ref a1)])) _
    refine XS.iadd X0.here hx rfl (hb hby d1_22) rfl ?_
    show Steps p.tables e below (s₁.setTop (mkF m 23 #[.val (.ref a1), .val (.int (Int32.ofNat P)), .val (.int (Int32.ofNat I)), .val (.int (Int32.ofNat K)), .val (.long q5), .second, .val (.int (own_g I q5))] [(.int ((Int32.ofNat P) + (Int32.ofNat I))), (.ref a1)])) _
    refine XS.iloadN X0.here hx rfl (hb hby d1_23) rfl ?_
    show Steps p.tables e below (s₁.setTop (mkF m 24 #[.val (.ref a1), .val (.int (Int32.ofNat P)), .val (.int (Int32.ofNat I)), .val (.int (Int32.ofNat K)), .val (.long q5), .second, .val (.int (own_g I q5))] [(.int (Int32.ofNat I)), (.int ((Int32.ofNat P) + (Int32.ofNat I))), (.ref a1)])) _
    refine XS.iloadN X0.here hx rfl (hb hby d1_24) rfl ?_
    show Steps p.tables e below (s₁.setTop (mkF m 25 #[.val (.ref a1), .val (.int (Int32.ofNat P)), .val (.int (Int32.ofNat I)), .val (.int (Int32.ofNat K)), .val (.long q5), .second, .val (.int (own_g I q5))] [(.int (Int32.ofNat K)), (.int (Int32.ofNat I)), (.int ((Int32.ofNat P) + (Int32.ofNat I))), (.ref a1)])) _
    refine XS.iconst X0.here hx rfl (hb hby d1_25) ?_
    show Steps p.tables e below (s₁.setTop (mkF m 26 #[.val (.ref a1), .val (.int (Int32.ofNat P)), .val (.int (Int32.ofNat I)), .val (.int (Int32.ofNat K)), .val (.long q5), .second, .val (.int (own_g I q5))] [(.int (1 : Int32)), (.int (Int32.ofNat K)), (.int (Int32.ofNat I)), (.int ((Int32.ofNat P) + (Int32.ofNat I))), (.ref a1)])) _
    refine XS.isub X0.here hx rfl (hb hby d1_26) rfl ?_
    show Steps p.tables e below (s₁.setTop (mkF m 27 #[.val (.ref a1), .val (.int (Int32.ofNat P)), .val (.int (Int32.ofNat I)), .val (.int (Int32.ofNat K)), .val (.long q5), .second, .val (.int (own_g I q5))] [(.int ((Int32.ofNat K) - (1 : Int32))), (.int (Int32.ofNat I)), (.int ((Int32.ofNat P) + (Int32.ofNat I))), (.ref a1)])) _
    refine XS.icmpYes X0.here hx rfl (pc0 := 27) (pc' := 39) rfl (hb hby d1_27) rfl (flt hc27).2.1 (by decide) (by decide) ?_
    show Steps p.tables e below (s₁.setTop (mkF m 39 #[.val (.ref a1), .val (.int (Int32.ofNat P)), .val (.int (Int32.ofNat I)), .val (.int (Int32.ofNat K)), .val (.long q5), .second, .val (.int (own_g I q5))] [(.int ((Int32.ofNat P) + (Int32.ofNat I))), (.ref a1)])) _
    refine XS.iload X0.here hx rfl (hb hby d1_39) rfl ?_
    show Steps p.tables e below (s₁.setTop (mkF m 41 #[.val (.ref a1), .val (.int (Int32.ofNat P)), .val (.int (Int32.ofNat I)), .val (.int (Int32.ofNat K)), .val (.long q5), .second, .val (.int (own_g I q5))] [(.int (own_g I q5)), (.int ((Int32.ofNat P) + (Int32.ofNat I))), (.ref a1)])) _
    refine XS.i2b X0.here hx rfl (hb hby d1_41) rfl ?_
    show Steps p.tables e below (s₁.setTop (mkF m 42 #[.val (.ref a1), .val (.int (Int32.ofNat P)), .val (.int (Int32.ofNat I)), .val (.int (Int32.ofNat K)), .val (.long q5), .second, .val (.int (own_g I q5))] [(.int ((own_g I q5).toInt8.toInt32)), (.int ((Int32.ofNat P) + (Int32.ofNat I))), (.ref a1)])) _
    refine st6 _ ?_
    show Steps p.tables e below (T6.setTop (mkF m 43 #[.val (.ref a1), .val (.int (Int32.ofNat P)), .val (.int (Int32.ofNat I)), .val (.int (Int32.ofNat K)), .val (.long q5), .second, .val (.int (own_g I q5))] [])) _
    exact X6.returnOut hx Bd.returns (hb hby d1_43) hr
  · show Q1 Z a1 ka vs P I K q5 h0 n0 _ T6.heap _
    rw [e6]
    exact ⟨rfl, N6, K6.1, by rw [own_put, if_pos ha, own_b, if_neg hbb]; exact V6⟩
theorem rm1 (l : Launch) (Z : State) (a0 : Array Value) (hw : ∀ d ∈ tables_1, d.before a0 Z = true) (ws : List Jvm.Cond) (a1 : Addr) (ka : ClassId) (vs : List Value) (P I K : Nat) (q5 : Int64) (h0 : Heap) (n0 : Nat) (Z0 : n0 ≤ h0.size) (V_a1 : Arv Z h0 a1 ka .byte (16 : Int32) vs (.int (0 : Int32))) (hl : vs.length = 16) (hPn : P ≤ 3) (hIn : I ≤ 9) (hKn : K ≤ 10) (g_a1 : n0 ≤ a1) :
    MetFree l (⟨"com/example/vor/vor/index/DecoderReadNumberPinLaw", "put", "([BIIIJ)V"⟩ : MethodName) (head1 (Jvm.Cond.code (⟨"com/example/vor/vor/index/DecoderReadNumberPinLaw", "put", "([BIIIJ)V"⟩ : MethodName) method_3_code 7 none :: ws) ({ frames := 0, cells := 0, slots := 0, locals := 0 } : Room)) (fun a U => a = #[(.ref a1), (.int (Int32.ofNat P)), (.int (Int32.ofNat I)), (.int (Int32.ofNat K)), (.long q5)] ∧ Z.Warmed39 U.vm ∧ U.heap = h0) (fun _ _ _ _ _ => True) (fun _ U o U' => ∃ v L, o = .returned v ∧ Q1 Z a1 ka vs P I K q5 h0 n0 v U'.heap L ∧ FrameEnd U o U' L ({ frames := 0, cells := 0, slots := 0, locals := 0 } : Room).cells ({ frames := 0, cells := 0, slots := 0, locals := 0 } : Room).slots) := by
  by_cases ha : I < K
  · by_cases hbb : I + 1 < K
    · exact rm1_ff l Z a0 hw ws a1 ka vs P I K q5 h0 n0 Z0 V_a1 hl hPn hIn hKn g_a1 ha hbb
    · exact rm1_ft l Z a0 hw ws a1 ka vs P I K q5 h0 n0 Z0 V_a1 hl hPn hIn hKn g_a1 ha hbb
  · exact rm1_t l Z a0 hw ws a1 ka vs P I K q5 h0 n0 Z0 V_a1 hl hPn hIn hKn g_a1 ha
theorem d2_0 : decode prog_14_method_1_code 0 = .ok (.aload_n 0, 1) := by decide +kernel
theorem d2_1 : decode prog_14_method_1_code 1 = .ok (.invokespecial 1, 3) := by decide +kernel
theorem d2_4 : decode prog_14_method_1_code 4 = .ok (.aload_n 0, 1) := by decide +kernel
theorem d2_5 : decode prog_14_method_1_code 5 = .ok (.aload_n 1, 1) := by decide +kernel
theorem d2_6 : decode prog_14_method_1_code 6 = .ok (.putfield 7, 3) := by decide +kernel
theorem d2_9 : decode prog_14_method_1_code 9 = .ok (.aload_n 0, 1) := by decide +kernel
theorem d2_10 : decode prog_14_method_1_code 10 = .ok (.iload_n 2, 1) := by decide +kernel
theorem d2_11 : decode prog_14_method_1_code 11 = .ok (.putfield 13, 3) := by decide +kernel
theorem d2_14 : decode prog_14_method_1_code 14 = .ok (.return_, 1) := by decide +kernel
theorem pn_2 : plainName "com/example/vor/vor/index/IndexFormat$Decoder" = true := by first | (simp [plainName, overriddenIn]; done) | decide +kernel
theorem ef_2 (m : MethodId) (x0 : Addr) (x1 : Addr) (x2 : Int32) : entryFrame m #[(.ref x0), (.ref x1), (.int x2)] 3 = mkF m 0 #[.val (.ref x0), .val (.ref x1), .val (.int x2)] [] := by first | (simp [entryFrame, mkF, argsToLocals, Value.category]; done) | rfl
def Q2 (Z : State) (a1 : Addr) (a2 : Addr) (p3 : Int32) (u_bytes_a1 : Value) (u_position_a1 : Value) (h0 : Heap) (n0 : Nat) (v : Option Value) (h : Heap) (L : List Loc) : Prop := v = none ∧ Fr n0 L ∧ Keep h0 h [a1] ∧ Exa Z h a1 "com/example/vor/vor/index/IndexFormat$Decoder" ∧ Fld Z h a1 "com/example/vor/vor/index/IndexFormat$Decoder" "bytes" "[B" (.ref a2) ∧ Fld Z h a1 "com/example/vor/vor/index/IndexFormat$Decoder" "position" "I" (.int p3)
set_option maxRecDepth 65536 in
set_option maxHeartbeats 40000000 in
theorem rm2 (l : Launch) (Z : State) (a0 : Array Value) (hw : ∀ d ∈ tables_1, d.before a0 Z = true) (ws : List Jvm.Cond) (a1 : Addr) (a2 : Addr) (p3 : Int32) (u_bytes_a1 : Value) (u_position_a1 : Value) (h0 : Heap) (n0 : Nat) (Z0 : n0 ≤ h0.size) (E_a1 : Exa Z h0 a1 "com/example/vor/vor/index/IndexFormat$Decoder") (F_bytes_a1 : Fld Z h0 a1 "com/example/vor/vor/index/IndexFormat$Decoder" "bytes" "[B" u_bytes_a1) (g_a1 : n0 ≤ a1) (F_position_a1 : Fld Z h0 a1 "com/example/vor/vor/index/IndexFormat$Decoder" "position" "I" u_position_a1) :
    MetFree l (⟨"com/example/vor/vor/index/IndexFormat$Decoder", "<init>", "([BI)V"⟩ : MethodName) (head1 (Jvm.Cond.code (⟨"com/example/vor/vor/index/IndexFormat$Decoder", "<init>", "([BI)V"⟩ : MethodName) prog_14_method_1_code 3 none :: ws) ({ frames := 1, cells := 0, slots := 0, locals := 12 } : Room)) (fun a U => a = #[(.ref a1), (.ref a2), (.int p3)] ∧ Z.Warmed39 U.vm ∧ U.heap = h0) (fun _ _ _ _ _ => True) (fun _ U o U' => ∃ v L, o = .returned v ∧ Q2 Z a1 a2 p3 u_bytes_a1 u_position_a1 h0 n0 v U'.heap L ∧ FrameEnd U o U' L ({ frames := 1, cells := 0, slots := 0, locals := 12 } : Room).cells ({ frames := 1, cells := 0, slots := 0, locals := 12 } : Room).slots) := by
  refine MetFree.of_bodySF (plainFor_of_name pn_2) hisR ?_
  intro p e s m args below meth c s₁ Bd hml0 hP hK
  obtain ⟨rfl, hZ, hh⟩ := hP
  have hx := Bd.exec
  have hby := Bd.bytes
  have hml : c.maxLocals = 3 := hml0
  have hown : s.vm.findClass "com/example/vor/vor/index/IndexFormat$Decoder" = some m.cls := findClass_of_methodNamed Bd.named
  have hnm := (name_of_methodNamed Bd.named Bd.method).1
  have X0 : Stand p l e ({ frames := 1, cells := 0, slots := 0, locals := 12 } : Room) s m #[(.ref a1), (.ref a2), (.int p3)] below meth c s₁ [] 0 0 := Stand.of_body Bd
  have e0 : s₁.heap = h0 := by rw [← hh, Bd.state]; rfl
  have N0 := Fr.nil n0
  have pre0 : ∀ t, Steps p.tables e below (s₁.setTop (mkF m 0 #[.val (.ref a1), .val (.ref a2), .val (.int p3)] [])) t → Steps p.tables e below (s₁.setTop (entryFrame m #[(.ref a1), (.ref a2), (.int p3)] 3)) t := fun t k => castTop (ef_2 m a1 a2 p3) k
  obtain ⟨T4, X4, e4, st4⟩ := initO X0 hx hZ hown (hw _ (List.mem_of_getElem? (i := 13) rfl)) (hw _ (List.mem_of_getElem? (i := 14) rfl)) (hw _ (List.mem_of_getElem? (i := 15) rfl)) e0 (g := (mkF m 1 #[.val (.ref a1), .val (.ref a2), .val (.int p3)] [(.ref a1)])) rfl (by rw [hml]; rfl) rfl (hb hby d2_1) (by decide) (W := 0) (by show 2 * 0 + _ ≤ _; exact Nat.le_of_eq rfl) (by decide)
  obtain ⟨T5, h5, X5, e5, W5, st5⟩ := putF X4 hx hZ hown (host := "") (Or.inl (hw _ (List.mem_of_getElem? (i := 16) rfl))) Via.refl e4 F_bytes_a1 E_a1 (Or.inr ⟨(hw _ (List.mem_of_getElem? (i := 17) rfl)), rfl, hnm⟩) (hw _ (List.mem_of_getElem? (i := 8) rfl)) (ty := (.array .byte)) (by decide) rfl rfl (g := (mkF m 6 #[.val (.ref a1), .val (.ref a2), .val (.int p3)] [(.ref a2), (.ref a1)])) rfl rfl (hb hby d2_6)
  have Fw5 := F_bytes_a1.same W5
  have K5 : Keep h0 h5 [a1] := (Keep.refl h0 [a1]).wr W5 (Or.inl (List.mem_of_getElem? (i := 0) rfl))
  have N5 := Fr.snoc X5 N0 g_a1
  obtain ⟨T6, h6, X6, e6, W6, st6⟩ := putF X5 hx hZ hown (host := "") (Or.inl (hw _ (List.mem_of_getElem? (i := 18) rfl))) Via.refl e5 (F_position_a1.other W5 (Or.inr (slot_ne (Or.inl (hw _ (List.mem_of_getElem? (i := 19) rfl))) (Or.inr (hw _ (List.mem_of_getElem? (i := 17) rfl))) (by decide) (t := .int) (t' := (.array .byte)) (by decide) (by decide)))) (E_a1.wr W5) (Or.inl (hw _ (List.mem_of_getElem? (i := 19) rfl))) (hw _ (List.mem_of_getElem? (i := 8) rfl)) (ty := .int) (by decide) rfl rfl (g := (mkF m 11 #[.val (.ref a1), .val (.ref a2), .val (.int p3)] [(.int p3), (.ref a1)])) rfl rfl (hb hby d2_11)
  have Fw6 := (F_position_a1.other W5 (Or.inr (slot_ne (Or.inl (hw _ (List.mem_of_getElem? (i := 19) rfl))) (Or.inr (hw _ (List.mem_of_getElem? (i := 17) rfl))) (by decide) (t := .int) (t' := (.array .byte)) (by decide) (by decide)))).same W6
  have K6 : Keep h0 h6 [a1] := K5.wr W6 (Or.inl (List.mem_of_getElem? (i := 0) rfl))
  have N6 := Fr.snoc X6 N5 g_a1
  obtain ⟨fs, hr, hrun, hended, hW, hsame⟩ := X6.leave (v := none) (fun _ => rfl)
  refine ⟨_, _, pre0 _ ?_, hrun, hended, _, _, rfl, ?_, ⟨_, rfl⟩, hW, hsame.mono (by decide) (by decide)⟩
  · show Steps p.tables e below (s₁.setTop (mkF m 0 #[.val (.ref a1), .val (.ref a2), .val (.int p3)] [])) _
    refine XS.aloadN X0.here hx rfl (hb hby d2_0) rfl rfl ?_
    show Steps p.tables e below (s₁.setTop (mkF m 1 #[.val (.ref a1), .val (.ref a2), .val (.int p3)] [(.ref a1)])) _
    refine st4 _ ?_
    show Steps p.tables e below (T4.setTop (mkF m 4 #[.val (.ref a1), .val (.ref a2), .val (.int p3)] [])) _
    refine XS.aloadN X4.here hx rfl (hb hby d2_4) rfl rfl ?_
    show Steps p.tables e below (T4.setTop (mkF m 5 #[.val (.ref a1), .val (.ref a2), .val (.int p3)] [(.ref a1)])) _
    refine XS.aloadN X4.here hx rfl (hb hby d2_5) rfl rfl ?_
    show Steps p.tables e below (T4.setTop (mkF m 6 #[.val (.ref a1), .val (.ref a2), .val (.int p3)] [(.ref a2), (.ref a1)])) _
    refine st5 _ ?_
    show Steps p.tables e below (T5.setTop (mkF m 9 #[.val (.ref a1), .val (.ref a2), .val (.int p3)] [])) _
    refine XS.aloadN X5.here hx rfl (hb hby d2_9) rfl rfl ?_
    show Steps p.tables e below (T5.setTop (mkF m 10 #[.val (.ref a1), .val (.ref a2), .val (.int p3)] [(.ref a1)])) _
    refine XS.iloadN X5.here hx rfl (hb hby d2_10) rfl ?_
    show Steps p.tables e below (T5.setTop (mkF m 11 #[.val (.ref a1), .val (.ref a2), .val (.int p3)] [(.int p3), (.ref a1)])) _
    refine st6 _ ?_
    show Steps p.tables e below (T6.setTop (mkF m 14 #[.val (.ref a1), .val (.ref a2), .val (.int p3)] [])) _
    exact X6.returnOut hx Bd.returns (hb hby d2_14) hr
  · show Q2 Z a1 a2 p3 u_bytes_a1 u_position_a1 h0 n0 _ T6.heap _
    rw [e6]
    exact ⟨rfl, N6, K6, ((E_a1.wr W5).wr W6), (Fw5.other W6 (Or.inr (slot_ne (Or.inr (hw _ (List.mem_of_getElem? (i := 17) rfl))) (Or.inl (hw _ (List.mem_of_getElem? (i := 19) rfl))) (by decide) (t := (.array .byte)) (t' := .int) (by decide) (by decide)))), Fw6⟩
theorem d5_0 : decode prog_14_method_2_code 0 = .ok (.aload_n 0, 1) := by decide +kernel
theorem d5_1 : decode prog_14_method_2_code 1 = .ok (.getfield 13, 3) := by decide +kernel
theorem d5_4 : decode prog_14_method_2_code 4 = .ok (.ireturn, 1) := by decide +kernel
theorem pn_5 : plainName "com/example/vor/vor/index/IndexFormat$Decoder" = true := by first | (simp [plainName, overriddenIn]; done) | decide +kernel
theorem ef_5 (m : MethodId) (x0 : Addr) : entryFrame m #[(.ref x0)] 1 = mkF m 0 #[.val (.ref x0)] [] := by first | (simp [entryFrame, mkF, argsToLocals, Value.category]; done) | rfl
def Q5 (Z : State) (a1 : Addr) (w2 : Int32) (h0 : Heap) (n0 : Nat) (v : Option Value) (h : Heap) (L : List Loc) : Prop := v = some (.int w2) ∧ Fr n0 L ∧ h = h0
set_option maxRecDepth 65536 in
set_option maxHeartbeats 40000000 in
theorem rm5 (l : Launch) (Z : State) (a0 : Array Value) (hw : ∀ d ∈ tables_1, d.before a0 Z = true) (ws : List Jvm.Cond) (a1 : Addr) (w2 : Int32) (h0 : Heap) (n0 : Nat) (Z0 : n0 ≤ h0.size) (F_position_a1 : Fld Z h0 a1 "com/example/vor/vor/index/IndexFormat$Decoder" "position" "I" (.int w2)) :
    MetFree l (⟨"com/example/vor/vor/index/IndexFormat$Decoder", "position", "()I"⟩ : MethodName) (head1 (Jvm.Cond.code (⟨"com/example/vor/vor/index/IndexFormat$Decoder", "position", "()I"⟩ : MethodName) prog_14_method_2_code 1 (some .int) :: ws) ({ frames := 0, cells := 0, slots := 0, locals := 0 } : Room)) (fun a U => a = #[(.ref a1)] ∧ Z.Warmed39 U.vm ∧ U.heap = h0) (fun _ _ _ _ _ => True) (fun _ U o U' => ∃ v L, o = .returned v ∧ Q5 Z a1 w2 h0 n0 v U'.heap L ∧ FrameEnd U o U' L ({ frames := 0, cells := 0, slots := 0, locals := 0 } : Room).cells ({ frames := 0, cells := 0, slots := 0, locals := 0 } : Room).slots) := by
  refine MetFree.of_bodySF (plainFor_of_name pn_5) hisR ?_
  intro p e s m args below meth c s₁ Bd hml0 hP hK
  obtain ⟨rfl, hZ, hh⟩ := hP
  have hx := Bd.exec
  have hby := Bd.bytes
  have hml : c.maxLocals = 1 := hml0
  have hown : s.vm.findClass "com/example/vor/vor/index/IndexFormat$Decoder" = some m.cls := findClass_of_methodNamed Bd.named
  have hnm := (name_of_methodNamed Bd.named Bd.method).1
  have X0 : Stand p l e ({ frames := 0, cells := 0, slots := 0, locals := 0 } : Room) s m #[(.ref a1)] below meth c s₁ [] 0 0 := Stand.of_body Bd
  have e0 : s₁.heap = h0 := by rw [← hh, Bd.state]; rfl
  have N0 := Fr.nil n0
  have pre0 : ∀ t, Steps p.tables e below (s₁.setTop (mkF m 0 #[.val (.ref a1)] [])) t → Steps p.tables e below (s₁.setTop (entryFrame m #[(.ref a1)] 1)) t := fun t k => castTop (ef_5 m a1) k
  obtain ⟨T3, X3, e3, st3⟩ := getF X0 hx hZ hown (host := "") (Or.inl (hw _ (List.mem_of_getElem? (i := 18) rfl))) Via.refl e0 F_position_a1 (g := (mkF m 1 #[.val (.ref a1)] [(.ref a1)])) rfl rfl (hb hby d5_1)
  obtain ⟨fs, hr, hrun, hended, hW, hsame⟩ := X3.leave (v := some (.int w2)) (fun h => by rw [Bd.returns] at h; cases h)
  refine ⟨_, _, pre0 _ ?_, hrun, hended, _, _, rfl, ?_, ⟨_, rfl⟩, hW, hsame.mono (by decide) (by decide)⟩
  · show Steps p.tables e below (s₁.setTop (mkF m 0 #[.val (.ref a1)] [])) _
    refine XS.aloadN X0.here hx rfl (hb hby d5_0) rfl rfl ?_
    show Steps p.tables e below (s₁.setTop (mkF m 1 #[.val (.ref a1)] [(.ref a1)])) _
    refine st3 _ ?_
    show Steps p.tables e below (T3.setTop (mkF m 4 #[.val (.ref a1)] [(.int w2)])) _
    exact retI X3 hx Bd.returns (hb hby d5_4) hr
  · show Q5 Z a1 w2 h0 n0 _ T3.heap _
    rw [e3]
    exact ⟨rfl, N0, rfl⟩
theorem d4_4 : decode prog_14_method_3_code 4 = .ok (.aload_n 0, 1) := by decide +kernel
theorem d4_5 : decode prog_14_method_3_code 5 = .ok (.getfield 7, 3) := by decide +kernel
theorem d4_8 : decode prog_14_method_3_code 8 = .ok (.aload_n 0, 1) := by decide +kernel
theorem d4_9 : decode prog_14_method_3_code 9 = .ok (.dup, 1) := by decide +kernel
theorem d4_10 : decode prog_14_method_3_code 10 = .ok (.getfield 13, 3) := by decide +kernel
theorem d4_13 : decode prog_14_method_3_code 13 = .ok (.dup_x1, 1) := by decide +kernel
theorem d4_14 : decode prog_14_method_3_code 14 = .ok (.iconst 1, 1) := by decide +kernel
theorem d4_15 : decode prog_14_method_3_code 15 = .ok (.iadd, 1) := by decide +kernel
theorem d4_16 : decode prog_14_method_3_code 16 = .ok (.putfield 13, 3) := by decide +kernel
theorem d4_19 : decode prog_14_method_3_code 19 = .ok (.baload, 1) := by decide +kernel
theorem d4_20 : decode prog_14_method_3_code 20 = .ok (.istore 4, 2) := by decide +kernel
theorem d4_22 : decode prog_14_method_3_code 22 = .ok (.lload_n 1, 1) := by decide +kernel
theorem d4_23 : decode prog_14_method_3_code 23 = .ok (.iload 4, 2) := by decide +kernel
theorem d4_25 : decode prog_14_method_3_code 25 = .ok (.bipush 127, 2) := by decide +kernel
theorem d4_27 : decode prog_14_method_3_code 27 = .ok (.iand, 1) := by decide +kernel
theorem d4_28 : decode prog_14_method_3_code 28 = .ok (.i2l, 1) := by decide +kernel
theorem d4_29 : decode prog_14_method_3_code 29 = .ok (.iload_n 3, 1) := by decide +kernel
theorem d4_30 : decode prog_14_method_3_code 30 = .ok (.lshl, 1) := by decide +kernel
theorem d4_31 : decode prog_14_method_3_code 31 = .ok (.lor, 1) := by decide +kernel
theorem d4_32 : decode prog_14_method_3_code 32 = .ok (.lstore_n 1, 1) := by decide +kernel
theorem d4_33 : decode prog_14_method_3_code 33 = .ok (.iinc 3 7, 3) := by decide +kernel
theorem d4_36 : decode prog_14_method_3_code 36 = .ok (.iload 4, 2) := by decide +kernel
theorem d4_38 : decode prog_14_method_3_code 38 = .ok (.ifCond .lt (-34), 3) := by decide +kernel
theorem os4_20 {z0 : Value} {z1 : Value} {z3 : Value} {s4 : Slot} {v : Int32} (h : One s4) : storeLocals #[.val z0, .val z1, .second, .val z3, s4] 4 (.int v) = some #[.val z0, .val z1, .second, .val z3, .val (.int v)] := by
  rcases h with rfl | ⟨w, rfl, hw⟩
  · rfl
  · cases w <;> first | rfl | (simp [Value.category] at hw)
set_option maxRecDepth 65536 in
set_option maxHeartbeats 40000000 in
theorem tn4_4_4 {p : Program} {l : Launch} {e : Env} {R : Room} {s : State} {m : MethodId} {args : Array Value} {below : List Frame} {meth : Method} {c : Code} {T0 : State} {locs : List Loc} {cells slots : Nat} {Z : State} {a0 : Array Value} {h0 : Heap} {n0 : Nat} (o0 : Addr) (j1 : Int64) (i3 : Int32) (s4 : Slot) (w2 : Addr) (w4 : Int32) (w7 : Int32) (cl_w2 : Cell)
    (X0 : Stand p l e R s m args below meth c T0 locs cells slots) (hx : p.tables.exec = Jvm.exec) (hZ : Z.Warmed39 s.vm) (hw : ∀ d ∈ tables_1, d.before a0 Z = true) (hby : c.code = prog_14_method_3_code) (hml : c.maxLocals = 5) (hown : s.vm.findClass "com/example/vor/vor/index/IndexFormat$Decoder" = some m.cls) (e0 : T0.heap = h0) (F_bytes_o0 : Fld Z h0 o0 "com/example/vor/vor/index/IndexFormat$Decoder" "bytes" "[B" (.ref w2)) (F_position_o0 : Fld Z h0 o0 "com/example/vor/vor/index/IndexFormat$Decoder" "position" "I" (.int w4)) (E_o0 : Exa Z h0 o0 "com/example/vor/vor/index/IndexFormat$Decoder") (g_o0 : n0 ≤ o0) (Ar_w2 : Arr Z h0 w2 cl_w2 .byte) (hin19 : ¬ (w4 < 0 ∨ cl_w2.slots.size ≤ (w4).toNatClampNeg)) (hat19 : cl_w2.slots[(w4).toNatClampNeg]? = some (.int w7)) (hs4 : One s4) (hc38 : w7 < (0 : Int32)) (N0 : Fr n0 locs) (hne : w2 ≠ o0) :
    ∃ (T' : State) (h' : Heap) (locs' : List Loc), Stand p l e R s m args below meth c T' locs' cells slots ∧ T'.heap = h' ∧ Fr n0 locs' ∧ h0.size ≤ h'.size ∧ Exa Z h' o0 "com/example/vor/vor/index/IndexFormat$Decoder" ∧ Fld Z h' o0 "com/example/vor/vor/index/IndexFormat$Decoder" "bytes" "[B" (.ref w2) ∧ Fld Z h' o0 "com/example/vor/vor/index/IndexFormat$Decoder" "position" "I" (.int (w4 + (1 : Int32))) ∧ Arr Z h' w2 cl_w2 .byte ∧
      ∀ target, Steps p.tables e below (T'.setTop (mkF m 4 #[.val (.ref o0), .val (.long (j1 ||| (((w7 &&& (127 : Int32)).toInt64) <<< (i3 &&& 0x3f).toInt64))), .second, .val (.int (i3 + (7 : Int32))), .val (.int w7)] [])) target → Steps p.tables e below (T0.setTop (mkF m 4 #[.val (.ref o0), .val (.long j1), .second, .val (.int i3), s4] [])) target := by
  obtain ⟨T3, X3, e3, st3⟩ := getF X0 hx hZ hown (host := "") (Or.inl (hw _ (List.mem_of_getElem? (i := 16) rfl))) Via.refl e0 F_bytes_o0 (g := (mkF m 5 #[.val (.ref o0), .val (.long j1), .second, .val (.int i3), s4] [(.ref o0)])) rfl rfl (hb hby d4_5)
  obtain ⟨T5, X5, e5, st5⟩ := getF X3 hx hZ hown (host := "") (Or.inl (hw _ (List.mem_of_getElem? (i := 18) rfl))) Via.refl e3 F_position_o0 (g := (mkF m 10 #[.val (.ref o0), .val (.long j1), .second, .val (.int i3), s4] [(.ref o0), (.ref o0), (.ref w2)])) rfl rfl (hb hby d4_10)
  obtain ⟨T6, h6, X6, e6, W6, st6⟩ := putF X5 hx hZ hown (host := "") (Or.inl (hw _ (List.mem_of_getElem? (i := 18) rfl))) Via.refl e5 F_position_o0 E_o0 (Or.inl (hw _ (List.mem_of_getElem? (i := 19) rfl))) (hw _ (List.mem_of_getElem? (i := 8) rfl)) (ty := .int) (by decide) rfl rfl (g := (mkF m 16 #[.val (.ref o0), .val (.long j1), .second, .val (.int i3), s4] [(.int (w4 + (1 : Int32))), (.ref o0), (.int w4), (.ref w2)])) rfl rfl (hb hby d4_16)
  have Fw6 := F_position_o0.same W6
  have K6 : Keep h0 h6 [o0] := (Keep.refl h0 [o0]).wr W6 (Or.inl (List.mem_of_getElem? (i := 0) rfl))
  have N6 := Fr.snoc X6 N0 g_o0
  have Ar6 := Ar_w2.other W6 hne
  refine ⟨T6, _, _, X6, e6, N6, K6.1, E_o0.wr W6, F_bytes_o0.other W6 (Or.inr (slot_ne (Or.inr (hw _ (List.mem_of_getElem? (i := 17) rfl))) (Or.inl (hw _ (List.mem_of_getElem? (i := 19) rfl))) (by decide) (t := (.array .byte)) (t' := .int) (by decide) (by decide))), Fw6, Ar6, fun target kt => ?_⟩
  show Steps p.tables e below (T0.setTop (mkF m 4 #[.val (.ref o0), .val (.long j1), .second, .val (.int i3), s4] [])) _
  refine XS.aloadN X0.here hx rfl (hb hby d4_4) rfl rfl ?_
  show Steps p.tables e below (T0.setTop (mkF m 5 #[.val (.ref o0), .val (.long j1), .second, .val (.int i3), s4] [(.ref o0)])) _
  refine st3 _ ?_
  show Steps p.tables e below (T3.setTop (mkF m 8 #[.val (.ref o0), .val (.long j1), .second, .val (.int i3), s4] [(.ref w2)])) _
  refine XS.aloadN X3.here hx rfl (hb hby d4_8) rfl rfl ?_
  show Steps p.tables e below (T3.setTop (mkF m 9 #[.val (.ref o0), .val (.long j1), .second, .val (.int i3), s4] [(.ref o0), (.ref w2)])) _
  refine XS.dup X3.here hx rfl (hb hby d4_9) rfl rfl ?_
  show Steps p.tables e below (T3.setTop (mkF m 10 #[.val (.ref o0), .val (.long j1), .second, .val (.int i3), s4] [(.ref o0), (.ref o0), (.ref w2)])) _
  refine st5 _ ?_
  show Steps p.tables e below (T5.setTop (mkF m 13 #[.val (.ref o0), .val (.long j1), .second, .val (.int i3), s4] [(.int w4), (.ref o0), (.ref w2)])) _
  refine XS.dupX1 X5.here hx rfl (hb hby d4_13) rfl rfl rfl ?_
  show Steps p.tables e below (T5.setTop (mkF m 14 #[.val (.ref o0), .val (.long j1), .second, .val (.int i3), s4] [(.int w4), (.ref o0), (.int w4), (.ref w2)])) _
  refine XS.iconst X5.here hx rfl (hb hby d4_14) ?_
  show Steps p.tables e below (T5.setTop (mkF m 15 #[.val (.ref o0), .val (.long j1), .second, .val (.int i3), s4] [(.int (1 : Int32)), (.int w4), (.ref o0), (.int w4), (.ref w2)])) _
  refine XS.iadd X5.here hx rfl (hb hby d4_15) rfl ?_
  show Steps p.tables e below (T5.setTop (mkF m 16 #[.val (.ref o0), .val (.long j1), .second, .val (.int i3), s4] [(.int (w4 + (1 : Int32))), (.ref o0), (.int w4), (.ref w2)])) _
  refine st6 _ ?_
  show Steps p.tables e below (T6.setTop (mkF m 19 #[.val (.ref o0), .val (.long j1), .second, .val (.int i3), s4] [(.int w4), (.ref w2)])) _
  refine X6.baloadBytes hx (j := w4) (v := (.int w7)) (by rw [e6]; exact Ar6.1) (State.isArrayOf_alike hZ.alike Ar6.2.1) Ar6.2.2 hin19 hat19 (g := (mkF m 19 #[.val (.ref o0), .val (.long j1), .second, .val (.int i3), s4] [(.int w4), (.ref w2)])) rfl rfl (hb hby d4_19) _ ?_
  show Steps p.tables e below (T6.setTop (mkF m 20 #[.val (.ref o0), .val (.long j1), .second, .val (.int i3), s4] [(.int w7)])) _
  refine XS.istore X6.here hx rfl (hb hby d4_20) rfl (l' := #[.val (.ref o0), .val (.long j1), .second, .val (.int i3), .val (.int w7)]) (os4_20 hs4) ?_
  show Steps p.tables e below (T6.setTop (mkF m 22 #[.val (.ref o0), .val (.long j1), .second, .val (.int i3), .val (.int w7)] [])) _
  refine XS.lloadN X6.here hx rfl (hb hby d4_22) rfl ?_
  show Steps p.tables e below (T6.setTop (mkF m 23 #[.val (.ref o0), .val (.long j1), .second, .val (.int i3), .val (.int w7)] [(.long j1)])) _
  refine XS.iload X6.here hx rfl (hb hby d4_23) rfl ?_
  show Steps p.tables e below (T6.setTop (mkF m 25 #[.val (.ref o0), .val (.long j1), .second, .val (.int i3), .val (.int w7)] [(.int w7), (.long j1)])) _
  refine XS.bipush X6.here hx rfl (hb hby d4_25) ?_
  show Steps p.tables e below (T6.setTop (mkF m 27 #[.val (.ref o0), .val (.long j1), .second, .val (.int i3), .val (.int w7)] [(.int (127 : Int32)), (.int w7), (.long j1)])) _
  refine XS.iand X6.here hx rfl (hb hby d4_27) rfl ?_
  show Steps p.tables e below (T6.setTop (mkF m 28 #[.val (.ref o0), .val (.long j1), .second, .val (.int i3), .val (.int w7)] [(.int (w7 &&& (127 : Int32))), (.long j1)])) _
  refine XS.i2l X6.here hx rfl (hb hby d4_28) rfl ?_
  show Steps p.tables e below (T6.setTop (mkF m 29 #[.val (.ref o0), .val (.long j1), .second, .val (.int i3), .val (.int w7)] [(.long ((w7 &&& (127 : Int32)).toInt64)), (.long j1)])) _
  refine XS.iloadN X6.here hx rfl (hb hby d4_29) rfl ?_
  show Steps p.tables e below (T6.setTop (mkF m 30 #[.val (.ref o0), .val (.long j1), .second, .val (.int i3), .val (.int w7)] [(.int i3), (.long ((w7 &&& (127 : Int32)).toInt64)), (.long j1)])) _
  refine XS.lshl X6.here hx rfl (hb hby d4_30) rfl ?_
  show Steps p.tables e below (T6.setTop (mkF m 31 #[.val (.ref o0), .val (.long j1), .second, .val (.int i3), .val (.int w7)] [(.long (((w7 &&& (127 : Int32)).toInt64) <<< (i3 &&& 0x3f).toInt64)), (.long j1)])) _
  refine XS.lor X6.here hx rfl (hb hby d4_31) rfl ?_
  show Steps p.tables e below (T6.setTop (mkF m 32 #[.val (.ref o0), .val (.long j1), .second, .val (.int i3), .val (.int w7)] [(.long (j1 ||| (((w7 &&& (127 : Int32)).toInt64) <<< (i3 &&& 0x3f).toInt64)))])) _
  refine XS.lstoreN X6.here hx rfl (hb hby d4_32) rfl (l' := #[.val (.ref o0), .val (.long (j1 ||| (((w7 &&& (127 : Int32)).toInt64) <<< (i3 &&& 0x3f).toInt64))), .second, .val (.int i3), .val (.int w7)]) rfl ?_
  show Steps p.tables e below (T6.setTop (mkF m 33 #[.val (.ref o0), .val (.long (j1 ||| (((w7 &&& (127 : Int32)).toInt64) <<< (i3 &&& 0x3f).toInt64))), .second, .val (.int i3), .val (.int w7)] [])) _
  refine XS.iinc X6.here hx rfl (hb hby d4_33) rfl (l' := #[.val (.ref o0), .val (.long (j1 ||| (((w7 &&& (127 : Int32)).toInt64) <<< (i3 &&& 0x3f).toInt64))), .second, .val (.int (i3 + (7 : Int32))), .val (.int w7)]) rfl ?_
  show Steps p.tables e below (T6.setTop (mkF m 36 #[.val (.ref o0), .val (.long (j1 ||| (((w7 &&& (127 : Int32)).toInt64) <<< (i3 &&& 0x3f).toInt64))), .second, .val (.int (i3 + (7 : Int32))), .val (.int w7)] [])) _
  refine XS.iload X6.here hx rfl (hb hby d4_36) rfl ?_
  show Steps p.tables e below (T6.setTop (mkF m 38 #[.val (.ref o0), .val (.long (j1 ||| (((w7 &&& (127 : Int32)).toInt64) <<< (i3 &&& 0x3f).toInt64))), .second, .val (.int (i3 + (7 : Int32))), .val (.int w7)] [(.int w7)])) _
  refine XS.ifYes X6.here hx rfl (pc0 := 38) (pc' := 4) rfl (hb hby d4_38) rfl ((if0 _ _).trans (tlt hc38).1) (by decide) (by decide) ?_
  exact kt
set_option maxRecDepth 65536 in
set_option maxHeartbeats 40000000 in
theorem tn4_4_41 {p : Program} {l : Launch} {e : Env} {R : Room} {s : State} {m : MethodId} {args : Array Value} {below : List Frame} {meth : Method} {c : Code} {T0 : State} {locs : List Loc} {cells slots : Nat} {Z : State} {a0 : Array Value} {h0 : Heap} {n0 : Nat} (o0 : Addr) (j1 : Int64) (i3 : Int32) (s4 : Slot) (w2 : Addr) (w4 : Int32) (w7 : Int32) (cl_w2 : Cell)
    (X0 : Stand p l e R s m args below meth c T0 locs cells slots) (hx : p.tables.exec = Jvm.exec) (hZ : Z.Warmed39 s.vm) (hw : ∀ d ∈ tables_1, d.before a0 Z = true) (hby : c.code = prog_14_method_3_code) (hml : c.maxLocals = 5) (hown : s.vm.findClass "com/example/vor/vor/index/IndexFormat$Decoder" = some m.cls) (e0 : T0.heap = h0) (F_bytes_o0 : Fld Z h0 o0 "com/example/vor/vor/index/IndexFormat$Decoder" "bytes" "[B" (.ref w2)) (F_position_o0 : Fld Z h0 o0 "com/example/vor/vor/index/IndexFormat$Decoder" "position" "I" (.int w4)) (E_o0 : Exa Z h0 o0 "com/example/vor/vor/index/IndexFormat$Decoder") (g_o0 : n0 ≤ o0) (Ar_w2 : Arr Z h0 w2 cl_w2 .byte) (hin19 : ¬ (w4 < 0 ∨ cl_w2.slots.size ≤ (w4).toNatClampNeg)) (hat19 : cl_w2.slots[(w4).toNatClampNeg]? = some (.int w7)) (hs4 : One s4) (hc38 : ¬ (w7 < (0 : Int32))) (N0 : Fr n0 locs) (hne : w2 ≠ o0) :
    ∃ (T' : State) (h' : Heap) (locs' : List Loc), Stand p l e R s m args below meth c T' locs' cells slots ∧ T'.heap = h' ∧ Fr n0 locs' ∧ h0.size ≤ h'.size ∧ Exa Z h' o0 "com/example/vor/vor/index/IndexFormat$Decoder" ∧ Fld Z h' o0 "com/example/vor/vor/index/IndexFormat$Decoder" "bytes" "[B" (.ref w2) ∧ Fld Z h' o0 "com/example/vor/vor/index/IndexFormat$Decoder" "position" "I" (.int (w4 + (1 : Int32))) ∧ Arr Z h' w2 cl_w2 .byte ∧
      ∀ target, Steps p.tables e below (T'.setTop (mkF m 41 #[.val (.ref o0), .val (.long (j1 ||| (((w7 &&& (127 : Int32)).toInt64) <<< (i3 &&& 0x3f).toInt64))), .second, .val (.int (i3 + (7 : Int32))), .val (.int w7)] [])) target → Steps p.tables e below (T0.setTop (mkF m 4 #[.val (.ref o0), .val (.long j1), .second, .val (.int i3), s4] [])) target := by
  obtain ⟨T3, X3, e3, st3⟩ := getF X0 hx hZ hown (host := "") (Or.inl (hw _ (List.mem_of_getElem? (i := 16) rfl))) Via.refl e0 F_bytes_o0 (g := (mkF m 5 #[.val (.ref o0), .val (.long j1), .second, .val (.int i3), s4] [(.ref o0)])) rfl rfl (hb hby d4_5)
  obtain ⟨T5, X5, e5, st5⟩ := getF X3 hx hZ hown (host := "") (Or.inl (hw _ (List.mem_of_getElem? (i := 18) rfl))) Via.refl e3 F_position_o0 (g := (mkF m 10 #[.val (.ref o0), .val (.long j1), .second, .val (.int i3), s4] [(.ref o0), (.ref o0), (.ref w2)])) rfl rfl (hb hby d4_10)
  obtain ⟨T6, h6, X6, e6, W6, st6⟩ := putF X5 hx hZ hown (host := "") (Or.inl (hw _ (List.mem_of_getElem? (i := 18) rfl))) Via.refl e5 F_position_o0 E_o0 (Or.inl (hw _ (List.mem_of_getElem? (i := 19) rfl))) (hw _ (List.mem_of_getElem? (i := 8) rfl)) (ty := .int) (by decide) rfl rfl (g := (mkF m 16 #[.val (.ref o0), .val (.long j1), .second, .val (.int i3), s4] [(.int (w4 + (1 : Int32))), (.ref o0), (.int w4), (.ref w2)])) rfl rfl (hb hby d4_16)
  have Fw6 := F_position_o0.same W6
  have K6 : Keep h0 h6 [o0] := (Keep.refl h0 [o0]).wr W6 (Or.inl (List.mem_of_getElem? (i := 0) rfl))
  have N6 := Fr.snoc X6 N0 g_o0
  have Ar6 := Ar_w2.other W6 hne
  refine ⟨T6, _, _, X6, e6, N6, K6.1, E_o0.wr W6, F_bytes_o0.other W6 (Or.inr (slot_ne (Or.inr (hw _ (List.mem_of_getElem? (i := 17) rfl))) (Or.inl (hw _ (List.mem_of_getElem? (i := 19) rfl))) (by decide) (t := (.array .byte)) (t' := .int) (by decide) (by decide))), Fw6, Ar6, fun target kt => ?_⟩
  show Steps p.tables e below (T0.setTop (mkF m 4 #[.val (.ref o0), .val (.long j1), .second, .val (.int i3), s4] [])) _
  refine XS.aloadN X0.here hx rfl (hb hby d4_4) rfl rfl ?_
  show Steps p.tables e below (T0.setTop (mkF m 5 #[.val (.ref o0), .val (.long j1), .second, .val (.int i3), s4] [(.ref o0)])) _
  refine st3 _ ?_
  show Steps p.tables e below (T3.setTop (mkF m 8 #[.val (.ref o0), .val (.long j1), .second, .val (.int i3), s4] [(.ref w2)])) _
  refine XS.aloadN X3.here hx rfl (hb hby d4_8) rfl rfl ?_
  show Steps p.tables e below (T3.setTop (mkF m 9 #[.val (.ref o0), .val (.long j1), .second, .val (.int i3), s4] [(.ref o0), (.ref w2)])) _
  refine XS.dup X3.here hx rfl (hb hby d4_9) rfl rfl ?_
  show Steps p.tables e below (T3.setTop (mkF m 10 #[.val (.ref o0), .val (.long j1), .second, .val (.int i3), s4] [(.ref o0), (.ref o0), (.ref w2)])) _
  refine st5 _ ?_
  show Steps p.tables e below (T5.setTop (mkF m 13 #[.val (.ref o0), .val (.long j1), .second, .val (.int i3), s4] [(.int w4), (.ref o0), (.ref w2)])) _
  refine XS.dupX1 X5.here hx rfl (hb hby d4_13) rfl rfl rfl ?_
  show Steps p.tables e below (T5.setTop (mkF m 14 #[.val (.ref o0), .val (.long j1), .second, .val (.int i3), s4] [(.int w4), (.ref o0), (.int w4), (.ref w2)])) _
  refine XS.iconst X5.here hx rfl (hb hby d4_14) ?_
  show Steps p.tables e below (T5.setTop (mkF m 15 #[.val (.ref o0), .val (.long j1), .second, .val (.int i3), s4] [(.int (1 : Int32)), (.int w4), (.ref o0), (.int w4), (.ref w2)])) _
  refine XS.iadd X5.here hx rfl (hb hby d4_15) rfl ?_
  show Steps p.tables e below (T5.setTop (mkF m 16 #[.val (.ref o0), .val (.long j1), .second, .val (.int i3), s4] [(.int (w4 + (1 : Int32))), (.ref o0), (.int w4), (.ref w2)])) _
  refine st6 _ ?_
  show Steps p.tables e below (T6.setTop (mkF m 19 #[.val (.ref o0), .val (.long j1), .second, .val (.int i3), s4] [(.int w4), (.ref w2)])) _
  refine X6.baloadBytes hx (j := w4) (v := (.int w7)) (by rw [e6]; exact Ar6.1) (State.isArrayOf_alike hZ.alike Ar6.2.1) Ar6.2.2 hin19 hat19 (g := (mkF m 19 #[.val (.ref o0), .val (.long j1), .second, .val (.int i3), s4] [(.int w4), (.ref w2)])) rfl rfl (hb hby d4_19) _ ?_
  show Steps p.tables e below (T6.setTop (mkF m 20 #[.val (.ref o0), .val (.long j1), .second, .val (.int i3), s4] [(.int w7)])) _
  refine XS.istore X6.here hx rfl (hb hby d4_20) rfl (l' := #[.val (.ref o0), .val (.long j1), .second, .val (.int i3), .val (.int w7)]) (os4_20 hs4) ?_
  show Steps p.tables e below (T6.setTop (mkF m 22 #[.val (.ref o0), .val (.long j1), .second, .val (.int i3), .val (.int w7)] [])) _
  refine XS.lloadN X6.here hx rfl (hb hby d4_22) rfl ?_
  show Steps p.tables e below (T6.setTop (mkF m 23 #[.val (.ref o0), .val (.long j1), .second, .val (.int i3), .val (.int w7)] [(.long j1)])) _
  refine XS.iload X6.here hx rfl (hb hby d4_23) rfl ?_
  show Steps p.tables e below (T6.setTop (mkF m 25 #[.val (.ref o0), .val (.long j1), .second, .val (.int i3), .val (.int w7)] [(.int w7), (.long j1)])) _
  refine XS.bipush X6.here hx rfl (hb hby d4_25) ?_
  show Steps p.tables e below (T6.setTop (mkF m 27 #[.val (.ref o0), .val (.long j1), .second, .val (.int i3), .val (.int w7)] [(.int (127 : Int32)), (.int w7), (.long j1)])) _
  refine XS.iand X6.here hx rfl (hb hby d4_27) rfl ?_
  show Steps p.tables e below (T6.setTop (mkF m 28 #[.val (.ref o0), .val (.long j1), .second, .val (.int i3), .val (.int w7)] [(.int (w7 &&& (127 : Int32))), (.long j1)])) _
  refine XS.i2l X6.here hx rfl (hb hby d4_28) rfl ?_
  show Steps p.tables e below (T6.setTop (mkF m 29 #[.val (.ref o0), .val (.long j1), .second, .val (.int i3), .val (.int w7)] [(.long ((w7 &&& (127 : Int32)).toInt64)), (.long j1)])) _
  refine XS.iloadN X6.here hx rfl (hb hby d4_29) rfl ?_
  show Steps p.tables e below (T6.setTop (mkF m 30 #[.val (.ref o0), .val (.long j1), .second, .val (.int i3), .val (.int w7)] [(.int i3), (.long ((w7 &&& (127 : Int32)).toInt64)), (.long j1)])) _
  refine XS.lshl X6.here hx rfl (hb hby d4_30) rfl ?_
  show Steps p.tables e below (T6.setTop (mkF m 31 #[.val (.ref o0), .val (.long j1), .second, .val (.int i3), .val (.int w7)] [(.long (((w7 &&& (127 : Int32)).toInt64) <<< (i3 &&& 0x3f).toInt64)), (.long j1)])) _
  refine XS.lor X6.here hx rfl (hb hby d4_31) rfl ?_
  show Steps p.tables e below (T6.setTop (mkF m 32 #[.val (.ref o0), .val (.long j1), .second, .val (.int i3), .val (.int w7)] [(.long (j1 ||| (((w7 &&& (127 : Int32)).toInt64) <<< (i3 &&& 0x3f).toInt64)))])) _
  refine XS.lstoreN X6.here hx rfl (hb hby d4_32) rfl (l' := #[.val (.ref o0), .val (.long (j1 ||| (((w7 &&& (127 : Int32)).toInt64) <<< (i3 &&& 0x3f).toInt64))), .second, .val (.int i3), .val (.int w7)]) rfl ?_
  show Steps p.tables e below (T6.setTop (mkF m 33 #[.val (.ref o0), .val (.long (j1 ||| (((w7 &&& (127 : Int32)).toInt64) <<< (i3 &&& 0x3f).toInt64))), .second, .val (.int i3), .val (.int w7)] [])) _
  refine XS.iinc X6.here hx rfl (hb hby d4_33) rfl (l' := #[.val (.ref o0), .val (.long (j1 ||| (((w7 &&& (127 : Int32)).toInt64) <<< (i3 &&& 0x3f).toInt64))), .second, .val (.int (i3 + (7 : Int32))), .val (.int w7)]) rfl ?_
  show Steps p.tables e below (T6.setTop (mkF m 36 #[.val (.ref o0), .val (.long (j1 ||| (((w7 &&& (127 : Int32)).toInt64) <<< (i3 &&& 0x3f).toInt64))), .second, .val (.int (i3 + (7 : Int32))), .val (.int w7)] [])) _
  refine XS.iload X6.here hx rfl (hb hby d4_36) rfl ?_
  show Steps p.tables e below (T6.setTop (mkF m 38 #[.val (.ref o0), .val (.long (j1 ||| (((w7 &&& (127 : Int32)).toInt64) <<< (i3 &&& 0x3f).toInt64))), .second, .val (.int (i3 + (7 : Int32))), .val (.int w7)] [(.int w7)])) _
  refine XS.ifNo X6.here hx rfl (hb hby d4_38) rfl ((if0 _ _).trans (flt hc38).1) ?_
  exact kt
/-- the reading loop, whole: from its head (pc 4) with t bytes read, k + 1 left, to the pc behind (41) -/
theorem loop4 {p : Program} {l : Launch} {e : Env} {R : Room} {s : State} {m : MethodId} {args : Array Value} {below : List Frame} {meth : Method} {c : Code} {cells slots : Nat} {Z : State} {a0 : Array Value} {n0 : Nat} (o0 w2 : Addr) (B : Nat → Int32) (P K : Nat) (hx : p.tables.exec = Jvm.exec) (hZ : Z.Warmed39 s.vm) (hw : ∀ d ∈ tables_1, d.before a0 Z = true) (hby : c.code = prog_14_method_3_code) (hml : c.maxLocals = 5) (hown : s.vm.findClass "com/example/vor/vor/index/IndexFormat$Decoder" = some m.cls) (g_o0 : n0 ≤ o0) (hne : w2 ≠ o0) (cl : Cell) (S16 : cl.slots.size = 16) (hPK : P + K ≤ 16) (hat : ∀ j, j < K → cl.slots[P + j]? = some (.int (B j))) (hneg : ∀ j, j + 1 < K → B j < (0 : Int32)) (hlast : ¬ (B (K - 1) < (0 : Int32))) :
    ∀ (k t : Nat) (T0 : State) (h0 : Heap) (locs : List Loc) (s4 : Slot), One s4 → t + k + 1 = K → Stand p l e R s m args below meth c T0 locs cells slots → T0.heap = h0 → Fr n0 locs → Exa Z h0 o0 "com/example/vor/vor/index/IndexFormat$Decoder" → Fld Z h0 o0 "com/example/vor/vor/index/IndexFormat$Decoder" "bytes" "[B" (.ref w2) → Fld Z h0 o0 "com/example/vor/vor/index/IndexFormat$Decoder" "position" "I" (.int (Int32.ofNat (P + t))) → Arr Z h0 w2 cl .byte →
      ∃ (T' : State) (h' : Heap) (locs' : List Loc), Stand p l e R s m args below meth c T' locs' cells slots ∧ T'.heap = h' ∧ Fr n0 locs' ∧ h0.size ≤ h'.size ∧ Exa Z h' o0 "com/example/vor/vor/index/IndexFormat$Decoder" ∧ Fld Z h' o0 "com/example/vor/vor/index/IndexFormat$Decoder" "position" "I" (.int (Int32.ofNat (P + K))) ∧
        ∀ target, Steps p.tables e below (T'.setTop (mkF m 41 #[.val (.ref o0), .val (.long (own_acc B K)), .second, .val (.int (Int32.ofNat (7 * K))), .val (.int (B (K - 1)))] [])) target → Steps p.tables e below (T0.setTop (mkF m 4 #[.val (.ref o0), .val (.long (own_acc B t)), .second, .val (.int (Int32.ofNat (7 * t))), s4] [])) target := by
  intro k
  induction k with
  | zero =>
    intro t T0 h0 locs s4 hs4 ht X0 e0 N0 E0 Fb Fp Ar
    have hk : K = t + 1 := by omega
    have hk1 : K - 1 = t := by omega
    have hin : ¬ (Int32.ofNat (P + t) < 0 ∨ cl.slots.size ≤ (Int32.ofNat (P + t)).toNatClampNeg) := by
      rw [S16, own_n32 (by omega)]
      exact fun q => q.elim (own_nn (by omega)) (fun q => by omega)
    have hai : cl.slots[(Int32.ofNat (P + t)).toNatClampNeg]? = some (.int (B t)) := by rw [own_n32 (by omega)]; exact hat t (by omega)
    rw [hk1] at hlast
    obtain ⟨T1, h1, L1, X1, e1, N1, z1, E1, -, F1, -, st1⟩ := tn4_4_41 o0 (own_acc B t) (Int32.ofNat (7 * t)) s4 w2 (Int32.ofNat (P + t)) (B t) cl X0 hx hZ hw hby hml hown e0 Fb Fp E0 g_o0 Ar hin hai hs4 hlast N0 hne
    refine ⟨T1, h1, L1, X1, e1, N1, z1, E1, ?_, fun target h => st1 target ?_⟩
    · rw [hk]; rw [own_one] at F1; exact F1
    · rw [own_seven]
      rw [hk1, hk] at h
      exact h
  | succ k ih =>
    intro t T0 h0 locs s4 hs4 ht X0 e0 N0 E0 Fb Fp Ar
    have hin : ¬ (Int32.ofNat (P + t) < 0 ∨ cl.slots.size ≤ (Int32.ofNat (P + t)).toNatClampNeg) := by
      rw [S16, own_n32 (by omega)]
      exact fun q => q.elim (own_nn (by omega)) (fun q => by omega)
    have hai : cl.slots[(Int32.ofNat (P + t)).toNatClampNeg]? = some (.int (B t)) := by rw [own_n32 (by omega)]; exact hat t (by omega)
    obtain ⟨T1, h1, L1, X1, e1, N1, z1, E1, Fb1, F1, Ar1, st1⟩ := tn4_4_4 o0 (own_acc B t) (Int32.ofNat (7 * t)) s4 w2 (Int32.ofNat (P + t)) (B t) cl X0 hx hZ hw hby hml hown e0 Fb Fp E0 g_o0 Ar hin hai hs4 (hneg t (by omega)) N0 hne
    rw [own_one] at F1
    obtain ⟨T', h', L', X', e', N', z', E', F', st⟩ := ih (t + 1) T1 h1 L1 (.val (.int (B t))) (One.val rfl) (by omega) X1 e1 N1 E1 Fb1 F1 Ar1
    refine ⟨T', h', L', X', e', N', Nat.le_trans z1 z', E', F', fun target h => st1 target ?_⟩
    rw [own_seven]
    exact st target h
theorem d4_0 : decode prog_14_method_3_code 0 = .ok (.lconst 0, 1) := by decide +kernel
theorem d4_1 : decode prog_14_method_3_code 1 = .ok (.lstore_n 1, 1) := by decide +kernel
theorem d4_2 : decode prog_14_method_3_code 2 = .ok (.iconst 0, 1) := by decide +kernel
theorem d4_3 : decode prog_14_method_3_code 3 = .ok (.istore_n 3, 1) := by decide +kernel
theorem d4_41 : decode prog_14_method_3_code 41 = .ok (.lload_n 1, 1) := by decide +kernel
theorem d4_42 : decode prog_14_method_3_code 42 = .ok (.lreturn, 1) := by decide +kernel
theorem pn_4 : plainName "com/example/vor/vor/index/IndexFormat$Decoder" = true := by first | (simp [plainName, overriddenIn]; done) | decide +kernel
theorem ef_4 (m : MethodId) (x0 : Addr) : entryFrame m #[(.ref x0)] 5 = mkF m 0 #[.val (.ref x0), .unset, .unset, .unset, .unset] [] := by first | (simp [entryFrame, mkF, argsToLocals, Value.category]; done) | rfl
def Q4 (Z : State) (a1 : Addr) (B : Nat → Int32) (P K : Nat) (h0 : Heap) (n0 : Nat) (v : Option Value) (h : Heap) (L : List Loc) : Prop := v = some (.long (own_acc B K)) ∧ Fr n0 L ∧ h0.size ≤ h.size ∧ Exa Z h a1 "com/example/vor/vor/index/IndexFormat$Decoder" ∧ Fld Z h a1 "com/example/vor/vor/index/IndexFormat$Decoder" "position" "I" (.int (Int32.ofNat (P + K)))
set_option maxRecDepth 65536 in
set_option maxHeartbeats 40000000 in
theorem rm4 (l : Launch) (Z : State) (a0 : Array Value) (hw : ∀ d ∈ tables_1, d.before a0 Z = true) (ws : List Jvm.Cond) (a1 w2 : Addr) (B : Nat → Int32) (P K : Nat) (cl : Cell) (h0 : Heap) (n0 : Nat) (Z0 : n0 ≤ h0.size) (Fb : Fld Z h0 a1 "com/example/vor/vor/index/IndexFormat$Decoder" "bytes" "[B" (.ref w2)) (Fp : Fld Z h0 a1 "com/example/vor/vor/index/IndexFormat$Decoder" "position" "I" (.int (Int32.ofNat P))) (E_a1 : Exa Z h0 a1 "com/example/vor/vor/index/IndexFormat$Decoder") (g_a1 : n0 ≤ a1) (Ar : Arr Z h0 w2 cl .byte) (hne : w2 ≠ a1) (S16 : cl.slots.size = 16) (hPK : P + K ≤ 16) (hK1 : 1 ≤ K) (hat : ∀ j, j < K → cl.slots[P + j]? = some (.int (B j))) (hneg : ∀ j, j + 1 < K → B j < (0 : Int32)) (hlast : ¬ (B (K - 1) < (0 : Int32))) :
    MetFree l (⟨"com/example/vor/vor/index/IndexFormat$Decoder", "readNumber", "()J"⟩ : MethodName) (head1 (Jvm.Cond.code (⟨"com/example/vor/vor/index/IndexFormat$Decoder", "readNumber", "()J"⟩ : MethodName) prog_14_method_3_code 5 (some .long) :: ws) ({ frames := 0, cells := 0, slots := 0, locals := 0 } : Room)) (fun a U => a = #[(.ref a1)] ∧ Z.Warmed39 U.vm ∧ U.heap = h0) (fun _ _ _ _ _ => True) (fun _ U o U' => ∃ v L, o = .returned v ∧ Q4 Z a1 B P K h0 n0 v U'.heap L ∧ FrameEnd U o U' L ({ frames := 0, cells := 0, slots := 0, locals := 0 } : Room).cells ({ frames := 0, cells := 0, slots := 0, locals := 0 } : Room).slots) := by
  refine MetFree.of_bodySF (plainFor_of_name pn_4) hisR ?_
  intro p e s m args below meth c s₁ Bd hml0 hP hK
  obtain ⟨rfl, hZ, hh⟩ := hP
  have hx := Bd.exec
  have hby := Bd.bytes
  have hml : c.maxLocals = 5 := hml0
  have hown : s.vm.findClass "com/example/vor/vor/index/IndexFormat$Decoder" = some m.cls := findClass_of_methodNamed Bd.named
  have hnm := (name_of_methodNamed Bd.named Bd.method).1
  have X0 : Stand p l e ({ frames := 0, cells := 0, slots := 0, locals := 0 } : Room) s m #[(.ref a1)] below meth c s₁ [] 0 0 := Stand.of_body Bd
  have e0 : s₁.heap = h0 := by rw [← hh, Bd.state]; rfl
  have N0 := Fr.nil n0
  have pre0 : ∀ t, Steps p.tables e below (s₁.setTop (mkF m 0 #[.val (.ref a1), .unset, .unset, .unset, .unset] [])) t → Steps p.tables e below (s₁.setTop (entryFrame m #[(.ref a1)] 5)) t := fun t k => castTop (ef_4 m a1) k
  obtain ⟨T1, h1, L1, X1, e1, N1, z1, E1, F1, st1⟩ := loop4 a1 w2 B P K hx hZ hw hby hml hown g_a1 hne cl S16 hPK hat hneg hlast (K - 1) 0 s₁ h0 [] .unset One.u (by omega) X0 e0 N0 E_a1 Fb Fp Ar
  obtain ⟨fs, hr, hrun, hended, hW, hsame⟩ := X1.leave (v := some (.long (own_acc B K))) (fun h => by rw [Bd.returns] at h; cases h)
  refine ⟨_, _, pre0 _ ?_, hrun, hended, _, _, rfl, ?_, ⟨_, rfl⟩, hW, hsame.mono (by decide) (by decide)⟩
  · show Steps p.tables e below (s₁.setTop (mkF m 0 #[.val (.ref a1), .unset, .unset, .unset, .unset] [])) _
    refine XS.lconst X0.here hx rfl (hb hby d4_0) ?_
    show Steps p.tables e below (s₁.setTop (mkF m 1 #[.val (.ref a1), .unset, .unset, .unset, .unset] [(.long (0 : Int64))])) _
    refine XS.lstoreN X0.here hx rfl (hb hby d4_1) rfl (l' := #[.val (.ref a1), .val (.long (0 : Int64)), .second, .unset, .unset]) rfl ?_
    show Steps p.tables e below (s₁.setTop (mkF m 2 #[.val (.ref a1), .val (.long (0 : Int64)), .second, .unset, .unset] [])) _
    refine XS.iconst X0.here hx rfl (hb hby d4_2) ?_
    show Steps p.tables e below (s₁.setTop (mkF m 3 #[.val (.ref a1), .val (.long (0 : Int64)), .second, .unset, .unset] [(.int (0 : Int32))])) _
    refine XS.istoreN X0.here hx rfl (hb hby d4_3) rfl (l' := #[.val (.ref a1), .val (.long (0 : Int64)), .second, .val (.int (0 : Int32)), .unset]) rfl ?_
    show Steps p.tables e below (s₁.setTop (mkF m 4 #[.val (.ref a1), .val (.long (0 : Int64)), .second, .val (.int (0 : Int32)), .unset] [])) _
    refine st1 _ ?_
    show Steps p.tables e below (T1.setTop (mkF m 41 #[.val (.ref a1), .val (.long (own_acc B K)), .second, .val (.int (Int32.ofNat (7 * K))), .val (.int (B (K - 1)))] [])) _
    refine XS.lloadN X1.here hx rfl (hb hby d4_41) rfl ?_
    show Steps p.tables e below (T1.setTop (mkF m 42 #[.val (.ref a1), .val (.long (own_acc B K)), .second, .val (.int (Int32.ofNat (7 * K))), .val (.int (B (K - 1)))] [(.long (own_acc B K))])) _
    jvm_step X1.here [X1.here.top, hx, (hb hby d4_42), X1.method', Bd.returns, narrow]
    first | (intro acts; rw [hr _ acts rfl rfl rfl]) | rw [hr _ _ rfl rfl rfl]
    exact Steps.refl _
  · show Q4 Z a1 B P K h0 n0 _ T1.heap _
    rw [e1]
    exact ⟨rfl, N1, z1, E1, F1⟩
def own_any (Z : State) (h : Heap) (a : Addr) (k : ClassId) : Prop := ∃ vs : List Value, vs.length = 16 ∧ Arv Z h a k .byte (16 : Int32) vs (.int (0 : Int32))
set_option maxRecDepth 65536 in
set_option maxHeartbeats 40000000 in
theorem tn0_22_29 {p : Program} {l : Launch} {e : Env} {R : Room} {s : State} {m : MethodId} {args : Array Value} {below : List Frame} {meth : Method} {c : Code} {T0 : State} {locs : List Loc} {cells slots : Nat} {Z : State} {a0 : Array Value} {h0 : Heap} (s0 : Slot) (s1 : Slot) (s2 : Slot) (s3 : Slot) (i4 : Int32) (s5 : Slot) (s6 : Slot) (o7 : Addr) (s8 : Slot) (s9 : Slot) (s10 : Slot) (s11 : Slot) (s12 : Slot) (ka : ClassId) (n0 : Nat)
    (X0 : Stand p l e R s m args below meth c T0 locs cells slots) (hx : p.tables.exec = Jvm.exec) (hZ : Z.Warmed39 s.vm) (hw : ∀ d ∈ tables_1, d.before a0 Z = true) (hby : c.code = code) (hml : c.maxLocals = 13) (hown : s.vm.findClass "com/example/vor/vor/index/DecoderReadNumberPinLaw" = some m.cls) (e0 : T0.heap = h0) (g_o7 : n0 ≤ o7) (N0 : Fr n0 locs) (V0 : own_any Z h0 o7 ka) :
    ∃ (T' : State) (h' : Heap) (locs' : List Loc), Stand p l e R s m args below meth c T' locs' cells slots ∧ T'.heap = h' ∧ Fr n0 locs' ∧ h0.size ≤ h'.size ∧ own_any Z h' o7 ka ∧
      ∀ target, Steps p.tables e below (T'.setTop (mkF m 29 #[s0, s1, s2, s3, .val (.int i4), s5, s6, .val (.ref o7), s8, s9, s10, s11, s12] [])) target → Steps p.tables e below (T0.setTop (mkF m 22 #[s0, s1, s2, s3, .val (.int i4), s5, s6, .val (.ref o7), s8, s9, s10, s11, s12] [])) target := by
  obtain ⟨vs, hvs, V⟩ := V0
  obtain ⟨cl_o7, Ar_o7, q_o7, S_o7, N_o7, H_o7, G_o7⟩ := V
  have hin28 : ¬ ((0 : Int32) < 0 ∨ cl_o7.slots.size ≤ ((0 : Int32)).toNatClampNeg) := inb_of S_o7 ⟨by decide, by decide⟩
  obtain ⟨T5, h5, X5, e5, W5, st5⟩ := stB X0 hx hZ e0 Ar_o7 (j := (0 : Int32)) hin28 (g := (mkF m 28 #[s0, s1, s2, s3, .val (.int i4), s5, s6, .val (.ref o7), s8, s9, s10, s11, s12] [(.int (i4.toInt8.toInt32)), (.int (0 : Int32)), (.ref o7)])) rfl rfl (hb hby at_28)
  have N5 := Fr.snoc X5 N0 g_o7
  have K5 : Keep h0 h5 [o7] := (Keep.refl h0 [o7]).wr W5 (Or.inl (List.mem_of_getElem? (i := 0) rfl))
  refine ⟨T5, _, _, X5, e5, N5, K5.1, ⟨_, (by rw [List.length_set]; exact hvs), Arv.set Ar_o7 q_o7 S_o7 N_o7 H_o7 G_o7 (fits_nar_byte _) W5 0 rfl (by rw [hvs]; decide)⟩, fun target kt => ?_⟩
  show Steps p.tables e below (T0.setTop (mkF m 22 #[s0, s1, s2, s3, .val (.int i4), s5, s6, .val (.ref o7), s8, s9, s10, s11, s12] [])) _
  refine XS.aload X0.here hx rfl (hb hby at_22) rfl rfl ?_
  show Steps p.tables e below (T0.setTop (mkF m 24 #[s0, s1, s2, s3, .val (.int i4), s5, s6, .val (.ref o7), s8, s9, s10, s11, s12] [(.ref o7)])) _
  refine XS.iconst X0.here hx rfl (hb hby at_24) ?_
  show Steps p.tables e below (T0.setTop (mkF m 25 #[s0, s1, s2, s3, .val (.int i4), s5, s6, .val (.ref o7), s8, s9, s10, s11, s12] [(.int (0 : Int32)), (.ref o7)])) _
  refine XS.iload X0.here hx rfl (hb hby at_25) rfl ?_
  show Steps p.tables e below (T0.setTop (mkF m 27 #[s0, s1, s2, s3, .val (.int i4), s5, s6, .val (.ref o7), s8, s9, s10, s11, s12] [(.int i4), (.int (0 : Int32)), (.ref o7)])) _
  refine XS.i2b X0.here hx rfl (hb hby at_27) rfl ?_
  show Steps p.tables e below (T0.setTop (mkF m 28 #[s0, s1, s2, s3, .val (.int i4), s5, s6, .val (.ref o7), s8, s9, s10, s11, s12] [(.int (i4.toInt8.toInt32)), (.int (0 : Int32)), (.ref o7)])) _
  refine st5 _ ?_
  exact kt
set_option maxRecDepth 65536 in
set_option maxHeartbeats 40000000 in
theorem tn0_29_38 {p : Program} {l : Launch} {e : Env} {R : Room} {s : State} {m : MethodId} {args : Array Value} {below : List Frame} {meth : Method} {c : Code} {T0 : State} {locs : List Loc} {cells slots : Nat} {Z : State} {a0 : Array Value} {h0 : Heap} (s0 : Slot) (s1 : Slot) (s2 : Slot) (s3 : Slot) (i4 : Int32) (s5 : Slot) (s6 : Slot) (o7 : Addr) (s8 : Slot) (s9 : Slot) (s10 : Slot) (s11 : Slot) (s12 : Slot) (ka : ClassId) (n0 : Nat)
    (X0 : Stand p l e R s m args below meth c T0 locs cells slots) (hx : p.tables.exec = Jvm.exec) (hZ : Z.Warmed39 s.vm) (hw : ∀ d ∈ tables_1, d.before a0 Z = true) (hby : c.code = code) (hml : c.maxLocals = 13) (hown : s.vm.findClass "com/example/vor/vor/index/DecoderReadNumberPinLaw" = some m.cls) (e0 : T0.heap = h0) (g_o7 : n0 ≤ o7) (N0 : Fr n0 locs) (V0 : own_any Z h0 o7 ka) :
    ∃ (T' : State) (h' : Heap) (locs' : List Loc), Stand p l e R s m args below meth c T' locs' cells slots ∧ T'.heap = h' ∧ Fr n0 locs' ∧ h0.size ≤ h'.size ∧ own_any Z h' o7 ka ∧
      ∀ target, Steps p.tables e below (T'.setTop (mkF m 38 #[s0, s1, s2, s3, .val (.int i4), s5, s6, .val (.ref o7), s8, s9, s10, s11, s12] [])) target → Steps p.tables e below (T0.setTop (mkF m 29 #[s0, s1, s2, s3, .val (.int i4), s5, s6, .val (.ref o7), s8, s9, s10, s11, s12] [])) target := by
  obtain ⟨vs, hvs, V⟩ := V0
  obtain ⟨cl_o7, Ar_o7, q_o7, S_o7, N_o7, H_o7, G_o7⟩ := V
  have hin37 : ¬ ((1 : Int32) < 0 ∨ cl_o7.slots.size ≤ ((1 : Int32)).toNatClampNeg) := inb_of S_o7 ⟨by decide, by decide⟩
  obtain ⟨T5, h5, X5, e5, W5, st5⟩ := stB X0 hx hZ e0 Ar_o7 (j := (1 : Int32)) hin37 (g := (mkF m 37 #[s0, s1, s2, s3, .val (.int i4), s5, s6, .val (.ref o7), s8, s9, s10, s11, s12] [(.int (((i4.toUInt32 >>> ((1 : Int32) &&& 31).toUInt32).toInt32).toInt8.toInt32)), (.int (1 : Int32)), (.ref o7)])) rfl rfl (hb hby at_37)
  have N5 := Fr.snoc X5 N0 g_o7
  have K5 : Keep h0 h5 [o7] := (Keep.refl h0 [o7]).wr W5 (Or.inl (List.mem_of_getElem? (i := 0) rfl))
  refine ⟨T5, _, _, X5, e5, N5, K5.1, ⟨_, (by rw [List.length_set]; exact hvs), Arv.set Ar_o7 q_o7 S_o7 N_o7 H_o7 G_o7 (fits_nar_byte _) W5 1 rfl (by rw [hvs]; decide)⟩, fun target kt => ?_⟩
  show Steps p.tables e below (T0.setTop (mkF m 29 #[s0, s1, s2, s3, .val (.int i4), s5, s6, .val (.ref o7), s8, s9, s10, s11, s12] [])) _
  refine XS.aload X0.here hx rfl (hb hby at_29) rfl rfl ?_
  show Steps p.tables e below (T0.setTop (mkF m 31 #[s0, s1, s2, s3, .val (.int i4), s5, s6, .val (.ref o7), s8, s9, s10, s11, s12] [(.ref o7)])) _
  refine XS.iconst X0.here hx rfl (hb hby at_31) ?_
  show Steps p.tables e below (T0.setTop (mkF m 32 #[s0, s1, s2, s3, .val (.int i4), s5, s6, .val (.ref o7), s8, s9, s10, s11, s12] [(.int (1 : Int32)), (.ref o7)])) _
  refine XS.iload X0.here hx rfl (hb hby at_32) rfl ?_
  show Steps p.tables e below (T0.setTop (mkF m 34 #[s0, s1, s2, s3, .val (.int i4), s5, s6, .val (.ref o7), s8, s9, s10, s11, s12] [(.int i4), (.int (1 : Int32)), (.ref o7)])) _
  refine XS.iconst X0.here hx rfl (hb hby at_34) ?_
  show Steps p.tables e below (T0.setTop (mkF m 35 #[s0, s1, s2, s3, .val (.int i4), s5, s6, .val (.ref o7), s8, s9, s10, s11, s12] [(.int (1 : Int32)), (.int i4), (.int (1 : Int32)), (.ref o7)])) _
  refine XS.iushr X0.here hx rfl (hb hby at_35) rfl ?_
  show Steps p.tables e below (T0.setTop (mkF m 36 #[s0, s1, s2, s3, .val (.int i4), s5, s6, .val (.ref o7), s8, s9, s10, s11, s12] [(.int ((i4.toUInt32 >>> ((1 : Int32) &&& 31).toUInt32).toInt32)), (.int (1 : Int32)), (.ref o7)])) _
  refine XS.i2b X0.here hx rfl (hb hby at_36) rfl ?_
  show Steps p.tables e below (T0.setTop (mkF m 37 #[s0, s1, s2, s3, .val (.int i4), s5, s6, .val (.ref o7), s8, s9, s10, s11, s12] [(.int (((i4.toUInt32 >>> ((1 : Int32) &&& 31).toUInt32).toInt32).toInt8.toInt32)), (.int (1 : Int32)), (.ref o7)])) _
  refine st5 _ ?_
  exact kt
set_option maxRecDepth 65536 in
set_option maxHeartbeats 40000000 in
theorem tn0_38_47 {p : Program} {l : Launch} {e : Env} {R : Room} {s : State} {m : MethodId} {args : Array Value} {below : List Frame} {meth : Method} {c : Code} {T0 : State} {locs : List Loc} {cells slots : Nat} {Z : State} {a0 : Array Value} {h0 : Heap} (s0 : Slot) (s1 : Slot) (s2 : Slot) (s3 : Slot) (i4 : Int32) (s5 : Slot) (s6 : Slot) (o7 : Addr) (s8 : Slot) (s9 : Slot) (s10 : Slot) (s11 : Slot) (s12 : Slot) (ka : ClassId) (n0 : Nat)
    (X0 : Stand p l e R s m args below meth c T0 locs cells slots) (hx : p.tables.exec = Jvm.exec) (hZ : Z.Warmed39 s.vm) (hw : ∀ d ∈ tables_1, d.before a0 Z = true) (hby : c.code = code) (hml : c.maxLocals = 13) (hown : s.vm.findClass "com/example/vor/vor/index/DecoderReadNumberPinLaw" = some m.cls) (e0 : T0.heap = h0) (g_o7 : n0 ≤ o7) (N0 : Fr n0 locs) (V0 : own_any Z h0 o7 ka) :
    ∃ (T' : State) (h' : Heap) (locs' : List Loc), Stand p l e R s m args below meth c T' locs' cells slots ∧ T'.heap = h' ∧ Fr n0 locs' ∧ h0.size ≤ h'.size ∧ own_any Z h' o7 ka ∧
      ∀ target, Steps p.tables e below (T'.setTop (mkF m 47 #[s0, s1, s2, s3, .val (.int i4), s5, s6, .val (.ref o7), s8, s9, s10, s11, s12] [])) target → Steps p.tables e below (T0.setTop (mkF m 38 #[s0, s1, s2, s3, .val (.int i4), s5, s6, .val (.ref o7), s8, s9, s10, s11, s12] [])) target := by
  obtain ⟨vs, hvs, V⟩ := V0
  obtain ⟨cl_o7, Ar_o7, q_o7, S_o7, N_o7, H_o7, G_o7⟩ := V
  have hin46 : ¬ ((2 : Int32) < 0 ∨ cl_o7.slots.size ≤ ((2 : Int32)).toNatClampNeg) := inb_of S_o7 ⟨by decide, by decide⟩
  obtain ⟨T5, h5, X5, e5, W5, st5⟩ := stB X0 hx hZ e0 Ar_o7 (j := (2 : Int32)) hin46 (g := (mkF m 46 #[s0, s1, s2, s3, .val (.int i4), s5, s6, .val (.ref o7), s8, s9, s10, s11, s12] [(.int (((i4.toUInt32 >>> ((2 : Int32) &&& 31).toUInt32).toInt32).toInt8.toInt32)), (.int (2 : Int32)), (.ref o7)])) rfl rfl (hb hby at_46)
  have N5 := Fr.snoc X5 N0 g_o7
  have K5 : Keep h0 h5 [o7] := (Keep.refl h0 [o7]).wr W5 (Or.inl (List.mem_of_getElem? (i := 0) rfl))
  refine ⟨T5, _, _, X5, e5, N5, K5.1, ⟨_, (by rw [List.length_set]; exact hvs), Arv.set Ar_o7 q_o7 S_o7 N_o7 H_o7 G_o7 (fits_nar_byte _) W5 2 rfl (by rw [hvs]; decide)⟩, fun target kt => ?_⟩
  show Steps p.tables e below (T0.setTop (mkF m 38 #[s0, s1, s2, s3, .val (.int i4), s5, s6, .val (.ref o7), s8, s9, s10, s11, s12] [])) _
  refine XS.aload X0.here hx rfl (hb hby at_38) rfl rfl ?_
  show Steps p.tables e below (T0.setTop (mkF m 40 #[s0, s1, s2, s3, .val (.int i4), s5, s6, .val (.ref o7), s8, s9, s10, s11, s12] [(.ref o7)])) _
  refine XS.iconst X0.here hx rfl (hb hby at_40) ?_
  show Steps p.tables e below (T0.setTop (mkF m 41 #[s0, s1, s2, s3, .val (.int i4), s5, s6, .val (.ref o7), s8, s9, s10, s11, s12] [(.int (2 : Int32)), (.ref o7)])) _
  refine XS.iload X0.here hx rfl (hb hby at_41) rfl ?_
  show Steps p.tables e below (T0.setTop (mkF m 43 #[s0, s1, s2, s3, .val (.int i4), s5, s6, .val (.ref o7), s8, s9, s10, s11, s12] [(.int i4), (.int (2 : Int32)), (.ref o7)])) _
  refine XS.iconst X0.here hx rfl (hb hby at_43) ?_
  show Steps p.tables e below (T0.setTop (mkF m 44 #[s0, s1, s2, s3, .val (.int i4), s5, s6, .val (.ref o7), s8, s9, s10, s11, s12] [(.int (2 : Int32)), (.int i4), (.int (2 : Int32)), (.ref o7)])) _
  refine XS.iushr X0.here hx rfl (hb hby at_44) rfl ?_
  show Steps p.tables e below (T0.setTop (mkF m 45 #[s0, s1, s2, s3, .val (.int i4), s5, s6, .val (.ref o7), s8, s9, s10, s11, s12] [(.int ((i4.toUInt32 >>> ((2 : Int32) &&& 31).toUInt32).toInt32)), (.int (2 : Int32)), (.ref o7)])) _
  refine XS.i2b X0.here hx rfl (hb hby at_45) rfl ?_
  show Steps p.tables e below (T0.setTop (mkF m 46 #[s0, s1, s2, s3, .val (.int i4), s5, s6, .val (.ref o7), s8, s9, s10, s11, s12] [(.int (((i4.toUInt32 >>> ((2 : Int32) &&& 31).toUInt32).toInt32).toInt8.toInt32)), (.int (2 : Int32)), (.ref o7)])) _
  refine st5 _ ?_
  exact kt
set_option maxRecDepth 65536 in
set_option maxHeartbeats 40000000 in
theorem tn0_47_56 {p : Program} {l : Launch} {e : Env} {R : Room} {s : State} {m : MethodId} {args : Array Value} {below : List Frame} {meth : Method} {c : Code} {T0 : State} {locs : List Loc} {cells slots : Nat} {Z : State} {a0 : Array Value} {h0 : Heap} (s0 : Slot) (s1 : Slot) (s2 : Slot) (s3 : Slot) (i4 : Int32) (s5 : Slot) (s6 : Slot) (o7 : Addr) (s8 : Slot) (s9 : Slot) (s10 : Slot) (s11 : Slot) (s12 : Slot) (ka : ClassId) (n0 : Nat)
    (X0 : Stand p l e R s m args below meth c T0 locs cells slots) (hx : p.tables.exec = Jvm.exec) (hZ : Z.Warmed39 s.vm) (hw : ∀ d ∈ tables_1, d.before a0 Z = true) (hby : c.code = code) (hml : c.maxLocals = 13) (hown : s.vm.findClass "com/example/vor/vor/index/DecoderReadNumberPinLaw" = some m.cls) (e0 : T0.heap = h0) (g_o7 : n0 ≤ o7) (N0 : Fr n0 locs) (V0 : own_any Z h0 o7 ka) :
    ∃ (T' : State) (h' : Heap) (locs' : List Loc), Stand p l e R s m args below meth c T' locs' cells slots ∧ T'.heap = h' ∧ Fr n0 locs' ∧ h0.size ≤ h'.size ∧ own_any Z h' o7 ka ∧
      ∀ target, Steps p.tables e below (T'.setTop (mkF m 56 #[s0, s1, s2, s3, .val (.int i4), s5, s6, .val (.ref o7), s8, s9, s10, s11, s12] [])) target → Steps p.tables e below (T0.setTop (mkF m 47 #[s0, s1, s2, s3, .val (.int i4), s5, s6, .val (.ref o7), s8, s9, s10, s11, s12] [])) target := by
  obtain ⟨vs, hvs, V⟩ := V0
  obtain ⟨cl_o7, Ar_o7, q_o7, S_o7, N_o7, H_o7, G_o7⟩ := V
  have hin55 : ¬ ((3 : Int32) < 0 ∨ cl_o7.slots.size ≤ ((3 : Int32)).toNatClampNeg) := inb_of S_o7 ⟨by decide, by decide⟩
  obtain ⟨T5, h5, X5, e5, W5, st5⟩ := stB X0 hx hZ e0 Ar_o7 (j := (3 : Int32)) hin55 (g := (mkF m 55 #[s0, s1, s2, s3, .val (.int i4), s5, s6, .val (.ref o7), s8, s9, s10, s11, s12] [(.int (((i4.toUInt32 >>> ((3 : Int32) &&& 31).toUInt32).toInt32).toInt8.toInt32)), (.int (3 : Int32)), (.ref o7)])) rfl rfl (hb hby at_55)
  have N5 := Fr.snoc X5 N0 g_o7
  have K5 : Keep h0 h5 [o7] := (Keep.refl h0 [o7]).wr W5 (Or.inl (List.mem_of_getElem? (i := 0) rfl))
  refine ⟨T5, _, _, X5, e5, N5, K5.1, ⟨_, (by rw [List.length_set]; exact hvs), Arv.set Ar_o7 q_o7 S_o7 N_o7 H_o7 G_o7 (fits_nar_byte _) W5 3 rfl (by rw [hvs]; decide)⟩, fun target kt => ?_⟩
  show Steps p.tables e below (T0.setTop (mkF m 47 #[s0, s1, s2, s3, .val (.int i4), s5, s6, .val (.ref o7), s8, s9, s10, s11, s12] [])) _
  refine XS.aload X0.here hx rfl (hb hby at_47) rfl rfl ?_
  show Steps p.tables e below (T0.setTop (mkF m 49 #[s0, s1, s2, s3, .val (.int i4), s5, s6, .val (.ref o7), s8, s9, s10, s11, s12] [(.ref o7)])) _
  refine XS.iconst X0.here hx rfl (hb hby at_49) ?_
  show Steps p.tables e below (T0.setTop (mkF m 50 #[s0, s1, s2, s3, .val (.int i4), s5, s6, .val (.ref o7), s8, s9, s10, s11, s12] [(.int (3 : Int32)), (.ref o7)])) _
  refine XS.iload X0.here hx rfl (hb hby at_50) rfl ?_
  show Steps p.tables e below (T0.setTop (mkF m 52 #[s0, s1, s2, s3, .val (.int i4), s5, s6, .val (.ref o7), s8, s9, s10, s11, s12] [(.int i4), (.int (3 : Int32)), (.ref o7)])) _
  refine XS.iconst X0.here hx rfl (hb hby at_52) ?_
  show Steps p.tables e below (T0.setTop (mkF m 53 #[s0, s1, s2, s3, .val (.int i4), s5, s6, .val (.ref o7), s8, s9, s10, s11, s12] [(.int (3 : Int32)), (.int i4), (.int (3 : Int32)), (.ref o7)])) _
  refine XS.iushr X0.here hx rfl (hb hby at_53) rfl ?_
  show Steps p.tables e below (T0.setTop (mkF m 54 #[s0, s1, s2, s3, .val (.int i4), s5, s6, .val (.ref o7), s8, s9, s10, s11, s12] [(.int ((i4.toUInt32 >>> ((3 : Int32) &&& 31).toUInt32).toInt32)), (.int (3 : Int32)), (.ref o7)])) _
  refine XS.i2b X0.here hx rfl (hb hby at_54) rfl ?_
  show Steps p.tables e below (T0.setTop (mkF m 55 #[s0, s1, s2, s3, .val (.int i4), s5, s6, .val (.ref o7), s8, s9, s10, s11, s12] [(.int (((i4.toUInt32 >>> ((3 : Int32) &&& 31).toUInt32).toInt32).toInt8.toInt32)), (.int (3 : Int32)), (.ref o7)])) _
  refine st5 _ ?_
  exact kt
set_option maxRecDepth 65536 in
set_option maxHeartbeats 40000000 in
theorem tn0_56_65 {p : Program} {l : Launch} {e : Env} {R : Room} {s : State} {m : MethodId} {args : Array Value} {below : List Frame} {meth : Method} {c : Code} {T0 : State} {locs : List Loc} {cells slots : Nat} {Z : State} {a0 : Array Value} {h0 : Heap} (s0 : Slot) (s1 : Slot) (s2 : Slot) (s3 : Slot) (i4 : Int32) (s5 : Slot) (s6 : Slot) (o7 : Addr) (s8 : Slot) (s9 : Slot) (s10 : Slot) (s11 : Slot) (s12 : Slot) (ka : ClassId) (n0 : Nat)
    (X0 : Stand p l e R s m args below meth c T0 locs cells slots) (hx : p.tables.exec = Jvm.exec) (hZ : Z.Warmed39 s.vm) (hw : ∀ d ∈ tables_1, d.before a0 Z = true) (hby : c.code = code) (hml : c.maxLocals = 13) (hown : s.vm.findClass "com/example/vor/vor/index/DecoderReadNumberPinLaw" = some m.cls) (e0 : T0.heap = h0) (g_o7 : n0 ≤ o7) (N0 : Fr n0 locs) (V0 : own_any Z h0 o7 ka) :
    ∃ (T' : State) (h' : Heap) (locs' : List Loc), Stand p l e R s m args below meth c T' locs' cells slots ∧ T'.heap = h' ∧ Fr n0 locs' ∧ h0.size ≤ h'.size ∧ own_any Z h' o7 ka ∧
      ∀ target, Steps p.tables e below (T'.setTop (mkF m 65 #[s0, s1, s2, s3, .val (.int i4), s5, s6, .val (.ref o7), s8, s9, s10, s11, s12] [])) target → Steps p.tables e below (T0.setTop (mkF m 56 #[s0, s1, s2, s3, .val (.int i4), s5, s6, .val (.ref o7), s8, s9, s10, s11, s12] [])) target := by
  obtain ⟨vs, hvs, V⟩ := V0
  obtain ⟨cl_o7, Ar_o7, q_o7, S_o7, N_o7, H_o7, G_o7⟩ := V
  have hin64 : ¬ ((4 : Int32) < 0 ∨ cl_o7.slots.size ≤ ((4 : Int32)).toNatClampNeg) := inb_of S_o7 ⟨by decide, by decide⟩
  obtain ⟨T5, h5, X5, e5, W5, st5⟩ := stB X0 hx hZ e0 Ar_o7 (j := (4 : Int32)) hin64 (g := (mkF m 64 #[s0, s1, s2, s3, .val (.int i4), s5, s6, .val (.ref o7), s8, s9, s10, s11, s12] [(.int (((i4.toUInt32 >>> ((4 : Int32) &&& 31).toUInt32).toInt32).toInt8.toInt32)), (.int (4 : Int32)), (.ref o7)])) rfl rfl (hb hby at_64)
  have N5 := Fr.snoc X5 N0 g_o7
  have K5 : Keep h0 h5 [o7] := (Keep.refl h0 [o7]).wr W5 (Or.inl (List.mem_of_getElem? (i := 0) rfl))
  refine ⟨T5, _, _, X5, e5, N5, K5.1, ⟨_, (by rw [List.length_set]; exact hvs), Arv.set Ar_o7 q_o7 S_o7 N_o7 H_o7 G_o7 (fits_nar_byte _) W5 4 rfl (by rw [hvs]; decide)⟩, fun target kt => ?_⟩
  show Steps p.tables e below (T0.setTop (mkF m 56 #[s0, s1, s2, s3, .val (.int i4), s5, s6, .val (.ref o7), s8, s9, s10, s11, s12] [])) _
  refine XS.aload X0.here hx rfl (hb hby at_56) rfl rfl ?_
  show Steps p.tables e below (T0.setTop (mkF m 58 #[s0, s1, s2, s3, .val (.int i4), s5, s6, .val (.ref o7), s8, s9, s10, s11, s12] [(.ref o7)])) _
  refine XS.iconst X0.here hx rfl (hb hby at_58) ?_
  show Steps p.tables e below (T0.setTop (mkF m 59 #[s0, s1, s2, s3, .val (.int i4), s5, s6, .val (.ref o7), s8, s9, s10, s11, s12] [(.int (4 : Int32)), (.ref o7)])) _
  refine XS.iload X0.here hx rfl (hb hby at_59) rfl ?_
  show Steps p.tables e below (T0.setTop (mkF m 61 #[s0, s1, s2, s3, .val (.int i4), s5, s6, .val (.ref o7), s8, s9, s10, s11, s12] [(.int i4), (.int (4 : Int32)), (.ref o7)])) _
  refine XS.iconst X0.here hx rfl (hb hby at_61) ?_
  show Steps p.tables e below (T0.setTop (mkF m 62 #[s0, s1, s2, s3, .val (.int i4), s5, s6, .val (.ref o7), s8, s9, s10, s11, s12] [(.int (4 : Int32)), (.int i4), (.int (4 : Int32)), (.ref o7)])) _
  refine XS.iushr X0.here hx rfl (hb hby at_62) rfl ?_
  show Steps p.tables e below (T0.setTop (mkF m 63 #[s0, s1, s2, s3, .val (.int i4), s5, s6, .val (.ref o7), s8, s9, s10, s11, s12] [(.int ((i4.toUInt32 >>> ((4 : Int32) &&& 31).toUInt32).toInt32)), (.int (4 : Int32)), (.ref o7)])) _
  refine XS.i2b X0.here hx rfl (hb hby at_63) rfl ?_
  show Steps p.tables e below (T0.setTop (mkF m 64 #[s0, s1, s2, s3, .val (.int i4), s5, s6, .val (.ref o7), s8, s9, s10, s11, s12] [(.int (((i4.toUInt32 >>> ((4 : Int32) &&& 31).toUInt32).toInt32).toInt8.toInt32)), (.int (4 : Int32)), (.ref o7)])) _
  refine st5 _ ?_
  exact kt
set_option maxRecDepth 65536 in
set_option maxHeartbeats 40000000 in
theorem tn0_65_74 {p : Program} {l : Launch} {e : Env} {R : Room} {s : State} {m : MethodId} {args : Array Value} {below : List Frame} {meth : Method} {c : Code} {T0 : State} {locs : List Loc} {cells slots : Nat} {Z : State} {a0 : Array Value} {h0 : Heap} (s0 : Slot) (s1 : Slot) (s2 : Slot) (s3 : Slot) (i4 : Int32) (s5 : Slot) (s6 : Slot) (o7 : Addr) (s8 : Slot) (s9 : Slot) (s10 : Slot) (s11 : Slot) (s12 : Slot) (ka : ClassId) (n0 : Nat)
    (X0 : Stand p l e R s m args below meth c T0 locs cells slots) (hx : p.tables.exec = Jvm.exec) (hZ : Z.Warmed39 s.vm) (hw : ∀ d ∈ tables_1, d.before a0 Z = true) (hby : c.code = code) (hml : c.maxLocals = 13) (hown : s.vm.findClass "com/example/vor/vor/index/DecoderReadNumberPinLaw" = some m.cls) (e0 : T0.heap = h0) (g_o7 : n0 ≤ o7) (N0 : Fr n0 locs) (V0 : own_any Z h0 o7 ka) :
    ∃ (T' : State) (h' : Heap) (locs' : List Loc), Stand p l e R s m args below meth c T' locs' cells slots ∧ T'.heap = h' ∧ Fr n0 locs' ∧ h0.size ≤ h'.size ∧ own_any Z h' o7 ka ∧
      ∀ target, Steps p.tables e below (T'.setTop (mkF m 74 #[s0, s1, s2, s3, .val (.int i4), s5, s6, .val (.ref o7), s8, s9, s10, s11, s12] [])) target → Steps p.tables e below (T0.setTop (mkF m 65 #[s0, s1, s2, s3, .val (.int i4), s5, s6, .val (.ref o7), s8, s9, s10, s11, s12] [])) target := by
  obtain ⟨vs, hvs, V⟩ := V0
  obtain ⟨cl_o7, Ar_o7, q_o7, S_o7, N_o7, H_o7, G_o7⟩ := V
  have hin73 : ¬ ((5 : Int32) < 0 ∨ cl_o7.slots.size ≤ ((5 : Int32)).toNatClampNeg) := inb_of S_o7 ⟨by decide, by decide⟩
  obtain ⟨T5, h5, X5, e5, W5, st5⟩ := stB X0 hx hZ e0 Ar_o7 (j := (5 : Int32)) hin73 (g := (mkF m 73 #[s0, s1, s2, s3, .val (.int i4), s5, s6, .val (.ref o7), s8, s9, s10, s11, s12] [(.int (((i4.toUInt32 >>> ((5 : Int32) &&& 31).toUInt32).toInt32).toInt8.toInt32)), (.int (5 : Int32)), (.ref o7)])) rfl rfl (hb hby at_73)
  have N5 := Fr.snoc X5 N0 g_o7
  have K5 : Keep h0 h5 [o7] := (Keep.refl h0 [o7]).wr W5 (Or.inl (List.mem_of_getElem? (i := 0) rfl))
  refine ⟨T5, _, _, X5, e5, N5, K5.1, ⟨_, (by rw [List.length_set]; exact hvs), Arv.set Ar_o7 q_o7 S_o7 N_o7 H_o7 G_o7 (fits_nar_byte _) W5 5 rfl (by rw [hvs]; decide)⟩, fun target kt => ?_⟩
  show Steps p.tables e below (T0.setTop (mkF m 65 #[s0, s1, s2, s3, .val (.int i4), s5, s6, .val (.ref o7), s8, s9, s10, s11, s12] [])) _
  refine XS.aload X0.here hx rfl (hb hby at_65) rfl rfl ?_
  show Steps p.tables e below (T0.setTop (mkF m 67 #[s0, s1, s2, s3, .val (.int i4), s5, s6, .val (.ref o7), s8, s9, s10, s11, s12] [(.ref o7)])) _
  refine XS.iconst X0.here hx rfl (hb hby at_67) ?_
  show Steps p.tables e below (T0.setTop (mkF m 68 #[s0, s1, s2, s3, .val (.int i4), s5, s6, .val (.ref o7), s8, s9, s10, s11, s12] [(.int (5 : Int32)), (.ref o7)])) _
  refine XS.iload X0.here hx rfl (hb hby at_68) rfl ?_
  show Steps p.tables e below (T0.setTop (mkF m 70 #[s0, s1, s2, s3, .val (.int i4), s5, s6, .val (.ref o7), s8, s9, s10, s11, s12] [(.int i4), (.int (5 : Int32)), (.ref o7)])) _
  refine XS.iconst X0.here hx rfl (hb hby at_70) ?_
  show Steps p.tables e below (T0.setTop (mkF m 71 #[s0, s1, s2, s3, .val (.int i4), s5, s6, .val (.ref o7), s8, s9, s10, s11, s12] [(.int (5 : Int32)), (.int i4), (.int (5 : Int32)), (.ref o7)])) _
  refine XS.iushr X0.here hx rfl (hb hby at_71) rfl ?_
  show Steps p.tables e below (T0.setTop (mkF m 72 #[s0, s1, s2, s3, .val (.int i4), s5, s6, .val (.ref o7), s8, s9, s10, s11, s12] [(.int ((i4.toUInt32 >>> ((5 : Int32) &&& 31).toUInt32).toInt32)), (.int (5 : Int32)), (.ref o7)])) _
  refine XS.i2b X0.here hx rfl (hb hby at_72) rfl ?_
  show Steps p.tables e below (T0.setTop (mkF m 73 #[s0, s1, s2, s3, .val (.int i4), s5, s6, .val (.ref o7), s8, s9, s10, s11, s12] [(.int (((i4.toUInt32 >>> ((5 : Int32) &&& 31).toUInt32).toInt32).toInt8.toInt32)), (.int (5 : Int32)), (.ref o7)])) _
  refine st5 _ ?_
  exact kt
set_option maxRecDepth 65536 in
set_option maxHeartbeats 40000000 in
theorem tn0_74_85 {p : Program} {l : Launch} {e : Env} {R : Room} {s : State} {m : MethodId} {args : Array Value} {below : List Frame} {meth : Method} {c : Code} {T0 : State} {locs : List Loc} {cells slots : Nat} {Z : State} {a0 : Array Value} {h0 : Heap} (s0 : Slot) (s1 : Slot) (s2 : Slot) (s3 : Slot) (i4 : Int32) (s5 : Slot) (s6 : Slot) (o7 : Addr) (s8 : Slot) (s9 : Slot) (s10 : Slot) (s11 : Slot) (s12 : Slot) (ka : ClassId) (n0 : Nat)
    (X0 : Stand p l e R s m args below meth c T0 locs cells slots) (hx : p.tables.exec = Jvm.exec) (hZ : Z.Warmed39 s.vm) (hw : ∀ d ∈ tables_1, d.before a0 Z = true) (hby : c.code = code) (hml : c.maxLocals = 13) (hown : s.vm.findClass "com/example/vor/vor/index/DecoderReadNumberPinLaw" = some m.cls) (e0 : T0.heap = h0) (g_o7 : n0 ≤ o7) (N0 : Fr n0 locs) (V0 : own_any Z h0 o7 ka) :
    ∃ (T' : State) (h' : Heap) (locs' : List Loc), Stand p l e R s m args below meth c T' locs' cells slots ∧ T'.heap = h' ∧ Fr n0 locs' ∧ h0.size ≤ h'.size ∧ own_any Z h' o7 ka ∧
      ∀ target, Steps p.tables e below (T'.setTop (mkF m 85 #[s0, s1, s2, s3, .val (.int i4), s5, s6, .val (.ref o7), s8, s9, s10, s11, s12] [])) target → Steps p.tables e below (T0.setTop (mkF m 74 #[s0, s1, s2, s3, .val (.int i4), s5, s6, .val (.ref o7), s8, s9, s10, s11, s12] [])) target := by
  obtain ⟨vs, hvs, V⟩ := V0
  obtain ⟨cl_o7, Ar_o7, q_o7, S_o7, N_o7, H_o7, G_o7⟩ := V
  have hin84 : ¬ ((6 : Int32) < 0 ∨ cl_o7.slots.size ≤ ((6 : Int32)).toNatClampNeg) := inb_of S_o7 ⟨by decide, by decide⟩
  obtain ⟨T5, h5, X5, e5, W5, st5⟩ := stB X0 hx hZ e0 Ar_o7 (j := (6 : Int32)) hin84 (g := (mkF m 84 #[s0, s1, s2, s3, .val (.int i4), s5, s6, .val (.ref o7), s8, s9, s10, s11, s12] [(.int (((i4.toUInt32 >>> ((6 : Int32) &&& 31).toUInt32).toInt32).toInt8.toInt32)), (.int (6 : Int32)), (.ref o7)])) rfl rfl (hb hby at_84)
  have N5 := Fr.snoc X5 N0 g_o7
  have K5 : Keep h0 h5 [o7] := (Keep.refl h0 [o7]).wr W5 (Or.inl (List.mem_of_getElem? (i := 0) rfl))
  refine ⟨T5, _, _, X5, e5, N5, K5.1, ⟨_, (by rw [List.length_set]; exact hvs), Arv.set Ar_o7 q_o7 S_o7 N_o7 H_o7 G_o7 (fits_nar_byte _) W5 6 rfl (by rw [hvs]; decide)⟩, fun target kt => ?_⟩
  show Steps p.tables e below (T0.setTop (mkF m 74 #[s0, s1, s2, s3, .val (.int i4), s5, s6, .val (.ref o7), s8, s9, s10, s11, s12] [])) _
  refine XS.aload X0.here hx rfl (hb hby at_74) rfl rfl ?_
  show Steps p.tables e below (T0.setTop (mkF m 76 #[s0, s1, s2, s3, .val (.int i4), s5, s6, .val (.ref o7), s8, s9, s10, s11, s12] [(.ref o7)])) _
  refine XS.bipush X0.here hx rfl (hb hby at_76) ?_
  show Steps p.tables e below (T0.setTop (mkF m 78 #[s0, s1, s2, s3, .val (.int i4), s5, s6, .val (.ref o7), s8, s9, s10, s11, s12] [(.int (6 : Int32)), (.ref o7)])) _
  refine XS.iload X0.here hx rfl (hb hby at_78) rfl ?_
  show Steps p.tables e below (T0.setTop (mkF m 80 #[s0, s1, s2, s3, .val (.int i4), s5, s6, .val (.ref o7), s8, s9, s10, s11, s12] [(.int i4), (.int (6 : Int32)), (.ref o7)])) _
  refine XS.bipush X0.here hx rfl (hb hby at_80) ?_
  show Steps p.tables e below (T0.setTop (mkF m 82 #[s0, s1, s2, s3, .val (.int i4), s5, s6, .val (.ref o7), s8, s9, s10, s11, s12] [(.int (6 : Int32)), (.int i4), (.int (6 : Int32)), (.ref o7)])) _
  refine XS.iushr X0.here hx rfl (hb hby at_82) rfl ?_
  show Steps p.tables e below (T0.setTop (mkF m 83 #[s0, s1, s2, s3, .val (.int i4), s5, s6, .val (.ref o7), s8, s9, s10, s11, s12] [(.int ((i4.toUInt32 >>> ((6 : Int32) &&& 31).toUInt32).toInt32)), (.int (6 : Int32)), (.ref o7)])) _
  refine XS.i2b X0.here hx rfl (hb hby at_83) rfl ?_
  show Steps p.tables e below (T0.setTop (mkF m 84 #[s0, s1, s2, s3, .val (.int i4), s5, s6, .val (.ref o7), s8, s9, s10, s11, s12] [(.int (((i4.toUInt32 >>> ((6 : Int32) &&& 31).toUInt32).toInt32).toInt8.toInt32)), (.int (6 : Int32)), (.ref o7)])) _
  refine st5 _ ?_
  exact kt
set_option maxRecDepth 65536 in
set_option maxHeartbeats 40000000 in
theorem tn0_85_96 {p : Program} {l : Launch} {e : Env} {R : Room} {s : State} {m : MethodId} {args : Array Value} {below : List Frame} {meth : Method} {c : Code} {T0 : State} {locs : List Loc} {cells slots : Nat} {Z : State} {a0 : Array Value} {h0 : Heap} (s0 : Slot) (s1 : Slot) (s2 : Slot) (s3 : Slot) (i4 : Int32) (s5 : Slot) (s6 : Slot) (o7 : Addr) (s8 : Slot) (s9 : Slot) (s10 : Slot) (s11 : Slot) (s12 : Slot) (ka : ClassId) (n0 : Nat)
    (X0 : Stand p l e R s m args below meth c T0 locs cells slots) (hx : p.tables.exec = Jvm.exec) (hZ : Z.Warmed39 s.vm) (hw : ∀ d ∈ tables_1, d.before a0 Z = true) (hby : c.code = code) (hml : c.maxLocals = 13) (hown : s.vm.findClass "com/example/vor/vor/index/DecoderReadNumberPinLaw" = some m.cls) (e0 : T0.heap = h0) (g_o7 : n0 ≤ o7) (N0 : Fr n0 locs) (V0 : own_any Z h0 o7 ka) :
    ∃ (T' : State) (h' : Heap) (locs' : List Loc), Stand p l e R s m args below meth c T' locs' cells slots ∧ T'.heap = h' ∧ Fr n0 locs' ∧ h0.size ≤ h'.size ∧ own_any Z h' o7 ka ∧
      ∀ target, Steps p.tables e below (T'.setTop (mkF m 96 #[s0, s1, s2, s3, .val (.int i4), s5, s6, .val (.ref o7), s8, s9, s10, s11, s12] [])) target → Steps p.tables e below (T0.setTop (mkF m 85 #[s0, s1, s2, s3, .val (.int i4), s5, s6, .val (.ref o7), s8, s9, s10, s11, s12] [])) target := by
  obtain ⟨vs, hvs, V⟩ := V0
  obtain ⟨cl_o7, Ar_o7, q_o7, S_o7, N_o7, H_o7, G_o7⟩ := V
  have hin95 : ¬ ((7 : Int32) < 0 ∨ cl_o7.slots.size ≤ ((7 : Int32)).toNatClampNeg) := inb_of S_o7 ⟨by decide, by decide⟩
  obtain ⟨T5, h5, X5, e5, W5, st5⟩ := stB X0 hx hZ e0 Ar_o7 (j := (7 : Int32)) hin95 (g := (mkF m 95 #[s0, s1, s2, s3, .val (.int i4), s5, s6, .val (.ref o7), s8, s9, s10, s11, s12] [(.int (((i4.toUInt32 >>> ((7 : Int32) &&& 31).toUInt32).toInt32).toInt8.toInt32)), (.int (7 : Int32)), (.ref o7)])) rfl rfl (hb hby at_95)
  have N5 := Fr.snoc X5 N0 g_o7
  have K5 : Keep h0 h5 [o7] := (Keep.refl h0 [o7]).wr W5 (Or.inl (List.mem_of_getElem? (i := 0) rfl))
  refine ⟨T5, _, _, X5, e5, N5, K5.1, ⟨_, (by rw [List.length_set]; exact hvs), Arv.set Ar_o7 q_o7 S_o7 N_o7 H_o7 G_o7 (fits_nar_byte _) W5 7 rfl (by rw [hvs]; decide)⟩, fun target kt => ?_⟩
  show Steps p.tables e below (T0.setTop (mkF m 85 #[s0, s1, s2, s3, .val (.int i4), s5, s6, .val (.ref o7), s8, s9, s10, s11, s12] [])) _
  refine XS.aload X0.here hx rfl (hb hby at_85) rfl rfl ?_
  show Steps p.tables e below (T0.setTop (mkF m 87 #[s0, s1, s2, s3, .val (.int i4), s5, s6, .val (.ref o7), s8, s9, s10, s11, s12] [(.ref o7)])) _
  refine XS.bipush X0.here hx rfl (hb hby at_87) ?_
  show Steps p.tables e below (T0.setTop (mkF m 89 #[s0, s1, s2, s3, .val (.int i4), s5, s6, .val (.ref o7), s8, s9, s10, s11, s12] [(.int (7 : Int32)), (.ref o7)])) _
  refine XS.iload X0.here hx rfl (hb hby at_89) rfl ?_
  show Steps p.tables e below (T0.setTop (mkF m 91 #[s0, s1, s2, s3, .val (.int i4), s5, s6, .val (.ref o7), s8, s9, s10, s11, s12] [(.int i4), (.int (7 : Int32)), (.ref o7)])) _
  refine XS.bipush X0.here hx rfl (hb hby at_91) ?_
  show Steps p.tables e below (T0.setTop (mkF m 93 #[s0, s1, s2, s3, .val (.int i4), s5, s6, .val (.ref o7), s8, s9, s10, s11, s12] [(.int (7 : Int32)), (.int i4), (.int (7 : Int32)), (.ref o7)])) _
  refine XS.iushr X0.here hx rfl (hb hby at_93) rfl ?_
  show Steps p.tables e below (T0.setTop (mkF m 94 #[s0, s1, s2, s3, .val (.int i4), s5, s6, .val (.ref o7), s8, s9, s10, s11, s12] [(.int ((i4.toUInt32 >>> ((7 : Int32) &&& 31).toUInt32).toInt32)), (.int (7 : Int32)), (.ref o7)])) _
  refine XS.i2b X0.here hx rfl (hb hby at_94) rfl ?_
  show Steps p.tables e below (T0.setTop (mkF m 95 #[s0, s1, s2, s3, .val (.int i4), s5, s6, .val (.ref o7), s8, s9, s10, s11, s12] [(.int (((i4.toUInt32 >>> ((7 : Int32) &&& 31).toUInt32).toInt32).toInt8.toInt32)), (.int (7 : Int32)), (.ref o7)])) _
  refine st5 _ ?_
  exact kt
set_option maxRecDepth 65536 in
set_option maxHeartbeats 40000000 in
theorem tn0_96_107 {p : Program} {l : Launch} {e : Env} {R : Room} {s : State} {m : MethodId} {args : Array Value} {below : List Frame} {meth : Method} {c : Code} {T0 : State} {locs : List Loc} {cells slots : Nat} {Z : State} {a0 : Array Value} {h0 : Heap} (s0 : Slot) (s1 : Slot) (s2 : Slot) (s3 : Slot) (i4 : Int32) (s5 : Slot) (s6 : Slot) (o7 : Addr) (s8 : Slot) (s9 : Slot) (s10 : Slot) (s11 : Slot) (s12 : Slot) (ka : ClassId) (n0 : Nat)
    (X0 : Stand p l e R s m args below meth c T0 locs cells slots) (hx : p.tables.exec = Jvm.exec) (hZ : Z.Warmed39 s.vm) (hw : ∀ d ∈ tables_1, d.before a0 Z = true) (hby : c.code = code) (hml : c.maxLocals = 13) (hown : s.vm.findClass "com/example/vor/vor/index/DecoderReadNumberPinLaw" = some m.cls) (e0 : T0.heap = h0) (g_o7 : n0 ≤ o7) (N0 : Fr n0 locs) (V0 : own_any Z h0 o7 ka) :
    ∃ (T' : State) (h' : Heap) (locs' : List Loc), Stand p l e R s m args below meth c T' locs' cells slots ∧ T'.heap = h' ∧ Fr n0 locs' ∧ h0.size ≤ h'.size ∧ own_any Z h' o7 ka ∧
      ∀ target, Steps p.tables e below (T'.setTop (mkF m 107 #[s0, s1, s2, s3, .val (.int i4), s5, s6, .val (.ref o7), s8, s9, s10, s11, s12] [])) target → Steps p.tables e below (T0.setTop (mkF m 96 #[s0, s1, s2, s3, .val (.int i4), s5, s6, .val (.ref o7), s8, s9, s10, s11, s12] [])) target := by
  obtain ⟨vs, hvs, V⟩ := V0
  obtain ⟨cl_o7, Ar_o7, q_o7, S_o7, N_o7, H_o7, G_o7⟩ := V
  have hin106 : ¬ ((8 : Int32) < 0 ∨ cl_o7.slots.size ≤ ((8 : Int32)).toNatClampNeg) := inb_of S_o7 ⟨by decide, by decide⟩
  obtain ⟨T5, h5, X5, e5, W5, st5⟩ := stB X0 hx hZ e0 Ar_o7 (j := (8 : Int32)) hin106 (g := (mkF m 106 #[s0, s1, s2, s3, .val (.int i4), s5, s6, .val (.ref o7), s8, s9, s10, s11, s12] [(.int (((i4.toUInt32 >>> ((8 : Int32) &&& 31).toUInt32).toInt32).toInt8.toInt32)), (.int (8 : Int32)), (.ref o7)])) rfl rfl (hb hby at_106)
  have N5 := Fr.snoc X5 N0 g_o7
  have K5 : Keep h0 h5 [o7] := (Keep.refl h0 [o7]).wr W5 (Or.inl (List.mem_of_getElem? (i := 0) rfl))
  refine ⟨T5, _, _, X5, e5, N5, K5.1, ⟨_, (by rw [List.length_set]; exact hvs), Arv.set Ar_o7 q_o7 S_o7 N_o7 H_o7 G_o7 (fits_nar_byte _) W5 8 rfl (by rw [hvs]; decide)⟩, fun target kt => ?_⟩
  show Steps p.tables e below (T0.setTop (mkF m 96 #[s0, s1, s2, s3, .val (.int i4), s5, s6, .val (.ref o7), s8, s9, s10, s11, s12] [])) _
  refine XS.aload X0.here hx rfl (hb hby at_96) rfl rfl ?_
  show Steps p.tables e below (T0.setTop (mkF m 98 #[s0, s1, s2, s3, .val (.int i4), s5, s6, .val (.ref o7), s8, s9, s10, s11, s12] [(.ref o7)])) _
  refine XS.bipush X0.here hx rfl (hb hby at_98) ?_
  show Steps p.tables e below (T0.setTop (mkF m 100 #[s0, s1, s2, s3, .val (.int i4), s5, s6, .val (.ref o7), s8, s9, s10, s11, s12] [(.int (8 : Int32)), (.ref o7)])) _
  refine XS.iload X0.here hx rfl (hb hby at_100) rfl ?_
  show Steps p.tables e below (T0.setTop (mkF m 102 #[s0, s1, s2, s3, .val (.int i4), s5, s6, .val (.ref o7), s8, s9, s10, s11, s12] [(.int i4), (.int (8 : Int32)), (.ref o7)])) _
  refine XS.bipush X0.here hx rfl (hb hby at_102) ?_
  show Steps p.tables e below (T0.setTop (mkF m 104 #[s0, s1, s2, s3, .val (.int i4), s5, s6, .val (.ref o7), s8, s9, s10, s11, s12] [(.int (8 : Int32)), (.int i4), (.int (8 : Int32)), (.ref o7)])) _
  refine XS.iushr X0.here hx rfl (hb hby at_104) rfl ?_
  show Steps p.tables e below (T0.setTop (mkF m 105 #[s0, s1, s2, s3, .val (.int i4), s5, s6, .val (.ref o7), s8, s9, s10, s11, s12] [(.int ((i4.toUInt32 >>> ((8 : Int32) &&& 31).toUInt32).toInt32)), (.int (8 : Int32)), (.ref o7)])) _
  refine XS.i2b X0.here hx rfl (hb hby at_105) rfl ?_
  show Steps p.tables e below (T0.setTop (mkF m 106 #[s0, s1, s2, s3, .val (.int i4), s5, s6, .val (.ref o7), s8, s9, s10, s11, s12] [(.int (((i4.toUInt32 >>> ((8 : Int32) &&& 31).toUInt32).toInt32).toInt8.toInt32)), (.int (8 : Int32)), (.ref o7)])) _
  refine st5 _ ?_
  exact kt
set_option maxRecDepth 65536 in
set_option maxHeartbeats 40000000 in
theorem tn0_107_118 {p : Program} {l : Launch} {e : Env} {R : Room} {s : State} {m : MethodId} {args : Array Value} {below : List Frame} {meth : Method} {c : Code} {T0 : State} {locs : List Loc} {cells slots : Nat} {Z : State} {a0 : Array Value} {h0 : Heap} (s0 : Slot) (s1 : Slot) (s2 : Slot) (s3 : Slot) (i4 : Int32) (s5 : Slot) (s6 : Slot) (o7 : Addr) (s8 : Slot) (s9 : Slot) (s10 : Slot) (s11 : Slot) (s12 : Slot) (ka : ClassId) (n0 : Nat)
    (X0 : Stand p l e R s m args below meth c T0 locs cells slots) (hx : p.tables.exec = Jvm.exec) (hZ : Z.Warmed39 s.vm) (hw : ∀ d ∈ tables_1, d.before a0 Z = true) (hby : c.code = code) (hml : c.maxLocals = 13) (hown : s.vm.findClass "com/example/vor/vor/index/DecoderReadNumberPinLaw" = some m.cls) (e0 : T0.heap = h0) (g_o7 : n0 ≤ o7) (N0 : Fr n0 locs) (V0 : own_any Z h0 o7 ka) :
    ∃ (T' : State) (h' : Heap) (locs' : List Loc), Stand p l e R s m args below meth c T' locs' cells slots ∧ T'.heap = h' ∧ Fr n0 locs' ∧ h0.size ≤ h'.size ∧ own_any Z h' o7 ka ∧
      ∀ target, Steps p.tables e below (T'.setTop (mkF m 118 #[s0, s1, s2, s3, .val (.int i4), s5, s6, .val (.ref o7), s8, s9, s10, s11, s12] [])) target → Steps p.tables e below (T0.setTop (mkF m 107 #[s0, s1, s2, s3, .val (.int i4), s5, s6, .val (.ref o7), s8, s9, s10, s11, s12] [])) target := by
  obtain ⟨vs, hvs, V⟩ := V0
  obtain ⟨cl_o7, Ar_o7, q_o7, S_o7, N_o7, H_o7, G_o7⟩ := V
  have hin117 : ¬ ((9 : Int32) < 0 ∨ cl_o7.slots.size ≤ ((9 : Int32)).toNatClampNeg) := inb_of S_o7 ⟨by decide, by decide⟩
  obtain ⟨T5, h5, X5, e5, W5, st5⟩ := stB X0 hx hZ e0 Ar_o7 (j := (9 : Int32)) hin117 (g := (mkF m 117 #[s0, s1, s2, s3, .val (.int i4), s5, s6, .val (.ref o7), s8, s9, s10, s11, s12] [(.int (((i4.toUInt32 >>> ((9 : Int32) &&& 31).toUInt32).toInt32).toInt8.toInt32)), (.int (9 : Int32)), (.ref o7)])) rfl rfl (hb hby at_117)
  have N5 := Fr.snoc X5 N0 g_o7
  have K5 : Keep h0 h5 [o7] := (Keep.refl h0 [o7]).wr W5 (Or.inl (List.mem_of_getElem? (i := 0) rfl))
  refine ⟨T5, _, _, X5, e5, N5, K5.1, ⟨_, (by rw [List.length_set]; exact hvs), Arv.set Ar_o7 q_o7 S_o7 N_o7 H_o7 G_o7 (fits_nar_byte _) W5 9 rfl (by rw [hvs]; decide)⟩, fun target kt => ?_⟩
  show Steps p.tables e below (T0.setTop (mkF m 107 #[s0, s1, s2, s3, .val (.int i4), s5, s6, .val (.ref o7), s8, s9, s10, s11, s12] [])) _
  refine XS.aload X0.here hx rfl (hb hby at_107) rfl rfl ?_
  show Steps p.tables e below (T0.setTop (mkF m 109 #[s0, s1, s2, s3, .val (.int i4), s5, s6, .val (.ref o7), s8, s9, s10, s11, s12] [(.ref o7)])) _
  refine XS.bipush X0.here hx rfl (hb hby at_109) ?_
  show Steps p.tables e below (T0.setTop (mkF m 111 #[s0, s1, s2, s3, .val (.int i4), s5, s6, .val (.ref o7), s8, s9, s10, s11, s12] [(.int (9 : Int32)), (.ref o7)])) _
  refine XS.iload X0.here hx rfl (hb hby at_111) rfl ?_
  show Steps p.tables e below (T0.setTop (mkF m 113 #[s0, s1, s2, s3, .val (.int i4), s5, s6, .val (.ref o7), s8, s9, s10, s11, s12] [(.int i4), (.int (9 : Int32)), (.ref o7)])) _
  refine XS.bipush X0.here hx rfl (hb hby at_113) ?_
  show Steps p.tables e below (T0.setTop (mkF m 115 #[s0, s1, s2, s3, .val (.int i4), s5, s6, .val (.ref o7), s8, s9, s10, s11, s12] [(.int (9 : Int32)), (.int i4), (.int (9 : Int32)), (.ref o7)])) _
  refine XS.iushr X0.here hx rfl (hb hby at_115) rfl ?_
  show Steps p.tables e below (T0.setTop (mkF m 116 #[s0, s1, s2, s3, .val (.int i4), s5, s6, .val (.ref o7), s8, s9, s10, s11, s12] [(.int ((i4.toUInt32 >>> ((9 : Int32) &&& 31).toUInt32).toInt32)), (.int (9 : Int32)), (.ref o7)])) _
  refine XS.i2b X0.here hx rfl (hb hby at_116) rfl ?_
  show Steps p.tables e below (T0.setTop (mkF m 117 #[s0, s1, s2, s3, .val (.int i4), s5, s6, .val (.ref o7), s8, s9, s10, s11, s12] [(.int (((i4.toUInt32 >>> ((9 : Int32) &&& 31).toUInt32).toInt32).toInt8.toInt32)), (.int (9 : Int32)), (.ref o7)])) _
  refine st5 _ ?_
  exact kt
set_option maxRecDepth 65536 in
set_option maxHeartbeats 40000000 in
theorem tn0_118_129 {p : Program} {l : Launch} {e : Env} {R : Room} {s : State} {m : MethodId} {args : Array Value} {below : List Frame} {meth : Method} {c : Code} {T0 : State} {locs : List Loc} {cells slots : Nat} {Z : State} {a0 : Array Value} {h0 : Heap} (s0 : Slot) (s1 : Slot) (s2 : Slot) (s3 : Slot) (i4 : Int32) (s5 : Slot) (s6 : Slot) (o7 : Addr) (s8 : Slot) (s9 : Slot) (s10 : Slot) (s11 : Slot) (s12 : Slot) (ka : ClassId) (n0 : Nat)
    (X0 : Stand p l e R s m args below meth c T0 locs cells slots) (hx : p.tables.exec = Jvm.exec) (hZ : Z.Warmed39 s.vm) (hw : ∀ d ∈ tables_1, d.before a0 Z = true) (hby : c.code = code) (hml : c.maxLocals = 13) (hown : s.vm.findClass "com/example/vor/vor/index/DecoderReadNumberPinLaw" = some m.cls) (e0 : T0.heap = h0) (g_o7 : n0 ≤ o7) (N0 : Fr n0 locs) (V0 : own_any Z h0 o7 ka) :
    ∃ (T' : State) (h' : Heap) (locs' : List Loc), Stand p l e R s m args below meth c T' locs' cells slots ∧ T'.heap = h' ∧ Fr n0 locs' ∧ h0.size ≤ h'.size ∧ own_any Z h' o7 ka ∧
      ∀ target, Steps p.tables e below (T'.setTop (mkF m 129 #[s0, s1, s2, s3, .val (.int i4), s5, s6, .val (.ref o7), s8, s9, s10, s11, s12] [])) target → Steps p.tables e below (T0.setTop (mkF m 118 #[s0, s1, s2, s3, .val (.int i4), s5, s6, .val (.ref o7), s8, s9, s10, s11, s12] [])) target := by
  obtain ⟨vs, hvs, V⟩ := V0
  obtain ⟨cl_o7, Ar_o7, q_o7, S_o7, N_o7, H_o7, G_o7⟩ := V
  have hin128 : ¬ ((10 : Int32) < 0 ∨ cl_o7.slots.size ≤ ((10 : Int32)).toNatClampNeg) := inb_of S_o7 ⟨by decide, by decide⟩
  obtain ⟨T5, h5, X5, e5, W5, st5⟩ := stB X0 hx hZ e0 Ar_o7 (j := (10 : Int32)) hin128 (g := (mkF m 128 #[s0, s1, s2, s3, .val (.int i4), s5, s6, .val (.ref o7), s8, s9, s10, s11, s12] [(.int (((i4.toUInt32 >>> ((10 : Int32) &&& 31).toUInt32).toInt32).toInt8.toInt32)), (.int (10 : Int32)), (.ref o7)])) rfl rfl (hb hby at_128)
  have N5 := Fr.snoc X5 N0 g_o7
  have K5 : Keep h0 h5 [o7] := (Keep.refl h0 [o7]).wr W5 (Or.inl (List.mem_of_getElem? (i := 0) rfl))
  refine ⟨T5, _, _, X5, e5, N5, K5.1, ⟨_, (by rw [List.length_set]; exact hvs), Arv.set Ar_o7 q_o7 S_o7 N_o7 H_o7 G_o7 (fits_nar_byte _) W5 10 rfl (by rw [hvs]; decide)⟩, fun target kt => ?_⟩
  show Steps p.tables e below (T0.setTop (mkF m 118 #[s0, s1, s2, s3, .val (.int i4), s5, s6, .val (.ref o7), s8, s9, s10, s11, s12] [])) _
  refine XS.aload X0.here hx rfl (hb hby at_118) rfl rfl ?_
  show Steps p.tables e below (T0.setTop (mkF m 120 #[s0, s1, s2, s3, .val (.int i4), s5, s6, .val (.ref o7), s8, s9, s10, s11, s12] [(.ref o7)])) _
  refine XS.bipush X0.here hx rfl (hb hby at_120) ?_
  show Steps p.tables e below (T0.setTop (mkF m 122 #[s0, s1, s2, s3, .val (.int i4), s5, s6, .val (.ref o7), s8, s9, s10, s11, s12] [(.int (10 : Int32)), (.ref o7)])) _
  refine XS.iload X0.here hx rfl (hb hby at_122) rfl ?_
  show Steps p.tables e below (T0.setTop (mkF m 124 #[s0, s1, s2, s3, .val (.int i4), s5, s6, .val (.ref o7), s8, s9, s10, s11, s12] [(.int i4), (.int (10 : Int32)), (.ref o7)])) _
  refine XS.bipush X0.here hx rfl (hb hby at_124) ?_
  show Steps p.tables e below (T0.setTop (mkF m 126 #[s0, s1, s2, s3, .val (.int i4), s5, s6, .val (.ref o7), s8, s9, s10, s11, s12] [(.int (10 : Int32)), (.int i4), (.int (10 : Int32)), (.ref o7)])) _
  refine XS.iushr X0.here hx rfl (hb hby at_126) rfl ?_
  show Steps p.tables e below (T0.setTop (mkF m 127 #[s0, s1, s2, s3, .val (.int i4), s5, s6, .val (.ref o7), s8, s9, s10, s11, s12] [(.int ((i4.toUInt32 >>> ((10 : Int32) &&& 31).toUInt32).toInt32)), (.int (10 : Int32)), (.ref o7)])) _
  refine XS.i2b X0.here hx rfl (hb hby at_127) rfl ?_
  show Steps p.tables e below (T0.setTop (mkF m 128 #[s0, s1, s2, s3, .val (.int i4), s5, s6, .val (.ref o7), s8, s9, s10, s11, s12] [(.int (((i4.toUInt32 >>> ((10 : Int32) &&& 31).toUInt32).toInt32).toInt8.toInt32)), (.int (10 : Int32)), (.ref o7)])) _
  refine st5 _ ?_
  exact kt
set_option maxRecDepth 65536 in
set_option maxHeartbeats 40000000 in
theorem tn0_129_140 {p : Program} {l : Launch} {e : Env} {R : Room} {s : State} {m : MethodId} {args : Array Value} {below : List Frame} {meth : Method} {c : Code} {T0 : State} {locs : List Loc} {cells slots : Nat} {Z : State} {a0 : Array Value} {h0 : Heap} (s0 : Slot) (s1 : Slot) (s2 : Slot) (s3 : Slot) (i4 : Int32) (s5 : Slot) (s6 : Slot) (o7 : Addr) (s8 : Slot) (s9 : Slot) (s10 : Slot) (s11 : Slot) (s12 : Slot) (ka : ClassId) (n0 : Nat)
    (X0 : Stand p l e R s m args below meth c T0 locs cells slots) (hx : p.tables.exec = Jvm.exec) (hZ : Z.Warmed39 s.vm) (hw : ∀ d ∈ tables_1, d.before a0 Z = true) (hby : c.code = code) (hml : c.maxLocals = 13) (hown : s.vm.findClass "com/example/vor/vor/index/DecoderReadNumberPinLaw" = some m.cls) (e0 : T0.heap = h0) (g_o7 : n0 ≤ o7) (N0 : Fr n0 locs) (V0 : own_any Z h0 o7 ka) :
    ∃ (T' : State) (h' : Heap) (locs' : List Loc), Stand p l e R s m args below meth c T' locs' cells slots ∧ T'.heap = h' ∧ Fr n0 locs' ∧ h0.size ≤ h'.size ∧ own_any Z h' o7 ka ∧
      ∀ target, Steps p.tables e below (T'.setTop (mkF m 140 #[s0, s1, s2, s3, .val (.int i4), s5, s6, .val (.ref o7), s8, s9, s10, s11, s12] [])) target → Steps p.tables e below (T0.setTop (mkF m 129 #[s0, s1, s2, s3, .val (.int i4), s5, s6, .val (.ref o7), s8, s9, s10, s11, s12] [])) target := by
  obtain ⟨vs, hvs, V⟩ := V0
  obtain ⟨cl_o7, Ar_o7, q_o7, S_o7, N_o7, H_o7, G_o7⟩ := V
  have hin139 : ¬ ((11 : Int32) < 0 ∨ cl_o7.slots.size ≤ ((11 : Int32)).toNatClampNeg) := inb_of S_o7 ⟨by decide, by decide⟩
  obtain ⟨T5, h5, X5, e5, W5, st5⟩ := stB X0 hx hZ e0 Ar_o7 (j := (11 : Int32)) hin139 (g := (mkF m 139 #[s0, s1, s2, s3, .val (.int i4), s5, s6, .val (.ref o7), s8, s9, s10, s11, s12] [(.int (((i4.toUInt32 >>> ((11 : Int32) &&& 31).toUInt32).toInt32).toInt8.toInt32)), (.int (11 : Int32)), (.ref o7)])) rfl rfl (hb hby at_139)
  have N5 := Fr.snoc X5 N0 g_o7
  have K5 : Keep h0 h5 [o7] := (Keep.refl h0 [o7]).wr W5 (Or.inl (List.mem_of_getElem? (i := 0) rfl))
  refine ⟨T5, _, _, X5, e5, N5, K5.1, ⟨_, (by rw [List.length_set]; exact hvs), Arv.set Ar_o7 q_o7 S_o7 N_o7 H_o7 G_o7 (fits_nar_byte _) W5 11 rfl (by rw [hvs]; decide)⟩, fun target kt => ?_⟩
  show Steps p.tables e below (T0.setTop (mkF m 129 #[s0, s1, s2, s3, .val (.int i4), s5, s6, .val (.ref o7), s8, s9, s10, s11, s12] [])) _
  refine XS.aload X0.here hx rfl (hb hby at_129) rfl rfl ?_
  show Steps p.tables e below (T0.setTop (mkF m 131 #[s0, s1, s2, s3, .val (.int i4), s5, s6, .val (.ref o7), s8, s9, s10, s11, s12] [(.ref o7)])) _
  refine XS.bipush X0.here hx rfl (hb hby at_131) ?_
  show Steps p.tables e below (T0.setTop (mkF m 133 #[s0, s1, s2, s3, .val (.int i4), s5, s6, .val (.ref o7), s8, s9, s10, s11, s12] [(.int (11 : Int32)), (.ref o7)])) _
  refine XS.iload X0.here hx rfl (hb hby at_133) rfl ?_
  show Steps p.tables e below (T0.setTop (mkF m 135 #[s0, s1, s2, s3, .val (.int i4), s5, s6, .val (.ref o7), s8, s9, s10, s11, s12] [(.int i4), (.int (11 : Int32)), (.ref o7)])) _
  refine XS.bipush X0.here hx rfl (hb hby at_135) ?_
  show Steps p.tables e below (T0.setTop (mkF m 137 #[s0, s1, s2, s3, .val (.int i4), s5, s6, .val (.ref o7), s8, s9, s10, s11, s12] [(.int (11 : Int32)), (.int i4), (.int (11 : Int32)), (.ref o7)])) _
  refine XS.iushr X0.here hx rfl (hb hby at_137) rfl ?_
  show Steps p.tables e below (T0.setTop (mkF m 138 #[s0, s1, s2, s3, .val (.int i4), s5, s6, .val (.ref o7), s8, s9, s10, s11, s12] [(.int ((i4.toUInt32 >>> ((11 : Int32) &&& 31).toUInt32).toInt32)), (.int (11 : Int32)), (.ref o7)])) _
  refine XS.i2b X0.here hx rfl (hb hby at_138) rfl ?_
  show Steps p.tables e below (T0.setTop (mkF m 139 #[s0, s1, s2, s3, .val (.int i4), s5, s6, .val (.ref o7), s8, s9, s10, s11, s12] [(.int (((i4.toUInt32 >>> ((11 : Int32) &&& 31).toUInt32).toInt32).toInt8.toInt32)), (.int (11 : Int32)), (.ref o7)])) _
  refine st5 _ ?_
  exact kt
set_option maxRecDepth 65536 in
set_option maxHeartbeats 40000000 in
theorem tn0_140_151 {p : Program} {l : Launch} {e : Env} {R : Room} {s : State} {m : MethodId} {args : Array Value} {below : List Frame} {meth : Method} {c : Code} {T0 : State} {locs : List Loc} {cells slots : Nat} {Z : State} {a0 : Array Value} {h0 : Heap} (s0 : Slot) (s1 : Slot) (s2 : Slot) (s3 : Slot) (i4 : Int32) (s5 : Slot) (s6 : Slot) (o7 : Addr) (s8 : Slot) (s9 : Slot) (s10 : Slot) (s11 : Slot) (s12 : Slot) (ka : ClassId) (n0 : Nat)
    (X0 : Stand p l e R s m args below meth c T0 locs cells slots) (hx : p.tables.exec = Jvm.exec) (hZ : Z.Warmed39 s.vm) (hw : ∀ d ∈ tables_1, d.before a0 Z = true) (hby : c.code = code) (hml : c.maxLocals = 13) (hown : s.vm.findClass "com/example/vor/vor/index/DecoderReadNumberPinLaw" = some m.cls) (e0 : T0.heap = h0) (g_o7 : n0 ≤ o7) (N0 : Fr n0 locs) (V0 : own_any Z h0 o7 ka) :
    ∃ (T' : State) (h' : Heap) (locs' : List Loc), Stand p l e R s m args below meth c T' locs' cells slots ∧ T'.heap = h' ∧ Fr n0 locs' ∧ h0.size ≤ h'.size ∧ own_any Z h' o7 ka ∧
      ∀ target, Steps p.tables e below (T'.setTop (mkF m 151 #[s0, s1, s2, s3, .val (.int i4), s5, s6, .val (.ref o7), s8, s9, s10, s11, s12] [])) target → Steps p.tables e below (T0.setTop (mkF m 140 #[s0, s1, s2, s3, .val (.int i4), s5, s6, .val (.ref o7), s8, s9, s10, s11, s12] [])) target := by
  obtain ⟨vs, hvs, V⟩ := V0
  obtain ⟨cl_o7, Ar_o7, q_o7, S_o7, N_o7, H_o7, G_o7⟩ := V
  have hin150 : ¬ ((12 : Int32) < 0 ∨ cl_o7.slots.size ≤ ((12 : Int32)).toNatClampNeg) := inb_of S_o7 ⟨by decide, by decide⟩
  obtain ⟨T5, h5, X5, e5, W5, st5⟩ := stB X0 hx hZ e0 Ar_o7 (j := (12 : Int32)) hin150 (g := (mkF m 150 #[s0, s1, s2, s3, .val (.int i4), s5, s6, .val (.ref o7), s8, s9, s10, s11, s12] [(.int (((i4.toUInt32 >>> ((12 : Int32) &&& 31).toUInt32).toInt32).toInt8.toInt32)), (.int (12 : Int32)), (.ref o7)])) rfl rfl (hb hby at_150)
  have N5 := Fr.snoc X5 N0 g_o7
  have K5 : Keep h0 h5 [o7] := (Keep.refl h0 [o7]).wr W5 (Or.inl (List.mem_of_getElem? (i := 0) rfl))
  refine ⟨T5, _, _, X5, e5, N5, K5.1, ⟨_, (by rw [List.length_set]; exact hvs), Arv.set Ar_o7 q_o7 S_o7 N_o7 H_o7 G_o7 (fits_nar_byte _) W5 12 rfl (by rw [hvs]; decide)⟩, fun target kt => ?_⟩
  show Steps p.tables e below (T0.setTop (mkF m 140 #[s0, s1, s2, s3, .val (.int i4), s5, s6, .val (.ref o7), s8, s9, s10, s11, s12] [])) _
  refine XS.aload X0.here hx rfl (hb hby at_140) rfl rfl ?_
  show Steps p.tables e below (T0.setTop (mkF m 142 #[s0, s1, s2, s3, .val (.int i4), s5, s6, .val (.ref o7), s8, s9, s10, s11, s12] [(.ref o7)])) _
  refine XS.bipush X0.here hx rfl (hb hby at_142) ?_
  show Steps p.tables e below (T0.setTop (mkF m 144 #[s0, s1, s2, s3, .val (.int i4), s5, s6, .val (.ref o7), s8, s9, s10, s11, s12] [(.int (12 : Int32)), (.ref o7)])) _
  refine XS.iload X0.here hx rfl (hb hby at_144) rfl ?_
  show Steps p.tables e below (T0.setTop (mkF m 146 #[s0, s1, s2, s3, .val (.int i4), s5, s6, .val (.ref o7), s8, s9, s10, s11, s12] [(.int i4), (.int (12 : Int32)), (.ref o7)])) _
  refine XS.bipush X0.here hx rfl (hb hby at_146) ?_
  show Steps p.tables e below (T0.setTop (mkF m 148 #[s0, s1, s2, s3, .val (.int i4), s5, s6, .val (.ref o7), s8, s9, s10, s11, s12] [(.int (12 : Int32)), (.int i4), (.int (12 : Int32)), (.ref o7)])) _
  refine XS.iushr X0.here hx rfl (hb hby at_148) rfl ?_
  show Steps p.tables e below (T0.setTop (mkF m 149 #[s0, s1, s2, s3, .val (.int i4), s5, s6, .val (.ref o7), s8, s9, s10, s11, s12] [(.int ((i4.toUInt32 >>> ((12 : Int32) &&& 31).toUInt32).toInt32)), (.int (12 : Int32)), (.ref o7)])) _
  refine XS.i2b X0.here hx rfl (hb hby at_149) rfl ?_
  show Steps p.tables e below (T0.setTop (mkF m 150 #[s0, s1, s2, s3, .val (.int i4), s5, s6, .val (.ref o7), s8, s9, s10, s11, s12] [(.int (((i4.toUInt32 >>> ((12 : Int32) &&& 31).toUInt32).toInt32).toInt8.toInt32)), (.int (12 : Int32)), (.ref o7)])) _
  refine st5 _ ?_
  exact kt
set_option maxRecDepth 65536 in
set_option maxHeartbeats 40000000 in
theorem tn0_151_162 {p : Program} {l : Launch} {e : Env} {R : Room} {s : State} {m : MethodId} {args : Array Value} {below : List Frame} {meth : Method} {c : Code} {T0 : State} {locs : List Loc} {cells slots : Nat} {Z : State} {a0 : Array Value} {h0 : Heap} (s0 : Slot) (s1 : Slot) (s2 : Slot) (s3 : Slot) (i4 : Int32) (s5 : Slot) (s6 : Slot) (o7 : Addr) (s8 : Slot) (s9 : Slot) (s10 : Slot) (s11 : Slot) (s12 : Slot) (ka : ClassId) (n0 : Nat)
    (X0 : Stand p l e R s m args below meth c T0 locs cells slots) (hx : p.tables.exec = Jvm.exec) (hZ : Z.Warmed39 s.vm) (hw : ∀ d ∈ tables_1, d.before a0 Z = true) (hby : c.code = code) (hml : c.maxLocals = 13) (hown : s.vm.findClass "com/example/vor/vor/index/DecoderReadNumberPinLaw" = some m.cls) (e0 : T0.heap = h0) (g_o7 : n0 ≤ o7) (N0 : Fr n0 locs) (V0 : own_any Z h0 o7 ka) :
    ∃ (T' : State) (h' : Heap) (locs' : List Loc), Stand p l e R s m args below meth c T' locs' cells slots ∧ T'.heap = h' ∧ Fr n0 locs' ∧ h0.size ≤ h'.size ∧ own_any Z h' o7 ka ∧
      ∀ target, Steps p.tables e below (T'.setTop (mkF m 162 #[s0, s1, s2, s3, .val (.int i4), s5, s6, .val (.ref o7), s8, s9, s10, s11, s12] [])) target → Steps p.tables e below (T0.setTop (mkF m 151 #[s0, s1, s2, s3, .val (.int i4), s5, s6, .val (.ref o7), s8, s9, s10, s11, s12] [])) target := by
  obtain ⟨vs, hvs, V⟩ := V0
  obtain ⟨cl_o7, Ar_o7, q_o7, S_o7, N_o7, H_o7, G_o7⟩ := V
  have hin161 : ¬ ((13 : Int32) < 0 ∨ cl_o7.slots.size ≤ ((13 : Int32)).toNatClampNeg) := inb_of S_o7 ⟨by decide, by decide⟩
  obtain ⟨T5, h5, X5, e5, W5, st5⟩ := stB X0 hx hZ e0 Ar_o7 (j := (13 : Int32)) hin161 (g := (mkF m 161 #[s0, s1, s2, s3, .val (.int i4), s5, s6, .val (.ref o7), s8, s9, s10, s11, s12] [(.int (((i4.toUInt32 >>> ((13 : Int32) &&& 31).toUInt32).toInt32).toInt8.toInt32)), (.int (13 : Int32)), (.ref o7)])) rfl rfl (hb hby at_161)
  have N5 := Fr.snoc X5 N0 g_o7
  have K5 : Keep h0 h5 [o7] := (Keep.refl h0 [o7]).wr W5 (Or.inl (List.mem_of_getElem? (i := 0) rfl))
  refine ⟨T5, _, _, X5, e5, N5, K5.1, ⟨_, (by rw [List.length_set]; exact hvs), Arv.set Ar_o7 q_o7 S_o7 N_o7 H_o7 G_o7 (fits_nar_byte _) W5 13 rfl (by rw [hvs]; decide)⟩, fun target kt => ?_⟩
  show Steps p.tables e below (T0.setTop (mkF m 151 #[s0, s1, s2, s3, .val (.int i4), s5, s6, .val (.ref o7), s8, s9, s10, s11, s12] [])) _
  refine XS.aload X0.here hx rfl (hb hby at_151) rfl rfl ?_
  show Steps p.tables e below (T0.setTop (mkF m 153 #[s0, s1, s2, s3, .val (.int i4), s5, s6, .val (.ref o7), s8, s9, s10, s11, s12] [(.ref o7)])) _
  refine XS.bipush X0.here hx rfl (hb hby at_153) ?_
  show Steps p.tables e below (T0.setTop (mkF m 155 #[s0, s1, s2, s3, .val (.int i4), s5, s6, .val (.ref o7), s8, s9, s10, s11, s12] [(.int (13 : Int32)), (.ref o7)])) _
  refine XS.iload X0.here hx rfl (hb hby at_155) rfl ?_
  show Steps p.tables e below (T0.setTop (mkF m 157 #[s0, s1, s2, s3, .val (.int i4), s5, s6, .val (.ref o7), s8, s9, s10, s11, s12] [(.int i4), (.int (13 : Int32)), (.ref o7)])) _
  refine XS.bipush X0.here hx rfl (hb hby at_157) ?_
  show Steps p.tables e below (T0.setTop (mkF m 159 #[s0, s1, s2, s3, .val (.int i4), s5, s6, .val (.ref o7), s8, s9, s10, s11, s12] [(.int (13 : Int32)), (.int i4), (.int (13 : Int32)), (.ref o7)])) _
  refine XS.iushr X0.here hx rfl (hb hby at_159) rfl ?_
  show Steps p.tables e below (T0.setTop (mkF m 160 #[s0, s1, s2, s3, .val (.int i4), s5, s6, .val (.ref o7), s8, s9, s10, s11, s12] [(.int ((i4.toUInt32 >>> ((13 : Int32) &&& 31).toUInt32).toInt32)), (.int (13 : Int32)), (.ref o7)])) _
  refine XS.i2b X0.here hx rfl (hb hby at_160) rfl ?_
  show Steps p.tables e below (T0.setTop (mkF m 161 #[s0, s1, s2, s3, .val (.int i4), s5, s6, .val (.ref o7), s8, s9, s10, s11, s12] [(.int (((i4.toUInt32 >>> ((13 : Int32) &&& 31).toUInt32).toInt32).toInt8.toInt32)), (.int (13 : Int32)), (.ref o7)])) _
  refine st5 _ ?_
  exact kt
set_option maxRecDepth 65536 in
set_option maxHeartbeats 40000000 in
theorem tn0_162_173 {p : Program} {l : Launch} {e : Env} {R : Room} {s : State} {m : MethodId} {args : Array Value} {below : List Frame} {meth : Method} {c : Code} {T0 : State} {locs : List Loc} {cells slots : Nat} {Z : State} {a0 : Array Value} {h0 : Heap} (s0 : Slot) (s1 : Slot) (s2 : Slot) (s3 : Slot) (i4 : Int32) (s5 : Slot) (s6 : Slot) (o7 : Addr) (s8 : Slot) (s9 : Slot) (s10 : Slot) (s11 : Slot) (s12 : Slot) (ka : ClassId) (n0 : Nat)
    (X0 : Stand p l e R s m args below meth c T0 locs cells slots) (hx : p.tables.exec = Jvm.exec) (hZ : Z.Warmed39 s.vm) (hw : ∀ d ∈ tables_1, d.before a0 Z = true) (hby : c.code = code) (hml : c.maxLocals = 13) (hown : s.vm.findClass "com/example/vor/vor/index/DecoderReadNumberPinLaw" = some m.cls) (e0 : T0.heap = h0) (g_o7 : n0 ≤ o7) (N0 : Fr n0 locs) (V0 : own_any Z h0 o7 ka) :
    ∃ (T' : State) (h' : Heap) (locs' : List Loc), Stand p l e R s m args below meth c T' locs' cells slots ∧ T'.heap = h' ∧ Fr n0 locs' ∧ h0.size ≤ h'.size ∧ own_any Z h' o7 ka ∧
      ∀ target, Steps p.tables e below (T'.setTop (mkF m 173 #[s0, s1, s2, s3, .val (.int i4), s5, s6, .val (.ref o7), s8, s9, s10, s11, s12] [])) target → Steps p.tables e below (T0.setTop (mkF m 162 #[s0, s1, s2, s3, .val (.int i4), s5, s6, .val (.ref o7), s8, s9, s10, s11, s12] [])) target := by
  obtain ⟨vs, hvs, V⟩ := V0
  obtain ⟨cl_o7, Ar_o7, q_o7, S_o7, N_o7, H_o7, G_o7⟩ := V
  have hin172 : ¬ ((14 : Int32) < 0 ∨ cl_o7.slots.size ≤ ((14 : Int32)).toNatClampNeg) := inb_of S_o7 ⟨by decide, by decide⟩
  obtain ⟨T5, h5, X5, e5, W5, st5⟩ := stB X0 hx hZ e0 Ar_o7 (j := (14 : Int32)) hin172 (g := (mkF m 172 #[s0, s1, s2, s3, .val (.int i4), s5, s6, .val (.ref o7), s8, s9, s10, s11, s12] [(.int (((i4.toUInt32 >>> ((14 : Int32) &&& 31).toUInt32).toInt32).toInt8.toInt32)), (.int (14 : Int32)), (.ref o7)])) rfl rfl (hb hby at_172)
  have N5 := Fr.snoc X5 N0 g_o7
  have K5 : Keep h0 h5 [o7] := (Keep.refl h0 [o7]).wr W5 (Or.inl (List.mem_of_getElem? (i := 0) rfl))
  refine ⟨T5, _, _, X5, e5, N5, K5.1, ⟨_, (by rw [List.length_set]; exact hvs), Arv.set Ar_o7 q_o7 S_o7 N_o7 H_o7 G_o7 (fits_nar_byte _) W5 14 rfl (by rw [hvs]; decide)⟩, fun target kt => ?_⟩
  show Steps p.tables e below (T0.setTop (mkF m 162 #[s0, s1, s2, s3, .val (.int i4), s5, s6, .val (.ref o7), s8, s9, s10, s11, s12] [])) _
  refine XS.aload X0.here hx rfl (hb hby at_162) rfl rfl ?_
  show Steps p.tables e below (T0.setTop (mkF m 164 #[s0, s1, s2, s3, .val (.int i4), s5, s6, .val (.ref o7), s8, s9, s10, s11, s12] [(.ref o7)])) _
  refine XS.bipush X0.here hx rfl (hb hby at_164) ?_
  show Steps p.tables e below (T0.setTop (mkF m 166 #[s0, s1, s2, s3, .val (.int i4), s5, s6, .val (.ref o7), s8, s9, s10, s11, s12] [(.int (14 : Int32)), (.ref o7)])) _
  refine XS.iload X0.here hx rfl (hb hby at_166) rfl ?_
  show Steps p.tables e below (T0.setTop (mkF m 168 #[s0, s1, s2, s3, .val (.int i4), s5, s6, .val (.ref o7), s8, s9, s10, s11, s12] [(.int i4), (.int (14 : Int32)), (.ref o7)])) _
  refine XS.bipush X0.here hx rfl (hb hby at_168) ?_
  show Steps p.tables e below (T0.setTop (mkF m 170 #[s0, s1, s2, s3, .val (.int i4), s5, s6, .val (.ref o7), s8, s9, s10, s11, s12] [(.int (14 : Int32)), (.int i4), (.int (14 : Int32)), (.ref o7)])) _
  refine XS.iushr X0.here hx rfl (hb hby at_170) rfl ?_
  show Steps p.tables e below (T0.setTop (mkF m 171 #[s0, s1, s2, s3, .val (.int i4), s5, s6, .val (.ref o7), s8, s9, s10, s11, s12] [(.int ((i4.toUInt32 >>> ((14 : Int32) &&& 31).toUInt32).toInt32)), (.int (14 : Int32)), (.ref o7)])) _
  refine XS.i2b X0.here hx rfl (hb hby at_171) rfl ?_
  show Steps p.tables e below (T0.setTop (mkF m 172 #[s0, s1, s2, s3, .val (.int i4), s5, s6, .val (.ref o7), s8, s9, s10, s11, s12] [(.int (((i4.toUInt32 >>> ((14 : Int32) &&& 31).toUInt32).toInt32).toInt8.toInt32)), (.int (14 : Int32)), (.ref o7)])) _
  refine st5 _ ?_
  exact kt
set_option maxRecDepth 65536 in
set_option maxHeartbeats 40000000 in
theorem tn0_173_184 {p : Program} {l : Launch} {e : Env} {R : Room} {s : State} {m : MethodId} {args : Array Value} {below : List Frame} {meth : Method} {c : Code} {T0 : State} {locs : List Loc} {cells slots : Nat} {Z : State} {a0 : Array Value} {h0 : Heap} (s0 : Slot) (s1 : Slot) (s2 : Slot) (s3 : Slot) (i4 : Int32) (s5 : Slot) (s6 : Slot) (o7 : Addr) (s8 : Slot) (s9 : Slot) (s10 : Slot) (s11 : Slot) (s12 : Slot) (ka : ClassId) (n0 : Nat)
    (X0 : Stand p l e R s m args below meth c T0 locs cells slots) (hx : p.tables.exec = Jvm.exec) (hZ : Z.Warmed39 s.vm) (hw : ∀ d ∈ tables_1, d.before a0 Z = true) (hby : c.code = code) (hml : c.maxLocals = 13) (hown : s.vm.findClass "com/example/vor/vor/index/DecoderReadNumberPinLaw" = some m.cls) (e0 : T0.heap = h0) (g_o7 : n0 ≤ o7) (N0 : Fr n0 locs) (V0 : own_any Z h0 o7 ka) :
    ∃ (T' : State) (h' : Heap) (locs' : List Loc), Stand p l e R s m args below meth c T' locs' cells slots ∧ T'.heap = h' ∧ Fr n0 locs' ∧ h0.size ≤ h'.size ∧ own_any Z h' o7 ka ∧
      ∀ target, Steps p.tables e below (T'.setTop (mkF m 184 #[s0, s1, s2, s3, .val (.int i4), s5, s6, .val (.ref o7), s8, s9, s10, s11, s12] [])) target → Steps p.tables e below (T0.setTop (mkF m 173 #[s0, s1, s2, s3, .val (.int i4), s5, s6, .val (.ref o7), s8, s9, s10, s11, s12] [])) target := by
  obtain ⟨vs, hvs, V⟩ := V0
  obtain ⟨cl_o7, Ar_o7, q_o7, S_o7, N_o7, H_o7, G_o7⟩ := V
  have hin183 : ¬ ((15 : Int32) < 0 ∨ cl_o7.slots.size ≤ ((15 : Int32)).toNatClampNeg) := inb_of S_o7 ⟨by decide, by decide⟩
  obtain ⟨T5, h5, X5, e5, W5, st5⟩ := stB X0 hx hZ e0 Ar_o7 (j := (15 : Int32)) hin183 (g := (mkF m 183 #[s0, s1, s2, s3, .val (.int i4), s5, s6, .val (.ref o7), s8, s9, s10, s11, s12] [(.int (((i4.toUInt32 >>> ((15 : Int32) &&& 31).toUInt32).toInt32).toInt8.toInt32)), (.int (15 : Int32)), (.ref o7)])) rfl rfl (hb hby at_183)
  have N5 := Fr.snoc X5 N0 g_o7
  have K5 : Keep h0 h5 [o7] := (Keep.refl h0 [o7]).wr W5 (Or.inl (List.mem_of_getElem? (i := 0) rfl))
  refine ⟨T5, _, _, X5, e5, N5, K5.1, ⟨_, (by rw [List.length_set]; exact hvs), Arv.set Ar_o7 q_o7 S_o7 N_o7 H_o7 G_o7 (fits_nar_byte _) W5 15 rfl (by rw [hvs]; decide)⟩, fun target kt => ?_⟩
  show Steps p.tables e below (T0.setTop (mkF m 173 #[s0, s1, s2, s3, .val (.int i4), s5, s6, .val (.ref o7), s8, s9, s10, s11, s12] [])) _
  refine XS.aload X0.here hx rfl (hb hby at_173) rfl rfl ?_
  show Steps p.tables e below (T0.setTop (mkF m 175 #[s0, s1, s2, s3, .val (.int i4), s5, s6, .val (.ref o7), s8, s9, s10, s11, s12] [(.ref o7)])) _
  refine XS.bipush X0.here hx rfl (hb hby at_175) ?_
  show Steps p.tables e below (T0.setTop (mkF m 177 #[s0, s1, s2, s3, .val (.int i4), s5, s6, .val (.ref o7), s8, s9, s10, s11, s12] [(.int (15 : Int32)), (.ref o7)])) _
  refine XS.iload X0.here hx rfl (hb hby at_177) rfl ?_
  show Steps p.tables e below (T0.setTop (mkF m 179 #[s0, s1, s2, s3, .val (.int i4), s5, s6, .val (.ref o7), s8, s9, s10, s11, s12] [(.int i4), (.int (15 : Int32)), (.ref o7)])) _
  refine XS.bipush X0.here hx rfl (hb hby at_179) ?_
  show Steps p.tables e below (T0.setTop (mkF m 181 #[s0, s1, s2, s3, .val (.int i4), s5, s6, .val (.ref o7), s8, s9, s10, s11, s12] [(.int (15 : Int32)), (.int i4), (.int (15 : Int32)), (.ref o7)])) _
  refine XS.iushr X0.here hx rfl (hb hby at_181) rfl ?_
  show Steps p.tables e below (T0.setTop (mkF m 182 #[s0, s1, s2, s3, .val (.int i4), s5, s6, .val (.ref o7), s8, s9, s10, s11, s12] [(.int ((i4.toUInt32 >>> ((15 : Int32) &&& 31).toUInt32).toInt32)), (.int (15 : Int32)), (.ref o7)])) _
  refine XS.i2b X0.here hx rfl (hb hby at_182) rfl ?_
  show Steps p.tables e below (T0.setTop (mkF m 183 #[s0, s1, s2, s3, .val (.int i4), s5, s6, .val (.ref o7), s8, s9, s10, s11, s12] [(.int (((i4.toUInt32 >>> ((15 : Int32) &&& 31).toUInt32).toInt32).toInt8.toInt32)), (.int (15 : Int32)), (.ref o7)])) _
  refine st5 _ ?_
  exact kt
theorem own_stores {p : Program} {l : Launch} {e : Env} {R : Room} {s : State} {m : MethodId} {args : Array Value} {below : List Frame} {meth : Method} {c : Code} {T0 : State} {locs : List Loc} {cells slots : Nat} {Z : State} {a0 : Array Value} {h0 : Heap} (s0 : Slot) (s1 : Slot) (s2 : Slot) (s3 : Slot) (i4 : Int32) (s5 : Slot) (s6 : Slot) (o7 : Addr) (s8 : Slot) (s9 : Slot) (s10 : Slot) (s11 : Slot) (s12 : Slot) (ka : ClassId) (n0 : Nat)
    (X0 : Stand p l e R s m args below meth c T0 locs cells slots) (hx : p.tables.exec = Jvm.exec) (hZ : Z.Warmed39 s.vm) (hw : ∀ d ∈ tables_1, d.before a0 Z = true) (hby : c.code = code) (hml : c.maxLocals = 13) (hown : s.vm.findClass "com/example/vor/vor/index/DecoderReadNumberPinLaw" = some m.cls) (e0 : T0.heap = h0) (g_o7 : n0 ≤ o7) (N0 : Fr n0 locs) (V0 : own_any Z h0 o7 ka) :
    ∃ (T' : State) (h' : Heap) (locs' : List Loc), Stand p l e R s m args below meth c T' locs' cells slots ∧ T'.heap = h' ∧ Fr n0 locs' ∧ h0.size ≤ h'.size ∧ own_any Z h' o7 ka ∧
      ∀ target, Steps p.tables e below (T'.setTop (mkF m 184 #[s0, s1, s2, s3, .val (.int i4), s5, s6, .val (.ref o7), s8, s9, s10, s11, s12] [])) target → Steps p.tables e below (T0.setTop (mkF m 22 #[s0, s1, s2, s3, .val (.int i4), s5, s6, .val (.ref o7), s8, s9, s10, s11, s12] [])) target := by
  have z0 : h0.size ≤ h0.size := Nat.le_refl _
  obtain ⟨T1, h1, L1, X1, e1, N1, zq1, V1, st1⟩ := tn0_22_29 s0 s1 s2 s3 i4 s5 s6 o7 s8 s9 s10 s11 s12 ka n0 X0 hx hZ hw hby hml hown e0 g_o7 N0 V0
  have z1 := Nat.le_trans z0 zq1
  obtain ⟨T2, h2, L2, X2, e2, N2, zq2, V2, st2⟩ := tn0_29_38 s0 s1 s2 s3 i4 s5 s6 o7 s8 s9 s10 s11 s12 ka n0 X1 hx hZ hw hby hml hown e1 g_o7 N1 V1
  have z2 := Nat.le_trans z1 zq2
  obtain ⟨T3, h3, L3, X3, e3, N3, zq3, V3, st3⟩ := tn0_38_47 s0 s1 s2 s3 i4 s5 s6 o7 s8 s9 s10 s11 s12 ka n0 X2 hx hZ hw hby hml hown e2 g_o7 N2 V2
  have z3 := Nat.le_trans z2 zq3
  obtain ⟨T4, h4, L4, X4, e4, N4, zq4, V4, st4⟩ := tn0_47_56 s0 s1 s2 s3 i4 s5 s6 o7 s8 s9 s10 s11 s12 ka n0 X3 hx hZ hw hby hml hown e3 g_o7 N3 V3
  have z4 := Nat.le_trans z3 zq4
  obtain ⟨T5, h5, L5, X5, e5, N5, zq5, V5, st5⟩ := tn0_56_65 s0 s1 s2 s3 i4 s5 s6 o7 s8 s9 s10 s11 s12 ka n0 X4 hx hZ hw hby hml hown e4 g_o7 N4 V4
  have z5 := Nat.le_trans z4 zq5
  obtain ⟨T6, h6, L6, X6, e6, N6, zq6, V6, st6⟩ := tn0_65_74 s0 s1 s2 s3 i4 s5 s6 o7 s8 s9 s10 s11 s12 ka n0 X5 hx hZ hw hby hml hown e5 g_o7 N5 V5
  have z6 := Nat.le_trans z5 zq6
  obtain ⟨T7, h7, L7, X7, e7, N7, zq7, V7, st7⟩ := tn0_74_85 s0 s1 s2 s3 i4 s5 s6 o7 s8 s9 s10 s11 s12 ka n0 X6 hx hZ hw hby hml hown e6 g_o7 N6 V6
  have z7 := Nat.le_trans z6 zq7
  obtain ⟨T8, h8, L8, X8, e8, N8, zq8, V8, st8⟩ := tn0_85_96 s0 s1 s2 s3 i4 s5 s6 o7 s8 s9 s10 s11 s12 ka n0 X7 hx hZ hw hby hml hown e7 g_o7 N7 V7
  have z8 := Nat.le_trans z7 zq8
  obtain ⟨T9, h9, L9, X9, e9, N9, zq9, V9, st9⟩ := tn0_96_107 s0 s1 s2 s3 i4 s5 s6 o7 s8 s9 s10 s11 s12 ka n0 X8 hx hZ hw hby hml hown e8 g_o7 N8 V8
  have z9 := Nat.le_trans z8 zq9
  obtain ⟨T10, h10, L10, X10, e10, N10, zq10, V10, st10⟩ := tn0_107_118 s0 s1 s2 s3 i4 s5 s6 o7 s8 s9 s10 s11 s12 ka n0 X9 hx hZ hw hby hml hown e9 g_o7 N9 V9
  have z10 := Nat.le_trans z9 zq10
  obtain ⟨T11, h11, L11, X11, e11, N11, zq11, V11, st11⟩ := tn0_118_129 s0 s1 s2 s3 i4 s5 s6 o7 s8 s9 s10 s11 s12 ka n0 X10 hx hZ hw hby hml hown e10 g_o7 N10 V10
  have z11 := Nat.le_trans z10 zq11
  obtain ⟨T12, h12, L12, X12, e12, N12, zq12, V12, st12⟩ := tn0_129_140 s0 s1 s2 s3 i4 s5 s6 o7 s8 s9 s10 s11 s12 ka n0 X11 hx hZ hw hby hml hown e11 g_o7 N11 V11
  have z12 := Nat.le_trans z11 zq12
  obtain ⟨T13, h13, L13, X13, e13, N13, zq13, V13, st13⟩ := tn0_140_151 s0 s1 s2 s3 i4 s5 s6 o7 s8 s9 s10 s11 s12 ka n0 X12 hx hZ hw hby hml hown e12 g_o7 N12 V12
  have z13 := Nat.le_trans z12 zq13
  obtain ⟨T14, h14, L14, X14, e14, N14, zq14, V14, st14⟩ := tn0_151_162 s0 s1 s2 s3 i4 s5 s6 o7 s8 s9 s10 s11 s12 ka n0 X13 hx hZ hw hby hml hown e13 g_o7 N13 V13
  have z14 := Nat.le_trans z13 zq14
  obtain ⟨T15, h15, L15, X15, e15, N15, zq15, V15, st15⟩ := tn0_162_173 s0 s1 s2 s3 i4 s5 s6 o7 s8 s9 s10 s11 s12 ka n0 X14 hx hZ hw hby hml hown e14 g_o7 N14 V14
  have z15 := Nat.le_trans z14 zq15
  obtain ⟨T16, h16, L16, X16, e16, N16, zq16, V16, st16⟩ := tn0_173_184 s0 s1 s2 s3 i4 s5 s6 o7 s8 s9 s10 s11 s12 ka n0 X15 hx hZ hw hby hml hown e15 g_o7 N15 V15
  have z16 := Nat.le_trans z15 zq16
  exact ⟨T16, h16, L16, X16, e16, N16, z16, V16, fun target kt => (st1 _ (st2 _ (st3 _ (st4 _ (st5 _ (st6 _ (st7 _ (st8 _ (st9 _ (st10 _ (st11 _ (st12 _ (st13 _ (st14 _ (st15 _ (st16 _ kt))))))))))))))))⟩
theorem pd_0_0 : parseMethodDescriptor "([BIIIJ)V" = some ⟨[(.array .byte), .int, .int, .int, .long], none⟩ := by decide +kernel
set_option maxRecDepth 65536 in
set_option maxHeartbeats 40000000 in
theorem tn0_184_195 {p : Program} {l : Launch} {e : Env} {s : State} {m : MethodId} {args : Array Value} {below : List Frame} {meth : Method} {c : Code} {T0 : State} {locs : List Loc} {Z : State} {a0 : Array Value} {h0 : Heap} (j0 : Int64) (s2 : Slot) (s3 : Slot) (s4 : Slot) (K P : Nat) (o7 : Addr) (s8 : Slot) (s9 : Slot) (s10 : Slot) (s11 : Slot) (s12 : Slot) (ka : ClassId) (n0 : Nat) (vs : List Value)
    (X0 : Stand p l e room_1 s m args below meth c T0 locs 1 16) (hx : p.tables.exec = Jvm.exec) (hZ : Z.Warmed39 s.vm) (hw : ∀ d ∈ tables_1, d.before a0 Z = true) (hby : c.code = code) (hml : c.maxLocals = 13) (hown : s.vm.findClass "com/example/vor/vor/index/DecoderReadNumberPinLaw" = some m.cls) (e0 : T0.heap = h0) (hvs : vs.length = 16) (hKn : K ≤ 10) (hPn : P ≤ 3) (g_o7 : n0 ≤ o7) (N0 : Fr n0 locs) (Z0 : n0 ≤ h0.size) (V0 : Arv Z h0 o7 ka .byte (16 : Int32) vs (.int (0 : Int32))) :
    ∃ (T' : State) (h' : Heap) (locs' : List Loc), Stand p l e room_1 s m args below meth c T' locs' 1 16 ∧ T'.heap = h' ∧ Fr n0 locs' ∧ h0.size ≤ h'.size ∧ Arv Z h' o7 ka .byte (16 : Int32) (own_put vs P 0 K j0) (.int (0 : Int32)) ∧
      ∀ target, Steps p.tables e below (T'.setTop (mkF m 195 #[.val (.long j0), .second, s2, s3, s4, .val (.int (Int32.ofNat K)), .val (.int (Int32.ofNat P)), .val (.ref o7), s8, s9, s10, s11, s12] [])) target → Steps p.tables e below (T0.setTop (mkF m 184 #[.val (.long j0), .second, s2, s3, s4, .val (.int (Int32.ofNat K)), .val (.int (Int32.ofNat P)), .val (.ref o7), s8, s9, s10, s11, s12] [])) target := by
  obtain ⟨_, _, ⟨T5, L5, k5, n5⟩, -, X5, ⟨Lc5, hQ5, l5, y5, z5⟩, st5⟩ := Jvm.LawKit.callS X0 hx (y := (⟨"com/example/vor/vor/index/DecoderReadNumberPinLaw", "put", "([BIIIJ)V"⟩ : MethodName)) hown (mvT hZ (hw _ (List.mem_of_getElem? (i := 2) rfl))) (mvT hZ (hw _ (List.mem_of_getElem? (i := 3) rfl))) (mvT hZ (hw _ (List.mem_of_getElem? (i := 4) rfl))) (mvT hZ (hw _ (List.mem_of_getElem? (i := 5) rfl))) (by decide) (backOf (W := 0) (rm1 l Z a0 hw [] o7 ka vs P 0 K j0 h0 n0 Z0 V0 hvs hPn (by decide) hKn g_o7) hZ (hw _ (List.mem_of_getElem? (i := 5) rfl)) (hw _ (List.mem_of_getElem? (i := 4) rfl)) (by decide) (by decide)) (g := (mkF m 192 #[.val (.long j0), .second, s2, s3, s4, .val (.int (Int32.ofNat K)), .val (.int (Int32.ofNat P)), .val (.ref o7), s8, s9, s10, s11, s12] [(.long j0), (.int (Int32.ofNat K)), (.int (0 : Int32)), (.int (Int32.ofNat P)), (.ref o7)])) rfl (by rw [hml]; rfl) (argsL := [(.ref o7), (.int (Int32.ofNat P)), (.int (0 : Int32)), (.int (Int32.ofNat K)), (.long j0)]) (rest := []) (lenOf pd_0_0 rfl) rfl (by show 2 * 0 + _ ≤ _; exact Nat.le_of_eq rfl) (hb hby at_192) (fun _ _ => ⟨rfl, e0, (by decide : 1 + 0 ≤ _), (by decide : 16 + 0 ≤ _)⟩)
  dsimp only [Pt.U, Pt.locs, Pt.cells, Pt.slots] at X5 l5 y5 z5 st5 hQ5
  subst l5 y5 z5
  obtain ⟨rfl, N5q, Zc, Vc⟩ := hQ5
  have N5 := Fr.app N0 N5q
  refine ⟨T5, _, _, X5, rfl, N5, Zc, Vc, fun target kt => ?_⟩
  show Steps p.tables e below (T0.setTop (mkF m 184 #[.val (.long j0), .second, s2, s3, s4, .val (.int (Int32.ofNat K)), .val (.int (Int32.ofNat P)), .val (.ref o7), s8, s9, s10, s11, s12] [])) _
  refine XS.aload X0.here hx rfl (hb hby at_184) rfl rfl ?_
  show Steps p.tables e below (T0.setTop (mkF m 186 #[.val (.long j0), .second, s2, s3, s4, .val (.int (Int32.ofNat K)), .val (.int (Int32.ofNat P)), .val (.ref o7), s8, s9, s10, s11, s12] [(.ref o7)])) _
  refine XS.iload X0.here hx rfl (hb hby at_186) rfl ?_
  show Steps p.tables e below (T0.setTop (mkF m 188 #[.val (.long j0), .second, s2, s3, s4, .val (.int (Int32.ofNat K)), .val (.int (Int32.ofNat P)), .val (.ref o7), s8, s9, s10, s11, s12] [(.int (Int32.ofNat P)), (.ref o7)])) _
  refine XS.iconst X0.here hx rfl (hb hby at_188) ?_
  show Steps p.tables e below (T0.setTop (mkF m 189 #[.val (.long j0), .second, s2, s3, s4, .val (.int (Int32.ofNat K)), .val (.int (Int32.ofNat P)), .val (.ref o7), s8, s9, s10, s11, s12] [(.int (0 : Int32)), (.int (Int32.ofNat P)), (.ref o7)])) _
  refine XS.iload X0.here hx rfl (hb hby at_189) rfl ?_
  show Steps p.tables e below (T0.setTop (mkF m 191 #[.val (.long j0), .second, s2, s3, s4, .val (.int (Int32.ofNat K)), .val (.int (Int32.ofNat P)), .val (.ref o7), s8, s9, s10, s11, s12] [(.int (Int32.ofNat K)), (.int (0 : Int32)), (.int (Int32.ofNat P)), (.ref o7)])) _
  refine XS.lloadN X0.here hx rfl (hb hby at_191) rfl ?_
  show Steps p.tables e below (T0.setTop (mkF m 192 #[.val (.long j0), .second, s2, s3, s4, .val (.int (Int32.ofNat K)), .val (.int (Int32.ofNat P)), .val (.ref o7), s8, s9, s10, s11, s12] [(.long j0), (.int (Int32.ofNat K)), (.int (0 : Int32)), (.int (Int32.ofNat P)), (.ref o7)])) _
  refine st5 _ ?_
  exact kt
set_option maxRecDepth 65536 in
set_option maxHeartbeats 40000000 in
theorem tn0_195_206 {p : Program} {l : Launch} {e : Env} {s : State} {m : MethodId} {args : Array Value} {below : List Frame} {meth : Method} {c : Code} {T0 : State} {locs : List Loc} {Z : State} {a0 : Array Value} {h0 : Heap} (j0 : Int64) (s2 : Slot) (s3 : Slot) (s4 : Slot) (K P : Nat) (o7 : Addr) (s8 : Slot) (s9 : Slot) (s10 : Slot) (s11 : Slot) (s12 : Slot) (ka : ClassId) (n0 : Nat) (vs : List Value)
    (X0 : Stand p l e room_1 s m args below meth c T0 locs 1 16) (hx : p.tables.exec = Jvm.exec) (hZ : Z.Warmed39 s.vm) (hw : ∀ d ∈ tables_1, d.before a0 Z = true) (hby : c.code = code) (hml : c.maxLocals = 13) (hown : s.vm.findClass "com/example/vor/vor/index/DecoderReadNumberPinLaw" = some m.cls) (e0 : T0.heap = h0) (hvs : vs.length = 16) (hKn : K ≤ 10) (hPn : P ≤ 3) (g_o7 : n0 ≤ o7) (N0 : Fr n0 locs) (Z0 : n0 ≤ h0.size) (V0 : Arv Z h0 o7 ka .byte (16 : Int32) vs (.int (0 : Int32))) :
    ∃ (T' : State) (h' : Heap) (locs' : List Loc), Stand p l e room_1 s m args below meth c T' locs' 1 16 ∧ T'.heap = h' ∧ Fr n0 locs' ∧ h0.size ≤ h'.size ∧ Arv Z h' o7 ka .byte (16 : Int32) (own_put vs P 1 K j0) (.int (0 : Int32)) ∧
      ∀ target, Steps p.tables e below (T'.setTop (mkF m 206 #[.val (.long j0), .second, s2, s3, s4, .val (.int (Int32.ofNat K)), .val (.int (Int32.ofNat P)), .val (.ref o7), s8, s9, s10, s11, s12] [])) target → Steps p.tables e below (T0.setTop (mkF m 195 #[.val (.long j0), .second, s2, s3, s4, .val (.int (Int32.ofNat K)), .val (.int (Int32.ofNat P)), .val (.ref o7), s8, s9, s10, s11, s12] [])) target := by
  obtain ⟨_, _, ⟨T5, L5, k5, n5⟩, -, X5, ⟨Lc5, hQ5, l5, y5, z5⟩, st5⟩ := Jvm.LawKit.callS X0 hx (y := (⟨"com/example/vor/vor/index/DecoderReadNumberPinLaw", "put", "([BIIIJ)V"⟩ : MethodName)) hown (mvT hZ (hw _ (List.mem_of_getElem? (i := 2) rfl))) (mvT hZ (hw _ (List.mem_of_getElem? (i := 3) rfl))) (mvT hZ (hw _ (List.mem_of_getElem? (i := 4) rfl))) (mvT hZ (hw _ (List.mem_of_getElem? (i := 5) rfl))) (by decide) (backOf (W := 0) (rm1 l Z a0 hw [] o7 ka vs P 1 K j0 h0 n0 Z0 V0 hvs hPn (by decide) hKn g_o7) hZ (hw _ (List.mem_of_getElem? (i := 5) rfl)) (hw _ (List.mem_of_getElem? (i := 4) rfl)) (by decide) (by decide)) (g := (mkF m 203 #[.val (.long j0), .second, s2, s3, s4, .val (.int (Int32.ofNat K)), .val (.int (Int32.ofNat P)), .val (.ref o7), s8, s9, s10, s11, s12] [(.long j0), (.int (Int32.ofNat K)), (.int (1 : Int32)), (.int (Int32.ofNat P)), (.ref o7)])) rfl (by rw [hml]; rfl) (argsL := [(.ref o7), (.int (Int32.ofNat P)), (.int (1 : Int32)), (.int (Int32.ofNat K)), (.long j0)]) (rest := []) (lenOf pd_0_0 rfl) rfl (by show 2 * 0 + _ ≤ _; exact Nat.le_of_eq rfl) (hb hby at_203) (fun _ _ => ⟨rfl, e0, (by decide : 1 + 0 ≤ _), (by decide : 16 + 0 ≤ _)⟩)
  dsimp only [Pt.U, Pt.locs, Pt.cells, Pt.slots] at X5 l5 y5 z5 st5 hQ5
  subst l5 y5 z5
  obtain ⟨rfl, N5q, Zc, Vc⟩ := hQ5
  have N5 := Fr.app N0 N5q
  refine ⟨T5, _, _, X5, rfl, N5, Zc, Vc, fun target kt => ?_⟩
  show Steps p.tables e below (T0.setTop (mkF m 195 #[.val (.long j0), .second, s2, s3, s4, .val (.int (Int32.ofNat K)), .val (.int (Int32.ofNat P)), .val (.ref o7), s8, s9, s10, s11, s12] [])) _
  refine XS.aload X0.here hx rfl (hb hby at_195) rfl rfl ?_
  show Steps p.tables e below (T0.setTop (mkF m 197 #[.val (.long j0), .second, s2, s3, s4, .val (.int (Int32.ofNat K)), .val (.int (Int32.ofNat P)), .val (.ref o7), s8, s9, s10, s11, s12] [(.ref o7)])) _
  refine XS.iload X0.here hx rfl (hb hby at_197) rfl ?_
  show Steps p.tables e below (T0.setTop (mkF m 199 #[.val (.long j0), .second, s2, s3, s4, .val (.int (Int32.ofNat K)), .val (.int (Int32.ofNat P)), .val (.ref o7), s8, s9, s10, s11, s12] [(.int (Int32.ofNat P)), (.ref o7)])) _
  refine XS.iconst X0.here hx rfl (hb hby at_199) ?_
  show Steps p.tables e below (T0.setTop (mkF m 200 #[.val (.long j0), .second, s2, s3, s4, .val (.int (Int32.ofNat K)), .val (.int (Int32.ofNat P)), .val (.ref o7), s8, s9, s10, s11, s12] [(.int (1 : Int32)), (.int (Int32.ofNat P)), (.ref o7)])) _
  refine XS.iload X0.here hx rfl (hb hby at_200) rfl ?_
  show Steps p.tables e below (T0.setTop (mkF m 202 #[.val (.long j0), .second, s2, s3, s4, .val (.int (Int32.ofNat K)), .val (.int (Int32.ofNat P)), .val (.ref o7), s8, s9, s10, s11, s12] [(.int (Int32.ofNat K)), (.int (1 : Int32)), (.int (Int32.ofNat P)), (.ref o7)])) _
  refine XS.lloadN X0.here hx rfl (hb hby at_202) rfl ?_
  show Steps p.tables e below (T0.setTop (mkF m 203 #[.val (.long j0), .second, s2, s3, s4, .val (.int (Int32.ofNat K)), .val (.int (Int32.ofNat P)), .val (.ref o7), s8, s9, s10, s11, s12] [(.long j0), (.int (Int32.ofNat K)), (.int (1 : Int32)), (.int (Int32.ofNat P)), (.ref o7)])) _
  refine st5 _ ?_
  exact kt
set_option maxRecDepth 65536 in
set_option maxHeartbeats 40000000 in
theorem tn0_206_217 {p : Program} {l : Launch} {e : Env} {s : State} {m : MethodId} {args : Array Value} {below : List Frame} {meth : Method} {c : Code} {T0 : State} {locs : List Loc} {Z : State} {a0 : Array Value} {h0 : Heap} (j0 : Int64) (s2 : Slot) (s3 : Slot) (s4 : Slot) (K P : Nat) (o7 : Addr) (s8 : Slot) (s9 : Slot) (s10 : Slot) (s11 : Slot) (s12 : Slot) (ka : ClassId) (n0 : Nat) (vs : List Value)
    (X0 : Stand p l e room_1 s m args below meth c T0 locs 1 16) (hx : p.tables.exec = Jvm.exec) (hZ : Z.Warmed39 s.vm) (hw : ∀ d ∈ tables_1, d.before a0 Z = true) (hby : c.code = code) (hml : c.maxLocals = 13) (hown : s.vm.findClass "com/example/vor/vor/index/DecoderReadNumberPinLaw" = some m.cls) (e0 : T0.heap = h0) (hvs : vs.length = 16) (hKn : K ≤ 10) (hPn : P ≤ 3) (g_o7 : n0 ≤ o7) (N0 : Fr n0 locs) (Z0 : n0 ≤ h0.size) (V0 : Arv Z h0 o7 ka .byte (16 : Int32) vs (.int (0 : Int32))) :
    ∃ (T' : State) (h' : Heap) (locs' : List Loc), Stand p l e room_1 s m args below meth c T' locs' 1 16 ∧ T'.heap = h' ∧ Fr n0 locs' ∧ h0.size ≤ h'.size ∧ Arv Z h' o7 ka .byte (16 : Int32) (own_put vs P 2 K j0) (.int (0 : Int32)) ∧
      ∀ target, Steps p.tables e below (T'.setTop (mkF m 217 #[.val (.long j0), .second, s2, s3, s4, .val (.int (Int32.ofNat K)), .val (.int (Int32.ofNat P)), .val (.ref o7), s8, s9, s10, s11, s12] [])) target → Steps p.tables e below (T0.setTop (mkF m 206 #[.val (.long j0), .second, s2, s3, s4, .val (.int (Int32.ofNat K)), .val (.int (Int32.ofNat P)), .val (.ref o7), s8, s9, s10, s11, s12] [])) target := by
  obtain ⟨_, _, ⟨T5, L5, k5, n5⟩, -, X5, ⟨Lc5, hQ5, l5, y5, z5⟩, st5⟩ := Jvm.LawKit.callS X0 hx (y := (⟨"com/example/vor/vor/index/DecoderReadNumberPinLaw", "put", "([BIIIJ)V"⟩ : MethodName)) hown (mvT hZ (hw _ (List.mem_of_getElem? (i := 2) rfl))) (mvT hZ (hw _ (List.mem_of_getElem? (i := 3) rfl))) (mvT hZ (hw _ (List.mem_of_getElem? (i := 4) rfl))) (mvT hZ (hw _ (List.mem_of_getElem? (i := 5) rfl))) (by decide) (backOf (W := 0) (rm1 l Z a0 hw [] o7 ka vs P 2 K j0 h0 n0 Z0 V0 hvs hPn (by decide) hKn g_o7) hZ (hw _ (List.mem_of_getElem? (i := 5) rfl)) (hw _ (List.mem_of_getElem? (i := 4) rfl)) (by decide) (by decide)) (g := (mkF m 214 #[.val (.long j0), .second, s2, s3, s4, .val (.int (Int32.ofNat K)), .val (.int (Int32.ofNat P)), .val (.ref o7), s8, s9, s10, s11, s12] [(.long j0), (.int (Int32.ofNat K)), (.int (2 : Int32)), (.int (Int32.ofNat P)), (.ref o7)])) rfl (by rw [hml]; rfl) (argsL := [(.ref o7), (.int (Int32.ofNat P)), (.int (2 : Int32)), (.int (Int32.ofNat K)), (.long j0)]) (rest := []) (lenOf pd_0_0 rfl) rfl (by show 2 * 0 + _ ≤ _; exact Nat.le_of_eq rfl) (hb hby at_214) (fun _ _ => ⟨rfl, e0, (by decide : 1 + 0 ≤ _), (by decide : 16 + 0 ≤ _)⟩)
  dsimp only [Pt.U, Pt.locs, Pt.cells, Pt.slots] at X5 l5 y5 z5 st5 hQ5
  subst l5 y5 z5
  obtain ⟨rfl, N5q, Zc, Vc⟩ := hQ5
  have N5 := Fr.app N0 N5q
  refine ⟨T5, _, _, X5, rfl, N5, Zc, Vc, fun target kt => ?_⟩
  show Steps p.tables e below (T0.setTop (mkF m 206 #[.val (.long j0), .second, s2, s3, s4, .val (.int (Int32.ofNat K)), .val (.int (Int32.ofNat P)), .val (.ref o7), s8, s9, s10, s11, s12] [])) _
  refine XS.aload X0.here hx rfl (hb hby at_206) rfl rfl ?_
  show Steps p.tables e below (T0.setTop (mkF m 208 #[.val (.long j0), .second, s2, s3, s4, .val (.int (Int32.ofNat K)), .val (.int (Int32.ofNat P)), .val (.ref o7), s8, s9, s10, s11, s12] [(.ref o7)])) _
  refine XS.iload X0.here hx rfl (hb hby at_208) rfl ?_
  show Steps p.tables e below (T0.setTop (mkF m 210 #[.val (.long j0), .second, s2, s3, s4, .val (.int (Int32.ofNat K)), .val (.int (Int32.ofNat P)), .val (.ref o7), s8, s9, s10, s11, s12] [(.int (Int32.ofNat P)), (.ref o7)])) _
  refine XS.iconst X0.here hx rfl (hb hby at_210) ?_
  show Steps p.tables e below (T0.setTop (mkF m 211 #[.val (.long j0), .second, s2, s3, s4, .val (.int (Int32.ofNat K)), .val (.int (Int32.ofNat P)), .val (.ref o7), s8, s9, s10, s11, s12] [(.int (2 : Int32)), (.int (Int32.ofNat P)), (.ref o7)])) _
  refine XS.iload X0.here hx rfl (hb hby at_211) rfl ?_
  show Steps p.tables e below (T0.setTop (mkF m 213 #[.val (.long j0), .second, s2, s3, s4, .val (.int (Int32.ofNat K)), .val (.int (Int32.ofNat P)), .val (.ref o7), s8, s9, s10, s11, s12] [(.int (Int32.ofNat K)), (.int (2 : Int32)), (.int (Int32.ofNat P)), (.ref o7)])) _
  refine XS.lloadN X0.here hx rfl (hb hby at_213) rfl ?_
  show Steps p.tables e below (T0.setTop (mkF m 214 #[.val (.long j0), .second, s2, s3, s4, .val (.int (Int32.ofNat K)), .val (.int (Int32.ofNat P)), .val (.ref o7), s8, s9, s10, s11, s12] [(.long j0), (.int (Int32.ofNat K)), (.int (2 : Int32)), (.int (Int32.ofNat P)), (.ref o7)])) _
  refine st5 _ ?_
  exact kt
set_option maxRecDepth 65536 in
set_option maxHeartbeats 40000000 in
theorem tn0_217_228 {p : Program} {l : Launch} {e : Env} {s : State} {m : MethodId} {args : Array Value} {below : List Frame} {meth : Method} {c : Code} {T0 : State} {locs : List Loc} {Z : State} {a0 : Array Value} {h0 : Heap} (j0 : Int64) (s2 : Slot) (s3 : Slot) (s4 : Slot) (K P : Nat) (o7 : Addr) (s8 : Slot) (s9 : Slot) (s10 : Slot) (s11 : Slot) (s12 : Slot) (ka : ClassId) (n0 : Nat) (vs : List Value)
    (X0 : Stand p l e room_1 s m args below meth c T0 locs 1 16) (hx : p.tables.exec = Jvm.exec) (hZ : Z.Warmed39 s.vm) (hw : ∀ d ∈ tables_1, d.before a0 Z = true) (hby : c.code = code) (hml : c.maxLocals = 13) (hown : s.vm.findClass "com/example/vor/vor/index/DecoderReadNumberPinLaw" = some m.cls) (e0 : T0.heap = h0) (hvs : vs.length = 16) (hKn : K ≤ 10) (hPn : P ≤ 3) (g_o7 : n0 ≤ o7) (N0 : Fr n0 locs) (Z0 : n0 ≤ h0.size) (V0 : Arv Z h0 o7 ka .byte (16 : Int32) vs (.int (0 : Int32))) :
    ∃ (T' : State) (h' : Heap) (locs' : List Loc), Stand p l e room_1 s m args below meth c T' locs' 1 16 ∧ T'.heap = h' ∧ Fr n0 locs' ∧ h0.size ≤ h'.size ∧ Arv Z h' o7 ka .byte (16 : Int32) (own_put vs P 3 K j0) (.int (0 : Int32)) ∧
      ∀ target, Steps p.tables e below (T'.setTop (mkF m 228 #[.val (.long j0), .second, s2, s3, s4, .val (.int (Int32.ofNat K)), .val (.int (Int32.ofNat P)), .val (.ref o7), s8, s9, s10, s11, s12] [])) target → Steps p.tables e below (T0.setTop (mkF m 217 #[.val (.long j0), .second, s2, s3, s4, .val (.int (Int32.ofNat K)), .val (.int (Int32.ofNat P)), .val (.ref o7), s8, s9, s10, s11, s12] [])) target := by
  obtain ⟨_, _, ⟨T5, L5, k5, n5⟩, -, X5, ⟨Lc5, hQ5, l5, y5, z5⟩, st5⟩ := Jvm.LawKit.callS X0 hx (y := (⟨"com/example/vor/vor/index/DecoderReadNumberPinLaw", "put", "([BIIIJ)V"⟩ : MethodName)) hown (mvT hZ (hw _ (List.mem_of_getElem? (i := 2) rfl))) (mvT hZ (hw _ (List.mem_of_getElem? (i := 3) rfl))) (mvT hZ (hw _ (List.mem_of_getElem? (i := 4) rfl))) (mvT hZ (hw _ (List.mem_of_getElem? (i := 5) rfl))) (by decide) (backOf (W := 0) (rm1 l Z a0 hw [] o7 ka vs P 3 K j0 h0 n0 Z0 V0 hvs hPn (by decide) hKn g_o7) hZ (hw _ (List.mem_of_getElem? (i := 5) rfl)) (hw _ (List.mem_of_getElem? (i := 4) rfl)) (by decide) (by decide)) (g := (mkF m 225 #[.val (.long j0), .second, s2, s3, s4, .val (.int (Int32.ofNat K)), .val (.int (Int32.ofNat P)), .val (.ref o7), s8, s9, s10, s11, s12] [(.long j0), (.int (Int32.ofNat K)), (.int (3 : Int32)), (.int (Int32.ofNat P)), (.ref o7)])) rfl (by rw [hml]; rfl) (argsL := [(.ref o7), (.int (Int32.ofNat P)), (.int (3 : Int32)), (.int (Int32.ofNat K)), (.long j0)]) (rest := []) (lenOf pd_0_0 rfl) rfl (by show 2 * 0 + _ ≤ _; exact Nat.le_of_eq rfl) (hb hby at_225) (fun _ _ => ⟨rfl, e0, (by decide : 1 + 0 ≤ _), (by decide : 16 + 0 ≤ _)⟩)
  dsimp only [Pt.U, Pt.locs, Pt.cells, Pt.slots] at X5 l5 y5 z5 st5 hQ5
  subst l5 y5 z5
  obtain ⟨rfl, N5q, Zc, Vc⟩ := hQ5
  have N5 := Fr.app N0 N5q
  refine ⟨T5, _, _, X5, rfl, N5, Zc, Vc, fun target kt => ?_⟩
  show Steps p.tables e below (T0.setTop (mkF m 217 #[.val (.long j0), .second, s2, s3, s4, .val (.int (Int32.ofNat K)), .val (.int (Int32.ofNat P)), .val (.ref o7), s8, s9, s10, s11, s12] [])) _
  refine XS.aload X0.here hx rfl (hb hby at_217) rfl rfl ?_
  show Steps p.tables e below (T0.setTop (mkF m 219 #[.val (.long j0), .second, s2, s3, s4, .val (.int (Int32.ofNat K)), .val (.int (Int32.ofNat P)), .val (.ref o7), s8, s9, s10, s11, s12] [(.ref o7)])) _
  refine XS.iload X0.here hx rfl (hb hby at_219) rfl ?_
  show Steps p.tables e below (T0.setTop (mkF m 221 #[.val (.long j0), .second, s2, s3, s4, .val (.int (Int32.ofNat K)), .val (.int (Int32.ofNat P)), .val (.ref o7), s8, s9, s10, s11, s12] [(.int (Int32.ofNat P)), (.ref o7)])) _
  refine XS.iconst X0.here hx rfl (hb hby at_221) ?_
  show Steps p.tables e below (T0.setTop (mkF m 222 #[.val (.long j0), .second, s2, s3, s4, .val (.int (Int32.ofNat K)), .val (.int (Int32.ofNat P)), .val (.ref o7), s8, s9, s10, s11, s12] [(.int (3 : Int32)), (.int (Int32.ofNat P)), (.ref o7)])) _
  refine XS.iload X0.here hx rfl (hb hby at_222) rfl ?_
  show Steps p.tables e below (T0.setTop (mkF m 224 #[.val (.long j0), .second, s2, s3, s4, .val (.int (Int32.ofNat K)), .val (.int (Int32.ofNat P)), .val (.ref o7), s8, s9, s10, s11, s12] [(.int (Int32.ofNat K)), (.int (3 : Int32)), (.int (Int32.ofNat P)), (.ref o7)])) _
  refine XS.lloadN X0.here hx rfl (hb hby at_224) rfl ?_
  show Steps p.tables e below (T0.setTop (mkF m 225 #[.val (.long j0), .second, s2, s3, s4, .val (.int (Int32.ofNat K)), .val (.int (Int32.ofNat P)), .val (.ref o7), s8, s9, s10, s11, s12] [(.long j0), (.int (Int32.ofNat K)), (.int (3 : Int32)), (.int (Int32.ofNat P)), (.ref o7)])) _
  refine st5 _ ?_
  exact kt
set_option maxRecDepth 65536 in
set_option maxHeartbeats 40000000 in
theorem tn0_228_239 {p : Program} {l : Launch} {e : Env} {s : State} {m : MethodId} {args : Array Value} {below : List Frame} {meth : Method} {c : Code} {T0 : State} {locs : List Loc} {Z : State} {a0 : Array Value} {h0 : Heap} (j0 : Int64) (s2 : Slot) (s3 : Slot) (s4 : Slot) (K P : Nat) (o7 : Addr) (s8 : Slot) (s9 : Slot) (s10 : Slot) (s11 : Slot) (s12 : Slot) (ka : ClassId) (n0 : Nat) (vs : List Value)
    (X0 : Stand p l e room_1 s m args below meth c T0 locs 1 16) (hx : p.tables.exec = Jvm.exec) (hZ : Z.Warmed39 s.vm) (hw : ∀ d ∈ tables_1, d.before a0 Z = true) (hby : c.code = code) (hml : c.maxLocals = 13) (hown : s.vm.findClass "com/example/vor/vor/index/DecoderReadNumberPinLaw" = some m.cls) (e0 : T0.heap = h0) (hvs : vs.length = 16) (hKn : K ≤ 10) (hPn : P ≤ 3) (g_o7 : n0 ≤ o7) (N0 : Fr n0 locs) (Z0 : n0 ≤ h0.size) (V0 : Arv Z h0 o7 ka .byte (16 : Int32) vs (.int (0 : Int32))) :
    ∃ (T' : State) (h' : Heap) (locs' : List Loc), Stand p l e room_1 s m args below meth c T' locs' 1 16 ∧ T'.heap = h' ∧ Fr n0 locs' ∧ h0.size ≤ h'.size ∧ Arv Z h' o7 ka .byte (16 : Int32) (own_put vs P 4 K j0) (.int (0 : Int32)) ∧
      ∀ target, Steps p.tables e below (T'.setTop (mkF m 239 #[.val (.long j0), .second, s2, s3, s4, .val (.int (Int32.ofNat K)), .val (.int (Int32.ofNat P)), .val (.ref o7), s8, s9, s10, s11, s12] [])) target → Steps p.tables e below (T0.setTop (mkF m 228 #[.val (.long j0), .second, s2, s3, s4, .val (.int (Int32.ofNat K)), .val (.int (Int32.ofNat P)), .val (.ref o7), s8, s9, s10, s11, s12] [])) target := by
  obtain ⟨_, _, ⟨T5, L5, k5, n5⟩, -, X5, ⟨Lc5, hQ5, l5, y5, z5⟩, st5⟩ := Jvm.LawKit.callS X0 hx (y := (⟨"com/example/vor/vor/index/DecoderReadNumberPinLaw", "put", "([BIIIJ)V"⟩ : MethodName)) hown (mvT hZ (hw _ (List.mem_of_getElem? (i := 2) rfl))) (mvT hZ (hw _ (List.mem_of_getElem? (i := 3) rfl))) (mvT hZ (hw _ (List.mem_of_getElem? (i := 4) rfl))) (mvT hZ (hw _ (List.mem_of_getElem? (i := 5) rfl))) (by decide) (backOf (W := 0) (rm1 l Z a0 hw [] o7 ka vs P 4 K j0 h0 n0 Z0 V0 hvs hPn (by decide) hKn g_o7) hZ (hw _ (List.mem_of_getElem? (i := 5) rfl)) (hw _ (List.mem_of_getElem? (i := 4) rfl)) (by decide) (by decide)) (g := (mkF m 236 #[.val (.long j0), .second, s2, s3, s4, .val (.int (Int32.ofNat K)), .val (.int (Int32.ofNat P)), .val (.ref o7), s8, s9, s10, s11, s12] [(.long j0), (.int (Int32.ofNat K)), (.int (4 : Int32)), (.int (Int32.ofNat P)), (.ref o7)])) rfl (by rw [hml]; rfl) (argsL := [(.ref o7), (.int (Int32.ofNat P)), (.int (4 : Int32)), (.int (Int32.ofNat K)), (.long j0)]) (rest := []) (lenOf pd_0_0 rfl) rfl (by show 2 * 0 + _ ≤ _; exact Nat.le_of_eq rfl) (hb hby at_236) (fun _ _ => ⟨rfl, e0, (by decide : 1 + 0 ≤ _), (by decide : 16 + 0 ≤ _)⟩)
  dsimp only [Pt.U, Pt.locs, Pt.cells, Pt.slots] at X5 l5 y5 z5 st5 hQ5
  subst l5 y5 z5
  obtain ⟨rfl, N5q, Zc, Vc⟩ := hQ5
  have N5 := Fr.app N0 N5q
  refine ⟨T5, _, _, X5, rfl, N5, Zc, Vc, fun target kt => ?_⟩
  show Steps p.tables e below (T0.setTop (mkF m 228 #[.val (.long j0), .second, s2, s3, s4, .val (.int (Int32.ofNat K)), .val (.int (Int32.ofNat P)), .val (.ref o7), s8, s9, s10, s11, s12] [])) _
  refine XS.aload X0.here hx rfl (hb hby at_228) rfl rfl ?_
  show Steps p.tables e below (T0.setTop (mkF m 230 #[.val (.long j0), .second, s2, s3, s4, .val (.int (Int32.ofNat K)), .val (.int (Int32.ofNat P)), .val (.ref o7), s8, s9, s10, s11, s12] [(.ref o7)])) _
  refine XS.iload X0.here hx rfl (hb hby at_230) rfl ?_
  show Steps p.tables e below (T0.setTop (mkF m 232 #[.val (.long j0), .second, s2, s3, s4, .val (.int (Int32.ofNat K)), .val (.int (Int32.ofNat P)), .val (.ref o7), s8, s9, s10, s11, s12] [(.int (Int32.ofNat P)), (.ref o7)])) _
  refine XS.iconst X0.here hx rfl (hb hby at_232) ?_
  show Steps p.tables e below (T0.setTop (mkF m 233 #[.val (.long j0), .second, s2, s3, s4, .val (.int (Int32.ofNat K)), .val (.int (Int32.ofNat P)), .val (.ref o7), s8, s9, s10, s11, s12] [(.int (4 : Int32)), (.int (Int32.ofNat P)), (.ref o7)])) _
  refine XS.iload X0.here hx rfl (hb hby at_233) rfl ?_
  show Steps p.tables e below (T0.setTop (mkF m 235 #[.val (.long j0), .second, s2, s3, s4, .val (.int (Int32.ofNat K)), .val (.int (Int32.ofNat P)), .val (.ref o7), s8, s9, s10, s11, s12] [(.int (Int32.ofNat K)), (.int (4 : Int32)), (.int (Int32.ofNat P)), (.ref o7)])) _
  refine XS.lloadN X0.here hx rfl (hb hby at_235) rfl ?_
  show Steps p.tables e below (T0.setTop (mkF m 236 #[.val (.long j0), .second, s2, s3, s4, .val (.int (Int32.ofNat K)), .val (.int (Int32.ofNat P)), .val (.ref o7), s8, s9, s10, s11, s12] [(.long j0), (.int (Int32.ofNat K)), (.int (4 : Int32)), (.int (Int32.ofNat P)), (.ref o7)])) _
  refine st5 _ ?_
  exact kt
set_option maxRecDepth 65536 in
set_option maxHeartbeats 40000000 in
theorem tn0_239_250 {p : Program} {l : Launch} {e : Env} {s : State} {m : MethodId} {args : Array Value} {below : List Frame} {meth : Method} {c : Code} {T0 : State} {locs : List Loc} {Z : State} {a0 : Array Value} {h0 : Heap} (j0 : Int64) (s2 : Slot) (s3 : Slot) (s4 : Slot) (K P : Nat) (o7 : Addr) (s8 : Slot) (s9 : Slot) (s10 : Slot) (s11 : Slot) (s12 : Slot) (ka : ClassId) (n0 : Nat) (vs : List Value)
    (X0 : Stand p l e room_1 s m args below meth c T0 locs 1 16) (hx : p.tables.exec = Jvm.exec) (hZ : Z.Warmed39 s.vm) (hw : ∀ d ∈ tables_1, d.before a0 Z = true) (hby : c.code = code) (hml : c.maxLocals = 13) (hown : s.vm.findClass "com/example/vor/vor/index/DecoderReadNumberPinLaw" = some m.cls) (e0 : T0.heap = h0) (hvs : vs.length = 16) (hKn : K ≤ 10) (hPn : P ≤ 3) (g_o7 : n0 ≤ o7) (N0 : Fr n0 locs) (Z0 : n0 ≤ h0.size) (V0 : Arv Z h0 o7 ka .byte (16 : Int32) vs (.int (0 : Int32))) :
    ∃ (T' : State) (h' : Heap) (locs' : List Loc), Stand p l e room_1 s m args below meth c T' locs' 1 16 ∧ T'.heap = h' ∧ Fr n0 locs' ∧ h0.size ≤ h'.size ∧ Arv Z h' o7 ka .byte (16 : Int32) (own_put vs P 5 K j0) (.int (0 : Int32)) ∧
      ∀ target, Steps p.tables e below (T'.setTop (mkF m 250 #[.val (.long j0), .second, s2, s3, s4, .val (.int (Int32.ofNat K)), .val (.int (Int32.ofNat P)), .val (.ref o7), s8, s9, s10, s11, s12] [])) target → Steps p.tables e below (T0.setTop (mkF m 239 #[.val (.long j0), .second, s2, s3, s4, .val (.int (Int32.ofNat K)), .val (.int (Int32.ofNat P)), .val (.ref o7), s8, s9, s10, s11, s12] [])) target := by
  obtain ⟨_, _, ⟨T5, L5, k5, n5⟩, -, X5, ⟨Lc5, hQ5, l5, y5, z5⟩, st5⟩ := Jvm.LawKit.callS X0 hx (y := (⟨"com/example/vor/vor/index/DecoderReadNumberPinLaw", "put", "([BIIIJ)V"⟩ : MethodName)) hown (mvT hZ (hw _ (List.mem_of_getElem? (i := 2) rfl))) (mvT hZ (hw _ (List.mem_of_getElem? (i := 3) rfl))) (mvT hZ (hw _ (List.mem_of_getElem? (i := 4) rfl))) (mvT hZ (hw _ (List.mem_of_getElem? (i := 5) rfl))) (by decide) (backOf (W := 0) (rm1 l Z a0 hw [] o7 ka vs P 5 K j0 h0 n0 Z0 V0 hvs hPn (by decide) hKn g_o7) hZ (hw _ (List.mem_of_getElem? (i := 5) rfl)) (hw _ (List.mem_of_getElem? (i := 4) rfl)) (by decide) (by decide)) (g := (mkF m 247 #[.val (.long j0), .second, s2, s3, s4, .val (.int (Int32.ofNat K)), .val (.int (Int32.ofNat P)), .val (.ref o7), s8, s9, s10, s11, s12] [(.long j0), (.int (Int32.ofNat K)), (.int (5 : Int32)), (.int (Int32.ofNat P)), (.ref o7)])) rfl (by rw [hml]; rfl) (argsL := [(.ref o7), (.int (Int32.ofNat P)), (.int (5 : Int32)), (.int (Int32.ofNat K)), (.long j0)]) (rest := []) (lenOf pd_0_0 rfl) rfl (by show 2 * 0 + _ ≤ _; exact Nat.le_of_eq rfl) (hb hby at_247) (fun _ _ => ⟨rfl, e0, (by decide : 1 + 0 ≤ _), (by decide : 16 + 0 ≤ _)⟩)
  dsimp only [Pt.U, Pt.locs, Pt.cells, Pt.slots] at X5 l5 y5 z5 st5 hQ5
  subst l5 y5 z5
  obtain ⟨rfl, N5q, Zc, Vc⟩ := hQ5
  have N5 := Fr.app N0 N5q
  refine ⟨T5, _, _, X5, rfl, N5, Zc, Vc, fun target kt => ?_⟩
  show Steps p.tables e below (T0.setTop (mkF m 239 #[.val (.long j0), .second, s2, s3, s4, .val (.int (Int32.ofNat K)), .val (.int (Int32.ofNat P)), .val (.ref o7), s8, s9, s10, s11, s12] [])) _
  refine XS.aload X0.here hx rfl (hb hby at_239) rfl rfl ?_
  show Steps p.tables e below (T0.setTop (mkF m 241 #[.val (.long j0), .second, s2, s3, s4, .val (.int (Int32.ofNat K)), .val (.int (Int32.ofNat P)), .val (.ref o7), s8, s9, s10, s11, s12] [(.ref o7)])) _
  refine XS.iload X0.here hx rfl (hb hby at_241) rfl ?_
  show Steps p.tables e below (T0.setTop (mkF m 243 #[.val (.long j0), .second, s2, s3, s4, .val (.int (Int32.ofNat K)), .val (.int (Int32.ofNat P)), .val (.ref o7), s8, s9, s10, s11, s12] [(.int (Int32.ofNat P)), (.ref o7)])) _
  refine XS.iconst X0.here hx rfl (hb hby at_243) ?_
  show Steps p.tables e below (T0.setTop (mkF m 244 #[.val (.long j0), .second, s2, s3, s4, .val (.int (Int32.ofNat K)), .val (.int (Int32.ofNat P)), .val (.ref o7), s8, s9, s10, s11, s12] [(.int (5 : Int32)), (.int (Int32.ofNat P)), (.ref o7)])) _
  refine XS.iload X0.here hx rfl (hb hby at_244) rfl ?_
  show Steps p.tables e below (T0.setTop (mkF m 246 #[.val (.long j0), .second, s2, s3, s4, .val (.int (Int32.ofNat K)), .val (.int (Int32.ofNat P)), .val (.ref o7), s8, s9, s10, s11, s12] [(.int (Int32.ofNat K)), (.int (5 : Int32)), (.int (Int32.ofNat P)), (.ref o7)])) _
  refine XS.lloadN X0.here hx rfl (hb hby at_246) rfl ?_
  show Steps p.tables e below (T0.setTop (mkF m 247 #[.val (.long j0), .second, s2, s3, s4, .val (.int (Int32.ofNat K)), .val (.int (Int32.ofNat P)), .val (.ref o7), s8, s9, s10, s11, s12] [(.long j0), (.int (Int32.ofNat K)), (.int (5 : Int32)), (.int (Int32.ofNat P)), (.ref o7)])) _
  refine st5 _ ?_
  exact kt
set_option maxRecDepth 65536 in
set_option maxHeartbeats 40000000 in
theorem tn0_250_262 {p : Program} {l : Launch} {e : Env} {s : State} {m : MethodId} {args : Array Value} {below : List Frame} {meth : Method} {c : Code} {T0 : State} {locs : List Loc} {Z : State} {a0 : Array Value} {h0 : Heap} (j0 : Int64) (s2 : Slot) (s3 : Slot) (s4 : Slot) (K P : Nat) (o7 : Addr) (s8 : Slot) (s9 : Slot) (s10 : Slot) (s11 : Slot) (s12 : Slot) (ka : ClassId) (n0 : Nat) (vs : List Value)
    (X0 : Stand p l e room_1 s m args below meth c T0 locs 1 16) (hx : p.tables.exec = Jvm.exec) (hZ : Z.Warmed39 s.vm) (hw : ∀ d ∈ tables_1, d.before a0 Z = true) (hby : c.code = code) (hml : c.maxLocals = 13) (hown : s.vm.findClass "com/example/vor/vor/index/DecoderReadNumberPinLaw" = some m.cls) (e0 : T0.heap = h0) (hvs : vs.length = 16) (hKn : K ≤ 10) (hPn : P ≤ 3) (g_o7 : n0 ≤ o7) (N0 : Fr n0 locs) (Z0 : n0 ≤ h0.size) (V0 : Arv Z h0 o7 ka .byte (16 : Int32) vs (.int (0 : Int32))) :
    ∃ (T' : State) (h' : Heap) (locs' : List Loc), Stand p l e room_1 s m args below meth c T' locs' 1 16 ∧ T'.heap = h' ∧ Fr n0 locs' ∧ h0.size ≤ h'.size ∧ Arv Z h' o7 ka .byte (16 : Int32) (own_put vs P 6 K j0) (.int (0 : Int32)) ∧
      ∀ target, Steps p.tables e below (T'.setTop (mkF m 262 #[.val (.long j0), .second, s2, s3, s4, .val (.int (Int32.ofNat K)), .val (.int (Int32.ofNat P)), .val (.ref o7), s8, s9, s10, s11, s12] [])) target → Steps p.tables e below (T0.setTop (mkF m 250 #[.val (.long j0), .second, s2, s3, s4, .val (.int (Int32.ofNat K)), .val (.int (Int32.ofNat P)), .val (.ref o7), s8, s9, s10, s11, s12] [])) target := by
  obtain ⟨_, _, ⟨T5, L5, k5, n5⟩, -, X5, ⟨Lc5, hQ5, l5, y5, z5⟩, st5⟩ := Jvm.LawKit.callS X0 hx (y := (⟨"com/example/vor/vor/index/DecoderReadNumberPinLaw", "put", "([BIIIJ)V"⟩ : MethodName)) hown (mvT hZ (hw _ (List.mem_of_getElem? (i := 2) rfl))) (mvT hZ (hw _ (List.mem_of_getElem? (i := 3) rfl))) (mvT hZ (hw _ (List.mem_of_getElem? (i := 4) rfl))) (mvT hZ (hw _ (List.mem_of_getElem? (i := 5) rfl))) (by decide) (backOf (W := 0) (rm1 l Z a0 hw [] o7 ka vs P 6 K j0 h0 n0 Z0 V0 hvs hPn (by decide) hKn g_o7) hZ (hw _ (List.mem_of_getElem? (i := 5) rfl)) (hw _ (List.mem_of_getElem? (i := 4) rfl)) (by decide) (by decide)) (g := (mkF m 259 #[.val (.long j0), .second, s2, s3, s4, .val (.int (Int32.ofNat K)), .val (.int (Int32.ofNat P)), .val (.ref o7), s8, s9, s10, s11, s12] [(.long j0), (.int (Int32.ofNat K)), (.int (6 : Int32)), (.int (Int32.ofNat P)), (.ref o7)])) rfl (by rw [hml]; rfl) (argsL := [(.ref o7), (.int (Int32.ofNat P)), (.int (6 : Int32)), (.int (Int32.ofNat K)), (.long j0)]) (rest := []) (lenOf pd_0_0 rfl) rfl (by show 2 * 0 + _ ≤ _; exact Nat.le_of_eq rfl) (hb hby at_259) (fun _ _ => ⟨rfl, e0, (by decide : 1 + 0 ≤ _), (by decide : 16 + 0 ≤ _)⟩)
  dsimp only [Pt.U, Pt.locs, Pt.cells, Pt.slots] at X5 l5 y5 z5 st5 hQ5
  subst l5 y5 z5
  obtain ⟨rfl, N5q, Zc, Vc⟩ := hQ5
  have N5 := Fr.app N0 N5q
  refine ⟨T5, _, _, X5, rfl, N5, Zc, Vc, fun target kt => ?_⟩
  show Steps p.tables e below (T0.setTop (mkF m 250 #[.val (.long j0), .second, s2, s3, s4, .val (.int (Int32.ofNat K)), .val (.int (Int32.ofNat P)), .val (.ref o7), s8, s9, s10, s11, s12] [])) _
  refine XS.aload X0.here hx rfl (hb hby at_250) rfl rfl ?_
  show Steps p.tables e below (T0.setTop (mkF m 252 #[.val (.long j0), .second, s2, s3, s4, .val (.int (Int32.ofNat K)), .val (.int (Int32.ofNat P)), .val (.ref o7), s8, s9, s10, s11, s12] [(.ref o7)])) _
  refine XS.iload X0.here hx rfl (hb hby at_252) rfl ?_
  show Steps p.tables e below (T0.setTop (mkF m 254 #[.val (.long j0), .second, s2, s3, s4, .val (.int (Int32.ofNat K)), .val (.int (Int32.ofNat P)), .val (.ref o7), s8, s9, s10, s11, s12] [(.int (Int32.ofNat P)), (.ref o7)])) _
  refine XS.bipush X0.here hx rfl (hb hby at_254) ?_
  show Steps p.tables e below (T0.setTop (mkF m 256 #[.val (.long j0), .second, s2, s3, s4, .val (.int (Int32.ofNat K)), .val (.int (Int32.ofNat P)), .val (.ref o7), s8, s9, s10, s11, s12] [(.int (6 : Int32)), (.int (Int32.ofNat P)), (.ref o7)])) _
  refine XS.iload X0.here hx rfl (hb hby at_256) rfl ?_
  show Steps p.tables e below (T0.setTop (mkF m 258 #[.val (.long j0), .second, s2, s3, s4, .val (.int (Int32.ofNat K)), .val (.int (Int32.ofNat P)), .val (.ref o7), s8, s9, s10, s11, s12] [(.int (Int32.ofNat K)), (.int (6 : Int32)), (.int (Int32.ofNat P)), (.ref o7)])) _
  refine XS.lloadN X0.here hx rfl (hb hby at_258) rfl ?_
  show Steps p.tables e below (T0.setTop (mkF m 259 #[.val (.long j0), .second, s2, s3, s4, .val (.int (Int32.ofNat K)), .val (.int (Int32.ofNat P)), .val (.ref o7), s8, s9, s10, s11, s12] [(.long j0), (.int (Int32.ofNat K)), (.int (6 : Int32)), (.int (Int32.ofNat P)), (.ref o7)])) _
  refine st5 _ ?_
  exact kt
set_option maxRecDepth 65536 in
set_option maxHeartbeats 40000000 in
theorem tn0_262_274 {p : Program} {l : Launch} {e : Env} {s : State} {m : MethodId} {args : Array Value} {below : List Frame} {meth : Method} {c : Code} {T0 : State} {locs : List Loc} {Z : State} {a0 : Array Value} {h0 : Heap} (j0 : Int64) (s2 : Slot) (s3 : Slot) (s4 : Slot) (K P : Nat) (o7 : Addr) (s8 : Slot) (s9 : Slot) (s10 : Slot) (s11 : Slot) (s12 : Slot) (ka : ClassId) (n0 : Nat) (vs : List Value)
    (X0 : Stand p l e room_1 s m args below meth c T0 locs 1 16) (hx : p.tables.exec = Jvm.exec) (hZ : Z.Warmed39 s.vm) (hw : ∀ d ∈ tables_1, d.before a0 Z = true) (hby : c.code = code) (hml : c.maxLocals = 13) (hown : s.vm.findClass "com/example/vor/vor/index/DecoderReadNumberPinLaw" = some m.cls) (e0 : T0.heap = h0) (hvs : vs.length = 16) (hKn : K ≤ 10) (hPn : P ≤ 3) (g_o7 : n0 ≤ o7) (N0 : Fr n0 locs) (Z0 : n0 ≤ h0.size) (V0 : Arv Z h0 o7 ka .byte (16 : Int32) vs (.int (0 : Int32))) :
    ∃ (T' : State) (h' : Heap) (locs' : List Loc), Stand p l e room_1 s m args below meth c T' locs' 1 16 ∧ T'.heap = h' ∧ Fr n0 locs' ∧ h0.size ≤ h'.size ∧ Arv Z h' o7 ka .byte (16 : Int32) (own_put vs P 7 K j0) (.int (0 : Int32)) ∧
      ∀ target, Steps p.tables e below (T'.setTop (mkF m 274 #[.val (.long j0), .second, s2, s3, s4, .val (.int (Int32.ofNat K)), .val (.int (Int32.ofNat P)), .val (.ref o7), s8, s9, s10, s11, s12] [])) target → Steps p.tables e below (T0.setTop (mkF m 262 #[.val (.long j0), .second, s2, s3, s4, .val (.int (Int32.ofNat K)), .val (.int (Int32.ofNat P)), .val (.ref o7), s8, s9, s10, s11, s12] [])) target := by
  obtain ⟨_, _, ⟨T5, L5, k5, n5⟩, -, X5, ⟨Lc5, hQ5, l5, y5, z5⟩, st5⟩ := Jvm.LawKit.callS X0 hx (y := (⟨"com/example/vor/vor/index/DecoderReadNumberPinLaw", "put", "([BIIIJ)V"⟩ : MethodName)) hown (mvT hZ (hw _ (List.mem_of_getElem? (i := 2) rfl))) (mvT hZ (hw _ (List.mem_of_getElem? (i := 3) rfl))) (mvT hZ (hw _ (List.mem_of_getElem? (i := 4) rfl))) (mvT hZ (hw _ (List.mem_of_getElem? (i := 5) rfl))) (by decide) (backOf (W := 0) (rm1 l Z a0 hw [] o7 ka vs P 7 K j0 h0 n0 Z0 V0 hvs hPn (by decide) hKn g_o7) hZ (hw _ (List.mem_of_getElem? (i := 5) rfl)) (hw _ (List.mem_of_getElem? (i := 4) rfl)) (by decide) (by decide)) (g := (mkF m 271 #[.val (.long j0), .second, s2, s3, s4, .val (.int (Int32.ofNat K)), .val (.int (Int32.ofNat P)), .val (.ref o7), s8, s9, s10, s11, s12] [(.long j0), (.int (Int32.ofNat K)), (.int (7 : Int32)), (.int (Int32.ofNat P)), (.ref o7)])) rfl (by rw [hml]; rfl) (argsL := [(.ref o7), (.int (Int32.ofNat P)), (.int (7 : Int32)), (.int (Int32.ofNat K)), (.long j0)]) (rest := []) (lenOf pd_0_0 rfl) rfl (by show 2 * 0 + _ ≤ _; exact Nat.le_of_eq rfl) (hb hby at_271) (fun _ _ => ⟨rfl, e0, (by decide : 1 + 0 ≤ _), (by decide : 16 + 0 ≤ _)⟩)
  dsimp only [Pt.U, Pt.locs, Pt.cells, Pt.slots] at X5 l5 y5 z5 st5 hQ5
  subst l5 y5 z5
  obtain ⟨rfl, N5q, Zc, Vc⟩ := hQ5
  have N5 := Fr.app N0 N5q
  refine ⟨T5, _, _, X5, rfl, N5, Zc, Vc, fun target kt => ?_⟩
  show Steps p.tables e below (T0.setTop (mkF m 262 #[.val (.long j0), .second, s2, s3, s4, .val (.int (Int32.ofNat K)), .val (.int (Int32.ofNat P)), .val (.ref o7), s8, s9, s10, s11, s12] [])) _
  refine XS.aload X0.here hx rfl (hb hby at_262) rfl rfl ?_
  show Steps p.tables e below (T0.setTop (mkF m 264 #[.val (.long j0), .second, s2, s3, s4, .val (.int (Int32.ofNat K)), .val (.int (Int32.ofNat P)), .val (.ref o7), s8, s9, s10, s11, s12] [(.ref o7)])) _
  refine XS.iload X0.here hx rfl (hb hby at_264) rfl ?_
  show Steps p.tables e below (T0.setTop (mkF m 266 #[.val (.long j0), .second, s2, s3, s4, .val (.int (Int32.ofNat K)), .val (.int (Int32.ofNat P)), .val (.ref o7), s8, s9, s10, s11, s12] [(.int (Int32.ofNat P)), (.ref o7)])) _
  refine XS.bipush X0.here hx rfl (hb hby at_266) ?_
  show Steps p.tables e below (T0.setTop (mkF m 268 #[.val (.long j0), .second, s2, s3, s4, .val (.int (Int32.ofNat K)), .val (.int (Int32.ofNat P)), .val (.ref o7), s8, s9, s10, s11, s12] [(.int (7 : Int32)), (.int (Int32.ofNat P)), (.ref o7)])) _
  refine XS.iload X0.here hx rfl (hb hby at_268) rfl ?_
  show Steps p.tables e below (T0.setTop (mkF m 270 #[.val (.long j0), .second, s2, s3, s4, .val (.int (Int32.ofNat K)), .val (.int (Int32.ofNat P)), .val (.ref o7), s8, s9, s10, s11, s12] [(.int (Int32.ofNat K)), (.int (7 : Int32)), (.int (Int32.ofNat P)), (.ref o7)])) _
  refine XS.lloadN X0.here hx rfl (hb hby at_270) rfl ?_
  show Steps p.tables e below (T0.setTop (mkF m 271 #[.val (.long j0), .second, s2, s3, s4, .val (.int (Int32.ofNat K)), .val (.int (Int32.ofNat P)), .val (.ref o7), s8, s9, s10, s11, s12] [(.long j0), (.int (Int32.ofNat K)), (.int (7 : Int32)), (.int (Int32.ofNat P)), (.ref o7)])) _
  refine st5 _ ?_
  exact kt
set_option maxRecDepth 65536 in
set_option maxHeartbeats 40000000 in
theorem tn0_274_286 {p : Program} {l : Launch} {e : Env} {s : State} {m : MethodId} {args : Array Value} {below : List Frame} {meth : Method} {c : Code} {T0 : State} {locs : List Loc} {Z : State} {a0 : Array Value} {h0 : Heap} (j0 : Int64) (s2 : Slot) (s3 : Slot) (s4 : Slot) (K P : Nat) (o7 : Addr) (s8 : Slot) (s9 : Slot) (s10 : Slot) (s11 : Slot) (s12 : Slot) (ka : ClassId) (n0 : Nat) (vs : List Value)
    (X0 : Stand p l e room_1 s m args below meth c T0 locs 1 16) (hx : p.tables.exec = Jvm.exec) (hZ : Z.Warmed39 s.vm) (hw : ∀ d ∈ tables_1, d.before a0 Z = true) (hby : c.code = code) (hml : c.maxLocals = 13) (hown : s.vm.findClass "com/example/vor/vor/index/DecoderReadNumberPinLaw" = some m.cls) (e0 : T0.heap = h0) (hvs : vs.length = 16) (hKn : K ≤ 10) (hPn : P ≤ 3) (g_o7 : n0 ≤ o7) (N0 : Fr n0 locs) (Z0 : n0 ≤ h0.size) (V0 : Arv Z h0 o7 ka .byte (16 : Int32) vs (.int (0 : Int32))) :
    ∃ (T' : State) (h' : Heap) (locs' : List Loc), Stand p l e room_1 s m args below meth c T' locs' 1 16 ∧ T'.heap = h' ∧ Fr n0 locs' ∧ h0.size ≤ h'.size ∧ Arv Z h' o7 ka .byte (16 : Int32) (own_put vs P 8 K j0) (.int (0 : Int32)) ∧
      ∀ target, Steps p.tables e below (T'.setTop (mkF m 286 #[.val (.long j0), .second, s2, s3, s4, .val (.int (Int32.ofNat K)), .val (.int (Int32.ofNat P)), .val (.ref o7), s8, s9, s10, s11, s12] [])) target → Steps p.tables e below (T0.setTop (mkF m 274 #[.val (.long j0), .second, s2, s3, s4, .val (.int (Int32.ofNat K)), .val (.int (Int32.ofNat P)), .val (.ref o7), s8, s9, s10, s11, s12] [])) target := by
  obtain ⟨_, _, ⟨T5, L5, k5, n5⟩, -, X5, ⟨Lc5, hQ5, l5, y5, z5⟩, st5⟩ := Jvm.LawKit.callS X0 hx (y := (⟨"com/example/vor/vor/index/DecoderReadNumberPinLaw", "put", "([BIIIJ)V"⟩ : MethodName)) hown (mvT hZ (hw _ (List.mem_of_getElem? (i := 2) rfl))) (mvT hZ (hw _ (List.mem_of_getElem? (i := 3) rfl))) (mvT hZ (hw _ (List.mem_of_getElem? (i := 4) rfl))) (mvT hZ (hw _ (List.mem_of_getElem? (i := 5) rfl))) (by decide) (backOf (W := 0) (rm1 l Z a0 hw [] o7 ka vs P 8 K j0 h0 n0 Z0 V0 hvs hPn (by decide) hKn g_o7) hZ (hw _ (List.mem_of_getElem? (i := 5) rfl)) (hw _ (List.mem_of_getElem? (i := 4) rfl)) (by decide) (by decide)) (g := (mkF m 283 #[.val (.long j0), .second, s2, s3, s4, .val (.int (Int32.ofNat K)), .val (.int (Int32.ofNat P)), .val (.ref o7), s8, s9, s10, s11, s12] [(.long j0), (.int (Int32.ofNat K)), (.int (8 : Int32)), (.int (Int32.ofNat P)), (.ref o7)])) rfl (by rw [hml]; rfl) (argsL := [(.ref o7), (.int (Int32.ofNat P)), (.int (8 : Int32)), (.int (Int32.ofNat K)), (.long j0)]) (rest := []) (lenOf pd_0_0 rfl) rfl (by show 2 * 0 + _ ≤ _; exact Nat.le_of_eq rfl) (hb hby at_283) (fun _ _ => ⟨rfl, e0, (by decide : 1 + 0 ≤ _), (by decide : 16 + 0 ≤ _)⟩)
  dsimp only [Pt.U, Pt.locs, Pt.cells, Pt.slots] at X5 l5 y5 z5 st5 hQ5
  subst l5 y5 z5
  obtain ⟨rfl, N5q, Zc, Vc⟩ := hQ5
  have N5 := Fr.app N0 N5q
  refine ⟨T5, _, _, X5, rfl, N5, Zc, Vc, fun target kt => ?_⟩
  show Steps p.tables e below (T0.setTop (mkF m 274 #[.val (.long j0), .second, s2, s3, s4, .val (.int (Int32.ofNat K)), .val (.int (Int32.ofNat P)), .val (.ref o7), s8, s9, s10, s11, s12] [])) _
  refine XS.aload X0.here hx rfl (hb hby at_274) rfl rfl ?_
  show Steps p.tables e below (T0.setTop (mkF m 276 #[.val (.long j0), .second, s2, s3, s4, .val (.int (Int32.ofNat K)), .val (.int (Int32.ofNat P)), .val (.ref o7), s8, s9, s10, s11, s12] [(.ref o7)])) _
  refine XS.iload X0.here hx rfl (hb hby at_276) rfl ?_
  show Steps p.tables e below (T0.setTop (mkF m 278 #[.val (.long j0), .second, s2, s3, s4, .val (.int (Int32.ofNat K)), .val (.int (Int32.ofNat P)), .val (.ref o7), s8, s9, s10, s11, s12] [(.int (Int32.ofNat P)), (.ref o7)])) _
  refine XS.bipush X0.here hx rfl (hb hby at_278) ?_
  show Steps p.tables e below (T0.setTop (mkF m 280 #[.val (.long j0), .second, s2, s3, s4, .val (.int (Int32.ofNat K)), .val (.int (Int32.ofNat P)), .val (.ref o7), s8, s9, s10, s11, s12] [(.int (8 : Int32)), (.int (Int32.ofNat P)), (.ref o7)])) _
  refine XS.iload X0.here hx rfl (hb hby at_280) rfl ?_
  show Steps p.tables e below (T0.setTop (mkF m 282 #[.val (.long j0), .second, s2, s3, s4, .val (.int (Int32.ofNat K)), .val (.int (Int32.ofNat P)), .val (.ref o7), s8, s9, s10, s11, s12] [(.int (Int32.ofNat K)), (.int (8 : Int32)), (.int (Int32.ofNat P)), (.ref o7)])) _
  refine XS.lloadN X0.here hx rfl (hb hby at_282) rfl ?_
  show Steps p.tables e below (T0.setTop (mkF m 283 #[.val (.long j0), .second, s2, s3, s4, .val (.int (Int32.ofNat K)), .val (.int (Int32.ofNat P)), .val (.ref o7), s8, s9, s10, s11, s12] [(.long j0), (.int (Int32.ofNat K)), (.int (8 : Int32)), (.int (Int32.ofNat P)), (.ref o7)])) _
  refine st5 _ ?_
  exact kt
set_option maxRecDepth 65536 in
set_option maxHeartbeats 40000000 in
theorem tn0_286_298 {p : Program} {l : Launch} {e : Env} {s : State} {m : MethodId} {args : Array Value} {below : List Frame} {meth : Method} {c : Code} {T0 : State} {locs : List Loc} {Z : State} {a0 : Array Value} {h0 : Heap} (j0 : Int64) (s2 : Slot) (s3 : Slot) (s4 : Slot) (K P : Nat) (o7 : Addr) (s8 : Slot) (s9 : Slot) (s10 : Slot) (s11 : Slot) (s12 : Slot) (ka : ClassId) (n0 : Nat) (vs : List Value)
    (X0 : Stand p l e room_1 s m args below meth c T0 locs 1 16) (hx : p.tables.exec = Jvm.exec) (hZ : Z.Warmed39 s.vm) (hw : ∀ d ∈ tables_1, d.before a0 Z = true) (hby : c.code = code) (hml : c.maxLocals = 13) (hown : s.vm.findClass "com/example/vor/vor/index/DecoderReadNumberPinLaw" = some m.cls) (e0 : T0.heap = h0) (hvs : vs.length = 16) (hKn : K ≤ 10) (hPn : P ≤ 3) (g_o7 : n0 ≤ o7) (N0 : Fr n0 locs) (Z0 : n0 ≤ h0.size) (V0 : Arv Z h0 o7 ka .byte (16 : Int32) vs (.int (0 : Int32))) :
    ∃ (T' : State) (h' : Heap) (locs' : List Loc), Stand p l e room_1 s m args below meth c T' locs' 1 16 ∧ T'.heap = h' ∧ Fr n0 locs' ∧ h0.size ≤ h'.size ∧ Arv Z h' o7 ka .byte (16 : Int32) (own_put vs P 9 K j0) (.int (0 : Int32)) ∧
      ∀ target, Steps p.tables e below (T'.setTop (mkF m 298 #[.val (.long j0), .second, s2, s3, s4, .val (.int (Int32.ofNat K)), .val (.int (Int32.ofNat P)), .val (.ref o7), s8, s9, s10, s11, s12] [])) target → Steps p.tables e below (T0.setTop (mkF m 286 #[.val (.long j0), .second, s2, s3, s4, .val (.int (Int32.ofNat K)), .val (.int (Int32.ofNat P)), .val (.ref o7), s8, s9, s10, s11, s12] [])) target := by
  obtain ⟨_, _, ⟨T5, L5, k5, n5⟩, -, X5, ⟨Lc5, hQ5, l5, y5, z5⟩, st5⟩ := Jvm.LawKit.callS X0 hx (y := (⟨"com/example/vor/vor/index/DecoderReadNumberPinLaw", "put", "([BIIIJ)V"⟩ : MethodName)) hown (mvT hZ (hw _ (List.mem_of_getElem? (i := 2) rfl))) (mvT hZ (hw _ (List.mem_of_getElem? (i := 3) rfl))) (mvT hZ (hw _ (List.mem_of_getElem? (i := 4) rfl))) (mvT hZ (hw _ (List.mem_of_getElem? (i := 5) rfl))) (by decide) (backOf (W := 0) (rm1 l Z a0 hw [] o7 ka vs P 9 K j0 h0 n0 Z0 V0 hvs hPn (by decide) hKn g_o7) hZ (hw _ (List.mem_of_getElem? (i := 5) rfl)) (hw _ (List.mem_of_getElem? (i := 4) rfl)) (by decide) (by decide)) (g := (mkF m 295 #[.val (.long j0), .second, s2, s3, s4, .val (.int (Int32.ofNat K)), .val (.int (Int32.ofNat P)), .val (.ref o7), s8, s9, s10, s11, s12] [(.long j0), (.int (Int32.ofNat K)), (.int (9 : Int32)), (.int (Int32.ofNat P)), (.ref o7)])) rfl (by rw [hml]; rfl) (argsL := [(.ref o7), (.int (Int32.ofNat P)), (.int (9 : Int32)), (.int (Int32.ofNat K)), (.long j0)]) (rest := []) (lenOf pd_0_0 rfl) rfl (by show 2 * 0 + _ ≤ _; exact Nat.le_of_eq rfl) (hb hby at_295) (fun _ _ => ⟨rfl, e0, (by decide : 1 + 0 ≤ _), (by decide : 16 + 0 ≤ _)⟩)
  dsimp only [Pt.U, Pt.locs, Pt.cells, Pt.slots] at X5 l5 y5 z5 st5 hQ5
  subst l5 y5 z5
  obtain ⟨rfl, N5q, Zc, Vc⟩ := hQ5
  have N5 := Fr.app N0 N5q
  refine ⟨T5, _, _, X5, rfl, N5, Zc, Vc, fun target kt => ?_⟩
  show Steps p.tables e below (T0.setTop (mkF m 286 #[.val (.long j0), .second, s2, s3, s4, .val (.int (Int32.ofNat K)), .val (.int (Int32.ofNat P)), .val (.ref o7), s8, s9, s10, s11, s12] [])) _
  refine XS.aload X0.here hx rfl (hb hby at_286) rfl rfl ?_
  show Steps p.tables e below (T0.setTop (mkF m 288 #[.val (.long j0), .second, s2, s3, s4, .val (.int (Int32.ofNat K)), .val (.int (Int32.ofNat P)), .val (.ref o7), s8, s9, s10, s11, s12] [(.ref o7)])) _
  refine XS.iload X0.here hx rfl (hb hby at_288) rfl ?_
  show Steps p.tables e below (T0.setTop (mkF m 290 #[.val (.long j0), .second, s2, s3, s4, .val (.int (Int32.ofNat K)), .val (.int (Int32.ofNat P)), .val (.ref o7), s8, s9, s10, s11, s12] [(.int (Int32.ofNat P)), (.ref o7)])) _
  refine XS.bipush X0.here hx rfl (hb hby at_290) ?_
  show Steps p.tables e below (T0.setTop (mkF m 292 #[.val (.long j0), .second, s2, s3, s4, .val (.int (Int32.ofNat K)), .val (.int (Int32.ofNat P)), .val (.ref o7), s8, s9, s10, s11, s12] [(.int (9 : Int32)), (.int (Int32.ofNat P)), (.ref o7)])) _
  refine XS.iload X0.here hx rfl (hb hby at_292) rfl ?_
  show Steps p.tables e below (T0.setTop (mkF m 294 #[.val (.long j0), .second, s2, s3, s4, .val (.int (Int32.ofNat K)), .val (.int (Int32.ofNat P)), .val (.ref o7), s8, s9, s10, s11, s12] [(.int (Int32.ofNat K)), (.int (9 : Int32)), (.int (Int32.ofNat P)), (.ref o7)])) _
  refine XS.lloadN X0.here hx rfl (hb hby at_294) rfl ?_
  show Steps p.tables e below (T0.setTop (mkF m 295 #[.val (.long j0), .second, s2, s3, s4, .val (.int (Int32.ofNat K)), .val (.int (Int32.ofNat P)), .val (.ref o7), s8, s9, s10, s11, s12] [(.long j0), (.int (Int32.ofNat K)), (.int (9 : Int32)), (.int (Int32.ofNat P)), (.ref o7)])) _
  refine st5 _ ?_
  exact kt
theorem own_puts_run {p : Program} {l : Launch} {e : Env} {s : State} {m : MethodId} {args : Array Value} {below : List Frame} {meth : Method} {c : Code} {T0 : State} {locs : List Loc} {Z : State} {a0 : Array Value} {h0 : Heap} (j0 : Int64) (s2 : Slot) (s3 : Slot) (s4 : Slot) (K P : Nat) (o7 : Addr) (s8 : Slot) (s9 : Slot) (s10 : Slot) (s11 : Slot) (s12 : Slot) (ka : ClassId) (n0 : Nat) (vs : List Value)
    (X0 : Stand p l e room_1 s m args below meth c T0 locs 1 16) (hx : p.tables.exec = Jvm.exec) (hZ : Z.Warmed39 s.vm) (hw : ∀ d ∈ tables_1, d.before a0 Z = true) (hby : c.code = code) (hml : c.maxLocals = 13) (hown : s.vm.findClass "com/example/vor/vor/index/DecoderReadNumberPinLaw" = some m.cls) (e0 : T0.heap = h0) (hvs : vs.length = 16) (hKn : K ≤ 10) (hPn : P ≤ 3) (g_o7 : n0 ≤ o7) (N0 : Fr n0 locs) (Z0 : n0 ≤ h0.size) (V0 : Arv Z h0 o7 ka .byte (16 : Int32) vs (.int (0 : Int32))) :
    ∃ (T' : State) (h' : Heap) (locs' : List Loc), Stand p l e room_1 s m args below meth c T' locs' 1 16 ∧ T'.heap = h' ∧ Fr n0 locs' ∧ h0.size ≤ h'.size ∧ Arv Z h' o7 ka .byte (16 : Int32) (own_puts vs P K j0 10) (.int (0 : Int32)) ∧
      ∀ target, Steps p.tables e below (T'.setTop (mkF m 298 #[.val (.long j0), .second, s2, s3, s4, .val (.int (Int32.ofNat K)), .val (.int (Int32.ofNat P)), .val (.ref o7), s8, s9, s10, s11, s12] [])) target → Steps p.tables e below (T0.setTop (mkF m 184 #[.val (.long j0), .second, s2, s3, s4, .val (.int (Int32.ofNat K)), .val (.int (Int32.ofNat P)), .val (.ref o7), s8, s9, s10, s11, s12] [])) target := by
  have z0 := Z0
  obtain ⟨T1, h1, L1, X1, e1, N1, zq1, Vq1, st1⟩ := tn0_184_195 j0 s2 s3 s4 K P o7 s8 s9 s10 s11 s12 ka n0 (own_puts vs P K j0 0) X0 hx hZ hw hby hml hown e0 (own_plen P K j0 hvs 0) hKn hPn g_o7 N0 z0 V0
  have z1 := Nat.le_trans z0 zq1
  have V1 : Arv Z h1 o7 ka .byte (16 : Int32) (own_puts vs P K j0 1) (.int (0 : Int32)) := Vq1
  obtain ⟨T2, h2, L2, X2, e2, N2, zq2, Vq2, st2⟩ := tn0_195_206 j0 s2 s3 s4 K P o7 s8 s9 s10 s11 s12 ka n0 (own_puts vs P K j0 1) X1 hx hZ hw hby hml hown e1 (own_plen P K j0 hvs 1) hKn hPn g_o7 N1 z1 V1
  have z2 := Nat.le_trans z1 zq2
  have V2 : Arv Z h2 o7 ka .byte (16 : Int32) (own_puts vs P K j0 2) (.int (0 : Int32)) := Vq2
  obtain ⟨T3, h3, L3, X3, e3, N3, zq3, Vq3, st3⟩ := tn0_206_217 j0 s2 s3 s4 K P o7 s8 s9 s10 s11 s12 ka n0 (own_puts vs P K j0 2) X2 hx hZ hw hby hml hown e2 (own_plen P K j0 hvs 2) hKn hPn g_o7 N2 z2 V2
  have z3 := Nat.le_trans z2 zq3
  have V3 : Arv Z h3 o7 ka .byte (16 : Int32) (own_puts vs P K j0 3) (.int (0 : Int32)) := Vq3
  obtain ⟨T4, h4, L4, X4, e4, N4, zq4, Vq4, st4⟩ := tn0_217_228 j0 s2 s3 s4 K P o7 s8 s9 s10 s11 s12 ka n0 (own_puts vs P K j0 3) X3 hx hZ hw hby hml hown e3 (own_plen P K j0 hvs 3) hKn hPn g_o7 N3 z3 V3
  have z4 := Nat.le_trans z3 zq4
  have V4 : Arv Z h4 o7 ka .byte (16 : Int32) (own_puts vs P K j0 4) (.int (0 : Int32)) := Vq4
  obtain ⟨T5, h5, L5, X5, e5, N5, zq5, Vq5, st5⟩ := tn0_228_239 j0 s2 s3 s4 K P o7 s8 s9 s10 s11 s12 ka n0 (own_puts vs P K j0 4) X4 hx hZ hw hby hml hown e4 (own_plen P K j0 hvs 4) hKn hPn g_o7 N4 z4 V4
  have z5 := Nat.le_trans z4 zq5
  have V5 : Arv Z h5 o7 ka .byte (16 : Int32) (own_puts vs P K j0 5) (.int (0 : Int32)) := Vq5
  obtain ⟨T6, h6, L6, X6, e6, N6, zq6, Vq6, st6⟩ := tn0_239_250 j0 s2 s3 s4 K P o7 s8 s9 s10 s11 s12 ka n0 (own_puts vs P K j0 5) X5 hx hZ hw hby hml hown e5 (own_plen P K j0 hvs 5) hKn hPn g_o7 N5 z5 V5
  have z6 := Nat.le_trans z5 zq6
  have V6 : Arv Z h6 o7 ka .byte (16 : Int32) (own_puts vs P K j0 6) (.int (0 : Int32)) := Vq6
  obtain ⟨T7, h7, L7, X7, e7, N7, zq7, Vq7, st7⟩ := tn0_250_262 j0 s2 s3 s4 K P o7 s8 s9 s10 s11 s12 ka n0 (own_puts vs P K j0 6) X6 hx hZ hw hby hml hown e6 (own_plen P K j0 hvs 6) hKn hPn g_o7 N6 z6 V6
  have z7 := Nat.le_trans z6 zq7
  have V7 : Arv Z h7 o7 ka .byte (16 : Int32) (own_puts vs P K j0 7) (.int (0 : Int32)) := Vq7
  obtain ⟨T8, h8, L8, X8, e8, N8, zq8, Vq8, st8⟩ := tn0_262_274 j0 s2 s3 s4 K P o7 s8 s9 s10 s11 s12 ka n0 (own_puts vs P K j0 7) X7 hx hZ hw hby hml hown e7 (own_plen P K j0 hvs 7) hKn hPn g_o7 N7 z7 V7
  have z8 := Nat.le_trans z7 zq8
  have V8 : Arv Z h8 o7 ka .byte (16 : Int32) (own_puts vs P K j0 8) (.int (0 : Int32)) := Vq8
  obtain ⟨T9, h9, L9, X9, e9, N9, zq9, Vq9, st9⟩ := tn0_274_286 j0 s2 s3 s4 K P o7 s8 s9 s10 s11 s12 ka n0 (own_puts vs P K j0 8) X8 hx hZ hw hby hml hown e8 (own_plen P K j0 hvs 8) hKn hPn g_o7 N8 z8 V8
  have z9 := Nat.le_trans z8 zq9
  have V9 : Arv Z h9 o7 ka .byte (16 : Int32) (own_puts vs P K j0 9) (.int (0 : Int32)) := Vq9
  obtain ⟨T10, h10, L10, X10, e10, N10, zq10, Vq10, st10⟩ := tn0_286_298 j0 s2 s3 s4 K P o7 s8 s9 s10 s11 s12 ka n0 (own_puts vs P K j0 9) X9 hx hZ hw hby hml hown e9 (own_plen P K j0 hvs 9) hKn hPn g_o7 N9 z9 V9
  have z10 := Nat.le_trans z9 zq10
  have V10 : Arv Z h10 o7 ka .byte (16 : Int32) (own_puts vs P K j0 10) (.int (0 : Int32)) := Vq10
  exact ⟨T10, h10, L10, X10, e10, N10, (Nat.le_trans (Nat.le_trans (Nat.le_trans (Nat.le_trans (Nat.le_trans (Nat.le_trans (Nat.le_trans (Nat.le_trans (Nat.le_trans zq1 zq2) zq3) zq4) zq5) zq6) zq7) zq8) zq9) zq10), V10, fun target kt => (st1 _ (st2 _ (st3 _ (st4 _ (st5 _ (st6 _ (st7 _ (st8 _ (st9 _ (st10 _ kt))))))))))⟩
theorem pn_0 : plainName "com/example/vor/vor/index/DecoderReadNumberPinLaw" = true := by first | (simp [plainName, overriddenIn]; done) | decide +kernel
theorem pd_0_1 : parseMethodDescriptor "([BI)V" = some ⟨[(.array .byte), .int], none⟩ := by decide +kernel
theorem pd_0_3 : parseMethodDescriptor "()J" = some ⟨[], some .long⟩ := by decide +kernel
theorem pd_0_4 : parseMethodDescriptor "()I" = some ⟨[], some .int⟩ := by decide +kernel
theorem ef_0 (m : MethodId) (x0 : Int64) (x1 : Int32) (x2 : Int32) (x3 : Int32) : entryFrame m #[(.long x0), (.int x1), (.int x2), (.int x3)] maxLocals = mkF m 0 #[.val (.long x0), .second, .val (.int x1), .val (.int x2), .val (.int x3), .unset, .unset, .unset, .unset, .unset, .unset, .unset, .unset] [] := by first | (simp [entryFrame, mkF, argsToLocals, Value.category, maxLocals]; done) | rfl
def Q0 (Z : State) (q1 : Int64) (p2 : Int32) (p3 : Int32) (p4 : Int32) (h0 : Heap) (n0 : Nat) (v : Option Value) (h : Heap) (L : List Loc) : Prop := v = some (.int (1 : Int32)) ∧ Fr n0 L
set_option maxRecDepth 65536 in
set_option maxHeartbeats 40000000 in
theorem rm0_a (l : Launch) (Z : State) (a0 : Array Value) (hw : ∀ d ∈ tables_1, d.before a0 Z = true) (ws : List Jvm.Cond) (q1 : Int64) (p2 : Int32) (p3 : Int32) (p4 : Int32) (h0 : Heap) (n0 : Nat) (Z0 : n0 ≤ h0.size) (K P : Nat) (hK1 : 1 ≤ K) (hKn : K ≤ 10) (hPn : P ≤ 3) (hnz7 : ¬ ((10 : Int32) = (0 : Int32))) (hp8 : ((1 : Int32) + ((p2 &&& (2147483647 : Int32)) - (((p2 &&& (2147483647 : Int32)) / (10 : Int32)) * (10 : Int32)))) = (Int32.ofNat K)) (hp13 : (p3 &&& (3 : Int32)) = (Int32.ofNat P)) (hc322 : (Int32.ofNat K) < (10 : Int32)) :
    MetFree l x (head1 (Jvm.Cond.code x code maxLocals ret :: ws) room_1) (fun a U => a = #[(.long q1), (.int p2), (.int p3), (.int p4)] ∧ Z.Warmed39 U.vm ∧ U.heap = h0) (fun _ _ _ _ _ => True) (fun _ U o U' => ∃ v L, o = .returned v ∧ Q0 Z q1 p2 p3 p4 h0 n0 v U'.heap L ∧ FrameEnd U o U' L room_1.cells room_1.slots) := by
  refine MetFree.of_bodySF (plainFor_of_name pn_0) hisR ?_
  intro p e s m args below meth c s₁ Bd hml0 hP hK
  obtain ⟨rfl, hZ, hh⟩ := hP
  have hx := Bd.exec
  have hby := Bd.bytes
  have hml : c.maxLocals = 13 := hml0
  have hown : s.vm.findClass "com/example/vor/vor/index/DecoderReadNumberPinLaw" = some m.cls := findClass_of_methodNamed Bd.named
  have hnm := (name_of_methodNamed Bd.named Bd.method).1
  have X0 : Stand p l e room_1 s m #[(.long q1), (.int p2), (.int p3), (.int p4)] below meth c s₁ [] 0 0 := Stand.of_body Bd
  have e0 : s₁.heap = h0 := by rw [← hh, Bd.state]; rfl
  have N0 := Fr.nil n0
  have pre0 : ∀ t, Steps p.tables e below (s₁.setTop (mkF m 0 #[.val (.long q1), .second, .val (.int p2), .val (.int p3), .val (.int p4), .unset, .unset, .unset, .unset, .unset, .unset, .unset, .unset] [])) t → Steps p.tables e below (s₁.setTop (entryFrame m #[(.long q1), (.int p2), (.int p3), (.int p4)] maxLocals)) t := fun t k => castTop (ef_0 m q1 p2 p3 p4) k
  obtain ⟨T5, h5, k5, X5, e5, E5, A5, st5⟩ := newP X0 hx hZ (hw _ (List.mem_of_getElem? (i := 1) rfl)) e0 (g := (mkF m 18 #[.val (.long q1), .second, .val (.int p2), .val (.int p3), .val (.int p4), .val (.int (Int32.ofNat K)), .val (.int (Int32.ofNat P)), .unset, .unset, .unset, .unset, .unset, .unset] [(.int (16 : Int32))])) rfl (hb hby at_18) rfl (by decide) (cap := 16) (by decide) (by decide) (by decide) (by decide)
  obtain ⟨b5, g5⟩ : ∃ z, z = h0.size := ⟨_, rfl⟩
  rw [← g5] at A5 st5
  have V_b5 : Arv Z h5 b5 k5 .byte (16 : Int32) [(.int (0 : Int32)), (.int (0 : Int32)), (.int (0 : Int32)), (.int (0 : Int32)), (.int (0 : Int32)), (.int (0 : Int32)), (.int (0 : Int32)), (.int (0 : Int32)), (.int (0 : Int32)), (.int (0 : Int32)), (.int (0 : Int32)), (.int (0 : Int32)), (.int (0 : Int32)), (.int (0 : Int32)), (.int (0 : Int32)), (.int (0 : Int32))] (.int (0 : Int32)) := (Arv.new A5 (by decide)).pad (pad_rep [] (.int (0 : Int32)) 16)
  have g_b5 : n0 ≤ b5 := Nat.le_trans Z0 (Nat.le_of_eq g5.symm)
  obtain ⟨TA, hA, LA, XA, eA, NA, zA, VA, stA⟩ := own_stores (.val (.long q1)) .second (.val (.int p2)) (.val (.int p3)) p4 (.val (.int (Int32.ofNat K))) (.val (.int (Int32.ofNat P))) b5 .unset .unset .unset .unset .unset k5 n0 X5 hx hZ hw hby hml hown e5 g_b5 N0 ⟨_, (by rfl), V_b5⟩
  obtain ⟨vs, hvs, V21⟩ := VA
  have Zs21 : n0 ≤ hA.size := Nat.le_trans Z0 (Nat.le_trans E5.1 zA)
  obtain ⟨T31, h31, L31, X31, e31, N31, z31, V31, st31⟩ := own_puts_run q1 (.val (.int p2)) (.val (.int p3)) (.val (.int p4)) K P b5 .unset .unset .unset .unset .unset k5 n0 vs XA hx hZ hw hby hml hown eA hvs hKn hPn g_b5 NA Zs21 V21
  subst e31
  have Zs31 := Nat.le_trans Zs21 z31
  obtain ⟨T32, h32, X32, e32, E32, A32, D32, -, st32⟩ := newO X31 hx hZ hown (hw _ (List.mem_of_getElem? (i := 7) rfl)) (hw _ (List.mem_of_getElem? (i := 8) rfl)) (hw _ (List.mem_of_getElem? (i := 9) rfl)) rfl (g := (mkF m 298 #[.val (.long q1), .second, .val (.int p2), .val (.int p3), .val (.int p4), .val (.int (Int32.ofNat K)), .val (.int (Int32.ofNat P)), .val (.ref b5), .unset, .unset, .unset, .unset, .unset] [])) rfl (hb hby at_298) (by decide) (by decide)
  obtain ⟨b32, g32⟩ : ∃ z, z = T31.heap.size := ⟨_, rfl⟩
  have Zs32 := Nat.le_trans Zs31 E32.1
  have V32 := V31.ext E32
  have hne : b5 ≠ b32 := Nat.ne_of_lt (Nat.lt_of_lt_of_eq V31.lt g32.symm)
  rw [← g32] at A32 D32 st32
  have F_bytes_b32 : Fld Z h32 b32 "com/example/vor/vor/index/IndexFormat$Decoder" "bytes" "[B" .null := D32 (Or.inr (hw _ (List.mem_of_getElem? (i := 17) rfl))) (ty := (.array .byte)) (by decide)
  have F_position_b32 : Fld Z h32 b32 "com/example/vor/vor/index/IndexFormat$Decoder" "position" "I" (.int (0 : Int32)) := D32 (Or.inl (hw _ (List.mem_of_getElem? (i := 19) rfl))) (ty := .int) (by decide)
  have E_b32 := A32
  have g_b32 : n0 ≤ b32 := Nat.le_trans Zs31 (Nat.le_of_eq g32.symm)
  obtain ⟨_, _, ⟨T33, L33, k33, n33⟩, -, X33, ⟨Lc33, hQ33, l33, y33, z33⟩, st33⟩ := X32.specialBack hx (y := (⟨"com/example/vor/vor/index/IndexFormat$Decoder", "<init>", "([BI)V"⟩ : MethodName)) rfl hown (mvT hZ (hw _ (List.mem_of_getElem? (i := 10) rfl))) (mvT hZ (hw _ (List.mem_of_getElem? (i := 11) rfl))) (mvT hZ (hw _ (List.mem_of_getElem? (i := 12) rfl))) (by decide) (backOf (W := 1) (rm2 l Z a0 hw [] b32 b5 (Int32.ofNat P) _ _ h32 n0 Zs32 E_b32 F_bytes_b32 g_b32 F_position_b32) hZ (hw _ (List.mem_of_getElem? (i := 12) rfl)) (hw _ (List.mem_of_getElem? (i := 9) rfl)) (by decide) (by decide)) (g := (mkF m 306 #[.val (.long q1), .second, .val (.int p2), .val (.int p3), .val (.int p4), .val (.int (Int32.ofNat K)), .val (.int (Int32.ofNat P)), .val (.ref b5), .unset, .unset, .unset, .unset, .unset] [(.int (Int32.ofNat P)), (.ref b5), (.ref b32), (.ref b32)])) rfl (by rw [hml]; rfl) (Steps.refl _) (a := b32) (argsL := [(.ref b5), (.int (Int32.ofNat P))]) (rest := [(.ref b32)]) (lenOf pd_0_1 rfl) rfl (by show 2 * 0 + _ ≤ _; exact Nat.le_of_eq rfl) (hb hby at_306) (fun _ _ => ⟨rfl, e32, (by decide : 2 + 0 ≤ _), (by decide : 18 + 0 ≤ _)⟩)
  dsimp only [Pt.U, Pt.locs, Pt.cells, Pt.slots] at X33 l33 y33 z33 st33 hQ33
  subst l33 y33 z33
  obtain ⟨rfl, N33q, Kc33, Ex33, Fb33, Fp33⟩ := hQ33
  have N33 := Fr.app N31 N33q
  have Zs33 := Nat.le_trans Zs32 Kc33.1
  have V33 := V32.keep Kc33 (by simpa using hne)
  obtain ⟨clF, ArF, -, SF, -, HF, -⟩ := V33
  have S16 : clF.slots.size = 16 := SF.trans (by decide)
  have hat : ∀ j, j < K → clF.slots[P + j]? = some (.int (own_b j K q1)) := fun j hj => by
    rw [HF (P + j) (by rw [S16]; omega), own_pat q1 hvs hPn hKn 10 j (by omega) hj]
  obtain ⟨cq34, kq34, q34a, q34b, q34c⟩ := isOf hZ rfl Ex33
  obtain ⟨_, _, ⟨T34, L34, k34, n34⟩, -, X34, ⟨Lc34, hQ34, l34, y34, z34⟩, st34⟩ := X33.virtualBack hx (y := (⟨"com/example/vor/vor/index/IndexFormat$Decoder", "readNumber", "()J"⟩ : MethodName)) (z := (⟨"com/example/vor/vor/index/IndexFormat$Decoder", "readNumber", "()J"⟩ : MethodName)) hown (mvT hZ (hw _ (List.mem_of_getElem? (i := 20) rfl))) (mvT hZ (hw _ (List.mem_of_getElem? (i := 21) rfl))) (notFace_of_selects (args := #[]) (mvT hZ (hw _ (List.mem_of_getElem? (i := 23) rfl)))) (mvT hZ (hw _ (List.mem_of_getElem? (i := 23) rfl))) (mvT hZ (hw _ (List.mem_of_getElem? (i := 22) rfl))) (by decide) (backOf (W := 0) (rm4 l Z a0 hw [] b32 b5 (fun j => own_b j K q1) P K clF T33.heap n0 Zs33 Fb33 Fp33 Ex33 g_b32 ArF hne S16 (by omega) hK1 hat (fun j hj => own_neg q1 hj) (own_last q1 (by omega))) hZ (hw _ (List.mem_of_getElem? (i := 24) rfl)) (hw _ (List.mem_of_getElem? (i := 9) rfl)) (by decide) (by decide)) q34a q34c (g := (mkF m 313 #[.val (.long q1), .second, .val (.int p2), .val (.int p3), .val (.int p4), .val (.int (Int32.ofNat K)), .val (.int (Int32.ofNat P)), .val (.ref b5), .val (.ref b32), .unset, .unset, .unset, .unset] [(.ref b32)])) rfl (by rw [hml]; rfl) (Steps.refl _) (argsL := []) (rest := []) (lenOf pd_0_3 rfl) rfl (by show 2 * 0 + _ ≤ _; exact Nat.le_of_eq rfl) (hb hby at_313) (fun _ _ => ⟨rfl, rfl, (by decide : 2 + 0 ≤ _), (by decide : 18 + 0 ≤ _)⟩)
  dsimp only [Pt.U, Pt.locs, Pt.cells, Pt.slots] at X34 l34 y34 z34 st34 hQ34
  subst l34 y34 z34
  obtain ⟨rfl, N34q, Zc34, Ex34, Fp34⟩ := hQ34
  have N34 := Fr.app N33 N34q
  have Zs34 := Nat.le_trans Zs33 Zc34
  obtain ⟨cq35, kq35, q35a, q35b, q35c⟩ := isOf hZ rfl Ex34
  obtain ⟨_, _, ⟨T35, L35, k35, n35⟩, -, X35, ⟨Lc35, hQ35, l35, y35, z35⟩, st35⟩ := X34.virtualBack hx (y := (⟨"com/example/vor/vor/index/IndexFormat$Decoder", "position", "()I"⟩ : MethodName)) (z := (⟨"com/example/vor/vor/index/IndexFormat$Decoder", "position", "()I"⟩ : MethodName)) hown (mvT hZ (hw _ (List.mem_of_getElem? (i := 25) rfl))) (mvT hZ (hw _ (List.mem_of_getElem? (i := 26) rfl))) (notFace_of_selects (args := #[]) (mvT hZ (hw _ (List.mem_of_getElem? (i := 28) rfl)))) (mvT hZ (hw _ (List.mem_of_getElem? (i := 28) rfl))) (mvT hZ (hw _ (List.mem_of_getElem? (i := 27) rfl))) (by decide) (backOf (W := 0) (rm5 l Z a0 hw [] b32 (Int32.ofNat (P + K)) T34.heap n0 Zs34 Fp34) hZ (hw _ (List.mem_of_getElem? (i := 29) rfl)) (hw _ (List.mem_of_getElem? (i := 9) rfl)) (by decide) (by decide)) q35a q35c (g := (mkF m 352 #[.val (.long q1), .second, .val (.int p2), .val (.int p3), .val (.int p4), .val (.int (Int32.ofNat K)), .val (.int (Int32.ofNat P)), .val (.ref b5), .val (.ref b32), .val (.long (own_acc (fun j => own_b j K q1) K)), .second, .val (.long (q1 &&& (((1 : Int64) <<< (((7 : Int32) * (Int32.ofNat K)) &&& 0x3f).toInt64) - (1 : Int64)))), .second] [(.ref b32)])) rfl (by rw [hml]; rfl) (Steps.refl _) (argsL := []) (rest := []) (lenOf pd_0_4 rfl) rfl (by show 2 * 0 + _ ≤ _; exact Nat.le_of_eq rfl) (hb hby at_352) (fun _ _ => ⟨rfl, rfl, (by decide : 2 + 0 ≤ _), (by decide : 18 + 0 ≤ _)⟩)
  dsimp only [Pt.U, Pt.locs, Pt.cells, Pt.slots] at X35 l35 y35 z35 st35 hQ35
  subst l35 y35 z35
  obtain ⟨rfl, N35q, Hc35⟩ := hQ35
  have N35 := Fr.app N34 N35q
  obtain ⟨fs, hr, hrun, hended, hW, hsame⟩ := X35.leave (v := some (.int (1 : Int32))) (fun h => by rw [Bd.returns] at h; cases h)
  refine ⟨_, _, pre0 _ ?_, hrun, hended, _, _, rfl, ?_, ⟨_, rfl⟩, hW, hsame.mono (by decide) (by decide)⟩
  · show Steps p.tables e below (s₁.setTop (mkF m 0 #[.val (.long q1), .second, .val (.int p2), .val (.int p3), .val (.int p4), .unset, .unset, .unset, .unset, .unset, .unset, .unset, .unset] [])) _
    refine XS.iconst X0.here hx rfl (hb hby at_0) ?_
    show Steps p.tables e below (s₁.setTop (mkF m 1 #[.val (.long q1), .second, .val (.int p2), .val (.int p3), .val (.int p4), .unset, .unset, .unset, .unset, .unset, .unset, .unset, .unset] [(.int (1 : Int32))])) _
    refine XS.iloadN X0.here hx rfl (hb hby at_1) rfl ?_
    show Steps p.tables e below (s₁.setTop (mkF m 2 #[.val (.long q1), .second, .val (.int p2), .val (.int p3), .val (.int p4), .unset, .unset, .unset, .unset, .unset, .unset, .unset, .unset] [(.int p2), (.int (1 : Int32))])) _
    refine X0.ldcInt hx hown (mvT hZ (hw _ (List.mem_of_getElem? (i := 0) rfl))) (g := (mkF m 2 #[.val (.long q1), .second, .val (.int p2), .val (.int p3), .val (.int p4), .unset, .unset, .unset, .unset, .unset, .unset, .unset, .unset] [(.int p2), (.int (1 : Int32))])) rfl (hb hby at_2) _ ?_
    show Steps p.tables e below (s₁.setTop (mkF m 4 #[.val (.long q1), .second, .val (.int p2), .val (.int p3), .val (.int p4), .unset, .unset, .unset, .unset, .unset, .unset, .unset, .unset] [(.int (2147483647 : Int32)), (.int p2), (.int (1 : Int32))])) _
    refine XS.iand X0.here hx rfl (hb hby at_4) rfl ?_
    show Steps p.tables e below (s₁.setTop (mkF m 5 #[.val (.long q1), .second, .val (.int p2), .val (.int p3), .val (.int p4), .unset, .unset, .unset, .unset, .unset, .unset, .unset, .unset] [(.int (p2 &&& (2147483647 : Int32))), (.int (1 : Int32))])) _
    refine XS.bipush X0.here hx rfl (hb hby at_5) ?_
    show Steps p.tables e below (s₁.setTop (mkF m 7 #[.val (.long q1), .second, .val (.int p2), .val (.int p3), .val (.int p4), .unset, .unset, .unset, .unset, .unset, .unset, .unset, .unset] [(.int (10 : Int32)), (.int (p2 &&& (2147483647 : Int32))), (.int (1 : Int32))])) _
    refine XS.irem X0.here hx rfl (hb hby at_7) rfl hnz7 ?_
    show Steps p.tables e below (s₁.setTop (mkF m 8 #[.val (.long q1), .second, .val (.int p2), .val (.int p3), .val (.int p4), .unset, .unset, .unset, .unset, .unset, .unset, .unset, .unset] [(.int ((p2 &&& (2147483647 : Int32)) - (((p2 &&& (2147483647 : Int32)) / (10 : Int32)) * (10 : Int32)))), (.int (1 : Int32))])) _
    refine XS.iadd X0.here hx rfl (hb hby at_8) rfl ?_
    rw [hp8]
    show Steps p.tables e below (s₁.setTop (mkF m 9 #[.val (.long q1), .second, .val (.int p2), .val (.int p3), .val (.int p4), .unset, .unset, .unset, .unset, .unset, .unset, .unset, .unset] [(.int (Int32.ofNat K))])) _
    refine XS.istore X0.here hx rfl (hb hby at_9) rfl (l' := #[.val (.long q1), .second, .val (.int p2), .val (.int p3), .val (.int p4), .val (.int (Int32.ofNat K)), .unset, .unset, .unset, .unset, .unset, .unset, .unset]) rfl ?_
    show Steps p.tables e below (s₁.setTop (mkF m 11 #[.val (.long q1), .second, .val (.int p2), .val (.int p3), .val (.int p4), .val (.int (Int32.ofNat K)), .unset, .unset, .unset, .unset, .unset, .unset, .unset] [])) _
    refine XS.iloadN X0.here hx rfl (hb hby at_11) rfl ?_
    show Steps p.tables e below (s₁.setTop (mkF m 12 #[.val (.long q1), .second, .val (.int p2), .val (.int p3), .val (.int p4), .val (.int (Int32.ofNat K)), .unset, .unset, .unset, .unset, .unset, .unset, .unset] [(.int p3)])) _
    refine XS.iconst X0.here hx rfl (hb hby at_12) ?_
    show Steps p.tables e below (s₁.setTop (mkF m 13 #[.val (.long q1), .second, .val (.int p2), .val (.int p3), .val (.int p4), .val (.int (Int32.ofNat K)), .unset, .unset, .unset, .unset, .unset, .unset, .unset] [(.int (3 : Int32)), (.int p3)])) _
    refine XS.iand X0.here hx rfl (hb hby at_13) rfl ?_
    rw [hp13]
    show Steps p.tables e below (s₁.setTop (mkF m 14 #[.val (.long q1), .second, .val (.int p2), .val (.int p3), .val (.int p4), .val (.int (Int32.ofNat K)), .unset, .unset, .unset, .unset, .unset, .unset, .unset] [(.int (Int32.ofNat P))])) _
    refine XS.istore X0.here hx rfl (hb hby at_14) rfl (l' := #[.val (.long q1), .second, .val (.int p2), .val (.int p3), .val (.int p4), .val (.int (Int32.ofNat K)), .val (.int (Int32.ofNat P)), .unset, .unset, .unset, .unset, .unset, .unset]) rfl ?_
    show Steps p.tables e below (s₁.setTop (mkF m 16 #[.val (.long q1), .second, .val (.int p2), .val (.int p3), .val (.int p4), .val (.int (Int32.ofNat K)), .val (.int (Int32.ofNat P)), .unset, .unset, .unset, .unset, .unset, .unset] [])) _
    refine XS.bipush X0.here hx rfl (hb hby at_16) ?_
    show Steps p.tables e below (s₁.setTop (mkF m 18 #[.val (.long q1), .second, .val (.int p2), .val (.int p3), .val (.int p4), .val (.int (Int32.ofNat K)), .val (.int (Int32.ofNat P)), .unset, .unset, .unset, .unset, .unset, .unset] [(.int (16 : Int32))])) _
    refine st5 _ ?_
    show Steps p.tables e below (T5.setTop (mkF m 20 #[.val (.long q1), .second, .val (.int p2), .val (.int p3), .val (.int p4), .val (.int (Int32.ofNat K)), .val (.int (Int32.ofNat P)), .unset, .unset, .unset, .unset, .unset, .unset] [(.ref b5)])) _
    refine XS.astore X5.here hx rfl (hb hby at_20) rfl rfl (l' := #[.val (.long q1), .second, .val (.int p2), .val (.int p3), .val (.int p4), .val (.int (Int32.ofNat K)), .val (.int (Int32.ofNat P)), .val (.ref b5), .unset, .unset, .unset, .unset, .unset]) rfl ?_
    show Steps p.tables e below (T5.setTop (mkF m 22 #[.val (.long q1), .second, .val (.int p2), .val (.int p3), .val (.int p4), .val (.int (Int32.ofNat K)), .val (.int (Int32.ofNat P)), .val (.ref b5), .unset, .unset, .unset, .unset, .unset] [])) _
    refine stA _ (st31 _ ?_)
    show Steps p.tables e below (T31.setTop (mkF m 298 #[.val (.long q1), .second, .val (.int p2), .val (.int p3), .val (.int p4), .val (.int (Int32.ofNat K)), .val (.int (Int32.ofNat P)), .val (.ref b5), .unset, .unset, .unset, .unset, .unset] [])) _
    refine st32 _ ?_
    show Steps p.tables e below (T32.setTop (mkF m 301 #[.val (.long q1), .second, .val (.int p2), .val (.int p3), .val (.int p4), .val (.int (Int32.ofNat K)), .val (.int (Int32.ofNat P)), .val (.ref b5), .unset, .unset, .unset, .unset, .unset] [(.ref b32)])) _
    refine XS.dup X32.here hx rfl (hb hby at_301) rfl rfl ?_
    show Steps p.tables e below (T32.setTop (mkF m 302 #[.val (.long q1), .second, .val (.int p2), .val (.int p3), .val (.int p4), .val (.int (Int32.ofNat K)), .val (.int (Int32.ofNat P)), .val (.ref b5), .unset, .unset, .unset, .unset, .unset] [(.ref b32), (.ref b32)])) _
    refine XS.aload X32.here hx rfl (hb hby at_302) rfl rfl ?_
    show Steps p.tables e below (T32.setTop (mkF m 304 #[.val (.long q1), .second, .val (.int p2), .val (.int p3), .val (.int p4), .val (.int (Int32.ofNat K)), .val (.int (Int32.ofNat P)), .val (.ref b5), .unset, .unset, .unset, .unset, .unset] [(.ref b5), (.ref b32), (.ref b32)])) _
    refine XS.iload X32.here hx rfl (hb hby at_304) rfl ?_
    show Steps p.tables e below (T32.setTop (mkF m 306 #[.val (.long q1), .second, .val (.int p2), .val (.int p3), .val (.int p4), .val (.int (Int32.ofNat K)), .val (.int (Int32.ofNat P)), .val (.ref b5), .unset, .unset, .unset, .unset, .unset] [(.int (Int32.ofNat P)), (.ref b5), (.ref b32), (.ref b32)])) _
    refine st33.trans ?_
    show Steps p.tables e below (T33.setTop (mkF m 309 #[.val (.long q1), .second, .val (.int p2), .val (.int p3), .val (.int p4), .val (.int (Int32.ofNat K)), .val (.int (Int32.ofNat P)), .val (.ref b5), .unset, .unset, .unset, .unset, .unset] [(.ref b32)])) _
    refine XS.astore X33.here hx rfl (hb hby at_309) rfl rfl (l' := #[.val (.long q1), .second, .val (.int p2), .val (.int p3), .val (.int p4), .val (.int (Int32.ofNat K)), .val (.int (Int32.ofNat P)), .val (.ref b5), .val (.ref b32), .unset, .unset, .unset, .unset]) rfl ?_
    show Steps p.tables e below (T33.setTop (mkF m 311 #[.val (.long q1), .second, .val (.int p2), .val (.int p3), .val (.int p4), .val (.int (Int32.ofNat K)), .val (.int (Int32.ofNat P)), .val (.ref b5), .val (.ref b32), .unset, .unset, .unset, .unset] [])) _
    refine XS.aload X33.here hx rfl (hb hby at_311) rfl rfl ?_
    show Steps p.tables e below (T33.setTop (mkF m 313 #[.val (.long q1), .second, .val (.int p2), .val (.int p3), .val (.int p4), .val (.int (Int32.ofNat K)), .val (.int (Int32.ofNat P)), .val (.ref b5), .val (.ref b32), .unset, .unset, .unset, .unset] [(.ref b32)])) _
    refine st34.trans ?_
    show Steps p.tables e below (T34.setTop (mkF m 316 #[.val (.long q1), .second, .val (.int p2), .val (.int p3), .val (.int p4), .val (.int (Int32.ofNat K)), .val (.int (Int32.ofNat P)), .val (.ref b5), .val (.ref b32), .unset, .unset, .unset, .unset] [(.long (own_acc (fun j => own_b j K q1) K))])) _
    refine XS.lstore X34.here hx rfl (hb hby at_316) rfl (l' := #[.val (.long q1), .second, .val (.int p2), .val (.int p3), .val (.int p4), .val (.int (Int32.ofNat K)), .val (.int (Int32.ofNat P)), .val (.ref b5), .val (.ref b32), .val (.long (own_acc (fun j => own_b j K q1) K)), .second, .unset, .unset]) rfl ?_
    show Steps p.tables e below (T34.setTop (mkF m 318 #[.val (.long q1), .second, .val (.int p2), .val (.int p3), .val (.int p4), .val (.int (Int32.ofNat K)), .val (.int (Int32.ofNat P)), .val (.ref b5), .val (.ref b32), .val (.long (own_acc (fun j => own_b j K q1) K)), .second, .unset, .unset] [])) _
    refine XS.iload X34.here hx rfl (hb hby at_318) rfl ?_
    show Steps p.tables e below (T34.setTop (mkF m 320 #[.val (.long q1), .second, .val (.int p2), .val (.int p3), .val (.int p4), .val (.int (Int32.ofNat K)), .val (.int (Int32.ofNat P)), .val (.ref b5), .val (.ref b32), .val (.long (own_acc (fun j => own_b j K q1) K)), .second, .unset, .unset] [(.int (Int32.ofNat K))])) _
    refine XS.bipush X34.here hx rfl (hb hby at_320) ?_
    show Steps p.tables e below (T34.setTop (mkF m 322 #[.val (.long q1), .second, .val (.int p2), .val (.int p3), .val (.int p4), .val (.int (Int32.ofNat K)), .val (.int (Int32.ofNat P)), .val (.ref b5), .val (.ref b32), .val (.long (own_acc (fun j => own_b j K q1) K)), .second, .unset, .unset] [(.int (10 : Int32)), (.int (Int32.ofNat K))])) _
    refine XS.icmpYes X34.here hx rfl (pc0 := 322) (pc' := 329) rfl (hb hby at_322) rfl (tlt hc322).1 (by decide) (by decide) ?_
    show Steps p.tables e below (T34.setTop (mkF m 329 #[.val (.long q1), .second, .val (.int p2), .val (.int p3), .val (.int p4), .val (.int (Int32.ofNat K)), .val (.int (Int32.ofNat P)), .val (.ref b5), .val (.ref b32), .val (.long (own_acc (fun j => own_b j K q1) K)), .second, .unset, .unset] [])) _
    refine XS.lloadN X34.here hx rfl (hb hby at_329) rfl ?_
    show Steps p.tables e below (T34.setTop (mkF m 330 #[.val (.long q1), .second, .val (.int p2), .val (.int p3), .val (.int p4), .val (.int (Int32.ofNat K)), .val (.int (Int32.ofNat P)), .val (.ref b5), .val (.ref b32), .val (.long (own_acc (fun j => own_b j K q1) K)), .second, .unset, .unset] [(.long q1)])) _
    refine XS.lconst X34.here hx rfl (hb hby at_330) ?_
    show Steps p.tables e below (T34.setTop (mkF m 331 #[.val (.long q1), .second, .val (.int p2), .val (.int p3), .val (.int p4), .val (.int (Int32.ofNat K)), .val (.int (Int32.ofNat P)), .val (.ref b5), .val (.ref b32), .val (.long (own_acc (fun j => own_b j K q1) K)), .second, .unset, .unset] [(.long (1 : Int64)), (.long q1)])) _
    refine XS.bipush X34.here hx rfl (hb hby at_331) ?_
    show Steps p.tables e below (T34.setTop (mkF m 333 #[.val (.long q1), .second, .val (.int p2), .val (.int p3), .val (.int p4), .val (.int (Int32.ofNat K)), .val (.int (Int32.ofNat P)), .val (.ref b5), .val (.ref b32), .val (.long (own_acc (fun j => own_b j K q1) K)), .second, .unset, .unset] [(.int (7 : Int32)), (.long (1 : Int64)), (.long q1)])) _
    refine XS.iload X34.here hx rfl (hb hby at_333) rfl ?_
    show Steps p.tables e below (T34.setTop (mkF m 335 #[.val (.long q1), .second, .val (.int p2), .val (.int p3), .val (.int p4), .val (.int (Int32.ofNat K)), .val (.int (Int32.ofNat P)), .val (.ref b5), .val (.ref b32), .val (.long (own_acc (fun j => own_b j K q1) K)), .second, .unset, .unset] [(.int (Int32.ofNat K)), (.int (7 : Int32)), (.long (1 : Int64)), (.long q1)])) _
    refine XS.imul X34.here hx rfl (hb hby at_335) rfl ?_
    show Steps p.tables e below (T34.setTop (mkF m 336 #[.val (.long q1), .second, .val (.int p2), .val (.int p3), .val (.int p4), .val (.int (Int32.ofNat K)), .val (.int (Int32.ofNat P)), .val (.ref b5), .val (.ref b32), .val (.long (own_acc (fun j => own_b j K q1) K)), .second, .unset, .unset] [(.int ((7 : Int32) * (Int32.ofNat K))), (.long (1 : Int64)), (.long q1)])) _
    refine XS.lshl X34.here hx rfl (hb hby at_336) rfl ?_
    show Steps p.tables e below (T34.setTop (mkF m 337 #[.val (.long q1), .second, .val (.int p2), .val (.int p3), .val (.int p4), .val (.int (Int32.ofNat K)), .val (.int (Int32.ofNat P)), .val (.ref b5), .val (.ref b32), .val (.long (own_acc (fun j => own_b j K q1) K)), .second, .unset, .unset] [(.long ((1 : Int64) <<< (((7 : Int32) * (Int32.ofNat K)) &&& 0x3f).toInt64)), (.long q1)])) _
    refine XS.lconst X34.here hx rfl (hb hby at_337) ?_
    show Steps p.tables e below (T34.setTop (mkF m 338 #[.val (.long q1), .second, .val (.int p2), .val (.int p3), .val (.int p4), .val (.int (Int32.ofNat K)), .val (.int (Int32.ofNat P)), .val (.ref b5), .val (.ref b32), .val (.long (own_acc (fun j => own_b j K q1) K)), .second, .unset, .unset] [(.long (1 : Int64)), (.long ((1 : Int64) <<< (((7 : Int32) * (Int32.ofNat K)) &&& 0x3f).toInt64)), (.long q1)])) _
    refine XS.lsub X34.here hx rfl (hb hby at_338) rfl ?_
    show Steps p.tables e below (T34.setTop (mkF m 339 #[.val (.long q1), .second, .val (.int p2), .val (.int p3), .val (.int p4), .val (.int (Int32.ofNat K)), .val (.int (Int32.ofNat P)), .val (.ref b5), .val (.ref b32), .val (.long (own_acc (fun j => own_b j K q1) K)), .second, .unset, .unset] [(.long (((1 : Int64) <<< (((7 : Int32) * (Int32.ofNat K)) &&& 0x3f).toInt64) - (1 : Int64))), (.long q1)])) _
    refine XS.land X34.here hx rfl (hb hby at_339) rfl ?_
    show Steps p.tables e below (T34.setTop (mkF m 340 #[.val (.long q1), .second, .val (.int p2), .val (.int p3), .val (.int p4), .val (.int (Int32.ofNat K)), .val (.int (Int32.ofNat P)), .val (.ref b5), .val (.ref b32), .val (.long (own_acc (fun j => own_b j K q1) K)), .second, .unset, .unset] [(.long (q1 &&& (((1 : Int64) <<< (((7 : Int32) * (Int32.ofNat K)) &&& 0x3f).toInt64) - (1 : Int64))))])) _
    refine XS.lstore X34.here hx rfl (hb hby at_340) rfl (l' := #[.val (.long q1), .second, .val (.int p2), .val (.int p3), .val (.int p4), .val (.int (Int32.ofNat K)), .val (.int (Int32.ofNat P)), .val (.ref b5), .val (.ref b32), .val (.long (own_acc (fun j => own_b j K q1) K)), .second, .val (.long (q1 &&& (((1 : Int64) <<< (((7 : Int32) * (Int32.ofNat K)) &&& 0x3f).toInt64) - (1 : Int64)))), .second]) rfl ?_
    show Steps p.tables e below (T34.setTop (mkF m 342 #[.val (.long q1), .second, .val (.int p2), .val (.int p3), .val (.int p4), .val (.int (Int32.ofNat K)), .val (.int (Int32.ofNat P)), .val (.ref b5), .val (.ref b32), .val (.long (own_acc (fun j => own_b j K q1) K)), .second, .val (.long (q1 &&& (((1 : Int64) <<< (((7 : Int32) * (Int32.ofNat K)) &&& 0x3f).toInt64) - (1 : Int64)))), .second] [])) _
    refine XS.lload X34.here hx rfl (hb hby at_342) rfl ?_
    show Steps p.tables e below (T34.setTop (mkF m 344 #[.val (.long q1), .second, .val (.int p2), .val (.int p3), .val (.int p4), .val (.int (Int32.ofNat K)), .val (.int (Int32.ofNat P)), .val (.ref b5), .val (.ref b32), .val (.long (own_acc (fun j => own_b j K q1) K)), .second, .val (.long (q1 &&& (((1 : Int64) <<< (((7 : Int32) * (Int32.ofNat K)) &&& 0x3f).toInt64) - (1 : Int64)))), .second] [(.long (own_acc (fun j => own_b j K q1) K))])) _
    refine XS.lload X34.here hx rfl (hb hby at_344) rfl ?_
    show Steps p.tables e below (T34.setTop (mkF m 346 #[.val (.long q1), .second, .val (.int p2), .val (.int p3), .val (.int p4), .val (.int (Int32.ofNat K)), .val (.int (Int32.ofNat P)), .val (.ref b5), .val (.ref b32), .val (.long (own_acc (fun j => own_b j K q1) K)), .second, .val (.long (q1 &&& (((1 : Int64) <<< (((7 : Int32) * (Int32.ofNat K)) &&& 0x3f).toInt64) - (1 : Int64)))), .second] [(.long (q1 &&& (((1 : Int64) <<< (((7 : Int32) * (Int32.ofNat K)) &&& 0x3f).toInt64) - (1 : Int64)))), (.long (own_acc (fun j => own_b j K q1) K))])) _
    refine XS.lcmp X34.here hx rfl (hb hby at_346) rfl ?_
    show Steps p.tables e below (T34.setTop (mkF m 347 #[.val (.long q1), .second, .val (.int p2), .val (.int p3), .val (.int p4), .val (.int (Int32.ofNat K)), .val (.int (Int32.ofNat P)), .val (.ref b5), .val (.ref b32), .val (.long (own_acc (fun j => own_b j K q1) K)), .second, .val (.long (q1 &&& (((1 : Int64) <<< (((7 : Int32) * (Int32.ofNat K)) &&& 0x3f).toInt64) - (1 : Int64)))), .second] [(.int (lcmpW (own_acc (fun j => own_b j K q1) K) (q1 &&& (((1 : Int64) <<< (((7 : Int32) * (Int32.ofNat K)) &&& 0x3f).toInt64) - (1 : Int64)))))])) _
    refine XS.ifNo X34.here hx rfl (hb hby at_347) rfl ((if0 _ _).trans (teq (own_fin9 (fun j => own_bg j K q1) (own_k9 hKn hc322) : (lcmpW (own_acc (fun j => own_b j K q1) K) (q1 &&& (((1 : Int64) <<< (((7 : Int32) * (Int32.ofNat K)) &&& 0x3f).toInt64) - (1 : Int64)))) = (0 : Int32))).2) ?_
    show Steps p.tables e below (T34.setTop (mkF m 350 #[.val (.long q1), .second, .val (.int p2), .val (.int p3), .val (.int p4), .val (.int (Int32.ofNat K)), .val (.int (Int32.ofNat P)), .val (.ref b5), .val (.ref b32), .val (.long (own_acc (fun j => own_b j K q1) K)), .second, .val (.long (q1 &&& (((1 : Int64) <<< (((7 : Int32) * (Int32.ofNat K)) &&& 0x3f).toInt64) - (1 : Int64)))), .second] [])) _
    refine XS.aload X34.here hx rfl (hb hby at_350) rfl rfl ?_
    show Steps p.tables e below (T34.setTop (mkF m 352 #[.val (.long q1), .second, .val (.int p2), .val (.int p3), .val (.int p4), .val (.int (Int32.ofNat K)), .val (.int (Int32.ofNat P)), .val (.ref b5), .val (.ref b32), .val (.long (own_acc (fun j => own_b j K q1) K)), .second, .val (.long (q1 &&& (((1 : Int64) <<< (((7 : Int32) * (Int32.ofNat K)) &&& 0x3f).toInt64) - (1 : Int64)))), .second] [(.ref b32)])) _
    refine st35.trans ?_
    show Steps p.tables e below (T35.setTop (mkF m 355 #[.val (.long q1), .second, .val (.int p2), .val (.int p3), .val (.int p4), .val (.int (Int32.ofNat K)), .val (.int (Int32.ofNat P)), .val (.ref b5), .val (.ref b32), .val (.long (own_acc (fun j => own_b j K q1) K)), .second, .val (.long (q1 &&& (((1 : Int64) <<< (((7 : Int32) * (Int32.ofNat K)) &&& 0x3f).toInt64) - (1 : Int64)))), .second] [(.int (Int32.ofNat (P + K)))])) _
    refine XS.iload X35.here hx rfl (hb hby at_355) rfl ?_
    show Steps p.tables e below (T35.setTop (mkF m 357 #[.val (.long q1), .second, .val (.int p2), .val (.int p3), .val (.int p4), .val (.int (Int32.ofNat K)), .val (.int (Int32.ofNat P)), .val (.ref b5), .val (.ref b32), .val (.long (own_acc (fun j => own_b j K q1) K)), .second, .val (.long (q1 &&& (((1 : Int64) <<< (((7 : Int32) * (Int32.ofNat K)) &&& 0x3f).toInt64) - (1 : Int64)))), .second] [(.int (Int32.ofNat P)), (.int (Int32.ofNat (P + K)))])) _
    refine XS.iload X35.here hx rfl (hb hby at_357) rfl ?_
    show Steps p.tables e below (T35.setTop (mkF m 359 #[.val (.long q1), .second, .val (.int p2), .val (.int p3), .val (.int p4), .val (.int (Int32.ofNat K)), .val (.int (Int32.ofNat P)), .val (.ref b5), .val (.ref b32), .val (.long (own_acc (fun j => own_b j K q1) K)), .second, .val (.long (q1 &&& (((1 : Int64) <<< (((7 : Int32) * (Int32.ofNat K)) &&& 0x3f).toInt64) - (1 : Int64)))), .second] [(.int (Int32.ofNat K)), (.int (Int32.ofNat P)), (.int (Int32.ofNat (P + K)))])) _
    refine XS.iadd X35.here hx rfl (hb hby at_359) rfl ?_
    show Steps p.tables e below (T35.setTop (mkF m 360 #[.val (.long q1), .second, .val (.int p2), .val (.int p3), .val (.int p4), .val (.int (Int32.ofNat K)), .val (.int (Int32.ofNat P)), .val (.ref b5), .val (.ref b32), .val (.long (own_acc (fun j => own_b j K q1) K)), .second, .val (.long (q1 &&& (((1 : Int64) <<< (((7 : Int32) * (Int32.ofNat K)) &&& 0x3f).toInt64) - (1 : Int64)))), .second] [(.int ((Int32.ofNat P) + (Int32.ofNat K))), (.int (Int32.ofNat (P + K)))])) _
    refine XS.icmpNo X35.here hx rfl (hb hby at_360) rfl (teq (Int32.ofNat_add P K : (Int32.ofNat (P + K)) = ((Int32.ofNat P) + (Int32.ofNat K)))).2 ?_
    show Steps p.tables e below (T35.setTop (mkF m 363 #[.val (.long q1), .second, .val (.int p2), .val (.int p3), .val (.int p4), .val (.int (Int32.ofNat K)), .val (.int (Int32.ofNat P)), .val (.ref b5), .val (.ref b32), .val (.long (own_acc (fun j => own_b j K q1) K)), .second, .val (.long (q1 &&& (((1 : Int64) <<< (((7 : Int32) * (Int32.ofNat K)) &&& 0x3f).toInt64) - (1 : Int64)))), .second] [])) _
    refine XS.iconst X35.here hx rfl (hb hby at_363) ?_
    show Steps p.tables e below (T35.setTop (mkF m 364 #[.val (.long q1), .second, .val (.int p2), .val (.int p3), .val (.int p4), .val (.int (Int32.ofNat K)), .val (.int (Int32.ofNat P)), .val (.ref b5), .val (.ref b32), .val (.long (own_acc (fun j => own_b j K q1) K)), .second, .val (.long (q1 &&& (((1 : Int64) <<< (((7 : Int32) * (Int32.ofNat K)) &&& 0x3f).toInt64) - (1 : Int64)))), .second] [(.int (1 : Int32))])) _
    refine XS.goto X35.here hx rfl (pc0 := 364) (pc' := 368) rfl (hb hby at_364) (by decide) (by decide) ?_
    show Steps p.tables e below (T35.setTop (mkF m 368 #[.val (.long q1), .second, .val (.int p2), .val (.int p3), .val (.int p4), .val (.int (Int32.ofNat K)), .val (.int (Int32.ofNat P)), .val (.ref b5), .val (.ref b32), .val (.long (own_acc (fun j => own_b j K q1) K)), .second, .val (.long (q1 &&& (((1 : Int64) <<< (((7 : Int32) * (Int32.ofNat K)) &&& 0x3f).toInt64) - (1 : Int64)))), .second] [(.int (1 : Int32))])) _
    exact retN X35 hx (t := .boolean) Bd.returns (by simp) (hb hby at_368) hr
  · show Q0 Z q1 p2 p3 p4 h0 n0 _ T35.heap _
    exact ⟨rfl, N35⟩
set_option maxRecDepth 65536 in
set_option maxHeartbeats 40000000 in
theorem rm0_b (l : Launch) (Z : State) (a0 : Array Value) (hw : ∀ d ∈ tables_1, d.before a0 Z = true) (ws : List Jvm.Cond) (q1 : Int64) (p2 : Int32) (p3 : Int32) (p4 : Int32) (h0 : Heap) (n0 : Nat) (Z0 : n0 ≤ h0.size) (K P : Nat) (hK1 : 1 ≤ K) (hKn : K ≤ 10) (hPn : P ≤ 3) (hnz7 : ¬ ((10 : Int32) = (0 : Int32))) (hp8 : ((1 : Int32) + ((p2 &&& (2147483647 : Int32)) - (((p2 &&& (2147483647 : Int32)) / (10 : Int32)) * (10 : Int32)))) = (Int32.ofNat K)) (hp13 : (p3 &&& (3 : Int32)) = (Int32.ofNat P)) (hc322 : ¬ ((Int32.ofNat K) < (10 : Int32))) :
    MetFree l x (head1 (Jvm.Cond.code x code maxLocals ret :: ws) room_1) (fun a U => a = #[(.long q1), (.int p2), (.int p3), (.int p4)] ∧ Z.Warmed39 U.vm ∧ U.heap = h0) (fun _ _ _ _ _ => True) (fun _ U o U' => ∃ v L, o = .returned v ∧ Q0 Z q1 p2 p3 p4 h0 n0 v U'.heap L ∧ FrameEnd U o U' L room_1.cells room_1.slots) := by
  refine MetFree.of_bodySF (plainFor_of_name pn_0) hisR ?_
  intro p e s m args below meth c s₁ Bd hml0 hP hK
  obtain ⟨rfl, hZ, hh⟩ := hP
  have hx := Bd.exec
  have hby := Bd.bytes
  have hml : c.maxLocals = 13 := hml0
  have hown : s.vm.findClass "com/example/vor/vor/index/DecoderReadNumberPinLaw" = some m.cls := findClass_of_methodNamed Bd.named
  have hnm := (name_of_methodNamed Bd.named Bd.method).1
  have X0 : Stand p l e room_1 s m #[(.long q1), (.int p2), (.int p3), (.int p4)] below meth c s₁ [] 0 0 := Stand.of_body Bd
  have e0 : s₁.heap = h0 := by rw [← hh, Bd.state]; rfl
  have N0 := Fr.nil n0
  have pre0 : ∀ t, Steps p.tables e below (s₁.setTop (mkF m 0 #[.val (.long q1), .second, .val (.int p2), .val (.int p3), .val (.int p4), .unset, .unset, .unset, .unset, .unset, .unset, .unset, .unset] [])) t → Steps p.tables e below (s₁.setTop (entryFrame m #[(.long q1), (.int p2), (.int p3), (.int p4)] maxLocals)) t := fun t k => castTop (ef_0 m q1 p2 p3 p4) k
  obtain ⟨T5, h5, k5, X5, e5, E5, A5, st5⟩ := newP X0 hx hZ (hw _ (List.mem_of_getElem? (i := 1) rfl)) e0 (g := (mkF m 18 #[.val (.long q1), .second, .val (.int p2), .val (.int p3), .val (.int p4), .val (.int (Int32.ofNat K)), .val (.int (Int32.ofNat P)), .unset, .unset, .unset, .unset, .unset, .unset] [(.int (16 : Int32))])) rfl (hb hby at_18) rfl (by decide) (cap := 16) (by decide) (by decide) (by decide) (by decide)
  obtain ⟨b5, g5⟩ : ∃ z, z = h0.size := ⟨_, rfl⟩
  rw [← g5] at A5 st5
  have V_b5 : Arv Z h5 b5 k5 .byte (16 : Int32) [(.int (0 : Int32)), (.int (0 : Int32)), (.int (0 : Int32)), (.int (0 : Int32)), (.int (0 : Int32)), (.int (0 : Int32)), (.int (0 : Int32)), (.int (0 : Int32)), (.int (0 : Int32)), (.int (0 : Int32)), (.int (0 : Int32)), (.int (0 : Int32)), (.int (0 : Int32)), (.int (0 : Int32)), (.int (0 : Int32)), (.int (0 : Int32))] (.int (0 : Int32)) := (Arv.new A5 (by decide)).pad (pad_rep [] (.int (0 : Int32)) 16)
  have g_b5 : n0 ≤ b5 := Nat.le_trans Z0 (Nat.le_of_eq g5.symm)
  obtain ⟨TA, hA, LA, XA, eA, NA, zA, VA, stA⟩ := own_stores (.val (.long q1)) .second (.val (.int p2)) (.val (.int p3)) p4 (.val (.int (Int32.ofNat K))) (.val (.int (Int32.ofNat P))) b5 .unset .unset .unset .unset .unset k5 n0 X5 hx hZ hw hby hml hown e5 g_b5 N0 ⟨_, (by rfl), V_b5⟩
  obtain ⟨vs, hvs, V21⟩ := VA
  have Zs21 : n0 ≤ hA.size := Nat.le_trans Z0 (Nat.le_trans E5.1 zA)
  obtain ⟨T31, h31, L31, X31, e31, N31, z31, V31, st31⟩ := own_puts_run q1 (.val (.int p2)) (.val (.int p3)) (.val (.int p4)) K P b5 .unset .unset .unset .unset .unset k5 n0 vs XA hx hZ hw hby hml hown eA hvs hKn hPn g_b5 NA Zs21 V21
  subst e31
  have Zs31 := Nat.le_trans Zs21 z31
  obtain ⟨T32, h32, X32, e32, E32, A32, D32, -, st32⟩ := newO X31 hx hZ hown (hw _ (List.mem_of_getElem? (i := 7) rfl)) (hw _ (List.mem_of_getElem? (i := 8) rfl)) (hw _ (List.mem_of_getElem? (i := 9) rfl)) rfl (g := (mkF m 298 #[.val (.long q1), .second, .val (.int p2), .val (.int p3), .val (.int p4), .val (.int (Int32.ofNat K)), .val (.int (Int32.ofNat P)), .val (.ref b5), .unset, .unset, .unset, .unset, .unset] [])) rfl (hb hby at_298) (by decide) (by decide)
  obtain ⟨b32, g32⟩ : ∃ z, z = T31.heap.size := ⟨_, rfl⟩
  have Zs32 := Nat.le_trans Zs31 E32.1
  have V32 := V31.ext E32
  have hne : b5 ≠ b32 := Nat.ne_of_lt (Nat.lt_of_lt_of_eq V31.lt g32.symm)
  rw [← g32] at A32 D32 st32
  have F_bytes_b32 : Fld Z h32 b32 "com/example/vor/vor/index/IndexFormat$Decoder" "bytes" "[B" .null := D32 (Or.inr (hw _ (List.mem_of_getElem? (i := 17) rfl))) (ty := (.array .byte)) (by decide)
  have F_position_b32 : Fld Z h32 b32 "com/example/vor/vor/index/IndexFormat$Decoder" "position" "I" (.int (0 : Int32)) := D32 (Or.inl (hw _ (List.mem_of_getElem? (i := 19) rfl))) (ty := .int) (by decide)
  have E_b32 := A32
  have g_b32 : n0 ≤ b32 := Nat.le_trans Zs31 (Nat.le_of_eq g32.symm)
  obtain ⟨_, _, ⟨T33, L33, k33, n33⟩, -, X33, ⟨Lc33, hQ33, l33, y33, z33⟩, st33⟩ := X32.specialBack hx (y := (⟨"com/example/vor/vor/index/IndexFormat$Decoder", "<init>", "([BI)V"⟩ : MethodName)) rfl hown (mvT hZ (hw _ (List.mem_of_getElem? (i := 10) rfl))) (mvT hZ (hw _ (List.mem_of_getElem? (i := 11) rfl))) (mvT hZ (hw _ (List.mem_of_getElem? (i := 12) rfl))) (by decide) (backOf (W := 1) (rm2 l Z a0 hw [] b32 b5 (Int32.ofNat P) _ _ h32 n0 Zs32 E_b32 F_bytes_b32 g_b32 F_position_b32) hZ (hw _ (List.mem_of_getElem? (i := 12) rfl)) (hw _ (List.mem_of_getElem? (i := 9) rfl)) (by decide) (by decide)) (g := (mkF m 306 #[.val (.long q1), .second, .val (.int p2), .val (.int p3), .val (.int p4), .val (.int (Int32.ofNat K)), .val (.int (Int32.ofNat P)), .val (.ref b5), .unset, .unset, .unset, .unset, .unset] [(.int (Int32.ofNat P)), (.ref b5), (.ref b32), (.ref b32)])) rfl (by rw [hml]; rfl) (Steps.refl _) (a := b32) (argsL := [(.ref b5), (.int (Int32.ofNat P))]) (rest := [(.ref b32)]) (lenOf pd_0_1 rfl) rfl (by show 2 * 0 + _ ≤ _; exact Nat.le_of_eq rfl) (hb hby at_306) (fun _ _ => ⟨rfl, e32, (by decide : 2 + 0 ≤ _), (by decide : 18 + 0 ≤ _)⟩)
  dsimp only [Pt.U, Pt.locs, Pt.cells, Pt.slots] at X33 l33 y33 z33 st33 hQ33
  subst l33 y33 z33
  obtain ⟨rfl, N33q, Kc33, Ex33, Fb33, Fp33⟩ := hQ33
  have N33 := Fr.app N31 N33q
  have Zs33 := Nat.le_trans Zs32 Kc33.1
  have V33 := V32.keep Kc33 (by simpa using hne)
  obtain ⟨clF, ArF, -, SF, -, HF, -⟩ := V33
  have S16 : clF.slots.size = 16 := SF.trans (by decide)
  have hat : ∀ j, j < K → clF.slots[P + j]? = some (.int (own_b j K q1)) := fun j hj => by
    rw [HF (P + j) (by rw [S16]; omega), own_pat q1 hvs hPn hKn 10 j (by omega) hj]
  obtain ⟨cq34, kq34, q34a, q34b, q34c⟩ := isOf hZ rfl Ex33
  obtain ⟨_, _, ⟨T34, L34, k34, n34⟩, -, X34, ⟨Lc34, hQ34, l34, y34, z34⟩, st34⟩ := X33.virtualBack hx (y := (⟨"com/example/vor/vor/index/IndexFormat$Decoder", "readNumber", "()J"⟩ : MethodName)) (z := (⟨"com/example/vor/vor/index/IndexFormat$Decoder", "readNumber", "()J"⟩ : MethodName)) hown (mvT hZ (hw _ (List.mem_of_getElem? (i := 20) rfl))) (mvT hZ (hw _ (List.mem_of_getElem? (i := 21) rfl))) (notFace_of_selects (args := #[]) (mvT hZ (hw _ (List.mem_of_getElem? (i := 23) rfl)))) (mvT hZ (hw _ (List.mem_of_getElem? (i := 23) rfl))) (mvT hZ (hw _ (List.mem_of_getElem? (i := 22) rfl))) (by decide) (backOf (W := 0) (rm4 l Z a0 hw [] b32 b5 (fun j => own_b j K q1) P K clF T33.heap n0 Zs33 Fb33 Fp33 Ex33 g_b32 ArF hne S16 (by omega) hK1 hat (fun j hj => own_neg q1 hj) (own_last q1 (by omega))) hZ (hw _ (List.mem_of_getElem? (i := 24) rfl)) (hw _ (List.mem_of_getElem? (i := 9) rfl)) (by decide) (by decide)) q34a q34c (g := (mkF m 313 #[.val (.long q1), .second, .val (.int p2), .val (.int p3), .val (.int p4), .val (.int (Int32.ofNat K)), .val (.int (Int32.ofNat P)), .val (.ref b5), .val (.ref b32), .unset, .unset, .unset, .unset] [(.ref b32)])) rfl (by rw [hml]; rfl) (Steps.refl _) (argsL := []) (rest := []) (lenOf pd_0_3 rfl) rfl (by show 2 * 0 + _ ≤ _; exact Nat.le_of_eq rfl) (hb hby at_313) (fun _ _ => ⟨rfl, rfl, (by decide : 2 + 0 ≤ _), (by decide : 18 + 0 ≤ _)⟩)
  dsimp only [Pt.U, Pt.locs, Pt.cells, Pt.slots] at X34 l34 y34 z34 st34 hQ34
  subst l34 y34 z34
  obtain ⟨rfl, N34q, Zc34, Ex34, Fp34⟩ := hQ34
  have N34 := Fr.app N33 N34q
  have Zs34 := Nat.le_trans Zs33 Zc34
  obtain ⟨cq35, kq35, q35a, q35b, q35c⟩ := isOf hZ rfl Ex34
  obtain ⟨_, _, ⟨T35, L35, k35, n35⟩, -, X35, ⟨Lc35, hQ35, l35, y35, z35⟩, st35⟩ := X34.virtualBack hx (y := (⟨"com/example/vor/vor/index/IndexFormat$Decoder", "position", "()I"⟩ : MethodName)) (z := (⟨"com/example/vor/vor/index/IndexFormat$Decoder", "position", "()I"⟩ : MethodName)) hown (mvT hZ (hw _ (List.mem_of_getElem? (i := 25) rfl))) (mvT hZ (hw _ (List.mem_of_getElem? (i := 26) rfl))) (notFace_of_selects (args := #[]) (mvT hZ (hw _ (List.mem_of_getElem? (i := 28) rfl)))) (mvT hZ (hw _ (List.mem_of_getElem? (i := 28) rfl))) (mvT hZ (hw _ (List.mem_of_getElem? (i := 27) rfl))) (by decide) (backOf (W := 0) (rm5 l Z a0 hw [] b32 (Int32.ofNat (P + K)) T34.heap n0 Zs34 Fp34) hZ (hw _ (List.mem_of_getElem? (i := 29) rfl)) (hw _ (List.mem_of_getElem? (i := 9) rfl)) (by decide) (by decide)) q35a q35c (g := (mkF m 352 #[.val (.long q1), .second, .val (.int p2), .val (.int p3), .val (.int p4), .val (.int (Int32.ofNat K)), .val (.int (Int32.ofNat P)), .val (.ref b5), .val (.ref b32), .val (.long (own_acc (fun j => own_b j K q1) K)), .second, .val (.long q1), .second] [(.ref b32)])) rfl (by rw [hml]; rfl) (Steps.refl _) (argsL := []) (rest := []) (lenOf pd_0_4 rfl) rfl (by show 2 * 0 + _ ≤ _; exact Nat.le_of_eq rfl) (hb hby at_352) (fun _ _ => ⟨rfl, rfl, (by decide : 2 + 0 ≤ _), (by decide : 18 + 0 ≤ _)⟩)
  dsimp only [Pt.U, Pt.locs, Pt.cells, Pt.slots] at X35 l35 y35 z35 st35 hQ35
  subst l35 y35 z35
  obtain ⟨rfl, N35q, Hc35⟩ := hQ35
  have N35 := Fr.app N34 N35q
  obtain ⟨fs, hr, hrun, hended, hW, hsame⟩ := X35.leave (v := some (.int (1 : Int32))) (fun h => by rw [Bd.returns] at h; cases h)
  refine ⟨_, _, pre0 _ ?_, hrun, hended, _, _, rfl, ?_, ⟨_, rfl⟩, hW, hsame.mono (by decide) (by decide)⟩
  · show Steps p.tables e below (s₁.setTop (mkF m 0 #[.val (.long q1), .second, .val (.int p2), .val (.int p3), .val (.int p4), .unset, .unset, .unset, .unset, .unset, .unset, .unset, .unset] [])) _
    refine XS.iconst X0.here hx rfl (hb hby at_0) ?_
    show Steps p.tables e below (s₁.setTop (mkF m 1 #[.val (.long q1), .second, .val (.int p2), .val (.int p3), .val (.int p4), .unset, .unset, .unset, .unset, .unset, .unset, .unset, .unset] [(.int (1 : Int32))])) _
    refine XS.iloadN X0.here hx rfl (hb hby at_1) rfl ?_
    show Steps p.tables e below (s₁.setTop (mkF m 2 #[.val (.long q1), .second, .val (.int p2), .val (.int p3), .val (.int p4), .unset, .unset, .unset, .unset, .unset, .unset, .unset, .unset] [(.int p2), (.int (1 : Int32))])) _
    refine X0.ldcInt hx hown (mvT hZ (hw _ (List.mem_of_getElem? (i := 0) rfl))) (g := (mkF m 2 #[.val (.long q1), .second, .val (.int p2), .val (.int p3), .val (.int p4), .unset, .unset, .unset, .unset, .unset, .unset, .unset, .unset] [(.int p2), (.int (1 : Int32))])) rfl (hb hby at_2) _ ?_
    show Steps p.tables e below (s₁.setTop (mkF m 4 #[.val (.long q1), .second, .val (.int p2), .val (.int p3), .val (.int p4), .unset, .unset, .unset, .unset, .unset, .unset, .unset, .unset] [(.int (2147483647 : Int32)), (.int p2), (.int (1 : Int32))])) _
    refine XS.iand X0.here hx rfl (hb hby at_4) rfl ?_
    show Steps p.tables e below (s₁.setTop (mkF m 5 #[.val (.long q1), .second, .val (.int p2), .val (.int p3), .val (.int p4), .unset, .unset, .unset, .unset, .unset, .unset, .unset, .unset] [(.int (p2 &&& (2147483647 : Int32))), (.int (1 : Int32))])) _
    refine XS.bipush X0.here hx rfl (hb hby at_5) ?_
    show Steps p.tables e below (s₁.setTop (mkF m 7 #[.val (.long q1), .second, .val (.int p2), .val (.int p3), .val (.int p4), .unset, .unset, .unset, .unset, .unset, .unset, .unset, .unset] [(.int (10 : Int32)), (.int (p2 &&& (2147483647 : Int32))), (.int (1 : Int32))])) _
    refine XS.irem X0.here hx rfl (hb hby at_7) rfl hnz7 ?_
    show Steps p.tables e below (s₁.setTop (mkF m 8 #[.val (.long q1), .second, .val (.int p2), .val (.int p3), .val (.int p4), .unset, .unset, .unset, .unset, .unset, .unset, .unset, .unset] [(.int ((p2 &&& (2147483647 : Int32)) - (((p2 &&& (2147483647 : Int32)) / (10 : Int32)) * (10 : Int32)))), (.int (1 : Int32))])) _
    refine XS.iadd X0.here hx rfl (hb hby at_8) rfl ?_
    rw [hp8]
    show Steps p.tables e below (s₁.setTop (mkF m 9 #[.val (.long q1), .second, .val (.int p2), .val (.int p3), .val (.int p4), .unset, .unset, .unset, .unset, .unset, .unset, .unset, .unset] [(.int (Int32.ofNat K))])) _
    refine XS.istore X0.here hx rfl (hb hby at_9) rfl (l' := #[.val (.long q1), .second, .val (.int p2), .val (.int p3), .val (.int p4), .val (.int (Int32.ofNat K)), .unset, .unset, .unset, .unset, .unset, .unset, .unset]) rfl ?_
    show Steps p.tables e below (s₁.setTop (mkF m 11 #[.val (.long q1), .second, .val (.int p2), .val (.int p3), .val (.int p4), .val (.int (Int32.ofNat K)), .unset, .unset, .unset, .unset, .unset, .unset, .unset] [])) _
    refine XS.iloadN X0.here hx rfl (hb hby at_11) rfl ?_
    show Steps p.tables e below (s₁.setTop (mkF m 12 #[.val (.long q1), .second, .val (.int p2), .val (.int p3), .val (.int p4), .val (.int (Int32.ofNat K)), .unset, .unset, .unset, .unset, .unset, .unset, .unset] [(.int p3)])) _
    refine XS.iconst X0.here hx rfl (hb hby at_12) ?_
    show Steps p.tables e below (s₁.setTop (mkF m 13 #[.val (.long q1), .second, .val (.int p2), .val (.int p3), .val (.int p4), .val (.int (Int32.ofNat K)), .unset, .unset, .unset, .unset, .unset, .unset, .unset] [(.int (3 : Int32)), (.int p3)])) _
    refine XS.iand X0.here hx rfl (hb hby at_13) rfl ?_
    rw [hp13]
    show Steps p.tables e below (s₁.setTop (mkF m 14 #[.val (.long q1), .second, .val (.int p2), .val (.int p3), .val (.int p4), .val (.int (Int32.ofNat K)), .unset, .unset, .unset, .unset, .unset, .unset, .unset] [(.int (Int32.ofNat P))])) _
    refine XS.istore X0.here hx rfl (hb hby at_14) rfl (l' := #[.val (.long q1), .second, .val (.int p2), .val (.int p3), .val (.int p4), .val (.int (Int32.ofNat K)), .val (.int (Int32.ofNat P)), .unset, .unset, .unset, .unset, .unset, .unset]) rfl ?_
    show Steps p.tables e below (s₁.setTop (mkF m 16 #[.val (.long q1), .second, .val (.int p2), .val (.int p3), .val (.int p4), .val (.int (Int32.ofNat K)), .val (.int (Int32.ofNat P)), .unset, .unset, .unset, .unset, .unset, .unset] [])) _
    refine XS.bipush X0.here hx rfl (hb hby at_16) ?_
    show Steps p.tables e below (s₁.setTop (mkF m 18 #[.val (.long q1), .second, .val (.int p2), .val (.int p3), .val (.int p4), .val (.int (Int32.ofNat K)), .val (.int (Int32.ofNat P)), .unset, .unset, .unset, .unset, .unset, .unset] [(.int (16 : Int32))])) _
    refine st5 _ ?_
    show Steps p.tables e below (T5.setTop (mkF m 20 #[.val (.long q1), .second, .val (.int p2), .val (.int p3), .val (.int p4), .val (.int (Int32.ofNat K)), .val (.int (Int32.ofNat P)), .unset, .unset, .unset, .unset, .unset, .unset] [(.ref b5)])) _
    refine XS.astore X5.here hx rfl (hb hby at_20) rfl rfl (l' := #[.val (.long q1), .second, .val (.int p2), .val (.int p3), .val (.int p4), .val (.int (Int32.ofNat K)), .val (.int (Int32.ofNat P)), .val (.ref b5), .unset, .unset, .unset, .unset, .unset]) rfl ?_
    show Steps p.tables e below (T5.setTop (mkF m 22 #[.val (.long q1), .second, .val (.int p2), .val (.int p3), .val (.int p4), .val (.int (Int32.ofNat K)), .val (.int (Int32.ofNat P)), .val (.ref b5), .unset, .unset, .unset, .unset, .unset] [])) _
    refine stA _ (st31 _ ?_)
    show Steps p.tables e below (T31.setTop (mkF m 298 #[.val (.long q1), .second, .val (.int p2), .val (.int p3), .val (.int p4), .val (.int (Int32.ofNat K)), .val (.int (Int32.ofNat P)), .val (.ref b5), .unset, .unset, .unset, .unset, .unset] [])) _
    refine st32 _ ?_
    show Steps p.tables e below (T32.setTop (mkF m 301 #[.val (.long q1), .second, .val (.int p2), .val (.int p3), .val (.int p4), .val (.int (Int32.ofNat K)), .val (.int (Int32.ofNat P)), .val (.ref b5), .unset, .unset, .unset, .unset, .unset] [(.ref b32)])) _
    refine XS.dup X32.here hx rfl (hb hby at_301) rfl rfl ?_
    show Steps p.tables e below (T32.setTop (mkF m 302 #[.val (.long q1), .second, .val (.int p2), .val (.int p3), .val (.int p4), .val (.int (Int32.ofNat K)), .val (.int (Int32.ofNat P)), .val (.ref b5), .unset, .unset, .unset, .unset, .unset] [(.ref b32), (.ref b32)])) _
    refine XS.aload X32.here hx rfl (hb hby at_302) rfl rfl ?_
    show Steps p.tables e below (T32.setTop (mkF m 304 #[.val (.long q1), .second, .val (.int p2), .val (.int p3), .val (.int p4), .val (.int (Int32.ofNat K)), .val (.int (Int32.ofNat P)), .val (.ref b5), .unset, .unset, .unset, .unset, .unset] [(.ref b5), (.ref b32), (.ref b32)])) _
    refine XS.iload X32.here hx rfl (hb hby at_304) rfl ?_
    show Steps p.tables e below (T32.setTop (mkF m 306 #[.val (.long q1), .second, .val (.int p2), .val (.int p3), .val (.int p4), .val (.int (Int32.ofNat K)), .val (.int (Int32.ofNat P)), .val (.ref b5), .unset, .unset, .unset, .unset, .unset] [(.int (Int32.ofNat P)), (.ref b5), (.ref b32), (.ref b32)])) _
    refine st33.trans ?_
    show Steps p.tables e below (T33.setTop (mkF m 309 #[.val (.long q1), .second, .val (.int p2), .val (.int p3), .val (.int p4), .val (.int (Int32.ofNat K)), .val (.int (Int32.ofNat P)), .val (.ref b5), .unset, .unset, .unset, .unset, .unset] [(.ref b32)])) _
    refine XS.astore X33.here hx rfl (hb hby at_309) rfl rfl (l' := #[.val (.long q1), .second, .val (.int p2), .val (.int p3), .val (.int p4), .val (.int (Int32.ofNat K)), .val (.int (Int32.ofNat P)), .val (.ref b5), .val (.ref b32), .unset, .unset, .unset, .unset]) rfl ?_
    show Steps p.tables e below (T33.setTop (mkF m 311 #[.val (.long q1), .second, .val (.int p2), .val (.int p3), .val (.int p4), .val (.int (Int32.ofNat K)), .val (.int (Int32.ofNat P)), .val (.ref b5), .val (.ref b32), .unset, .unset, .unset, .unset] [])) _
    refine XS.aload X33.here hx rfl (hb hby at_311) rfl rfl ?_
    show Steps p.tables e below (T33.setTop (mkF m 313 #[.val (.long q1), .second, .val (.int p2), .val (.int p3), .val (.int p4), .val (.int (Int32.ofNat K)), .val (.int (Int32.ofNat P)), .val (.ref b5), .val (.ref b32), .unset, .unset, .unset, .unset] [(.ref b32)])) _
    refine st34.trans ?_
    show Steps p.tables e below (T34.setTop (mkF m 316 #[.val (.long q1), .second, .val (.int p2), .val (.int p3), .val (.int p4), .val (.int (Int32.ofNat K)), .val (.int (Int32.ofNat P)), .val (.ref b5), .val (.ref b32), .unset, .unset, .unset, .unset] [(.long (own_acc (fun j => own_b j K q1) K))])) _
    refine XS.lstore X34.here hx rfl (hb hby at_316) rfl (l' := #[.val (.long q1), .second, .val (.int p2), .val (.int p3), .val (.int p4), .val (.int (Int32.ofNat K)), .val (.int (Int32.ofNat P)), .val (.ref b5), .val (.ref b32), .val (.long (own_acc (fun j => own_b j K q1) K)), .second, .unset, .unset]) rfl ?_
    show Steps p.tables e below (T34.setTop (mkF m 318 #[.val (.long q1), .second, .val (.int p2), .val (.int p3), .val (.int p4), .val (.int (Int32.ofNat K)), .val (.int (Int32.ofNat P)), .val (.ref b5), .val (.ref b32), .val (.long (own_acc (fun j => own_b j K q1) K)), .second, .unset, .unset] [])) _
    refine XS.iload X34.here hx rfl (hb hby at_318) rfl ?_
    show Steps p.tables e below (T34.setTop (mkF m 320 #[.val (.long q1), .second, .val (.int p2), .val (.int p3), .val (.int p4), .val (.int (Int32.ofNat K)), .val (.int (Int32.ofNat P)), .val (.ref b5), .val (.ref b32), .val (.long (own_acc (fun j => own_b j K q1) K)), .second, .unset, .unset] [(.int (Int32.ofNat K))])) _
    refine XS.bipush X34.here hx rfl (hb hby at_320) ?_
    show Steps p.tables e below (T34.setTop (mkF m 322 #[.val (.long q1), .second, .val (.int p2), .val (.int p3), .val (.int p4), .val (.int (Int32.ofNat K)), .val (.int (Int32.ofNat P)), .val (.ref b5), .val (.ref b32), .val (.long (own_acc (fun j => own_b j K q1) K)), .second, .unset, .unset] [(.int (10 : Int32)), (.int (Int32.ofNat K))])) _
    refine XS.icmpNo X34.here hx rfl (hb hby at_322) rfl (flt hc322).1 ?_
    show Steps p.tables e below (T34.setTop (mkF m 325 #[.val (.long q1), .second, .val (.int p2), .val (.int p3), .val (.int p4), .val (.int (Int32.ofNat K)), .val (.int (Int32.ofNat P)), .val (.ref b5), .val (.ref b32), .val (.long (own_acc (fun j => own_b j K q1) K)), .second, .unset, .unset] [])) _
    refine XS.lloadN X34.here hx rfl (hb hby at_325) rfl ?_
    show Steps p.tables e below (T34.setTop (mkF m 326 #[.val (.long q1), .second, .val (.int p2), .val (.int p3), .val (.int p4), .val (.int (Int32.ofNat K)), .val (.int (Int32.ofNat P)), .val (.ref b5), .val (.ref b32), .val (.long (own_acc (fun j => own_b j K q1) K)), .second, .unset, .unset] [(.long q1)])) _
    refine XS.goto X34.here hx rfl (pc0 := 326) (pc' := 340) rfl (hb hby at_326) (by decide) (by decide) ?_
    show Steps p.tables e below (T34.setTop (mkF m 340 #[.val (.long q1), .second, .val (.int p2), .val (.int p3), .val (.int p4), .val (.int (Int32.ofNat K)), .val (.int (Int32.ofNat P)), .val (.ref b5), .val (.ref b32), .val (.long (own_acc (fun j => own_b j K q1) K)), .second, .unset, .unset] [(.long q1)])) _
    refine XS.lstore X34.here hx rfl (hb hby at_340) rfl (l' := #[.val (.long q1), .second, .val (.int p2), .val (.int p3), .val (.int p4), .val (.int (Int32.ofNat K)), .val (.int (Int32.ofNat P)), .val (.ref b5), .val (.ref b32), .val (.long (own_acc (fun j => own_b j K q1) K)), .second, .val (.long q1), .second]) rfl ?_
    show Steps p.tables e below (T34.setTop (mkF m 342 #[.val (.long q1), .second, .val (.int p2), .val (.int p3), .val (.int p4), .val (.int (Int32.ofNat K)), .val (.int (Int32.ofNat P)), .val (.ref b5), .val (.ref b32), .val (.long (own_acc (fun j => own_b j K q1) K)), .second, .val (.long q1), .second] [])) _
    refine XS.lload X34.here hx rfl (hb hby at_342) rfl ?_
    show Steps p.tables e below (T34.setTop (mkF m 344 #[.val (.long q1), .second, .val (.int p2), .val (.int p3), .val (.int p4), .val (.int (Int32.ofNat K)), .val (.int (Int32.ofNat P)), .val (.ref b5), .val (.ref b32), .val (.long (own_acc (fun j => own_b j K q1) K)), .second, .val (.long q1), .second] [(.long (own_acc (fun j => own_b j K q1) K))])) _
    refine XS.lload X34.here hx rfl (hb hby at_344) rfl ?_
    show Steps p.tables e below (T34.setTop (mkF m 346 #[.val (.long q1), .second, .val (.int p2), .val (.int p3), .val (.int p4), .val (.int (Int32.ofNat K)), .val (.int (Int32.ofNat P)), .val (.ref b5), .val (.ref b32), .val (.long (own_acc (fun j => own_b j K q1) K)), .second, .val (.long q1), .second] [(.long q1), (.long (own_acc (fun j => own_b j K q1) K))])) _
    refine XS.lcmp X34.here hx rfl (hb hby at_346) rfl ?_
    show Steps p.tables e below (T34.setTop (mkF m 347 #[.val (.long q1), .second, .val (.int p2), .val (.int p3), .val (.int p4), .val (.int (Int32.ofNat K)), .val (.int (Int32.ofNat P)), .val (.ref b5), .val (.ref b32), .val (.long (own_acc (fun j => own_b j K q1) K)), .second, .val (.long q1), .second] [(.int (lcmpW (own_acc (fun j => own_b j K q1) K) q1))])) _
    refine XS.ifNo X34.here hx rfl (hb hby at_347) rfl ((if0 _ _).trans (teq (own_fin10 (fun j => own_bg j K q1) (own_k0 hKn hc322) : (lcmpW (own_acc (fun j => own_b j K q1) K) q1) = (0 : Int32))).2) ?_
    show Steps p.tables e below (T34.setTop (mkF m 350 #[.val (.long q1), .second, .val (.int p2), .val (.int p3), .val (.int p4), .val (.int (Int32.ofNat K)), .val (.int (Int32.ofNat P)), .val (.ref b5), .val (.ref b32), .val (.long (own_acc (fun j => own_b j K q1) K)), .second, .val (.long q1), .second] [])) _
    refine XS.aload X34.here hx rfl (hb hby at_350) rfl rfl ?_
    show Steps p.tables e below (T34.setTop (mkF m 352 #[.val (.long q1), .second, .val (.int p2), .val (.int p3), .val (.int p4), .val (.int (Int32.ofNat K)), .val (.int (Int32.ofNat P)), .val (.ref b5), .val (.ref b32), .val (.long (own_acc (fun j => own_b j K q1) K)), .second, .val (.long q1), .second] [(.ref b32)])) _
    refine st35.trans ?_
    show Steps p.tables e below (T35.setTop (mkF m 355 #[.val (.long q1), .second, .val (.int p2), .val (.int p3), .val (.int p4), .val (.int (Int32.ofNat K)), .val (.int (Int32.ofNat P)), .val (.ref b5), .val (.ref b32), .val (.long (own_acc (fun j => own_b j K q1) K)), .second, .val (.long q1), .second] [(.int (Int32.ofNat (P + K)))])) _
    refine XS.iload X35.here hx rfl (hb hby at_355) rfl ?_
    show Steps p.tables e below (T35.setTop (mkF m 357 #[.val (.long q1), .second, .val (.int p2), .val (.int p3), .val (.int p4), .val (.int (Int32.ofNat K)), .val (.int (Int32.ofNat P)), .val (.ref b5), .val (.ref b32), .val (.long (own_acc (fun j => own_b j K q1) K)), .second, .val (.long q1), .second] [(.int (Int32.ofNat P)), (.int (Int32.ofNat (P + K)))])) _
    refine XS.iload X35.here hx rfl (hb hby at_357) rfl ?_
    show Steps p.tables e below (T35.setTop (mkF m 359 #[.val (.long q1), .second, .val (.int p2), .val (.int p3), .val (.int p4), .val (.int (Int32.ofNat K)), .val (.int (Int32.ofNat P)), .val (.ref b5), .val (.ref b32), .val (.long (own_acc (fun j => own_b j K q1) K)), .second, .val (.long q1), .second] [(.int (Int32.ofNat K)), (.int (Int32.ofNat P)), (.int (Int32.ofNat (P + K)))])) _
    refine XS.iadd X35.here hx rfl (hb hby at_359) rfl ?_
    show Steps p.tables e below (T35.setTop (mkF m 360 #[.val (.long q1), .second, .val (.int p2), .val (.int p3), .val (.int p4), .val (.int (Int32.ofNat K)), .val (.int (Int32.ofNat P)), .val (.ref b5), .val (.ref b32), .val (.long (own_acc (fun j => own_b j K q1) K)), .second, .val (.long q1), .second] [(.int ((Int32.ofNat P) + (Int32.ofNat K))), (.int (Int32.ofNat (P + K)))])) _
    refine XS.icmpNo X35.here hx rfl (hb hby at_360) rfl (teq (Int32.ofNat_add P K : (Int32.ofNat (P + K)) = ((Int32.ofNat P) + (Int32.ofNat K)))).2 ?_
    show Steps p.tables e below (T35.setTop (mkF m 363 #[.val (.long q1), .second, .val (.int p2), .val (.int p3), .val (.int p4), .val (.int (Int32.ofNat K)), .val (.int (Int32.ofNat P)), .val (.ref b5), .val (.ref b32), .val (.long (own_acc (fun j => own_b j K q1) K)), .second, .val (.long q1), .second] [])) _
    refine XS.iconst X35.here hx rfl (hb hby at_363) ?_
    show Steps p.tables e below (T35.setTop (mkF m 364 #[.val (.long q1), .second, .val (.int p2), .val (.int p3), .val (.int p4), .val (.int (Int32.ofNat K)), .val (.int (Int32.ofNat P)), .val (.ref b5), .val (.ref b32), .val (.long (own_acc (fun j => own_b j K q1) K)), .second, .val (.long q1), .second] [(.int (1 : Int32))])) _
    refine XS.goto X35.here hx rfl (pc0 := 364) (pc' := 368) rfl (hb hby at_364) (by decide) (by decide) ?_
    show Steps p.tables e below (T35.setTop (mkF m 368 #[.val (.long q1), .second, .val (.int p2), .val (.int p3), .val (.int p4), .val (.int (Int32.ofNat K)), .val (.int (Int32.ofNat P)), .val (.ref b5), .val (.ref b32), .val (.long (own_acc (fun j => own_b j K q1) K)), .second, .val (.long q1), .second] [(.int (1 : Int32))])) _
    exact retN X35 hx (t := .boolean) Bd.returns (by simp) (hb hby at_368) hr
  · show Q0 Z q1 p2 p3 p4 h0 n0 _ T35.heap _
    exact ⟨rfl, N35⟩
set_option maxRecDepth 65536 in
set_option maxHeartbeats 40000000 in
theorem comes_1 {Post : Tables → Env → Array Value → State → Outcome → State → Prop} (hpost : ∀ tb e args s v u, (limb_1_1.after args s (.returned v) u = true ∧ limb_1_2.after args s (.returned v) u = true ∧ True) → FrameEnd s (.returned v) u (Jvm.fieldLocs frame_1_writes args s ++ Jvm.arrayLocs frame_1_arrays args s ++ Jvm.staticLocs frame_1_statics s) 16 128 → Post tb e args s (.returned v) u) :
    ArmFor flags0 classFile x code maxLocals ret World_1 tables_1 room_1 Calls_1 rest_1 Pre_1 Post := by
  intro l hfl _ _ p e ha hc hk s m args below hf hA hF happ hP
  obtain ⟨hcalls, hrest, hpre⟩ := hP
  obtain ⟨-, -, -, hnamed, -, -, -, hat⟩ := (Spec.applies_iff hf).mp happ
  obtain ⟨hg, hn⟩ := and_e (Cond.before_iff.mp (show (Jvm.Cond.and given_1 narrow_1).before args s = true from hpre))
  obtain ⟨g36, g37⟩ := and_e hg
  obtain ⟨g38, g39⟩ := and_e g37
  obtain ⟨g40, g41⟩ := and_e g39
  obtain ⟨g42, g43⟩ := and_e g41
  obtain ⟨w0, w1, w2, w3, rfl⟩ : ∃ w0 w1 w2 w3 : Value, args = #[w0, w1, w2, w3] := by
    have hs : args.size = 4 := by simpa [Cond.value, given_1] using g36
    obtain ⟨L⟩ := args
    match L, hs with
    | [w0, w1, w2, w3], _ => exact ⟨w0, w1, w2, w3, rfl⟩
  have hw := fun d (hd : d ∈ tables_1) => atoms_spec (ws := Jvm.Cond.code x code maxLocals ret :: tables_1) hat d (List.mem_cons_of_mem _ hd)
  have hfit : Fit s := fun {y c} hc i hi => by
    obtain ⟨ha, rfl⟩ := Array.getElem?_eq_some_iff.mp hc
    have q := List.all_eq_true.mp ((Array.all_eq_true_iff_forall_mem.mp hF) _ (Array.getElem_mem ha)) i (List.mem_range.mpr hi)
    simpa [Array.getElem?_eq_getElem hi] using q
  obtain ⟨i0, ei0⟩ := isL_v g38
  obtain rfl : w0 = (.long i0) := Option.some.inj ei0
  obtain ⟨i1, ei1⟩ := is_v g40
  obtain rfl : w1 = (.int i1) := Option.some.inj ei1
  obtain ⟨i2, ei2⟩ := is_v g42
  obtain rfl : w2 = (.int i2) := Option.some.inj ei2
  obtain ⟨i3, ei3⟩ := is_v g43
  obtain rfl : w3 = (.int i3) := Option.some.inj ei3
  obtain ⟨K, hK1, hKn, hp8⟩ := own_k10 i1
  obtain ⟨P, hPn, hp13⟩ := own_p3 i2
  by_cases hc322 : (Int32.ofNat K) < (10 : Int32)
  · obtain ⟨n, o, h1, h2, h3, _, L, rfl, ⟨rfl, N⟩, hq⟩ := rm0_a l s _ hw tables_1 i0 i1 i2 i3 s.heap s.heap.size (Nat.le_refl _) K P hK1 hKn hPn (by decide) hp8 hp13 hc322 p e ha hc hk s m _ below hf ((Spec.applies_iff_loose hf).mp happ).1 ⟨rfl, State.Warmed39.refl s, rfl⟩ trivial
    refine ⟨n, _, h1, h2, h3, hpost _ _ _ _ _ _ ⟨Cond.after_iff.mpr rfl, Cond.after_iff.mpr (eq_i res_at (Term.int_eval (1)) rfl), trivial⟩ ⟨hq.1, hq.2.1, (hq.2.2.sift fun y hy => Or.inr (N y hy)).mono (by decide) (by decide)⟩⟩
  · obtain ⟨n, o, h1, h2, h3, _, L, rfl, ⟨rfl, N⟩, hq⟩ := rm0_b l s _ hw tables_1 i0 i1 i2 i3 s.heap s.heap.size (Nat.le_refl _) K P hK1 hKn hPn (by decide) hp8 hp13 hc322 p e ha hc hk s m _ below hf ((Spec.applies_iff_loose hf).mp happ).1 ⟨rfl, State.Warmed39.refl s, rfl⟩ trivial
    refine ⟨n, _, h1, h2, h3, hpost _ _ _ _ _ _ ⟨Cond.after_iff.mpr rfl, Cond.after_iff.mpr (eq_i res_at (Term.int_eval (1)) rfl), trivial⟩ ⟨hq.1, hq.2.1, (hq.2.2.sift fun y hy => Or.inr (N y hy)).mono (by decide) (by decide)⟩⟩
theorem main_1_1 : Claimed_1_1 := comes_1 fun _ _ _ _ _ _ h hF => ⟨h.1, hF⟩
theorem main_1_2 : Claimed_1_2 := comes_1 fun _ _ _ _ _ _ h hF => ⟨h.2.1, hF⟩
end Jvm.Pilot.@@N@@
namespace Jvm.Pilot.@@N@@
open Jvm Jvm.ClassFile Sem Op Lib Jvm.Free Jvm.Stand Jvm.Pilot.@@N@@.Jvm.D
/-! MADE BY PROGRAM (witnessworld.py) out of the Statement's table words and the real class files: 9 classes; the members and pool entries that the words name. The judged class is class 1, her method 1. -/
namespace start1
open Jvm.ClassFile
def u (s : String) : CpInfo := .utf8 (stringToUtf16 s)
/-- a pool by its gaps: so many unusable entries, then the entry; so many at the end -/
def gap : Nat → List CpInfo → List CpInfo
  | 0, r => r
  | n + 1, r => .unusable :: gap n r
def poolList (es : List (Nat × CpInfo)) (last : Nat) : List CpInfo := es.foldr (fun e r => gap e.1 (e.2 :: r)) (gap last [])
def pool (es : List (Nat × CpInfo)) (last : Nat) : Array CpInfo := ⟨poolList es last⟩
def fileOf (pool : Array CpInfo) (this : Nat) (attrs : Array Attribute := #[]) (ms : Array MethodInfo := #[]) (fl : Nat := 33) (sup : Nat := 0) (ifs : Array Nat := #[]) (fds : Array FieldInfo := #[]) : ClassFile where
  minorVersion := 0
  majorVersion := 65
  constantPool := pool
  accessFlags := fl
  thisClass := this
  superClass := sup
  interfaces := ifs
  fields := fds
  methods := ms
  attributes := attrs
def plain (name : String) (sup : Option ClassId) : Class where
  name := name
  kind := .ordinary
  loader := none
  accessFlags := 33
  super := sup
  interfaces := #[]
  cf := none
  fields := #[]
  methods := #[]
  instanceTypes := #[]
  staticTypes := #[]
  resolved := #[]
  callSites := []
  init := .initialized
  statics := none
  mirror := none

def pool0 : Array CpInfo := pool [(5, u "<init>"), (0, u "()V"), (1, .class_ 10), (1, u "java/lang/Object")] 113

def k0c0 : Code := { maxStack := 0, maxLocals := 1, code := object_method_1_code, exceptionTable := #[], attributes := #[] }
def k0m0 : Method := { name := "<init>", desc := "()V", sig := { parameters := [], returnType := none }, accessFlags := 1, code := some k0c0 }
/-- java/lang/Object -/
def k0 : Class := { plain "java/lang/Object" none with
  accessFlags := 33
  interfaces := #[]
  cf := some (fileOf pool0 8 #[] #[{ accessFlags := 1, nameIndex := 5, descriptorIndex := 6, attributes := #[] }] 33 0 #[] #[])
  fields := #[]
  methods := #[k0m0]
  instanceTypes := #[]
  staticTypes := #[]
  resolved := Array.replicate 124 none
  statics := none }

def pool1 : Array CpInfo := pool [(2, .class_ 4), (1, u "java/lang/Object"), (0, u "<init>"), (0, u "()V"), (0, .integer 2147483647), (0, .methodref 9 10), (0, .class_ 11), (0, .nameAndType 12 13), (0, u "com/example/vor/vor/index/DecoderReadNumberPinLaw"), (0, u "put"), (0, u "([BIIIJ)V"), (0, .class_ 15), (0, u "com/example/vor/vor/index/IndexFormat$Decoder"), (0, .methodref 14 17), (0, .nameAndType 5 18), (0, u "([BI)V"), (0, .methodref 14 20), (0, .nameAndType 21 22), (0, u "readNumber"), (0, u "()J"), (0, .methodref 14 24), (0, .nameAndType 25 26), (0, u "position"), (0, u "()I"), (0, .long 127), (3, u "law"), (0, u "(JIII)Z")] 9

def k1m0 : Method := { name := "<init>", desc := "()V", sig := { parameters := [], returnType := none }, accessFlags := 1, code := none }
def k1c1 : Code := { maxStack := 6, maxLocals := 13, code := code, exceptionTable := #[], attributes := #[] }
def k1m1 : Method := { name := "law", desc := "(JIII)Z", sig := { parameters := [.long, .int, .int, .int], returnType := some .boolean }, accessFlags := 9, code := some k1c1 }
def k1c2 : Code := { maxStack := 5, maxLocals := 7, code := method_3_code, exceptionTable := #[], attributes := #[] }
def k1m2 : Method := { name := "put", desc := "([BIIIJ)V", sig := { parameters := [(.array .byte), .int, .int, .int, .long], returnType := none }, accessFlags := 10, code := some k1c2 }
/-- com/example/vor/vor/index/DecoderReadNumberPinLaw -/
def k1 : Class := { plain "com/example/vor/vor/index/DecoderReadNumberPinLaw" (some 0) with
  accessFlags := 49
  interfaces := #[]
  cf := some (fileOf pool1 9 #[] #[{ accessFlags := 1, nameIndex := 5, descriptorIndex := 6, attributes := #[] }, { accessFlags := 9, nameIndex := 31, descriptorIndex := 32, attributes := #[] }, { accessFlags := 10, nameIndex := 12, descriptorIndex := 13, attributes := #[] }] 49 2 #[] #[])
  fields := #[]
  methods := #[k1m0, k1m1, k1m2]
  instanceTypes := #[]
  staticTypes := #[]
  resolved := Array.replicate 42 none
  statics := none }

def pool2 : Array CpInfo := pool [(1, .methodref 2 3), (0, .class_ 4), (0, .nameAndType 5 6), (0, u "java/lang/Object"), (0, u "<init>"), (0, u "()V"), (0, .fieldref 8 9), (0, .class_ 10), (0, .nameAndType 11 12), (0, u "com/example/vor/vor/index/IndexFormat$Decoder"), (0, u "bytes"), (0, u "[B"), (0, .fieldref 8 14), (0, .nameAndType 15 16), (0, u "position"), (0, u "I"), (2, u "readNumber"), (0, u "()J"), (9, u "()I"), (12, u "([BI)V"), (8, .class_ 53), (0, u "com/example/vor/vor/index/IndexFormat")] 2

def k2c0 : Code := { maxStack := 2, maxLocals := 3, code := prog_14_method_1_code, exceptionTable := #[], attributes := #[] }
def k2m0 : Method := { name := "<init>", desc := "([BI)V", sig := { parameters := [(.array .byte), .int], returnType := none }, accessFlags := 0, code := some k2c0 }
def k2c1 : Code := { maxStack := 1, maxLocals := 1, code := prog_14_method_2_code, exceptionTable := #[], attributes := #[] }
def k2m1 : Method := { name := "position", desc := "()I", sig := { parameters := [], returnType := some .int }, accessFlags := 0, code := some k2c1 }
def k2c2 : Code := { maxStack := 5, maxLocals := 5, code := prog_14_method_3_code, exceptionTable := #[], attributes := #[] }
def k2m2 : Method := { name := "readNumber", desc := "()J", sig := { parameters := [], returnType := some .long }, accessFlags := 0, code := some k2c2 }
/-- com/example/vor/vor/index/IndexFormat$Decoder -/
def k2 : Class := { plain "com/example/vor/vor/index/IndexFormat$Decoder" (some 0) with
  accessFlags := 48
  interfaces := #[]
  cf := some (fileOf pool2 8 #[.nestHost 52] #[{ accessFlags := 0, nameIndex := 5, descriptorIndex := 43, attributes := #[] }, { accessFlags := 0, nameIndex := 15, descriptorIndex := 30, attributes := #[] }, { accessFlags := 0, nameIndex := 19, descriptorIndex := 20, attributes := #[] }] 48 2 #[] #[{ accessFlags := 18, nameIndex := 11, descriptorIndex := 12, attributes := #[] }, { accessFlags := 2, nameIndex := 15, descriptorIndex := 16, attributes := #[] }])
  fields := #[{ name := "bytes", type := (.array .byte), accessFlags := 18, slot := 0, constantValue := 0 }, { name := "position", type := .int, accessFlags := 2, slot := 1, constantValue := 0 }]
  methods := #[k2m0, k2m1, k2m2]
  instanceTypes := #[(.array .byte), .int]
  staticTypes := #[]
  resolved := Array.replicate 56 none
  statics := none }

def pool3 : Array CpInfo := pool [(1, u "java/lang/Cloneable"), (0, .class_ 1), (0, u "java/lang/Object"), (0, .class_ 3)] 3

/-- java/lang/Cloneable -/
def k3 : Class := { plain "java/lang/Cloneable" (some 0) with
  accessFlags := 1537
  interfaces := #[]
  cf := some (fileOf pool3 2 #[] #[] 1537 4 #[] #[])
  fields := #[]
  methods := #[]
  instanceTypes := #[]
  staticTypes := #[]
  resolved := Array.replicate 8 none
  statics := none }

def pool4 : Array CpInfo := pool [(1, u "java/io/Serializable"), (0, .class_ 1), (0, u "java/lang/Object"), (0, .class_ 3)] 3

/-- java/io/Serializable -/
def k4 : Class := { plain "java/io/Serializable" (some 0) with
  accessFlags := 1537
  interfaces := #[]
  cf := some (fileOf pool4 2 #[] #[] 1537 4 #[] #[])
  fields := #[]
  methods := #[]
  instanceTypes := #[]
  staticTypes := #[]
  resolved := Array.replicate 8 none
  statics := none }

/-- the primitive byte -/
def k5 : Class := { plain "byte" none with kind := .primitive 'B', accessFlags := 0x411 }
/-- [B -/
def k6 : Class := { plain "[B" (some 0) with kind := .array 5 .byte, interfaces := #[3, 4], accessFlags := 1041 }

/-- the primitive int -/
def k7 : Class := { plain "int" none with kind := .primitive 'I', accessFlags := 0x411 }
/-- [I -/
def k8 : Class := { plain "[I" (some 0) with kind := .array 7 .int, interfaces := #[3, 4], accessFlags := 1041 }

def heap : Heap := #[]
def classes : Array Class := #[k0, k1, k2, k3, k4, k5, k6, k7, k8]
def interned : List (Array UInt16 × Addr) := []
def slotsUsed : Nat := 0
def theMethod : MethodId := ⟨1, 1⟩
def args0 : Array Value := #[.long 5, .int 3, .int 2, .int 77]
def aboutOver (below : List Frame) : State where
  vm := { classes := classes, interned := interned.toArray }
  heap := heap
  slotsUsed := slotsUsed
  threads := #[{ frames := .invoking theMethod args0 :: below }]
def below0 : List Frame := [.native { method := ⟨0, 0⟩, args := #[] }]
def about1 : State := aboutOver below0
def p0 : Program := .bare "" "" ""
def e0 : Env := launch0.env 0 0 0
theorem w_frames : about1.frames = Frame.invoking theMethod args0 :: below0 := rfl
set_option maxRecDepth 65536 in
theorem w_args : argsFit about1.vm theMethod args0 = true := by decide +kernel
set_option maxRecDepth 65536 in
theorem w_heap : heapFits about1 = true := by decide +kernel
set_option maxRecDepth 65536 in
theorem w_runnable : about1.curStatus? = some .runnable := by decide +kernel
set_option maxRecDepth 65536 in
theorem w_alone : about1.alone = true := by decide +kernel
set_option maxRecDepth 65536 in
theorem w_named : about1.methodNamed? x = some theMethod := by decide +kernel
set_option maxRecDepth 65536 in
theorem w_hears : about1.hears theMethod below0 = true := by decide +kernel
set_option maxRecDepth 65536 in
theorem w_ripe : about1.ripe theMethod args0 below0 = true := by decide +kernel
theorem w_running : about1.status = .running := rfl
set_option maxRecDepth 65536 in
theorem w_room : about1.hasRoom e0.platform room_1 = true :=
  launch0.hasRoom_least _ room_1 (by decide +kernel) (by decide +kernel) (by decide +kernel) (by decide +kernel) (by decide +kernel) (by decide +kernel)
theorem allAtoms_all (ts : List Jvm.Cond) (a : Array Jvm.Value) (st : Jvm.State) : (allAtoms ts).before a st = ts.all (fun c => c.before a st) := by
  induction ts with
  | nil => rfl
  | cons c t ih =>
    show (Jvm.Cond.and c (allAtoms t)).before a st = _
    rw [Jvm.Cond.before_and, ih, List.all_cons]
def words1 : List Jvm.Cond := Jvm.Cond.code x code maxLocals ret :: tables_1
/-- a 'code' word, met by the world's own term for the bytes: nothing is compared byte by byte -/
theorem code_word {y : MethodName} {bytes : ByteArray} {mx : Nat} {rt : Option FieldType} {a : Array Value} {s : State} {m : MethodId} {meth : Method} {c : Code} (h1 : s.methodNamed? y = some m) (h2 : s.vm.method? m = some meth) (h3 : meth.code = some c) (h4 : c.code = bytes)
    (h5 : (c.maxLocals == mx && c.exceptionTable.isEmpty && decide (c.maxStack ≤ mostOperands) && decide (meth.sig.returnType = rt) && !meth.locks && decide (parseMethodDescriptor y.desc = some meth.sig)) = true) : (Jvm.Cond.code y bytes mx rt).before a s = true := by
  simp only [Bool.and_eq_true, beq_iff_eq, Bool.not_eq_true', decide_eq_true_eq] at h5
  obtain ⟨⟨⟨⟨⟨g1, g2⟩, g3⟩, g4⟩, g5⟩, g6⟩ := h5
  simp [Cond.before, Cond.holds, Cond.value, h1, h2, h3, h4, g1, g2, g3, g4, g5, g6]
def isCode : Jvm.Cond → Bool
  | .code _ _ _ _ => true
  | _ => false
theorem all_split {L : List Jvm.Cond} {P : Jvm.Cond → Bool} (h1 : L.all (fun c => isCode c || P c) = true) (h2 : ∀ c ∈ L.filter isCode, P c = true) : L.all P = true := by
  refine List.all_eq_true.mpr fun c hc => ?_
  have h := List.all_eq_true.mp h1 c hc
  rcases Bool.eq_false_or_eq_true (isCode c) with hi | hi
  · exact h2 c (List.mem_filter.mpr ⟨hc, hi⟩)
  · simpa [hi] using h
set_option maxRecDepth 65536 in
theorem w_c0 : (Jvm.Cond.code x code maxLocals ret).before args0 about1 = true := code_word (m := ⟨1, 1⟩) (meth := k1m1) (c := k1c1) (by decide +kernel) rfl rfl rfl (by decide +kernel)
set_option maxRecDepth 65536 in
theorem w_c1 : (Jvm.Cond.code ({ cls := "com/example/vor/vor/index/DecoderReadNumberPinLaw", name := "put", desc := "([BIIIJ)V" } : Jvm.MethodName) method_3_code (7 : Nat) (Option.none : Option Jvm.ClassFile.FieldType)).before args0 about1 = true := code_word (m := ⟨1, 2⟩) (meth := k1m2) (c := k1c2) (by decide +kernel) rfl rfl rfl (by decide +kernel)
set_option maxRecDepth 65536 in
theorem w_c2 : (Jvm.Cond.code ({ cls := "com/example/vor/vor/index/IndexFormat$Decoder", name := "<init>", desc := "([BI)V" } : Jvm.MethodName) prog_14_method_1_code (3 : Nat) (Option.none : Option Jvm.ClassFile.FieldType)).before args0 about1 = true := code_word (m := ⟨2, 0⟩) (meth := k2m0) (c := k2c0) (by decide +kernel) rfl rfl rfl (by decide +kernel)
set_option maxRecDepth 65536 in
theorem w_c3 : (Jvm.Cond.code ({ cls := "java/lang/Object", name := "<init>", desc := "()V" } : Jvm.MethodName) object_method_1_code (1 : Nat) (Option.none : Option Jvm.ClassFile.FieldType)).before args0 about1 = true := code_word (m := ⟨0, 0⟩) (meth := k0m0) (c := k0c0) (by decide +kernel) rfl rfl rfl (by decide +kernel)
set_option maxRecDepth 65536 in
theorem w_c4 : (Jvm.Cond.code ({ cls := "com/example/vor/vor/index/IndexFormat$Decoder", name := "readNumber", desc := "()J" } : Jvm.MethodName) prog_14_method_3_code (5 : Nat) (Option.some Jvm.ClassFile.FieldType.long)).before args0 about1 = true := code_word (m := ⟨2, 2⟩) (meth := k2m2) (c := k2c2) (by decide +kernel) rfl rfl rfl (by decide +kernel)
set_option maxRecDepth 65536 in
theorem w_c5 : (Jvm.Cond.code ({ cls := "com/example/vor/vor/index/IndexFormat$Decoder", name := "position", desc := "()I" } : Jvm.MethodName) prog_14_method_2_code (1 : Nat) (Option.some Jvm.ClassFile.FieldType.int)).before args0 about1 = true := code_word (m := ⟨2, 1⟩) (meth := k2m1) (c := k2c1) (by decide +kernel) rfl rfl rfl (by decide +kernel)
def codes1 : List Jvm.Cond := [Jvm.Cond.code x code maxLocals ret, Jvm.Cond.code ({ cls := "com/example/vor/vor/index/DecoderReadNumberPinLaw", name := "put", desc := "([BIIIJ)V" } : Jvm.MethodName) method_3_code (7 : Nat) (Option.none : Option Jvm.ClassFile.FieldType), Jvm.Cond.code ({ cls := "com/example/vor/vor/index/IndexFormat$Decoder", name := "<init>", desc := "([BI)V" } : Jvm.MethodName) prog_14_method_1_code (3 : Nat) (Option.none : Option Jvm.ClassFile.FieldType), Jvm.Cond.code ({ cls := "java/lang/Object", name := "<init>", desc := "()V" } : Jvm.MethodName) object_method_1_code (1 : Nat) (Option.none : Option Jvm.ClassFile.FieldType), Jvm.Cond.code ({ cls := "com/example/vor/vor/index/IndexFormat$Decoder", name := "readNumber", desc := "()J" } : Jvm.MethodName) prog_14_method_3_code (5 : Nat) (Option.some Jvm.ClassFile.FieldType.long), Jvm.Cond.code ({ cls := "com/example/vor/vor/index/IndexFormat$Decoder", name := "position", desc := "()I" } : Jvm.MethodName) prog_14_method_2_code (1 : Nat) (Option.some Jvm.ClassFile.FieldType.int)]
set_option maxRecDepth 65536 in
theorem codes_eq : words1.filter isCode = codes1 := rfl
theorem w_codes : ∀ c ∈ words1.filter isCode, c.before args0 about1 = true := by
  rw [codes_eq]
  intro c hc
  simp only [codes1, List.mem_cons, List.not_mem_nil, or_false] at hc
  rcases hc with rfl | rfl | rfl | rfl | rfl | rfl
  · exact w_c0
  · exact w_c1
  · exact w_c2
  · exact w_c3
  · exact w_c4
  · exact w_c5
set_option maxRecDepth 65536 in
theorem w_t1 : (words1.take 24).all (fun c => isCode c || c.before args0 about1) = true := by decide +kernel
set_option maxRecDepth 65536 in
theorem w_t2 : (words1.drop 24).all (fun c => isCode c || c.before args0 about1) = true := by decide +kernel
theorem w_tables : (allAtoms (Jvm.Cond.code x code maxLocals ret :: tables_1)).before args0 about1 = true := by
  rw [allAtoms_all]
  show words1.all (fun c => c.before args0 about1) = true
  refine all_split ?_ w_codes
  rw [← List.take_append_drop 24 words1, List.all_append, w_t1, w_t2]
  rfl
set_option maxRecDepth 65536 in
theorem w_case : (Jvm.Cond.and given_1 narrow_1).before args0 about1 = true := by decide +kernel
theorem w_applies : (headSpec (Jvm.Cond.code x code maxLocals ret :: tables_1) room_1).applies x e0.platform about1 = true :=
  (Spec.applies_iff w_frames).mpr ⟨w_running, w_runnable, w_alone, w_named, w_hears, w_ripe, w_room, w_tables⟩
theorem atStart : AtStart classFile x code maxLocals ret World_1 tables_1 room_1 Calls_1 rest_1 Pre_1 launch0 p0 e0 about1 theMethod args0 below0 :=
  ⟨lists_1, trivial, launch0.admits_env _ _ _, launch0.least_env, fairChoices_fair.cas, fairChoices_fair.clock, w_frames, w_args, w_heap, w_applies, trivial, trivial, w_case⟩
end start1
theorem witness_1 : WitnessClaimed_1 := ⟨start1.p0, start1.e0, start1.about1, start1.theMethod, start1.args0, start1.below0, start1.atStart⟩
end Jvm.Pilot.@@N@@
