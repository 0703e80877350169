import JvmDerived
import JvmDerived.Pilot.@@N@@Statement
import JvmDerived.Pilot.@@N@@Code
set_option linter.unusedVariables false
set_option linter.unusedSimpArgs false
namespace Jvm.RoadKit
open Sem ClassFile Op Lib Jvm.Stand Jvm.Free Jvm.LawKit
section New
variable {p : Program} {l : Launch} {e : Env} {R : Room} {s : State} {m : MethodId} {args : Array Value} {below : List Frame} {meth : Method} {c : Code} {T : State} {locs : List Loc} {cells slots : Nat}
theorem retI (X : Stand p l e R s m args below meth c T locs cells slots) (hx : p.tables.exec = Jvm.exec) {pc : Nat} {Ls : Array Slot} {z : Int32} {rest : List Value} (hret : meth.sig.returnType = some .int) (hd : decode c.code pc = .ok (.ireturn, 1)) {fs : List Frame}
    (hl : ∀ (f : JFrame) (acts : List Action), f.method = m → f.locked = none → f.entered = [] → (doReturn e (T.setTop f) acts (some (.int z))).1 = T.setFrames fs) : Steps p.tables e below (T.setTop (mkF m pc Ls (.int z :: rest))) (T.setFrames fs) := by
  have hm' : T.vm.method? m = some meth := X.method'
  have hn : narrow .int (.int z) = .int z := rfl
  show Steps p.tables e below (T.setTop { method := m, pc := pc, locals := Ls, stack := _ :: rest, locked := none }) _
  jvm_step X.here [X.here.top, hx, hd, hm', hret, hn]
  first | (intro acts; rw [hl _ acts rfl rfl rfl]) | rw [hl _ _ rfl rfl rfl]
  exact Steps.refl _
end New
end Jvm.RoadKit
namespace Jvm.Pilot.@@N@@
open Jvm Jvm.ClassFile Sem Op Lib Jvm.Free Jvm.Stand Jvm.LawKit Jvm.RoadKit Bundle Jvm.Pilot.@@N@@.Jvm.D
/-! the plain law: the mixing of a long and its way back -/
def own_x (k : Int32) (z : Int64) : Int64 := z ^^^ ((z.toUInt64 >>> (k &&& 0x3f).toInt64.toUInt64).toInt64)
def own_y (k j : Int32) (z : Int64) : Int64 := (z ^^^ ((z.toUInt64 >>> (k &&& 0x3f).toInt64.toUInt64).toInt64)) ^^^ ((z.toUInt64 >>> (j &&& 0x3f).toInt64.toUInt64).toInt64)
def own_m1 (z : Int64) : Int64 := own_x (30 : Int32) z * (-4658895280553007687 : Int64)
def own_m2 (z : Int64) : Int64 := own_x (27 : Int32) (own_m1 z) * (-7723592293110705685 : Int64)
def own_mix (z : Int64) : Int64 := own_x (31 : Int32) (own_m2 z)
def own_n (c x : Int64) : Int64 := x * ((2 : Int64) - (c * x))
def own_inv (c : Int64) : Int64 := own_n c (own_n c (own_n c (own_n c (own_n c c))))
def own_a1 (y : Int64) : Int64 := own_y (31 : Int32) (62 : Int32) y
def own_b1 (y : Int64) : Int64 := own_a1 y * own_inv (-7723592293110705685 : Int64)
def own_a2 (y : Int64) : Int64 := own_y (27 : Int32) (54 : Int32) (own_b1 y)
def own_b2 (y : Int64) : Int64 := own_a2 y * own_inv (-4658895280553007687 : Int64)
def own_unmix (y : Int64) : Int64 := own_y (30 : Int32) (60 : Int32) (own_b2 y)
theorem own_bx (b : BitVec 64) (k : Nat) (hk : 64 ≤ 3 * k) : (b ^^^ (b >>> k)) ^^^ ((b ^^^ (b >>> k)) >>> k) ^^^ ((b ^^^ (b >>> k)) >>> (2 * k)) = b := by
  apply BitVec.eq_of_getLsbD_eq
  intro i hi
  have h : b.getLsbD (k + (2 * k + i)) = false := BitVec.getLsbD_of_ge _ _ (by omega)
  have e1 : k + (k + i) = 2 * k + i := by omega
  simp only [BitVec.getLsbD_xor, BitVec.getLsbD_ushiftRight, h, e1]
  generalize b.getLsbD i = u
  generalize b.getLsbD (k + i) = v
  generalize b.getLsbD (2 * k + i) = w
  cases u <;> cases v <;> cases w <;> rfl
theorem own_sh (z : Int64) (k : Int32) (n : Nat) (h : ((k &&& 0x3f).toInt64.toUInt64 % 64).toNat = n) : ((z.toUInt64 >>> (k &&& 0x3f).toInt64.toUInt64).toInt64).toBitVec = z.toBitVec >>> n := by
  subst h; rfl
theorem own_yx (z : Int64) (k j : Int32) (n : Nat) (hn : 64 ≤ 3 * n) (hk : ((k &&& 0x3f).toInt64.toUInt64 % 64).toNat = n) (hj : ((j &&& 0x3f).toInt64.toUInt64 % 64).toNat = 2 * n) : own_y k j (own_x k z) = z := by
  apply Int64.toBitVec_inj.mp
  have e := own_bx z.toBitVec n hn
  have e1 : (own_x k z).toBitVec = z.toBitVec ^^^ (z.toBitVec >>> n) := by
    show (z ^^^ _).toBitVec = _
    rw [Int64.toBitVec_xor, own_sh z k n hk]
  show (((own_x k z) ^^^ _) ^^^ _).toBitVec = _
  rw [Int64.toBitVec_xor, Int64.toBitVec_xor, own_sh _ k n hk, own_sh _ j (2 * n) hj, e1]
  exact e
theorem own_c1 : (-4658895280553007687 : Int64) * own_inv (-4658895280553007687 : Int64) = 1 := by decide +kernel
theorem own_c2 : (-7723592293110705685 : Int64) * own_inv (-7723592293110705685 : Int64) = 1 := by decide +kernel
theorem own_back (z : Int64) : own_unmix (own_mix z) = z := by
  have h1 : own_a1 (own_mix z) = own_m2 z := own_yx _ _ _ 31 (by decide) (by decide +kernel) (by decide +kernel)
  have h2 : own_b1 (own_mix z) = own_x (27 : Int32) (own_m1 z) := by
    show own_a1 (own_mix z) * _ = _
    rw [h1]
    show (own_x (27 : Int32) (own_m1 z) * _) * _ = _
    rw [Int64.mul_assoc, own_c2, Int64.mul_one]
  have h3 : own_a2 (own_mix z) = own_m1 z := by
    show own_y _ _ (own_b1 (own_mix z)) = _
    rw [h2]
    exact own_yx _ _ _ 27 (by decide) (by decide +kernel) (by decide +kernel)
  have h4 : own_b2 (own_mix z) = own_x (30 : Int32) z := by
    show own_a2 (own_mix z) * _ = _
    rw [h3]
    show (own_x (30 : Int32) z * _) * _ = _
    rw [Int64.mul_assoc, own_c1, Int64.mul_one]
  show own_y _ _ (own_b2 (own_mix z)) = _
  rw [h4]
  exact own_yx _ _ _ 30 (by decide) (by decide +kernel) (by decide +kernel)
theorem own_inj {a b : Int64} (h : own_mix a = own_mix b) : a = b := by
  rw [← own_back a, ← own_back b, h]
theorem own_same {a b : Int64} (h : lcmpW a b = (0 : Int32)) : lcmpW (own_mix (a + (-7046029254386353131 : Int64))) (own_mix (b + (-7046029254386353131 : Int64))) = (0 : Int32) := by
  rw [(lw_eq _ _).mp h]; exact (lw_eq _ _).mpr rfl
theorem own_diff {a b : Int64} (h : ¬ (lcmpW a b = (0 : Int32))) : ¬ (lcmpW (own_mix (a + (-7046029254386353131 : Int64))) (own_mix (b + (-7046029254386353131 : Int64))) = (0 : Int32)) := fun k =>
  h ((lw_eq _ _).mpr ((Int64.add_left_inj _).mp (own_inj ((lw_eq _ _).mp k))))
theorem own_known : lcmpW (own_mix ((0 : Int64) + (-7046029254386353131 : Int64))) (-2152535657050944081 : Int64) = (0 : Int32) := (lw_eq _ _).mpr (by decide +kernel)
theorem d1_0 : decode prog_55_method_1_code 0 = .ok (.aload_n 0, 1) := by decide +kernel
theorem d1_1 : decode prog_55_method_1_code 1 = .ok (.invokespecial 1, 3) := by decide +kernel
theorem d1_4 : decode prog_55_method_1_code 4 = .ok (.aload_n 0, 1) := by decide +kernel
theorem d1_5 : decode prog_55_method_1_code 5 = .ok (.lload_n 1, 1) := by decide +kernel
theorem d1_6 : decode prog_55_method_1_code 6 = .ok (.putfield 7, 3) := by decide +kernel
theorem d1_9 : decode prog_55_method_1_code 9 = .ok (.return_, 1) := by decide +kernel
theorem pn_1 : plainName "com/example/slotwise/slotwise/SplitMix64" = true := by first | (simp [plainName, overriddenIn]; done) | decide +kernel
theorem ef_1 (m : MethodId) (x0 : Addr) (x1 : Int64) : entryFrame m #[(.ref x0), (.long x1)] 3 = mkF m 0 #[.val (.ref x0), .val (.long x1), .second] [] := by first | (simp [entryFrame, mkF, argsToLocals, Value.category]; done) | rfl
def Q1 (Z : State) (a1 : Addr) (q2 : Int64) (u_state_a1 : Value) (h0 : Heap) (n0 : Nat) (v : Option Value) (h : Heap) (L : List Loc) : Prop := v = none ∧ Fr n0 L ∧ Keep h0 h [a1] ∧ Exa Z h a1 "com/example/slotwise/slotwise/SplitMix64" ∧ Fld Z h a1 "com/example/slotwise/slotwise/SplitMix64" "state" "J" (.long q2)
set_option maxRecDepth 65536 in
set_option maxHeartbeats 40000000 in
theorem rm1 (l : Launch) (Z : State) (a0 : Array Value) (hw : ∀ d ∈ tables_1, d.before a0 Z = true) (ws : List Jvm.Cond) (a1 : Addr) (q2 : Int64) (u_state_a1 : Value) (h0 : Heap) (n0 : Nat) (Z0 : n0 ≤ h0.size) (E_a1 : Exa Z h0 a1 "com/example/slotwise/slotwise/SplitMix64") (F_state_a1 : Fld Z h0 a1 "com/example/slotwise/slotwise/SplitMix64" "state" "J" u_state_a1) (g_a1 : n0 ≤ a1) :
    MetFree l (⟨"com/example/slotwise/slotwise/SplitMix64", "<init>", "(J)V"⟩ : MethodName) (head1 (Jvm.Cond.code (⟨"com/example/slotwise/slotwise/SplitMix64", "<init>", "(J)V"⟩ : MethodName) prog_55_method_1_code 3 none :: ws) ({ frames := 1, cells := 0, slots := 0, locals := 12 } : Room)) (fun a U => a = #[(.ref a1), (.long q2)] ∧ Z.Warmed39 U.vm ∧ U.heap = h0) (fun _ _ _ _ _ => True) (fun _ U o U' => ∃ v L, o = .returned v ∧ Q1 Z a1 q2 u_state_a1 h0 n0 v U'.heap L ∧ FrameEnd U o U' L ({ frames := 1, cells := 0, slots := 0, locals := 12 } : Room).cells ({ frames := 1, cells := 0, slots := 0, locals := 12 } : Room).slots) := by
  refine MetFree.of_bodySF (plainFor_of_name pn_1) hisR ?_
  intro p e s m args below meth c s₁ Bd hml0 hP hK
  obtain ⟨rfl, hZ, hh⟩ := hP
  have hx := Bd.exec
  have hby := Bd.bytes
  have hml : c.maxLocals = 3 := hml0
  have hown : s.vm.findClass "com/example/slotwise/slotwise/SplitMix64" = some m.cls := findClass_of_methodNamed Bd.named
  have hnm := (name_of_methodNamed Bd.named Bd.method).1
  have X0 : Stand p l e ({ frames := 1, cells := 0, slots := 0, locals := 12 } : Room) s m #[(.ref a1), (.long q2)] below meth c s₁ [] 0 0 := Stand.of_body Bd
  have e0 : s₁.heap = h0 := by rw [← hh, Bd.state]; rfl
  have N0 := Fr.nil n0
  have pre0 : ∀ t, Steps p.tables e below (s₁.setTop (mkF m 0 #[.val (.ref a1), .val (.long q2), .second] [])) t → Steps p.tables e below (s₁.setTop (entryFrame m #[(.ref a1), (.long q2)] 3)) t := fun t k => castTop (ef_1 m a1 q2) k
  obtain ⟨T3, X3, e3, st3⟩ := initO X0 hx hZ hown (hw _ (List.mem_of_getElem? (i := 6) rfl)) (hw _ (List.mem_of_getElem? (i := 7) rfl)) (hw _ (List.mem_of_getElem? (i := 8) rfl)) e0 (g := (mkF m 1 #[.val (.ref a1), .val (.long q2), .second] [(.ref a1)])) rfl (by rw [hml]; rfl) rfl (hb hby d1_1) (by decide) (W := 0) (by show 2 * 0 + _ ≤ _; exact Nat.le_of_eq rfl) (by decide)
  obtain ⟨T4, h4, X4, e4, W4, st4⟩ := putF X3 hx hZ hown (host := "") (Or.inl (hw _ (List.mem_of_getElem? (i := 9) rfl))) Via.refl e3 F_state_a1 E_a1 (Or.inl (hw _ (List.mem_of_getElem? (i := 10) rfl))) (hw _ (List.mem_of_getElem? (i := 1) rfl)) (ty := .long) (by decide) rfl rfl (g := (mkF m 6 #[.val (.ref a1), .val (.long q2), .second] [(.long q2), (.ref a1)])) rfl rfl (hb hby d1_6)
  have Fw4 := F_state_a1.same W4
  have K4 : Keep h0 h4 [a1] := (Keep.refl h0 [a1]).wr W4 (Or.inl (List.mem_of_getElem? (i := 0) rfl))
  have N4 := Fr.snoc X4 N0 g_a1
  obtain ⟨fs, hr, hrun, hended, hW, hsame⟩ := X4.leave (v := none) (fun _ => rfl)
  refine ⟨_, _, pre0 _ ?_, hrun, hended, _, _, rfl, ?_, ⟨_, rfl⟩, hW, hsame.mono (by decide) (by decide)⟩
  · show Steps p.tables e below (s₁.setTop (mkF m 0 #[.val (.ref a1), .val (.long q2), .second] [])) _
    refine XS.aloadN X0.here hx rfl (hb hby d1_0) rfl rfl ?_
    show Steps p.tables e below (s₁.setTop (mkF m 1 #[.val (.ref a1), .val (.long q2), .second] [(.ref a1)])) _
    refine st3 _ ?_
    show Steps p.tables e below (T3.setTop (mkF m 4 #[.val (.ref a1), .val (.long q2), .second] [])) _
    refine XS.aloadN X3.here hx rfl (hb hby d1_4) rfl rfl ?_
    show Steps p.tables e below (T3.setTop (mkF m 5 #[.val (.ref a1), .val (.long q2), .second] [(.ref a1)])) _
    refine XS.lloadN X3.here hx rfl (hb hby d1_5) rfl ?_
    show Steps p.tables e below (T3.setTop (mkF m 6 #[.val (.ref a1), .val (.long q2), .second] [(.long q2), (.ref a1)])) _
    refine st4 _ ?_
    show Steps p.tables e below (T4.setTop (mkF m 9 #[.val (.ref a1), .val (.long q2), .second] [])) _
    exact X4.returnOut hx Bd.returns (hb hby d1_9) hr
  · show Q1 Z a1 q2 u_state_a1 h0 n0 _ T4.heap _
    rw [e4]
    exact ⟨rfl, N4, K4, (E_a1.wr W4), Fw4⟩
theorem d3_0 : decode prog_55_method_2_code 0 = .ok (.aload_n 0, 1) := by decide +kernel
theorem d3_1 : decode prog_55_method_2_code 1 = .ok (.dup, 1) := by decide +kernel
theorem d3_2 : decode prog_55_method_2_code 2 = .ok (.getfield 7, 3) := by decide +kernel
theorem d3_5 : decode prog_55_method_2_code 5 = .ok (.ldc2_w 13, 3) := by decide +kernel
theorem d3_8 : decode prog_55_method_2_code 8 = .ok (.ladd, 1) := by decide +kernel
theorem d3_9 : decode prog_55_method_2_code 9 = .ok (.putfield 7, 3) := by decide +kernel
theorem d3_12 : decode prog_55_method_2_code 12 = .ok (.aload_n 0, 1) := by decide +kernel
theorem d3_13 : decode prog_55_method_2_code 13 = .ok (.getfield 7, 3) := by decide +kernel
theorem d3_16 : decode prog_55_method_2_code 16 = .ok (.lstore_n 1, 1) := by decide +kernel
theorem d3_17 : decode prog_55_method_2_code 17 = .ok (.lload_n 1, 1) := by decide +kernel
theorem d3_18 : decode prog_55_method_2_code 18 = .ok (.lload_n 1, 1) := by decide +kernel
theorem d3_19 : decode prog_55_method_2_code 19 = .ok (.bipush 30, 2) := by decide +kernel
theorem d3_21 : decode prog_55_method_2_code 21 = .ok (.lushr, 1) := by decide +kernel
theorem d3_22 : decode prog_55_method_2_code 22 = .ok (.lxor, 1) := by decide +kernel
theorem d3_23 : decode prog_55_method_2_code 23 = .ok (.ldc2_w 15, 3) := by decide +kernel
theorem d3_26 : decode prog_55_method_2_code 26 = .ok (.lmul, 1) := by decide +kernel
theorem d3_27 : decode prog_55_method_2_code 27 = .ok (.lstore_n 1, 1) := by decide +kernel
theorem d3_28 : decode prog_55_method_2_code 28 = .ok (.lload_n 1, 1) := by decide +kernel
theorem d3_29 : decode prog_55_method_2_code 29 = .ok (.lload_n 1, 1) := by decide +kernel
theorem d3_30 : decode prog_55_method_2_code 30 = .ok (.bipush 27, 2) := by decide +kernel
theorem d3_32 : decode prog_55_method_2_code 32 = .ok (.lushr, 1) := by decide +kernel
theorem d3_33 : decode prog_55_method_2_code 33 = .ok (.lxor, 1) := by decide +kernel
theorem d3_34 : decode prog_55_method_2_code 34 = .ok (.ldc2_w 17, 3) := by decide +kernel
theorem d3_37 : decode prog_55_method_2_code 37 = .ok (.lmul, 1) := by decide +kernel
theorem d3_38 : decode prog_55_method_2_code 38 = .ok (.lstore_n 1, 1) := by decide +kernel
theorem d3_39 : decode prog_55_method_2_code 39 = .ok (.lload_n 1, 1) := by decide +kernel
theorem d3_40 : decode prog_55_method_2_code 40 = .ok (.lload_n 1, 1) := by decide +kernel
theorem d3_41 : decode prog_55_method_2_code 41 = .ok (.bipush 31, 2) := by decide +kernel
theorem d3_43 : decode prog_55_method_2_code 43 = .ok (.lushr, 1) := by decide +kernel
theorem d3_44 : decode prog_55_method_2_code 44 = .ok (.lxor, 1) := by decide +kernel
theorem d3_45 : decode prog_55_method_2_code 45 = .ok (.lreturn, 1) := by decide +kernel
theorem pn_3 : plainName "com/example/slotwise/slotwise/SplitMix64" = true := by first | (simp [plainName, overriddenIn]; done) | decide +kernel
theorem ef_3 (m : MethodId) (x0 : Addr) : entryFrame m #[(.ref x0)] 3 = mkF m 0 #[.val (.ref x0), .unset, .unset] [] := by first | (simp [entryFrame, mkF, argsToLocals, Value.category]; done) | rfl
def Q3 (Z : State) (a1 : Addr) (w2 : Int64) (h0 : Heap) (n0 : Nat) (v : Option Value) (h : Heap) (L : List Loc) : Prop := v = some (.long (own_mix (w2 + (-7046029254386353131 : Int64)))) ∧ Fr n0 L ∧ Keep h0 h [a1] ∧ Exa Z h a1 "com/example/slotwise/slotwise/SplitMix64" ∧ Fld Z h a1 "com/example/slotwise/slotwise/SplitMix64" "state" "J" (.long (w2 + (-7046029254386353131 : Int64)))
set_option maxRecDepth 65536 in
set_option maxHeartbeats 40000000 in
theorem rm3 (l : Launch) (Z : State) (a0 : Array Value) (hw : ∀ d ∈ tables_1, d.before a0 Z = true) (ws : List Jvm.Cond) (a1 : Addr) (w2 : Int64) (h0 : Heap) (n0 : Nat) (Z0 : n0 ≤ h0.size) (F_state_a1 : Fld Z h0 a1 "com/example/slotwise/slotwise/SplitMix64" "state" "J" (.long w2)) (E_a1 : Exa Z h0 a1 "com/example/slotwise/slotwise/SplitMix64") (g_a1 : n0 ≤ a1) :
    MetFree l (⟨"com/example/slotwise/slotwise/SplitMix64", "nextLong", "()J"⟩ : MethodName) (head1 (Jvm.Cond.code (⟨"com/example/slotwise/slotwise/SplitMix64", "nextLong", "()J"⟩ : MethodName) prog_55_method_2_code 3 (some .long) :: ws) ({ frames := 0, cells := 0, slots := 0, locals := 0 } : Room)) (fun a U => a = #[(.ref a1)] ∧ Z.Warmed39 U.vm ∧ U.heap = h0) (fun _ _ _ _ _ => True) (fun _ U o U' => ∃ v L, o = .returned v ∧ Q3 Z a1 w2 h0 n0 v U'.heap L ∧ FrameEnd U o U' L ({ frames := 0, cells := 0, slots := 0, locals := 0 } : Room).cells ({ frames := 0, cells := 0, slots := 0, locals := 0 } : Room).slots) := by
  refine MetFree.of_bodySF (plainFor_of_name pn_3) hisR ?_
  intro p e s m args below meth c s₁ Bd hml0 hP hK
  obtain ⟨rfl, hZ, hh⟩ := hP
  have hx := Bd.exec
  have hby := Bd.bytes
  have hml : c.maxLocals = 3 := hml0
  have hown : s.vm.findClass "com/example/slotwise/slotwise/SplitMix64" = some m.cls := findClass_of_methodNamed Bd.named
  have hnm := (name_of_methodNamed Bd.named Bd.method).1
  have X0 : Stand p l e ({ frames := 0, cells := 0, slots := 0, locals := 0 } : Room) s m #[(.ref a1)] below meth c s₁ [] 0 0 := Stand.of_body Bd
  have e0 : s₁.heap = h0 := by rw [← hh, Bd.state]; rfl
  have N0 := Fr.nil n0
  have pre0 : ∀ t, Steps p.tables e below (s₁.setTop (mkF m 0 #[.val (.ref a1), .unset, .unset] [])) t → Steps p.tables e below (s₁.setTop (entryFrame m #[(.ref a1)] 3)) t := fun t k => castTop (ef_3 m a1) k
  obtain ⟨T3, X3, e3, st3⟩ := getF X0 hx hZ hown (host := "") (Or.inl (hw _ (List.mem_of_getElem? (i := 9) rfl))) Via.refl e0 F_state_a1 (g := (mkF m 2 #[.val (.ref a1), .unset, .unset] [(.ref a1), (.ref a1)])) rfl rfl (hb hby d3_2)
  obtain ⟨T4, h4, X4, e4, W4, st4⟩ := putF X3 hx hZ hown (host := "") (Or.inl (hw _ (List.mem_of_getElem? (i := 9) rfl))) Via.refl e3 F_state_a1 E_a1 (Or.inl (hw _ (List.mem_of_getElem? (i := 10) rfl))) (hw _ (List.mem_of_getElem? (i := 1) rfl)) (ty := .long) (by decide) rfl rfl (g := (mkF m 9 #[.val (.ref a1), .unset, .unset] [(.long (w2 + (-7046029254386353131 : Int64))), (.ref a1)])) rfl rfl (hb hby d3_9)
  have Fw4 := F_state_a1.same W4
  have K4 : Keep h0 h4 [a1] := (Keep.refl h0 [a1]).wr W4 (Or.inl (List.mem_of_getElem? (i := 0) rfl))
  have N4 := Fr.snoc X4 N0 g_a1
  obtain ⟨T5, X5, e5, st5⟩ := getF X4 hx hZ hown (host := "") (Or.inl (hw _ (List.mem_of_getElem? (i := 9) rfl))) Via.refl e4 Fw4 (g := (mkF m 13 #[.val (.ref a1), .unset, .unset] [(.ref a1)])) rfl rfl (hb hby d3_13)
  obtain ⟨fs, hr, hrun, hended, hW, hsame⟩ := X5.leave (v := some (.long (own_mix (w2 + (-7046029254386353131 : Int64))))) (fun h => by rw [Bd.returns] at h; cases h)
  refine ⟨_, _, pre0 _ ?_, hrun, hended, _, _, rfl, ?_, ⟨_, rfl⟩, hW, hsame.mono (by decide) (by decide)⟩
  · show Steps p.tables e below (s₁.setTop (mkF m 0 #[.val (.ref a1), .unset, .unset] [])) _
    refine XS.aloadN X0.here hx rfl (hb hby d3_0) rfl rfl ?_
    show Steps p.tables e below (s₁.setTop (mkF m 1 #[.val (.ref a1), .unset, .unset] [(.ref a1)])) _
    refine XS.dup X0.here hx rfl (hb hby d3_1) rfl rfl ?_
    show Steps p.tables e below (s₁.setTop (mkF m 2 #[.val (.ref a1), .unset, .unset] [(.ref a1), (.ref a1)])) _
    refine st3 _ ?_
    show Steps p.tables e below (T3.setTop (mkF m 5 #[.val (.ref a1), .unset, .unset] [(.long w2), (.ref a1)])) _
    refine X3.ldc2Long hx hown (mvT hZ (hw _ (List.mem_of_getElem? (i := 16) rfl))) (g := (mkF m 5 #[.val (.ref a1), .unset, .unset] [(.long w2), (.ref a1)])) rfl (hb hby d3_5) _ ?_
    show Steps p.tables e below (T3.setTop (mkF m 8 #[.val (.ref a1), .unset, .unset] [(.long (-7046029254386353131 : Int64)), (.long w2), (.ref a1)])) _
    refine XS.ladd X3.here hx rfl (hb hby d3_8) rfl ?_
    show Steps p.tables e below (T3.setTop (mkF m 9 #[.val (.ref a1), .unset, .unset] [(.long (w2 + (-7046029254386353131 : Int64))), (.ref a1)])) _
    refine st4 _ ?_
    show Steps p.tables e below (T4.setTop (mkF m 12 #[.val (.ref a1), .unset, .unset] [])) _
    refine XS.aloadN X4.here hx rfl (hb hby d3_12) rfl rfl ?_
    show Steps p.tables e below (T4.setTop (mkF m 13 #[.val (.ref a1), .unset, .unset] [(.ref a1)])) _
    refine st5 _ ?_
    show Steps p.tables e below (T5.setTop (mkF m 16 #[.val (.ref a1), .unset, .unset] [(.long (w2 + (-7046029254386353131 : Int64)))])) _
    refine XS.lstoreN X5.here hx rfl (hb hby d3_16) rfl (l' := #[.val (.ref a1), .val (.long (w2 + (-7046029254386353131 : Int64))), .second]) rfl ?_
    show Steps p.tables e below (T5.setTop (mkF m 17 #[.val (.ref a1), .val (.long (w2 + (-7046029254386353131 : Int64))), .second] [])) _
    refine XS.lloadN X5.here hx rfl (hb hby d3_17) rfl ?_
    show Steps p.tables e below (T5.setTop (mkF m 18 #[.val (.ref a1), .val (.long (w2 + (-7046029254386353131 : Int64))), .second] [(.long (w2 + (-7046029254386353131 : Int64)))])) _
    refine XS.lloadN X5.here hx rfl (hb hby d3_18) rfl ?_
    show Steps p.tables e below (T5.setTop (mkF m 19 #[.val (.ref a1), .val (.long (w2 + (-7046029254386353131 : Int64))), .second] [(.long (w2 + (-7046029254386353131 : Int64))), (.long (w2 + (-7046029254386353131 : Int64)))])) _
    refine XS.bipush X5.here hx rfl (hb hby d3_19) ?_
    show Steps p.tables e below (T5.setTop (mkF m 21 #[.val (.ref a1), .val (.long (w2 + (-7046029254386353131 : Int64))), .second] [(.int (30 : Int32)), (.long (w2 + (-7046029254386353131 : Int64))), (.long (w2 + (-7046029254386353131 : Int64)))])) _
    refine XS.lushr X5.here hx rfl (hb hby d3_21) rfl ?_
    show Steps p.tables e below (T5.setTop (mkF m 22 #[.val (.ref a1), .val (.long (w2 + (-7046029254386353131 : Int64))), .second] [(.long (((w2 + (-7046029254386353131 : Int64)).toUInt64 >>> ((30 : Int32) &&& 0x3f).toInt64.toUInt64).toInt64)), (.long (w2 + (-7046029254386353131 : Int64)))])) _
    refine XS.lxor X5.here hx rfl (hb hby d3_22) rfl ?_
    show Steps p.tables e below (T5.setTop (mkF m 23 #[.val (.ref a1), .val (.long (w2 + (-7046029254386353131 : Int64))), .second] [(.long ((w2 + (-7046029254386353131 : Int64)) ^^^ (((w2 + (-7046029254386353131 : Int64)).toUInt64 >>> ((30 : Int32) &&& 0x3f).toInt64.toUInt64).toInt64)))])) _
    refine X5.ldc2Long hx hown (mvT hZ (hw _ (List.mem_of_getElem? (i := 17) rfl))) (g := (mkF m 23 #[.val (.ref a1), .val (.long (w2 + (-7046029254386353131 : Int64))), .second] [(.long ((w2 + (-7046029254386353131 : Int64)) ^^^ (((w2 + (-7046029254386353131 : Int64)).toUInt64 >>> ((30 : Int32) &&& 0x3f).toInt64.toUInt64).toInt64)))])) rfl (hb hby d3_23) _ ?_
    show Steps p.tables e below (T5.setTop (mkF m 26 #[.val (.ref a1), .val (.long (w2 + (-7046029254386353131 : Int64))), .second] [(.long (-4658895280553007687 : Int64)), (.long ((w2 + (-7046029254386353131 : Int64)) ^^^ (((w2 + (-7046029254386353131 : Int64)).toUInt64 >>> ((30 : Int32) &&& 0x3f).toInt64.toUInt64).toInt64)))])) _
    refine XS.lmul X5.here hx rfl (hb hby d3_26) rfl ?_
    show Steps p.tables e below (T5.setTop (mkF m 27 #[.val (.ref a1), .val (.long (w2 + (-7046029254386353131 : Int64))), .second] [(.long (own_m1 (w2 + (-7046029254386353131 : Int64))))])) _
    refine XS.lstoreN X5.here hx rfl (hb hby d3_27) rfl (l' := #[.val (.ref a1), .val (.long (own_m1 (w2 + (-7046029254386353131 : Int64)))), .second]) rfl ?_
    show Steps p.tables e below (T5.setTop (mkF m 28 #[.val (.ref a1), .val (.long (own_m1 (w2 + (-7046029254386353131 : Int64)))), .second] [])) _
    refine XS.lloadN X5.here hx rfl (hb hby d3_28) rfl ?_
    show Steps p.tables e below (T5.setTop (mkF m 29 #[.val (.ref a1), .val (.long (own_m1 (w2 + (-7046029254386353131 : Int64)))), .second] [(.long (own_m1 (w2 + (-7046029254386353131 : Int64))))])) _
    refine XS.lloadN X5.here hx rfl (hb hby d3_29) rfl ?_
    show Steps p.tables e below (T5.setTop (mkF m 30 #[.val (.ref a1), .val (.long (own_m1 (w2 + (-7046029254386353131 : Int64)))), .second] [(.long (own_m1 (w2 + (-7046029254386353131 : Int64)))), (.long (own_m1 (w2 + (-7046029254386353131 : Int64))))])) _
    refine XS.bipush X5.here hx rfl (hb hby d3_30) ?_
    show Steps p.tables e below (T5.setTop (mkF m 32 #[.val (.ref a1), .val (.long (own_m1 (w2 + (-7046029254386353131 : Int64)))), .second] [(.int (27 : Int32)), (.long (own_m1 (w2 + (-7046029254386353131 : Int64)))), (.long (own_m1 (w2 + (-7046029254386353131 : Int64))))])) _
    refine XS.lushr X5.here hx rfl (hb hby d3_32) rfl ?_
    show Steps p.tables e below (T5.setTop (mkF m 33 #[.val (.ref a1), .val (.long (own_m1 (w2 + (-7046029254386353131 : Int64)))), .second] [(.long (((own_m1 (w2 + (-7046029254386353131 : Int64))).toUInt64 >>> ((27 : Int32) &&& 0x3f).toInt64.toUInt64).toInt64)), (.long (own_m1 (w2 + (-7046029254386353131 : Int64))))])) _
    refine XS.lxor X5.here hx rfl (hb hby d3_33) rfl ?_
    show Steps p.tables e below (T5.setTop (mkF m 34 #[.val (.ref a1), .val (.long (own_m1 (w2 + (-7046029254386353131 : Int64)))), .second] [(.long ((own_m1 (w2 + (-7046029254386353131 : Int64))) ^^^ (((own_m1 (w2 + (-7046029254386353131 : Int64))).toUInt64 >>> ((27 : Int32) &&& 0x3f).toInt64.toUInt64).toInt64)))])) _
    refine X5.ldc2Long hx hown (mvT hZ (hw _ (List.mem_of_getElem? (i := 18) rfl))) (g := (mkF m 34 #[.val (.ref a1), .val (.long (own_m1 (w2 + (-7046029254386353131 : Int64)))), .second] [(.long ((own_m1 (w2 + (-7046029254386353131 : Int64))) ^^^ (((own_m1 (w2 + (-7046029254386353131 : Int64))).toUInt64 >>> ((27 : Int32) &&& 0x3f).toInt64.toUInt64).toInt64)))])) rfl (hb hby d3_34) _ ?_
    show Steps p.tables e below (T5.setTop (mkF m 37 #[.val (.ref a1), .val (.long (own_m1 (w2 + (-7046029254386353131 : Int64)))), .second] [(.long (-7723592293110705685 : Int64)), (.long ((own_m1 (w2 + (-7046029254386353131 : Int64))) ^^^ (((own_m1 (w2 + (-7046029254386353131 : Int64))).toUInt64 >>> ((27 : Int32) &&& 0x3f).toInt64.toUInt64).toInt64)))])) _
    refine XS.lmul X5.here hx rfl (hb hby d3_37) rfl ?_
    show Steps p.tables e below (T5.setTop (mkF m 38 #[.val (.ref a1), .val (.long (own_m1 (w2 + (-7046029254386353131 : Int64)))), .second] [(.long (own_m2 (w2 + (-7046029254386353131 : Int64))))])) _
    refine XS.lstoreN X5.here hx rfl (hb hby d3_38) rfl (l' := #[.val (.ref a1), .val (.long (own_m2 (w2 + (-7046029254386353131 : Int64)))), .second]) rfl ?_
    show Steps p.tables e below (T5.setTop (mkF m 39 #[.val (.ref a1), .val (.long (own_m2 (w2 + (-7046029254386353131 : Int64)))), .second] [])) _
    refine XS.lloadN X5.here hx rfl (hb hby d3_39) rfl ?_
    show Steps p.tables e below (T5.setTop (mkF m 40 #[.val (.ref a1), .val (.long (own_m2 (w2 + (-7046029254386353131 : Int64)))), .second] [(.long (own_m2 (w2 + (-7046029254386353131 : Int64))))])) _
    refine XS.lloadN X5.here hx rfl (hb hby d3_40) rfl ?_
    show Steps p.tables e below (T5.setTop (mkF m 41 #[.val (.ref a1), .val (.long (own_m2 (w2 + (-7046029254386353131 : Int64)))), .second] [(.long (own_m2 (w2 + (-7046029254386353131 : Int64)))), (.long (own_m2 (w2 + (-7046029254386353131 : Int64))))])) _
    refine XS.bipush X5.here hx rfl (hb hby d3_41) ?_
    show Steps p.tables e below (T5.setTop (mkF m 43 #[.val (.ref a1), .val (.long (own_m2 (w2 + (-7046029254386353131 : Int64)))), .second] [(.int (31 : Int32)), (.long (own_m2 (w2 + (-7046029254386353131 : Int64)))), (.long (own_m2 (w2 + (-7046029254386353131 : Int64))))])) _
    refine XS.lushr X5.here hx rfl (hb hby d3_43) rfl ?_
    show Steps p.tables e below (T5.setTop (mkF m 44 #[.val (.ref a1), .val (.long (own_m2 (w2 + (-7046029254386353131 : Int64)))), .second] [(.long (((own_m2 (w2 + (-7046029254386353131 : Int64))).toUInt64 >>> ((31 : Int32) &&& 0x3f).toInt64.toUInt64).toInt64)), (.long (own_m2 (w2 + (-7046029254386353131 : Int64))))])) _
    refine XS.lxor X5.here hx rfl (hb hby d3_44) rfl ?_
    show Steps p.tables e below (T5.setTop (mkF m 45 #[.val (.ref a1), .val (.long (own_m2 (w2 + (-7046029254386353131 : Int64)))), .second] [(.long (own_mix (w2 + (-7046029254386353131 : Int64))))])) _
    jvm_step X5.here [X5.here.top, hx, (hb hby d3_45), X5.method', Bd.returns, narrow]
    first | (intro acts; rw [hr _ acts rfl rfl rfl]) | rw [hr _ _ rfl rfl rfl]
    exact Steps.refl _
  · show Q3 Z a1 w2 h0 n0 _ T5.heap _
    rw [e5]
    exact ⟨rfl, N4, K4, (E_a1.wr W4), Fw4⟩
theorem pn_0 : plainName "com/example/slotwise/slotwise/SplitMix64NextLongPinLaw" = true := by first | (simp [plainName, overriddenIn]; done) | decide +kernel
theorem pd_0_0 : parseMethodDescriptor "(J)V" = some ⟨[.long], none⟩ := by decide +kernel
theorem pd_0_2 : parseMethodDescriptor "()J" = some ⟨[], some .long⟩ := by decide +kernel
theorem ef_0 (m : MethodId) (x0 : Int64) (x1 : Int64) : entryFrame m #[(.long x0), (.long x1)] maxLocals = mkF m 0 #[.val (.long x0), .second, .val (.long x1), .second, .unset, .unset, .unset, .unset, .unset, .unset, .unset, .unset, .unset, .unset, .unset, .unset, .unset, .unset, .unset, .unset, .unset] [] := by first | (simp [entryFrame, mkF, argsToLocals, Value.category, maxLocals]; done) | rfl
def Q0 (Z : State) (q1 : Int64) (q2 : Int64) (h0 : Heap) (n0 : Nat) (v : Option Value) (h : Heap) (L : List Loc) : Prop := v = some (.int (1 : Int32)) ∧ Fr n0 L
set_option maxRecDepth 65536 in
set_option maxHeartbeats 40000000 in
theorem rm0a (l : Launch) (Z : State) (a0 : Array Value) (hw : ∀ d ∈ tables_1, d.before a0 Z = true) (ws : List Jvm.Cond) (q1 : Int64) (q2 : Int64) (h0 : Heap) (n0 : Nat) (Z0 : n0 ≤ h0.size) (hc97 : (lcmpW q1 q2) = (0 : Int32)) (hc146 : ¬ ((1 : Int32) = (0 : Int32))) (hc151 : ¬ ((1 : Int32) = (0 : Int32))) (hc156 : ¬ ((1 : Int32) = (0 : Int32))) :
    MetFree l x (head1 (Jvm.Cond.code x code maxLocals ret :: ws) room_1) (fun a U => a = #[(.long q1), (.long q2)] ∧ Z.Warmed39 U.vm ∧ U.heap = h0) (fun _ _ _ _ _ => True) (fun _ U o U' => ∃ v L, o = .returned v ∧ Q0 Z q1 q2 h0 n0 v U'.heap L ∧ FrameEnd U o U' L room_1.cells room_1.slots) := by
  refine MetFree.of_bodySF (plainFor_of_name pn_0) hisR ?_
  intro p e s m args below meth c s₁ Bd hml0 hP hK
  obtain ⟨rfl, hZ, hh⟩ := hP
  have hx := Bd.exec
  have hby := Bd.bytes
  have hml : c.maxLocals = 21 := hml0
  have hown : s.vm.findClass "com/example/slotwise/slotwise/SplitMix64NextLongPinLaw" = some m.cls := findClass_of_methodNamed Bd.named
  have hnm := (name_of_methodNamed Bd.named Bd.method).1
  have X0 : Stand p l e room_1 s m #[(.long q1), (.long q2)] below meth c s₁ [] 0 0 := Stand.of_body Bd
  have e0 : s₁.heap = h0 := by rw [← hh, Bd.state]; rfl
  have N0 := Fr.nil n0
  have pre0 : ∀ t, Steps p.tables e below (s₁.setTop (mkF m 0 #[.val (.long q1), .second, .val (.long q2), .second, .unset, .unset, .unset, .unset, .unset, .unset, .unset, .unset, .unset, .unset, .unset, .unset, .unset, .unset, .unset, .unset, .unset] [])) t → Steps p.tables e below (s₁.setTop (entryFrame m #[(.long q1), (.long q2)] maxLocals)) t := fun t k => castTop (ef_0 m q1 q2) k
  obtain ⟨T3, h3, X3, e3, E3, A3, D3, -, st3⟩ := newO X0 hx hZ hown (hw _ (List.mem_of_getElem? (i := 0) rfl)) (hw _ (List.mem_of_getElem? (i := 1) rfl)) (hw _ (List.mem_of_getElem? (i := 2) rfl)) e0 (g := (mkF m 0 #[.val (.long q1), .second, .val (.long q2), .second, .unset, .unset, .unset, .unset, .unset, .unset, .unset, .unset, .unset, .unset, .unset, .unset, .unset, .unset, .unset, .unset, .unset] [])) rfl (hb hby at_0) (by decide) (by decide)
  obtain ⟨b3, g3⟩ : ∃ z, z = h0.size := ⟨_, rfl⟩
  have Zs3 := Nat.le_trans Z0 E3.1
  rw [← g3] at A3 D3 st3
  have F_state_b3 : Fld Z h3 b3 "com/example/slotwise/slotwise/SplitMix64" "state" "J" (.long (0 : Int64)) := D3 (Or.inl (hw _ (List.mem_of_getElem? (i := 10) rfl))) (ty := .long) (by decide)
  have E_b3 := A3
  have g_b3 : n0 ≤ b3 := Nat.le_trans Z0 (Nat.le_of_eq g3.symm)
  obtain ⟨_, _, ⟨T4, L4, k4, n4⟩, -, X4, ⟨Lc4, hQ4, l4, y4, z4⟩, st4⟩ := X3.specialBack hx (y := (⟨"com/example/slotwise/slotwise/SplitMix64", "<init>", "(J)V"⟩ : MethodName)) rfl hown (mvT hZ (hw _ (List.mem_of_getElem? (i := 3) rfl))) (mvT hZ (hw _ (List.mem_of_getElem? (i := 4) rfl))) (mvT hZ (hw _ (List.mem_of_getElem? (i := 5) rfl))) (by decide) (backOf (W := 1) (rm1 l Z a0 hw [] b3 q1 _ h3 n0 Zs3 E_b3 F_state_b3 g_b3) hZ (hw _ (List.mem_of_getElem? (i := 5) rfl)) (hw _ (List.mem_of_getElem? (i := 2) rfl)) (by decide) (by decide)) (g := (mkF m 5 #[.val (.long q1), .second, .val (.long q2), .second, .unset, .unset, .unset, .unset, .unset, .unset, .unset, .unset, .unset, .unset, .unset, .unset, .unset, .unset, .unset, .unset, .unset] [(.long q1), (.ref b3), (.ref b3)])) rfl (by rw [hml]; rfl) (Steps.refl _) (a := b3) (argsL := [(.long q1)]) (rest := [(.ref b3)]) (lenOf pd_0_0 rfl) rfl (by show 2 * 0 + _ ≤ _; exact Nat.le_of_eq rfl) (hb hby at_5) (fun _ _ => ⟨rfl, e3, (by decide : 1 + 0 ≤ _), (by decide : 1 + 0 ≤ _)⟩)
  dsimp only [Pt.U, Pt.locs, Pt.cells, Pt.slots] at X4 l4 y4 z4 st4 hQ4
  subst l4 y4 z4
  obtain ⟨rfl, N4q, Kc4, Ex4, Fl4⟩ := hQ4
  have N4 := Fr.app N0 N4q
  have Zc4 := Kc4.1
  have Zs4 := Nat.le_trans Zs3 Zc4
  obtain ⟨cq5, kq5, q5a, q5b, q5c⟩ := isOf hZ rfl (E_b3.keep Kc4)
  obtain ⟨_, _, ⟨T5, L5, k5, n5⟩, -, X5, ⟨Lc5, hQ5, l5, y5, z5⟩, st5⟩ := X4.virtualBack hx (y := (⟨"com/example/slotwise/slotwise/SplitMix64", "nextLong", "()J"⟩ : MethodName)) (z := (⟨"com/example/slotwise/slotwise/SplitMix64", "nextLong", "()J"⟩ : MethodName)) hown (mvT hZ (hw _ (List.mem_of_getElem? (i := 11) rfl))) (mvT hZ (hw _ (List.mem_of_getElem? (i := 12) rfl))) (notFace_of_selects (args := #[]) (mvT hZ (hw _ (List.mem_of_getElem? (i := 14) rfl)))) (mvT hZ (hw _ (List.mem_of_getElem? (i := 14) rfl))) (mvT hZ (hw _ (List.mem_of_getElem? (i := 13) rfl))) (by decide) (backOf (W := 0) (rm3 l Z a0 hw [] b3 q1 T4.heap n0 Zs4 Fl4 Ex4 g_b3) hZ (hw _ (List.mem_of_getElem? (i := 15) rfl)) (hw _ (List.mem_of_getElem? (i := 2) rfl)) (by decide) (by decide)) q5a q5c (g := (mkF m 12 #[.val (.long q1), .second, .val (.long q2), .second, .val (.ref b3), .unset, .unset, .unset, .unset, .unset, .unset, .unset, .unset, .unset, .unset, .unset, .unset, .unset, .unset, .unset, .unset] [(.ref b3)])) rfl (by rw [hml]; rfl) (Steps.refl _) (argsL := []) (rest := []) (lenOf pd_0_2 rfl) rfl (by show 2 * 0 + _ ≤ _; exact Nat.le_of_eq rfl) (hb hby at_12) (fun _ _ => ⟨rfl, rfl, (by decide : 1 + 0 ≤ _), (by decide : 1 + 0 ≤ _)⟩)
  dsimp only [Pt.U, Pt.locs, Pt.cells, Pt.slots] at X5 l5 y5 z5 st5 hQ5
  subst l5 y5 z5
  obtain ⟨rfl, N5q, Kc5, Ex5, Fl5⟩ := hQ5
  have N5 := Fr.app N4 N5q
  have Zc5 := Kc5.1
  have Zs5 := Nat.le_trans Zs4 Zc5
  obtain ⟨cq6, kq6, q6a, q6b, q6c⟩ := isOf hZ rfl ((E_b3.keep Kc4).keep Kc5)
  obtain ⟨_, _, ⟨T6, L6, k6, n6⟩, -, X6, ⟨Lc6, hQ6, l6, y6, z6⟩, st6⟩ := X5.virtualBack hx (y := (⟨"com/example/slotwise/slotwise/SplitMix64", "nextLong", "()J"⟩ : MethodName)) (z := (⟨"com/example/slotwise/slotwise/SplitMix64", "nextLong", "()J"⟩ : MethodName)) hown (mvT hZ (hw _ (List.mem_of_getElem? (i := 11) rfl))) (mvT hZ (hw _ (List.mem_of_getElem? (i := 12) rfl))) (notFace_of_selects (args := #[]) (mvT hZ (hw _ (List.mem_of_getElem? (i := 14) rfl)))) (mvT hZ (hw _ (List.mem_of_getElem? (i := 14) rfl))) (mvT hZ (hw _ (List.mem_of_getElem? (i := 13) rfl))) (by decide) (backOf (W := 0) (rm3 l Z a0 hw [] b3 (q1 + (-7046029254386353131 : Int64)) T5.heap n0 Zs5 Fl5 Ex5 g_b3) hZ (hw _ (List.mem_of_getElem? (i := 15) rfl)) (hw _ (List.mem_of_getElem? (i := 2) rfl)) (by decide) (by decide)) q6a q6c (g := (mkF m 19 #[.val (.long q1), .second, .val (.long q2), .second, .val (.ref b3), .val (.long (own_mix (q1 + (-7046029254386353131 : Int64)))), .second, .unset, .unset, .unset, .unset, .unset, .unset, .unset, .unset, .unset, .unset, .unset, .unset, .unset, .unset] [(.ref b3)])) rfl (by rw [hml]; rfl) (Steps.refl _) (argsL := []) (rest := []) (lenOf pd_0_2 rfl) rfl (by show 2 * 0 + _ ≤ _; exact Nat.le_of_eq rfl) (hb hby at_19) (fun _ _ => ⟨rfl, rfl, (by decide : 1 + 0 ≤ _), (by decide : 1 + 0 ≤ _)⟩)
  dsimp only [Pt.U, Pt.locs, Pt.cells, Pt.slots] at X6 l6 y6 z6 st6 hQ6
  subst l6 y6 z6
  obtain ⟨rfl, N6q, Kc6, Ex6, Fl6⟩ := hQ6
  have N6 := Fr.app N5 N6q
  have Zc6 := Kc6.1
  have Zs6 := Nat.le_trans Zs5 Zc6
  obtain ⟨T7, h7, X7, e7, E7, A7, D7, -, st7⟩ := newO X6 hx hZ hown (hw _ (List.mem_of_getElem? (i := 0) rfl)) (hw _ (List.mem_of_getElem? (i := 1) rfl)) (hw _ (List.mem_of_getElem? (i := 2) rfl)) rfl (g := (mkF m 24 #[.val (.long q1), .second, .val (.long q2), .second, .val (.ref b3), .val (.long (own_mix (q1 + (-7046029254386353131 : Int64)))), .second, .val (.long (own_mix ((q1 + (-7046029254386353131 : Int64)) + (-7046029254386353131 : Int64)))), .second, .unset, .unset, .unset, .unset, .unset, .unset, .unset, .unset, .unset, .unset, .unset, .unset] [])) rfl (hb hby at_24) (by decide) (by decide)
  obtain ⟨b7, g7⟩ : ∃ z, z = T6.heap.size := ⟨_, rfl⟩
  have Zs7 := Nat.le_trans Zs6 E7.1
  rw [← g7] at A7 D7 st7
  have F_state_b7 : Fld Z h7 b7 "com/example/slotwise/slotwise/SplitMix64" "state" "J" (.long (0 : Int64)) := D7 (Or.inl (hw _ (List.mem_of_getElem? (i := 10) rfl))) (ty := .long) (by decide)
  have E_b7 := A7
  have g_b7 : n0 ≤ b7 := Nat.le_trans (Nat.le_trans (Nat.le_trans (Nat.le_trans (Nat.le_trans Z0 E3.1) Zc4) Zc5) Zc6) (Nat.le_of_eq g7.symm)
  obtain ⟨_, _, ⟨T8, L8, k8, n8⟩, -, X8, ⟨Lc8, hQ8, l8, y8, z8⟩, st8⟩ := X7.specialBack hx (y := (⟨"com/example/slotwise/slotwise/SplitMix64", "<init>", "(J)V"⟩ : MethodName)) rfl hown (mvT hZ (hw _ (List.mem_of_getElem? (i := 3) rfl))) (mvT hZ (hw _ (List.mem_of_getElem? (i := 4) rfl))) (mvT hZ (hw _ (List.mem_of_getElem? (i := 5) rfl))) (by decide) (backOf (W := 1) (rm1 l Z a0 hw [] b7 (q1 + (-7046029254386353131 : Int64)) _ h7 n0 Zs7 E_b7 F_state_b7 g_b7) hZ (hw _ (List.mem_of_getElem? (i := 5) rfl)) (hw _ (List.mem_of_getElem? (i := 2) rfl)) (by decide) (by decide)) (g := (mkF m 33 #[.val (.long q1), .second, .val (.long q2), .second, .val (.ref b3), .val (.long (own_mix (q1 + (-7046029254386353131 : Int64)))), .second, .val (.long (own_mix ((q1 + (-7046029254386353131 : Int64)) + (-7046029254386353131 : Int64)))), .second, .unset, .unset, .unset, .unset, .unset, .unset, .unset, .unset, .unset, .unset, .unset, .unset] [(.long (q1 + (-7046029254386353131 : Int64))), (.ref b7), (.ref b7)])) rfl (by rw [hml]; rfl) (Steps.refl _) (a := b7) (argsL := [(.long (q1 + (-7046029254386353131 : Int64)))]) (rest := [(.ref b7)]) (lenOf pd_0_0 rfl) rfl (by show 2 * 0 + _ ≤ _; exact Nat.le_of_eq rfl) (hb hby at_33) (fun _ _ => ⟨rfl, e7, (by decide : 2 + 0 ≤ _), (by decide : 2 + 0 ≤ _)⟩)
  dsimp only [Pt.U, Pt.locs, Pt.cells, Pt.slots] at X8 l8 y8 z8 st8 hQ8
  subst l8 y8 z8
  obtain ⟨rfl, N8q, Kc8, Ex8, Fl8⟩ := hQ8
  have N8 := Fr.app N6 N8q
  have Zc8 := Kc8.1
  have Zs8 := Nat.le_trans Zs7 Zc8
  obtain ⟨cq9, kq9, q9a, q9b, q9c⟩ := isOf hZ rfl (E_b7.keep Kc8)
  obtain ⟨_, _, ⟨T9, L9, k9, n9⟩, -, X9, ⟨Lc9, hQ9, l9, y9, z9⟩, st9⟩ := X8.virtualBack hx (y := (⟨"com/example/slotwise/slotwise/SplitMix64", "nextLong", "()J"⟩ : MethodName)) (z := (⟨"com/example/slotwise/slotwise/SplitMix64", "nextLong", "()J"⟩ : MethodName)) hown (mvT hZ (hw _ (List.mem_of_getElem? (i := 11) rfl))) (mvT hZ (hw _ (List.mem_of_getElem? (i := 12) rfl))) (notFace_of_selects (args := #[]) (mvT hZ (hw _ (List.mem_of_getElem? (i := 14) rfl)))) (mvT hZ (hw _ (List.mem_of_getElem? (i := 14) rfl))) (mvT hZ (hw _ (List.mem_of_getElem? (i := 13) rfl))) (by decide) (backOf (W := 0) (rm3 l Z a0 hw [] b7 (q1 + (-7046029254386353131 : Int64)) T8.heap n0 Zs8 Fl8 Ex8 g_b7) hZ (hw _ (List.mem_of_getElem? (i := 15) rfl)) (hw _ (List.mem_of_getElem? (i := 2) rfl)) (by decide) (by decide)) q9a q9c (g := (mkF m 40 #[.val (.long q1), .second, .val (.long q2), .second, .val (.ref b3), .val (.long (own_mix (q1 + (-7046029254386353131 : Int64)))), .second, .val (.long (own_mix ((q1 + (-7046029254386353131 : Int64)) + (-7046029254386353131 : Int64)))), .second, .val (.ref b7), .unset, .unset, .unset, .unset, .unset, .unset, .unset, .unset, .unset, .unset, .unset] [(.ref b7)])) rfl (by rw [hml]; rfl) (Steps.refl _) (argsL := []) (rest := []) (lenOf pd_0_2 rfl) rfl (by show 2 * 0 + _ ≤ _; exact Nat.le_of_eq rfl) (hb hby at_40) (fun _ _ => ⟨rfl, rfl, (by decide : 2 + 0 ≤ _), (by decide : 2 + 0 ≤ _)⟩)
  dsimp only [Pt.U, Pt.locs, Pt.cells, Pt.slots] at X9 l9 y9 z9 st9 hQ9
  subst l9 y9 z9
  obtain ⟨rfl, N9q, Kc9, Ex9, Fl9⟩ := hQ9
  have N9 := Fr.app N8 N9q
  have Zc9 := Kc9.1
  have Zs9 := Nat.le_trans Zs8 Zc9
  obtain ⟨T10, h10, X10, e10, E10, A10, D10, -, st10⟩ := newO X9 hx hZ hown (hw _ (List.mem_of_getElem? (i := 0) rfl)) (hw _ (List.mem_of_getElem? (i := 1) rfl)) (hw _ (List.mem_of_getElem? (i := 2) rfl)) rfl (g := (mkF m 45 #[.val (.long q1), .second, .val (.long q2), .second, .val (.ref b3), .val (.long (own_mix (q1 + (-7046029254386353131 : Int64)))), .second, .val (.long (own_mix ((q1 + (-7046029254386353131 : Int64)) + (-7046029254386353131 : Int64)))), .second, .val (.ref b7), .val (.long (own_mix ((q1 + (-7046029254386353131 : Int64)) + (-7046029254386353131 : Int64)))), .second, .unset, .unset, .unset, .unset, .unset, .unset, .unset, .unset, .unset] [])) rfl (hb hby at_45) (by decide) (by decide)
  obtain ⟨b10, g10⟩ : ∃ z, z = T9.heap.size := ⟨_, rfl⟩
  have Zs10 := Nat.le_trans Zs9 E10.1
  rw [← g10] at A10 D10 st10
  have F_state_b10 : Fld Z h10 b10 "com/example/slotwise/slotwise/SplitMix64" "state" "J" (.long (0 : Int64)) := D10 (Or.inl (hw _ (List.mem_of_getElem? (i := 10) rfl))) (ty := .long) (by decide)
  have E_b10 := A10
  have g_b10 : n0 ≤ b10 := Nat.le_trans (Nat.le_trans (Nat.le_trans (Nat.le_trans (Nat.le_trans (Nat.le_trans (Nat.le_trans (Nat.le_trans Z0 E3.1) Zc4) Zc5) Zc6) E7.1) Zc8) Zc9) (Nat.le_of_eq g10.symm)
  obtain ⟨_, _, ⟨T11, L11, k11, n11⟩, -, X11, ⟨Lc11, hQ11, l11, y11, z11⟩, st11⟩ := X10.specialBack hx (y := (⟨"com/example/slotwise/slotwise/SplitMix64", "<init>", "(J)V"⟩ : MethodName)) rfl hown (mvT hZ (hw _ (List.mem_of_getElem? (i := 3) rfl))) (mvT hZ (hw _ (List.mem_of_getElem? (i := 4) rfl))) (mvT hZ (hw _ (List.mem_of_getElem? (i := 5) rfl))) (by decide) (backOf (W := 1) (rm1 l Z a0 hw [] b10 q2 _ h10 n0 Zs10 E_b10 F_state_b10 g_b10) hZ (hw _ (List.mem_of_getElem? (i := 5) rfl)) (hw _ (List.mem_of_getElem? (i := 2) rfl)) (by decide) (by decide)) (g := (mkF m 50 #[.val (.long q1), .second, .val (.long q2), .second, .val (.ref b3), .val (.long (own_mix (q1 + (-7046029254386353131 : Int64)))), .second, .val (.long (own_mix ((q1 + (-7046029254386353131 : Int64)) + (-7046029254386353131 : Int64)))), .second, .val (.ref b7), .val (.long (own_mix ((q1 + (-7046029254386353131 : Int64)) + (-7046029254386353131 : Int64)))), .second, .unset, .unset, .unset, .unset, .unset, .unset, .unset, .unset, .unset] [(.long q2), (.ref b10), (.ref b10)])) rfl (by rw [hml]; rfl) (Steps.refl _) (a := b10) (argsL := [(.long q2)]) (rest := [(.ref b10)]) (lenOf pd_0_0 rfl) rfl (by show 2 * 0 + _ ≤ _; exact Nat.le_of_eq rfl) (hb hby at_50) (fun _ _ => ⟨rfl, e10, (by decide : 3 + 0 ≤ _), (by decide : 3 + 0 ≤ _)⟩)
  dsimp only [Pt.U, Pt.locs, Pt.cells, Pt.slots] at X11 l11 y11 z11 st11 hQ11
  subst l11 y11 z11
  obtain ⟨rfl, N11q, Kc11, Ex11, Fl11⟩ := hQ11
  have N11 := Fr.app N9 N11q
  have Zc11 := Kc11.1
  have Zs11 := Nat.le_trans Zs10 Zc11
  obtain ⟨cq12, kq12, q12a, q12b, q12c⟩ := isOf hZ rfl (E_b10.keep Kc11)
  obtain ⟨_, _, ⟨T12, L12, k12, n12⟩, -, X12, ⟨Lc12, hQ12, l12, y12, z12⟩, st12⟩ := X11.virtualBack hx (y := (⟨"com/example/slotwise/slotwise/SplitMix64", "nextLong", "()J"⟩ : MethodName)) (z := (⟨"com/example/slotwise/slotwise/SplitMix64", "nextLong", "()J"⟩ : MethodName)) hown (mvT hZ (hw _ (List.mem_of_getElem? (i := 11) rfl))) (mvT hZ (hw _ (List.mem_of_getElem? (i := 12) rfl))) (notFace_of_selects (args := #[]) (mvT hZ (hw _ (List.mem_of_getElem? (i := 14) rfl)))) (mvT hZ (hw _ (List.mem_of_getElem? (i := 14) rfl))) (mvT hZ (hw _ (List.mem_of_getElem? (i := 13) rfl))) (by decide) (backOf (W := 0) (rm3 l Z a0 hw [] b10 q2 T11.heap n0 Zs11 Fl11 Ex11 g_b10) hZ (hw _ (List.mem_of_getElem? (i := 15) rfl)) (hw _ (List.mem_of_getElem? (i := 2) rfl)) (by decide) (by decide)) q12a q12c (g := (mkF m 57 #[.val (.long q1), .second, .val (.long q2), .second, .val (.ref b3), .val (.long (own_mix (q1 + (-7046029254386353131 : Int64)))), .second, .val (.long (own_mix ((q1 + (-7046029254386353131 : Int64)) + (-7046029254386353131 : Int64)))), .second, .val (.ref b7), .val (.long (own_mix ((q1 + (-7046029254386353131 : Int64)) + (-7046029254386353131 : Int64)))), .second, .val (.ref b10), .unset, .unset, .unset, .unset, .unset, .unset, .unset, .unset] [(.ref b10)])) rfl (by rw [hml]; rfl) (Steps.refl _) (argsL := []) (rest := []) (lenOf pd_0_2 rfl) rfl (by show 2 * 0 + _ ≤ _; exact Nat.le_of_eq rfl) (hb hby at_57) (fun _ _ => ⟨rfl, rfl, (by decide : 3 + 0 ≤ _), (by decide : 3 + 0 ≤ _)⟩)
  dsimp only [Pt.U, Pt.locs, Pt.cells, Pt.slots] at X12 l12 y12 z12 st12 hQ12
  subst l12 y12 z12
  obtain ⟨rfl, N12q, Kc12, Ex12, Fl12⟩ := hQ12
  have N12 := Fr.app N11 N12q
  have Zc12 := Kc12.1
  have Zs12 := Nat.le_trans Zs11 Zc12
  obtain ⟨T13, h13, X13, e13, E13, A13, D13, -, st13⟩ := newO X12 hx hZ hown (hw _ (List.mem_of_getElem? (i := 0) rfl)) (hw _ (List.mem_of_getElem? (i := 1) rfl)) (hw _ (List.mem_of_getElem? (i := 2) rfl)) rfl (g := (mkF m 62 #[.val (.long q1), .second, .val (.long q2), .second, .val (.ref b3), .val (.long (own_mix (q1 + (-7046029254386353131 : Int64)))), .second, .val (.long (own_mix ((q1 + (-7046029254386353131 : Int64)) + (-7046029254386353131 : Int64)))), .second, .val (.ref b7), .val (.long (own_mix ((q1 + (-7046029254386353131 : Int64)) + (-7046029254386353131 : Int64)))), .second, .val (.ref b10), .val (.long (own_mix (q2 + (-7046029254386353131 : Int64)))), .second, .unset, .unset, .unset, .unset, .unset, .unset] [])) rfl (hb hby at_62) (by decide) (by decide)
  obtain ⟨b13, g13⟩ : ∃ z, z = T12.heap.size := ⟨_, rfl⟩
  have Zs13 := Nat.le_trans Zs12 E13.1
  rw [← g13] at A13 D13 st13
  have F_state_b13 : Fld Z h13 b13 "com/example/slotwise/slotwise/SplitMix64" "state" "J" (.long (0 : Int64)) := D13 (Or.inl (hw _ (List.mem_of_getElem? (i := 10) rfl))) (ty := .long) (by decide)
  have E_b13 := A13
  have g_b13 : n0 ≤ b13 := Nat.le_trans (Nat.le_trans (Nat.le_trans (Nat.le_trans (Nat.le_trans (Nat.le_trans (Nat.le_trans (Nat.le_trans (Nat.le_trans (Nat.le_trans (Nat.le_trans Z0 E3.1) Zc4) Zc5) Zc6) E7.1) Zc8) Zc9) E10.1) Zc11) Zc12) (Nat.le_of_eq g13.symm)
  obtain ⟨_, _, ⟨T14, L14, k14, n14⟩, -, X14, ⟨Lc14, hQ14, l14, y14, z14⟩, st14⟩ := X13.specialBack hx (y := (⟨"com/example/slotwise/slotwise/SplitMix64", "<init>", "(J)V"⟩ : MethodName)) rfl hown (mvT hZ (hw _ (List.mem_of_getElem? (i := 3) rfl))) (mvT hZ (hw _ (List.mem_of_getElem? (i := 4) rfl))) (mvT hZ (hw _ (List.mem_of_getElem? (i := 5) rfl))) (by decide) (backOf (W := 1) (rm1 l Z a0 hw [] b13 (0 : Int64) _ h13 n0 Zs13 E_b13 F_state_b13 g_b13) hZ (hw _ (List.mem_of_getElem? (i := 5) rfl)) (hw _ (List.mem_of_getElem? (i := 2) rfl)) (by decide) (by decide)) (g := (mkF m 67 #[.val (.long q1), .second, .val (.long q2), .second, .val (.ref b3), .val (.long (own_mix (q1 + (-7046029254386353131 : Int64)))), .second, .val (.long (own_mix ((q1 + (-7046029254386353131 : Int64)) + (-7046029254386353131 : Int64)))), .second, .val (.ref b7), .val (.long (own_mix ((q1 + (-7046029254386353131 : Int64)) + (-7046029254386353131 : Int64)))), .second, .val (.ref b10), .val (.long (own_mix (q2 + (-7046029254386353131 : Int64)))), .second, .unset, .unset, .unset, .unset, .unset, .unset] [(.long (0 : Int64)), (.ref b13), (.ref b13)])) rfl (by rw [hml]; rfl) (Steps.refl _) (a := b13) (argsL := [(.long (0 : Int64))]) (rest := [(.ref b13)]) (lenOf pd_0_0 rfl) rfl (by show 2 * 0 + _ ≤ _; exact Nat.le_of_eq rfl) (hb hby at_67) (fun _ _ => ⟨rfl, e13, (by decide : 4 + 0 ≤ _), (by decide : 4 + 0 ≤ _)⟩)
  dsimp only [Pt.U, Pt.locs, Pt.cells, Pt.slots] at X14 l14 y14 z14 st14 hQ14
  subst l14 y14 z14
  obtain ⟨rfl, N14q, Kc14, Ex14, Fl14⟩ := hQ14
  have N14 := Fr.app N12 N14q
  have Zc14 := Kc14.1
  have Zs14 := Nat.le_trans Zs13 Zc14
  obtain ⟨cq15, kq15, q15a, q15b, q15c⟩ := isOf hZ rfl (E_b13.keep Kc14)
  obtain ⟨_, _, ⟨T15, L15, k15, n15⟩, -, X15, ⟨Lc15, hQ15, l15, y15, z15⟩, st15⟩ := X14.virtualBack hx (y := (⟨"com/example/slotwise/slotwise/SplitMix64", "nextLong", "()J"⟩ : MethodName)) (z := (⟨"com/example/slotwise/slotwise/SplitMix64", "nextLong", "()J"⟩ : MethodName)) hown (mvT hZ (hw _ (List.mem_of_getElem? (i := 11) rfl))) (mvT hZ (hw _ (List.mem_of_getElem? (i := 12) rfl))) (notFace_of_selects (args := #[]) (mvT hZ (hw _ (List.mem_of_getElem? (i := 14) rfl)))) (mvT hZ (hw _ (List.mem_of_getElem? (i := 14) rfl))) (mvT hZ (hw _ (List.mem_of_getElem? (i := 13) rfl))) (by decide) (backOf (W := 0) (rm3 l Z a0 hw [] b13 (0 : Int64) T14.heap n0 Zs14 Fl14 Ex14 g_b13) hZ (hw _ (List.mem_of_getElem? (i := 15) rfl)) (hw _ (List.mem_of_getElem? (i := 2) rfl)) (by decide) (by decide)) q15a q15c (g := (mkF m 74 #[.val (.long q1), .second, .val (.long q2), .second, .val (.ref b3), .val (.long (own_mix (q1 + (-7046029254386353131 : Int64)))), .second, .val (.long (own_mix ((q1 + (-7046029254386353131 : Int64)) + (-7046029254386353131 : Int64)))), .second, .val (.ref b7), .val (.long (own_mix ((q1 + (-7046029254386353131 : Int64)) + (-7046029254386353131 : Int64)))), .second, .val (.ref b10), .val (.long (own_mix (q2 + (-7046029254386353131 : Int64)))), .second, .val (.ref b13), .unset, .unset, .unset, .unset, .unset] [(.ref b13)])) rfl (by rw [hml]; rfl) (Steps.refl _) (argsL := []) (rest := []) (lenOf pd_0_2 rfl) rfl (by show 2 * 0 + _ ≤ _; exact Nat.le_of_eq rfl) (hb hby at_74) (fun _ _ => ⟨rfl, rfl, (by decide : 4 + 0 ≤ _), (by decide : 4 + 0 ≤ _)⟩)
  dsimp only [Pt.U, Pt.locs, Pt.cells, Pt.slots] at X15 l15 y15 z15 st15 hQ15
  subst l15 y15 z15
  obtain ⟨rfl, N15q, Kc15, Ex15, Fl15⟩ := hQ15
  have N15 := Fr.app N14 N15q
  have Zc15 := Kc15.1
  have Zs15 := Nat.le_trans Zs14 Zc15
  obtain ⟨fs, hr, hrun, hended, hW, hsame⟩ := X15.leave (v := some (.int (1 : Int32))) (fun h => by rw [Bd.returns] at h; cases h)
  refine ⟨_, _, pre0 _ ?_, hrun, hended, _, _, rfl, ?_, ⟨_, rfl⟩, hW, hsame.mono (by decide) (by decide)⟩
  · show Steps p.tables e below (s₁.setTop (mkF m 0 #[.val (.long q1), .second, .val (.long q2), .second, .unset, .unset, .unset, .unset, .unset, .unset, .unset, .unset, .unset, .unset, .unset, .unset, .unset, .unset, .unset, .unset, .unset] [])) _
    refine st3 _ ?_
    show Steps p.tables e below (T3.setTop (mkF m 3 #[.val (.long q1), .second, .val (.long q2), .second, .unset, .unset, .unset, .unset, .unset, .unset, .unset, .unset, .unset, .unset, .unset, .unset, .unset, .unset, .unset, .unset, .unset] [(.ref b3)])) _
    refine XS.dup X3.here hx rfl (hb hby at_3) rfl rfl ?_
    show Steps p.tables e below (T3.setTop (mkF m 4 #[.val (.long q1), .second, .val (.long q2), .second, .unset, .unset, .unset, .unset, .unset, .unset, .unset, .unset, .unset, .unset, .unset, .unset, .unset, .unset, .unset, .unset, .unset] [(.ref b3), (.ref b3)])) _
    refine XS.lloadN X3.here hx rfl (hb hby at_4) rfl ?_
    show Steps p.tables e below (T3.setTop (mkF m 5 #[.val (.long q1), .second, .val (.long q2), .second, .unset, .unset, .unset, .unset, .unset, .unset, .unset, .unset, .unset, .unset, .unset, .unset, .unset, .unset, .unset, .unset, .unset] [(.long q1), (.ref b3), (.ref b3)])) _
    refine st4.trans ?_
    show Steps p.tables e below (T4.setTop (mkF m 8 #[.val (.long q1), .second, .val (.long q2), .second, .unset, .unset, .unset, .unset, .unset, .unset, .unset, .unset, .unset, .unset, .unset, .unset, .unset, .unset, .unset, .unset, .unset] [(.ref b3)])) _
    refine XS.astore X4.here hx rfl (hb hby at_8) rfl rfl (l' := #[.val (.long q1), .second, .val (.long q2), .second, .val (.ref b3), .unset, .unset, .unset, .unset, .unset, .unset, .unset, .unset, .unset, .unset, .unset, .unset, .unset, .unset, .unset, .unset]) rfl ?_
    show Steps p.tables e below (T4.setTop (mkF m 10 #[.val (.long q1), .second, .val (.long q2), .second, .val (.ref b3), .unset, .unset, .unset, .unset, .unset, .unset, .unset, .unset, .unset, .unset, .unset, .unset, .unset, .unset, .unset, .unset] [])) _
    refine XS.aload X4.here hx rfl (hb hby at_10) rfl rfl ?_
    show Steps p.tables e below (T4.setTop (mkF m 12 #[.val (.long q1), .second, .val (.long q2), .second, .val (.ref b3), .unset, .unset, .unset, .unset, .unset, .unset, .unset, .unset, .unset, .unset, .unset, .unset, .unset, .unset, .unset, .unset] [(.ref b3)])) _
    refine st5.trans ?_
    show Steps p.tables e below (T5.setTop (mkF m 15 #[.val (.long q1), .second, .val (.long q2), .second, .val (.ref b3), .unset, .unset, .unset, .unset, .unset, .unset, .unset, .unset, .unset, .unset, .unset, .unset, .unset, .unset, .unset, .unset] [(.long (own_mix (q1 + (-7046029254386353131 : Int64))))])) _
    refine XS.lstore X5.here hx rfl (hb hby at_15) rfl (l' := #[.val (.long q1), .second, .val (.long q2), .second, .val (.ref b3), .val (.long (own_mix (q1 + (-7046029254386353131 : Int64)))), .second, .unset, .unset, .unset, .unset, .unset, .unset, .unset, .unset, .unset, .unset, .unset, .unset, .unset, .unset]) rfl ?_
    show Steps p.tables e below (T5.setTop (mkF m 17 #[.val (.long q1), .second, .val (.long q2), .second, .val (.ref b3), .val (.long (own_mix (q1 + (-7046029254386353131 : Int64)))), .second, .unset, .unset, .unset, .unset, .unset, .unset, .unset, .unset, .unset, .unset, .unset, .unset, .unset, .unset] [])) _
    refine XS.aload X5.here hx rfl (hb hby at_17) rfl rfl ?_
    show Steps p.tables e below (T5.setTop (mkF m 19 #[.val (.long q1), .second, .val (.long q2), .second, .val (.ref b3), .val (.long (own_mix (q1 + (-7046029254386353131 : Int64)))), .second, .unset, .unset, .unset, .unset, .unset, .unset, .unset, .unset, .unset, .unset, .unset, .unset, .unset, .unset] [(.ref b3)])) _
    refine st6.trans ?_
    show Steps p.tables e below (T6.setTop (mkF m 22 #[.val (.long q1), .second, .val (.long q2), .second, .val (.ref b3), .val (.long (own_mix (q1 + (-7046029254386353131 : Int64)))), .second, .unset, .unset, .unset, .unset, .unset, .unset, .unset, .unset, .unset, .unset, .unset, .unset, .unset, .unset] [(.long (own_mix ((q1 + (-7046029254386353131 : Int64)) + (-7046029254386353131 : Int64))))])) _
    refine XS.lstore X6.here hx rfl (hb hby at_22) rfl (l' := #[.val (.long q1), .second, .val (.long q2), .second, .val (.ref b3), .val (.long (own_mix (q1 + (-7046029254386353131 : Int64)))), .second, .val (.long (own_mix ((q1 + (-7046029254386353131 : Int64)) + (-7046029254386353131 : Int64)))), .second, .unset, .unset, .unset, .unset, .unset, .unset, .unset, .unset, .unset, .unset, .unset, .unset]) rfl ?_
    show Steps p.tables e below (T6.setTop (mkF m 24 #[.val (.long q1), .second, .val (.long q2), .second, .val (.ref b3), .val (.long (own_mix (q1 + (-7046029254386353131 : Int64)))), .second, .val (.long (own_mix ((q1 + (-7046029254386353131 : Int64)) + (-7046029254386353131 : Int64)))), .second, .unset, .unset, .unset, .unset, .unset, .unset, .unset, .unset, .unset, .unset, .unset, .unset] [])) _
    refine st7 _ ?_
    show Steps p.tables e below (T7.setTop (mkF m 27 #[.val (.long q1), .second, .val (.long q2), .second, .val (.ref b3), .val (.long (own_mix (q1 + (-7046029254386353131 : Int64)))), .second, .val (.long (own_mix ((q1 + (-7046029254386353131 : Int64)) + (-7046029254386353131 : Int64)))), .second, .unset, .unset, .unset, .unset, .unset, .unset, .unset, .unset, .unset, .unset, .unset, .unset] [(.ref b7)])) _
    refine XS.dup X7.here hx rfl (hb hby at_27) rfl rfl ?_
    show Steps p.tables e below (T7.setTop (mkF m 28 #[.val (.long q1), .second, .val (.long q2), .second, .val (.ref b3), .val (.long (own_mix (q1 + (-7046029254386353131 : Int64)))), .second, .val (.long (own_mix ((q1 + (-7046029254386353131 : Int64)) + (-7046029254386353131 : Int64)))), .second, .unset, .unset, .unset, .unset, .unset, .unset, .unset, .unset, .unset, .unset, .unset, .unset] [(.ref b7), (.ref b7)])) _
    refine XS.lloadN X7.here hx rfl (hb hby at_28) rfl ?_
    show Steps p.tables e below (T7.setTop (mkF m 29 #[.val (.long q1), .second, .val (.long q2), .second, .val (.ref b3), .val (.long (own_mix (q1 + (-7046029254386353131 : Int64)))), .second, .val (.long (own_mix ((q1 + (-7046029254386353131 : Int64)) + (-7046029254386353131 : Int64)))), .second, .unset, .unset, .unset, .unset, .unset, .unset, .unset, .unset, .unset, .unset, .unset, .unset] [(.long q1), (.ref b7), (.ref b7)])) _
    refine X7.ldc2Long hx hown (mvT hZ (hw _ (List.mem_of_getElem? (i := 19) rfl))) (g := (mkF m 29 #[.val (.long q1), .second, .val (.long q2), .second, .val (.ref b3), .val (.long (own_mix (q1 + (-7046029254386353131 : Int64)))), .second, .val (.long (own_mix ((q1 + (-7046029254386353131 : Int64)) + (-7046029254386353131 : Int64)))), .second, .unset, .unset, .unset, .unset, .unset, .unset, .unset, .unset, .unset, .unset, .unset, .unset] [(.long q1), (.ref b7), (.ref b7)])) rfl (hb hby at_29) _ ?_
    show Steps p.tables e below (T7.setTop (mkF m 32 #[.val (.long q1), .second, .val (.long q2), .second, .val (.ref b3), .val (.long (own_mix (q1 + (-7046029254386353131 : Int64)))), .second, .val (.long (own_mix ((q1 + (-7046029254386353131 : Int64)) + (-7046029254386353131 : Int64)))), .second, .unset, .unset, .unset, .unset, .unset, .unset, .unset, .unset, .unset, .unset, .unset, .unset] [(.long (-7046029254386353131 : Int64)), (.long q1), (.ref b7), (.ref b7)])) _
    refine XS.ladd X7.here hx rfl (hb hby at_32) rfl ?_
    show Steps p.tables e below (T7.setTop (mkF m 33 #[.val (.long q1), .second, .val (.long q2), .second, .val (.ref b3), .val (.long (own_mix (q1 + (-7046029254386353131 : Int64)))), .second, .val (.long (own_mix ((q1 + (-7046029254386353131 : Int64)) + (-7046029254386353131 : Int64)))), .second, .unset, .unset, .unset, .unset, .unset, .unset, .unset, .unset, .unset, .unset, .unset, .unset] [(.long (q1 + (-7046029254386353131 : Int64))), (.ref b7), (.ref b7)])) _
    refine st8.trans ?_
    show Steps p.tables e below (T8.setTop (mkF m 36 #[.val (.long q1), .second, .val (.long q2), .second, .val (.ref b3), .val (.long (own_mix (q1 + (-7046029254386353131 : Int64)))), .second, .val (.long (own_mix ((q1 + (-7046029254386353131 : Int64)) + (-7046029254386353131 : Int64)))), .second, .unset, .unset, .unset, .unset, .unset, .unset, .unset, .unset, .unset, .unset, .unset, .unset] [(.ref b7)])) _
    refine XS.astore X8.here hx rfl (hb hby at_36) rfl rfl (l' := #[.val (.long q1), .second, .val (.long q2), .second, .val (.ref b3), .val (.long (own_mix (q1 + (-7046029254386353131 : Int64)))), .second, .val (.long (own_mix ((q1 + (-7046029254386353131 : Int64)) + (-7046029254386353131 : Int64)))), .second, .val (.ref b7), .unset, .unset, .unset, .unset, .unset, .unset, .unset, .unset, .unset, .unset, .unset]) rfl ?_
    show Steps p.tables e below (T8.setTop (mkF m 38 #[.val (.long q1), .second, .val (.long q2), .second, .val (.ref b3), .val (.long (own_mix (q1 + (-7046029254386353131 : Int64)))), .second, .val (.long (own_mix ((q1 + (-7046029254386353131 : Int64)) + (-7046029254386353131 : Int64)))), .second, .val (.ref b7), .unset, .unset, .unset, .unset, .unset, .unset, .unset, .unset, .unset, .unset, .unset] [])) _
    refine XS.aload X8.here hx rfl (hb hby at_38) rfl rfl ?_
    show Steps p.tables e below (T8.setTop (mkF m 40 #[.val (.long q1), .second, .val (.long q2), .second, .val (.ref b3), .val (.long (own_mix (q1 + (-7046029254386353131 : Int64)))), .second, .val (.long (own_mix ((q1 + (-7046029254386353131 : Int64)) + (-7046029254386353131 : Int64)))), .second, .val (.ref b7), .unset, .unset, .unset, .unset, .unset, .unset, .unset, .unset, .unset, .unset, .unset] [(.ref b7)])) _
    refine st9.trans ?_
    show Steps p.tables e below (T9.setTop (mkF m 43 #[.val (.long q1), .second, .val (.long q2), .second, .val (.ref b3), .val (.long (own_mix (q1 + (-7046029254386353131 : Int64)))), .second, .val (.long (own_mix ((q1 + (-7046029254386353131 : Int64)) + (-7046029254386353131 : Int64)))), .second, .val (.ref b7), .unset, .unset, .unset, .unset, .unset, .unset, .unset, .unset, .unset, .unset, .unset] [(.long (own_mix ((q1 + (-7046029254386353131 : Int64)) + (-7046029254386353131 : Int64))))])) _
    refine XS.lstore X9.here hx rfl (hb hby at_43) rfl (l' := #[.val (.long q1), .second, .val (.long q2), .second, .val (.ref b3), .val (.long (own_mix (q1 + (-7046029254386353131 : Int64)))), .second, .val (.long (own_mix ((q1 + (-7046029254386353131 : Int64)) + (-7046029254386353131 : Int64)))), .second, .val (.ref b7), .val (.long (own_mix ((q1 + (-7046029254386353131 : Int64)) + (-7046029254386353131 : Int64)))), .second, .unset, .unset, .unset, .unset, .unset, .unset, .unset, .unset, .unset]) rfl ?_
    show Steps p.tables e below (T9.setTop (mkF m 45 #[.val (.long q1), .second, .val (.long q2), .second, .val (.ref b3), .val (.long (own_mix (q1 + (-7046029254386353131 : Int64)))), .second, .val (.long (own_mix ((q1 + (-7046029254386353131 : Int64)) + (-7046029254386353131 : Int64)))), .second, .val (.ref b7), .val (.long (own_mix ((q1 + (-7046029254386353131 : Int64)) + (-7046029254386353131 : Int64)))), .second, .unset, .unset, .unset, .unset, .unset, .unset, .unset, .unset, .unset] [])) _
    refine st10 _ ?_
    show Steps p.tables e below (T10.setTop (mkF m 48 #[.val (.long q1), .second, .val (.long q2), .second, .val (.ref b3), .val (.long (own_mix (q1 + (-7046029254386353131 : Int64)))), .second, .val (.long (own_mix ((q1 + (-7046029254386353131 : Int64)) + (-7046029254386353131 : Int64)))), .second, .val (.ref b7), .val (.long (own_mix ((q1 + (-7046029254386353131 : Int64)) + (-7046029254386353131 : Int64)))), .second, .unset, .unset, .unset, .unset, .unset, .unset, .unset, .unset, .unset] [(.ref b10)])) _
    refine XS.dup X10.here hx rfl (hb hby at_48) rfl rfl ?_
    show Steps p.tables e below (T10.setTop (mkF m 49 #[.val (.long q1), .second, .val (.long q2), .second, .val (.ref b3), .val (.long (own_mix (q1 + (-7046029254386353131 : Int64)))), .second, .val (.long (own_mix ((q1 + (-7046029254386353131 : Int64)) + (-7046029254386353131 : Int64)))), .second, .val (.ref b7), .val (.long (own_mix ((q1 + (-7046029254386353131 : Int64)) + (-7046029254386353131 : Int64)))), .second, .unset, .unset, .unset, .unset, .unset, .unset, .unset, .unset, .unset] [(.ref b10), (.ref b10)])) _
    refine XS.lloadN X10.here hx rfl (hb hby at_49) rfl ?_
    show Steps p.tables e below (T10.setTop (mkF m 50 #[.val (.long q1), .second, .val (.long q2), .second, .val (.ref b3), .val (.long (own_mix (q1 + (-7046029254386353131 : Int64)))), .second, .val (.long (own_mix ((q1 + (-7046029254386353131 : Int64)) + (-7046029254386353131 : Int64)))), .second, .val (.ref b7), .val (.long (own_mix ((q1 + (-7046029254386353131 : Int64)) + (-7046029254386353131 : Int64)))), .second, .unset, .unset, .unset, .unset, .unset, .unset, .unset, .unset, .unset] [(.long q2), (.ref b10), (.ref b10)])) _
    refine st11.trans ?_
    show Steps p.tables e below (T11.setTop (mkF m 53 #[.val (.long q1), .second, .val (.long q2), .second, .val (.ref b3), .val (.long (own_mix (q1 + (-7046029254386353131 : Int64)))), .second, .val (.long (own_mix ((q1 + (-7046029254386353131 : Int64)) + (-7046029254386353131 : Int64)))), .second, .val (.ref b7), .val (.long (own_mix ((q1 + (-7046029254386353131 : Int64)) + (-7046029254386353131 : Int64)))), .second, .unset, .unset, .unset, .unset, .unset, .unset, .unset, .unset, .unset] [(.ref b10)])) _
    refine XS.astore X11.here hx rfl (hb hby at_53) rfl rfl (l' := #[.val (.long q1), .second, .val (.long q2), .second, .val (.ref b3), .val (.long (own_mix (q1 + (-7046029254386353131 : Int64)))), .second, .val (.long (own_mix ((q1 + (-7046029254386353131 : Int64)) + (-7046029254386353131 : Int64)))), .second, .val (.ref b7), .val (.long (own_mix ((q1 + (-7046029254386353131 : Int64)) + (-7046029254386353131 : Int64)))), .second, .val (.ref b10), .unset, .unset, .unset, .unset, .unset, .unset, .unset, .unset]) rfl ?_
    show Steps p.tables e below (T11.setTop (mkF m 55 #[.val (.long q1), .second, .val (.long q2), .second, .val (.ref b3), .val (.long (own_mix (q1 + (-7046029254386353131 : Int64)))), .second, .val (.long (own_mix ((q1 + (-7046029254386353131 : Int64)) + (-7046029254386353131 : Int64)))), .second, .val (.ref b7), .val (.long (own_mix ((q1 + (-7046029254386353131 : Int64)) + (-7046029254386353131 : Int64)))), .second, .val (.ref b10), .unset, .unset, .unset, .unset, .unset, .unset, .unset, .unset] [])) _
    refine XS.aload X11.here hx rfl (hb hby at_55) rfl rfl ?_
    show Steps p.tables e below (T11.setTop (mkF m 57 #[.val (.long q1), .second, .val (.long q2), .second, .val (.ref b3), .val (.long (own_mix (q1 + (-7046029254386353131 : Int64)))), .second, .val (.long (own_mix ((q1 + (-7046029254386353131 : Int64)) + (-7046029254386353131 : Int64)))), .second, .val (.ref b7), .val (.long (own_mix ((q1 + (-7046029254386353131 : Int64)) + (-7046029254386353131 : Int64)))), .second, .val (.ref b10), .unset, .unset, .unset, .unset, .unset, .unset, .unset, .unset] [(.ref b10)])) _
    refine st12.trans ?_
    show Steps p.tables e below (T12.setTop (mkF m 60 #[.val (.long q1), .second, .val (.long q2), .second, .val (.ref b3), .val (.long (own_mix (q1 + (-7046029254386353131 : Int64)))), .second, .val (.long (own_mix ((q1 + (-7046029254386353131 : Int64)) + (-7046029254386353131 : Int64)))), .second, .val (.ref b7), .val (.long (own_mix ((q1 + (-7046029254386353131 : Int64)) + (-7046029254386353131 : Int64)))), .second, .val (.ref b10), .unset, .unset, .unset, .unset, .unset, .unset, .unset, .unset] [(.long (own_mix (q2 + (-7046029254386353131 : Int64))))])) _
    refine XS.lstore X12.here hx rfl (hb hby at_60) rfl (l' := #[.val (.long q1), .second, .val (.long q2), .second, .val (.ref b3), .val (.long (own_mix (q1 + (-7046029254386353131 : Int64)))), .second, .val (.long (own_mix ((q1 + (-7046029254386353131 : Int64)) + (-7046029254386353131 : Int64)))), .second, .val (.ref b7), .val (.long (own_mix ((q1 + (-7046029254386353131 : Int64)) + (-7046029254386353131 : Int64)))), .second, .val (.ref b10), .val (.long (own_mix (q2 + (-7046029254386353131 : Int64)))), .second, .unset, .unset, .unset, .unset, .unset, .unset]) rfl ?_
    show Steps p.tables e below (T12.setTop (mkF m 62 #[.val (.long q1), .second, .val (.long q2), .second, .val (.ref b3), .val (.long (own_mix (q1 + (-7046029254386353131 : Int64)))), .second, .val (.long (own_mix ((q1 + (-7046029254386353131 : Int64)) + (-7046029254386353131 : Int64)))), .second, .val (.ref b7), .val (.long (own_mix ((q1 + (-7046029254386353131 : Int64)) + (-7046029254386353131 : Int64)))), .second, .val (.ref b10), .val (.long (own_mix (q2 + (-7046029254386353131 : Int64)))), .second, .unset, .unset, .unset, .unset, .unset, .unset] [])) _
    refine st13 _ ?_
    show Steps p.tables e below (T13.setTop (mkF m 65 #[.val (.long q1), .second, .val (.long q2), .second, .val (.ref b3), .val (.long (own_mix (q1 + (-7046029254386353131 : Int64)))), .second, .val (.long (own_mix ((q1 + (-7046029254386353131 : Int64)) + (-7046029254386353131 : Int64)))), .second, .val (.ref b7), .val (.long (own_mix ((q1 + (-7046029254386353131 : Int64)) + (-7046029254386353131 : Int64)))), .second, .val (.ref b10), .val (.long (own_mix (q2 + (-7046029254386353131 : Int64)))), .second, .unset, .unset, .unset, .unset, .unset, .unset] [(.ref b13)])) _
    refine XS.dup X13.here hx rfl (hb hby at_65) rfl rfl ?_
    show Steps p.tables e below (T13.setTop (mkF m 66 #[.val (.long q1), .second, .val (.long q2), .second, .val (.ref b3), .val (.long (own_mix (q1 + (-7046029254386353131 : Int64)))), .second, .val (.long (own_mix ((q1 + (-7046029254386353131 : Int64)) + (-7046029254386353131 : Int64)))), .second, .val (.ref b7), .val (.long (own_mix ((q1 + (-7046029254386353131 : Int64)) + (-7046029254386353131 : Int64)))), .second, .val (.ref b10), .val (.long (own_mix (q2 + (-7046029254386353131 : Int64)))), .second, .unset, .unset, .unset, .unset, .unset, .unset] [(.ref b13), (.ref b13)])) _
    refine XS.lconst X13.here hx rfl (hb hby at_66) ?_
    show Steps p.tables e below (T13.setTop (mkF m 67 #[.val (.long q1), .second, .val (.long q2), .second, .val (.ref b3), .val (.long (own_mix (q1 + (-7046029254386353131 : Int64)))), .second, .val (.long (own_mix ((q1 + (-7046029254386353131 : Int64)) + (-7046029254386353131 : Int64)))), .second, .val (.ref b7), .val (.long (own_mix ((q1 + (-7046029254386353131 : Int64)) + (-7046029254386353131 : Int64)))), .second, .val (.ref b10), .val (.long (own_mix (q2 + (-7046029254386353131 : Int64)))), .second, .unset, .unset, .unset, .unset, .unset, .unset] [(.long (0 : Int64)), (.ref b13), (.ref b13)])) _
    refine st14.trans ?_
    show Steps p.tables e below (T14.setTop (mkF m 70 #[.val (.long q1), .second, .val (.long q2), .second, .val (.ref b3), .val (.long (own_mix (q1 + (-7046029254386353131 : Int64)))), .second, .val (.long (own_mix ((q1 + (-7046029254386353131 : Int64)) + (-7046029254386353131 : Int64)))), .second, .val (.ref b7), .val (.long (own_mix ((q1 + (-7046029254386353131 : Int64)) + (-7046029254386353131 : Int64)))), .second, .val (.ref b10), .val (.long (own_mix (q2 + (-7046029254386353131 : Int64)))), .second, .unset, .unset, .unset, .unset, .unset, .unset] [(.ref b13)])) _
    refine XS.astore X14.here hx rfl (hb hby at_70) rfl rfl (l' := #[.val (.long q1), .second, .val (.long q2), .second, .val (.ref b3), .val (.long (own_mix (q1 + (-7046029254386353131 : Int64)))), .second, .val (.long (own_mix ((q1 + (-7046029254386353131 : Int64)) + (-7046029254386353131 : Int64)))), .second, .val (.ref b7), .val (.long (own_mix ((q1 + (-7046029254386353131 : Int64)) + (-7046029254386353131 : Int64)))), .second, .val (.ref b10), .val (.long (own_mix (q2 + (-7046029254386353131 : Int64)))), .second, .val (.ref b13), .unset, .unset, .unset, .unset, .unset]) rfl ?_
    show Steps p.tables e below (T14.setTop (mkF m 72 #[.val (.long q1), .second, .val (.long q2), .second, .val (.ref b3), .val (.long (own_mix (q1 + (-7046029254386353131 : Int64)))), .second, .val (.long (own_mix ((q1 + (-7046029254386353131 : Int64)) + (-7046029254386353131 : Int64)))), .second, .val (.ref b7), .val (.long (own_mix ((q1 + (-7046029254386353131 : Int64)) + (-7046029254386353131 : Int64)))), .second, .val (.ref b10), .val (.long (own_mix (q2 + (-7046029254386353131 : Int64)))), .second, .val (.ref b13), .unset, .unset, .unset, .unset, .unset] [])) _
    refine XS.aload X14.here hx rfl (hb hby at_72) rfl rfl ?_
    show Steps p.tables e below (T14.setTop (mkF m 74 #[.val (.long q1), .second, .val (.long q2), .second, .val (.ref b3), .val (.long (own_mix (q1 + (-7046029254386353131 : Int64)))), .second, .val (.long (own_mix ((q1 + (-7046029254386353131 : Int64)) + (-7046029254386353131 : Int64)))), .second, .val (.ref b7), .val (.long (own_mix ((q1 + (-7046029254386353131 : Int64)) + (-7046029254386353131 : Int64)))), .second, .val (.ref b10), .val (.long (own_mix (q2 + (-7046029254386353131 : Int64)))), .second, .val (.ref b13), .unset, .unset, .unset, .unset, .unset] [(.ref b13)])) _
    refine st15.trans ?_
    show Steps p.tables e below (T15.setTop (mkF m 77 #[.val (.long q1), .second, .val (.long q2), .second, .val (.ref b3), .val (.long (own_mix (q1 + (-7046029254386353131 : Int64)))), .second, .val (.long (own_mix ((q1 + (-7046029254386353131 : Int64)) + (-7046029254386353131 : Int64)))), .second, .val (.ref b7), .val (.long (own_mix ((q1 + (-7046029254386353131 : Int64)) + (-7046029254386353131 : Int64)))), .second, .val (.ref b10), .val (.long (own_mix (q2 + (-7046029254386353131 : Int64)))), .second, .val (.ref b13), .unset, .unset, .unset, .unset, .unset] [(.long (own_mix ((0 : Int64) + (-7046029254386353131 : Int64))))])) _
    refine XS.lstore X15.here hx rfl (hb hby at_77) rfl (l' := #[.val (.long q1), .second, .val (.long q2), .second, .val (.ref b3), .val (.long (own_mix (q1 + (-7046029254386353131 : Int64)))), .second, .val (.long (own_mix ((q1 + (-7046029254386353131 : Int64)) + (-7046029254386353131 : Int64)))), .second, .val (.ref b7), .val (.long (own_mix ((q1 + (-7046029254386353131 : Int64)) + (-7046029254386353131 : Int64)))), .second, .val (.ref b10), .val (.long (own_mix (q2 + (-7046029254386353131 : Int64)))), .second, .val (.ref b13), .val (.long (own_mix ((0 : Int64) + (-7046029254386353131 : Int64)))), .second, .unset, .unset, .unset]) rfl ?_
    show Steps p.tables e below (T15.setTop (mkF m 79 #[.val (.long q1), .second, .val (.long q2), .second, .val (.ref b3), .val (.long (own_mix (q1 + (-7046029254386353131 : Int64)))), .second, .val (.long (own_mix ((q1 + (-7046029254386353131 : Int64)) + (-7046029254386353131 : Int64)))), .second, .val (.ref b7), .val (.long (own_mix ((q1 + (-7046029254386353131 : Int64)) + (-7046029254386353131 : Int64)))), .second, .val (.ref b10), .val (.long (own_mix (q2 + (-7046029254386353131 : Int64)))), .second, .val (.ref b13), .val (.long (own_mix ((0 : Int64) + (-7046029254386353131 : Int64)))), .second, .unset, .unset, .unset] [])) _
    refine XS.lload X15.here hx rfl (hb hby at_79) rfl ?_
    show Steps p.tables e below (T15.setTop (mkF m 81 #[.val (.long q1), .second, .val (.long q2), .second, .val (.ref b3), .val (.long (own_mix (q1 + (-7046029254386353131 : Int64)))), .second, .val (.long (own_mix ((q1 + (-7046029254386353131 : Int64)) + (-7046029254386353131 : Int64)))), .second, .val (.ref b7), .val (.long (own_mix ((q1 + (-7046029254386353131 : Int64)) + (-7046029254386353131 : Int64)))), .second, .val (.ref b10), .val (.long (own_mix (q2 + (-7046029254386353131 : Int64)))), .second, .val (.ref b13), .val (.long (own_mix ((0 : Int64) + (-7046029254386353131 : Int64)))), .second, .unset, .unset, .unset] [(.long (own_mix ((q1 + (-7046029254386353131 : Int64)) + (-7046029254386353131 : Int64))))])) _
    refine XS.lload X15.here hx rfl (hb hby at_81) rfl ?_
    show Steps p.tables e below (T15.setTop (mkF m 83 #[.val (.long q1), .second, .val (.long q2), .second, .val (.ref b3), .val (.long (own_mix (q1 + (-7046029254386353131 : Int64)))), .second, .val (.long (own_mix ((q1 + (-7046029254386353131 : Int64)) + (-7046029254386353131 : Int64)))), .second, .val (.ref b7), .val (.long (own_mix ((q1 + (-7046029254386353131 : Int64)) + (-7046029254386353131 : Int64)))), .second, .val (.ref b10), .val (.long (own_mix (q2 + (-7046029254386353131 : Int64)))), .second, .val (.ref b13), .val (.long (own_mix ((0 : Int64) + (-7046029254386353131 : Int64)))), .second, .unset, .unset, .unset] [(.long (own_mix ((q1 + (-7046029254386353131 : Int64)) + (-7046029254386353131 : Int64)))), (.long (own_mix ((q1 + (-7046029254386353131 : Int64)) + (-7046029254386353131 : Int64))))])) _
    refine XS.lcmp X15.here hx rfl (hb hby at_83) rfl ?_
    show Steps p.tables e below (T15.setTop (mkF m 84 #[.val (.long q1), .second, .val (.long q2), .second, .val (.ref b3), .val (.long (own_mix (q1 + (-7046029254386353131 : Int64)))), .second, .val (.long (own_mix ((q1 + (-7046029254386353131 : Int64)) + (-7046029254386353131 : Int64)))), .second, .val (.ref b7), .val (.long (own_mix ((q1 + (-7046029254386353131 : Int64)) + (-7046029254386353131 : Int64)))), .second, .val (.ref b10), .val (.long (own_mix (q2 + (-7046029254386353131 : Int64)))), .second, .val (.ref b13), .val (.long (own_mix ((0 : Int64) + (-7046029254386353131 : Int64)))), .second, .unset, .unset, .unset] [(.int (lcmpW (own_mix ((q1 + (-7046029254386353131 : Int64)) + (-7046029254386353131 : Int64))) (own_mix ((q1 + (-7046029254386353131 : Int64)) + (-7046029254386353131 : Int64)))))])) _
    refine XS.ifNo X15.here hx rfl (hb hby at_84) rfl ((if0 _ _).trans (teq ((lw_eq _ _).mpr rfl : (lcmpW (own_mix ((q1 + (-7046029254386353131 : Int64)) + (-7046029254386353131 : Int64))) (own_mix ((q1 + (-7046029254386353131 : Int64)) + (-7046029254386353131 : Int64)))) = (0 : Int32))).2) ?_
    show Steps p.tables e below (T15.setTop (mkF m 87 #[.val (.long q1), .second, .val (.long q2), .second, .val (.ref b3), .val (.long (own_mix (q1 + (-7046029254386353131 : Int64)))), .second, .val (.long (own_mix ((q1 + (-7046029254386353131 : Int64)) + (-7046029254386353131 : Int64)))), .second, .val (.ref b7), .val (.long (own_mix ((q1 + (-7046029254386353131 : Int64)) + (-7046029254386353131 : Int64)))), .second, .val (.ref b10), .val (.long (own_mix (q2 + (-7046029254386353131 : Int64)))), .second, .val (.ref b13), .val (.long (own_mix ((0 : Int64) + (-7046029254386353131 : Int64)))), .second, .unset, .unset, .unset] [])) _
    refine XS.iconst X15.here hx rfl (hb hby at_87) ?_
    show Steps p.tables e below (T15.setTop (mkF m 88 #[.val (.long q1), .second, .val (.long q2), .second, .val (.ref b3), .val (.long (own_mix (q1 + (-7046029254386353131 : Int64)))), .second, .val (.long (own_mix ((q1 + (-7046029254386353131 : Int64)) + (-7046029254386353131 : Int64)))), .second, .val (.ref b7), .val (.long (own_mix ((q1 + (-7046029254386353131 : Int64)) + (-7046029254386353131 : Int64)))), .second, .val (.ref b10), .val (.long (own_mix (q2 + (-7046029254386353131 : Int64)))), .second, .val (.ref b13), .val (.long (own_mix ((0 : Int64) + (-7046029254386353131 : Int64)))), .second, .unset, .unset, .unset] [(.int (1 : Int32))])) _
    refine XS.goto X15.here hx rfl (pc0 := 88) (pc' := 92) rfl (hb hby at_88) (by decide) (by decide) ?_
    show Steps p.tables e below (T15.setTop (mkF m 92 #[.val (.long q1), .second, .val (.long q2), .second, .val (.ref b3), .val (.long (own_mix (q1 + (-7046029254386353131 : Int64)))), .second, .val (.long (own_mix ((q1 + (-7046029254386353131 : Int64)) + (-7046029254386353131 : Int64)))), .second, .val (.ref b7), .val (.long (own_mix ((q1 + (-7046029254386353131 : Int64)) + (-7046029254386353131 : Int64)))), .second, .val (.ref b10), .val (.long (own_mix (q2 + (-7046029254386353131 : Int64)))), .second, .val (.ref b13), .val (.long (own_mix ((0 : Int64) + (-7046029254386353131 : Int64)))), .second, .unset, .unset, .unset] [(.int (1 : Int32))])) _
    refine XS.istore X15.here hx rfl (hb hby at_92) rfl (l' := #[.val (.long q1), .second, .val (.long q2), .second, .val (.ref b3), .val (.long (own_mix (q1 + (-7046029254386353131 : Int64)))), .second, .val (.long (own_mix ((q1 + (-7046029254386353131 : Int64)) + (-7046029254386353131 : Int64)))), .second, .val (.ref b7), .val (.long (own_mix ((q1 + (-7046029254386353131 : Int64)) + (-7046029254386353131 : Int64)))), .second, .val (.ref b10), .val (.long (own_mix (q2 + (-7046029254386353131 : Int64)))), .second, .val (.ref b13), .val (.long (own_mix ((0 : Int64) + (-7046029254386353131 : Int64)))), .second, .val (.int (1 : Int32)), .unset, .unset]) rfl ?_
    show Steps p.tables e below (T15.setTop (mkF m 94 #[.val (.long q1), .second, .val (.long q2), .second, .val (.ref b3), .val (.long (own_mix (q1 + (-7046029254386353131 : Int64)))), .second, .val (.long (own_mix ((q1 + (-7046029254386353131 : Int64)) + (-7046029254386353131 : Int64)))), .second, .val (.ref b7), .val (.long (own_mix ((q1 + (-7046029254386353131 : Int64)) + (-7046029254386353131 : Int64)))), .second, .val (.ref b10), .val (.long (own_mix (q2 + (-7046029254386353131 : Int64)))), .second, .val (.ref b13), .val (.long (own_mix ((0 : Int64) + (-7046029254386353131 : Int64)))), .second, .val (.int (1 : Int32)), .unset, .unset] [])) _
    refine XS.lloadN X15.here hx rfl (hb hby at_94) rfl ?_
    show Steps p.tables e below (T15.setTop (mkF m 95 #[.val (.long q1), .second, .val (.long q2), .second, .val (.ref b3), .val (.long (own_mix (q1 + (-7046029254386353131 : Int64)))), .second, .val (.long (own_mix ((q1 + (-7046029254386353131 : Int64)) + (-7046029254386353131 : Int64)))), .second, .val (.ref b7), .val (.long (own_mix ((q1 + (-7046029254386353131 : Int64)) + (-7046029254386353131 : Int64)))), .second, .val (.ref b10), .val (.long (own_mix (q2 + (-7046029254386353131 : Int64)))), .second, .val (.ref b13), .val (.long (own_mix ((0 : Int64) + (-7046029254386353131 : Int64)))), .second, .val (.int (1 : Int32)), .unset, .unset] [(.long q1)])) _
    refine XS.lloadN X15.here hx rfl (hb hby at_95) rfl ?_
    show Steps p.tables e below (T15.setTop (mkF m 96 #[.val (.long q1), .second, .val (.long q2), .second, .val (.ref b3), .val (.long (own_mix (q1 + (-7046029254386353131 : Int64)))), .second, .val (.long (own_mix ((q1 + (-7046029254386353131 : Int64)) + (-7046029254386353131 : Int64)))), .second, .val (.ref b7), .val (.long (own_mix ((q1 + (-7046029254386353131 : Int64)) + (-7046029254386353131 : Int64)))), .second, .val (.ref b10), .val (.long (own_mix (q2 + (-7046029254386353131 : Int64)))), .second, .val (.ref b13), .val (.long (own_mix ((0 : Int64) + (-7046029254386353131 : Int64)))), .second, .val (.int (1 : Int32)), .unset, .unset] [(.long q2), (.long q1)])) _
    refine XS.lcmp X15.here hx rfl (hb hby at_96) rfl ?_
    show Steps p.tables e below (T15.setTop (mkF m 97 #[.val (.long q1), .second, .val (.long q2), .second, .val (.ref b3), .val (.long (own_mix (q1 + (-7046029254386353131 : Int64)))), .second, .val (.long (own_mix ((q1 + (-7046029254386353131 : Int64)) + (-7046029254386353131 : Int64)))), .second, .val (.ref b7), .val (.long (own_mix ((q1 + (-7046029254386353131 : Int64)) + (-7046029254386353131 : Int64)))), .second, .val (.ref b10), .val (.long (own_mix (q2 + (-7046029254386353131 : Int64)))), .second, .val (.ref b13), .val (.long (own_mix ((0 : Int64) + (-7046029254386353131 : Int64)))), .second, .val (.int (1 : Int32)), .unset, .unset] [(.int (lcmpW q1 q2))])) _
    refine XS.ifNo X15.here hx rfl (hb hby at_97) rfl ((if0 _ _).trans (teq hc97).2) ?_
    show Steps p.tables e below (T15.setTop (mkF m 100 #[.val (.long q1), .second, .val (.long q2), .second, .val (.ref b3), .val (.long (own_mix (q1 + (-7046029254386353131 : Int64)))), .second, .val (.long (own_mix ((q1 + (-7046029254386353131 : Int64)) + (-7046029254386353131 : Int64)))), .second, .val (.ref b7), .val (.long (own_mix ((q1 + (-7046029254386353131 : Int64)) + (-7046029254386353131 : Int64)))), .second, .val (.ref b10), .val (.long (own_mix (q2 + (-7046029254386353131 : Int64)))), .second, .val (.ref b13), .val (.long (own_mix ((0 : Int64) + (-7046029254386353131 : Int64)))), .second, .val (.int (1 : Int32)), .unset, .unset] [])) _
    refine XS.iconst X15.here hx rfl (hb hby at_100) ?_
    show Steps p.tables e below (T15.setTop (mkF m 101 #[.val (.long q1), .second, .val (.long q2), .second, .val (.ref b3), .val (.long (own_mix (q1 + (-7046029254386353131 : Int64)))), .second, .val (.long (own_mix ((q1 + (-7046029254386353131 : Int64)) + (-7046029254386353131 : Int64)))), .second, .val (.ref b7), .val (.long (own_mix ((q1 + (-7046029254386353131 : Int64)) + (-7046029254386353131 : Int64)))), .second, .val (.ref b10), .val (.long (own_mix (q2 + (-7046029254386353131 : Int64)))), .second, .val (.ref b13), .val (.long (own_mix ((0 : Int64) + (-7046029254386353131 : Int64)))), .second, .val (.int (1 : Int32)), .unset, .unset] [(.int (1 : Int32))])) _
    refine XS.goto X15.here hx rfl (pc0 := 101) (pc' := 105) rfl (hb hby at_101) (by decide) (by decide) ?_
    show Steps p.tables e below (T15.setTop (mkF m 105 #[.val (.long q1), .second, .val (.long q2), .second, .val (.ref b3), .val (.long (own_mix (q1 + (-7046029254386353131 : Int64)))), .second, .val (.long (own_mix ((q1 + (-7046029254386353131 : Int64)) + (-7046029254386353131 : Int64)))), .second, .val (.ref b7), .val (.long (own_mix ((q1 + (-7046029254386353131 : Int64)) + (-7046029254386353131 : Int64)))), .second, .val (.ref b10), .val (.long (own_mix (q2 + (-7046029254386353131 : Int64)))), .second, .val (.ref b13), .val (.long (own_mix ((0 : Int64) + (-7046029254386353131 : Int64)))), .second, .val (.int (1 : Int32)), .unset, .unset] [(.int (1 : Int32))])) _
    refine XS.lload X15.here hx rfl (hb hby at_105) rfl ?_
    show Steps p.tables e below (T15.setTop (mkF m 107 #[.val (.long q1), .second, .val (.long q2), .second, .val (.ref b3), .val (.long (own_mix (q1 + (-7046029254386353131 : Int64)))), .second, .val (.long (own_mix ((q1 + (-7046029254386353131 : Int64)) + (-7046029254386353131 : Int64)))), .second, .val (.ref b7), .val (.long (own_mix ((q1 + (-7046029254386353131 : Int64)) + (-7046029254386353131 : Int64)))), .second, .val (.ref b10), .val (.long (own_mix (q2 + (-7046029254386353131 : Int64)))), .second, .val (.ref b13), .val (.long (own_mix ((0 : Int64) + (-7046029254386353131 : Int64)))), .second, .val (.int (1 : Int32)), .unset, .unset] [(.long (own_mix (q1 + (-7046029254386353131 : Int64)))), (.int (1 : Int32))])) _
    refine XS.lload X15.here hx rfl (hb hby at_107) rfl ?_
    show Steps p.tables e below (T15.setTop (mkF m 109 #[.val (.long q1), .second, .val (.long q2), .second, .val (.ref b3), .val (.long (own_mix (q1 + (-7046029254386353131 : Int64)))), .second, .val (.long (own_mix ((q1 + (-7046029254386353131 : Int64)) + (-7046029254386353131 : Int64)))), .second, .val (.ref b7), .val (.long (own_mix ((q1 + (-7046029254386353131 : Int64)) + (-7046029254386353131 : Int64)))), .second, .val (.ref b10), .val (.long (own_mix (q2 + (-7046029254386353131 : Int64)))), .second, .val (.ref b13), .val (.long (own_mix ((0 : Int64) + (-7046029254386353131 : Int64)))), .second, .val (.int (1 : Int32)), .unset, .unset] [(.long (own_mix (q2 + (-7046029254386353131 : Int64)))), (.long (own_mix (q1 + (-7046029254386353131 : Int64)))), (.int (1 : Int32))])) _
    refine XS.lcmp X15.here hx rfl (hb hby at_109) rfl ?_
    show Steps p.tables e below (T15.setTop (mkF m 110 #[.val (.long q1), .second, .val (.long q2), .second, .val (.ref b3), .val (.long (own_mix (q1 + (-7046029254386353131 : Int64)))), .second, .val (.long (own_mix ((q1 + (-7046029254386353131 : Int64)) + (-7046029254386353131 : Int64)))), .second, .val (.ref b7), .val (.long (own_mix ((q1 + (-7046029254386353131 : Int64)) + (-7046029254386353131 : Int64)))), .second, .val (.ref b10), .val (.long (own_mix (q2 + (-7046029254386353131 : Int64)))), .second, .val (.ref b13), .val (.long (own_mix ((0 : Int64) + (-7046029254386353131 : Int64)))), .second, .val (.int (1 : Int32)), .unset, .unset] [(.int (lcmpW (own_mix (q1 + (-7046029254386353131 : Int64))) (own_mix (q2 + (-7046029254386353131 : Int64))))), (.int (1 : Int32))])) _
    refine XS.ifNo X15.here hx rfl (hb hby at_110) rfl ((if0 _ _).trans (teq (own_same hc97 : (lcmpW (own_mix (q1 + (-7046029254386353131 : Int64))) (own_mix (q2 + (-7046029254386353131 : Int64)))) = (0 : Int32))).2) ?_
    show Steps p.tables e below (T15.setTop (mkF m 113 #[.val (.long q1), .second, .val (.long q2), .second, .val (.ref b3), .val (.long (own_mix (q1 + (-7046029254386353131 : Int64)))), .second, .val (.long (own_mix ((q1 + (-7046029254386353131 : Int64)) + (-7046029254386353131 : Int64)))), .second, .val (.ref b7), .val (.long (own_mix ((q1 + (-7046029254386353131 : Int64)) + (-7046029254386353131 : Int64)))), .second, .val (.ref b10), .val (.long (own_mix (q2 + (-7046029254386353131 : Int64)))), .second, .val (.ref b13), .val (.long (own_mix ((0 : Int64) + (-7046029254386353131 : Int64)))), .second, .val (.int (1 : Int32)), .unset, .unset] [(.int (1 : Int32))])) _
    refine XS.iconst X15.here hx rfl (hb hby at_113) ?_
    show Steps p.tables e below (T15.setTop (mkF m 114 #[.val (.long q1), .second, .val (.long q2), .second, .val (.ref b3), .val (.long (own_mix (q1 + (-7046029254386353131 : Int64)))), .second, .val (.long (own_mix ((q1 + (-7046029254386353131 : Int64)) + (-7046029254386353131 : Int64)))), .second, .val (.ref b7), .val (.long (own_mix ((q1 + (-7046029254386353131 : Int64)) + (-7046029254386353131 : Int64)))), .second, .val (.ref b10), .val (.long (own_mix (q2 + (-7046029254386353131 : Int64)))), .second, .val (.ref b13), .val (.long (own_mix ((0 : Int64) + (-7046029254386353131 : Int64)))), .second, .val (.int (1 : Int32)), .unset, .unset] [(.int (1 : Int32)), (.int (1 : Int32))])) _
    refine XS.goto X15.here hx rfl (pc0 := 114) (pc' := 118) rfl (hb hby at_114) (by decide) (by decide) ?_
    show Steps p.tables e below (T15.setTop (mkF m 118 #[.val (.long q1), .second, .val (.long q2), .second, .val (.ref b3), .val (.long (own_mix (q1 + (-7046029254386353131 : Int64)))), .second, .val (.long (own_mix ((q1 + (-7046029254386353131 : Int64)) + (-7046029254386353131 : Int64)))), .second, .val (.ref b7), .val (.long (own_mix ((q1 + (-7046029254386353131 : Int64)) + (-7046029254386353131 : Int64)))), .second, .val (.ref b10), .val (.long (own_mix (q2 + (-7046029254386353131 : Int64)))), .second, .val (.ref b13), .val (.long (own_mix ((0 : Int64) + (-7046029254386353131 : Int64)))), .second, .val (.int (1 : Int32)), .unset, .unset] [(.int (1 : Int32)), (.int (1 : Int32))])) _
    refine XS.icmpNo X15.here hx rfl (hb hby at_118) rfl (teq (rfl : (1 : Int32) = (1 : Int32))).2 ?_
    show Steps p.tables e below (T15.setTop (mkF m 121 #[.val (.long q1), .second, .val (.long q2), .second, .val (.ref b3), .val (.long (own_mix (q1 + (-7046029254386353131 : Int64)))), .second, .val (.long (own_mix ((q1 + (-7046029254386353131 : Int64)) + (-7046029254386353131 : Int64)))), .second, .val (.ref b7), .val (.long (own_mix ((q1 + (-7046029254386353131 : Int64)) + (-7046029254386353131 : Int64)))), .second, .val (.ref b10), .val (.long (own_mix (q2 + (-7046029254386353131 : Int64)))), .second, .val (.ref b13), .val (.long (own_mix ((0 : Int64) + (-7046029254386353131 : Int64)))), .second, .val (.int (1 : Int32)), .unset, .unset] [])) _
    refine XS.iconst X15.here hx rfl (hb hby at_121) ?_
    show Steps p.tables e below (T15.setTop (mkF m 122 #[.val (.long q1), .second, .val (.long q2), .second, .val (.ref b3), .val (.long (own_mix (q1 + (-7046029254386353131 : Int64)))), .second, .val (.long (own_mix ((q1 + (-7046029254386353131 : Int64)) + (-7046029254386353131 : Int64)))), .second, .val (.ref b7), .val (.long (own_mix ((q1 + (-7046029254386353131 : Int64)) + (-7046029254386353131 : Int64)))), .second, .val (.ref b10), .val (.long (own_mix (q2 + (-7046029254386353131 : Int64)))), .second, .val (.ref b13), .val (.long (own_mix ((0 : Int64) + (-7046029254386353131 : Int64)))), .second, .val (.int (1 : Int32)), .unset, .unset] [(.int (1 : Int32))])) _
    refine XS.goto X15.here hx rfl (pc0 := 122) (pc' := 126) rfl (hb hby at_122) (by decide) (by decide) ?_
    show Steps p.tables e below (T15.setTop (mkF m 126 #[.val (.long q1), .second, .val (.long q2), .second, .val (.ref b3), .val (.long (own_mix (q1 + (-7046029254386353131 : Int64)))), .second, .val (.long (own_mix ((q1 + (-7046029254386353131 : Int64)) + (-7046029254386353131 : Int64)))), .second, .val (.ref b7), .val (.long (own_mix ((q1 + (-7046029254386353131 : Int64)) + (-7046029254386353131 : Int64)))), .second, .val (.ref b10), .val (.long (own_mix (q2 + (-7046029254386353131 : Int64)))), .second, .val (.ref b13), .val (.long (own_mix ((0 : Int64) + (-7046029254386353131 : Int64)))), .second, .val (.int (1 : Int32)), .unset, .unset] [(.int (1 : Int32))])) _
    refine XS.istore X15.here hx rfl (hb hby at_126) rfl (l' := #[.val (.long q1), .second, .val (.long q2), .second, .val (.ref b3), .val (.long (own_mix (q1 + (-7046029254386353131 : Int64)))), .second, .val (.long (own_mix ((q1 + (-7046029254386353131 : Int64)) + (-7046029254386353131 : Int64)))), .second, .val (.ref b7), .val (.long (own_mix ((q1 + (-7046029254386353131 : Int64)) + (-7046029254386353131 : Int64)))), .second, .val (.ref b10), .val (.long (own_mix (q2 + (-7046029254386353131 : Int64)))), .second, .val (.ref b13), .val (.long (own_mix ((0 : Int64) + (-7046029254386353131 : Int64)))), .second, .val (.int (1 : Int32)), .val (.int (1 : Int32)), .unset]) rfl ?_
    show Steps p.tables e below (T15.setTop (mkF m 128 #[.val (.long q1), .second, .val (.long q2), .second, .val (.ref b3), .val (.long (own_mix (q1 + (-7046029254386353131 : Int64)))), .second, .val (.long (own_mix ((q1 + (-7046029254386353131 : Int64)) + (-7046029254386353131 : Int64)))), .second, .val (.ref b7), .val (.long (own_mix ((q1 + (-7046029254386353131 : Int64)) + (-7046029254386353131 : Int64)))), .second, .val (.ref b10), .val (.long (own_mix (q2 + (-7046029254386353131 : Int64)))), .second, .val (.ref b13), .val (.long (own_mix ((0 : Int64) + (-7046029254386353131 : Int64)))), .second, .val (.int (1 : Int32)), .val (.int (1 : Int32)), .unset] [])) _
    refine XS.lload X15.here hx rfl (hb hby at_128) rfl ?_
    show Steps p.tables e below (T15.setTop (mkF m 130 #[.val (.long q1), .second, .val (.long q2), .second, .val (.ref b3), .val (.long (own_mix (q1 + (-7046029254386353131 : Int64)))), .second, .val (.long (own_mix ((q1 + (-7046029254386353131 : Int64)) + (-7046029254386353131 : Int64)))), .second, .val (.ref b7), .val (.long (own_mix ((q1 + (-7046029254386353131 : Int64)) + (-7046029254386353131 : Int64)))), .second, .val (.ref b10), .val (.long (own_mix (q2 + (-7046029254386353131 : Int64)))), .second, .val (.ref b13), .val (.long (own_mix ((0 : Int64) + (-7046029254386353131 : Int64)))), .second, .val (.int (1 : Int32)), .val (.int (1 : Int32)), .unset] [(.long (own_mix ((0 : Int64) + (-7046029254386353131 : Int64))))])) _
    refine X15.ldc2Long hx hown (mvT hZ (hw _ (List.mem_of_getElem? (i := 20) rfl))) (g := (mkF m 130 #[.val (.long q1), .second, .val (.long q2), .second, .val (.ref b3), .val (.long (own_mix (q1 + (-7046029254386353131 : Int64)))), .second, .val (.long (own_mix ((q1 + (-7046029254386353131 : Int64)) + (-7046029254386353131 : Int64)))), .second, .val (.ref b7), .val (.long (own_mix ((q1 + (-7046029254386353131 : Int64)) + (-7046029254386353131 : Int64)))), .second, .val (.ref b10), .val (.long (own_mix (q2 + (-7046029254386353131 : Int64)))), .second, .val (.ref b13), .val (.long (own_mix ((0 : Int64) + (-7046029254386353131 : Int64)))), .second, .val (.int (1 : Int32)), .val (.int (1 : Int32)), .unset] [(.long (own_mix ((0 : Int64) + (-7046029254386353131 : Int64))))])) rfl (hb hby at_130) _ ?_
    show Steps p.tables e below (T15.setTop (mkF m 133 #[.val (.long q1), .second, .val (.long q2), .second, .val (.ref b3), .val (.long (own_mix (q1 + (-7046029254386353131 : Int64)))), .second, .val (.long (own_mix ((q1 + (-7046029254386353131 : Int64)) + (-7046029254386353131 : Int64)))), .second, .val (.ref b7), .val (.long (own_mix ((q1 + (-7046029254386353131 : Int64)) + (-7046029254386353131 : Int64)))), .second, .val (.ref b10), .val (.long (own_mix (q2 + (-7046029254386353131 : Int64)))), .second, .val (.ref b13), .val (.long (own_mix ((0 : Int64) + (-7046029254386353131 : Int64)))), .second, .val (.int (1 : Int32)), .val (.int (1 : Int32)), .unset] [(.long (-2152535657050944081 : Int64)), (.long (own_mix ((0 : Int64) + (-7046029254386353131 : Int64))))])) _
    refine XS.lcmp X15.here hx rfl (hb hby at_133) rfl ?_
    show Steps p.tables e below (T15.setTop (mkF m 134 #[.val (.long q1), .second, .val (.long q2), .second, .val (.ref b3), .val (.long (own_mix (q1 + (-7046029254386353131 : Int64)))), .second, .val (.long (own_mix ((q1 + (-7046029254386353131 : Int64)) + (-7046029254386353131 : Int64)))), .second, .val (.ref b7), .val (.long (own_mix ((q1 + (-7046029254386353131 : Int64)) + (-7046029254386353131 : Int64)))), .second, .val (.ref b10), .val (.long (own_mix (q2 + (-7046029254386353131 : Int64)))), .second, .val (.ref b13), .val (.long (own_mix ((0 : Int64) + (-7046029254386353131 : Int64)))), .second, .val (.int (1 : Int32)), .val (.int (1 : Int32)), .unset] [(.int (lcmpW (own_mix ((0 : Int64) + (-7046029254386353131 : Int64))) (-2152535657050944081 : Int64)))])) _
    refine XS.ifNo X15.here hx rfl (hb hby at_134) rfl ((if0 _ _).trans (teq (own_known : (lcmpW (own_mix ((0 : Int64) + (-7046029254386353131 : Int64))) (-2152535657050944081 : Int64)) = (0 : Int32))).2) ?_
    show Steps p.tables e below (T15.setTop (mkF m 137 #[.val (.long q1), .second, .val (.long q2), .second, .val (.ref b3), .val (.long (own_mix (q1 + (-7046029254386353131 : Int64)))), .second, .val (.long (own_mix ((q1 + (-7046029254386353131 : Int64)) + (-7046029254386353131 : Int64)))), .second, .val (.ref b7), .val (.long (own_mix ((q1 + (-7046029254386353131 : Int64)) + (-7046029254386353131 : Int64)))), .second, .val (.ref b10), .val (.long (own_mix (q2 + (-7046029254386353131 : Int64)))), .second, .val (.ref b13), .val (.long (own_mix ((0 : Int64) + (-7046029254386353131 : Int64)))), .second, .val (.int (1 : Int32)), .val (.int (1 : Int32)), .unset] [])) _
    refine XS.iconst X15.here hx rfl (hb hby at_137) ?_
    show Steps p.tables e below (T15.setTop (mkF m 138 #[.val (.long q1), .second, .val (.long q2), .second, .val (.ref b3), .val (.long (own_mix (q1 + (-7046029254386353131 : Int64)))), .second, .val (.long (own_mix ((q1 + (-7046029254386353131 : Int64)) + (-7046029254386353131 : Int64)))), .second, .val (.ref b7), .val (.long (own_mix ((q1 + (-7046029254386353131 : Int64)) + (-7046029254386353131 : Int64)))), .second, .val (.ref b10), .val (.long (own_mix (q2 + (-7046029254386353131 : Int64)))), .second, .val (.ref b13), .val (.long (own_mix ((0 : Int64) + (-7046029254386353131 : Int64)))), .second, .val (.int (1 : Int32)), .val (.int (1 : Int32)), .unset] [(.int (1 : Int32))])) _
    refine XS.goto X15.here hx rfl (pc0 := 138) (pc' := 142) rfl (hb hby at_138) (by decide) (by decide) ?_
    show Steps p.tables e below (T15.setTop (mkF m 142 #[.val (.long q1), .second, .val (.long q2), .second, .val (.ref b3), .val (.long (own_mix (q1 + (-7046029254386353131 : Int64)))), .second, .val (.long (own_mix ((q1 + (-7046029254386353131 : Int64)) + (-7046029254386353131 : Int64)))), .second, .val (.ref b7), .val (.long (own_mix ((q1 + (-7046029254386353131 : Int64)) + (-7046029254386353131 : Int64)))), .second, .val (.ref b10), .val (.long (own_mix (q2 + (-7046029254386353131 : Int64)))), .second, .val (.ref b13), .val (.long (own_mix ((0 : Int64) + (-7046029254386353131 : Int64)))), .second, .val (.int (1 : Int32)), .val (.int (1 : Int32)), .unset] [(.int (1 : Int32))])) _
    refine XS.istore X15.here hx rfl (hb hby at_142) rfl (l' := #[.val (.long q1), .second, .val (.long q2), .second, .val (.ref b3), .val (.long (own_mix (q1 + (-7046029254386353131 : Int64)))), .second, .val (.long (own_mix ((q1 + (-7046029254386353131 : Int64)) + (-7046029254386353131 : Int64)))), .second, .val (.ref b7), .val (.long (own_mix ((q1 + (-7046029254386353131 : Int64)) + (-7046029254386353131 : Int64)))), .second, .val (.ref b10), .val (.long (own_mix (q2 + (-7046029254386353131 : Int64)))), .second, .val (.ref b13), .val (.long (own_mix ((0 : Int64) + (-7046029254386353131 : Int64)))), .second, .val (.int (1 : Int32)), .val (.int (1 : Int32)), .val (.int (1 : Int32))]) rfl ?_
    show Steps p.tables e below (T15.setTop (mkF m 144 #[.val (.long q1), .second, .val (.long q2), .second, .val (.ref b3), .val (.long (own_mix (q1 + (-7046029254386353131 : Int64)))), .second, .val (.long (own_mix ((q1 + (-7046029254386353131 : Int64)) + (-7046029254386353131 : Int64)))), .second, .val (.ref b7), .val (.long (own_mix ((q1 + (-7046029254386353131 : Int64)) + (-7046029254386353131 : Int64)))), .second, .val (.ref b10), .val (.long (own_mix (q2 + (-7046029254386353131 : Int64)))), .second, .val (.ref b13), .val (.long (own_mix ((0 : Int64) + (-7046029254386353131 : Int64)))), .second, .val (.int (1 : Int32)), .val (.int (1 : Int32)), .val (.int (1 : Int32))] [])) _
    refine XS.iload X15.here hx rfl (hb hby at_144) rfl ?_
    show Steps p.tables e below (T15.setTop (mkF m 146 #[.val (.long q1), .second, .val (.long q2), .second, .val (.ref b3), .val (.long (own_mix (q1 + (-7046029254386353131 : Int64)))), .second, .val (.long (own_mix ((q1 + (-7046029254386353131 : Int64)) + (-7046029254386353131 : Int64)))), .second, .val (.ref b7), .val (.long (own_mix ((q1 + (-7046029254386353131 : Int64)) + (-7046029254386353131 : Int64)))), .second, .val (.ref b10), .val (.long (own_mix (q2 + (-7046029254386353131 : Int64)))), .second, .val (.ref b13), .val (.long (own_mix ((0 : Int64) + (-7046029254386353131 : Int64)))), .second, .val (.int (1 : Int32)), .val (.int (1 : Int32)), .val (.int (1 : Int32))] [(.int (1 : Int32))])) _
    refine XS.ifNo X15.here hx rfl (hb hby at_146) rfl ((if0 _ _).trans (feq hc146).1) ?_
    show Steps p.tables e below (T15.setTop (mkF m 149 #[.val (.long q1), .second, .val (.long q2), .second, .val (.ref b3), .val (.long (own_mix (q1 + (-7046029254386353131 : Int64)))), .second, .val (.long (own_mix ((q1 + (-7046029254386353131 : Int64)) + (-7046029254386353131 : Int64)))), .second, .val (.ref b7), .val (.long (own_mix ((q1 + (-7046029254386353131 : Int64)) + (-7046029254386353131 : Int64)))), .second, .val (.ref b10), .val (.long (own_mix (q2 + (-7046029254386353131 : Int64)))), .second, .val (.ref b13), .val (.long (own_mix ((0 : Int64) + (-7046029254386353131 : Int64)))), .second, .val (.int (1 : Int32)), .val (.int (1 : Int32)), .val (.int (1 : Int32))] [])) _
    refine XS.iload X15.here hx rfl (hb hby at_149) rfl ?_
    show Steps p.tables e below (T15.setTop (mkF m 151 #[.val (.long q1), .second, .val (.long q2), .second, .val (.ref b3), .val (.long (own_mix (q1 + (-7046029254386353131 : Int64)))), .second, .val (.long (own_mix ((q1 + (-7046029254386353131 : Int64)) + (-7046029254386353131 : Int64)))), .second, .val (.ref b7), .val (.long (own_mix ((q1 + (-7046029254386353131 : Int64)) + (-7046029254386353131 : Int64)))), .second, .val (.ref b10), .val (.long (own_mix (q2 + (-7046029254386353131 : Int64)))), .second, .val (.ref b13), .val (.long (own_mix ((0 : Int64) + (-7046029254386353131 : Int64)))), .second, .val (.int (1 : Int32)), .val (.int (1 : Int32)), .val (.int (1 : Int32))] [(.int (1 : Int32))])) _
    refine XS.ifNo X15.here hx rfl (hb hby at_151) rfl ((if0 _ _).trans (feq hc151).1) ?_
    show Steps p.tables e below (T15.setTop (mkF m 154 #[.val (.long q1), .second, .val (.long q2), .second, .val (.ref b3), .val (.long (own_mix (q1 + (-7046029254386353131 : Int64)))), .second, .val (.long (own_mix ((q1 + (-7046029254386353131 : Int64)) + (-7046029254386353131 : Int64)))), .second, .val (.ref b7), .val (.long (own_mix ((q1 + (-7046029254386353131 : Int64)) + (-7046029254386353131 : Int64)))), .second, .val (.ref b10), .val (.long (own_mix (q2 + (-7046029254386353131 : Int64)))), .second, .val (.ref b13), .val (.long (own_mix ((0 : Int64) + (-7046029254386353131 : Int64)))), .second, .val (.int (1 : Int32)), .val (.int (1 : Int32)), .val (.int (1 : Int32))] [])) _
    refine XS.iload X15.here hx rfl (hb hby at_154) rfl ?_
    show Steps p.tables e below (T15.setTop (mkF m 156 #[.val (.long q1), .second, .val (.long q2), .second, .val (.ref b3), .val (.long (own_mix (q1 + (-7046029254386353131 : Int64)))), .second, .val (.long (own_mix ((q1 + (-7046029254386353131 : Int64)) + (-7046029254386353131 : Int64)))), .second, .val (.ref b7), .val (.long (own_mix ((q1 + (-7046029254386353131 : Int64)) + (-7046029254386353131 : Int64)))), .second, .val (.ref b10), .val (.long (own_mix (q2 + (-7046029254386353131 : Int64)))), .second, .val (.ref b13), .val (.long (own_mix ((0 : Int64) + (-7046029254386353131 : Int64)))), .second, .val (.int (1 : Int32)), .val (.int (1 : Int32)), .val (.int (1 : Int32))] [(.int (1 : Int32))])) _
    refine XS.ifNo X15.here hx rfl (hb hby at_156) rfl ((if0 _ _).trans (feq hc156).1) ?_
    show Steps p.tables e below (T15.setTop (mkF m 159 #[.val (.long q1), .second, .val (.long q2), .second, .val (.ref b3), .val (.long (own_mix (q1 + (-7046029254386353131 : Int64)))), .second, .val (.long (own_mix ((q1 + (-7046029254386353131 : Int64)) + (-7046029254386353131 : Int64)))), .second, .val (.ref b7), .val (.long (own_mix ((q1 + (-7046029254386353131 : Int64)) + (-7046029254386353131 : Int64)))), .second, .val (.ref b10), .val (.long (own_mix (q2 + (-7046029254386353131 : Int64)))), .second, .val (.ref b13), .val (.long (own_mix ((0 : Int64) + (-7046029254386353131 : Int64)))), .second, .val (.int (1 : Int32)), .val (.int (1 : Int32)), .val (.int (1 : Int32))] [])) _
    refine XS.iconst X15.here hx rfl (hb hby at_159) ?_
    show Steps p.tables e below (T15.setTop (mkF m 160 #[.val (.long q1), .second, .val (.long q2), .second, .val (.ref b3), .val (.long (own_mix (q1 + (-7046029254386353131 : Int64)))), .second, .val (.long (own_mix ((q1 + (-7046029254386353131 : Int64)) + (-7046029254386353131 : Int64)))), .second, .val (.ref b7), .val (.long (own_mix ((q1 + (-7046029254386353131 : Int64)) + (-7046029254386353131 : Int64)))), .second, .val (.ref b10), .val (.long (own_mix (q2 + (-7046029254386353131 : Int64)))), .second, .val (.ref b13), .val (.long (own_mix ((0 : Int64) + (-7046029254386353131 : Int64)))), .second, .val (.int (1 : Int32)), .val (.int (1 : Int32)), .val (.int (1 : Int32))] [(.int (1 : Int32))])) _
    refine XS.goto X15.here hx rfl (pc0 := 160) (pc' := 164) rfl (hb hby at_160) (by decide) (by decide) ?_
    show Steps p.tables e below (T15.setTop (mkF m 164 #[.val (.long q1), .second, .val (.long q2), .second, .val (.ref b3), .val (.long (own_mix (q1 + (-7046029254386353131 : Int64)))), .second, .val (.long (own_mix ((q1 + (-7046029254386353131 : Int64)) + (-7046029254386353131 : Int64)))), .second, .val (.ref b7), .val (.long (own_mix ((q1 + (-7046029254386353131 : Int64)) + (-7046029254386353131 : Int64)))), .second, .val (.ref b10), .val (.long (own_mix (q2 + (-7046029254386353131 : Int64)))), .second, .val (.ref b13), .val (.long (own_mix ((0 : Int64) + (-7046029254386353131 : Int64)))), .second, .val (.int (1 : Int32)), .val (.int (1 : Int32)), .val (.int (1 : Int32))] [(.int (1 : Int32))])) _
    exact retN X15 hx (t := .boolean) Bd.returns (by simp) (hb hby at_164) hr
  · show Q0 Z q1 q2 h0 n0 _ T15.heap _
    exact ⟨rfl, N15⟩
set_option maxRecDepth 65536 in
set_option maxHeartbeats 40000000 in
theorem rm0b (l : Launch) (Z : State) (a0 : Array Value) (hw : ∀ d ∈ tables_1, d.before a0 Z = true) (ws : List Jvm.Cond) (q1 : Int64) (q2 : Int64) (h0 : Heap) (n0 : Nat) (Z0 : n0 ≤ h0.size) (hc97 : ¬ ((lcmpW q1 q2) = (0 : Int32))) (hc146 : ¬ ((1 : Int32) = (0 : Int32))) (hc151 : ¬ ((1 : Int32) = (0 : Int32))) (hc156 : ¬ ((1 : Int32) = (0 : Int32))) :
    MetFree l x (head1 (Jvm.Cond.code x code maxLocals ret :: ws) room_1) (fun a U => a = #[(.long q1), (.long q2)] ∧ Z.Warmed39 U.vm ∧ U.heap = h0) (fun _ _ _ _ _ => True) (fun _ U o U' => ∃ v L, o = .returned v ∧ Q0 Z q1 q2 h0 n0 v U'.heap L ∧ FrameEnd U o U' L room_1.cells room_1.slots) := by
  refine MetFree.of_bodySF (plainFor_of_name pn_0) hisR ?_
  intro p e s m args below meth c s₁ Bd hml0 hP hK
  obtain ⟨rfl, hZ, hh⟩ := hP
  have hx := Bd.exec
  have hby := Bd.bytes
  have hml : c.maxLocals = 21 := hml0
  have hown : s.vm.findClass "com/example/slotwise/slotwise/SplitMix64NextLongPinLaw" = some m.cls := findClass_of_methodNamed Bd.named
  have hnm := (name_of_methodNamed Bd.named Bd.method).1
  have X0 : Stand p l e room_1 s m #[(.long q1), (.long q2)] below meth c s₁ [] 0 0 := Stand.of_body Bd
  have e0 : s₁.heap = h0 := by rw [← hh, Bd.state]; rfl
  have N0 := Fr.nil n0
  have pre0 : ∀ t, Steps p.tables e below (s₁.setTop (mkF m 0 #[.val (.long q1), .second, .val (.long q2), .second, .unset, .unset, .unset, .unset, .unset, .unset, .unset, .unset, .unset, .unset, .unset, .unset, .unset, .unset, .unset, .unset, .unset] [])) t → Steps p.tables e below (s₁.setTop (entryFrame m #[(.long q1), (.long q2)] maxLocals)) t := fun t k => castTop (ef_0 m q1 q2) k
  obtain ⟨T3, h3, X3, e3, E3, A3, D3, -, st3⟩ := newO X0 hx hZ hown (hw _ (List.mem_of_getElem? (i := 0) rfl)) (hw _ (List.mem_of_getElem? (i := 1) rfl)) (hw _ (List.mem_of_getElem? (i := 2) rfl)) e0 (g := (mkF m 0 #[.val (.long q1), .second, .val (.long q2), .second, .unset, .unset, .unset, .unset, .unset, .unset, .unset, .unset, .unset, .unset, .unset, .unset, .unset, .unset, .unset, .unset, .unset] [])) rfl (hb hby at_0) (by decide) (by decide)
  obtain ⟨b3, g3⟩ : ∃ z, z = h0.size := ⟨_, rfl⟩
  have Zs3 := Nat.le_trans Z0 E3.1
  rw [← g3] at A3 D3 st3
  have F_state_b3 : Fld Z h3 b3 "com/example/slotwise/slotwise/SplitMix64" "state" "J" (.long (0 : Int64)) := D3 (Or.inl (hw _ (List.mem_of_getElem? (i := 10) rfl))) (ty := .long) (by decide)
  have E_b3 := A3
  have g_b3 : n0 ≤ b3 := Nat.le_trans Z0 (Nat.le_of_eq g3.symm)
  obtain ⟨_, _, ⟨T4, L4, k4, n4⟩, -, X4, ⟨Lc4, hQ4, l4, y4, z4⟩, st4⟩ := X3.specialBack hx (y := (⟨"com/example/slotwise/slotwise/SplitMix64", "<init>", "(J)V"⟩ : MethodName)) rfl hown (mvT hZ (hw _ (List.mem_of_getElem? (i := 3) rfl))) (mvT hZ (hw _ (List.mem_of_getElem? (i := 4) rfl))) (mvT hZ (hw _ (List.mem_of_getElem? (i := 5) rfl))) (by decide) (backOf (W := 1) (rm1 l Z a0 hw [] b3 q1 _ h3 n0 Zs3 E_b3 F_state_b3 g_b3) hZ (hw _ (List.mem_of_getElem? (i := 5) rfl)) (hw _ (List.mem_of_getElem? (i := 2) rfl)) (by decide) (by decide)) (g := (mkF m 5 #[.val (.long q1), .second, .val (.long q2), .second, .unset, .unset, .unset, .unset, .unset, .unset, .unset, .unset, .unset, .unset, .unset, .unset, .unset, .unset, .unset, .unset, .unset] [(.long q1), (.ref b3), (.ref b3)])) rfl (by rw [hml]; rfl) (Steps.refl _) (a := b3) (argsL := [(.long q1)]) (rest := [(.ref b3)]) (lenOf pd_0_0 rfl) rfl (by show 2 * 0 + _ ≤ _; exact Nat.le_of_eq rfl) (hb hby at_5) (fun _ _ => ⟨rfl, e3, (by decide : 1 + 0 ≤ _), (by decide : 1 + 0 ≤ _)⟩)
  dsimp only [Pt.U, Pt.locs, Pt.cells, Pt.slots] at X4 l4 y4 z4 st4 hQ4
  subst l4 y4 z4
  obtain ⟨rfl, N4q, Kc4, Ex4, Fl4⟩ := hQ4
  have N4 := Fr.app N0 N4q
  have Zc4 := Kc4.1
  have Zs4 := Nat.le_trans Zs3 Zc4
  obtain ⟨cq5, kq5, q5a, q5b, q5c⟩ := isOf hZ rfl (E_b3.keep Kc4)
  obtain ⟨_, _, ⟨T5, L5, k5, n5⟩, -, X5, ⟨Lc5, hQ5, l5, y5, z5⟩, st5⟩ := X4.virtualBack hx (y := (⟨"com/example/slotwise/slotwise/SplitMix64", "nextLong", "()J"⟩ : MethodName)) (z := (⟨"com/example/slotwise/slotwise/SplitMix64", "nextLong", "()J"⟩ : MethodName)) hown (mvT hZ (hw _ (List.mem_of_getElem? (i := 11) rfl))) (mvT hZ (hw _ (List.mem_of_getElem? (i := 12) rfl))) (notFace_of_selects (args := #[]) (mvT hZ (hw _ (List.mem_of_getElem? (i := 14) rfl)))) (mvT hZ (hw _ (List.mem_of_getElem? (i := 14) rfl))) (mvT hZ (hw _ (List.mem_of_getElem? (i := 13) rfl))) (by decide) (backOf (W := 0) (rm3 l Z a0 hw [] b3 q1 T4.heap n0 Zs4 Fl4 Ex4 g_b3) hZ (hw _ (List.mem_of_getElem? (i := 15) rfl)) (hw _ (List.mem_of_getElem? (i := 2) rfl)) (by decide) (by decide)) q5a q5c (g := (mkF m 12 #[.val (.long q1), .second, .val (.long q2), .second, .val (.ref b3), .unset, .unset, .unset, .unset, .unset, .unset, .unset, .unset, .unset, .unset, .unset, .unset, .unset, .unset, .unset, .unset] [(.ref b3)])) rfl (by rw [hml]; rfl) (Steps.refl _) (argsL := []) (rest := []) (lenOf pd_0_2 rfl) rfl (by show 2 * 0 + _ ≤ _; exact Nat.le_of_eq rfl) (hb hby at_12) (fun _ _ => ⟨rfl, rfl, (by decide : 1 + 0 ≤ _), (by decide : 1 + 0 ≤ _)⟩)
  dsimp only [Pt.U, Pt.locs, Pt.cells, Pt.slots] at X5 l5 y5 z5 st5 hQ5
  subst l5 y5 z5
  obtain ⟨rfl, N5q, Kc5, Ex5, Fl5⟩ := hQ5
  have N5 := Fr.app N4 N5q
  have Zc5 := Kc5.1
  have Zs5 := Nat.le_trans Zs4 Zc5
  obtain ⟨cq6, kq6, q6a, q6b, q6c⟩ := isOf hZ rfl ((E_b3.keep Kc4).keep Kc5)
  obtain ⟨_, _, ⟨T6, L6, k6, n6⟩, -, X6, ⟨Lc6, hQ6, l6, y6, z6⟩, st6⟩ := X5.virtualBack hx (y := (⟨"com/example/slotwise/slotwise/SplitMix64", "nextLong", "()J"⟩ : MethodName)) (z := (⟨"com/example/slotwise/slotwise/SplitMix64", "nextLong", "()J"⟩ : MethodName)) hown (mvT hZ (hw _ (List.mem_of_getElem? (i := 11) rfl))) (mvT hZ (hw _ (List.mem_of_getElem? (i := 12) rfl))) (notFace_of_selects (args := #[]) (mvT hZ (hw _ (List.mem_of_getElem? (i := 14) rfl)))) (mvT hZ (hw _ (List.mem_of_getElem? (i := 14) rfl))) (mvT hZ (hw _ (List.mem_of_getElem? (i := 13) rfl))) (by decide) (backOf (W := 0) (rm3 l Z a0 hw [] b3 (q1 + (-7046029254386353131 : Int64)) T5.heap n0 Zs5 Fl5 Ex5 g_b3) hZ (hw _ (List.mem_of_getElem? (i := 15) rfl)) (hw _ (List.mem_of_getElem? (i := 2) rfl)) (by decide) (by decide)) q6a q6c (g := (mkF m 19 #[.val (.long q1), .second, .val (.long q2), .second, .val (.ref b3), .val (.long (own_mix (q1 + (-7046029254386353131 : Int64)))), .second, .unset, .unset, .unset, .unset, .unset, .unset, .unset, .unset, .unset, .unset, .unset, .unset, .unset, .unset] [(.ref b3)])) rfl (by rw [hml]; rfl) (Steps.refl _) (argsL := []) (rest := []) (lenOf pd_0_2 rfl) rfl (by show 2 * 0 + _ ≤ _; exact Nat.le_of_eq rfl) (hb hby at_19) (fun _ _ => ⟨rfl, rfl, (by decide : 1 + 0 ≤ _), (by decide : 1 + 0 ≤ _)⟩)
  dsimp only [Pt.U, Pt.locs, Pt.cells, Pt.slots] at X6 l6 y6 z6 st6 hQ6
  subst l6 y6 z6
  obtain ⟨rfl, N6q, Kc6, Ex6, Fl6⟩ := hQ6
  have N6 := Fr.app N5 N6q
  have Zc6 := Kc6.1
  have Zs6 := Nat.le_trans Zs5 Zc6
  obtain ⟨T7, h7, X7, e7, E7, A7, D7, -, st7⟩ := newO X6 hx hZ hown (hw _ (List.mem_of_getElem? (i := 0) rfl)) (hw _ (List.mem_of_getElem? (i := 1) rfl)) (hw _ (List.mem_of_getElem? (i := 2) rfl)) rfl (g := (mkF m 24 #[.val (.long q1), .second, .val (.long q2), .second, .val (.ref b3), .val (.long (own_mix (q1 + (-7046029254386353131 : Int64)))), .second, .val (.long (own_mix ((q1 + (-7046029254386353131 : Int64)) + (-7046029254386353131 : Int64)))), .second, .unset, .unset, .unset, .unset, .unset, .unset, .unset, .unset, .unset, .unset, .unset, .unset] [])) rfl (hb hby at_24) (by decide) (by decide)
  obtain ⟨b7, g7⟩ : ∃ z, z = T6.heap.size := ⟨_, rfl⟩
  have Zs7 := Nat.le_trans Zs6 E7.1
  rw [← g7] at A7 D7 st7
  have F_state_b7 : Fld Z h7 b7 "com/example/slotwise/slotwise/SplitMix64" "state" "J" (.long (0 : Int64)) := D7 (Or.inl (hw _ (List.mem_of_getElem? (i := 10) rfl))) (ty := .long) (by decide)
  have E_b7 := A7
  have g_b7 : n0 ≤ b7 := Nat.le_trans (Nat.le_trans (Nat.le_trans (Nat.le_trans (Nat.le_trans Z0 E3.1) Zc4) Zc5) Zc6) (Nat.le_of_eq g7.symm)
  obtain ⟨_, _, ⟨T8, L8, k8, n8⟩, -, X8, ⟨Lc8, hQ8, l8, y8, z8⟩, st8⟩ := X7.specialBack hx (y := (⟨"com/example/slotwise/slotwise/SplitMix64", "<init>", "(J)V"⟩ : MethodName)) rfl hown (mvT hZ (hw _ (List.mem_of_getElem? (i := 3) rfl))) (mvT hZ (hw _ (List.mem_of_getElem? (i := 4) rfl))) (mvT hZ (hw _ (List.mem_of_getElem? (i := 5) rfl))) (by decide) (backOf (W := 1) (rm1 l Z a0 hw [] b7 (q1 + (-7046029254386353131 : Int64)) _ h7 n0 Zs7 E_b7 F_state_b7 g_b7) hZ (hw _ (List.mem_of_getElem? (i := 5) rfl)) (hw _ (List.mem_of_getElem? (i := 2) rfl)) (by decide) (by decide)) (g := (mkF m 33 #[.val (.long q1), .second, .val (.long q2), .second, .val (.ref b3), .val (.long (own_mix (q1 + (-7046029254386353131 : Int64)))), .second, .val (.long (own_mix ((q1 + (-7046029254386353131 : Int64)) + (-7046029254386353131 : Int64)))), .second, .unset, .unset, .unset, .unset, .unset, .unset, .unset, .unset, .unset, .unset, .unset, .unset] [(.long (q1 + (-7046029254386353131 : Int64))), (.ref b7), (.ref b7)])) rfl (by rw [hml]; rfl) (Steps.refl _) (a := b7) (argsL := [(.long (q1 + (-7046029254386353131 : Int64)))]) (rest := [(.ref b7)]) (lenOf pd_0_0 rfl) rfl (by show 2 * 0 + _ ≤ _; exact Nat.le_of_eq rfl) (hb hby at_33) (fun _ _ => ⟨rfl, e7, (by decide : 2 + 0 ≤ _), (by decide : 2 + 0 ≤ _)⟩)
  dsimp only [Pt.U, Pt.locs, Pt.cells, Pt.slots] at X8 l8 y8 z8 st8 hQ8
  subst l8 y8 z8
  obtain ⟨rfl, N8q, Kc8, Ex8, Fl8⟩ := hQ8
  have N8 := Fr.app N6 N8q
  have Zc8 := Kc8.1
  have Zs8 := Nat.le_trans Zs7 Zc8
  obtain ⟨cq9, kq9, q9a, q9b, q9c⟩ := isOf hZ rfl (E_b7.keep Kc8)
  obtain ⟨_, _, ⟨T9, L9, k9, n9⟩, -, X9, ⟨Lc9, hQ9, l9, y9, z9⟩, st9⟩ := X8.virtualBack hx (y := (⟨"com/example/slotwise/slotwise/SplitMix64", "nextLong", "()J"⟩ : MethodName)) (z := (⟨"com/example/slotwise/slotwise/SplitMix64", "nextLong", "()J"⟩ : MethodName)) hown (mvT hZ (hw _ (List.mem_of_getElem? (i := 11) rfl))) (mvT hZ (hw _ (List.mem_of_getElem? (i := 12) rfl))) (notFace_of_selects (args := #[]) (mvT hZ (hw _ (List.mem_of_getElem? (i := 14) rfl)))) (mvT hZ (hw _ (List.mem_of_getElem? (i := 14) rfl))) (mvT hZ (hw _ (List.mem_of_getElem? (i := 13) rfl))) (by decide) (backOf (W := 0) (rm3 l Z a0 hw [] b7 (q1 + (-7046029254386353131 : Int64)) T8.heap n0 Zs8 Fl8 Ex8 g_b7) hZ (hw _ (List.mem_of_getElem? (i := 15) rfl)) (hw _ (List.mem_of_getElem? (i := 2) rfl)) (by decide) (by decide)) q9a q9c (g := (mkF m 40 #[.val (.long q1), .second, .val (.long q2), .second, .val (.ref b3), .val (.long (own_mix (q1 + (-7046029254386353131 : Int64)))), .second, .val (.long (own_mix ((q1 + (-7046029254386353131 : Int64)) + (-7046029254386353131 : Int64)))), .second, .val (.ref b7), .unset, .unset, .unset, .unset, .unset, .unset, .unset, .unset, .unset, .unset, .unset] [(.ref b7)])) rfl (by rw [hml]; rfl) (Steps.refl _) (argsL := []) (rest := []) (lenOf pd_0_2 rfl) rfl (by show 2 * 0 + _ ≤ _; exact Nat.le_of_eq rfl) (hb hby at_40) (fun _ _ => ⟨rfl, rfl, (by decide : 2 + 0 ≤ _), (by decide : 2 + 0 ≤ _)⟩)
  dsimp only [Pt.U, Pt.locs, Pt.cells, Pt.slots] at X9 l9 y9 z9 st9 hQ9
  subst l9 y9 z9
  obtain ⟨rfl, N9q, Kc9, Ex9, Fl9⟩ := hQ9
  have N9 := Fr.app N8 N9q
  have Zc9 := Kc9.1
  have Zs9 := Nat.le_trans Zs8 Zc9
  obtain ⟨T10, h10, X10, e10, E10, A10, D10, -, st10⟩ := newO X9 hx hZ hown (hw _ (List.mem_of_getElem? (i := 0) rfl)) (hw _ (List.mem_of_getElem? (i := 1) rfl)) (hw _ (List.mem_of_getElem? (i := 2) rfl)) rfl (g := (mkF m 45 #[.val (.long q1), .second, .val (.long q2), .second, .val (.ref b3), .val (.long (own_mix (q1 + (-7046029254386353131 : Int64)))), .second, .val (.long (own_mix ((q1 + (-7046029254386353131 : Int64)) + (-7046029254386353131 : Int64)))), .second, .val (.ref b7), .val (.long (own_mix ((q1 + (-7046029254386353131 : Int64)) + (-7046029254386353131 : Int64)))), .second, .unset, .unset, .unset, .unset, .unset, .unset, .unset, .unset, .unset] [])) rfl (hb hby at_45) (by decide) (by decide)
  obtain ⟨b10, g10⟩ : ∃ z, z = T9.heap.size := ⟨_, rfl⟩
  have Zs10 := Nat.le_trans Zs9 E10.1
  rw [← g10] at A10 D10 st10
  have F_state_b10 : Fld Z h10 b10 "com/example/slotwise/slotwise/SplitMix64" "state" "J" (.long (0 : Int64)) := D10 (Or.inl (hw _ (List.mem_of_getElem? (i := 10) rfl))) (ty := .long) (by decide)
  have E_b10 := A10
  have g_b10 : n0 ≤ b10 := Nat.le_trans (Nat.le_trans (Nat.le_trans (Nat.le_trans (Nat.le_trans (Nat.le_trans (Nat.le_trans (Nat.le_trans Z0 E3.1) Zc4) Zc5) Zc6) E7.1) Zc8) Zc9) (Nat.le_of_eq g10.symm)
  obtain ⟨_, _, ⟨T11, L11, k11, n11⟩, -, X11, ⟨Lc11, hQ11, l11, y11, z11⟩, st11⟩ := X10.specialBack hx (y := (⟨"com/example/slotwise/slotwise/SplitMix64", "<init>", "(J)V"⟩ : MethodName)) rfl hown (mvT hZ (hw _ (List.mem_of_getElem? (i := 3) rfl))) (mvT hZ (hw _ (List.mem_of_getElem? (i := 4) rfl))) (mvT hZ (hw _ (List.mem_of_getElem? (i := 5) rfl))) (by decide) (backOf (W := 1) (rm1 l Z a0 hw [] b10 q2 _ h10 n0 Zs10 E_b10 F_state_b10 g_b10) hZ (hw _ (List.mem_of_getElem? (i := 5) rfl)) (hw _ (List.mem_of_getElem? (i := 2) rfl)) (by decide) (by decide)) (g := (mkF m 50 #[.val (.long q1), .second, .val (.long q2), .second, .val (.ref b3), .val (.long (own_mix (q1 + (-7046029254386353131 : Int64)))), .second, .val (.long (own_mix ((q1 + (-7046029254386353131 : Int64)) + (-7046029254386353131 : Int64)))), .second, .val (.ref b7), .val (.long (own_mix ((q1 + (-7046029254386353131 : Int64)) + (-7046029254386353131 : Int64)))), .second, .unset, .unset, .unset, .unset, .unset, .unset, .unset, .unset, .unset] [(.long q2), (.ref b10), (.ref b10)])) rfl (by rw [hml]; rfl) (Steps.refl _) (a := b10) (argsL := [(.long q2)]) (rest := [(.ref b10)]) (lenOf pd_0_0 rfl) rfl (by show 2 * 0 + _ ≤ _; exact Nat.le_of_eq rfl) (hb hby at_50) (fun _ _ => ⟨rfl, e10, (by decide : 3 + 0 ≤ _), (by decide : 3 + 0 ≤ _)⟩)
  dsimp only [Pt.U, Pt.locs, Pt.cells, Pt.slots] at X11 l11 y11 z11 st11 hQ11
  subst l11 y11 z11
  obtain ⟨rfl, N11q, Kc11, Ex11, Fl11⟩ := hQ11
  have N11 := Fr.app N9 N11q
  have Zc11 := Kc11.1
  have Zs11 := Nat.le_trans Zs10 Zc11
  obtain ⟨cq12, kq12, q12a, q12b, q12c⟩ := isOf hZ rfl (E_b10.keep Kc11)
  obtain ⟨_, _, ⟨T12, L12, k12, n12⟩, -, X12, ⟨Lc12, hQ12, l12, y12, z12⟩, st12⟩ := X11.virtualBack hx (y := (⟨"com/example/slotwise/slotwise/SplitMix64", "nextLong", "()J"⟩ : MethodName)) (z := (⟨"com/example/slotwise/slotwise/SplitMix64", "nextLong", "()J"⟩ : MethodName)) hown (mvT hZ (hw _ (List.mem_of_getElem? (i := 11) rfl))) (mvT hZ (hw _ (List.mem_of_getElem? (i := 12) rfl))) (notFace_of_selects (args := #[]) (mvT hZ (hw _ (List.mem_of_getElem? (i := 14) rfl)))) (mvT hZ (hw _ (List.mem_of_getElem? (i := 14) rfl))) (mvT hZ (hw _ (List.mem_of_getElem? (i := 13) rfl))) (by decide) (backOf (W := 0) (rm3 l Z a0 hw [] b10 q2 T11.heap n0 Zs11 Fl11 Ex11 g_b10) hZ (hw _ (List.mem_of_getElem? (i := 15) rfl)) (hw _ (List.mem_of_getElem? (i := 2) rfl)) (by decide) (by decide)) q12a q12c (g := (mkF m 57 #[.val (.long q1), .second, .val (.long q2), .second, .val (.ref b3), .val (.long (own_mix (q1 + (-7046029254386353131 : Int64)))), .second, .val (.long (own_mix ((q1 + (-7046029254386353131 : Int64)) + (-7046029254386353131 : Int64)))), .second, .val (.ref b7), .val (.long (own_mix ((q1 + (-7046029254386353131 : Int64)) + (-7046029254386353131 : Int64)))), .second, .val (.ref b10), .unset, .unset, .unset, .unset, .unset, .unset, .unset, .unset] [(.ref b10)])) rfl (by rw [hml]; rfl) (Steps.refl _) (argsL := []) (rest := []) (lenOf pd_0_2 rfl) rfl (by show 2 * 0 + _ ≤ _; exact Nat.le_of_eq rfl) (hb hby at_57) (fun _ _ => ⟨rfl, rfl, (by decide : 3 + 0 ≤ _), (by decide : 3 + 0 ≤ _)⟩)
  dsimp only [Pt.U, Pt.locs, Pt.cells, Pt.slots] at X12 l12 y12 z12 st12 hQ12
  subst l12 y12 z12
  obtain ⟨rfl, N12q, Kc12, Ex12, Fl12⟩ := hQ12
  have N12 := Fr.app N11 N12q
  have Zc12 := Kc12.1
  have Zs12 := Nat.le_trans Zs11 Zc12
  obtain ⟨T13, h13, X13, e13, E13, A13, D13, -, st13⟩ := newO X12 hx hZ hown (hw _ (List.mem_of_getElem? (i := 0) rfl)) (hw _ (List.mem_of_getElem? (i := 1) rfl)) (hw _ (List.mem_of_getElem? (i := 2) rfl)) rfl (g := (mkF m 62 #[.val (.long q1), .second, .val (.long q2), .second, .val (.ref b3), .val (.long (own_mix (q1 + (-7046029254386353131 : Int64)))), .second, .val (.long (own_mix ((q1 + (-7046029254386353131 : Int64)) + (-7046029254386353131 : Int64)))), .second, .val (.ref b7), .val (.long (own_mix ((q1 + (-7046029254386353131 : Int64)) + (-7046029254386353131 : Int64)))), .second, .val (.ref b10), .val (.long (own_mix (q2 + (-7046029254386353131 : Int64)))), .second, .unset, .unset, .unset, .unset, .unset, .unset] [])) rfl (hb hby at_62) (by decide) (by decide)
  obtain ⟨b13, g13⟩ : ∃ z, z = T12.heap.size := ⟨_, rfl⟩
  have Zs13 := Nat.le_trans Zs12 E13.1
  rw [← g13] at A13 D13 st13
  have F_state_b13 : Fld Z h13 b13 "com/example/slotwise/slotwise/SplitMix64" "state" "J" (.long (0 : Int64)) := D13 (Or.inl (hw _ (List.mem_of_getElem? (i := 10) rfl))) (ty := .long) (by decide)
  have E_b13 := A13
  have g_b13 : n0 ≤ b13 := Nat.le_trans (Nat.le_trans (Nat.le_trans (Nat.le_trans (Nat.le_trans (Nat.le_trans (Nat.le_trans (Nat.le_trans (Nat.le_trans (Nat.le_trans (Nat.le_trans Z0 E3.1) Zc4) Zc5) Zc6) E7.1) Zc8) Zc9) E10.1) Zc11) Zc12) (Nat.le_of_eq g13.symm)
  obtain ⟨_, _, ⟨T14, L14, k14, n14⟩, -, X14, ⟨Lc14, hQ14, l14, y14, z14⟩, st14⟩ := X13.specialBack hx (y := (⟨"com/example/slotwise/slotwise/SplitMix64", "<init>", "(J)V"⟩ : MethodName)) rfl hown (mvT hZ (hw _ (List.mem_of_getElem? (i := 3) rfl))) (mvT hZ (hw _ (List.mem_of_getElem? (i := 4) rfl))) (mvT hZ (hw _ (List.mem_of_getElem? (i := 5) rfl))) (by decide) (backOf (W := 1) (rm1 l Z a0 hw [] b13 (0 : Int64) _ h13 n0 Zs13 E_b13 F_state_b13 g_b13) hZ (hw _ (List.mem_of_getElem? (i := 5) rfl)) (hw _ (List.mem_of_getElem? (i := 2) rfl)) (by decide) (by decide)) (g := (mkF m 67 #[.val (.long q1), .second, .val (.long q2), .second, .val (.ref b3), .val (.long (own_mix (q1 + (-7046029254386353131 : Int64)))), .second, .val (.long (own_mix ((q1 + (-7046029254386353131 : Int64)) + (-7046029254386353131 : Int64)))), .second, .val (.ref b7), .val (.long (own_mix ((q1 + (-7046029254386353131 : Int64)) + (-7046029254386353131 : Int64)))), .second, .val (.ref b10), .val (.long (own_mix (q2 + (-7046029254386353131 : Int64)))), .second, .unset, .unset, .unset, .unset, .unset, .unset] [(.long (0 : Int64)), (.ref b13), (.ref b13)])) rfl (by rw [hml]; rfl) (Steps.refl _) (a := b13) (argsL := [(.long (0 : Int64))]) (rest := [(.ref b13)]) (lenOf pd_0_0 rfl) rfl (by show 2 * 0 + _ ≤ _; exact Nat.le_of_eq rfl) (hb hby at_67) (fun _ _ => ⟨rfl, e13, (by decide : 4 + 0 ≤ _), (by decide : 4 + 0 ≤ _)⟩)
  dsimp only [Pt.U, Pt.locs, Pt.cells, Pt.slots] at X14 l14 y14 z14 st14 hQ14
  subst l14 y14 z14
  obtain ⟨rfl, N14q, Kc14, Ex14, Fl14⟩ := hQ14
  have N14 := Fr.app N12 N14q
  have Zc14 := Kc14.1
  have Zs14 := Nat.le_trans Zs13 Zc14
  obtain ⟨cq15, kq15, q15a, q15b, q15c⟩ := isOf hZ rfl (E_b13.keep Kc14)
  obtain ⟨_, _, ⟨T15, L15, k15, n15⟩, -, X15, ⟨Lc15, hQ15, l15, y15, z15⟩, st15⟩ := X14.virtualBack hx (y := (⟨"com/example/slotwise/slotwise/SplitMix64", "nextLong", "()J"⟩ : MethodName)) (z := (⟨"com/example/slotwise/slotwise/SplitMix64", "nextLong", "()J"⟩ : MethodName)) hown (mvT hZ (hw _ (List.mem_of_getElem? (i := 11) rfl))) (mvT hZ (hw _ (List.mem_of_getElem? (i := 12) rfl))) (notFace_of_selects (args := #[]) (mvT hZ (hw _ (List.mem_of_getElem? (i := 14) rfl)))) (mvT hZ (hw _ (List.mem_of_getElem? (i := 14) rfl))) (mvT hZ (hw _ (List.mem_of_getElem? (i := 13) rfl))) (by decide) (backOf (W := 0) (rm3 l Z a0 hw [] b13 (0 : Int64) T14.heap n0 Zs14 Fl14 Ex14 g_b13) hZ (hw _ (List.mem_of_getElem? (i := 15) rfl)) (hw _ (List.mem_of_getElem? (i := 2) rfl)) (by decide) (by decide)) q15a q15c (g := (mkF m 74 #[.val (.long q1), .second, .val (.long q2), .second, .val (.ref b3), .val (.long (own_mix (q1 + (-7046029254386353131 : Int64)))), .second, .val (.long (own_mix ((q1 + (-7046029254386353131 : Int64)) + (-7046029254386353131 : Int64)))), .second, .val (.ref b7), .val (.long (own_mix ((q1 + (-7046029254386353131 : Int64)) + (-7046029254386353131 : Int64)))), .second, .val (.ref b10), .val (.long (own_mix (q2 + (-7046029254386353131 : Int64)))), .second, .val (.ref b13), .unset, .unset, .unset, .unset, .unset] [(.ref b13)])) rfl (by rw [hml]; rfl) (Steps.refl _) (argsL := []) (rest := []) (lenOf pd_0_2 rfl) rfl (by show 2 * 0 + _ ≤ _; exact Nat.le_of_eq rfl) (hb hby at_74) (fun _ _ => ⟨rfl, rfl, (by decide : 4 + 0 ≤ _), (by decide : 4 + 0 ≤ _)⟩)
  dsimp only [Pt.U, Pt.locs, Pt.cells, Pt.slots] at X15 l15 y15 z15 st15 hQ15
  subst l15 y15 z15
  obtain ⟨rfl, N15q, Kc15, Ex15, Fl15⟩ := hQ15
  have N15 := Fr.app N14 N15q
  have Zc15 := Kc15.1
  have Zs15 := Nat.le_trans Zs14 Zc15
  obtain ⟨fs, hr, hrun, hended, hW, hsame⟩ := X15.leave (v := some (.int (1 : Int32))) (fun h => by rw [Bd.returns] at h; cases h)
  refine ⟨_, _, pre0 _ ?_, hrun, hended, _, _, rfl, ?_, ⟨_, rfl⟩, hW, hsame.mono (by decide) (by decide)⟩
  · show Steps p.tables e below (s₁.setTop (mkF m 0 #[.val (.long q1), .second, .val (.long q2), .second, .unset, .unset, .unset, .unset, .unset, .unset, .unset, .unset, .unset, .unset, .unset, .unset, .unset, .unset, .unset, .unset, .unset] [])) _
    refine st3 _ ?_
    show Steps p.tables e below (T3.setTop (mkF m 3 #[.val (.long q1), .second, .val (.long q2), .second, .unset, .unset, .unset, .unset, .unset, .unset, .unset, .unset, .unset, .unset, .unset, .unset, .unset, .unset, .unset, .unset, .unset] [(.ref b3)])) _
    refine XS.dup X3.here hx rfl (hb hby at_3) rfl rfl ?_
    show Steps p.tables e below (T3.setTop (mkF m 4 #[.val (.long q1), .second, .val (.long q2), .second, .unset, .unset, .unset, .unset, .unset, .unset, .unset, .unset, .unset, .unset, .unset, .unset, .unset, .unset, .unset, .unset, .unset] [(.ref b3), (.ref b3)])) _
    refine XS.lloadN X3.here hx rfl (hb hby at_4) rfl ?_
    show Steps p.tables e below (T3.setTop (mkF m 5 #[.val (.long q1), .second, .val (.long q2), .second, .unset, .unset, .unset, .unset, .unset, .unset, .unset, .unset, .unset, .unset, .unset, .unset, .unset, .unset, .unset, .unset, .unset] [(.long q1), (.ref b3), (.ref b3)])) _
    refine st4.trans ?_
    show Steps p.tables e below (T4.setTop (mkF m 8 #[.val (.long q1), .second, .val (.long q2), .second, .unset, .unset, .unset, .unset, .unset, .unset, .unset, .unset, .unset, .unset, .unset, .unset, .unset, .unset, .unset, .unset, .unset] [(.ref b3)])) _
    refine XS.astore X4.here hx rfl (hb hby at_8) rfl rfl (l' := #[.val (.long q1), .second, .val (.long q2), .second, .val (.ref b3), .unset, .unset, .unset, .unset, .unset, .unset, .unset, .unset, .unset, .unset, .unset, .unset, .unset, .unset, .unset, .unset]) rfl ?_
    show Steps p.tables e below (T4.setTop (mkF m 10 #[.val (.long q1), .second, .val (.long q2), .second, .val (.ref b3), .unset, .unset, .unset, .unset, .unset, .unset, .unset, .unset, .unset, .unset, .unset, .unset, .unset, .unset, .unset, .unset] [])) _
    refine XS.aload X4.here hx rfl (hb hby at_10) rfl rfl ?_
    show Steps p.tables e below (T4.setTop (mkF m 12 #[.val (.long q1), .second, .val (.long q2), .second, .val (.ref b3), .unset, .unset, .unset, .unset, .unset, .unset, .unset, .unset, .unset, .unset, .unset, .unset, .unset, .unset, .unset, .unset] [(.ref b3)])) _
    refine st5.trans ?_
    show Steps p.tables e below (T5.setTop (mkF m 15 #[.val (.long q1), .second, .val (.long q2), .second, .val (.ref b3), .unset, .unset, .unset, .unset, .unset, .unset, .unset, .unset, .unset, .unset, .unset, .unset, .unset, .unset, .unset, .unset] [(.long (own_mix (q1 + (-7046029254386353131 : Int64))))])) _
    refine XS.lstore X5.here hx rfl (hb hby at_15) rfl (l' := #[.val (.long q1), .second, .val (.long q2), .second, .val (.ref b3), .val (.long (own_mix (q1 + (-7046029254386353131 : Int64)))), .second, .unset, .unset, .unset, .unset, .unset, .unset, .unset, .unset, .unset, .unset, .unset, .unset, .unset, .unset]) rfl ?_
    show Steps p.tables e below (T5.setTop (mkF m 17 #[.val (.long q1), .second, .val (.long q2), .second, .val (.ref b3), .val (.long (own_mix (q1 + (-7046029254386353131 : Int64)))), .second, .unset, .unset, .unset, .unset, .unset, .unset, .unset, .unset, .unset, .unset, .unset, .unset, .unset, .unset] [])) _
    refine XS.aload X5.here hx rfl (hb hby at_17) rfl rfl ?_
    show Steps p.tables e below (T5.setTop (mkF m 19 #[.val (.long q1), .second, .val (.long q2), .second, .val (.ref b3), .val (.long (own_mix (q1 + (-7046029254386353131 : Int64)))), .second, .unset, .unset, .unset, .unset, .unset, .unset, .unset, .unset, .unset, .unset, .unset, .unset, .unset, .unset] [(.ref b3)])) _
    refine st6.trans ?_
    show Steps p.tables e below (T6.setTop (mkF m 22 #[.val (.long q1), .second, .val (.long q2), .second, .val (.ref b3), .val (.long (own_mix (q1 + (-7046029254386353131 : Int64)))), .second, .unset, .unset, .unset, .unset, .unset, .unset, .unset, .unset, .unset, .unset, .unset, .unset, .unset, .unset] [(.long (own_mix ((q1 + (-7046029254386353131 : Int64)) + (-7046029254386353131 : Int64))))])) _
    refine XS.lstore X6.here hx rfl (hb hby at_22) rfl (l' := #[.val (.long q1), .second, .val (.long q2), .second, .val (.ref b3), .val (.long (own_mix (q1 + (-7046029254386353131 : Int64)))), .second, .val (.long (own_mix ((q1 + (-7046029254386353131 : Int64)) + (-7046029254386353131 : Int64)))), .second, .unset, .unset, .unset, .unset, .unset, .unset, .unset, .unset, .unset, .unset, .unset, .unset]) rfl ?_
    show Steps p.tables e below (T6.setTop (mkF m 24 #[.val (.long q1), .second, .val (.long q2), .second, .val (.ref b3), .val (.long (own_mix (q1 + (-7046029254386353131 : Int64)))), .second, .val (.long (own_mix ((q1 + (-7046029254386353131 : Int64)) + (-7046029254386353131 : Int64)))), .second, .unset, .unset, .unset, .unset, .unset, .unset, .unset, .unset, .unset, .unset, .unset, .unset] [])) _
    refine st7 _ ?_
    show Steps p.tables e below (T7.setTop (mkF m 27 #[.val (.long q1), .second, .val (.long q2), .second, .val (.ref b3), .val (.long (own_mix (q1 + (-7046029254386353131 : Int64)))), .second, .val (.long (own_mix ((q1 + (-7046029254386353131 : Int64)) + (-7046029254386353131 : Int64)))), .second, .unset, .unset, .unset, .unset, .unset, .unset, .unset, .unset, .unset, .unset, .unset, .unset] [(.ref b7)])) _
    refine XS.dup X7.here hx rfl (hb hby at_27) rfl rfl ?_
    show Steps p.tables e below (T7.setTop (mkF m 28 #[.val (.long q1), .second, .val (.long q2), .second, .val (.ref b3), .val (.long (own_mix (q1 + (-7046029254386353131 : Int64)))), .second, .val (.long (own_mix ((q1 + (-7046029254386353131 : Int64)) + (-7046029254386353131 : Int64)))), .second, .unset, .unset, .unset, .unset, .unset, .unset, .unset, .unset, .unset, .unset, .unset, .unset] [(.ref b7), (.ref b7)])) _
    refine XS.lloadN X7.here hx rfl (hb hby at_28) rfl ?_
    show Steps p.tables e below (T7.setTop (mkF m 29 #[.val (.long q1), .second, .val (.long q2), .second, .val (.ref b3), .val (.long (own_mix (q1 + (-7046029254386353131 : Int64)))), .second, .val (.long (own_mix ((q1 + (-7046029254386353131 : Int64)) + (-7046029254386353131 : Int64)))), .second, .unset, .unset, .unset, .unset, .unset, .unset, .unset, .unset, .unset, .unset, .unset, .unset] [(.long q1), (.ref b7), (.ref b7)])) _
    refine X7.ldc2Long hx hown (mvT hZ (hw _ (List.mem_of_getElem? (i := 19) rfl))) (g := (mkF m 29 #[.val (.long q1), .second, .val (.long q2), .second, .val (.ref b3), .val (.long (own_mix (q1 + (-7046029254386353131 : Int64)))), .second, .val (.long (own_mix ((q1 + (-7046029254386353131 : Int64)) + (-7046029254386353131 : Int64)))), .second, .unset, .unset, .unset, .unset, .unset, .unset, .unset, .unset, .unset, .unset, .unset, .unset] [(.long q1), (.ref b7), (.ref b7)])) rfl (hb hby at_29) _ ?_
    show Steps p.tables e below (T7.setTop (mkF m 32 #[.val (.long q1), .second, .val (.long q2), .second, .val (.ref b3), .val (.long (own_mix (q1 + (-7046029254386353131 : Int64)))), .second, .val (.long (own_mix ((q1 + (-7046029254386353131 : Int64)) + (-7046029254386353131 : Int64)))), .second, .unset, .unset, .unset, .unset, .unset, .unset, .unset, .unset, .unset, .unset, .unset, .unset] [(.long (-7046029254386353131 : Int64)), (.long q1), (.ref b7), (.ref b7)])) _
    refine XS.ladd X7.here hx rfl (hb hby at_32) rfl ?_
    show Steps p.tables e below (T7.setTop (mkF m 33 #[.val (.long q1), .second, .val (.long q2), .second, .val (.ref b3), .val (.long (own_mix (q1 + (-7046029254386353131 : Int64)))), .second, .val (.long (own_mix ((q1 + (-7046029254386353131 : Int64)) + (-7046029254386353131 : Int64)))), .second, .unset, .unset, .unset, .unset, .unset, .unset, .unset, .unset, .unset, .unset, .unset, .unset] [(.long (q1 + (-7046029254386353131 : Int64))), (.ref b7), (.ref b7)])) _
    refine st8.trans ?_
    show Steps p.tables e below (T8.setTop (mkF m 36 #[.val (.long q1), .second, .val (.long q2), .second, .val (.ref b3), .val (.long (own_mix (q1 + (-7046029254386353131 : Int64)))), .second, .val (.long (own_mix ((q1 + (-7046029254386353131 : Int64)) + (-7046029254386353131 : Int64)))), .second, .unset, .unset, .unset, .unset, .unset, .unset, .unset, .unset, .unset, .unset, .unset, .unset] [(.ref b7)])) _
    refine XS.astore X8.here hx rfl (hb hby at_36) rfl rfl (l' := #[.val (.long q1), .second, .val (.long q2), .second, .val (.ref b3), .val (.long (own_mix (q1 + (-7046029254386353131 : Int64)))), .second, .val (.long (own_mix ((q1 + (-7046029254386353131 : Int64)) + (-7046029254386353131 : Int64)))), .second, .val (.ref b7), .unset, .unset, .unset, .unset, .unset, .unset, .unset, .unset, .unset, .unset, .unset]) rfl ?_
    show Steps p.tables e below (T8.setTop (mkF m 38 #[.val (.long q1), .second, .val (.long q2), .second, .val (.ref b3), .val (.long (own_mix (q1 + (-7046029254386353131 : Int64)))), .second, .val (.long (own_mix ((q1 + (-7046029254386353131 : Int64)) + (-7046029254386353131 : Int64)))), .second, .val (.ref b7), .unset, .unset, .unset, .unset, .unset, .unset, .unset, .unset, .unset, .unset, .unset] [])) _
    refine XS.aload X8.here hx rfl (hb hby at_38) rfl rfl ?_
    show Steps p.tables e below (T8.setTop (mkF m 40 #[.val (.long q1), .second, .val (.long q2), .second, .val (.ref b3), .val (.long (own_mix (q1 + (-7046029254386353131 : Int64)))), .second, .val (.long (own_mix ((q1 + (-7046029254386353131 : Int64)) + (-7046029254386353131 : Int64)))), .second, .val (.ref b7), .unset, .unset, .unset, .unset, .unset, .unset, .unset, .unset, .unset, .unset, .unset] [(.ref b7)])) _
    refine st9.trans ?_
    show Steps p.tables e below (T9.setTop (mkF m 43 #[.val (.long q1), .second, .val (.long q2), .second, .val (.ref b3), .val (.long (own_mix (q1 + (-7046029254386353131 : Int64)))), .second, .val (.long (own_mix ((q1 + (-7046029254386353131 : Int64)) + (-7046029254386353131 : Int64)))), .second, .val (.ref b7), .unset, .unset, .unset, .unset, .unset, .unset, .unset, .unset, .unset, .unset, .unset] [(.long (own_mix ((q1 + (-7046029254386353131 : Int64)) + (-7046029254386353131 : Int64))))])) _
    refine XS.lstore X9.here hx rfl (hb hby at_43) rfl (l' := #[.val (.long q1), .second, .val (.long q2), .second, .val (.ref b3), .val (.long (own_mix (q1 + (-7046029254386353131 : Int64)))), .second, .val (.long (own_mix ((q1 + (-7046029254386353131 : Int64)) + (-7046029254386353131 : Int64)))), .second, .val (.ref b7), .val (.long (own_mix ((q1 + (-7046029254386353131 : Int64)) + (-7046029254386353131 : Int64)))), .second, .unset, .unset, .unset, .unset, .unset, .unset, .unset, .unset, .unset]) rfl ?_
    show Steps p.tables e below (T9.setTop (mkF m 45 #[.val (.long q1), .second, .val (.long q2), .second, .val (.ref b3), .val (.long (own_mix (q1 + (-7046029254386353131 : Int64)))), .second, .val (.long (own_mix ((q1 + (-7046029254386353131 : Int64)) + (-7046029254386353131 : Int64)))), .second, .val (.ref b7), .val (.long (own_mix ((q1 + (-7046029254386353131 : Int64)) + (-7046029254386353131 : Int64)))), .second, .unset, .unset, .unset, .unset, .unset, .unset, .unset, .unset, .unset] [])) _
    refine st10 _ ?_
    show Steps p.tables e below (T10.setTop (mkF m 48 #[.val (.long q1), .second, .val (.long q2), .second, .val (.ref b3), .val (.long (own_mix (q1 + (-7046029254386353131 : Int64)))), .second, .val (.long (own_mix ((q1 + (-7046029254386353131 : Int64)) + (-7046029254386353131 : Int64)))), .second, .val (.ref b7), .val (.long (own_mix ((q1 + (-7046029254386353131 : Int64)) + (-7046029254386353131 : Int64)))), .second, .unset, .unset, .unset, .unset, .unset, .unset, .unset, .unset, .unset] [(.ref b10)])) _
    refine XS.dup X10.here hx rfl (hb hby at_48) rfl rfl ?_
    show Steps p.tables e below (T10.setTop (mkF m 49 #[.val (.long q1), .second, .val (.long q2), .second, .val (.ref b3), .val (.long (own_mix (q1 + (-7046029254386353131 : Int64)))), .second, .val (.long (own_mix ((q1 + (-7046029254386353131 : Int64)) + (-7046029254386353131 : Int64)))), .second, .val (.ref b7), .val (.long (own_mix ((q1 + (-7046029254386353131 : Int64)) + (-7046029254386353131 : Int64)))), .second, .unset, .unset, .unset, .unset, .unset, .unset, .unset, .unset, .unset] [(.ref b10), (.ref b10)])) _
    refine XS.lloadN X10.here hx rfl (hb hby at_49) rfl ?_
    show Steps p.tables e below (T10.setTop (mkF m 50 #[.val (.long q1), .second, .val (.long q2), .second, .val (.ref b3), .val (.long (own_mix (q1 + (-7046029254386353131 : Int64)))), .second, .val (.long (own_mix ((q1 + (-7046029254386353131 : Int64)) + (-7046029254386353131 : Int64)))), .second, .val (.ref b7), .val (.long (own_mix ((q1 + (-7046029254386353131 : Int64)) + (-7046029254386353131 : Int64)))), .second, .unset, .unset, .unset, .unset, .unset, .unset, .unset, .unset, .unset] [(.long q2), (.ref b10), (.ref b10)])) _
    refine st11.trans ?_
    show Steps p.tables e below (T11.setTop (mkF m 53 #[.val (.long q1), .second, .val (.long q2), .second, .val (.ref b3), .val (.long (own_mix (q1 + (-7046029254386353131 : Int64)))), .second, .val (.long (own_mix ((q1 + (-7046029254386353131 : Int64)) + (-7046029254386353131 : Int64)))), .second, .val (.ref b7), .val (.long (own_mix ((q1 + (-7046029254386353131 : Int64)) + (-7046029254386353131 : Int64)))), .second, .unset, .unset, .unset, .unset, .unset, .unset, .unset, .unset, .unset] [(.ref b10)])) _
    refine XS.astore X11.here hx rfl (hb hby at_53) rfl rfl (l' := #[.val (.long q1), .second, .val (.long q2), .second, .val (.ref b3), .val (.long (own_mix (q1 + (-7046029254386353131 : Int64)))), .second, .val (.long (own_mix ((q1 + (-7046029254386353131 : Int64)) + (-7046029254386353131 : Int64)))), .second, .val (.ref b7), .val (.long (own_mix ((q1 + (-7046029254386353131 : Int64)) + (-7046029254386353131 : Int64)))), .second, .val (.ref b10), .unset, .unset, .unset, .unset, .unset, .unset, .unset, .unset]) rfl ?_
    show Steps p.tables e below (T11.setTop (mkF m 55 #[.val (.long q1), .second, .val (.long q2), .second, .val (.ref b3), .val (.long (own_mix (q1 + (-7046029254386353131 : Int64)))), .second, .val (.long (own_mix ((q1 + (-7046029254386353131 : Int64)) + (-7046029254386353131 : Int64)))), .second, .val (.ref b7), .val (.long (own_mix ((q1 + (-7046029254386353131 : Int64)) + (-7046029254386353131 : Int64)))), .second, .val (.ref b10), .unset, .unset, .unset, .unset, .unset, .unset, .unset, .unset] [])) _
    refine XS.aload X11.here hx rfl (hb hby at_55) rfl rfl ?_
    show Steps p.tables e below (T11.setTop (mkF m 57 #[.val (.long q1), .second, .val (.long q2), .second, .val (.ref b3), .val (.long (own_mix (q1 + (-7046029254386353131 : Int64)))), .second, .val (.long (own_mix ((q1 + (-7046029254386353131 : Int64)) + (-7046029254386353131 : Int64)))), .second, .val (.ref b7), .val (.long (own_mix ((q1 + (-7046029254386353131 : Int64)) + (-7046029254386353131 : Int64)))), .second, .val (.ref b10), .unset, .unset, .unset, .unset, .unset, .unset, .unset, .unset] [(.ref b10)])) _
    refine st12.trans ?_
    show Steps p.tables e below (T12.setTop (mkF m 60 #[.val (.long q1), .second, .val (.long q2), .second, .val (.ref b3), .val (.long (own_mix (q1 + (-7046029254386353131 : Int64)))), .second, .val (.long (own_mix ((q1 + (-7046029254386353131 : Int64)) + (-7046029254386353131 : Int64)))), .second, .val (.ref b7), .val (.long (own_mix ((q1 + (-7046029254386353131 : Int64)) + (-7046029254386353131 : Int64)))), .second, .val (.ref b10), .unset, .unset, .unset, .unset, .unset, .unset, .unset, .unset] [(.long (own_mix (q2 + (-7046029254386353131 : Int64))))])) _
    refine XS.lstore X12.here hx rfl (hb hby at_60) rfl (l' := #[.val (.long q1), .second, .val (.long q2), .second, .val (.ref b3), .val (.long (own_mix (q1 + (-7046029254386353131 : Int64)))), .second, .val (.long (own_mix ((q1 + (-7046029254386353131 : Int64)) + (-7046029254386353131 : Int64)))), .second, .val (.ref b7), .val (.long (own_mix ((q1 + (-7046029254386353131 : Int64)) + (-7046029254386353131 : Int64)))), .second, .val (.ref b10), .val (.long (own_mix (q2 + (-7046029254386353131 : Int64)))), .second, .unset, .unset, .unset, .unset, .unset, .unset]) rfl ?_
    show Steps p.tables e below (T12.setTop (mkF m 62 #[.val (.long q1), .second, .val (.long q2), .second, .val (.ref b3), .val (.long (own_mix (q1 + (-7046029254386353131 : Int64)))), .second, .val (.long (own_mix ((q1 + (-7046029254386353131 : Int64)) + (-7046029254386353131 : Int64)))), .second, .val (.ref b7), .val (.long (own_mix ((q1 + (-7046029254386353131 : Int64)) + (-7046029254386353131 : Int64)))), .second, .val (.ref b10), .val (.long (own_mix (q2 + (-7046029254386353131 : Int64)))), .second, .unset, .unset, .unset, .unset, .unset, .unset] [])) _
    refine st13 _ ?_
    show Steps p.tables e below (T13.setTop (mkF m 65 #[.val (.long q1), .second, .val (.long q2), .second, .val (.ref b3), .val (.long (own_mix (q1 + (-7046029254386353131 : Int64)))), .second, .val (.long (own_mix ((q1 + (-7046029254386353131 : Int64)) + (-7046029254386353131 : Int64)))), .second, .val (.ref b7), .val (.long (own_mix ((q1 + (-7046029254386353131 : Int64)) + (-7046029254386353131 : Int64)))), .second, .val (.ref b10), .val (.long (own_mix (q2 + (-7046029254386353131 : Int64)))), .second, .unset, .unset, .unset, .unset, .unset, .unset] [(.ref b13)])) _
    refine XS.dup X13.here hx rfl (hb hby at_65) rfl rfl ?_
    show Steps p.tables e below (T13.setTop (mkF m 66 #[.val (.long q1), .second, .val (.long q2), .second, .val (.ref b3), .val (.long (own_mix (q1 + (-7046029254386353131 : Int64)))), .second, .val (.long (own_mix ((q1 + (-7046029254386353131 : Int64)) + (-7046029254386353131 : Int64)))), .second, .val (.ref b7), .val (.long (own_mix ((q1 + (-7046029254386353131 : Int64)) + (-7046029254386353131 : Int64)))), .second, .val (.ref b10), .val (.long (own_mix (q2 + (-7046029254386353131 : Int64)))), .second, .unset, .unset, .unset, .unset, .unset, .unset] [(.ref b13), (.ref b13)])) _
    refine XS.lconst X13.here hx rfl (hb hby at_66) ?_
    show Steps p.tables e below (T13.setTop (mkF m 67 #[.val (.long q1), .second, .val (.long q2), .second, .val (.ref b3), .val (.long (own_mix (q1 + (-7046029254386353131 : Int64)))), .second, .val (.long (own_mix ((q1 + (-7046029254386353131 : Int64)) + (-7046029254386353131 : Int64)))), .second, .val (.ref b7), .val (.long (own_mix ((q1 + (-7046029254386353131 : Int64)) + (-7046029254386353131 : Int64)))), .second, .val (.ref b10), .val (.long (own_mix (q2 + (-7046029254386353131 : Int64)))), .second, .unset, .unset, .unset, .unset, .unset, .unset] [(.long (0 : Int64)), (.ref b13), (.ref b13)])) _
    refine st14.trans ?_
    show Steps p.tables e below (T14.setTop (mkF m 70 #[.val (.long q1), .second, .val (.long q2), .second, .val (.ref b3), .val (.long (own_mix (q1 + (-7046029254386353131 : Int64)))), .second, .val (.long (own_mix ((q1 + (-7046029254386353131 : Int64)) + (-7046029254386353131 : Int64)))), .second, .val (.ref b7), .val (.long (own_mix ((q1 + (-7046029254386353131 : Int64)) + (-7046029254386353131 : Int64)))), .second, .val (.ref b10), .val (.long (own_mix (q2 + (-7046029254386353131 : Int64)))), .second, .unset, .unset, .unset, .unset, .unset, .unset] [(.ref b13)])) _
    refine XS.astore X14.here hx rfl (hb hby at_70) rfl rfl (l' := #[.val (.long q1), .second, .val (.long q2), .second, .val (.ref b3), .val (.long (own_mix (q1 + (-7046029254386353131 : Int64)))), .second, .val (.long (own_mix ((q1 + (-7046029254386353131 : Int64)) + (-7046029254386353131 : Int64)))), .second, .val (.ref b7), .val (.long (own_mix ((q1 + (-7046029254386353131 : Int64)) + (-7046029254386353131 : Int64)))), .second, .val (.ref b10), .val (.long (own_mix (q2 + (-7046029254386353131 : Int64)))), .second, .val (.ref b13), .unset, .unset, .unset, .unset, .unset]) rfl ?_
    show Steps p.tables e below (T14.setTop (mkF m 72 #[.val (.long q1), .second, .val (.long q2), .second, .val (.ref b3), .val (.long (own_mix (q1 + (-7046029254386353131 : Int64)))), .second, .val (.long (own_mix ((q1 + (-7046029254386353131 : Int64)) + (-7046029254386353131 : Int64)))), .second, .val (.ref b7), .val (.long (own_mix ((q1 + (-7046029254386353131 : Int64)) + (-7046029254386353131 : Int64)))), .second, .val (.ref b10), .val (.long (own_mix (q2 + (-7046029254386353131 : Int64)))), .second, .val (.ref b13), .unset, .unset, .unset, .unset, .unset] [])) _
    refine XS.aload X14.here hx rfl (hb hby at_72) rfl rfl ?_
    show Steps p.tables e below (T14.setTop (mkF m 74 #[.val (.long q1), .second, .val (.long q2), .second, .val (.ref b3), .val (.long (own_mix (q1 + (-7046029254386353131 : Int64)))), .second, .val (.long (own_mix ((q1 + (-7046029254386353131 : Int64)) + (-7046029254386353131 : Int64)))), .second, .val (.ref b7), .val (.long (own_mix ((q1 + (-7046029254386353131 : Int64)) + (-7046029254386353131 : Int64)))), .second, .val (.ref b10), .val (.long (own_mix (q2 + (-7046029254386353131 : Int64)))), .second, .val (.ref b13), .unset, .unset, .unset, .unset, .unset] [(.ref b13)])) _
    refine st15.trans ?_
    show Steps p.tables e below (T15.setTop (mkF m 77 #[.val (.long q1), .second, .val (.long q2), .second, .val (.ref b3), .val (.long (own_mix (q1 + (-7046029254386353131 : Int64)))), .second, .val (.long (own_mix ((q1 + (-7046029254386353131 : Int64)) + (-7046029254386353131 : Int64)))), .second, .val (.ref b7), .val (.long (own_mix ((q1 + (-7046029254386353131 : Int64)) + (-7046029254386353131 : Int64)))), .second, .val (.ref b10), .val (.long (own_mix (q2 + (-7046029254386353131 : Int64)))), .second, .val (.ref b13), .unset, .unset, .unset, .unset, .unset] [(.long (own_mix ((0 : Int64) + (-7046029254386353131 : Int64))))])) _
    refine XS.lstore X15.here hx rfl (hb hby at_77) rfl (l' := #[.val (.long q1), .second, .val (.long q2), .second, .val (.ref b3), .val (.long (own_mix (q1 + (-7046029254386353131 : Int64)))), .second, .val (.long (own_mix ((q1 + (-7046029254386353131 : Int64)) + (-7046029254386353131 : Int64)))), .second, .val (.ref b7), .val (.long (own_mix ((q1 + (-7046029254386353131 : Int64)) + (-7046029254386353131 : Int64)))), .second, .val (.ref b10), .val (.long (own_mix (q2 + (-7046029254386353131 : Int64)))), .second, .val (.ref b13), .val (.long (own_mix ((0 : Int64) + (-7046029254386353131 : Int64)))), .second, .unset, .unset, .unset]) rfl ?_
    show Steps p.tables e below (T15.setTop (mkF m 79 #[.val (.long q1), .second, .val (.long q2), .second, .val (.ref b3), .val (.long (own_mix (q1 + (-7046029254386353131 : Int64)))), .second, .val (.long (own_mix ((q1 + (-7046029254386353131 : Int64)) + (-7046029254386353131 : Int64)))), .second, .val (.ref b7), .val (.long (own_mix ((q1 + (-7046029254386353131 : Int64)) + (-7046029254386353131 : Int64)))), .second, .val (.ref b10), .val (.long (own_mix (q2 + (-7046029254386353131 : Int64)))), .second, .val (.ref b13), .val (.long (own_mix ((0 : Int64) + (-7046029254386353131 : Int64)))), .second, .unset, .unset, .unset] [])) _
    refine XS.lload X15.here hx rfl (hb hby at_79) rfl ?_
    show Steps p.tables e below (T15.setTop (mkF m 81 #[.val (.long q1), .second, .val (.long q2), .second, .val (.ref b3), .val (.long (own_mix (q1 + (-7046029254386353131 : Int64)))), .second, .val (.long (own_mix ((q1 + (-7046029254386353131 : Int64)) + (-7046029254386353131 : Int64)))), .second, .val (.ref b7), .val (.long (own_mix ((q1 + (-7046029254386353131 : Int64)) + (-7046029254386353131 : Int64)))), .second, .val (.ref b10), .val (.long (own_mix (q2 + (-7046029254386353131 : Int64)))), .second, .val (.ref b13), .val (.long (own_mix ((0 : Int64) + (-7046029254386353131 : Int64)))), .second, .unset, .unset, .unset] [(.long (own_mix ((q1 + (-7046029254386353131 : Int64)) + (-7046029254386353131 : Int64))))])) _
    refine XS.lload X15.here hx rfl (hb hby at_81) rfl ?_
    show Steps p.tables e below (T15.setTop (mkF m 83 #[.val (.long q1), .second, .val (.long q2), .second, .val (.ref b3), .val (.long (own_mix (q1 + (-7046029254386353131 : Int64)))), .second, .val (.long (own_mix ((q1 + (-7046029254386353131 : Int64)) + (-7046029254386353131 : Int64)))), .second, .val (.ref b7), .val (.long (own_mix ((q1 + (-7046029254386353131 : Int64)) + (-7046029254386353131 : Int64)))), .second, .val (.ref b10), .val (.long (own_mix (q2 + (-7046029254386353131 : Int64)))), .second, .val (.ref b13), .val (.long (own_mix ((0 : Int64) + (-7046029254386353131 : Int64)))), .second, .unset, .unset, .unset] [(.long (own_mix ((q1 + (-7046029254386353131 : Int64)) + (-7046029254386353131 : Int64)))), (.long (own_mix ((q1 + (-7046029254386353131 : Int64)) + (-7046029254386353131 : Int64))))])) _
    refine XS.lcmp X15.here hx rfl (hb hby at_83) rfl ?_
    show Steps p.tables e below (T15.setTop (mkF m 84 #[.val (.long q1), .second, .val (.long q2), .second, .val (.ref b3), .val (.long (own_mix (q1 + (-7046029254386353131 : Int64)))), .second, .val (.long (own_mix ((q1 + (-7046029254386353131 : Int64)) + (-7046029254386353131 : Int64)))), .second, .val (.ref b7), .val (.long (own_mix ((q1 + (-7046029254386353131 : Int64)) + (-7046029254386353131 : Int64)))), .second, .val (.ref b10), .val (.long (own_mix (q2 + (-7046029254386353131 : Int64)))), .second, .val (.ref b13), .val (.long (own_mix ((0 : Int64) + (-7046029254386353131 : Int64)))), .second, .unset, .unset, .unset] [(.int (lcmpW (own_mix ((q1 + (-7046029254386353131 : Int64)) + (-7046029254386353131 : Int64))) (own_mix ((q1 + (-7046029254386353131 : Int64)) + (-7046029254386353131 : Int64)))))])) _
    refine XS.ifNo X15.here hx rfl (hb hby at_84) rfl ((if0 _ _).trans (teq ((lw_eq _ _).mpr rfl : (lcmpW (own_mix ((q1 + (-7046029254386353131 : Int64)) + (-7046029254386353131 : Int64))) (own_mix ((q1 + (-7046029254386353131 : Int64)) + (-7046029254386353131 : Int64)))) = (0 : Int32))).2) ?_
    show Steps p.tables e below (T15.setTop (mkF m 87 #[.val (.long q1), .second, .val (.long q2), .second, .val (.ref b3), .val (.long (own_mix (q1 + (-7046029254386353131 : Int64)))), .second, .val (.long (own_mix ((q1 + (-7046029254386353131 : Int64)) + (-7046029254386353131 : Int64)))), .second, .val (.ref b7), .val (.long (own_mix ((q1 + (-7046029254386353131 : Int64)) + (-7046029254386353131 : Int64)))), .second, .val (.ref b10), .val (.long (own_mix (q2 + (-7046029254386353131 : Int64)))), .second, .val (.ref b13), .val (.long (own_mix ((0 : Int64) + (-7046029254386353131 : Int64)))), .second, .unset, .unset, .unset] [])) _
    refine XS.iconst X15.here hx rfl (hb hby at_87) ?_
    show Steps p.tables e below (T15.setTop (mkF m 88 #[.val (.long q1), .second, .val (.long q2), .second, .val (.ref b3), .val (.long (own_mix (q1 + (-7046029254386353131 : Int64)))), .second, .val (.long (own_mix ((q1 + (-7046029254386353131 : Int64)) + (-7046029254386353131 : Int64)))), .second, .val (.ref b7), .val (.long (own_mix ((q1 + (-7046029254386353131 : Int64)) + (-7046029254386353131 : Int64)))), .second, .val (.ref b10), .val (.long (own_mix (q2 + (-7046029254386353131 : Int64)))), .second, .val (.ref b13), .val (.long (own_mix ((0 : Int64) + (-7046029254386353131 : Int64)))), .second, .unset, .unset, .unset] [(.int (1 : Int32))])) _
    refine XS.goto X15.here hx rfl (pc0 := 88) (pc' := 92) rfl (hb hby at_88) (by decide) (by decide) ?_
    show Steps p.tables e below (T15.setTop (mkF m 92 #[.val (.long q1), .second, .val (.long q2), .second, .val (.ref b3), .val (.long (own_mix (q1 + (-7046029254386353131 : Int64)))), .second, .val (.long (own_mix ((q1 + (-7046029254386353131 : Int64)) + (-7046029254386353131 : Int64)))), .second, .val (.ref b7), .val (.long (own_mix ((q1 + (-7046029254386353131 : Int64)) + (-7046029254386353131 : Int64)))), .second, .val (.ref b10), .val (.long (own_mix (q2 + (-7046029254386353131 : Int64)))), .second, .val (.ref b13), .val (.long (own_mix ((0 : Int64) + (-7046029254386353131 : Int64)))), .second, .unset, .unset, .unset] [(.int (1 : Int32))])) _
    refine XS.istore X15.here hx rfl (hb hby at_92) rfl (l' := #[.val (.long q1), .second, .val (.long q2), .second, .val (.ref b3), .val (.long (own_mix (q1 + (-7046029254386353131 : Int64)))), .second, .val (.long (own_mix ((q1 + (-7046029254386353131 : Int64)) + (-7046029254386353131 : Int64)))), .second, .val (.ref b7), .val (.long (own_mix ((q1 + (-7046029254386353131 : Int64)) + (-7046029254386353131 : Int64)))), .second, .val (.ref b10), .val (.long (own_mix (q2 + (-7046029254386353131 : Int64)))), .second, .val (.ref b13), .val (.long (own_mix ((0 : Int64) + (-7046029254386353131 : Int64)))), .second, .val (.int (1 : Int32)), .unset, .unset]) rfl ?_
    show Steps p.tables e below (T15.setTop (mkF m 94 #[.val (.long q1), .second, .val (.long q2), .second, .val (.ref b3), .val (.long (own_mix (q1 + (-7046029254386353131 : Int64)))), .second, .val (.long (own_mix ((q1 + (-7046029254386353131 : Int64)) + (-7046029254386353131 : Int64)))), .second, .val (.ref b7), .val (.long (own_mix ((q1 + (-7046029254386353131 : Int64)) + (-7046029254386353131 : Int64)))), .second, .val (.ref b10), .val (.long (own_mix (q2 + (-7046029254386353131 : Int64)))), .second, .val (.ref b13), .val (.long (own_mix ((0 : Int64) + (-7046029254386353131 : Int64)))), .second, .val (.int (1 : Int32)), .unset, .unset] [])) _
    refine XS.lloadN X15.here hx rfl (hb hby at_94) rfl ?_
    show Steps p.tables e below (T15.setTop (mkF m 95 #[.val (.long q1), .second, .val (.long q2), .second, .val (.ref b3), .val (.long (own_mix (q1 + (-7046029254386353131 : Int64)))), .second, .val (.long (own_mix ((q1 + (-7046029254386353131 : Int64)) + (-7046029254386353131 : Int64)))), .second, .val (.ref b7), .val (.long (own_mix ((q1 + (-7046029254386353131 : Int64)) + (-7046029254386353131 : Int64)))), .second, .val (.ref b10), .val (.long (own_mix (q2 + (-7046029254386353131 : Int64)))), .second, .val (.ref b13), .val (.long (own_mix ((0 : Int64) + (-7046029254386353131 : Int64)))), .second, .val (.int (1 : Int32)), .unset, .unset] [(.long q1)])) _
    refine XS.lloadN X15.here hx rfl (hb hby at_95) rfl ?_
    show Steps p.tables e below (T15.setTop (mkF m 96 #[.val (.long q1), .second, .val (.long q2), .second, .val (.ref b3), .val (.long (own_mix (q1 + (-7046029254386353131 : Int64)))), .second, .val (.long (own_mix ((q1 + (-7046029254386353131 : Int64)) + (-7046029254386353131 : Int64)))), .second, .val (.ref b7), .val (.long (own_mix ((q1 + (-7046029254386353131 : Int64)) + (-7046029254386353131 : Int64)))), .second, .val (.ref b10), .val (.long (own_mix (q2 + (-7046029254386353131 : Int64)))), .second, .val (.ref b13), .val (.long (own_mix ((0 : Int64) + (-7046029254386353131 : Int64)))), .second, .val (.int (1 : Int32)), .unset, .unset] [(.long q2), (.long q1)])) _
    refine XS.lcmp X15.here hx rfl (hb hby at_96) rfl ?_
    show Steps p.tables e below (T15.setTop (mkF m 97 #[.val (.long q1), .second, .val (.long q2), .second, .val (.ref b3), .val (.long (own_mix (q1 + (-7046029254386353131 : Int64)))), .second, .val (.long (own_mix ((q1 + (-7046029254386353131 : Int64)) + (-7046029254386353131 : Int64)))), .second, .val (.ref b7), .val (.long (own_mix ((q1 + (-7046029254386353131 : Int64)) + (-7046029254386353131 : Int64)))), .second, .val (.ref b10), .val (.long (own_mix (q2 + (-7046029254386353131 : Int64)))), .second, .val (.ref b13), .val (.long (own_mix ((0 : Int64) + (-7046029254386353131 : Int64)))), .second, .val (.int (1 : Int32)), .unset, .unset] [(.int (lcmpW q1 q2))])) _
    refine XS.ifYes X15.here hx rfl (pc0 := 97) (pc' := 104) rfl (hb hby at_97) rfl ((if0 _ _).trans (feq hc97).2) (by decide) (by decide) ?_
    show Steps p.tables e below (T15.setTop (mkF m 104 #[.val (.long q1), .second, .val (.long q2), .second, .val (.ref b3), .val (.long (own_mix (q1 + (-7046029254386353131 : Int64)))), .second, .val (.long (own_mix ((q1 + (-7046029254386353131 : Int64)) + (-7046029254386353131 : Int64)))), .second, .val (.ref b7), .val (.long (own_mix ((q1 + (-7046029254386353131 : Int64)) + (-7046029254386353131 : Int64)))), .second, .val (.ref b10), .val (.long (own_mix (q2 + (-7046029254386353131 : Int64)))), .second, .val (.ref b13), .val (.long (own_mix ((0 : Int64) + (-7046029254386353131 : Int64)))), .second, .val (.int (1 : Int32)), .unset, .unset] [])) _
    refine XS.iconst X15.here hx rfl (hb hby at_104) ?_
    show Steps p.tables e below (T15.setTop (mkF m 105 #[.val (.long q1), .second, .val (.long q2), .second, .val (.ref b3), .val (.long (own_mix (q1 + (-7046029254386353131 : Int64)))), .second, .val (.long (own_mix ((q1 + (-7046029254386353131 : Int64)) + (-7046029254386353131 : Int64)))), .second, .val (.ref b7), .val (.long (own_mix ((q1 + (-7046029254386353131 : Int64)) + (-7046029254386353131 : Int64)))), .second, .val (.ref b10), .val (.long (own_mix (q2 + (-7046029254386353131 : Int64)))), .second, .val (.ref b13), .val (.long (own_mix ((0 : Int64) + (-7046029254386353131 : Int64)))), .second, .val (.int (1 : Int32)), .unset, .unset] [(.int (0 : Int32))])) _
    refine XS.lload X15.here hx rfl (hb hby at_105) rfl ?_
    show Steps p.tables e below (T15.setTop (mkF m 107 #[.val (.long q1), .second, .val (.long q2), .second, .val (.ref b3), .val (.long (own_mix (q1 + (-7046029254386353131 : Int64)))), .second, .val (.long (own_mix ((q1 + (-7046029254386353131 : Int64)) + (-7046029254386353131 : Int64)))), .second, .val (.ref b7), .val (.long (own_mix ((q1 + (-7046029254386353131 : Int64)) + (-7046029254386353131 : Int64)))), .second, .val (.ref b10), .val (.long (own_mix (q2 + (-7046029254386353131 : Int64)))), .second, .val (.ref b13), .val (.long (own_mix ((0 : Int64) + (-7046029254386353131 : Int64)))), .second, .val (.int (1 : Int32)), .unset, .unset] [(.long (own_mix (q1 + (-7046029254386353131 : Int64)))), (.int (0 : Int32))])) _
    refine XS.lload X15.here hx rfl (hb hby at_107) rfl ?_
    show Steps p.tables e below (T15.setTop (mkF m 109 #[.val (.long q1), .second, .val (.long q2), .second, .val (.ref b3), .val (.long (own_mix (q1 + (-7046029254386353131 : Int64)))), .second, .val (.long (own_mix ((q1 + (-7046029254386353131 : Int64)) + (-7046029254386353131 : Int64)))), .second, .val (.ref b7), .val (.long (own_mix ((q1 + (-7046029254386353131 : Int64)) + (-7046029254386353131 : Int64)))), .second, .val (.ref b10), .val (.long (own_mix (q2 + (-7046029254386353131 : Int64)))), .second, .val (.ref b13), .val (.long (own_mix ((0 : Int64) + (-7046029254386353131 : Int64)))), .second, .val (.int (1 : Int32)), .unset, .unset] [(.long (own_mix (q2 + (-7046029254386353131 : Int64)))), (.long (own_mix (q1 + (-7046029254386353131 : Int64)))), (.int (0 : Int32))])) _
    refine XS.lcmp X15.here hx rfl (hb hby at_109) rfl ?_
    show Steps p.tables e below (T15.setTop (mkF m 110 #[.val (.long q1), .second, .val (.long q2), .second, .val (.ref b3), .val (.long (own_mix (q1 + (-7046029254386353131 : Int64)))), .second, .val (.long (own_mix ((q1 + (-7046029254386353131 : Int64)) + (-7046029254386353131 : Int64)))), .second, .val (.ref b7), .val (.long (own_mix ((q1 + (-7046029254386353131 : Int64)) + (-7046029254386353131 : Int64)))), .second, .val (.ref b10), .val (.long (own_mix (q2 + (-7046029254386353131 : Int64)))), .second, .val (.ref b13), .val (.long (own_mix ((0 : Int64) + (-7046029254386353131 : Int64)))), .second, .val (.int (1 : Int32)), .unset, .unset] [(.int (lcmpW (own_mix (q1 + (-7046029254386353131 : Int64))) (own_mix (q2 + (-7046029254386353131 : Int64))))), (.int (0 : Int32))])) _
    refine XS.ifYes X15.here hx rfl (pc0 := 110) (pc' := 117) rfl (hb hby at_110) rfl ((if0 _ _).trans (feq (own_diff hc97 : ¬ ((lcmpW (own_mix (q1 + (-7046029254386353131 : Int64))) (own_mix (q2 + (-7046029254386353131 : Int64)))) = (0 : Int32)))).2) (by decide) (by decide) ?_
    show Steps p.tables e below (T15.setTop (mkF m 117 #[.val (.long q1), .second, .val (.long q2), .second, .val (.ref b3), .val (.long (own_mix (q1 + (-7046029254386353131 : Int64)))), .second, .val (.long (own_mix ((q1 + (-7046029254386353131 : Int64)) + (-7046029254386353131 : Int64)))), .second, .val (.ref b7), .val (.long (own_mix ((q1 + (-7046029254386353131 : Int64)) + (-7046029254386353131 : Int64)))), .second, .val (.ref b10), .val (.long (own_mix (q2 + (-7046029254386353131 : Int64)))), .second, .val (.ref b13), .val (.long (own_mix ((0 : Int64) + (-7046029254386353131 : Int64)))), .second, .val (.int (1 : Int32)), .unset, .unset] [(.int (0 : Int32))])) _
    refine XS.iconst X15.here hx rfl (hb hby at_117) ?_
    show Steps p.tables e below (T15.setTop (mkF m 118 #[.val (.long q1), .second, .val (.long q2), .second, .val (.ref b3), .val (.long (own_mix (q1 + (-7046029254386353131 : Int64)))), .second, .val (.long (own_mix ((q1 + (-7046029254386353131 : Int64)) + (-7046029254386353131 : Int64)))), .second, .val (.ref b7), .val (.long (own_mix ((q1 + (-7046029254386353131 : Int64)) + (-7046029254386353131 : Int64)))), .second, .val (.ref b10), .val (.long (own_mix (q2 + (-7046029254386353131 : Int64)))), .second, .val (.ref b13), .val (.long (own_mix ((0 : Int64) + (-7046029254386353131 : Int64)))), .second, .val (.int (1 : Int32)), .unset, .unset] [(.int (0 : Int32)), (.int (0 : Int32))])) _
    refine XS.icmpNo X15.here hx rfl (hb hby at_118) rfl (teq (rfl : (0 : Int32) = (0 : Int32))).2 ?_
    show Steps p.tables e below (T15.setTop (mkF m 121 #[.val (.long q1), .second, .val (.long q2), .second, .val (.ref b3), .val (.long (own_mix (q1 + (-7046029254386353131 : Int64)))), .second, .val (.long (own_mix ((q1 + (-7046029254386353131 : Int64)) + (-7046029254386353131 : Int64)))), .second, .val (.ref b7), .val (.long (own_mix ((q1 + (-7046029254386353131 : Int64)) + (-7046029254386353131 : Int64)))), .second, .val (.ref b10), .val (.long (own_mix (q2 + (-7046029254386353131 : Int64)))), .second, .val (.ref b13), .val (.long (own_mix ((0 : Int64) + (-7046029254386353131 : Int64)))), .second, .val (.int (1 : Int32)), .unset, .unset] [])) _
    refine XS.iconst X15.here hx rfl (hb hby at_121) ?_
    show Steps p.tables e below (T15.setTop (mkF m 122 #[.val (.long q1), .second, .val (.long q2), .second, .val (.ref b3), .val (.long (own_mix (q1 + (-7046029254386353131 : Int64)))), .second, .val (.long (own_mix ((q1 + (-7046029254386353131 : Int64)) + (-7046029254386353131 : Int64)))), .second, .val (.ref b7), .val (.long (own_mix ((q1 + (-7046029254386353131 : Int64)) + (-7046029254386353131 : Int64)))), .second, .val (.ref b10), .val (.long (own_mix (q2 + (-7046029254386353131 : Int64)))), .second, .val (.ref b13), .val (.long (own_mix ((0 : Int64) + (-7046029254386353131 : Int64)))), .second, .val (.int (1 : Int32)), .unset, .unset] [(.int (1 : Int32))])) _
    refine XS.goto X15.here hx rfl (pc0 := 122) (pc' := 126) rfl (hb hby at_122) (by decide) (by decide) ?_
    show Steps p.tables e below (T15.setTop (mkF m 126 #[.val (.long q1), .second, .val (.long q2), .second, .val (.ref b3), .val (.long (own_mix (q1 + (-7046029254386353131 : Int64)))), .second, .val (.long (own_mix ((q1 + (-7046029254386353131 : Int64)) + (-7046029254386353131 : Int64)))), .second, .val (.ref b7), .val (.long (own_mix ((q1 + (-7046029254386353131 : Int64)) + (-7046029254386353131 : Int64)))), .second, .val (.ref b10), .val (.long (own_mix (q2 + (-7046029254386353131 : Int64)))), .second, .val (.ref b13), .val (.long (own_mix ((0 : Int64) + (-7046029254386353131 : Int64)))), .second, .val (.int (1 : Int32)), .unset, .unset] [(.int (1 : Int32))])) _
    refine XS.istore X15.here hx rfl (hb hby at_126) rfl (l' := #[.val (.long q1), .second, .val (.long q2), .second, .val (.ref b3), .val (.long (own_mix (q1 + (-7046029254386353131 : Int64)))), .second, .val (.long (own_mix ((q1 + (-7046029254386353131 : Int64)) + (-7046029254386353131 : Int64)))), .second, .val (.ref b7), .val (.long (own_mix ((q1 + (-7046029254386353131 : Int64)) + (-7046029254386353131 : Int64)))), .second, .val (.ref b10), .val (.long (own_mix (q2 + (-7046029254386353131 : Int64)))), .second, .val (.ref b13), .val (.long (own_mix ((0 : Int64) + (-7046029254386353131 : Int64)))), .second, .val (.int (1 : Int32)), .val (.int (1 : Int32)), .unset]) rfl ?_
    show Steps p.tables e below (T15.setTop (mkF m 128 #[.val (.long q1), .second, .val (.long q2), .second, .val (.ref b3), .val (.long (own_mix (q1 + (-7046029254386353131 : Int64)))), .second, .val (.long (own_mix ((q1 + (-7046029254386353131 : Int64)) + (-7046029254386353131 : Int64)))), .second, .val (.ref b7), .val (.long (own_mix ((q1 + (-7046029254386353131 : Int64)) + (-7046029254386353131 : Int64)))), .second, .val (.ref b10), .val (.long (own_mix (q2 + (-7046029254386353131 : Int64)))), .second, .val (.ref b13), .val (.long (own_mix ((0 : Int64) + (-7046029254386353131 : Int64)))), .second, .val (.int (1 : Int32)), .val (.int (1 : Int32)), .unset] [])) _
    refine XS.lload X15.here hx rfl (hb hby at_128) rfl ?_
    show Steps p.tables e below (T15.setTop (mkF m 130 #[.val (.long q1), .second, .val (.long q2), .second, .val (.ref b3), .val (.long (own_mix (q1 + (-7046029254386353131 : Int64)))), .second, .val (.long (own_mix ((q1 + (-7046029254386353131 : Int64)) + (-7046029254386353131 : Int64)))), .second, .val (.ref b7), .val (.long (own_mix ((q1 + (-7046029254386353131 : Int64)) + (-7046029254386353131 : Int64)))), .second, .val (.ref b10), .val (.long (own_mix (q2 + (-7046029254386353131 : Int64)))), .second, .val (.ref b13), .val (.long (own_mix ((0 : Int64) + (-7046029254386353131 : Int64)))), .second, .val (.int (1 : Int32)), .val (.int (1 : Int32)), .unset] [(.long (own_mix ((0 : Int64) + (-7046029254386353131 : Int64))))])) _
    refine X15.ldc2Long hx hown (mvT hZ (hw _ (List.mem_of_getElem? (i := 20) rfl))) (g := (mkF m 130 #[.val (.long q1), .second, .val (.long q2), .second, .val (.ref b3), .val (.long (own_mix (q1 + (-7046029254386353131 : Int64)))), .second, .val (.long (own_mix ((q1 + (-7046029254386353131 : Int64)) + (-7046029254386353131 : Int64)))), .second, .val (.ref b7), .val (.long (own_mix ((q1 + (-7046029254386353131 : Int64)) + (-7046029254386353131 : Int64)))), .second, .val (.ref b10), .val (.long (own_mix (q2 + (-7046029254386353131 : Int64)))), .second, .val (.ref b13), .val (.long (own_mix ((0 : Int64) + (-7046029254386353131 : Int64)))), .second, .val (.int (1 : Int32)), .val (.int (1 : Int32)), .unset] [(.long (own_mix ((0 : Int64) + (-7046029254386353131 : Int64))))])) rfl (hb hby at_130) _ ?_
    show Steps p.tables e below (T15.setTop (mkF m 133 #[.val (.long q1), .second, .val (.long q2), .second, .val (.ref b3), .val (.long (own_mix (q1 + (-7046029254386353131 : Int64)))), .second, .val (.long (own_mix ((q1 + (-7046029254386353131 : Int64)) + (-7046029254386353131 : Int64)))), .second, .val (.ref b7), .val (.long (own_mix ((q1 + (-7046029254386353131 : Int64)) + (-7046029254386353131 : Int64)))), .second, .val (.ref b10), .val (.long (own_mix (q2 + (-7046029254386353131 : Int64)))), .second, .val (.ref b13), .val (.long (own_mix ((0 : Int64) + (-7046029254386353131 : Int64)))), .second, .val (.int (1 : Int32)), .val (.int (1 : Int32)), .unset] [(.long (-2152535657050944081 : Int64)), (.long (own_mix ((0 : Int64) + (-7046029254386353131 : Int64))))])) _
    refine XS.lcmp X15.here hx rfl (hb hby at_133) rfl ?_
    show Steps p.tables e below (T15.setTop (mkF m 134 #[.val (.long q1), .second, .val (.long q2), .second, .val (.ref b3), .val (.long (own_mix (q1 + (-7046029254386353131 : Int64)))), .second, .val (.long (own_mix ((q1 + (-7046029254386353131 : Int64)) + (-7046029254386353131 : Int64)))), .second, .val (.ref b7), .val (.long (own_mix ((q1 + (-7046029254386353131 : Int64)) + (-7046029254386353131 : Int64)))), .second, .val (.ref b10), .val (.long (own_mix (q2 + (-7046029254386353131 : Int64)))), .second, .val (.ref b13), .val (.long (own_mix ((0 : Int64) + (-7046029254386353131 : Int64)))), .second, .val (.int (1 : Int32)), .val (.int (1 : Int32)), .unset] [(.int (lcmpW (own_mix ((0 : Int64) + (-7046029254386353131 : Int64))) (-2152535657050944081 : Int64)))])) _
    refine XS.ifNo X15.here hx rfl (hb hby at_134) rfl ((if0 _ _).trans (teq (own_known : (lcmpW (own_mix ((0 : Int64) + (-7046029254386353131 : Int64))) (-2152535657050944081 : Int64)) = (0 : Int32))).2) ?_
    show Steps p.tables e below (T15.setTop (mkF m 137 #[.val (.long q1), .second, .val (.long q2), .second, .val (.ref b3), .val (.long (own_mix (q1 + (-7046029254386353131 : Int64)))), .second, .val (.long (own_mix ((q1 + (-7046029254386353131 : Int64)) + (-7046029254386353131 : Int64)))), .second, .val (.ref b7), .val (.long (own_mix ((q1 + (-7046029254386353131 : Int64)) + (-7046029254386353131 : Int64)))), .second, .val (.ref b10), .val (.long (own_mix (q2 + (-7046029254386353131 : Int64)))), .second, .val (.ref b13), .val (.long (own_mix ((0 : Int64) + (-7046029254386353131 : Int64)))), .second, .val (.int (1 : Int32)), .val (.int (1 : Int32)), .unset] [])) _
    refine XS.iconst X15.here hx rfl (hb hby at_137) ?_
    show Steps p.tables e below (T15.setTop (mkF m 138 #[.val (.long q1), .second, .val (.long q2), .second, .val (.ref b3), .val (.long (own_mix (q1 + (-7046029254386353131 : Int64)))), .second, .val (.long (own_mix ((q1 + (-7046029254386353131 : Int64)) + (-7046029254386353131 : Int64)))), .second, .val (.ref b7), .val (.long (own_mix ((q1 + (-7046029254386353131 : Int64)) + (-7046029254386353131 : Int64)))), .second, .val (.ref b10), .val (.long (own_mix (q2 + (-7046029254386353131 : Int64)))), .second, .val (.ref b13), .val (.long (own_mix ((0 : Int64) + (-7046029254386353131 : Int64)))), .second, .val (.int (1 : Int32)), .val (.int (1 : Int32)), .unset] [(.int (1 : Int32))])) _
    refine XS.goto X15.here hx rfl (pc0 := 138) (pc' := 142) rfl (hb hby at_138) (by decide) (by decide) ?_
    show Steps p.tables e below (T15.setTop (mkF m 142 #[.val (.long q1), .second, .val (.long q2), .second, .val (.ref b3), .val (.long (own_mix (q1 + (-7046029254386353131 : Int64)))), .second, .val (.long (own_mix ((q1 + (-7046029254386353131 : Int64)) + (-7046029254386353131 : Int64)))), .second, .val (.ref b7), .val (.long (own_mix ((q1 + (-7046029254386353131 : Int64)) + (-7046029254386353131 : Int64)))), .second, .val (.ref b10), .val (.long (own_mix (q2 + (-7046029254386353131 : Int64)))), .second, .val (.ref b13), .val (.long (own_mix ((0 : Int64) + (-7046029254386353131 : Int64)))), .second, .val (.int (1 : Int32)), .val (.int (1 : Int32)), .unset] [(.int (1 : Int32))])) _
    refine XS.istore X15.here hx rfl (hb hby at_142) rfl (l' := #[.val (.long q1), .second, .val (.long q2), .second, .val (.ref b3), .val (.long (own_mix (q1 + (-7046029254386353131 : Int64)))), .second, .val (.long (own_mix ((q1 + (-7046029254386353131 : Int64)) + (-7046029254386353131 : Int64)))), .second, .val (.ref b7), .val (.long (own_mix ((q1 + (-7046029254386353131 : Int64)) + (-7046029254386353131 : Int64)))), .second, .val (.ref b10), .val (.long (own_mix (q2 + (-7046029254386353131 : Int64)))), .second, .val (.ref b13), .val (.long (own_mix ((0 : Int64) + (-7046029254386353131 : Int64)))), .second, .val (.int (1 : Int32)), .val (.int (1 : Int32)), .val (.int (1 : Int32))]) rfl ?_
    show Steps p.tables e below (T15.setTop (mkF m 144 #[.val (.long q1), .second, .val (.long q2), .second, .val (.ref b3), .val (.long (own_mix (q1 + (-7046029254386353131 : Int64)))), .second, .val (.long (own_mix ((q1 + (-7046029254386353131 : Int64)) + (-7046029254386353131 : Int64)))), .second, .val (.ref b7), .val (.long (own_mix ((q1 + (-7046029254386353131 : Int64)) + (-7046029254386353131 : Int64)))), .second, .val (.ref b10), .val (.long (own_mix (q2 + (-7046029254386353131 : Int64)))), .second, .val (.ref b13), .val (.long (own_mix ((0 : Int64) + (-7046029254386353131 : Int64)))), .second, .val (.int (1 : Int32)), .val (.int (1 : Int32)), .val (.int (1 : Int32))] [])) _
    refine XS.iload X15.here hx rfl (hb hby at_144) rfl ?_
    show Steps p.tables e below (T15.setTop (mkF m 146 #[.val (.long q1), .second, .val (.long q2), .second, .val (.ref b3), .val (.long (own_mix (q1 + (-7046029254386353131 : Int64)))), .second, .val (.long (own_mix ((q1 + (-7046029254386353131 : Int64)) + (-7046029254386353131 : Int64)))), .second, .val (.ref b7), .val (.long (own_mix ((q1 + (-7046029254386353131 : Int64)) + (-7046029254386353131 : Int64)))), .second, .val (.ref b10), .val (.long (own_mix (q2 + (-7046029254386353131 : Int64)))), .second, .val (.ref b13), .val (.long (own_mix ((0 : Int64) + (-7046029254386353131 : Int64)))), .second, .val (.int (1 : Int32)), .val (.int (1 : Int32)), .val (.int (1 : Int32))] [(.int (1 : Int32))])) _
    refine XS.ifNo X15.here hx rfl (hb hby at_146) rfl ((if0 _ _).trans (feq hc146).1) ?_
    show Steps p.tables e below (T15.setTop (mkF m 149 #[.val (.long q1), .second, .val (.long q2), .second, .val (.ref b3), .val (.long (own_mix (q1 + (-7046029254386353131 : Int64)))), .second, .val (.long (own_mix ((q1 + (-7046029254386353131 : Int64)) + (-7046029254386353131 : Int64)))), .second, .val (.ref b7), .val (.long (own_mix ((q1 + (-7046029254386353131 : Int64)) + (-7046029254386353131 : Int64)))), .second, .val (.ref b10), .val (.long (own_mix (q2 + (-7046029254386353131 : Int64)))), .second, .val (.ref b13), .val (.long (own_mix ((0 : Int64) + (-7046029254386353131 : Int64)))), .second, .val (.int (1 : Int32)), .val (.int (1 : Int32)), .val (.int (1 : Int32))] [])) _
    refine XS.iload X15.here hx rfl (hb hby at_149) rfl ?_
    show Steps p.tables e below (T15.setTop (mkF m 151 #[.val (.long q1), .second, .val (.long q2), .second, .val (.ref b3), .val (.long (own_mix (q1 + (-7046029254386353131 : Int64)))), .second, .val (.long (own_mix ((q1 + (-7046029254386353131 : Int64)) + (-7046029254386353131 : Int64)))), .second, .val (.ref b7), .val (.long (own_mix ((q1 + (-7046029254386353131 : Int64)) + (-7046029254386353131 : Int64)))), .second, .val (.ref b10), .val (.long (own_mix (q2 + (-7046029254386353131 : Int64)))), .second, .val (.ref b13), .val (.long (own_mix ((0 : Int64) + (-7046029254386353131 : Int64)))), .second, .val (.int (1 : Int32)), .val (.int (1 : Int32)), .val (.int (1 : Int32))] [(.int (1 : Int32))])) _
    refine XS.ifNo X15.here hx rfl (hb hby at_151) rfl ((if0 _ _).trans (feq hc151).1) ?_
    show Steps p.tables e below (T15.setTop (mkF m 154 #[.val (.long q1), .second, .val (.long q2), .second, .val (.ref b3), .val (.long (own_mix (q1 + (-7046029254386353131 : Int64)))), .second, .val (.long (own_mix ((q1 + (-7046029254386353131 : Int64)) + (-7046029254386353131 : Int64)))), .second, .val (.ref b7), .val (.long (own_mix ((q1 + (-7046029254386353131 : Int64)) + (-7046029254386353131 : Int64)))), .second, .val (.ref b10), .val (.long (own_mix (q2 + (-7046029254386353131 : Int64)))), .second, .val (.ref b13), .val (.long (own_mix ((0 : Int64) + (-7046029254386353131 : Int64)))), .second, .val (.int (1 : Int32)), .val (.int (1 : Int32)), .val (.int (1 : Int32))] [])) _
    refine XS.iload X15.here hx rfl (hb hby at_154) rfl ?_
    show Steps p.tables e below (T15.setTop (mkF m 156 #[.val (.long q1), .second, .val (.long q2), .second, .val (.ref b3), .val (.long (own_mix (q1 + (-7046029254386353131 : Int64)))), .second, .val (.long (own_mix ((q1 + (-7046029254386353131 : Int64)) + (-7046029254386353131 : Int64)))), .second, .val (.ref b7), .val (.long (own_mix ((q1 + (-7046029254386353131 : Int64)) + (-7046029254386353131 : Int64)))), .second, .val (.ref b10), .val (.long (own_mix (q2 + (-7046029254386353131 : Int64)))), .second, .val (.ref b13), .val (.long (own_mix ((0 : Int64) + (-7046029254386353131 : Int64)))), .second, .val (.int (1 : Int32)), .val (.int (1 : Int32)), .val (.int (1 : Int32))] [(.int (1 : Int32))])) _
    refine XS.ifNo X15.here hx rfl (hb hby at_156) rfl ((if0 _ _).trans (feq hc156).1) ?_
    show Steps p.tables e below (T15.setTop (mkF m 159 #[.val (.long q1), .second, .val (.long q2), .second, .val (.ref b3), .val (.long (own_mix (q1 + (-7046029254386353131 : Int64)))), .second, .val (.long (own_mix ((q1 + (-7046029254386353131 : Int64)) + (-7046029254386353131 : Int64)))), .second, .val (.ref b7), .val (.long (own_mix ((q1 + (-7046029254386353131 : Int64)) + (-7046029254386353131 : Int64)))), .second, .val (.ref b10), .val (.long (own_mix (q2 + (-7046029254386353131 : Int64)))), .second, .val (.ref b13), .val (.long (own_mix ((0 : Int64) + (-7046029254386353131 : Int64)))), .second, .val (.int (1 : Int32)), .val (.int (1 : Int32)), .val (.int (1 : Int32))] [])) _
    refine XS.iconst X15.here hx rfl (hb hby at_159) ?_
    show Steps p.tables e below (T15.setTop (mkF m 160 #[.val (.long q1), .second, .val (.long q2), .second, .val (.ref b3), .val (.long (own_mix (q1 + (-7046029254386353131 : Int64)))), .second, .val (.long (own_mix ((q1 + (-7046029254386353131 : Int64)) + (-7046029254386353131 : Int64)))), .second, .val (.ref b7), .val (.long (own_mix ((q1 + (-7046029254386353131 : Int64)) + (-7046029254386353131 : Int64)))), .second, .val (.ref b10), .val (.long (own_mix (q2 + (-7046029254386353131 : Int64)))), .second, .val (.ref b13), .val (.long (own_mix ((0 : Int64) + (-7046029254386353131 : Int64)))), .second, .val (.int (1 : Int32)), .val (.int (1 : Int32)), .val (.int (1 : Int32))] [(.int (1 : Int32))])) _
    refine XS.goto X15.here hx rfl (pc0 := 160) (pc' := 164) rfl (hb hby at_160) (by decide) (by decide) ?_
    show Steps p.tables e below (T15.setTop (mkF m 164 #[.val (.long q1), .second, .val (.long q2), .second, .val (.ref b3), .val (.long (own_mix (q1 + (-7046029254386353131 : Int64)))), .second, .val (.long (own_mix ((q1 + (-7046029254386353131 : Int64)) + (-7046029254386353131 : Int64)))), .second, .val (.ref b7), .val (.long (own_mix ((q1 + (-7046029254386353131 : Int64)) + (-7046029254386353131 : Int64)))), .second, .val (.ref b10), .val (.long (own_mix (q2 + (-7046029254386353131 : Int64)))), .second, .val (.ref b13), .val (.long (own_mix ((0 : Int64) + (-7046029254386353131 : Int64)))), .second, .val (.int (1 : Int32)), .val (.int (1 : Int32)), .val (.int (1 : Int32))] [(.int (1 : Int32))])) _
    exact retN X15 hx (t := .boolean) Bd.returns (by simp) (hb hby at_164) hr
  · show Q0 Z q1 q2 h0 n0 _ T15.heap _
    exact ⟨rfl, N15⟩
set_option maxRecDepth 65536 in
set_option maxHeartbeats 40000000 in
theorem comes_1 {Post : Tables → Env → Array Value → State → Outcome → State → Prop} (hpost : ∀ tb e args s v u, (limb_1_1.after args s (.returned v) u = true ∧ limb_1_2.after args s (.returned v) u = true ∧ True) → FrameEnd s (.returned v) u (Jvm.fieldLocs frame_1_writes args s ++ Jvm.arrayLocs frame_1_arrays args s ++ Jvm.staticLocs frame_1_statics s) 16 128 → Post tb e args s (.returned v) u) :
    ArmFor flags0 classFile x code maxLocals ret World_1 tables_1 room_1 Calls_1 rest_1 Pre_1 Post := by
  intro l hfl _ _ p e ha hc hk s m args below hf hA hF happ hP
  obtain ⟨hcalls, hrest, hpre⟩ := hP
  obtain ⟨-, -, -, hnamed, -, -, -, hat⟩ := (Spec.applies_iff hf).mp happ
  obtain ⟨hg, hn⟩ := and_e (Cond.before_iff.mp (show (Jvm.Cond.and given_1 narrow_1).before args s = true from hpre))
  obtain ⟨g16, g17⟩ := and_e hg
  obtain ⟨g18, g19⟩ := and_e g17
  obtain ⟨w0, w1, rfl⟩ : ∃ w0 w1 : Value, args = #[w0, w1] := by
    have hs : args.size = 2 := by simpa [Cond.value, given_1] using g16
    obtain ⟨L⟩ := args
    match L, hs with
    | [w0, w1], _ => exact ⟨w0, w1, rfl⟩
  have hw := fun d (hd : d ∈ tables_1) => atoms_spec (ws := Jvm.Cond.code x code maxLocals ret :: tables_1) hat d (List.mem_cons_of_mem _ hd)
  have hfit : Fit s := fun {y c} hc i hi => by
    obtain ⟨ha, rfl⟩ := Array.getElem?_eq_some_iff.mp hc
    have q := List.all_eq_true.mp ((Array.all_eq_true_iff_forall_mem.mp hF) _ (Array.getElem_mem ha)) i (List.mem_range.mpr hi)
    simpa [Array.getElem?_eq_getElem hi] using q
  obtain ⟨i0, ei0⟩ := isL_v g18
  obtain rfl : w0 = (.long i0) := Option.some.inj ei0
  obtain ⟨i1, ei1⟩ := isL_v g19
  obtain rfl : w1 = (.long i1) := Option.some.inj ei1
  by_cases hqq : lcmpW i0 i1 = (0 : Int32)
  · obtain ⟨n, o, h1, h2, h3, _, L, rfl, ⟨rfl, N⟩, hq⟩ := rm0a l s _ hw tables_1 i0 i1 s.heap s.heap.size (Nat.le_refl _) hqq (by decide) (by decide) (by decide) p e ha hc hk s m _ below hf ((Spec.applies_iff_loose hf).mp happ).1 ⟨rfl, State.Warmed39.refl s, rfl⟩ trivial
    refine ⟨n, _, h1, h2, h3, hpost _ _ _ _ _ _ ⟨Cond.after_iff.mpr rfl, Cond.after_iff.mpr (eq_i res_at (Term.int_eval (1)) rfl), trivial⟩ ⟨hq.1, hq.2.1, (hq.2.2.sift fun y hy => Or.inr (N y hy)).mono (by decide) (by decide)⟩⟩
  · obtain ⟨n, o, h1, h2, h3, _, L, rfl, ⟨rfl, N⟩, hq⟩ := rm0b l s _ hw tables_1 i0 i1 s.heap s.heap.size (Nat.le_refl _) hqq (by decide) (by decide) (by decide) p e ha hc hk s m _ below hf ((Spec.applies_iff_loose hf).mp happ).1 ⟨rfl, State.Warmed39.refl s, rfl⟩ trivial
    refine ⟨n, _, h1, h2, h3, hpost _ _ _ _ _ _ ⟨Cond.after_iff.mpr rfl, Cond.after_iff.mpr (eq_i res_at (Term.int_eval (1)) rfl), trivial⟩ ⟨hq.1, hq.2.1, (hq.2.2.sift fun y hy => Or.inr (N y hy)).mono (by decide) (by decide)⟩⟩
theorem main_1_1 : Claimed_1_1 := comes_1 fun _ _ _ _ _ _ h hF => ⟨h.1, hF⟩
theorem main_1_2 : Claimed_1_2 := comes_1 fun _ _ _ _ _ _ h hF => ⟨h.2.1, hF⟩
end Jvm.Pilot.@@N@@
namespace Jvm.Pilot.@@N@@
open Jvm Jvm.ClassFile Sem Op Lib Jvm.Free Jvm.Stand Jvm.Pilot.@@N@@.Jvm.D
/-! MADE BY PROGRAM (witnessworld.py) out of the Statement's table words and the real class files: 7 classes; the members and pool entries that the words name. The judged class is class 1, her method 1. -/
namespace start1
open Jvm.ClassFile
def u (s : String) : CpInfo := .utf8 (stringToUtf16 s)
/-- a pool by its gaps: so many unusable entries, then the entry; so many at the end -/
def gap : Nat → List CpInfo → List CpInfo
  | 0, r => r
  | n + 1, r => .unusable :: gap n r
def poolList (es : List (Nat × CpInfo)) (last : Nat) : List CpInfo := es.foldr (fun e r => gap e.1 (e.2 :: r)) (gap last [])
def pool (es : List (Nat × CpInfo)) (last : Nat) : Array CpInfo := ⟨poolList es last⟩
def fileOf (pool : Array CpInfo) (this : Nat) (attrs : Array Attribute := #[]) (ms : Array MethodInfo := #[]) (fl : Nat := 33) (sup : Nat := 0) (ifs : Array Nat := #[]) (fds : Array FieldInfo := #[]) : ClassFile where
  minorVersion := 0
  majorVersion := 65
  constantPool := pool
  accessFlags := fl
  thisClass := this
  superClass := sup
  interfaces := ifs
  fields := fds
  methods := ms
  attributes := attrs
def plain (name : String) (sup : Option ClassId) : Class where
  name := name
  kind := .ordinary
  loader := none
  accessFlags := 33
  super := sup
  interfaces := #[]
  cf := none
  fields := #[]
  methods := #[]
  instanceTypes := #[]
  staticTypes := #[]
  resolved := #[]
  callSites := []
  init := .initialized
  statics := none
  mirror := none

def pool0 : Array CpInfo := pool [(5, u "<init>"), (0, u "()V"), (1, .class_ 10), (1, u "java/lang/Object")] 113

def k0c0 : Code := { maxStack := 0, maxLocals := 1, code := object_method_1_code, exceptionTable := #[], attributes := #[] }
def k0m0 : Method := { name := "<init>", desc := "()V", sig := { parameters := [], returnType := none }, accessFlags := 1, code := some k0c0 }
/-- java/lang/Object -/
def k0 : Class := { plain "java/lang/Object" none with
  accessFlags := 33
  interfaces := #[]
  cf := some (fileOf pool0 8 #[] #[{ accessFlags := 1, nameIndex := 5, descriptorIndex := 6, attributes := #[] }] 33 0 #[] #[])
  fields := #[]
  methods := #[k0m0]
  instanceTypes := #[]
  staticTypes := #[]
  resolved := Array.replicate 124 none
  statics := none }

def pool1 : Array CpInfo := pool [(2, .class_ 4), (1, u "java/lang/Object"), (0, u "<init>"), (0, u "()V"), (0, .class_ 8), (0, u "com/example/slotwise/slotwise/SplitMix64"), (0, .methodref 7 10), (0, .nameAndType 5 11), (0, u "(J)V"), (0, .methodref 7 13), (0, .nameAndType 14 15), (0, u "nextLong"), (0, u "()J"), (0, .long 11400714819323198485), (1, .long 16294208416658607535), (1, .class_ 21), (0, u "com/example/slotwise/slotwise/SplitMix64NextLongPinLaw"), (2, u "law"), (0, u "(JJ)Z")] 3

def k1m0 : Method := { name := "<init>", desc := "()V", sig := { parameters := [], returnType := none }, accessFlags := 1, code := none }
def k1c1 : Code := { maxStack := 6, maxLocals := 21, code := code, exceptionTable := #[], attributes := #[] }
def k1m1 : Method := { name := "law", desc := "(JJ)Z", sig := { parameters := [.long, .long], returnType := some .boolean }, accessFlags := 9, code := some k1c1 }
/-- com/example/slotwise/slotwise/SplitMix64NextLongPinLaw -/
def k1 : Class := { plain "com/example/slotwise/slotwise/SplitMix64NextLongPinLaw" (some 0) with
  accessFlags := 49
  interfaces := #[]
  cf := some (fileOf pool1 20 #[] #[{ accessFlags := 1, nameIndex := 5, descriptorIndex := 6, attributes := #[] }, { accessFlags := 9, nameIndex := 24, descriptorIndex := 25, attributes := #[] }] 49 2 #[] #[])
  fields := #[]
  methods := #[k1m0, k1m1]
  instanceTypes := #[]
  staticTypes := #[]
  resolved := Array.replicate 29 none
  statics := none }

def pool2 : Array CpInfo := pool [(1, .methodref 2 3), (0, .class_ 4), (0, .nameAndType 5 6), (0, u "java/lang/Object"), (0, u "<init>"), (0, u "()V"), (0, .fieldref 8 9), (0, .class_ 10), (0, .nameAndType 11 12), (0, u "com/example/slotwise/slotwise/SplitMix64"), (0, u "state"), (0, u "J"), (0, .long 11400714819323198485), (1, .long 13787848793156543929), (1, .long 10723151780598845931), (3, u "nextLong"), (0, u "()J"), (15, u "GAMMA"), (1, u "(J)V")] 24

def k2c0 : Code := { maxStack := 3, maxLocals := 3, code := prog_55_method_1_code, exceptionTable := #[], attributes := #[] }
def k2m0 : Method := { name := "<init>", desc := "(J)V", sig := { parameters := [.long], returnType := none }, accessFlags := 0, code := some k2c0 }
def k2c1 : Code := { maxStack := 5, maxLocals := 3, code := prog_55_method_2_code, exceptionTable := #[], attributes := #[] }
def k2m1 : Method := { name := "nextLong", desc := "()J", sig := { parameters := [], returnType := some .long }, accessFlags := 0, code := some k2c1 }
/-- com/example/slotwise/slotwise/SplitMix64 -/
def k2 : Class := { plain "com/example/slotwise/slotwise/SplitMix64" (some 0) with
  accessFlags := 48
  interfaces := #[]
  cf := some (fileOf pool2 8 #[] #[{ accessFlags := 0, nameIndex := 5, descriptorIndex := 40, attributes := #[] }, { accessFlags := 0, nameIndex := 21, descriptorIndex := 22, attributes := #[] }] 48 2 #[] #[{ accessFlags := 26, nameIndex := 38, descriptorIndex := 12, attributes := #[] }, { accessFlags := 2, nameIndex := 11, descriptorIndex := 12, attributes := #[] }])
  fields := #[{ name := "GAMMA", type := .long, accessFlags := 26, slot := 0, constantValue := 0 }, { name := "state", type := .long, accessFlags := 2, slot := 0, constantValue := 0 }]
  methods := #[k2m0, k2m1]
  instanceTypes := #[.long]
  staticTypes := #[.long]
  resolved := Array.replicate 65 none
  statics := none }

def pool3 : Array CpInfo := pool [(1, u "java/lang/Cloneable"), (0, .class_ 1), (0, u "java/lang/Object"), (0, .class_ 3)] 3

/-- java/lang/Cloneable -/
def k3 : Class := { plain "java/lang/Cloneable" (some 0) with
  accessFlags := 1537
  interfaces := #[]
  cf := some (fileOf pool3 2 #[] #[] 1537 4 #[] #[])
  fields := #[]
  methods := #[]
  instanceTypes := #[]
  staticTypes := #[]
  resolved := Array.replicate 8 none
  statics := none }

def pool4 : Array CpInfo := pool [(1, u "java/io/Serializable"), (0, .class_ 1), (0, u "java/lang/Object"), (0, .class_ 3)] 3

/-- java/io/Serializable -/
def k4 : Class := { plain "java/io/Serializable" (some 0) with
  accessFlags := 1537
  interfaces := #[]
  cf := some (fileOf pool4 2 #[] #[] 1537 4 #[] #[])
  fields := #[]
  methods := #[]
  instanceTypes := #[]
  staticTypes := #[]
  resolved := Array.replicate 8 none
  statics := none }

/-- the primitive byte -/
def k5 : Class := { plain "byte" none with kind := .primitive 'B', accessFlags := 0x411 }
/-- [B -/
def k6 : Class := { plain "[B" (some 0) with kind := .array 5 .byte, interfaces := #[3, 4], accessFlags := 1041 }

def heap : Heap := #[]
def classes : Array Class := #[k0, k1, k2, k3, k4, k5, k6]
def interned : List (Array UInt16 × Addr) := []
def slotsUsed : Nat := 0
def theMethod : MethodId := ⟨1, 1⟩
def args0 : Array Value := #[.long 5, .long 7]
def aboutOver (below : List Frame) : State where
  vm := { classes := classes, interned := interned.toArray }
  heap := heap
  slotsUsed := slotsUsed
  threads := #[{ frames := .invoking theMethod args0 :: below }]
def below0 : List Frame := [.native { method := ⟨0, 0⟩, args := #[] }]
def about1 : State := aboutOver below0
def p0 : Program := .bare "" "" ""
def e0 : Env := launch0.env 0 0 0
theorem w_frames : about1.frames = Frame.invoking theMethod args0 :: below0 := rfl
set_option maxRecDepth 65536 in
theorem w_args : argsFit about1.vm theMethod args0 = true := by decide +kernel
set_option maxRecDepth 65536 in
theorem w_heap : heapFits about1 = true := by decide +kernel
set_option maxRecDepth 65536 in
theorem w_runnable : about1.curStatus? = some .runnable := by decide +kernel
set_option maxRecDepth 65536 in
theorem w_alone : about1.alone = true := by decide +kernel
set_option maxRecDepth 65536 in
theorem w_named : about1.methodNamed? x = some theMethod := by decide +kernel
set_option maxRecDepth 65536 in
theorem w_hears : about1.hears theMethod below0 = true := by decide +kernel
set_option maxRecDepth 65536 in
theorem w_ripe : about1.ripe theMethod args0 below0 = true := by decide +kernel
theorem w_running : about1.status = .running := rfl
set_option maxRecDepth 65536 in
theorem w_room : about1.hasRoom e0.platform room_1 = true :=
  launch0.hasRoom_least _ room_1 (by decide +kernel) (by decide +kernel) (by decide +kernel) (by decide +kernel) (by decide +kernel) (by decide +kernel)
theorem allAtoms_all (ts : List Jvm.Cond) (a : Array Jvm.Value) (st : Jvm.State) : (allAtoms ts).before a st = ts.all (fun c => c.before a st) := by
  induction ts with
  | nil => rfl
  | cons c t ih =>
    show (Jvm.Cond.and c (allAtoms t)).before a st = _
    rw [Jvm.Cond.before_and, ih, List.all_cons]
def words1 : List Jvm.Cond := Jvm.Cond.code x code maxLocals ret :: tables_1
/-- a 'code' word, met by the world's own term for the bytes: nothing is compared byte by byte -/
theorem code_word {y : MethodName} {bytes : ByteArray} {mx : Nat} {rt : Option FieldType} {a : Array Value} {s : State} {m : MethodId} {meth : Method} {c : Code} (h1 : s.methodNamed? y = some m) (h2 : s.vm.method? m = some meth) (h3 : meth.code = some c) (h4 : c.code = bytes)
    (h5 : (c.maxLocals == mx && c.exceptionTable.isEmpty && decide (c.maxStack ≤ mostOperands) && decide (meth.sig.returnType = rt) && !meth.locks && decide (parseMethodDescriptor y.desc = some meth.sig)) = true) : (Jvm.Cond.code y bytes mx rt).before a s = true := by
  simp only [Bool.and_eq_true, beq_iff_eq, Bool.not_eq_true', decide_eq_true_eq] at h5
  obtain ⟨⟨⟨⟨⟨g1, g2⟩, g3⟩, g4⟩, g5⟩, g6⟩ := h5
  simp [Cond.before, Cond.holds, Cond.value, h1, h2, h3, h4, g1, g2, g3, g4, g5, g6]
def isCode : Jvm.Cond → Bool
  | .code _ _ _ _ => true
  | _ => false
theorem all_split {L : List Jvm.Cond} {P : Jvm.Cond → Bool} (h1 : L.all (fun c => isCode c || P c) = true) (h2 : ∀ c ∈ L.filter isCode, P c = true) : L.all P = true := by
  refine List.all_eq_true.mpr fun c hc => ?_
  have h := List.all_eq_true.mp h1 c hc
  rcases Bool.eq_false_or_eq_true (isCode c) with hi | hi
  · exact h2 c (List.mem_filter.mpr ⟨hc, hi⟩)
  · simpa [hi] using h
set_option maxRecDepth 65536 in
theorem w_c0 : (Jvm.Cond.code x code maxLocals ret).before args0 about1 = true := code_word (m := ⟨1, 1⟩) (meth := k1m1) (c := k1c1) (by decide +kernel) rfl rfl rfl (by decide +kernel)
set_option maxRecDepth 65536 in
theorem w_c1 : (Jvm.Cond.code ({ cls := "com/example/slotwise/slotwise/SplitMix64", name := "<init>", desc := "(J)V" } : Jvm.MethodName) prog_55_method_1_code (3 : Nat) (Option.none : Option Jvm.ClassFile.FieldType)).before args0 about1 = true := code_word (m := ⟨2, 0⟩) (meth := k2m0) (c := k2c0) (by decide +kernel) rfl rfl rfl (by decide +kernel)
set_option maxRecDepth 65536 in
theorem w_c2 : (Jvm.Cond.code ({ cls := "java/lang/Object", name := "<init>", desc := "()V" } : Jvm.MethodName) object_method_1_code (1 : Nat) (Option.none : Option Jvm.ClassFile.FieldType)).before args0 about1 = true := code_word (m := ⟨0, 0⟩) (meth := k0m0) (c := k0c0) (by decide +kernel) rfl rfl rfl (by decide +kernel)
set_option maxRecDepth 65536 in
theorem w_c3 : (Jvm.Cond.code ({ cls := "com/example/slotwise/slotwise/SplitMix64", name := "nextLong", desc := "()J" } : Jvm.MethodName) prog_55_method_2_code (3 : Nat) (Option.some Jvm.ClassFile.FieldType.long)).before args0 about1 = true := code_word (m := ⟨2, 1⟩) (meth := k2m1) (c := k2c1) (by decide +kernel) rfl rfl rfl (by decide +kernel)
def codes1 : List Jvm.Cond := [Jvm.Cond.code x code maxLocals ret, Jvm.Cond.code ({ cls := "com/example/slotwise/slotwise/SplitMix64", name := "<init>", desc := "(J)V" } : Jvm.MethodName) prog_55_method_1_code (3 : Nat) (Option.none : Option Jvm.ClassFile.FieldType), Jvm.Cond.code ({ cls := "java/lang/Object", name := "<init>", desc := "()V" } : Jvm.MethodName) object_method_1_code (1 : Nat) (Option.none : Option Jvm.ClassFile.FieldType), Jvm.Cond.code ({ cls := "com/example/slotwise/slotwise/SplitMix64", name := "nextLong", desc := "()J" } : Jvm.MethodName) prog_55_method_2_code (3 : Nat) (Option.some Jvm.ClassFile.FieldType.long)]
set_option maxRecDepth 65536 in
theorem codes_eq : words1.filter isCode = codes1 := rfl
theorem w_codes : ∀ c ∈ words1.filter isCode, c.before args0 about1 = true := by
  rw [codes_eq]
  intro c hc
  simp only [codes1, List.mem_cons, List.not_mem_nil, or_false] at hc
  rcases hc with rfl | rfl | rfl | rfl
  · exact w_c0
  · exact w_c1
  · exact w_c2
  · exact w_c3
set_option maxRecDepth 65536 in
theorem w_t1 : words1.all (fun c => isCode c || c.before args0 about1) = true := by decide +kernel
theorem w_tables : (allAtoms (Jvm.Cond.code x code maxLocals ret :: tables_1)).before args0 about1 = true := by
  rw [allAtoms_all]
  show words1.all (fun c => c.before args0 about1) = true
  refine all_split ?_ w_codes
  rw [w_t1]
set_option maxRecDepth 65536 in
theorem w_case : (Jvm.Cond.and given_1 narrow_1).before args0 about1 = true := by decide +kernel
theorem w_applies : (headSpec (Jvm.Cond.code x code maxLocals ret :: tables_1) room_1).applies x e0.platform about1 = true :=
  (Spec.applies_iff w_frames).mpr ⟨w_running, w_runnable, w_alone, w_named, w_hears, w_ripe, w_room, w_tables⟩
theorem atStart : AtStart classFile x code maxLocals ret World_1 tables_1 room_1 Calls_1 rest_1 Pre_1 launch0 p0 e0 about1 theMethod args0 below0 :=
  ⟨lists_1, trivial, launch0.admits_env _ _ _, launch0.least_env, fairChoices_fair.cas, fairChoices_fair.clock, w_frames, w_args, w_heap, w_applies, trivial, trivial, w_case⟩
end start1
theorem witness_1 : WitnessClaimed_1 := ⟨start1.p0, start1.e0, start1.about1, start1.theMethod, start1.args0, start1.below0, start1.atStart⟩
end Jvm.Pilot.@@N@@
