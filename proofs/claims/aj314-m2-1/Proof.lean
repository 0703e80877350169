import JvmDerived
import JvmDerived.Pilot.@@N@@Statement
import JvmDerived.Pilot.@@N@@Code
set_option linter.unusedVariables false
set_option linter.unusedSimpArgs false
@@BLOCK:NumsL.lean.txt@@
namespace Jvm.RoadKit
open Sem ClassFile Op Lib Jvm.Stand Jvm.Free Jvm.LawKit
section New
variable {p : Program} {l : Launch} {e : Env} {R : Room} {s : State} {m : MethodId} {args : Array Value} {below : List Frame} {meth : Method} {c : Code} {T : State} {locs : List Loc} {cells slots : Nat}
theorem retI (X : Stand p l e R s m args below meth c T locs cells slots) (hx : p.tables.exec = Jvm.exec) {pc : Nat} {Ls : Array Slot} {z : Int32} {rest : List Value} (hret : meth.sig.returnType = some .int) (hd : decode c.code pc = .ok (.ireturn, 1)) {fs : List Frame}
    (hl : ∀ (f : JFrame) (acts : List Action), f.method = m → f.locked = none → f.entered = [] → (doReturn e (T.setTop f) acts (some (.int z))).1 = T.setFrames fs) : Steps p.tables e below (T.setTop (mkF m pc Ls (.int z :: rest))) (T.setFrames fs) := by
  have hm' : T.vm.method? m = some meth := X.method'
  have hn : narrow .int (.int z) = .int z := rfl
  show Steps p.tables e below (T.setTop { method := m, pc := pc, locals := Ls, stack := _ :: rest, locked := none }) _
  jvm_step X.here [X.here.top, hx, hd, hm', hret, hn]
  first | (intro acts; rw [hl _ acts rfl rfl rfl]) | rw [hl _ _ rfl rfl rfl]
  exact Steps.refl _
end New
end Jvm.RoadKit
namespace Jvm.Pilot.@@N@@
open Jvm Jvm.ClassFile Sem Op Lib Jvm.Free Jvm.Stand Jvm.LawKit Jvm.RoadKit Bundle Jvm.Pilot.@@N@@.Jvm.D
/-! numbers -/
def own_lap (n : Int32) : Int64 := ((1 : Int64) <<< (((8 : Int32) * n) &&& 0x3f).toInt64) / (16384 : Int64)
theorem own_lap4 : (own_lap (4 : Int32)).toInt = 262144 := by decide +kernel
theorem own_lap5 : (own_lap ((4 : Int32) + (1 : Int32))).toInt = 67108864 := by decide +kernel
theorem own_lap6 : (own_lap (((4 : Int32) + (1 : Int32)) + (1 : Int32))).toInt = 17179869184 := by decide +kernel
theorem own_lap7 : (own_lap ((((4 : Int32) + (1 : Int32)) + (1 : Int32)) + (1 : Int32))).toInt = 4398046511104 := by decide +kernel
theorem own_2q (q : Int64) (h1 : -4398046511104 ≤ q.toInt) (h2 : q.toInt ≤ 4398046511104) : ((2 : Int64) * q).toInt = 2 * q.toInt := by
  have e : (2 : Int64).toInt = 2 := by decide
  rw [Jvm.Kit.i64_mul (by rw [e]; omega) (by rw [e]; omega), e]
theorem own_no {q a : Int64} {A : Int} (ha : a.toInt = A) (h1 : -4398046511104 ≤ q.toInt) (h2 : q.toInt ≤ 4398046511104) (h : 2 * q.toInt ≤ A) : ¬ ((lcmpW a ((2 : Int64) * q)) < (0 : Int32)) := by
  rw [lw_lt, Int64.lt_iff_toInt_lt, own_2q q h1 h2, ha]; omega
theorem own_yes {q a : Int64} {A : Int} (ha : a.toInt = A) (h1 : -4398046511104 ≤ q.toInt) (h2 : q.toInt ≤ 4398046511104) (h : A < 2 * q.toInt) : (lcmpW a ((2 : Int64) * q)) < (0 : Int32) := by
  rw [lw_lt, Int64.lt_iff_toInt_lt, own_2q q h1 h2, ha]; exact h
theorem own_gt {q a : Int64} {A : Int} (ha : a.toInt = A) (h : (0 : Int32) < (lcmpW q a)) : A < q.toInt := by
  rw [lw_gt, Int64.lt_iff_toInt_lt, ha] at h; exact h
theorem own_le {q a : Int64} {A : Int} (ha : a.toInt = A) (h : ¬ ((0 : Int32) < (lcmpW q a))) : q.toInt ≤ A := by
  rw [lw_gt, Int64.lt_iff_toInt_lt, ha] at h; omega
theorem own_k4 : (131072 : Int64).toInt = 131072 := by decide +kernel
theorem own_k5 : (33554432 : Int64).toInt = 33554432 := by decide +kernel
theorem own_k6 : (8589934592 : Int64).toInt = 8589934592 := by decide +kernel
/-- what is left by 2^41 + 1 -/
theorem own_r3 (x : Int64) : -2199023255552 ≤ (x - ((x / (2199023255553 : Int64)) * (2199023255553 : Int64))).toInt ∧ (x - ((x / (2199023255553 : Int64)) * (2199023255553 : Int64))).toInt ≤ 2199023255552 := by
  have e : (2199023255553 : Int64).toInt = 2199023255553 := by decide +kernel
  rw [Jvm.Kit.i64_rem, e]
  have h1 := Int.tmod_lt_of_pos x.toInt (b := 2199023255553) (by omega)
  have h2 := Int.lt_tmod_of_pos x.toInt (b := 2199023255553) (by omega)
  omega
theorem own_r5 (x : Int64) : -4 ≤ (x - ((x / (5 : Int64)) * (5 : Int64))).toInt ∧ (x - ((x / (5 : Int64)) * (5 : Int64))).toInt ≤ 4 := by
  have e : (5 : Int64).toInt = 5 := by decide +kernel
  rw [Jvm.Kit.i64_rem, e]
  have h1 := Int.tmod_lt_of_pos x.toInt (b := 5) (by omega)
  have h2 := Int.lt_tmod_of_pos x.toInt (b := 5) (by omega)
  omega
theorem own_b5 (x : Int64) {b : Int64} {B : Int} (hb : b.toInt = B) (h1 : 0 ≤ B) (h2 : B ≤ 8589934592) : B - 4 ≤ (b + (x - ((x / (5 : Int64)) * (5 : Int64)))).toInt ∧ (b + (x - ((x / (5 : Int64)) * (5 : Int64)))).toInt ≤ B + 4 := by
  obtain ⟨g1, g2⟩ := own_r5 x
  rw [Jvm.Kit.i64_add (by rw [hb]; omega) (by rw [hb]; omega), hb]
  omega
theorem d2_0 : decode prog_16_method_4_code 0 = .ok (.lconst 1, 1) := by decide +kernel
theorem d2_1 : decode prog_16_method_4_code 1 = .ok (.bipush 8, 2) := by decide +kernel
theorem d2_3 : decode prog_16_method_4_code 3 = .ok (.iload_n 0, 1) := by decide +kernel
theorem d2_4 : decode prog_16_method_4_code 4 = .ok (.imul, 1) := by decide +kernel
theorem d2_5 : decode prog_16_method_4_code 5 = .ok (.lshl, 1) := by decide +kernel
theorem d2_6 : decode prog_16_method_4_code 6 = .ok (.ldc2_w 62, 3) := by decide +kernel
theorem d2_9 : decode prog_16_method_4_code 9 = .ok (.ldiv, 1) := by decide +kernel
theorem d2_10 : decode prog_16_method_4_code 10 = .ok (.lreturn, 1) := by decide +kernel
theorem pn_2 : plainName "com/example/key_steward/keysteward/steward/TokenSerials" = true := by first | (simp [plainName, overriddenIn]; done) | decide +kernel
theorem ef_2 (m : MethodId) (x0 : Int32) : entryFrame m #[(.int x0)] 1 = mkF m 0 #[.val (.int x0)] [] := by first | (simp [entryFrame, mkF, argsToLocals, Value.category]; done) | rfl
def Q2 (Z : State) (p1 : Int32) (h0 : Heap) (n0 : Nat) (v : Option Value) (h : Heap) (L : List Loc) : Prop := v = some (.long (own_lap p1)) ∧ Fr n0 L ∧ h = h0
set_option maxRecDepth 65536 in
set_option maxHeartbeats 40000000 in
theorem rm2 (l : Launch) (Z : State) (a0 : Array Value) (hw : ∀ d ∈ tables_1, d.before a0 Z = true) (ws : List Jvm.Cond) (p1 : Int32) (h0 : Heap) (n0 : Nat) (Z0 : n0 ≤ h0.size) (hnz9 : ¬ ((16384 : Int64) = (0 : Int64))) :
    MetFree l (⟨"com/example/key_steward/keysteward/steward/TokenSerials", "lapSeconds", "(I)J"⟩ : MethodName) (head1 (Jvm.Cond.code (⟨"com/example/key_steward/keysteward/steward/TokenSerials", "lapSeconds", "(I)J"⟩ : MethodName) prog_16_method_4_code 1 (some .long) :: ws) ({ frames := 0, cells := 0, slots := 0, locals := 0 } : Room)) (fun a U => a = #[(.int p1)] ∧ Z.Warmed39 U.vm ∧ U.heap = h0) (fun _ _ _ _ _ => True) (fun _ U o U' => ∃ v L, o = .returned v ∧ Q2 Z p1 h0 n0 v U'.heap L ∧ FrameEnd U o U' L ({ frames := 0, cells := 0, slots := 0, locals := 0 } : Room).cells ({ frames := 0, cells := 0, slots := 0, locals := 0 } : Room).slots) := by
  refine MetFree.of_bodySF (plainFor_of_name pn_2) hisR ?_
  intro p e s m args below meth c s₁ Bd hml0 hP hK
  obtain ⟨rfl, hZ, hh⟩ := hP
  have hx := Bd.exec
  have hby := Bd.bytes
  have hml : c.maxLocals = 1 := hml0
  have hown : s.vm.findClass "com/example/key_steward/keysteward/steward/TokenSerials" = some m.cls := findClass_of_methodNamed Bd.named
  have hnm := (name_of_methodNamed Bd.named Bd.method).1
  have X0 : Stand p l e ({ frames := 0, cells := 0, slots := 0, locals := 0 } : Room) s m #[(.int p1)] below meth c s₁ [] 0 0 := Stand.of_body Bd
  have e0 : s₁.heap = h0 := by rw [← hh, Bd.state]; rfl
  have N0 := Fr.nil n0
  have pre0 : ∀ t, Steps p.tables e below (s₁.setTop (mkF m 0 #[.val (.int p1)] [])) t → Steps p.tables e below (s₁.setTop (entryFrame m #[(.int p1)] 1)) t := fun t k => castTop (ef_2 m p1) k
  obtain ⟨fs, hr, hrun, hended, hW, hsame⟩ := X0.leave (v := some (.long (own_lap p1))) (fun h => by rw [Bd.returns] at h; cases h)
  refine ⟨_, _, pre0 _ ?_, hrun, hended, _, _, rfl, ?_, ⟨_, rfl⟩, hW, hsame.mono (by decide) (by decide)⟩
  · show Steps p.tables e below (s₁.setTop (mkF m 0 #[.val (.int p1)] [])) _
    refine XS.lconst X0.here hx rfl (hb hby d2_0) ?_
    show Steps p.tables e below (s₁.setTop (mkF m 1 #[.val (.int p1)] [(.long (1 : Int64))])) _
    refine XS.bipush X0.here hx rfl (hb hby d2_1) ?_
    show Steps p.tables e below (s₁.setTop (mkF m 3 #[.val (.int p1)] [(.int (8 : Int32)), (.long (1 : Int64))])) _
    refine XS.iloadN X0.here hx rfl (hb hby d2_3) rfl ?_
    show Steps p.tables e below (s₁.setTop (mkF m 4 #[.val (.int p1)] [(.int p1), (.int (8 : Int32)), (.long (1 : Int64))])) _
    refine XS.imul X0.here hx rfl (hb hby d2_4) rfl ?_
    show Steps p.tables e below (s₁.setTop (mkF m 5 #[.val (.int p1)] [(.int ((8 : Int32) * p1)), (.long (1 : Int64))])) _
    refine XS.lshl X0.here hx rfl (hb hby d2_5) rfl ?_
    show Steps p.tables e below (s₁.setTop (mkF m 6 #[.val (.int p1)] [(.long ((1 : Int64) <<< (((8 : Int32) * p1) &&& 0x3f).toInt64))])) _
    refine X0.ldc2Long hx hown (mvT hZ (hw _ (List.mem_of_getElem? (i := 11) rfl))) (g := (mkF m 6 #[.val (.int p1)] [(.long ((1 : Int64) <<< (((8 : Int32) * p1) &&& 0x3f).toInt64))])) rfl (hb hby d2_6) _ ?_
    show Steps p.tables e below (s₁.setTop (mkF m 9 #[.val (.int p1)] [(.long (16384 : Int64)), (.long ((1 : Int64) <<< (((8 : Int32) * p1) &&& 0x3f).toInt64))])) _
    refine XS.ldiv X0.here hx rfl (hb hby d2_9) rfl hnz9 ?_
    show Steps p.tables e below (s₁.setTop (mkF m 10 #[.val (.int p1)] [(.long (own_lap p1))])) _
    jvm_step X0.here [X0.here.top, hx, (hb hby d2_10), X0.method', Bd.returns, narrow]
    first | (intro acts; rw [hr _ acts rfl rfl rfl]) | rw [hr _ _ rfl rfl rfl]
    exact Steps.refl _
  · show Q2 Z p1 h0 n0 _ s₁.heap _
    rw [e0]
    exact ⟨rfl, N0, rfl⟩
theorem d1_0 : decode prog_16_method_3_code 0 = .ok (.iconst 4, 1) := by decide +kernel
theorem d1_1 : decode prog_16_method_3_code 1 = .ok (.istore_n 2, 1) := by decide +kernel
theorem d1_2 : decode prog_16_method_3_code 2 = .ok (.iload_n 2, 1) := by decide +kernel
theorem d1_3 : decode prog_16_method_3_code 3 = .ok (.invokestatic 72, 3) := by decide +kernel
theorem d1_6 : decode prog_16_method_3_code 6 = .ok (.ldc2_w 76, 3) := by decide +kernel
theorem d1_9 : decode prog_16_method_3_code 9 = .ok (.lload_n 0, 1) := by decide +kernel
theorem d1_10 : decode prog_16_method_3_code 10 = .ok (.lmul, 1) := by decide +kernel
theorem d1_11 : decode prog_16_method_3_code 11 = .ok (.lcmp, 1) := by decide +kernel
theorem d1_12 : decode prog_16_method_3_code 12 = .ok (.ifCond .ge 9, 3) := by decide +kernel
theorem d1_21 : decode prog_16_method_3_code 21 = .ok (.iload_n 2, 1) := by decide +kernel
theorem d1_22 : decode prog_16_method_3_code 22 = .ok (.ireturn, 1) := by decide +kernel
theorem pn_1 : plainName "com/example/key_steward/keysteward/steward/TokenSerials" = true := by first | (simp [plainName, overriddenIn]; done) | decide +kernel
theorem pd_1_1 : parseMethodDescriptor "(I)J" = some ⟨[.int], some .long⟩ := by decide +kernel
theorem ef_1 (m : MethodId) (x0 : Int64) : entryFrame m #[(.long x0)] 3 = mkF m 0 #[.val (.long x0), .second, .unset] [] := by first | (simp [entryFrame, mkF, argsToLocals, Value.category]; done) | rfl
def Q1 (Z : State) (q1 : Int64) (r : Int32) (h0 : Heap) (n0 : Nat) (v : Option Value) (h : Heap) (L : List Loc) : Prop := v = some (.int r) ∧ Fr n0 L ∧ h = h0
set_option maxRecDepth 65536 in
set_option maxHeartbeats 40000000 in
theorem rm1_4 (l : Launch) (Z : State) (a0 : Array Value) (hw : ∀ d ∈ tables_1, d.before a0 Z = true) (ws : List Jvm.Cond) (q1 : Int64) (h0 : Heap) (n0 : Nat) (Z0 : n0 ≤ h0.size) (hlo : -4398046511104 ≤ q1.toInt) (hhi : q1.toInt ≤ 131072) :
    MetFree l (⟨"com/example/key_steward/keysteward/steward/TokenSerials", "length", "(J)I"⟩ : MethodName) (head1 (Jvm.Cond.code (⟨"com/example/key_steward/keysteward/steward/TokenSerials", "length", "(J)I"⟩ : MethodName) prog_16_method_3_code 3 (some .int) :: ws) ({ frames := 1, cells := 0, slots := 0, locals := 12 } : Room)) (fun a U => a = #[(.long q1)] ∧ Z.Warmed39 U.vm ∧ U.heap = h0) (fun _ _ _ _ _ => True) (fun _ U o U' => ∃ v L, o = .returned v ∧ Q1 Z q1 (4 : Int32) h0 n0 v U'.heap L ∧ FrameEnd U o U' L ({ frames := 1, cells := 0, slots := 0, locals := 12 } : Room).cells ({ frames := 1, cells := 0, slots := 0, locals := 12 } : Room).slots) := by
  refine MetFree.of_bodySF (plainFor_of_name pn_1) hisR ?_
  intro p e s m args below meth c s₁ Bd hml0 hP hK
  obtain ⟨rfl, hZ, hh⟩ := hP
  have hx := Bd.exec
  have hby := Bd.bytes
  have hml : c.maxLocals = 3 := hml0
  have hown : s.vm.findClass "com/example/key_steward/keysteward/steward/TokenSerials" = some m.cls := findClass_of_methodNamed Bd.named
  have hnm := (name_of_methodNamed Bd.named Bd.method).1
  have X0 : Stand p l e ({ frames := 1, cells := 0, slots := 0, locals := 12 } : Room) s m #[(.long q1)] below meth c s₁ [] 0 0 := Stand.of_body Bd
  have e0 : s₁.heap = h0 := by rw [← hh, Bd.state]; rfl
  have N0 := Fr.nil n0
  have pre0 : ∀ t, Steps p.tables e below (s₁.setTop (mkF m 0 #[.val (.long q1), .second, .unset] [])) t → Steps p.tables e below (s₁.setTop (entryFrame m #[(.long q1)] 3)) t := fun t k => castTop (ef_1 m q1) k
  obtain ⟨_, _, ⟨T2, L2, k2, n2⟩, -, X2, ⟨Lc2, hQ2, l2, y2, z2⟩, st2⟩ := Jvm.LawKit.callS X0 hx (y := (⟨"com/example/key_steward/keysteward/steward/TokenSerials", "lapSeconds", "(I)J"⟩ : MethodName)) hown (mvT hZ (hw _ (List.mem_of_getElem? (i := 8) rfl))) (mvT hZ (hw _ (List.mem_of_getElem? (i := 9) rfl))) (mvT hZ (hw _ (List.mem_of_getElem? (i := 6) rfl))) (mvT hZ (hw _ (List.mem_of_getElem? (i := 10) rfl))) (by decide) (backOf (W := 0) (rm2 l Z a0 hw [] (4 : Int32) h0 n0 Z0 (by decide)) hZ (hw _ (List.mem_of_getElem? (i := 10) rfl)) (hw _ (List.mem_of_getElem? (i := 6) rfl)) (by decide) (by decide)) (g := (mkF m 3 #[.val (.long q1), .second, .val (.int (4 : Int32))] [(.int (4 : Int32))])) rfl (by rw [hml]; rfl) (argsL := [(.int (4 : Int32))]) (rest := []) (lenOf pd_1_1 rfl) rfl (by show 2 * 0 + _ ≤ _; exact Nat.le_of_eq rfl) (hb hby d1_3) (fun _ _ => ⟨rfl, e0, (by decide : 0 + 0 ≤ _), (by decide : 0 + 0 ≤ _)⟩)
  dsimp only [Pt.U, Pt.locs, Pt.cells, Pt.slots] at X2 l2 y2 z2 st2 hQ2
  subst l2 y2 z2
  obtain ⟨rfl, N2q, Hc2⟩ := hQ2
  have N2 := Fr.app N0 N2q
  have Zc2 := (Nat.le_of_eq (congrArg Array.size Hc2).symm)
  have Zs2 := Nat.le_trans Z0 Zc2
  obtain ⟨fs, hr, hrun, hended, hW, hsame⟩ := X2.leave (v := some (.int (4 : Int32))) (fun h => by rw [Bd.returns] at h; cases h)
  refine ⟨_, _, pre0 _ ?_, hrun, hended, _, _, rfl, ?_, ⟨_, rfl⟩, hW, hsame.mono (by decide) (by decide)⟩
  · show Steps p.tables e below (s₁.setTop (mkF m 0 #[.val (.long q1), .second, .unset] [])) _
    refine XS.iconst X0.here hx rfl (hb hby d1_0) ?_
    show Steps p.tables e below (s₁.setTop (mkF m 1 #[.val (.long q1), .second, .unset] [(.int (4 : Int32))])) _
    refine XS.istoreN X0.here hx rfl (hb hby d1_1) rfl (l' := #[.val (.long q1), .second, .val (.int (4 : Int32))]) rfl ?_
    show Steps p.tables e below (s₁.setTop (mkF m 2 #[.val (.long q1), .second, .val (.int (4 : Int32))] [])) _
    refine XS.iloadN X0.here hx rfl (hb hby d1_2) rfl ?_
    show Steps p.tables e below (s₁.setTop (mkF m 3 #[.val (.long q1), .second, .val (.int (4 : Int32))] [(.int (4 : Int32))])) _
    refine st2 _ ?_
    show Steps p.tables e below (T2.setTop (mkF m 6 #[.val (.long q1), .second, .val (.int (4 : Int32))] [(.long (own_lap (4 : Int32)))])) _
    refine X2.ldc2Long hx hown (mvT hZ (hw _ (List.mem_of_getElem? (i := 12) rfl))) (g := (mkF m 6 #[.val (.long q1), .second, .val (.int (4 : Int32))] [(.long (own_lap (4 : Int32)))])) rfl (hb hby d1_6) _ ?_
    show Steps p.tables e below (T2.setTop (mkF m 9 #[.val (.long q1), .second, .val (.int (4 : Int32))] [(.long (2 : Int64)), (.long (own_lap (4 : Int32)))])) _
    refine XS.lloadN X2.here hx rfl (hb hby d1_9) rfl ?_
    show Steps p.tables e below (T2.setTop (mkF m 10 #[.val (.long q1), .second, .val (.int (4 : Int32))] [(.long q1), (.long (2 : Int64)), (.long (own_lap (4 : Int32)))])) _
    refine XS.lmul X2.here hx rfl (hb hby d1_10) rfl ?_
    show Steps p.tables e below (T2.setTop (mkF m 11 #[.val (.long q1), .second, .val (.int (4 : Int32))] [(.long ((2 : Int64) * q1)), (.long (own_lap (4 : Int32)))])) _
    refine XS.lcmp X2.here hx rfl (hb hby d1_11) rfl ?_
    show Steps p.tables e below (T2.setTop (mkF m 12 #[.val (.long q1), .second, .val (.int (4 : Int32))] [(.int (lcmpW (own_lap (4 : Int32)) ((2 : Int64) * q1)))])) _
    refine XS.ifYes X2.here hx rfl (pc0 := 12) (pc' := 21) rfl (hb hby d1_12) rfl ((if0 _ _).trans (flt (own_no own_lap4 (by omega) (by omega) (by omega) : ¬ ((lcmpW (own_lap (4 : Int32)) ((2 : Int64) * q1)) < (0 : Int32)))).2.1) (by decide) (by decide) ?_
    show Steps p.tables e below (T2.setTop (mkF m 21 #[.val (.long q1), .second, .val (.int (4 : Int32))] [])) _
    refine XS.iloadN X2.here hx rfl (hb hby d1_21) rfl ?_
    show Steps p.tables e below (T2.setTop (mkF m 22 #[.val (.long q1), .second, .val (.int (4 : Int32))] [(.int (4 : Int32))])) _
    exact retI X2 hx Bd.returns (hb hby d1_22) hr
  · show Q1 Z q1 (4 : Int32) h0 n0 _ T2.heap _
    exact ⟨rfl, N2, Hc2⟩
theorem d1_15 : decode prog_16_method_3_code 15 = .ok (.iinc 2 1, 3) := by decide +kernel
theorem d1_18 : decode prog_16_method_3_code 18 = .ok (.goto (-16), 3) := by decide +kernel
set_option maxRecDepth 65536 in
set_option maxHeartbeats 40000000 in
theorem rm1_5 (l : Launch) (Z : State) (a0 : Array Value) (hw : ∀ d ∈ tables_1, d.before a0 Z = true) (ws : List Jvm.Cond) (q1 : Int64) (h0 : Heap) (n0 : Nat) (Z0 : n0 ≤ h0.size) (hlo : 131072 < q1.toInt) (hhi : q1.toInt ≤ 33554432) :
    MetFree l (⟨"com/example/key_steward/keysteward/steward/TokenSerials", "length", "(J)I"⟩ : MethodName) (head1 (Jvm.Cond.code (⟨"com/example/key_steward/keysteward/steward/TokenSerials", "length", "(J)I"⟩ : MethodName) prog_16_method_3_code 3 (some .int) :: ws) ({ frames := 1, cells := 0, slots := 0, locals := 12 } : Room)) (fun a U => a = #[(.long q1)] ∧ Z.Warmed39 U.vm ∧ U.heap = h0) (fun _ _ _ _ _ => True) (fun _ U o U' => ∃ v L, o = .returned v ∧ Q1 Z q1 (5 : Int32) h0 n0 v U'.heap L ∧ FrameEnd U o U' L ({ frames := 1, cells := 0, slots := 0, locals := 12 } : Room).cells ({ frames := 1, cells := 0, slots := 0, locals := 12 } : Room).slots) := by
  refine MetFree.of_bodySF (plainFor_of_name pn_1) hisR ?_
  intro p e s m args below meth c s₁ Bd hml0 hP hK
  obtain ⟨rfl, hZ, hh⟩ := hP
  have hx := Bd.exec
  have hby := Bd.bytes
  have hml : c.maxLocals = 3 := hml0
  have hown : s.vm.findClass "com/example/key_steward/keysteward/steward/TokenSerials" = some m.cls := findClass_of_methodNamed Bd.named
  have hnm := (name_of_methodNamed Bd.named Bd.method).1
  have X0 : Stand p l e ({ frames := 1, cells := 0, slots := 0, locals := 12 } : Room) s m #[(.long q1)] below meth c s₁ [] 0 0 := Stand.of_body Bd
  have e0 : s₁.heap = h0 := by rw [← hh, Bd.state]; rfl
  have N0 := Fr.nil n0
  have pre0 : ∀ t, Steps p.tables e below (s₁.setTop (mkF m 0 #[.val (.long q1), .second, .unset] [])) t → Steps p.tables e below (s₁.setTop (entryFrame m #[(.long q1)] 3)) t := fun t k => castTop (ef_1 m q1) k
  obtain ⟨_, _, ⟨T2, L2, k2, n2⟩, -, X2, ⟨Lc2, hQ2, l2, y2, z2⟩, st2⟩ := Jvm.LawKit.callS X0 hx (y := (⟨"com/example/key_steward/keysteward/steward/TokenSerials", "lapSeconds", "(I)J"⟩ : MethodName)) hown (mvT hZ (hw _ (List.mem_of_getElem? (i := 8) rfl))) (mvT hZ (hw _ (List.mem_of_getElem? (i := 9) rfl))) (mvT hZ (hw _ (List.mem_of_getElem? (i := 6) rfl))) (mvT hZ (hw _ (List.mem_of_getElem? (i := 10) rfl))) (by decide) (backOf (W := 0) (rm2 l Z a0 hw [] (4 : Int32) h0 n0 Z0 (by decide)) hZ (hw _ (List.mem_of_getElem? (i := 10) rfl)) (hw _ (List.mem_of_getElem? (i := 6) rfl)) (by decide) (by decide)) (g := (mkF m 3 #[.val (.long q1), .second, .val (.int (4 : Int32))] [(.int (4 : Int32))])) rfl (by rw [hml]; rfl) (argsL := [(.int (4 : Int32))]) (rest := []) (lenOf pd_1_1 rfl) rfl (by show 2 * 0 + _ ≤ _; exact Nat.le_of_eq rfl) (hb hby d1_3) (fun _ _ => ⟨rfl, e0, (by decide : 0 + 0 ≤ _), (by decide : 0 + 0 ≤ _)⟩)
  dsimp only [Pt.U, Pt.locs, Pt.cells, Pt.slots] at X2 l2 y2 z2 st2 hQ2
  subst l2 y2 z2
  obtain ⟨rfl, N2q, Hc2⟩ := hQ2
  have N2 := Fr.app N0 N2q
  have Zc2 := (Nat.le_of_eq (congrArg Array.size Hc2).symm)
  have Zs2 := Nat.le_trans Z0 Zc2
  obtain ⟨_, _, ⟨T3, L3, k3, n3⟩, -, X3, ⟨Lc3, hQ3, l3, y3, z3⟩, st3⟩ := Jvm.LawKit.callS X2 hx (y := (⟨"com/example/key_steward/keysteward/steward/TokenSerials", "lapSeconds", "(I)J"⟩ : MethodName)) hown (mvT hZ (hw _ (List.mem_of_getElem? (i := 8) rfl))) (mvT hZ (hw _ (List.mem_of_getElem? (i := 9) rfl))) (mvT hZ (hw _ (List.mem_of_getElem? (i := 6) rfl))) (mvT hZ (hw _ (List.mem_of_getElem? (i := 10) rfl))) (by decide) (backOf (W := 0) (rm2 l Z a0 hw [] ((4 : Int32) + (1 : Int32)) T2.heap n0 Zs2 (by decide)) hZ (hw _ (List.mem_of_getElem? (i := 10) rfl)) (hw _ (List.mem_of_getElem? (i := 6) rfl)) (by decide) (by decide)) (g := (mkF m 3 #[.val (.long q1), .second, .val (.int ((4 : Int32) + (1 : Int32)))] [(.int ((4 : Int32) + (1 : Int32)))])) rfl (by rw [hml]; rfl) (argsL := [(.int ((4 : Int32) + (1 : Int32)))]) (rest := []) (lenOf pd_1_1 rfl) rfl (by show 2 * 0 + _ ≤ _; exact Nat.le_of_eq rfl) (hb hby d1_3) (fun _ _ => ⟨rfl, rfl, (by decide : 0 + 0 ≤ _), (by decide : 0 + 0 ≤ _)⟩)
  dsimp only [Pt.U, Pt.locs, Pt.cells, Pt.slots] at X3 l3 y3 z3 st3 hQ3
  subst l3 y3 z3
  obtain ⟨rfl, N3q, Hc3⟩ := hQ3
  have N3 := Fr.app N2 N3q
  have Zc3 := (Nat.le_of_eq (congrArg Array.size Hc3).symm)
  have Zs3 := Nat.le_trans Zs2 Zc3
  obtain ⟨fs, hr, hrun, hended, hW, hsame⟩ := X3.leave (v := some (.int ((4 : Int32) + (1 : Int32)))) (fun h => by rw [Bd.returns] at h; cases h)
  refine ⟨_, _, pre0 _ ?_, hrun, hended, _, _, rfl, ?_, ⟨_, rfl⟩, hW, hsame.mono (by decide) (by decide)⟩
  · show Steps p.tables e below (s₁.setTop (mkF m 0 #[.val (.long q1), .second, .unset] [])) _
    refine XS.iconst X0.here hx rfl (hb hby d1_0) ?_
    show Steps p.tables e below (s₁.setTop (mkF m 1 #[.val (.long q1), .second, .unset] [(.int (4 : Int32))])) _
    refine XS.istoreN X0.here hx rfl (hb hby d1_1) rfl (l' := #[.val (.long q1), .second, .val (.int (4 : Int32))]) rfl ?_
    show Steps p.tables e below (s₁.setTop (mkF m 2 #[.val (.long q1), .second, .val (.int (4 : Int32))] [])) _
    refine XS.iloadN X0.here hx rfl (hb hby d1_2) rfl ?_
    show Steps p.tables e below (s₁.setTop (mkF m 3 #[.val (.long q1), .second, .val (.int (4 : Int32))] [(.int (4 : Int32))])) _
    refine st2 _ ?_
    show Steps p.tables e below (T2.setTop (mkF m 6 #[.val (.long q1), .second, .val (.int (4 : Int32))] [(.long (own_lap (4 : Int32)))])) _
    refine X2.ldc2Long hx hown (mvT hZ (hw _ (List.mem_of_getElem? (i := 12) rfl))) (g := (mkF m 6 #[.val (.long q1), .second, .val (.int (4 : Int32))] [(.long (own_lap (4 : Int32)))])) rfl (hb hby d1_6) _ ?_
    show Steps p.tables e below (T2.setTop (mkF m 9 #[.val (.long q1), .second, .val (.int (4 : Int32))] [(.long (2 : Int64)), (.long (own_lap (4 : Int32)))])) _
    refine XS.lloadN X2.here hx rfl (hb hby d1_9) rfl ?_
    show Steps p.tables e below (T2.setTop (mkF m 10 #[.val (.long q1), .second, .val (.int (4 : Int32))] [(.long q1), (.long (2 : Int64)), (.long (own_lap (4 : Int32)))])) _
    refine XS.lmul X2.here hx rfl (hb hby d1_10) rfl ?_
    show Steps p.tables e below (T2.setTop (mkF m 11 #[.val (.long q1), .second, .val (.int (4 : Int32))] [(.long ((2 : Int64) * q1)), (.long (own_lap (4 : Int32)))])) _
    refine XS.lcmp X2.here hx rfl (hb hby d1_11) rfl ?_
    show Steps p.tables e below (T2.setTop (mkF m 12 #[.val (.long q1), .second, .val (.int (4 : Int32))] [(.int (lcmpW (own_lap (4 : Int32)) ((2 : Int64) * q1)))])) _
    refine XS.ifNo X2.here hx rfl (hb hby d1_12) rfl ((if0 _ _).trans (tlt (own_yes own_lap4 (by omega) (by omega) (by omega) : (lcmpW (own_lap (4 : Int32)) ((2 : Int64) * q1)) < (0 : Int32))).2.1) ?_
    show Steps p.tables e below (T2.setTop (mkF m 15 #[.val (.long q1), .second, .val (.int (4 : Int32))] [])) _
    refine XS.iinc X2.here hx rfl (hb hby d1_15) rfl (l' := #[.val (.long q1), .second, .val (.int ((4 : Int32) + (1 : Int32)))]) rfl ?_
    show Steps p.tables e below (T2.setTop (mkF m 18 #[.val (.long q1), .second, .val (.int ((4 : Int32) + (1 : Int32)))] [])) _
    refine XS.goto X2.here hx rfl (pc0 := 18) (pc' := 2) rfl (hb hby d1_18) (by decide) (by decide) ?_
    show Steps p.tables e below (T2.setTop (mkF m 2 #[.val (.long q1), .second, .val (.int ((4 : Int32) + (1 : Int32)))] [])) _
    refine XS.iloadN X2.here hx rfl (hb hby d1_2) rfl ?_
    show Steps p.tables e below (T2.setTop (mkF m 3 #[.val (.long q1), .second, .val (.int ((4 : Int32) + (1 : Int32)))] [(.int ((4 : Int32) + (1 : Int32)))])) _
    refine st3 _ ?_
    show Steps p.tables e below (T3.setTop (mkF m 6 #[.val (.long q1), .second, .val (.int ((4 : Int32) + (1 : Int32)))] [(.long (own_lap ((4 : Int32) + (1 : Int32))))])) _
    refine X3.ldc2Long hx hown (mvT hZ (hw _ (List.mem_of_getElem? (i := 12) rfl))) (g := (mkF m 6 #[.val (.long q1), .second, .val (.int ((4 : Int32) + (1 : Int32)))] [(.long (own_lap ((4 : Int32) + (1 : Int32))))])) rfl (hb hby d1_6) _ ?_
    show Steps p.tables e below (T3.setTop (mkF m 9 #[.val (.long q1), .second, .val (.int ((4 : Int32) + (1 : Int32)))] [(.long (2 : Int64)), (.long (own_lap ((4 : Int32) + (1 : Int32))))])) _
    refine XS.lloadN X3.here hx rfl (hb hby d1_9) rfl ?_
    show Steps p.tables e below (T3.setTop (mkF m 10 #[.val (.long q1), .second, .val (.int ((4 : Int32) + (1 : Int32)))] [(.long q1), (.long (2 : Int64)), (.long (own_lap ((4 : Int32) + (1 : Int32))))])) _
    refine XS.lmul X3.here hx rfl (hb hby d1_10) rfl ?_
    show Steps p.tables e below (T3.setTop (mkF m 11 #[.val (.long q1), .second, .val (.int ((4 : Int32) + (1 : Int32)))] [(.long ((2 : Int64) * q1)), (.long (own_lap ((4 : Int32) + (1 : Int32))))])) _
    refine XS.lcmp X3.here hx rfl (hb hby d1_11) rfl ?_
    show Steps p.tables e below (T3.setTop (mkF m 12 #[.val (.long q1), .second, .val (.int ((4 : Int32) + (1 : Int32)))] [(.int (lcmpW (own_lap ((4 : Int32) + (1 : Int32))) ((2 : Int64) * q1)))])) _
    refine XS.ifYes X3.here hx rfl (pc0 := 12) (pc' := 21) rfl (hb hby d1_12) rfl ((if0 _ _).trans (flt (own_no own_lap5 (by omega) (by omega) (by omega) : ¬ ((lcmpW (own_lap ((4 : Int32) + (1 : Int32))) ((2 : Int64) * q1)) < (0 : Int32)))).2.1) (by decide) (by decide) ?_
    show Steps p.tables e below (T3.setTop (mkF m 21 #[.val (.long q1), .second, .val (.int ((4 : Int32) + (1 : Int32)))] [])) _
    refine XS.iloadN X3.here hx rfl (hb hby d1_21) rfl ?_
    show Steps p.tables e below (T3.setTop (mkF m 22 #[.val (.long q1), .second, .val (.int ((4 : Int32) + (1 : Int32)))] [(.int ((4 : Int32) + (1 : Int32)))])) _
    exact retI X3 hx Bd.returns (hb hby d1_22) hr
  · show Q1 Z q1 (5 : Int32) h0 n0 _ T3.heap _
    exact ⟨rfl, N3, (Hc3.trans Hc2)⟩
set_option maxRecDepth 65536 in
set_option maxHeartbeats 40000000 in
theorem rm1_6 (l : Launch) (Z : State) (a0 : Array Value) (hw : ∀ d ∈ tables_1, d.before a0 Z = true) (ws : List Jvm.Cond) (q1 : Int64) (h0 : Heap) (n0 : Nat) (Z0 : n0 ≤ h0.size) (hlo : 33554432 < q1.toInt) (hhi : q1.toInt ≤ 8589934592) :
    MetFree l (⟨"com/example/key_steward/keysteward/steward/TokenSerials", "length", "(J)I"⟩ : MethodName) (head1 (Jvm.Cond.code (⟨"com/example/key_steward/keysteward/steward/TokenSerials", "length", "(J)I"⟩ : MethodName) prog_16_method_3_code 3 (some .int) :: ws) ({ frames := 1, cells := 0, slots := 0, locals := 12 } : Room)) (fun a U => a = #[(.long q1)] ∧ Z.Warmed39 U.vm ∧ U.heap = h0) (fun _ _ _ _ _ => True) (fun _ U o U' => ∃ v L, o = .returned v ∧ Q1 Z q1 (6 : Int32) h0 n0 v U'.heap L ∧ FrameEnd U o U' L ({ frames := 1, cells := 0, slots := 0, locals := 12 } : Room).cells ({ frames := 1, cells := 0, slots := 0, locals := 12 } : Room).slots) := by
  refine MetFree.of_bodySF (plainFor_of_name pn_1) hisR ?_
  intro p e s m args below meth c s₁ Bd hml0 hP hK
  obtain ⟨rfl, hZ, hh⟩ := hP
  have hx := Bd.exec
  have hby := Bd.bytes
  have hml : c.maxLocals = 3 := hml0
  have hown : s.vm.findClass "com/example/key_steward/keysteward/steward/TokenSerials" = some m.cls := findClass_of_methodNamed Bd.named
  have hnm := (name_of_methodNamed Bd.named Bd.method).1
  have X0 : Stand p l e ({ frames := 1, cells := 0, slots := 0, locals := 12 } : Room) s m #[(.long q1)] below meth c s₁ [] 0 0 := Stand.of_body Bd
  have e0 : s₁.heap = h0 := by rw [← hh, Bd.state]; rfl
  have N0 := Fr.nil n0
  have pre0 : ∀ t, Steps p.tables e below (s₁.setTop (mkF m 0 #[.val (.long q1), .second, .unset] [])) t → Steps p.tables e below (s₁.setTop (entryFrame m #[(.long q1)] 3)) t := fun t k => castTop (ef_1 m q1) k
  obtain ⟨_, _, ⟨T2, L2, k2, n2⟩, -, X2, ⟨Lc2, hQ2, l2, y2, z2⟩, st2⟩ := Jvm.LawKit.callS X0 hx (y := (⟨"com/example/key_steward/keysteward/steward/TokenSerials", "lapSeconds", "(I)J"⟩ : MethodName)) hown (mvT hZ (hw _ (List.mem_of_getElem? (i := 8) rfl))) (mvT hZ (hw _ (List.mem_of_getElem? (i := 9) rfl))) (mvT hZ (hw _ (List.mem_of_getElem? (i := 6) rfl))) (mvT hZ (hw _ (List.mem_of_getElem? (i := 10) rfl))) (by decide) (backOf (W := 0) (rm2 l Z a0 hw [] (4 : Int32) h0 n0 Z0 (by decide)) hZ (hw _ (List.mem_of_getElem? (i := 10) rfl)) (hw _ (List.mem_of_getElem? (i := 6) rfl)) (by decide) (by decide)) (g := (mkF m 3 #[.val (.long q1), .second, .val (.int (4 : Int32))] [(.int (4 : Int32))])) rfl (by rw [hml]; rfl) (argsL := [(.int (4 : Int32))]) (rest := []) (lenOf pd_1_1 rfl) rfl (by show 2 * 0 + _ ≤ _; exact Nat.le_of_eq rfl) (hb hby d1_3) (fun _ _ => ⟨rfl, e0, (by decide : 0 + 0 ≤ _), (by decide : 0 + 0 ≤ _)⟩)
  dsimp only [Pt.U, Pt.locs, Pt.cells, Pt.slots] at X2 l2 y2 z2 st2 hQ2
  subst l2 y2 z2
  obtain ⟨rfl, N2q, Hc2⟩ := hQ2
  have N2 := Fr.app N0 N2q
  have Zc2 := (Nat.le_of_eq (congrArg Array.size Hc2).symm)
  have Zs2 := Nat.le_trans Z0 Zc2
  obtain ⟨_, _, ⟨T3, L3, k3, n3⟩, -, X3, ⟨Lc3, hQ3, l3, y3, z3⟩, st3⟩ := Jvm.LawKit.callS X2 hx (y := (⟨"com/example/key_steward/keysteward/steward/TokenSerials", "lapSeconds", "(I)J"⟩ : MethodName)) hown (mvT hZ (hw _ (List.mem_of_getElem? (i := 8) rfl))) (mvT hZ (hw _ (List.mem_of_getElem? (i := 9) rfl))) (mvT hZ (hw _ (List.mem_of_getElem? (i := 6) rfl))) (mvT hZ (hw _ (List.mem_of_getElem? (i := 10) rfl))) (by decide) (backOf (W := 0) (rm2 l Z a0 hw [] ((4 : Int32) + (1 : Int32)) T2.heap n0 Zs2 (by decide)) hZ (hw _ (List.mem_of_getElem? (i := 10) rfl)) (hw _ (List.mem_of_getElem? (i := 6) rfl)) (by decide) (by decide)) (g := (mkF m 3 #[.val (.long q1), .second, .val (.int ((4 : Int32) + (1 : Int32)))] [(.int ((4 : Int32) + (1 : Int32)))])) rfl (by rw [hml]; rfl) (argsL := [(.int ((4 : Int32) + (1 : Int32)))]) (rest := []) (lenOf pd_1_1 rfl) rfl (by show 2 * 0 + _ ≤ _; exact Nat.le_of_eq rfl) (hb hby d1_3) (fun _ _ => ⟨rfl, rfl, (by decide : 0 + 0 ≤ _), (by decide : 0 + 0 ≤ _)⟩)
  dsimp only [Pt.U, Pt.locs, Pt.cells, Pt.slots] at X3 l3 y3 z3 st3 hQ3
  subst l3 y3 z3
  obtain ⟨rfl, N3q, Hc3⟩ := hQ3
  have N3 := Fr.app N2 N3q
  have Zc3 := (Nat.le_of_eq (congrArg Array.size Hc3).symm)
  have Zs3 := Nat.le_trans Zs2 Zc3
  obtain ⟨_, _, ⟨T4, L4, k4, n4⟩, -, X4, ⟨Lc4, hQ4, l4, y4, z4⟩, st4⟩ := Jvm.LawKit.callS X3 hx (y := (⟨"com/example/key_steward/keysteward/steward/TokenSerials", "lapSeconds", "(I)J"⟩ : MethodName)) hown (mvT hZ (hw _ (List.mem_of_getElem? (i := 8) rfl))) (mvT hZ (hw _ (List.mem_of_getElem? (i := 9) rfl))) (mvT hZ (hw _ (List.mem_of_getElem? (i := 6) rfl))) (mvT hZ (hw _ (List.mem_of_getElem? (i := 10) rfl))) (by decide) (backOf (W := 0) (rm2 l Z a0 hw [] (((4 : Int32) + (1 : Int32)) + (1 : Int32)) T3.heap n0 Zs3 (by decide)) hZ (hw _ (List.mem_of_getElem? (i := 10) rfl)) (hw _ (List.mem_of_getElem? (i := 6) rfl)) (by decide) (by decide)) (g := (mkF m 3 #[.val (.long q1), .second, .val (.int (((4 : Int32) + (1 : Int32)) + (1 : Int32)))] [(.int (((4 : Int32) + (1 : Int32)) + (1 : Int32)))])) rfl (by rw [hml]; rfl) (argsL := [(.int (((4 : Int32) + (1 : Int32)) + (1 : Int32)))]) (rest := []) (lenOf pd_1_1 rfl) rfl (by show 2 * 0 + _ ≤ _; exact Nat.le_of_eq rfl) (hb hby d1_3) (fun _ _ => ⟨rfl, rfl, (by decide : 0 + 0 ≤ _), (by decide : 0 + 0 ≤ _)⟩)
  dsimp only [Pt.U, Pt.locs, Pt.cells, Pt.slots] at X4 l4 y4 z4 st4 hQ4
  subst l4 y4 z4
  obtain ⟨rfl, N4q, Hc4⟩ := hQ4
  have N4 := Fr.app N3 N4q
  have Zc4 := (Nat.le_of_eq (congrArg Array.size Hc4).symm)
  have Zs4 := Nat.le_trans Zs3 Zc4
  obtain ⟨fs, hr, hrun, hended, hW, hsame⟩ := X4.leave (v := some (.int (((4 : Int32) + (1 : Int32)) + (1 : Int32)))) (fun h => by rw [Bd.returns] at h; cases h)
  refine ⟨_, _, pre0 _ ?_, hrun, hended, _, _, rfl, ?_, ⟨_, rfl⟩, hW, hsame.mono (by decide) (by decide)⟩
  · show Steps p.tables e below (s₁.setTop (mkF m 0 #[.val (.long q1), .second, .unset] [])) _
    refine XS.iconst X0.here hx rfl (hb hby d1_0) ?_
    show Steps p.tables e below (s₁.setTop (mkF m 1 #[.val (.long q1), .second, .unset] [(.int (4 : Int32))])) _
    refine XS.istoreN X0.here hx rfl (hb hby d1_1) rfl (l' := #[.val (.long q1), .second, .val (.int (4 : Int32))]) rfl ?_
    show Steps p.tables e below (s₁.setTop (mkF m 2 #[.val (.long q1), .second, .val (.int (4 : Int32))] [])) _
    refine XS.iloadN X0.here hx rfl (hb hby d1_2) rfl ?_
    show Steps p.tables e below (s₁.setTop (mkF m 3 #[.val (.long q1), .second, .val (.int (4 : Int32))] [(.int (4 : Int32))])) _
    refine st2 _ ?_
    show Steps p.tables e below (T2.setTop (mkF m 6 #[.val (.long q1), .second, .val (.int (4 : Int32))] [(.long (own_lap (4 : Int32)))])) _
    refine X2.ldc2Long hx hown (mvT hZ (hw _ (List.mem_of_getElem? (i := 12) rfl))) (g := (mkF m 6 #[.val (.long q1), .second, .val (.int (4 : Int32))] [(.long (own_lap (4 : Int32)))])) rfl (hb hby d1_6) _ ?_
    show Steps p.tables e below (T2.setTop (mkF m 9 #[.val (.long q1), .second, .val (.int (4 : Int32))] [(.long (2 : Int64)), (.long (own_lap (4 : Int32)))])) _
    refine XS.lloadN X2.here hx rfl (hb hby d1_9) rfl ?_
    show Steps p.tables e below (T2.setTop (mkF m 10 #[.val (.long q1), .second, .val (.int (4 : Int32))] [(.long q1), (.long (2 : Int64)), (.long (own_lap (4 : Int32)))])) _
    refine XS.lmul X2.here hx rfl (hb hby d1_10) rfl ?_
    show Steps p.tables e below (T2.setTop (mkF m 11 #[.val (.long q1), .second, .val (.int (4 : Int32))] [(.long ((2 : Int64) * q1)), (.long (own_lap (4 : Int32)))])) _
    refine XS.lcmp X2.here hx rfl (hb hby d1_11) rfl ?_
    show Steps p.tables e below (T2.setTop (mkF m 12 #[.val (.long q1), .second, .val (.int (4 : Int32))] [(.int (lcmpW (own_lap (4 : Int32)) ((2 : Int64) * q1)))])) _
    refine XS.ifNo X2.here hx rfl (hb hby d1_12) rfl ((if0 _ _).trans (tlt (own_yes own_lap4 (by omega) (by omega) (by omega) : (lcmpW (own_lap (4 : Int32)) ((2 : Int64) * q1)) < (0 : Int32))).2.1) ?_
    show Steps p.tables e below (T2.setTop (mkF m 15 #[.val (.long q1), .second, .val (.int (4 : Int32))] [])) _
    refine XS.iinc X2.here hx rfl (hb hby d1_15) rfl (l' := #[.val (.long q1), .second, .val (.int ((4 : Int32) + (1 : Int32)))]) rfl ?_
    show Steps p.tables e below (T2.setTop (mkF m 18 #[.val (.long q1), .second, .val (.int ((4 : Int32) + (1 : Int32)))] [])) _
    refine XS.goto X2.here hx rfl (pc0 := 18) (pc' := 2) rfl (hb hby d1_18) (by decide) (by decide) ?_
    show Steps p.tables e below (T2.setTop (mkF m 2 #[.val (.long q1), .second, .val (.int ((4 : Int32) + (1 : Int32)))] [])) _
    refine XS.iloadN X2.here hx rfl (hb hby d1_2) rfl ?_
    show Steps p.tables e below (T2.setTop (mkF m 3 #[.val (.long q1), .second, .val (.int ((4 : Int32) + (1 : Int32)))] [(.int ((4 : Int32) + (1 : Int32)))])) _
    refine st3 _ ?_
    show Steps p.tables e below (T3.setTop (mkF m 6 #[.val (.long q1), .second, .val (.int ((4 : Int32) + (1 : Int32)))] [(.long (own_lap ((4 : Int32) + (1 : Int32))))])) _
    refine X3.ldc2Long hx hown (mvT hZ (hw _ (List.mem_of_getElem? (i := 12) rfl))) (g := (mkF m 6 #[.val (.long q1), .second, .val (.int ((4 : Int32) + (1 : Int32)))] [(.long (own_lap ((4 : Int32) + (1 : Int32))))])) rfl (hb hby d1_6) _ ?_
    show Steps p.tables e below (T3.setTop (mkF m 9 #[.val (.long q1), .second, .val (.int ((4 : Int32) + (1 : Int32)))] [(.long (2 : Int64)), (.long (own_lap ((4 : Int32) + (1 : Int32))))])) _
    refine XS.lloadN X3.here hx rfl (hb hby d1_9) rfl ?_
    show Steps p.tables e below (T3.setTop (mkF m 10 #[.val (.long q1), .second, .val (.int ((4 : Int32) + (1 : Int32)))] [(.long q1), (.long (2 : Int64)), (.long (own_lap ((4 : Int32) + (1 : Int32))))])) _
    refine XS.lmul X3.here hx rfl (hb hby d1_10) rfl ?_
    show Steps p.tables e below (T3.setTop (mkF m 11 #[.val (.long q1), .second, .val (.int ((4 : Int32) + (1 : Int32)))] [(.long ((2 : Int64) * q1)), (.long (own_lap ((4 : Int32) + (1 : Int32))))])) _
    refine XS.lcmp X3.here hx rfl (hb hby d1_11) rfl ?_
    show Steps p.tables e below (T3.setTop (mkF m 12 #[.val (.long q1), .second, .val (.int ((4 : Int32) + (1 : Int32)))] [(.int (lcmpW (own_lap ((4 : Int32) + (1 : Int32))) ((2 : Int64) * q1)))])) _
    refine XS.ifNo X3.here hx rfl (hb hby d1_12) rfl ((if0 _ _).trans (tlt (own_yes own_lap5 (by omega) (by omega) (by omega) : (lcmpW (own_lap ((4 : Int32) + (1 : Int32))) ((2 : Int64) * q1)) < (0 : Int32))).2.1) ?_
    show Steps p.tables e below (T3.setTop (mkF m 15 #[.val (.long q1), .second, .val (.int ((4 : Int32) + (1 : Int32)))] [])) _
    refine XS.iinc X3.here hx rfl (hb hby d1_15) rfl (l' := #[.val (.long q1), .second, .val (.int (((4 : Int32) + (1 : Int32)) + (1 : Int32)))]) rfl ?_
    show Steps p.tables e below (T3.setTop (mkF m 18 #[.val (.long q1), .second, .val (.int (((4 : Int32) + (1 : Int32)) + (1 : Int32)))] [])) _
    refine XS.goto X3.here hx rfl (pc0 := 18) (pc' := 2) rfl (hb hby d1_18) (by decide) (by decide) ?_
    show Steps p.tables e below (T3.setTop (mkF m 2 #[.val (.long q1), .second, .val (.int (((4 : Int32) + (1 : Int32)) + (1 : Int32)))] [])) _
    refine XS.iloadN X3.here hx rfl (hb hby d1_2) rfl ?_
    show Steps p.tables e below (T3.setTop (mkF m 3 #[.val (.long q1), .second, .val (.int (((4 : Int32) + (1 : Int32)) + (1 : Int32)))] [(.int (((4 : Int32) + (1 : Int32)) + (1 : Int32)))])) _
    refine st4 _ ?_
    show Steps p.tables e below (T4.setTop (mkF m 6 #[.val (.long q1), .second, .val (.int (((4 : Int32) + (1 : Int32)) + (1 : Int32)))] [(.long (own_lap (((4 : Int32) + (1 : Int32)) + (1 : Int32))))])) _
    refine X4.ldc2Long hx hown (mvT hZ (hw _ (List.mem_of_getElem? (i := 12) rfl))) (g := (mkF m 6 #[.val (.long q1), .second, .val (.int (((4 : Int32) + (1 : Int32)) + (1 : Int32)))] [(.long (own_lap (((4 : Int32) + (1 : Int32)) + (1 : Int32))))])) rfl (hb hby d1_6) _ ?_
    show Steps p.tables e below (T4.setTop (mkF m 9 #[.val (.long q1), .second, .val (.int (((4 : Int32) + (1 : Int32)) + (1 : Int32)))] [(.long (2 : Int64)), (.long (own_lap (((4 : Int32) + (1 : Int32)) + (1 : Int32))))])) _
    refine XS.lloadN X4.here hx rfl (hb hby d1_9) rfl ?_
    show Steps p.tables e below (T4.setTop (mkF m 10 #[.val (.long q1), .second, .val (.int (((4 : Int32) + (1 : Int32)) + (1 : Int32)))] [(.long q1), (.long (2 : Int64)), (.long (own_lap (((4 : Int32) + (1 : Int32)) + (1 : Int32))))])) _
    refine XS.lmul X4.here hx rfl (hb hby d1_10) rfl ?_
    show Steps p.tables e below (T4.setTop (mkF m 11 #[.val (.long q1), .second, .val (.int (((4 : Int32) + (1 : Int32)) + (1 : Int32)))] [(.long ((2 : Int64) * q1)), (.long (own_lap (((4 : Int32) + (1 : Int32)) + (1 : Int32))))])) _
    refine XS.lcmp X4.here hx rfl (hb hby d1_11) rfl ?_
    show Steps p.tables e below (T4.setTop (mkF m 12 #[.val (.long q1), .second, .val (.int (((4 : Int32) + (1 : Int32)) + (1 : Int32)))] [(.int (lcmpW (own_lap (((4 : Int32) + (1 : Int32)) + (1 : Int32))) ((2 : Int64) * q1)))])) _
    refine XS.ifYes X4.here hx rfl (pc0 := 12) (pc' := 21) rfl (hb hby d1_12) rfl ((if0 _ _).trans (flt (own_no own_lap6 (by omega) (by omega) (by omega) : ¬ ((lcmpW (own_lap (((4 : Int32) + (1 : Int32)) + (1 : Int32))) ((2 : Int64) * q1)) < (0 : Int32)))).2.1) (by decide) (by decide) ?_
    show Steps p.tables e below (T4.setTop (mkF m 21 #[.val (.long q1), .second, .val (.int (((4 : Int32) + (1 : Int32)) + (1 : Int32)))] [])) _
    refine XS.iloadN X4.here hx rfl (hb hby d1_21) rfl ?_
    show Steps p.tables e below (T4.setTop (mkF m 22 #[.val (.long q1), .second, .val (.int (((4 : Int32) + (1 : Int32)) + (1 : Int32)))] [(.int (((4 : Int32) + (1 : Int32)) + (1 : Int32)))])) _
    exact retI X4 hx Bd.returns (hb hby d1_22) hr
  · show Q1 Z q1 (6 : Int32) h0 n0 _ T4.heap _
    exact ⟨rfl, N4, ((Hc4.trans Hc3).trans Hc2)⟩
set_option maxRecDepth 65536 in
set_option maxHeartbeats 40000000 in
theorem rm1_7 (l : Launch) (Z : State) (a0 : Array Value) (hw : ∀ d ∈ tables_1, d.before a0 Z = true) (ws : List Jvm.Cond) (q1 : Int64) (h0 : Heap) (n0 : Nat) (Z0 : n0 ≤ h0.size) (hlo : 8589934592 < q1.toInt) (hhi : q1.toInt ≤ 2199023255552) :
    MetFree l (⟨"com/example/key_steward/keysteward/steward/TokenSerials", "length", "(J)I"⟩ : MethodName) (head1 (Jvm.Cond.code (⟨"com/example/key_steward/keysteward/steward/TokenSerials", "length", "(J)I"⟩ : MethodName) prog_16_method_3_code 3 (some .int) :: ws) ({ frames := 1, cells := 0, slots := 0, locals := 12 } : Room)) (fun a U => a = #[(.long q1)] ∧ Z.Warmed39 U.vm ∧ U.heap = h0) (fun _ _ _ _ _ => True) (fun _ U o U' => ∃ v L, o = .returned v ∧ Q1 Z q1 (7 : Int32) h0 n0 v U'.heap L ∧ FrameEnd U o U' L ({ frames := 1, cells := 0, slots := 0, locals := 12 } : Room).cells ({ frames := 1, cells := 0, slots := 0, locals := 12 } : Room).slots) := by
  refine MetFree.of_bodySF (plainFor_of_name pn_1) hisR ?_
  intro p e s m args below meth c s₁ Bd hml0 hP hK
  obtain ⟨rfl, hZ, hh⟩ := hP
  have hx := Bd.exec
  have hby := Bd.bytes
  have hml : c.maxLocals = 3 := hml0
  have hown : s.vm.findClass "com/example/key_steward/keysteward/steward/TokenSerials" = some m.cls := findClass_of_methodNamed Bd.named
  have hnm := (name_of_methodNamed Bd.named Bd.method).1
  have X0 : Stand p l e ({ frames := 1, cells := 0, slots := 0, locals := 12 } : Room) s m #[(.long q1)] below meth c s₁ [] 0 0 := Stand.of_body Bd
  have e0 : s₁.heap = h0 := by rw [← hh, Bd.state]; rfl
  have N0 := Fr.nil n0
  have pre0 : ∀ t, Steps p.tables e below (s₁.setTop (mkF m 0 #[.val (.long q1), .second, .unset] [])) t → Steps p.tables e below (s₁.setTop (entryFrame m #[(.long q1)] 3)) t := fun t k => castTop (ef_1 m q1) k
  obtain ⟨_, _, ⟨T2, L2, k2, n2⟩, -, X2, ⟨Lc2, hQ2, l2, y2, z2⟩, st2⟩ := Jvm.LawKit.callS X0 hx (y := (⟨"com/example/key_steward/keysteward/steward/TokenSerials", "lapSeconds", "(I)J"⟩ : MethodName)) hown (mvT hZ (hw _ (List.mem_of_getElem? (i := 8) rfl))) (mvT hZ (hw _ (List.mem_of_getElem? (i := 9) rfl))) (mvT hZ (hw _ (List.mem_of_getElem? (i := 6) rfl))) (mvT hZ (hw _ (List.mem_of_getElem? (i := 10) rfl))) (by decide) (backOf (W := 0) (rm2 l Z a0 hw [] (4 : Int32) h0 n0 Z0 (by decide)) hZ (hw _ (List.mem_of_getElem? (i := 10) rfl)) (hw _ (List.mem_of_getElem? (i := 6) rfl)) (by decide) (by decide)) (g := (mkF m 3 #[.val (.long q1), .second, .val (.int (4 : Int32))] [(.int (4 : Int32))])) rfl (by rw [hml]; rfl) (argsL := [(.int (4 : Int32))]) (rest := []) (lenOf pd_1_1 rfl) rfl (by show 2 * 0 + _ ≤ _; exact Nat.le_of_eq rfl) (hb hby d1_3) (fun _ _ => ⟨rfl, e0, (by decide : 0 + 0 ≤ _), (by decide : 0 + 0 ≤ _)⟩)
  dsimp only [Pt.U, Pt.locs, Pt.cells, Pt.slots] at X2 l2 y2 z2 st2 hQ2
  subst l2 y2 z2
  obtain ⟨rfl, N2q, Hc2⟩ := hQ2
  have N2 := Fr.app N0 N2q
  have Zc2 := (Nat.le_of_eq (congrArg Array.size Hc2).symm)
  have Zs2 := Nat.le_trans Z0 Zc2
  obtain ⟨_, _, ⟨T3, L3, k3, n3⟩, -, X3, ⟨Lc3, hQ3, l3, y3, z3⟩, st3⟩ := Jvm.LawKit.callS X2 hx (y := (⟨"com/example/key_steward/keysteward/steward/TokenSerials", "lapSeconds", "(I)J"⟩ : MethodName)) hown (mvT hZ (hw _ (List.mem_of_getElem? (i := 8) rfl))) (mvT hZ (hw _ (List.mem_of_getElem? (i := 9) rfl))) (mvT hZ (hw _ (List.mem_of_getElem? (i := 6) rfl))) (mvT hZ (hw _ (List.mem_of_getElem? (i := 10) rfl))) (by decide) (backOf (W := 0) (rm2 l Z a0 hw [] ((4 : Int32) + (1 : Int32)) T2.heap n0 Zs2 (by decide)) hZ (hw _ (List.mem_of_getElem? (i := 10) rfl)) (hw _ (List.mem_of_getElem? (i := 6) rfl)) (by decide) (by decide)) (g := (mkF m 3 #[.val (.long q1), .second, .val (.int ((4 : Int32) + (1 : Int32)))] [(.int ((4 : Int32) + (1 : Int32)))])) rfl (by rw [hml]; rfl) (argsL := [(.int ((4 : Int32) + (1 : Int32)))]) (rest := []) (lenOf pd_1_1 rfl) rfl (by show 2 * 0 + _ ≤ _; exact Nat.le_of_eq rfl) (hb hby d1_3) (fun _ _ => ⟨rfl, rfl, (by decide : 0 + 0 ≤ _), (by decide : 0 + 0 ≤ _)⟩)
  dsimp only [Pt.U, Pt.locs, Pt.cells, Pt.slots] at X3 l3 y3 z3 st3 hQ3
  subst l3 y3 z3
  obtain ⟨rfl, N3q, Hc3⟩ := hQ3
  have N3 := Fr.app N2 N3q
  have Zc3 := (Nat.le_of_eq (congrArg Array.size Hc3).symm)
  have Zs3 := Nat.le_trans Zs2 Zc3
  obtain ⟨_, _, ⟨T4, L4, k4, n4⟩, -, X4, ⟨Lc4, hQ4, l4, y4, z4⟩, st4⟩ := Jvm.LawKit.callS X3 hx (y := (⟨"com/example/key_steward/keysteward/steward/TokenSerials", "lapSeconds", "(I)J"⟩ : MethodName)) hown (mvT hZ (hw _ (List.mem_of_getElem? (i := 8) rfl))) (mvT hZ (hw _ (List.mem_of_getElem? (i := 9) rfl))) (mvT hZ (hw _ (List.mem_of_getElem? (i := 6) rfl))) (mvT hZ (hw _ (List.mem_of_getElem? (i := 10) rfl))) (by decide) (backOf (W := 0) (rm2 l Z a0 hw [] (((4 : Int32) + (1 : Int32)) + (1 : Int32)) T3.heap n0 Zs3 (by decide)) hZ (hw _ (List.mem_of_getElem? (i := 10) rfl)) (hw _ (List.mem_of_getElem? (i := 6) rfl)) (by decide) (by decide)) (g := (mkF m 3 #[.val (.long q1), .second, .val (.int (((4 : Int32) + (1 : Int32)) + (1 : Int32)))] [(.int (((4 : Int32) + (1 : Int32)) + (1 : Int32)))])) rfl (by rw [hml]; rfl) (argsL := [(.int (((4 : Int32) + (1 : Int32)) + (1 : Int32)))]) (rest := []) (lenOf pd_1_1 rfl) rfl (by show 2 * 0 + _ ≤ _; exact Nat.le_of_eq rfl) (hb hby d1_3) (fun _ _ => ⟨rfl, rfl, (by decide : 0 + 0 ≤ _), (by decide : 0 + 0 ≤ _)⟩)
  dsimp only [Pt.U, Pt.locs, Pt.cells, Pt.slots] at X4 l4 y4 z4 st4 hQ4
  subst l4 y4 z4
  obtain ⟨rfl, N4q, Hc4⟩ := hQ4
  have N4 := Fr.app N3 N4q
  have Zc4 := (Nat.le_of_eq (congrArg Array.size Hc4).symm)
  have Zs4 := Nat.le_trans Zs3 Zc4
  obtain ⟨_, _, ⟨T5, L5, k5, n5⟩, -, X5, ⟨Lc5, hQ5, l5, y5, z5⟩, st5⟩ := Jvm.LawKit.callS X4 hx (y := (⟨"com/example/key_steward/keysteward/steward/TokenSerials", "lapSeconds", "(I)J"⟩ : MethodName)) hown (mvT hZ (hw _ (List.mem_of_getElem? (i := 8) rfl))) (mvT hZ (hw _ (List.mem_of_getElem? (i := 9) rfl))) (mvT hZ (hw _ (List.mem_of_getElem? (i := 6) rfl))) (mvT hZ (hw _ (List.mem_of_getElem? (i := 10) rfl))) (by decide) (backOf (W := 0) (rm2 l Z a0 hw [] ((((4 : Int32) + (1 : Int32)) + (1 : Int32)) + (1 : Int32)) T4.heap n0 Zs4 (by decide)) hZ (hw _ (List.mem_of_getElem? (i := 10) rfl)) (hw _ (List.mem_of_getElem? (i := 6) rfl)) (by decide) (by decide)) (g := (mkF m 3 #[.val (.long q1), .second, .val (.int ((((4 : Int32) + (1 : Int32)) + (1 : Int32)) + (1 : Int32)))] [(.int ((((4 : Int32) + (1 : Int32)) + (1 : Int32)) + (1 : Int32)))])) rfl (by rw [hml]; rfl) (argsL := [(.int ((((4 : Int32) + (1 : Int32)) + (1 : Int32)) + (1 : Int32)))]) (rest := []) (lenOf pd_1_1 rfl) rfl (by show 2 * 0 + _ ≤ _; exact Nat.le_of_eq rfl) (hb hby d1_3) (fun _ _ => ⟨rfl, rfl, (by decide : 0 + 0 ≤ _), (by decide : 0 + 0 ≤ _)⟩)
  dsimp only [Pt.U, Pt.locs, Pt.cells, Pt.slots] at X5 l5 y5 z5 st5 hQ5
  subst l5 y5 z5
  obtain ⟨rfl, N5q, Hc5⟩ := hQ5
  have N5 := Fr.app N4 N5q
  have Zc5 := (Nat.le_of_eq (congrArg Array.size Hc5).symm)
  have Zs5 := Nat.le_trans Zs4 Zc5
  obtain ⟨fs, hr, hrun, hended, hW, hsame⟩ := X5.leave (v := some (.int ((((4 : Int32) + (1 : Int32)) + (1 : Int32)) + (1 : Int32)))) (fun h => by rw [Bd.returns] at h; cases h)
  refine ⟨_, _, pre0 _ ?_, hrun, hended, _, _, rfl, ?_, ⟨_, rfl⟩, hW, hsame.mono (by decide) (by decide)⟩
  · show Steps p.tables e below (s₁.setTop (mkF m 0 #[.val (.long q1), .second, .unset] [])) _
    refine XS.iconst X0.here hx rfl (hb hby d1_0) ?_
    show Steps p.tables e below (s₁.setTop (mkF m 1 #[.val (.long q1), .second, .unset] [(.int (4 : Int32))])) _
    refine XS.istoreN X0.here hx rfl (hb hby d1_1) rfl (l' := #[.val (.long q1), .second, .val (.int (4 : Int32))]) rfl ?_
    show Steps p.tables e below (s₁.setTop (mkF m 2 #[.val (.long q1), .second, .val (.int (4 : Int32))] [])) _
    refine XS.iloadN X0.here hx rfl (hb hby d1_2) rfl ?_
    show Steps p.tables e below (s₁.setTop (mkF m 3 #[.val (.long q1), .second, .val (.int (4 : Int32))] [(.int (4 : Int32))])) _
    refine st2 _ ?_
    show Steps p.tables e below (T2.setTop (mkF m 6 #[.val (.long q1), .second, .val (.int (4 : Int32))] [(.long (own_lap (4 : Int32)))])) _
    refine X2.ldc2Long hx hown (mvT hZ (hw _ (List.mem_of_getElem? (i := 12) rfl))) (g := (mkF m 6 #[.val (.long q1), .second, .val (.int (4 : Int32))] [(.long (own_lap (4 : Int32)))])) rfl (hb hby d1_6) _ ?_
    show Steps p.tables e below (T2.setTop (mkF m 9 #[.val (.long q1), .second, .val (.int (4 : Int32))] [(.long (2 : Int64)), (.long (own_lap (4 : Int32)))])) _
    refine XS.lloadN X2.here hx rfl (hb hby d1_9) rfl ?_
    show Steps p.tables e below (T2.setTop (mkF m 10 #[.val (.long q1), .second, .val (.int (4 : Int32))] [(.long q1), (.long (2 : Int64)), (.long (own_lap (4 : Int32)))])) _
    refine XS.lmul X2.here hx rfl (hb hby d1_10) rfl ?_
    show Steps p.tables e below (T2.setTop (mkF m 11 #[.val (.long q1), .second, .val (.int (4 : Int32))] [(.long ((2 : Int64) * q1)), (.long (own_lap (4 : Int32)))])) _
    refine XS.lcmp X2.here hx rfl (hb hby d1_11) rfl ?_
    show Steps p.tables e below (T2.setTop (mkF m 12 #[.val (.long q1), .second, .val (.int (4 : Int32))] [(.int (lcmpW (own_lap (4 : Int32)) ((2 : Int64) * q1)))])) _
    refine XS.ifNo X2.here hx rfl (hb hby d1_12) rfl ((if0 _ _).trans (tlt (own_yes own_lap4 (by omega) (by omega) (by omega) : (lcmpW (own_lap (4 : Int32)) ((2 : Int64) * q1)) < (0 : Int32))).2.1) ?_
    show Steps p.tables e below (T2.setTop (mkF m 15 #[.val (.long q1), .second, .val (.int (4 : Int32))] [])) _
    refine XS.iinc X2.here hx rfl (hb hby d1_15) rfl (l' := #[.val (.long q1), .second, .val (.int ((4 : Int32) + (1 : Int32)))]) rfl ?_
    show Steps p.tables e below (T2.setTop (mkF m 18 #[.val (.long q1), .second, .val (.int ((4 : Int32) + (1 : Int32)))] [])) _
    refine XS.goto X2.here hx rfl (pc0 := 18) (pc' := 2) rfl (hb hby d1_18) (by decide) (by decide) ?_
    show Steps p.tables e below (T2.setTop (mkF m 2 #[.val (.long q1), .second, .val (.int ((4 : Int32) + (1 : Int32)))] [])) _
    refine XS.iloadN X2.here hx rfl (hb hby d1_2) rfl ?_
    show Steps p.tables e below (T2.setTop (mkF m 3 #[.val (.long q1), .second, .val (.int ((4 : Int32) + (1 : Int32)))] [(.int ((4 : Int32) + (1 : Int32)))])) _
    refine st3 _ ?_
    show Steps p.tables e below (T3.setTop (mkF m 6 #[.val (.long q1), .second, .val (.int ((4 : Int32) + (1 : Int32)))] [(.long (own_lap ((4 : Int32) + (1 : Int32))))])) _
    refine X3.ldc2Long hx hown (mvT hZ (hw _ (List.mem_of_getElem? (i := 12) rfl))) (g := (mkF m 6 #[.val (.long q1), .second, .val (.int ((4 : Int32) + (1 : Int32)))] [(.long (own_lap ((4 : Int32) + (1 : Int32))))])) rfl (hb hby d1_6) _ ?_
    show Steps p.tables e below (T3.setTop (mkF m 9 #[.val (.long q1), .second, .val (.int ((4 : Int32) + (1 : Int32)))] [(.long (2 : Int64)), (.long (own_lap ((4 : Int32) + (1 : Int32))))])) _
    refine XS.lloadN X3.here hx rfl (hb hby d1_9) rfl ?_
    show Steps p.tables e below (T3.setTop (mkF m 10 #[.val (.long q1), .second, .val (.int ((4 : Int32) + (1 : Int32)))] [(.long q1), (.long (2 : Int64)), (.long (own_lap ((4 : Int32) + (1 : Int32))))])) _
    refine XS.lmul X3.here hx rfl (hb hby d1_10) rfl ?_
    show Steps p.tables e below (T3.setTop (mkF m 11 #[.val (.long q1), .second, .val (.int ((4 : Int32) + (1 : Int32)))] [(.long ((2 : Int64) * q1)), (.long (own_lap ((4 : Int32) + (1 : Int32))))])) _
    refine XS.lcmp X3.here hx rfl (hb hby d1_11) rfl ?_
    show Steps p.tables e below (T3.setTop (mkF m 12 #[.val (.long q1), .second, .val (.int ((4 : Int32) + (1 : Int32)))] [(.int (lcmpW (own_lap ((4 : Int32) + (1 : Int32))) ((2 : Int64) * q1)))])) _
    refine XS.ifNo X3.here hx rfl (hb hby d1_12) rfl ((if0 _ _).trans (tlt (own_yes own_lap5 (by omega) (by omega) (by omega) : (lcmpW (own_lap ((4 : Int32) + (1 : Int32))) ((2 : Int64) * q1)) < (0 : Int32))).2.1) ?_
    show Steps p.tables e below (T3.setTop (mkF m 15 #[.val (.long q1), .second, .val (.int ((4 : Int32) + (1 : Int32)))] [])) _
    refine XS.iinc X3.here hx rfl (hb hby d1_15) rfl (l' := #[.val (.long q1), .second, .val (.int (((4 : Int32) + (1 : Int32)) + (1 : Int32)))]) rfl ?_
    show Steps p.tables e below (T3.setTop (mkF m 18 #[.val (.long q1), .second, .val (.int (((4 : Int32) + (1 : Int32)) + (1 : Int32)))] [])) _
    refine XS.goto X3.here hx rfl (pc0 := 18) (pc' := 2) rfl (hb hby d1_18) (by decide) (by decide) ?_
    show Steps p.tables e below (T3.setTop (mkF m 2 #[.val (.long q1), .second, .val (.int (((4 : Int32) + (1 : Int32)) + (1 : Int32)))] [])) _
    refine XS.iloadN X3.here hx rfl (hb hby d1_2) rfl ?_
    show Steps p.tables e below (T3.setTop (mkF m 3 #[.val (.long q1), .second, .val (.int (((4 : Int32) + (1 : Int32)) + (1 : Int32)))] [(.int (((4 : Int32) + (1 : Int32)) + (1 : Int32)))])) _
    refine st4 _ ?_
    show Steps p.tables e below (T4.setTop (mkF m 6 #[.val (.long q1), .second, .val (.int (((4 : Int32) + (1 : Int32)) + (1 : Int32)))] [(.long (own_lap (((4 : Int32) + (1 : Int32)) + (1 : Int32))))])) _
    refine X4.ldc2Long hx hown (mvT hZ (hw _ (List.mem_of_getElem? (i := 12) rfl))) (g := (mkF m 6 #[.val (.long q1), .second, .val (.int (((4 : Int32) + (1 : Int32)) + (1 : Int32)))] [(.long (own_lap (((4 : Int32) + (1 : Int32)) + (1 : Int32))))])) rfl (hb hby d1_6) _ ?_
    show Steps p.tables e below (T4.setTop (mkF m 9 #[.val (.long q1), .second, .val (.int (((4 : Int32) + (1 : Int32)) + (1 : Int32)))] [(.long (2 : Int64)), (.long (own_lap (((4 : Int32) + (1 : Int32)) + (1 : Int32))))])) _
    refine XS.lloadN X4.here hx rfl (hb hby d1_9) rfl ?_
    show Steps p.tables e below (T4.setTop (mkF m 10 #[.val (.long q1), .second, .val (.int (((4 : Int32) + (1 : Int32)) + (1 : Int32)))] [(.long q1), (.long (2 : Int64)), (.long (own_lap (((4 : Int32) + (1 : Int32)) + (1 : Int32))))])) _
    refine XS.lmul X4.here hx rfl (hb hby d1_10) rfl ?_
    show Steps p.tables e below (T4.setTop (mkF m 11 #[.val (.long q1), .second, .val (.int (((4 : Int32) + (1 : Int32)) + (1 : Int32)))] [(.long ((2 : Int64) * q1)), (.long (own_lap (((4 : Int32) + (1 : Int32)) + (1 : Int32))))])) _
    refine XS.lcmp X4.here hx rfl (hb hby d1_11) rfl ?_
    show Steps p.tables e below (T4.setTop (mkF m 12 #[.val (.long q1), .second, .val (.int (((4 : Int32) + (1 : Int32)) + (1 : Int32)))] [(.int (lcmpW (own_lap (((4 : Int32) + (1 : Int32)) + (1 : Int32))) ((2 : Int64) * q1)))])) _
    refine XS.ifNo X4.here hx rfl (hb hby d1_12) rfl ((if0 _ _).trans (tlt (own_yes own_lap6 (by omega) (by omega) (by omega) : (lcmpW (own_lap (((4 : Int32) + (1 : Int32)) + (1 : Int32))) ((2 : Int64) * q1)) < (0 : Int32))).2.1) ?_
    show Steps p.tables e below (T4.setTop (mkF m 15 #[.val (.long q1), .second, .val (.int (((4 : Int32) + (1 : Int32)) + (1 : Int32)))] [])) _
    refine XS.iinc X4.here hx rfl (hb hby d1_15) rfl (l' := #[.val (.long q1), .second, .val (.int ((((4 : Int32) + (1 : Int32)) + (1 : Int32)) + (1 : Int32)))]) rfl ?_
    show Steps p.tables e below (T4.setTop (mkF m 18 #[.val (.long q1), .second, .val (.int ((((4 : Int32) + (1 : Int32)) + (1 : Int32)) + (1 : Int32)))] [])) _
    refine XS.goto X4.here hx rfl (pc0 := 18) (pc' := 2) rfl (hb hby d1_18) (by decide) (by decide) ?_
    show Steps p.tables e below (T4.setTop (mkF m 2 #[.val (.long q1), .second, .val (.int ((((4 : Int32) + (1 : Int32)) + (1 : Int32)) + (1 : Int32)))] [])) _
    refine XS.iloadN X4.here hx rfl (hb hby d1_2) rfl ?_
    show Steps p.tables e below (T4.setTop (mkF m 3 #[.val (.long q1), .second, .val (.int ((((4 : Int32) + (1 : Int32)) + (1 : Int32)) + (1 : Int32)))] [(.int ((((4 : Int32) + (1 : Int32)) + (1 : Int32)) + (1 : Int32)))])) _
    refine st5 _ ?_
    show Steps p.tables e below (T5.setTop (mkF m 6 #[.val (.long q1), .second, .val (.int ((((4 : Int32) + (1 : Int32)) + (1 : Int32)) + (1 : Int32)))] [(.long (own_lap ((((4 : Int32) + (1 : Int32)) + (1 : Int32)) + (1 : Int32))))])) _
    refine X5.ldc2Long hx hown (mvT hZ (hw _ (List.mem_of_getElem? (i := 12) rfl))) (g := (mkF m 6 #[.val (.long q1), .second, .val (.int ((((4 : Int32) + (1 : Int32)) + (1 : Int32)) + (1 : Int32)))] [(.long (own_lap ((((4 : Int32) + (1 : Int32)) + (1 : Int32)) + (1 : Int32))))])) rfl (hb hby d1_6) _ ?_
    show Steps p.tables e below (T5.setTop (mkF m 9 #[.val (.long q1), .second, .val (.int ((((4 : Int32) + (1 : Int32)) + (1 : Int32)) + (1 : Int32)))] [(.long (2 : Int64)), (.long (own_lap ((((4 : Int32) + (1 : Int32)) + (1 : Int32)) + (1 : Int32))))])) _
    refine XS.lloadN X5.here hx rfl (hb hby d1_9) rfl ?_
    show Steps p.tables e below (T5.setTop (mkF m 10 #[.val (.long q1), .second, .val (.int ((((4 : Int32) + (1 : Int32)) + (1 : Int32)) + (1 : Int32)))] [(.long q1), (.long (2 : Int64)), (.long (own_lap ((((4 : Int32) + (1 : Int32)) + (1 : Int32)) + (1 : Int32))))])) _
    refine XS.lmul X5.here hx rfl (hb hby d1_10) rfl ?_
    show Steps p.tables e below (T5.setTop (mkF m 11 #[.val (.long q1), .second, .val (.int ((((4 : Int32) + (1 : Int32)) + (1 : Int32)) + (1 : Int32)))] [(.long ((2 : Int64) * q1)), (.long (own_lap ((((4 : Int32) + (1 : Int32)) + (1 : Int32)) + (1 : Int32))))])) _
    refine XS.lcmp X5.here hx rfl (hb hby d1_11) rfl ?_
    show Steps p.tables e below (T5.setTop (mkF m 12 #[.val (.long q1), .second, .val (.int ((((4 : Int32) + (1 : Int32)) + (1 : Int32)) + (1 : Int32)))] [(.int (lcmpW (own_lap ((((4 : Int32) + (1 : Int32)) + (1 : Int32)) + (1 : Int32))) ((2 : Int64) * q1)))])) _
    refine XS.ifYes X5.here hx rfl (pc0 := 12) (pc' := 21) rfl (hb hby d1_12) rfl ((if0 _ _).trans (flt (own_no own_lap7 (by omega) (by omega) (by omega) : ¬ ((lcmpW (own_lap ((((4 : Int32) + (1 : Int32)) + (1 : Int32)) + (1 : Int32))) ((2 : Int64) * q1)) < (0 : Int32)))).2.1) (by decide) (by decide) ?_
    show Steps p.tables e below (T5.setTop (mkF m 21 #[.val (.long q1), .second, .val (.int ((((4 : Int32) + (1 : Int32)) + (1 : Int32)) + (1 : Int32)))] [])) _
    refine XS.iloadN X5.here hx rfl (hb hby d1_21) rfl ?_
    show Steps p.tables e below (T5.setTop (mkF m 22 #[.val (.long q1), .second, .val (.int ((((4 : Int32) + (1 : Int32)) + (1 : Int32)) + (1 : Int32)))] [(.int ((((4 : Int32) + (1 : Int32)) + (1 : Int32)) + (1 : Int32)))])) _
    exact retI X5 hx Bd.returns (hb hby d1_22) hr
  · show Q1 Z q1 (7 : Int32) h0 n0 _ T5.heap _
    exact ⟨rfl, N5, (((Hc5.trans Hc4).trans Hc3).trans Hc2)⟩
theorem pn_0 : plainName "com/example/key_steward/keysteward/steward/TokenSerialsLengthPinLaw" = true := by first | (simp [plainName, overriddenIn]; done) | decide +kernel
theorem pd_0_0 : parseMethodDescriptor "(J)I" = some ⟨[.long], some .int⟩ := by decide +kernel
theorem ef_0 (m : MethodId) (x0 : Int64) (x1 : Int32) : entryFrame m #[(.long x0), (.int x1)] maxLocals = mkF m 0 #[.val (.long x0), .second, .val (.int x1), .unset, .unset, .unset, .unset, .unset] [] := by first | (simp [entryFrame, mkF, argsToLocals, Value.category, maxLocals]; done) | rfl
def Q0 (Z : State) (q1 : Int64) (p2 : Int32) (h0 : Heap) (n0 : Nat) (v : Option Value) (h : Heap) (L : List Loc) : Prop := v = some (.int (1 : Int32)) ∧ Fr n0 L
set_option maxRecDepth 65536 in
set_option maxHeartbeats 40000000 in
theorem rm0_f4 (l : Launch) (Z : State) (a0 : Array Value) (hw : ∀ d ∈ tables_1, d.before a0 Z = true) (ws : List Jvm.Cond) (q1 : Int64) (p2 : Int32) (h0 : Heap) (n0 : Nat) (Z0 : n0 ≤ h0.size) (hc6 : (p2 &&& (3 : Int32)) = (3 : Int32)) (hnz13 : ¬ ((2199023255553 : Int64) = (0 : Int64))) (hc65 : ¬ ((0 : Int32) < (lcmpW (q1 - ((q1 / (2199023255553 : Int64)) * (2199023255553 : Int64))) (131072 : Int64)))) :
    MetFree l x (head1 (Jvm.Cond.code x code maxLocals ret :: ws) room_1) (fun a U => a = #[(.long q1), (.int p2)] ∧ Z.Warmed39 U.vm ∧ U.heap = h0) (fun _ _ _ _ _ => True) (fun _ U o U' => ∃ v L, o = .returned v ∧ Q0 Z q1 p2 h0 n0 v U'.heap L ∧ FrameEnd U o U' L room_1.cells room_1.slots) := by
  refine MetFree.of_bodySF (plainFor_of_name pn_0) hisR ?_
  intro p e s m args below meth c s₁ Bd hml0 hP hK
  obtain ⟨rfl, hZ, hh⟩ := hP
  have hx := Bd.exec
  have hby := Bd.bytes
  have hml : c.maxLocals = 8 := hml0
  have hown : s.vm.findClass "com/example/key_steward/keysteward/steward/TokenSerialsLengthPinLaw" = some m.cls := findClass_of_methodNamed Bd.named
  have hnm := (name_of_methodNamed Bd.named Bd.method).1
  have X0 : Stand p l e room_1 s m #[(.long q1), (.int p2)] below meth c s₁ [] 0 0 := Stand.of_body Bd
  have e0 : s₁.heap = h0 := by rw [← hh, Bd.state]; rfl
  have N0 := Fr.nil n0
  have hlo : -4398046511104 ≤ (q1 - ((q1 / (2199023255553 : Int64)) * (2199023255553 : Int64))).toInt := by have := own_r3 q1; omega
  have hhi : (q1 - ((q1 / (2199023255553 : Int64)) * (2199023255553 : Int64))).toInt ≤ 131072 := own_le own_k4 hc65
  have pre0 : ∀ t, Steps p.tables e below (s₁.setTop (mkF m 0 #[.val (.long q1), .second, .val (.int p2), .unset, .unset, .unset, .unset, .unset] [])) t → Steps p.tables e below (s₁.setTop (entryFrame m #[(.long q1), (.int p2)] maxLocals)) t := fun t k => castTop (ef_0 m q1 p2) k
  obtain ⟨_, _, ⟨T3, L3, k3, n3⟩, -, X3, ⟨Lc3, hQ3, l3, y3, z3⟩, st3⟩ := Jvm.LawKit.callS X0 hx (y := (⟨"com/example/key_steward/keysteward/steward/TokenSerials", "length", "(J)I"⟩ : MethodName)) hown (mvT hZ (hw _ (List.mem_of_getElem? (i := 4) rfl))) (mvT hZ (hw _ (List.mem_of_getElem? (i := 5) rfl))) (mvT hZ (hw _ (List.mem_of_getElem? (i := 6) rfl))) (mvT hZ (hw _ (List.mem_of_getElem? (i := 7) rfl))) (by decide) (backOf (W := 0) (rm1_4 l Z a0 hw [] (q1 - ((q1 / (2199023255553 : Int64)) * (2199023255553 : Int64))) h0 n0 Z0 hlo hhi) hZ (hw _ (List.mem_of_getElem? (i := 7) rfl)) (hw _ (List.mem_of_getElem? (i := 6) rfl)) (by decide) (by decide)) (g := (mkF m 111 #[.val (.long q1), .second, .val (.int p2), .val (.int (p2 &&& (3 : Int32))), .val (.long (q1 - ((q1 / (2199023255553 : Int64)) * (2199023255553 : Int64)))), .second, .val (.int (4 : Int32)), .unset] [(.long (q1 - ((q1 / (2199023255553 : Int64)) * (2199023255553 : Int64))))])) rfl (by rw [hml]; rfl) (argsL := [(.long (q1 - ((q1 / (2199023255553 : Int64)) * (2199023255553 : Int64))))]) (rest := []) (lenOf pd_0_0 rfl) rfl (by show 2 * 0 + _ ≤ _; exact Nat.le_of_eq rfl) (hb hby at_111) (fun _ _ => ⟨rfl, e0, (by decide : 0 + 0 ≤ _), (by decide : 0 + 0 ≤ _)⟩)
  dsimp only [Pt.U, Pt.locs, Pt.cells, Pt.slots] at X3 l3 y3 z3 st3 hQ3
  subst l3 y3 z3
  obtain ⟨rfl, N3q, Hc⟩ := hQ3
  have N3 := Fr.app N0 N3q
  obtain ⟨fs, hr, hrun, hended, hW, hsame⟩ := X3.leave (v := some (.int (1 : Int32))) (fun h => by rw [Bd.returns] at h; cases h)
  refine ⟨_, _, pre0 _ ?_, hrun, hended, _, _, rfl, ?_, ⟨_, rfl⟩, hW, hsame.mono (by decide) (by decide)⟩
  · show Steps p.tables e below (s₁.setTop (mkF m 0 #[.val (.long q1), .second, .val (.int p2), .unset, .unset, .unset, .unset, .unset] [])) _
    refine XS.iloadN X0.here hx rfl (hb hby at_0) rfl ?_
    show Steps p.tables e below (s₁.setTop (mkF m 1 #[.val (.long q1), .second, .val (.int p2), .unset, .unset, .unset, .unset, .unset] [(.int p2)])) _
    refine XS.iconst X0.here hx rfl (hb hby at_1) ?_
    show Steps p.tables e below (s₁.setTop (mkF m 2 #[.val (.long q1), .second, .val (.int p2), .unset, .unset, .unset, .unset, .unset] [(.int (3 : Int32)), (.int p2)])) _
    refine XS.iand X0.here hx rfl (hb hby at_2) rfl ?_
    show Steps p.tables e below (s₁.setTop (mkF m 3 #[.val (.long q1), .second, .val (.int p2), .unset, .unset, .unset, .unset, .unset] [(.int (p2 &&& (3 : Int32)))])) _
    refine XS.istoreN X0.here hx rfl (hb hby at_3) rfl (l' := #[.val (.long q1), .second, .val (.int p2), .val (.int (p2 &&& (3 : Int32))), .unset, .unset, .unset, .unset]) rfl ?_
    show Steps p.tables e below (s₁.setTop (mkF m 4 #[.val (.long q1), .second, .val (.int p2), .val (.int (p2 &&& (3 : Int32))), .unset, .unset, .unset, .unset] [])) _
    refine XS.iloadN X0.here hx rfl (hb hby at_4) rfl ?_
    show Steps p.tables e below (s₁.setTop (mkF m 5 #[.val (.long q1), .second, .val (.int p2), .val (.int (p2 &&& (3 : Int32))), .unset, .unset, .unset, .unset] [(.int (p2 &&& (3 : Int32)))])) _
    refine XS.iconst X0.here hx rfl (hb hby at_5) ?_
    show Steps p.tables e below (s₁.setTop (mkF m 6 #[.val (.long q1), .second, .val (.int p2), .val (.int (p2 &&& (3 : Int32))), .unset, .unset, .unset, .unset] [(.int (3 : Int32)), (.int (p2 &&& (3 : Int32)))])) _
    refine XS.icmpNo X0.here hx rfl (hb hby at_6) rfl (teq hc6).2 ?_
    show Steps p.tables e below (s₁.setTop (mkF m 9 #[.val (.long q1), .second, .val (.int p2), .val (.int (p2 &&& (3 : Int32))), .unset, .unset, .unset, .unset] [])) _
    refine XS.lloadN X0.here hx rfl (hb hby at_9) rfl ?_
    show Steps p.tables e below (s₁.setTop (mkF m 10 #[.val (.long q1), .second, .val (.int p2), .val (.int (p2 &&& (3 : Int32))), .unset, .unset, .unset, .unset] [(.long q1)])) _
    refine X0.ldc2Long hx hown (mvT hZ (hw _ (List.mem_of_getElem? (i := 13) rfl))) (g := (mkF m 10 #[.val (.long q1), .second, .val (.int p2), .val (.int (p2 &&& (3 : Int32))), .unset, .unset, .unset, .unset] [(.long q1)])) rfl (hb hby at_10) _ ?_
    show Steps p.tables e below (s₁.setTop (mkF m 13 #[.val (.long q1), .second, .val (.int p2), .val (.int (p2 &&& (3 : Int32))), .unset, .unset, .unset, .unset] [(.long (2199023255553 : Int64)), (.long q1)])) _
    refine XS.lrem X0.here hx rfl (hb hby at_13) rfl hnz13 ?_
    show Steps p.tables e below (s₁.setTop (mkF m 14 #[.val (.long q1), .second, .val (.int p2), .val (.int (p2 &&& (3 : Int32))), .unset, .unset, .unset, .unset] [(.long (q1 - ((q1 / (2199023255553 : Int64)) * (2199023255553 : Int64))))])) _
    refine XS.lstore X0.here hx rfl (hb hby at_14) rfl (l' := #[.val (.long q1), .second, .val (.int p2), .val (.int (p2 &&& (3 : Int32))), .val (.long (q1 - ((q1 / (2199023255553 : Int64)) * (2199023255553 : Int64)))), .second, .unset, .unset]) rfl ?_
    show Steps p.tables e below (s₁.setTop (mkF m 16 #[.val (.long q1), .second, .val (.int p2), .val (.int (p2 &&& (3 : Int32))), .val (.long (q1 - ((q1 / (2199023255553 : Int64)) * (2199023255553 : Int64)))), .second, .unset, .unset] [])) _
    refine XS.goto X0.here hx rfl (pc0 := 16) (pc' := 59) rfl (hb hby at_16) (by decide) (by decide) ?_
    show Steps p.tables e below (s₁.setTop (mkF m 59 #[.val (.long q1), .second, .val (.int p2), .val (.int (p2 &&& (3 : Int32))), .val (.long (q1 - ((q1 / (2199023255553 : Int64)) * (2199023255553 : Int64)))), .second, .unset, .unset] [])) _
    refine XS.lload X0.here hx rfl (hb hby at_59) rfl ?_
    show Steps p.tables e below (s₁.setTop (mkF m 61 #[.val (.long q1), .second, .val (.int p2), .val (.int (p2 &&& (3 : Int32))), .val (.long (q1 - ((q1 / (2199023255553 : Int64)) * (2199023255553 : Int64)))), .second, .unset, .unset] [(.long (q1 - ((q1 / (2199023255553 : Int64)) * (2199023255553 : Int64))))])) _
    refine X0.ldc2Long hx hown (mvT hZ (hw _ (List.mem_of_getElem? (i := 2) rfl))) (g := (mkF m 61 #[.val (.long q1), .second, .val (.int p2), .val (.int (p2 &&& (3 : Int32))), .val (.long (q1 - ((q1 / (2199023255553 : Int64)) * (2199023255553 : Int64)))), .second, .unset, .unset] [(.long (q1 - ((q1 / (2199023255553 : Int64)) * (2199023255553 : Int64))))])) rfl (hb hby at_61) _ ?_
    show Steps p.tables e below (s₁.setTop (mkF m 64 #[.val (.long q1), .second, .val (.int p2), .val (.int (p2 &&& (3 : Int32))), .val (.long (q1 - ((q1 / (2199023255553 : Int64)) * (2199023255553 : Int64)))), .second, .unset, .unset] [(.long (131072 : Int64)), (.long (q1 - ((q1 / (2199023255553 : Int64)) * (2199023255553 : Int64))))])) _
    refine XS.lcmp X0.here hx rfl (hb hby at_64) rfl ?_
    show Steps p.tables e below (s₁.setTop (mkF m 65 #[.val (.long q1), .second, .val (.int p2), .val (.int (p2 &&& (3 : Int32))), .val (.long (q1 - ((q1 / (2199023255553 : Int64)) * (2199023255553 : Int64)))), .second, .unset, .unset] [(.int (lcmpW (q1 - ((q1 / (2199023255553 : Int64)) * (2199023255553 : Int64))) (131072 : Int64)))])) _
    refine XS.ifNo X0.here hx rfl (hb hby at_65) rfl ((if0 _ _).trans (flt hc65).2.2.1) ?_
    show Steps p.tables e below (s₁.setTop (mkF m 68 #[.val (.long q1), .second, .val (.int p2), .val (.int (p2 &&& (3 : Int32))), .val (.long (q1 - ((q1 / (2199023255553 : Int64)) * (2199023255553 : Int64)))), .second, .unset, .unset] [])) _
    refine XS.iconst X0.here hx rfl (hb hby at_68) ?_
    show Steps p.tables e below (s₁.setTop (mkF m 69 #[.val (.long q1), .second, .val (.int p2), .val (.int (p2 &&& (3 : Int32))), .val (.long (q1 - ((q1 / (2199023255553 : Int64)) * (2199023255553 : Int64)))), .second, .unset, .unset] [(.int (4 : Int32))])) _
    refine XS.istore X0.here hx rfl (hb hby at_69) rfl (l' := #[.val (.long q1), .second, .val (.int p2), .val (.int (p2 &&& (3 : Int32))), .val (.long (q1 - ((q1 / (2199023255553 : Int64)) * (2199023255553 : Int64)))), .second, .val (.int (4 : Int32)), .unset]) rfl ?_
    show Steps p.tables e below (s₁.setTop (mkF m 71 #[.val (.long q1), .second, .val (.int p2), .val (.int (p2 &&& (3 : Int32))), .val (.long (q1 - ((q1 / (2199023255553 : Int64)) * (2199023255553 : Int64)))), .second, .val (.int (4 : Int32)), .unset] [])) _
    refine XS.goto X0.here hx rfl (pc0 := 71) (pc' := 109) rfl (hb hby at_71) (by decide) (by decide) ?_
    show Steps p.tables e below (s₁.setTop (mkF m 109 #[.val (.long q1), .second, .val (.int p2), .val (.int (p2 &&& (3 : Int32))), .val (.long (q1 - ((q1 / (2199023255553 : Int64)) * (2199023255553 : Int64)))), .second, .val (.int (4 : Int32)), .unset] [])) _
    refine XS.lload X0.here hx rfl (hb hby at_109) rfl ?_
    show Steps p.tables e below (s₁.setTop (mkF m 111 #[.val (.long q1), .second, .val (.int p2), .val (.int (p2 &&& (3 : Int32))), .val (.long (q1 - ((q1 / (2199023255553 : Int64)) * (2199023255553 : Int64)))), .second, .val (.int (4 : Int32)), .unset] [(.long (q1 - ((q1 / (2199023255553 : Int64)) * (2199023255553 : Int64))))])) _
    refine st3 _ ?_
    show Steps p.tables e below (T3.setTop (mkF m 114 #[.val (.long q1), .second, .val (.int p2), .val (.int (p2 &&& (3 : Int32))), .val (.long (q1 - ((q1 / (2199023255553 : Int64)) * (2199023255553 : Int64)))), .second, .val (.int (4 : Int32)), .unset] [(.int (4 : Int32))])) _
    refine XS.iload X3.here hx rfl (hb hby at_114) rfl ?_
    show Steps p.tables e below (T3.setTop (mkF m 116 #[.val (.long q1), .second, .val (.int p2), .val (.int (p2 &&& (3 : Int32))), .val (.long (q1 - ((q1 / (2199023255553 : Int64)) * (2199023255553 : Int64)))), .second, .val (.int (4 : Int32)), .unset] [(.int (4 : Int32)), (.int (4 : Int32))])) _
    refine XS.icmpNo X3.here hx rfl (hb hby at_116) rfl (teq (rfl : (4 : Int32) = (4 : Int32))).2 ?_
    show Steps p.tables e below (T3.setTop (mkF m 119 #[.val (.long q1), .second, .val (.int p2), .val (.int (p2 &&& (3 : Int32))), .val (.long (q1 - ((q1 / (2199023255553 : Int64)) * (2199023255553 : Int64)))), .second, .val (.int (4 : Int32)), .unset] [])) _
    refine XS.iconst X3.here hx rfl (hb hby at_119) ?_
    show Steps p.tables e below (T3.setTop (mkF m 120 #[.val (.long q1), .second, .val (.int p2), .val (.int (p2 &&& (3 : Int32))), .val (.long (q1 - ((q1 / (2199023255553 : Int64)) * (2199023255553 : Int64)))), .second, .val (.int (4 : Int32)), .unset] [(.int (1 : Int32))])) _
    refine XS.goto X3.here hx rfl (pc0 := 120) (pc' := 124) rfl (hb hby at_120) (by decide) (by decide) ?_
    show Steps p.tables e below (T3.setTop (mkF m 124 #[.val (.long q1), .second, .val (.int p2), .val (.int (p2 &&& (3 : Int32))), .val (.long (q1 - ((q1 / (2199023255553 : Int64)) * (2199023255553 : Int64)))), .second, .val (.int (4 : Int32)), .unset] [(.int (1 : Int32))])) _
    exact retN X3 hx (t := .boolean) Bd.returns (by simp) (hb hby at_124) hr
  · show Q0 Z q1 p2 h0 n0 _ T3.heap _
    exact ⟨rfl, N3⟩
set_option maxRecDepth 65536 in
set_option maxHeartbeats 40000000 in
theorem rm0_f5 (l : Launch) (Z : State) (a0 : Array Value) (hw : ∀ d ∈ tables_1, d.before a0 Z = true) (ws : List Jvm.Cond) (q1 : Int64) (p2 : Int32) (h0 : Heap) (n0 : Nat) (Z0 : n0 ≤ h0.size) (hc6 : (p2 &&& (3 : Int32)) = (3 : Int32)) (hnz13 : ¬ ((2199023255553 : Int64) = (0 : Int64))) (hc65 : (0 : Int32) < (lcmpW (q1 - ((q1 / (2199023255553 : Int64)) * (2199023255553 : Int64))) (131072 : Int64))) (hc80 : ¬ ((0 : Int32) < (lcmpW (q1 - ((q1 / (2199023255553 : Int64)) * (2199023255553 : Int64))) (33554432 : Int64)))) :
    MetFree l x (head1 (Jvm.Cond.code x code maxLocals ret :: ws) room_1) (fun a U => a = #[(.long q1), (.int p2)] ∧ Z.Warmed39 U.vm ∧ U.heap = h0) (fun _ _ _ _ _ => True) (fun _ U o U' => ∃ v L, o = .returned v ∧ Q0 Z q1 p2 h0 n0 v U'.heap L ∧ FrameEnd U o U' L room_1.cells room_1.slots) := by
  refine MetFree.of_bodySF (plainFor_of_name pn_0) hisR ?_
  intro p e s m args below meth c s₁ Bd hml0 hP hK
  obtain ⟨rfl, hZ, hh⟩ := hP
  have hx := Bd.exec
  have hby := Bd.bytes
  have hml : c.maxLocals = 8 := hml0
  have hown : s.vm.findClass "com/example/key_steward/keysteward/steward/TokenSerialsLengthPinLaw" = some m.cls := findClass_of_methodNamed Bd.named
  have hnm := (name_of_methodNamed Bd.named Bd.method).1
  have X0 : Stand p l e room_1 s m #[(.long q1), (.int p2)] below meth c s₁ [] 0 0 := Stand.of_body Bd
  have e0 : s₁.heap = h0 := by rw [← hh, Bd.state]; rfl
  have N0 := Fr.nil n0
  have hlo : 131072 < (q1 - ((q1 / (2199023255553 : Int64)) * (2199023255553 : Int64))).toInt := own_gt own_k4 hc65
  have hhi : (q1 - ((q1 / (2199023255553 : Int64)) * (2199023255553 : Int64))).toInt ≤ 33554432 := own_le own_k5 hc80
  have pre0 : ∀ t, Steps p.tables e below (s₁.setTop (mkF m 0 #[.val (.long q1), .second, .val (.int p2), .unset, .unset, .unset, .unset, .unset] [])) t → Steps p.tables e below (s₁.setTop (entryFrame m #[(.long q1), (.int p2)] maxLocals)) t := fun t k => castTop (ef_0 m q1 p2) k
  obtain ⟨_, _, ⟨T3, L3, k3, n3⟩, -, X3, ⟨Lc3, hQ3, l3, y3, z3⟩, st3⟩ := Jvm.LawKit.callS X0 hx (y := (⟨"com/example/key_steward/keysteward/steward/TokenSerials", "length", "(J)I"⟩ : MethodName)) hown (mvT hZ (hw _ (List.mem_of_getElem? (i := 4) rfl))) (mvT hZ (hw _ (List.mem_of_getElem? (i := 5) rfl))) (mvT hZ (hw _ (List.mem_of_getElem? (i := 6) rfl))) (mvT hZ (hw _ (List.mem_of_getElem? (i := 7) rfl))) (by decide) (backOf (W := 0) (rm1_5 l Z a0 hw [] (q1 - ((q1 / (2199023255553 : Int64)) * (2199023255553 : Int64))) h0 n0 Z0 hlo hhi) hZ (hw _ (List.mem_of_getElem? (i := 7) rfl)) (hw _ (List.mem_of_getElem? (i := 6) rfl)) (by decide) (by decide)) (g := (mkF m 111 #[.val (.long q1), .second, .val (.int p2), .val (.int (p2 &&& (3 : Int32))), .val (.long (q1 - ((q1 / (2199023255553 : Int64)) * (2199023255553 : Int64)))), .second, .val (.int (5 : Int32)), .unset] [(.long (q1 - ((q1 / (2199023255553 : Int64)) * (2199023255553 : Int64))))])) rfl (by rw [hml]; rfl) (argsL := [(.long (q1 - ((q1 / (2199023255553 : Int64)) * (2199023255553 : Int64))))]) (rest := []) (lenOf pd_0_0 rfl) rfl (by show 2 * 0 + _ ≤ _; exact Nat.le_of_eq rfl) (hb hby at_111) (fun _ _ => ⟨rfl, e0, (by decide : 0 + 0 ≤ _), (by decide : 0 + 0 ≤ _)⟩)
  dsimp only [Pt.U, Pt.locs, Pt.cells, Pt.slots] at X3 l3 y3 z3 st3 hQ3
  subst l3 y3 z3
  obtain ⟨rfl, N3q, Hc⟩ := hQ3
  have N3 := Fr.app N0 N3q
  obtain ⟨fs, hr, hrun, hended, hW, hsame⟩ := X3.leave (v := some (.int (1 : Int32))) (fun h => by rw [Bd.returns] at h; cases h)
  refine ⟨_, _, pre0 _ ?_, hrun, hended, _, _, rfl, ?_, ⟨_, rfl⟩, hW, hsame.mono (by decide) (by decide)⟩
  · show Steps p.tables e below (s₁.setTop (mkF m 0 #[.val (.long q1), .second, .val (.int p2), .unset, .unset, .unset, .unset, .unset] [])) _
    refine XS.iloadN X0.here hx rfl (hb hby at_0) rfl ?_
    show Steps p.tables e below (s₁.setTop (mkF m 1 #[.val (.long q1), .second, .val (.int p2), .unset, .unset, .unset, .unset, .unset] [(.int p2)])) _
    refine XS.iconst X0.here hx rfl (hb hby at_1) ?_
    show Steps p.tables e below (s₁.setTop (mkF m 2 #[.val (.long q1), .second, .val (.int p2), .unset, .unset, .unset, .unset, .unset] [(.int (3 : Int32)), (.int p2)])) _
    refine XS.iand X0.here hx rfl (hb hby at_2) rfl ?_
    show Steps p.tables e below (s₁.setTop (mkF m 3 #[.val (.long q1), .second, .val (.int p2), .unset, .unset, .unset, .unset, .unset] [(.int (p2 &&& (3 : Int32)))])) _
    refine XS.istoreN X0.here hx rfl (hb hby at_3) rfl (l' := #[.val (.long q1), .second, .val (.int p2), .val (.int (p2 &&& (3 : Int32))), .unset, .unset, .unset, .unset]) rfl ?_
    show Steps p.tables e below (s₁.setTop (mkF m 4 #[.val (.long q1), .second, .val (.int p2), .val (.int (p2 &&& (3 : Int32))), .unset, .unset, .unset, .unset] [])) _
    refine XS.iloadN X0.here hx rfl (hb hby at_4) rfl ?_
    show Steps p.tables e below (s₁.setTop (mkF m 5 #[.val (.long q1), .second, .val (.int p2), .val (.int (p2 &&& (3 : Int32))), .unset, .unset, .unset, .unset] [(.int (p2 &&& (3 : Int32)))])) _
    refine XS.iconst X0.here hx rfl (hb hby at_5) ?_
    show Steps p.tables e below (s₁.setTop (mkF m 6 #[.val (.long q1), .second, .val (.int p2), .val (.int (p2 &&& (3 : Int32))), .unset, .unset, .unset, .unset] [(.int (3 : Int32)), (.int (p2 &&& (3 : Int32)))])) _
    refine XS.icmpNo X0.here hx rfl (hb hby at_6) rfl (teq hc6).2 ?_
    show Steps p.tables e below (s₁.setTop (mkF m 9 #[.val (.long q1), .second, .val (.int p2), .val (.int (p2 &&& (3 : Int32))), .unset, .unset, .unset, .unset] [])) _
    refine XS.lloadN X0.here hx rfl (hb hby at_9) rfl ?_
    show Steps p.tables e below (s₁.setTop (mkF m 10 #[.val (.long q1), .second, .val (.int p2), .val (.int (p2 &&& (3 : Int32))), .unset, .unset, .unset, .unset] [(.long q1)])) _
    refine X0.ldc2Long hx hown (mvT hZ (hw _ (List.mem_of_getElem? (i := 13) rfl))) (g := (mkF m 10 #[.val (.long q1), .second, .val (.int p2), .val (.int (p2 &&& (3 : Int32))), .unset, .unset, .unset, .unset] [(.long q1)])) rfl (hb hby at_10) _ ?_
    show Steps p.tables e below (s₁.setTop (mkF m 13 #[.val (.long q1), .second, .val (.int p2), .val (.int (p2 &&& (3 : Int32))), .unset, .unset, .unset, .unset] [(.long (2199023255553 : Int64)), (.long q1)])) _
    refine XS.lrem X0.here hx rfl (hb hby at_13) rfl hnz13 ?_
    show Steps p.tables e below (s₁.setTop (mkF m 14 #[.val (.long q1), .second, .val (.int p2), .val (.int (p2 &&& (3 : Int32))), .unset, .unset, .unset, .unset] [(.long (q1 - ((q1 / (2199023255553 : Int64)) * (2199023255553 : Int64))))])) _
    refine XS.lstore X0.here hx rfl (hb hby at_14) rfl (l' := #[.val (.long q1), .second, .val (.int p2), .val (.int (p2 &&& (3 : Int32))), .val (.long (q1 - ((q1 / (2199023255553 : Int64)) * (2199023255553 : Int64)))), .second, .unset, .unset]) rfl ?_
    show Steps p.tables e below (s₁.setTop (mkF m 16 #[.val (.long q1), .second, .val (.int p2), .val (.int (p2 &&& (3 : Int32))), .val (.long (q1 - ((q1 / (2199023255553 : Int64)) * (2199023255553 : Int64)))), .second, .unset, .unset] [])) _
    refine XS.goto X0.here hx rfl (pc0 := 16) (pc' := 59) rfl (hb hby at_16) (by decide) (by decide) ?_
    show Steps p.tables e below (s₁.setTop (mkF m 59 #[.val (.long q1), .second, .val (.int p2), .val (.int (p2 &&& (3 : Int32))), .val (.long (q1 - ((q1 / (2199023255553 : Int64)) * (2199023255553 : Int64)))), .second, .unset, .unset] [])) _
    refine XS.lload X0.here hx rfl (hb hby at_59) rfl ?_
    show Steps p.tables e below (s₁.setTop (mkF m 61 #[.val (.long q1), .second, .val (.int p2), .val (.int (p2 &&& (3 : Int32))), .val (.long (q1 - ((q1 / (2199023255553 : Int64)) * (2199023255553 : Int64)))), .second, .unset, .unset] [(.long (q1 - ((q1 / (2199023255553 : Int64)) * (2199023255553 : Int64))))])) _
    refine X0.ldc2Long hx hown (mvT hZ (hw _ (List.mem_of_getElem? (i := 2) rfl))) (g := (mkF m 61 #[.val (.long q1), .second, .val (.int p2), .val (.int (p2 &&& (3 : Int32))), .val (.long (q1 - ((q1 / (2199023255553 : Int64)) * (2199023255553 : Int64)))), .second, .unset, .unset] [(.long (q1 - ((q1 / (2199023255553 : Int64)) * (2199023255553 : Int64))))])) rfl (hb hby at_61) _ ?_
    show Steps p.tables e below (s₁.setTop (mkF m 64 #[.val (.long q1), .second, .val (.int p2), .val (.int (p2 &&& (3 : Int32))), .val (.long (q1 - ((q1 / (2199023255553 : Int64)) * (2199023255553 : Int64)))), .second, .unset, .unset] [(.long (131072 : Int64)), (.long (q1 - ((q1 / (2199023255553 : Int64)) * (2199023255553 : Int64))))])) _
    refine XS.lcmp X0.here hx rfl (hb hby at_64) rfl ?_
    show Steps p.tables e below (s₁.setTop (mkF m 65 #[.val (.long q1), .second, .val (.int p2), .val (.int (p2 &&& (3 : Int32))), .val (.long (q1 - ((q1 / (2199023255553 : Int64)) * (2199023255553 : Int64)))), .second, .unset, .unset] [(.int (lcmpW (q1 - ((q1 / (2199023255553 : Int64)) * (2199023255553 : Int64))) (131072 : Int64)))])) _
    refine XS.ifYes X0.here hx rfl (pc0 := 65) (pc' := 74) rfl (hb hby at_65) rfl ((if0 _ _).trans (tlt hc65).2.2.1) (by decide) (by decide) ?_
    show Steps p.tables e below (s₁.setTop (mkF m 74 #[.val (.long q1), .second, .val (.int p2), .val (.int (p2 &&& (3 : Int32))), .val (.long (q1 - ((q1 / (2199023255553 : Int64)) * (2199023255553 : Int64)))), .second, .unset, .unset] [])) _
    refine XS.lload X0.here hx rfl (hb hby at_74) rfl ?_
    show Steps p.tables e below (s₁.setTop (mkF m 76 #[.val (.long q1), .second, .val (.int p2), .val (.int (p2 &&& (3 : Int32))), .val (.long (q1 - ((q1 / (2199023255553 : Int64)) * (2199023255553 : Int64)))), .second, .unset, .unset] [(.long (q1 - ((q1 / (2199023255553 : Int64)) * (2199023255553 : Int64))))])) _
    refine X0.ldc2Long hx hown (mvT hZ (hw _ (List.mem_of_getElem? (i := 3) rfl))) (g := (mkF m 76 #[.val (.long q1), .second, .val (.int p2), .val (.int (p2 &&& (3 : Int32))), .val (.long (q1 - ((q1 / (2199023255553 : Int64)) * (2199023255553 : Int64)))), .second, .unset, .unset] [(.long (q1 - ((q1 / (2199023255553 : Int64)) * (2199023255553 : Int64))))])) rfl (hb hby at_76) _ ?_
    show Steps p.tables e below (s₁.setTop (mkF m 79 #[.val (.long q1), .second, .val (.int p2), .val (.int (p2 &&& (3 : Int32))), .val (.long (q1 - ((q1 / (2199023255553 : Int64)) * (2199023255553 : Int64)))), .second, .unset, .unset] [(.long (33554432 : Int64)), (.long (q1 - ((q1 / (2199023255553 : Int64)) * (2199023255553 : Int64))))])) _
    refine XS.lcmp X0.here hx rfl (hb hby at_79) rfl ?_
    show Steps p.tables e below (s₁.setTop (mkF m 80 #[.val (.long q1), .second, .val (.int p2), .val (.int (p2 &&& (3 : Int32))), .val (.long (q1 - ((q1 / (2199023255553 : Int64)) * (2199023255553 : Int64)))), .second, .unset, .unset] [(.int (lcmpW (q1 - ((q1 / (2199023255553 : Int64)) * (2199023255553 : Int64))) (33554432 : Int64)))])) _
    refine XS.ifNo X0.here hx rfl (hb hby at_80) rfl ((if0 _ _).trans (flt hc80).2.2.1) ?_
    show Steps p.tables e below (s₁.setTop (mkF m 83 #[.val (.long q1), .second, .val (.int p2), .val (.int (p2 &&& (3 : Int32))), .val (.long (q1 - ((q1 / (2199023255553 : Int64)) * (2199023255553 : Int64)))), .second, .unset, .unset] [])) _
    refine XS.iconst X0.here hx rfl (hb hby at_83) ?_
    show Steps p.tables e below (s₁.setTop (mkF m 84 #[.val (.long q1), .second, .val (.int p2), .val (.int (p2 &&& (3 : Int32))), .val (.long (q1 - ((q1 / (2199023255553 : Int64)) * (2199023255553 : Int64)))), .second, .unset, .unset] [(.int (5 : Int32))])) _
    refine XS.istore X0.here hx rfl (hb hby at_84) rfl (l' := #[.val (.long q1), .second, .val (.int p2), .val (.int (p2 &&& (3 : Int32))), .val (.long (q1 - ((q1 / (2199023255553 : Int64)) * (2199023255553 : Int64)))), .second, .val (.int (5 : Int32)), .unset]) rfl ?_
    show Steps p.tables e below (s₁.setTop (mkF m 86 #[.val (.long q1), .second, .val (.int p2), .val (.int (p2 &&& (3 : Int32))), .val (.long (q1 - ((q1 / (2199023255553 : Int64)) * (2199023255553 : Int64)))), .second, .val (.int (5 : Int32)), .unset] [])) _
    refine XS.goto X0.here hx rfl (pc0 := 86) (pc' := 109) rfl (hb hby at_86) (by decide) (by decide) ?_
    show Steps p.tables e below (s₁.setTop (mkF m 109 #[.val (.long q1), .second, .val (.int p2), .val (.int (p2 &&& (3 : Int32))), .val (.long (q1 - ((q1 / (2199023255553 : Int64)) * (2199023255553 : Int64)))), .second, .val (.int (5 : Int32)), .unset] [])) _
    refine XS.lload X0.here hx rfl (hb hby at_109) rfl ?_
    show Steps p.tables e below (s₁.setTop (mkF m 111 #[.val (.long q1), .second, .val (.int p2), .val (.int (p2 &&& (3 : Int32))), .val (.long (q1 - ((q1 / (2199023255553 : Int64)) * (2199023255553 : Int64)))), .second, .val (.int (5 : Int32)), .unset] [(.long (q1 - ((q1 / (2199023255553 : Int64)) * (2199023255553 : Int64))))])) _
    refine st3 _ ?_
    show Steps p.tables e below (T3.setTop (mkF m 114 #[.val (.long q1), .second, .val (.int p2), .val (.int (p2 &&& (3 : Int32))), .val (.long (q1 - ((q1 / (2199023255553 : Int64)) * (2199023255553 : Int64)))), .second, .val (.int (5 : Int32)), .unset] [(.int (5 : Int32))])) _
    refine XS.iload X3.here hx rfl (hb hby at_114) rfl ?_
    show Steps p.tables e below (T3.setTop (mkF m 116 #[.val (.long q1), .second, .val (.int p2), .val (.int (p2 &&& (3 : Int32))), .val (.long (q1 - ((q1 / (2199023255553 : Int64)) * (2199023255553 : Int64)))), .second, .val (.int (5 : Int32)), .unset] [(.int (5 : Int32)), (.int (5 : Int32))])) _
    refine XS.icmpNo X3.here hx rfl (hb hby at_116) rfl (teq (rfl : (5 : Int32) = (5 : Int32))).2 ?_
    show Steps p.tables e below (T3.setTop (mkF m 119 #[.val (.long q1), .second, .val (.int p2), .val (.int (p2 &&& (3 : Int32))), .val (.long (q1 - ((q1 / (2199023255553 : Int64)) * (2199023255553 : Int64)))), .second, .val (.int (5 : Int32)), .unset] [])) _
    refine XS.iconst X3.here hx rfl (hb hby at_119) ?_
    show Steps p.tables e below (T3.setTop (mkF m 120 #[.val (.long q1), .second, .val (.int p2), .val (.int (p2 &&& (3 : Int32))), .val (.long (q1 - ((q1 / (2199023255553 : Int64)) * (2199023255553 : Int64)))), .second, .val (.int (5 : Int32)), .unset] [(.int (1 : Int32))])) _
    refine XS.goto X3.here hx rfl (pc0 := 120) (pc' := 124) rfl (hb hby at_120) (by decide) (by decide) ?_
    show Steps p.tables e below (T3.setTop (mkF m 124 #[.val (.long q1), .second, .val (.int p2), .val (.int (p2 &&& (3 : Int32))), .val (.long (q1 - ((q1 / (2199023255553 : Int64)) * (2199023255553 : Int64)))), .second, .val (.int (5 : Int32)), .unset] [(.int (1 : Int32))])) _
    exact retN X3 hx (t := .boolean) Bd.returns (by simp) (hb hby at_124) hr
  · show Q0 Z q1 p2 h0 n0 _ T3.heap _
    exact ⟨rfl, N3⟩
set_option maxRecDepth 65536 in
set_option maxHeartbeats 40000000 in
theorem rm0_f6 (l : Launch) (Z : State) (a0 : Array Value) (hw : ∀ d ∈ tables_1, d.before a0 Z = true) (ws : List Jvm.Cond) (q1 : Int64) (p2 : Int32) (h0 : Heap) (n0 : Nat) (Z0 : n0 ≤ h0.size) (hc6 : (p2 &&& (3 : Int32)) = (3 : Int32)) (hnz13 : ¬ ((2199023255553 : Int64) = (0 : Int64))) (hc65 : (0 : Int32) < (lcmpW (q1 - ((q1 / (2199023255553 : Int64)) * (2199023255553 : Int64))) (131072 : Int64))) (hc80 : (0 : Int32) < (lcmpW (q1 - ((q1 / (2199023255553 : Int64)) * (2199023255553 : Int64))) (33554432 : Int64))) (hc95 : ¬ ((0 : Int32) < (lcmpW (q1 - ((q1 / (2199023255553 : Int64)) * (2199023255553 : Int64))) (8589934592 : Int64)))) :
    MetFree l x (head1 (Jvm.Cond.code x code maxLocals ret :: ws) room_1) (fun a U => a = #[(.long q1), (.int p2)] ∧ Z.Warmed39 U.vm ∧ U.heap = h0) (fun _ _ _ _ _ => True) (fun _ U o U' => ∃ v L, o = .returned v ∧ Q0 Z q1 p2 h0 n0 v U'.heap L ∧ FrameEnd U o U' L room_1.cells room_1.slots) := by
  refine MetFree.of_bodySF (plainFor_of_name pn_0) hisR ?_
  intro p e s m args below meth c s₁ Bd hml0 hP hK
  obtain ⟨rfl, hZ, hh⟩ := hP
  have hx := Bd.exec
  have hby := Bd.bytes
  have hml : c.maxLocals = 8 := hml0
  have hown : s.vm.findClass "com/example/key_steward/keysteward/steward/TokenSerialsLengthPinLaw" = some m.cls := findClass_of_methodNamed Bd.named
  have hnm := (name_of_methodNamed Bd.named Bd.method).1
  have X0 : Stand p l e room_1 s m #[(.long q1), (.int p2)] below meth c s₁ [] 0 0 := Stand.of_body Bd
  have e0 : s₁.heap = h0 := by rw [← hh, Bd.state]; rfl
  have N0 := Fr.nil n0
  have hlo : 33554432 < (q1 - ((q1 / (2199023255553 : Int64)) * (2199023255553 : Int64))).toInt := own_gt own_k5 hc80
  have hhi : (q1 - ((q1 / (2199023255553 : Int64)) * (2199023255553 : Int64))).toInt ≤ 8589934592 := own_le own_k6 hc95
  have pre0 : ∀ t, Steps p.tables e below (s₁.setTop (mkF m 0 #[.val (.long q1), .second, .val (.int p2), .unset, .unset, .unset, .unset, .unset] [])) t → Steps p.tables e below (s₁.setTop (entryFrame m #[(.long q1), (.int p2)] maxLocals)) t := fun t k => castTop (ef_0 m q1 p2) k
  obtain ⟨_, _, ⟨T3, L3, k3, n3⟩, -, X3, ⟨Lc3, hQ3, l3, y3, z3⟩, st3⟩ := Jvm.LawKit.callS X0 hx (y := (⟨"com/example/key_steward/keysteward/steward/TokenSerials", "length", "(J)I"⟩ : MethodName)) hown (mvT hZ (hw _ (List.mem_of_getElem? (i := 4) rfl))) (mvT hZ (hw _ (List.mem_of_getElem? (i := 5) rfl))) (mvT hZ (hw _ (List.mem_of_getElem? (i := 6) rfl))) (mvT hZ (hw _ (List.mem_of_getElem? (i := 7) rfl))) (by decide) (backOf (W := 0) (rm1_6 l Z a0 hw [] (q1 - ((q1 / (2199023255553 : Int64)) * (2199023255553 : Int64))) h0 n0 Z0 hlo hhi) hZ (hw _ (List.mem_of_getElem? (i := 7) rfl)) (hw _ (List.mem_of_getElem? (i := 6) rfl)) (by decide) (by decide)) (g := (mkF m 111 #[.val (.long q1), .second, .val (.int p2), .val (.int (p2 &&& (3 : Int32))), .val (.long (q1 - ((q1 / (2199023255553 : Int64)) * (2199023255553 : Int64)))), .second, .val (.int (6 : Int32)), .unset] [(.long (q1 - ((q1 / (2199023255553 : Int64)) * (2199023255553 : Int64))))])) rfl (by rw [hml]; rfl) (argsL := [(.long (q1 - ((q1 / (2199023255553 : Int64)) * (2199023255553 : Int64))))]) (rest := []) (lenOf pd_0_0 rfl) rfl (by show 2 * 0 + _ ≤ _; exact Nat.le_of_eq rfl) (hb hby at_111) (fun _ _ => ⟨rfl, e0, (by decide : 0 + 0 ≤ _), (by decide : 0 + 0 ≤ _)⟩)
  dsimp only [Pt.U, Pt.locs, Pt.cells, Pt.slots] at X3 l3 y3 z3 st3 hQ3
  subst l3 y3 z3
  obtain ⟨rfl, N3q, Hc⟩ := hQ3
  have N3 := Fr.app N0 N3q
  obtain ⟨fs, hr, hrun, hended, hW, hsame⟩ := X3.leave (v := some (.int (1 : Int32))) (fun h => by rw [Bd.returns] at h; cases h)
  refine ⟨_, _, pre0 _ ?_, hrun, hended, _, _, rfl, ?_, ⟨_, rfl⟩, hW, hsame.mono (by decide) (by decide)⟩
  · show Steps p.tables e below (s₁.setTop (mkF m 0 #[.val (.long q1), .second, .val (.int p2), .unset, .unset, .unset, .unset, .unset] [])) _
    refine XS.iloadN X0.here hx rfl (hb hby at_0) rfl ?_
    show Steps p.tables e below (s₁.setTop (mkF m 1 #[.val (.long q1), .second, .val (.int p2), .unset, .unset, .unset, .unset, .unset] [(.int p2)])) _
    refine XS.iconst X0.here hx rfl (hb hby at_1) ?_
    show Steps p.tables e below (s₁.setTop (mkF m 2 #[.val (.long q1), .second, .val (.int p2), .unset, .unset, .unset, .unset, .unset] [(.int (3 : Int32)), (.int p2)])) _
    refine XS.iand X0.here hx rfl (hb hby at_2) rfl ?_
    show Steps p.tables e below (s₁.setTop (mkF m 3 #[.val (.long q1), .second, .val (.int p2), .unset, .unset, .unset, .unset, .unset] [(.int (p2 &&& (3 : Int32)))])) _
    refine XS.istoreN X0.here hx rfl (hb hby at_3) rfl (l' := #[.val (.long q1), .second, .val (.int p2), .val (.int (p2 &&& (3 : Int32))), .unset, .unset, .unset, .unset]) rfl ?_
    show Steps p.tables e below (s₁.setTop (mkF m 4 #[.val (.long q1), .second, .val (.int p2), .val (.int (p2 &&& (3 : Int32))), .unset, .unset, .unset, .unset] [])) _
    refine XS.iloadN X0.here hx rfl (hb hby at_4) rfl ?_
    show Steps p.tables e below (s₁.setTop (mkF m 5 #[.val (.long q1), .second, .val (.int p2), .val (.int (p2 &&& (3 : Int32))), .unset, .unset, .unset, .unset] [(.int (p2 &&& (3 : Int32)))])) _
    refine XS.iconst X0.here hx rfl (hb hby at_5) ?_
    show Steps p.tables e below (s₁.setTop (mkF m 6 #[.val (.long q1), .second, .val (.int p2), .val (.int (p2 &&& (3 : Int32))), .unset, .unset, .unset, .unset] [(.int (3 : Int32)), (.int (p2 &&& (3 : Int32)))])) _
    refine XS.icmpNo X0.here hx rfl (hb hby at_6) rfl (teq hc6).2 ?_
    show Steps p.tables e below (s₁.setTop (mkF m 9 #[.val (.long q1), .second, .val (.int p2), .val (.int (p2 &&& (3 : Int32))), .unset, .unset, .unset, .unset] [])) _
    refine XS.lloadN X0.here hx rfl (hb hby at_9) rfl ?_
    show Steps p.tables e below (s₁.setTop (mkF m 10 #[.val (.long q1), .second, .val (.int p2), .val (.int (p2 &&& (3 : Int32))), .unset, .unset, .unset, .unset] [(.long q1)])) _
    refine X0.ldc2Long hx hown (mvT hZ (hw _ (List.mem_of_getElem? (i := 13) rfl))) (g := (mkF m 10 #[.val (.long q1), .second, .val (.int p2), .val (.int (p2 &&& (3 : Int32))), .unset, .unset, .unset, .unset] [(.long q1)])) rfl (hb hby at_10) _ ?_
    show Steps p.tables e below (s₁.setTop (mkF m 13 #[.val (.long q1), .second, .val (.int p2), .val (.int (p2 &&& (3 : Int32))), .unset, .unset, .unset, .unset] [(.long (2199023255553 : Int64)), (.long q1)])) _
    refine XS.lrem X0.here hx rfl (hb hby at_13) rfl hnz13 ?_
    show Steps p.tables e below (s₁.setTop (mkF m 14 #[.val (.long q1), .second, .val (.int p2), .val (.int (p2 &&& (3 : Int32))), .unset, .unset, .unset, .unset] [(.long (q1 - ((q1 / (2199023255553 : Int64)) * (2199023255553 : Int64))))])) _
    refine XS.lstore X0.here hx rfl (hb hby at_14) rfl (l' := #[.val (.long q1), .second, .val (.int p2), .val (.int (p2 &&& (3 : Int32))), .val (.long (q1 - ((q1 / (2199023255553 : Int64)) * (2199023255553 : Int64)))), .second, .unset, .unset]) rfl ?_
    show Steps p.tables e below (s₁.setTop (mkF m 16 #[.val (.long q1), .second, .val (.int p2), .val (.int (p2 &&& (3 : Int32))), .val (.long (q1 - ((q1 / (2199023255553 : Int64)) * (2199023255553 : Int64)))), .second, .unset, .unset] [])) _
    refine XS.goto X0.here hx rfl (pc0 := 16) (pc' := 59) rfl (hb hby at_16) (by decide) (by decide) ?_
    show Steps p.tables e below (s₁.setTop (mkF m 59 #[.val (.long q1), .second, .val (.int p2), .val (.int (p2 &&& (3 : Int32))), .val (.long (q1 - ((q1 / (2199023255553 : Int64)) * (2199023255553 : Int64)))), .second, .unset, .unset] [])) _
    refine XS.lload X0.here hx rfl (hb hby at_59) rfl ?_
    show Steps p.tables e below (s₁.setTop (mkF m 61 #[.val (.long q1), .second, .val (.int p2), .val (.int (p2 &&& (3 : Int32))), .val (.long (q1 - ((q1 / (2199023255553 : Int64)) * (2199023255553 : Int64)))), .second, .unset, .unset] [(.long (q1 - ((q1 / (2199023255553 : Int64)) * (2199023255553 : Int64))))])) _
    refine X0.ldc2Long hx hown (mvT hZ (hw _ (List.mem_of_getElem? (i := 2) rfl))) (g := (mkF m 61 #[.val (.long q1), .second, .val (.int p2), .val (.int (p2 &&& (3 : Int32))), .val (.long (q1 - ((q1 / (2199023255553 : Int64)) * (2199023255553 : Int64)))), .second, .unset, .unset] [(.long (q1 - ((q1 / (2199023255553 : Int64)) * (2199023255553 : Int64))))])) rfl (hb hby at_61) _ ?_
    show Steps p.tables e below (s₁.setTop (mkF m 64 #[.val (.long q1), .second, .val (.int p2), .val (.int (p2 &&& (3 : Int32))), .val (.long (q1 - ((q1 / (2199023255553 : Int64)) * (2199023255553 : Int64)))), .second, .unset, .unset] [(.long (131072 : Int64)), (.long (q1 - ((q1 / (2199023255553 : Int64)) * (2199023255553 : Int64))))])) _
    refine XS.lcmp X0.here hx rfl (hb hby at_64) rfl ?_
    show Steps p.tables e below (s₁.setTop (mkF m 65 #[.val (.long q1), .second, .val (.int p2), .val (.int (p2 &&& (3 : Int32))), .val (.long (q1 - ((q1 / (2199023255553 : Int64)) * (2199023255553 : Int64)))), .second, .unset, .unset] [(.int (lcmpW (q1 - ((q1 / (2199023255553 : Int64)) * (2199023255553 : Int64))) (131072 : Int64)))])) _
    refine XS.ifYes X0.here hx rfl (pc0 := 65) (pc' := 74) rfl (hb hby at_65) rfl ((if0 _ _).trans (tlt hc65).2.2.1) (by decide) (by decide) ?_
    show Steps p.tables e below (s₁.setTop (mkF m 74 #[.val (.long q1), .second, .val (.int p2), .val (.int (p2 &&& (3 : Int32))), .val (.long (q1 - ((q1 / (2199023255553 : Int64)) * (2199023255553 : Int64)))), .second, .unset, .unset] [])) _
    refine XS.lload X0.here hx rfl (hb hby at_74) rfl ?_
    show Steps p.tables e below (s₁.setTop (mkF m 76 #[.val (.long q1), .second, .val (.int p2), .val (.int (p2 &&& (3 : Int32))), .val (.long (q1 - ((q1 / (2199023255553 : Int64)) * (2199023255553 : Int64)))), .second, .unset, .unset] [(.long (q1 - ((q1 / (2199023255553 : Int64)) * (2199023255553 : Int64))))])) _
    refine X0.ldc2Long hx hown (mvT hZ (hw _ (List.mem_of_getElem? (i := 3) rfl))) (g := (mkF m 76 #[.val (.long q1), .second, .val (.int p2), .val (.int (p2 &&& (3 : Int32))), .val (.long (q1 - ((q1 / (2199023255553 : Int64)) * (2199023255553 : Int64)))), .second, .unset, .unset] [(.long (q1 - ((q1 / (2199023255553 : Int64)) * (2199023255553 : Int64))))])) rfl (hb hby at_76) _ ?_
    show Steps p.tables e below (s₁.setTop (mkF m 79 #[.val (.long q1), .second, .val (.int p2), .val (.int (p2 &&& (3 : Int32))), .val (.long (q1 - ((q1 / (2199023255553 : Int64)) * (2199023255553 : Int64)))), .second, .unset, .unset] [(.long (33554432 : Int64)), (.long (q1 - ((q1 / (2199023255553 : Int64)) * (2199023255553 : Int64))))])) _
    refine XS.lcmp X0.here hx rfl (hb hby at_79) rfl ?_
    show Steps p.tables e below (s₁.setTop (mkF m 80 #[.val (.long q1), .second, .val (.int p2), .val (.int (p2 &&& (3 : Int32))), .val (.long (q1 - ((q1 / (2199023255553 : Int64)) * (2199023255553 : Int64)))), .second, .unset, .unset] [(.int (lcmpW (q1 - ((q1 / (2199023255553 : Int64)) * (2199023255553 : Int64))) (33554432 : Int64)))])) _
    refine XS.ifYes X0.here hx rfl (pc0 := 80) (pc' := 89) rfl (hb hby at_80) rfl ((if0 _ _).trans (tlt hc80).2.2.1) (by decide) (by decide) ?_
    show Steps p.tables e below (s₁.setTop (mkF m 89 #[.val (.long q1), .second, .val (.int p2), .val (.int (p2 &&& (3 : Int32))), .val (.long (q1 - ((q1 / (2199023255553 : Int64)) * (2199023255553 : Int64)))), .second, .unset, .unset] [])) _
    refine XS.lload X0.here hx rfl (hb hby at_89) rfl ?_
    show Steps p.tables e below (s₁.setTop (mkF m 91 #[.val (.long q1), .second, .val (.int p2), .val (.int (p2 &&& (3 : Int32))), .val (.long (q1 - ((q1 / (2199023255553 : Int64)) * (2199023255553 : Int64)))), .second, .unset, .unset] [(.long (q1 - ((q1 / (2199023255553 : Int64)) * (2199023255553 : Int64))))])) _
    refine X0.ldc2Long hx hown (mvT hZ (hw _ (List.mem_of_getElem? (i := 0) rfl))) (g := (mkF m 91 #[.val (.long q1), .second, .val (.int p2), .val (.int (p2 &&& (3 : Int32))), .val (.long (q1 - ((q1 / (2199023255553 : Int64)) * (2199023255553 : Int64)))), .second, .unset, .unset] [(.long (q1 - ((q1 / (2199023255553 : Int64)) * (2199023255553 : Int64))))])) rfl (hb hby at_91) _ ?_
    show Steps p.tables e below (s₁.setTop (mkF m 94 #[.val (.long q1), .second, .val (.int p2), .val (.int (p2 &&& (3 : Int32))), .val (.long (q1 - ((q1 / (2199023255553 : Int64)) * (2199023255553 : Int64)))), .second, .unset, .unset] [(.long (8589934592 : Int64)), (.long (q1 - ((q1 / (2199023255553 : Int64)) * (2199023255553 : Int64))))])) _
    refine XS.lcmp X0.here hx rfl (hb hby at_94) rfl ?_
    show Steps p.tables e below (s₁.setTop (mkF m 95 #[.val (.long q1), .second, .val (.int p2), .val (.int (p2 &&& (3 : Int32))), .val (.long (q1 - ((q1 / (2199023255553 : Int64)) * (2199023255553 : Int64)))), .second, .unset, .unset] [(.int (lcmpW (q1 - ((q1 / (2199023255553 : Int64)) * (2199023255553 : Int64))) (8589934592 : Int64)))])) _
    refine XS.ifNo X0.here hx rfl (hb hby at_95) rfl ((if0 _ _).trans (flt hc95).2.2.1) ?_
    show Steps p.tables e below (s₁.setTop (mkF m 98 #[.val (.long q1), .second, .val (.int p2), .val (.int (p2 &&& (3 : Int32))), .val (.long (q1 - ((q1 / (2199023255553 : Int64)) * (2199023255553 : Int64)))), .second, .unset, .unset] [])) _
    refine XS.bipush X0.here hx rfl (hb hby at_98) ?_
    show Steps p.tables e below (s₁.setTop (mkF m 100 #[.val (.long q1), .second, .val (.int p2), .val (.int (p2 &&& (3 : Int32))), .val (.long (q1 - ((q1 / (2199023255553 : Int64)) * (2199023255553 : Int64)))), .second, .unset, .unset] [(.int (6 : Int32))])) _
    refine XS.istore X0.here hx rfl (hb hby at_100) rfl (l' := #[.val (.long q1), .second, .val (.int p2), .val (.int (p2 &&& (3 : Int32))), .val (.long (q1 - ((q1 / (2199023255553 : Int64)) * (2199023255553 : Int64)))), .second, .val (.int (6 : Int32)), .unset]) rfl ?_
    show Steps p.tables e below (s₁.setTop (mkF m 102 #[.val (.long q1), .second, .val (.int p2), .val (.int (p2 &&& (3 : Int32))), .val (.long (q1 - ((q1 / (2199023255553 : Int64)) * (2199023255553 : Int64)))), .second, .val (.int (6 : Int32)), .unset] [])) _
    refine XS.goto X0.here hx rfl (pc0 := 102) (pc' := 109) rfl (hb hby at_102) (by decide) (by decide) ?_
    show Steps p.tables e below (s₁.setTop (mkF m 109 #[.val (.long q1), .second, .val (.int p2), .val (.int (p2 &&& (3 : Int32))), .val (.long (q1 - ((q1 / (2199023255553 : Int64)) * (2199023255553 : Int64)))), .second, .val (.int (6 : Int32)), .unset] [])) _
    refine XS.lload X0.here hx rfl (hb hby at_109) rfl ?_
    show Steps p.tables e below (s₁.setTop (mkF m 111 #[.val (.long q1), .second, .val (.int p2), .val (.int (p2 &&& (3 : Int32))), .val (.long (q1 - ((q1 / (2199023255553 : Int64)) * (2199023255553 : Int64)))), .second, .val (.int (6 : Int32)), .unset] [(.long (q1 - ((q1 / (2199023255553 : Int64)) * (2199023255553 : Int64))))])) _
    refine st3 _ ?_
    show Steps p.tables e below (T3.setTop (mkF m 114 #[.val (.long q1), .second, .val (.int p2), .val (.int (p2 &&& (3 : Int32))), .val (.long (q1 - ((q1 / (2199023255553 : Int64)) * (2199023255553 : Int64)))), .second, .val (.int (6 : Int32)), .unset] [(.int (6 : Int32))])) _
    refine XS.iload X3.here hx rfl (hb hby at_114) rfl ?_
    show Steps p.tables e below (T3.setTop (mkF m 116 #[.val (.long q1), .second, .val (.int p2), .val (.int (p2 &&& (3 : Int32))), .val (.long (q1 - ((q1 / (2199023255553 : Int64)) * (2199023255553 : Int64)))), .second, .val (.int (6 : Int32)), .unset] [(.int (6 : Int32)), (.int (6 : Int32))])) _
    refine XS.icmpNo X3.here hx rfl (hb hby at_116) rfl (teq (rfl : (6 : Int32) = (6 : Int32))).2 ?_
    show Steps p.tables e below (T3.setTop (mkF m 119 #[.val (.long q1), .second, .val (.int p2), .val (.int (p2 &&& (3 : Int32))), .val (.long (q1 - ((q1 / (2199023255553 : Int64)) * (2199023255553 : Int64)))), .second, .val (.int (6 : Int32)), .unset] [])) _
    refine XS.iconst X3.here hx rfl (hb hby at_119) ?_
    show Steps p.tables e below (T3.setTop (mkF m 120 #[.val (.long q1), .second, .val (.int p2), .val (.int (p2 &&& (3 : Int32))), .val (.long (q1 - ((q1 / (2199023255553 : Int64)) * (2199023255553 : Int64)))), .second, .val (.int (6 : Int32)), .unset] [(.int (1 : Int32))])) _
    refine XS.goto X3.here hx rfl (pc0 := 120) (pc' := 124) rfl (hb hby at_120) (by decide) (by decide) ?_
    show Steps p.tables e below (T3.setTop (mkF m 124 #[.val (.long q1), .second, .val (.int p2), .val (.int (p2 &&& (3 : Int32))), .val (.long (q1 - ((q1 / (2199023255553 : Int64)) * (2199023255553 : Int64)))), .second, .val (.int (6 : Int32)), .unset] [(.int (1 : Int32))])) _
    exact retN X3 hx (t := .boolean) Bd.returns (by simp) (hb hby at_124) hr
  · show Q0 Z q1 p2 h0 n0 _ T3.heap _
    exact ⟨rfl, N3⟩
set_option maxRecDepth 65536 in
set_option maxHeartbeats 40000000 in
theorem rm0_f7 (l : Launch) (Z : State) (a0 : Array Value) (hw : ∀ d ∈ tables_1, d.before a0 Z = true) (ws : List Jvm.Cond) (q1 : Int64) (p2 : Int32) (h0 : Heap) (n0 : Nat) (Z0 : n0 ≤ h0.size) (hc6 : (p2 &&& (3 : Int32)) = (3 : Int32)) (hnz13 : ¬ ((2199023255553 : Int64) = (0 : Int64))) (hc65 : (0 : Int32) < (lcmpW (q1 - ((q1 / (2199023255553 : Int64)) * (2199023255553 : Int64))) (131072 : Int64))) (hc80 : (0 : Int32) < (lcmpW (q1 - ((q1 / (2199023255553 : Int64)) * (2199023255553 : Int64))) (33554432 : Int64))) (hc95 : (0 : Int32) < (lcmpW (q1 - ((q1 / (2199023255553 : Int64)) * (2199023255553 : Int64))) (8589934592 : Int64))) :
    MetFree l x (head1 (Jvm.Cond.code x code maxLocals ret :: ws) room_1) (fun a U => a = #[(.long q1), (.int p2)] ∧ Z.Warmed39 U.vm ∧ U.heap = h0) (fun _ _ _ _ _ => True) (fun _ U o U' => ∃ v L, o = .returned v ∧ Q0 Z q1 p2 h0 n0 v U'.heap L ∧ FrameEnd U o U' L room_1.cells room_1.slots) := by
  refine MetFree.of_bodySF (plainFor_of_name pn_0) hisR ?_
  intro p e s m args below meth c s₁ Bd hml0 hP hK
  obtain ⟨rfl, hZ, hh⟩ := hP
  have hx := Bd.exec
  have hby := Bd.bytes
  have hml : c.maxLocals = 8 := hml0
  have hown : s.vm.findClass "com/example/key_steward/keysteward/steward/TokenSerialsLengthPinLaw" = some m.cls := findClass_of_methodNamed Bd.named
  have hnm := (name_of_methodNamed Bd.named Bd.method).1
  have X0 : Stand p l e room_1 s m #[(.long q1), (.int p2)] below meth c s₁ [] 0 0 := Stand.of_body Bd
  have e0 : s₁.heap = h0 := by rw [← hh, Bd.state]; rfl
  have N0 := Fr.nil n0
  have hlo : 8589934592 < (q1 - ((q1 / (2199023255553 : Int64)) * (2199023255553 : Int64))).toInt := own_gt own_k6 hc95
  have hhi : (q1 - ((q1 / (2199023255553 : Int64)) * (2199023255553 : Int64))).toInt ≤ 2199023255552 := by have := own_r3 q1; omega
  have pre0 : ∀ t, Steps p.tables e below (s₁.setTop (mkF m 0 #[.val (.long q1), .second, .val (.int p2), .unset, .unset, .unset, .unset, .unset] [])) t → Steps p.tables e below (s₁.setTop (entryFrame m #[(.long q1), (.int p2)] maxLocals)) t := fun t k => castTop (ef_0 m q1 p2) k
  obtain ⟨_, _, ⟨T3, L3, k3, n3⟩, -, X3, ⟨Lc3, hQ3, l3, y3, z3⟩, st3⟩ := Jvm.LawKit.callS X0 hx (y := (⟨"com/example/key_steward/keysteward/steward/TokenSerials", "length", "(J)I"⟩ : MethodName)) hown (mvT hZ (hw _ (List.mem_of_getElem? (i := 4) rfl))) (mvT hZ (hw _ (List.mem_of_getElem? (i := 5) rfl))) (mvT hZ (hw _ (List.mem_of_getElem? (i := 6) rfl))) (mvT hZ (hw _ (List.mem_of_getElem? (i := 7) rfl))) (by decide) (backOf (W := 0) (rm1_7 l Z a0 hw [] (q1 - ((q1 / (2199023255553 : Int64)) * (2199023255553 : Int64))) h0 n0 Z0 hlo hhi) hZ (hw _ (List.mem_of_getElem? (i := 7) rfl)) (hw _ (List.mem_of_getElem? (i := 6) rfl)) (by decide) (by decide)) (g := (mkF m 111 #[.val (.long q1), .second, .val (.int p2), .val (.int (p2 &&& (3 : Int32))), .val (.long (q1 - ((q1 / (2199023255553 : Int64)) * (2199023255553 : Int64)))), .second, .val (.int (7 : Int32)), .unset] [(.long (q1 - ((q1 / (2199023255553 : Int64)) * (2199023255553 : Int64))))])) rfl (by rw [hml]; rfl) (argsL := [(.long (q1 - ((q1 / (2199023255553 : Int64)) * (2199023255553 : Int64))))]) (rest := []) (lenOf pd_0_0 rfl) rfl (by show 2 * 0 + _ ≤ _; exact Nat.le_of_eq rfl) (hb hby at_111) (fun _ _ => ⟨rfl, e0, (by decide : 0 + 0 ≤ _), (by decide : 0 + 0 ≤ _)⟩)
  dsimp only [Pt.U, Pt.locs, Pt.cells, Pt.slots] at X3 l3 y3 z3 st3 hQ3
  subst l3 y3 z3
  obtain ⟨rfl, N3q, Hc⟩ := hQ3
  have N3 := Fr.app N0 N3q
  obtain ⟨fs, hr, hrun, hended, hW, hsame⟩ := X3.leave (v := some (.int (1 : Int32))) (fun h => by rw [Bd.returns] at h; cases h)
  refine ⟨_, _, pre0 _ ?_, hrun, hended, _, _, rfl, ?_, ⟨_, rfl⟩, hW, hsame.mono (by decide) (by decide)⟩
  · show Steps p.tables e below (s₁.setTop (mkF m 0 #[.val (.long q1), .second, .val (.int p2), .unset, .unset, .unset, .unset, .unset] [])) _
    refine XS.iloadN X0.here hx rfl (hb hby at_0) rfl ?_
    show Steps p.tables e below (s₁.setTop (mkF m 1 #[.val (.long q1), .second, .val (.int p2), .unset, .unset, .unset, .unset, .unset] [(.int p2)])) _
    refine XS.iconst X0.here hx rfl (hb hby at_1) ?_
    show Steps p.tables e below (s₁.setTop (mkF m 2 #[.val (.long q1), .second, .val (.int p2), .unset, .unset, .unset, .unset, .unset] [(.int (3 : Int32)), (.int p2)])) _
    refine XS.iand X0.here hx rfl (hb hby at_2) rfl ?_
    show Steps p.tables e below (s₁.setTop (mkF m 3 #[.val (.long q1), .second, .val (.int p2), .unset, .unset, .unset, .unset, .unset] [(.int (p2 &&& (3 : Int32)))])) _
    refine XS.istoreN X0.here hx rfl (hb hby at_3) rfl (l' := #[.val (.long q1), .second, .val (.int p2), .val (.int (p2 &&& (3 : Int32))), .unset, .unset, .unset, .unset]) rfl ?_
    show Steps p.tables e below (s₁.setTop (mkF m 4 #[.val (.long q1), .second, .val (.int p2), .val (.int (p2 &&& (3 : Int32))), .unset, .unset, .unset, .unset] [])) _
    refine XS.iloadN X0.here hx rfl (hb hby at_4) rfl ?_
    show Steps p.tables e below (s₁.setTop (mkF m 5 #[.val (.long q1), .second, .val (.int p2), .val (.int (p2 &&& (3 : Int32))), .unset, .unset, .unset, .unset] [(.int (p2 &&& (3 : Int32)))])) _
    refine XS.iconst X0.here hx rfl (hb hby at_5) ?_
    show Steps p.tables e below (s₁.setTop (mkF m 6 #[.val (.long q1), .second, .val (.int p2), .val (.int (p2 &&& (3 : Int32))), .unset, .unset, .unset, .unset] [(.int (3 : Int32)), (.int (p2 &&& (3 : Int32)))])) _
    refine XS.icmpNo X0.here hx rfl (hb hby at_6) rfl (teq hc6).2 ?_
    show Steps p.tables e below (s₁.setTop (mkF m 9 #[.val (.long q1), .second, .val (.int p2), .val (.int (p2 &&& (3 : Int32))), .unset, .unset, .unset, .unset] [])) _
    refine XS.lloadN X0.here hx rfl (hb hby at_9) rfl ?_
    show Steps p.tables e below (s₁.setTop (mkF m 10 #[.val (.long q1), .second, .val (.int p2), .val (.int (p2 &&& (3 : Int32))), .unset, .unset, .unset, .unset] [(.long q1)])) _
    refine X0.ldc2Long hx hown (mvT hZ (hw _ (List.mem_of_getElem? (i := 13) rfl))) (g := (mkF m 10 #[.val (.long q1), .second, .val (.int p2), .val (.int (p2 &&& (3 : Int32))), .unset, .unset, .unset, .unset] [(.long q1)])) rfl (hb hby at_10) _ ?_
    show Steps p.tables e below (s₁.setTop (mkF m 13 #[.val (.long q1), .second, .val (.int p2), .val (.int (p2 &&& (3 : Int32))), .unset, .unset, .unset, .unset] [(.long (2199023255553 : Int64)), (.long q1)])) _
    refine XS.lrem X0.here hx rfl (hb hby at_13) rfl hnz13 ?_
    show Steps p.tables e below (s₁.setTop (mkF m 14 #[.val (.long q1), .second, .val (.int p2), .val (.int (p2 &&& (3 : Int32))), .unset, .unset, .unset, .unset] [(.long (q1 - ((q1 / (2199023255553 : Int64)) * (2199023255553 : Int64))))])) _
    refine XS.lstore X0.here hx rfl (hb hby at_14) rfl (l' := #[.val (.long q1), .second, .val (.int p2), .val (.int (p2 &&& (3 : Int32))), .val (.long (q1 - ((q1 / (2199023255553 : Int64)) * (2199023255553 : Int64)))), .second, .unset, .unset]) rfl ?_
    show Steps p.tables e below (s₁.setTop (mkF m 16 #[.val (.long q1), .second, .val (.int p2), .val (.int (p2 &&& (3 : Int32))), .val (.long (q1 - ((q1 / (2199023255553 : Int64)) * (2199023255553 : Int64)))), .second, .unset, .unset] [])) _
    refine XS.goto X0.here hx rfl (pc0 := 16) (pc' := 59) rfl (hb hby at_16) (by decide) (by decide) ?_
    show Steps p.tables e below (s₁.setTop (mkF m 59 #[.val (.long q1), .second, .val (.int p2), .val (.int (p2 &&& (3 : Int32))), .val (.long (q1 - ((q1 / (2199023255553 : Int64)) * (2199023255553 : Int64)))), .second, .unset, .unset] [])) _
    refine XS.lload X0.here hx rfl (hb hby at_59) rfl ?_
    show Steps p.tables e below (s₁.setTop (mkF m 61 #[.val (.long q1), .second, .val (.int p2), .val (.int (p2 &&& (3 : Int32))), .val (.long (q1 - ((q1 / (2199023255553 : Int64)) * (2199023255553 : Int64)))), .second, .unset, .unset] [(.long (q1 - ((q1 / (2199023255553 : Int64)) * (2199023255553 : Int64))))])) _
    refine X0.ldc2Long hx hown (mvT hZ (hw _ (List.mem_of_getElem? (i := 2) rfl))) (g := (mkF m 61 #[.val (.long q1), .second, .val (.int p2), .val (.int (p2 &&& (3 : Int32))), .val (.long (q1 - ((q1 / (2199023255553 : Int64)) * (2199023255553 : Int64)))), .second, .unset, .unset] [(.long (q1 - ((q1 / (2199023255553 : Int64)) * (2199023255553 : Int64))))])) rfl (hb hby at_61) _ ?_
    show Steps p.tables e below (s₁.setTop (mkF m 64 #[.val (.long q1), .second, .val (.int p2), .val (.int (p2 &&& (3 : Int32))), .val (.long (q1 - ((q1 / (2199023255553 : Int64)) * (2199023255553 : Int64)))), .second, .unset, .unset] [(.long (131072 : Int64)), (.long (q1 - ((q1 / (2199023255553 : Int64)) * (2199023255553 : Int64))))])) _
    refine XS.lcmp X0.here hx rfl (hb hby at_64) rfl ?_
    show Steps p.tables e below (s₁.setTop (mkF m 65 #[.val (.long q1), .second, .val (.int p2), .val (.int (p2 &&& (3 : Int32))), .val (.long (q1 - ((q1 / (2199023255553 : Int64)) * (2199023255553 : Int64)))), .second, .unset, .unset] [(.int (lcmpW (q1 - ((q1 / (2199023255553 : Int64)) * (2199023255553 : Int64))) (131072 : Int64)))])) _
    refine XS.ifYes X0.here hx rfl (pc0 := 65) (pc' := 74) rfl (hb hby at_65) rfl ((if0 _ _).trans (tlt hc65).2.2.1) (by decide) (by decide) ?_
    show Steps p.tables e below (s₁.setTop (mkF m 74 #[.val (.long q1), .second, .val (.int p2), .val (.int (p2 &&& (3 : Int32))), .val (.long (q1 - ((q1 / (2199023255553 : Int64)) * (2199023255553 : Int64)))), .second, .unset, .unset] [])) _
    refine XS.lload X0.here hx rfl (hb hby at_74) rfl ?_
    show Steps p.tables e below (s₁.setTop (mkF m 76 #[.val (.long q1), .second, .val (.int p2), .val (.int (p2 &&& (3 : Int32))), .val (.long (q1 - ((q1 / (2199023255553 : Int64)) * (2199023255553 : Int64)))), .second, .unset, .unset] [(.long (q1 - ((q1 / (2199023255553 : Int64)) * (2199023255553 : Int64))))])) _
    refine X0.ldc2Long hx hown (mvT hZ (hw _ (List.mem_of_getElem? (i := 3) rfl))) (g := (mkF m 76 #[.val (.long q1), .second, .val (.int p2), .val (.int (p2 &&& (3 : Int32))), .val (.long (q1 - ((q1 / (2199023255553 : Int64)) * (2199023255553 : Int64)))), .second, .unset, .unset] [(.long (q1 - ((q1 / (2199023255553 : Int64)) * (2199023255553 : Int64))))])) rfl (hb hby at_76) _ ?_
    show Steps p.tables e below (s₁.setTop (mkF m 79 #[.val (.long q1), .second, .val (.int p2), .val (.int (p2 &&& (3 : Int32))), .val (.long (q1 - ((q1 / (2199023255553 : Int64)) * (2199023255553 : Int64)))), .second, .unset, .unset] [(.long (33554432 : Int64)), (.long (q1 - ((q1 / (2199023255553 : Int64)) * (2199023255553 : Int64))))])) _
    refine XS.lcmp X0.here hx rfl (hb hby at_79) rfl ?_
    show Steps p.tables e below (s₁.setTop (mkF m 80 #[.val (.long q1), .second, .val (.int p2), .val (.int (p2 &&& (3 : Int32))), .val (.long (q1 - ((q1 / (2199023255553 : Int64)) * (2199023255553 : Int64)))), .second, .unset, .unset] [(.int (lcmpW (q1 - ((q1 / (2199023255553 : Int64)) * (2199023255553 : Int64))) (33554432 : Int64)))])) _
    refine XS.ifYes X0.here hx rfl (pc0 := 80) (pc' := 89) rfl (hb hby at_80) rfl ((if0 _ _).trans (tlt hc80).2.2.1) (by decide) (by decide) ?_
    show Steps p.tables e below (s₁.setTop (mkF m 89 #[.val (.long q1), .second, .val (.int p2), .val (.int (p2 &&& (3 : Int32))), .val (.long (q1 - ((q1 / (2199023255553 : Int64)) * (2199023255553 : Int64)))), .second, .unset, .unset] [])) _
    refine XS.lload X0.here hx rfl (hb hby at_89) rfl ?_
    show Steps p.tables e below (s₁.setTop (mkF m 91 #[.val (.long q1), .second, .val (.int p2), .val (.int (p2 &&& (3 : Int32))), .val (.long (q1 - ((q1 / (2199023255553 : Int64)) * (2199023255553 : Int64)))), .second, .unset, .unset] [(.long (q1 - ((q1 / (2199023255553 : Int64)) * (2199023255553 : Int64))))])) _
    refine X0.ldc2Long hx hown (mvT hZ (hw _ (List.mem_of_getElem? (i := 0) rfl))) (g := (mkF m 91 #[.val (.long q1), .second, .val (.int p2), .val (.int (p2 &&& (3 : Int32))), .val (.long (q1 - ((q1 / (2199023255553 : Int64)) * (2199023255553 : Int64)))), .second, .unset, .unset] [(.long (q1 - ((q1 / (2199023255553 : Int64)) * (2199023255553 : Int64))))])) rfl (hb hby at_91) _ ?_
    show Steps p.tables e below (s₁.setTop (mkF m 94 #[.val (.long q1), .second, .val (.int p2), .val (.int (p2 &&& (3 : Int32))), .val (.long (q1 - ((q1 / (2199023255553 : Int64)) * (2199023255553 : Int64)))), .second, .unset, .unset] [(.long (8589934592 : Int64)), (.long (q1 - ((q1 / (2199023255553 : Int64)) * (2199023255553 : Int64))))])) _
    refine XS.lcmp X0.here hx rfl (hb hby at_94) rfl ?_
    show Steps p.tables e below (s₁.setTop (mkF m 95 #[.val (.long q1), .second, .val (.int p2), .val (.int (p2 &&& (3 : Int32))), .val (.long (q1 - ((q1 / (2199023255553 : Int64)) * (2199023255553 : Int64)))), .second, .unset, .unset] [(.int (lcmpW (q1 - ((q1 / (2199023255553 : Int64)) * (2199023255553 : Int64))) (8589934592 : Int64)))])) _
    refine XS.ifYes X0.here hx rfl (pc0 := 95) (pc' := 105) rfl (hb hby at_95) rfl ((if0 _ _).trans (tlt hc95).2.2.1) (by decide) (by decide) ?_
    show Steps p.tables e below (s₁.setTop (mkF m 105 #[.val (.long q1), .second, .val (.int p2), .val (.int (p2 &&& (3 : Int32))), .val (.long (q1 - ((q1 / (2199023255553 : Int64)) * (2199023255553 : Int64)))), .second, .unset, .unset] [])) _
    refine XS.bipush X0.here hx rfl (hb hby at_105) ?_
    show Steps p.tables e below (s₁.setTop (mkF m 107 #[.val (.long q1), .second, .val (.int p2), .val (.int (p2 &&& (3 : Int32))), .val (.long (q1 - ((q1 / (2199023255553 : Int64)) * (2199023255553 : Int64)))), .second, .unset, .unset] [(.int (7 : Int32))])) _
    refine XS.istore X0.here hx rfl (hb hby at_107) rfl (l' := #[.val (.long q1), .second, .val (.int p2), .val (.int (p2 &&& (3 : Int32))), .val (.long (q1 - ((q1 / (2199023255553 : Int64)) * (2199023255553 : Int64)))), .second, .val (.int (7 : Int32)), .unset]) rfl ?_
    show Steps p.tables e below (s₁.setTop (mkF m 109 #[.val (.long q1), .second, .val (.int p2), .val (.int (p2 &&& (3 : Int32))), .val (.long (q1 - ((q1 / (2199023255553 : Int64)) * (2199023255553 : Int64)))), .second, .val (.int (7 : Int32)), .unset] [])) _
    refine XS.lload X0.here hx rfl (hb hby at_109) rfl ?_
    show Steps p.tables e below (s₁.setTop (mkF m 111 #[.val (.long q1), .second, .val (.int p2), .val (.int (p2 &&& (3 : Int32))), .val (.long (q1 - ((q1 / (2199023255553 : Int64)) * (2199023255553 : Int64)))), .second, .val (.int (7 : Int32)), .unset] [(.long (q1 - ((q1 / (2199023255553 : Int64)) * (2199023255553 : Int64))))])) _
    refine st3 _ ?_
    show Steps p.tables e below (T3.setTop (mkF m 114 #[.val (.long q1), .second, .val (.int p2), .val (.int (p2 &&& (3 : Int32))), .val (.long (q1 - ((q1 / (2199023255553 : Int64)) * (2199023255553 : Int64)))), .second, .val (.int (7 : Int32)), .unset] [(.int (7 : Int32))])) _
    refine XS.iload X3.here hx rfl (hb hby at_114) rfl ?_
    show Steps p.tables e below (T3.setTop (mkF m 116 #[.val (.long q1), .second, .val (.int p2), .val (.int (p2 &&& (3 : Int32))), .val (.long (q1 - ((q1 / (2199023255553 : Int64)) * (2199023255553 : Int64)))), .second, .val (.int (7 : Int32)), .unset] [(.int (7 : Int32)), (.int (7 : Int32))])) _
    refine XS.icmpNo X3.here hx rfl (hb hby at_116) rfl (teq (rfl : (7 : Int32) = (7 : Int32))).2 ?_
    show Steps p.tables e below (T3.setTop (mkF m 119 #[.val (.long q1), .second, .val (.int p2), .val (.int (p2 &&& (3 : Int32))), .val (.long (q1 - ((q1 / (2199023255553 : Int64)) * (2199023255553 : Int64)))), .second, .val (.int (7 : Int32)), .unset] [])) _
    refine XS.iconst X3.here hx rfl (hb hby at_119) ?_
    show Steps p.tables e below (T3.setTop (mkF m 120 #[.val (.long q1), .second, .val (.int p2), .val (.int (p2 &&& (3 : Int32))), .val (.long (q1 - ((q1 / (2199023255553 : Int64)) * (2199023255553 : Int64)))), .second, .val (.int (7 : Int32)), .unset] [(.int (1 : Int32))])) _
    refine XS.goto X3.here hx rfl (pc0 := 120) (pc' := 124) rfl (hb hby at_120) (by decide) (by decide) ?_
    show Steps p.tables e below (T3.setTop (mkF m 124 #[.val (.long q1), .second, .val (.int p2), .val (.int (p2 &&& (3 : Int32))), .val (.long (q1 - ((q1 / (2199023255553 : Int64)) * (2199023255553 : Int64)))), .second, .val (.int (7 : Int32)), .unset] [(.int (1 : Int32))])) _
    exact retN X3 hx (t := .boolean) Bd.returns (by simp) (hb hby at_124) hr
  · show Q0 Z q1 p2 h0 n0 _ T3.heap _
    exact ⟨rfl, N3⟩
set_option maxRecDepth 65536 in
set_option maxHeartbeats 40000000 in
theorem rm0_tf4 (l : Launch) (Z : State) (a0 : Array Value) (hw : ∀ d ∈ tables_1, d.before a0 Z = true) (ws : List Jvm.Cond) (q1 : Int64) (p2 : Int32) (h0 : Heap) (n0 : Nat) (Z0 : n0 ≤ h0.size) (hc6 : ¬ ((p2 &&& (3 : Int32)) = (3 : Int32))) (hc20 : (p2 &&& (3 : Int32)) = (0 : Int32)) (hnz55 : ¬ ((5 : Int64) = (0 : Int64))) (hc65 : ¬ ((0 : Int32) < (lcmpW ((131072 : Int64) + (q1 - ((q1 / (5 : Int64)) * (5 : Int64)))) (131072 : Int64)))) :
    MetFree l x (head1 (Jvm.Cond.code x code maxLocals ret :: ws) room_1) (fun a U => a = #[(.long q1), (.int p2)] ∧ Z.Warmed39 U.vm ∧ U.heap = h0) (fun _ _ _ _ _ => True) (fun _ U o U' => ∃ v L, o = .returned v ∧ Q0 Z q1 p2 h0 n0 v U'.heap L ∧ FrameEnd U o U' L room_1.cells room_1.slots) := by
  refine MetFree.of_bodySF (plainFor_of_name pn_0) hisR ?_
  intro p e s m args below meth c s₁ Bd hml0 hP hK
  obtain ⟨rfl, hZ, hh⟩ := hP
  have hx := Bd.exec
  have hby := Bd.bytes
  have hml : c.maxLocals = 8 := hml0
  have hown : s.vm.findClass "com/example/key_steward/keysteward/steward/TokenSerialsLengthPinLaw" = some m.cls := findClass_of_methodNamed Bd.named
  have hnm := (name_of_methodNamed Bd.named Bd.method).1
  have X0 : Stand p l e room_1 s m #[(.long q1), (.int p2)] below meth c s₁ [] 0 0 := Stand.of_body Bd
  have e0 : s₁.heap = h0 := by rw [← hh, Bd.state]; rfl
  have N0 := Fr.nil n0
  have hlo : -4398046511104 ≤ ((131072 : Int64) + (q1 - ((q1 / (5 : Int64)) * (5 : Int64)))).toInt := by have := own_b5 q1 own_k4 (by omega) (by omega); omega
  have hhi : ((131072 : Int64) + (q1 - ((q1 / (5 : Int64)) * (5 : Int64)))).toInt ≤ 131072 := own_le own_k4 hc65
  have pre0 : ∀ t, Steps p.tables e below (s₁.setTop (mkF m 0 #[.val (.long q1), .second, .val (.int p2), .unset, .unset, .unset, .unset, .unset] [])) t → Steps p.tables e below (s₁.setTop (entryFrame m #[(.long q1), (.int p2)] maxLocals)) t := fun t k => castTop (ef_0 m q1 p2) k
  obtain ⟨_, _, ⟨T3, L3, k3, n3⟩, -, X3, ⟨Lc3, hQ3, l3, y3, z3⟩, st3⟩ := Jvm.LawKit.callS X0 hx (y := (⟨"com/example/key_steward/keysteward/steward/TokenSerials", "length", "(J)I"⟩ : MethodName)) hown (mvT hZ (hw _ (List.mem_of_getElem? (i := 4) rfl))) (mvT hZ (hw _ (List.mem_of_getElem? (i := 5) rfl))) (mvT hZ (hw _ (List.mem_of_getElem? (i := 6) rfl))) (mvT hZ (hw _ (List.mem_of_getElem? (i := 7) rfl))) (by decide) (backOf (W := 0) (rm1_4 l Z a0 hw [] ((131072 : Int64) + (q1 - ((q1 / (5 : Int64)) * (5 : Int64)))) h0 n0 Z0 hlo hhi) hZ (hw _ (List.mem_of_getElem? (i := 7) rfl)) (hw _ (List.mem_of_getElem? (i := 6) rfl)) (by decide) (by decide)) (g := (mkF m 111 #[.val (.long q1), .second, .val (.int p2), .val (.int (p2 &&& (3 : Int32))), .val (.long ((131072 : Int64) + (q1 - ((q1 / (5 : Int64)) * (5 : Int64))))), .second, .val (.int (4 : Int32)), .unset] [(.long ((131072 : Int64) + (q1 - ((q1 / (5 : Int64)) * (5 : Int64)))))])) rfl (by rw [hml]; rfl) (argsL := [(.long ((131072 : Int64) + (q1 - ((q1 / (5 : Int64)) * (5 : Int64)))))]) (rest := []) (lenOf pd_0_0 rfl) rfl (by show 2 * 0 + _ ≤ _; exact Nat.le_of_eq rfl) (hb hby at_111) (fun _ _ => ⟨rfl, e0, (by decide : 0 + 0 ≤ _), (by decide : 0 + 0 ≤ _)⟩)
  dsimp only [Pt.U, Pt.locs, Pt.cells, Pt.slots] at X3 l3 y3 z3 st3 hQ3
  subst l3 y3 z3
  obtain ⟨rfl, N3q, Hc⟩ := hQ3
  have N3 := Fr.app N0 N3q
  obtain ⟨fs, hr, hrun, hended, hW, hsame⟩ := X3.leave (v := some (.int (1 : Int32))) (fun h => by rw [Bd.returns] at h; cases h)
  refine ⟨_, _, pre0 _ ?_, hrun, hended, _, _, rfl, ?_, ⟨_, rfl⟩, hW, hsame.mono (by decide) (by decide)⟩
  · show Steps p.tables e below (s₁.setTop (mkF m 0 #[.val (.long q1), .second, .val (.int p2), .unset, .unset, .unset, .unset, .unset] [])) _
    refine XS.iloadN X0.here hx rfl (hb hby at_0) rfl ?_
    show Steps p.tables e below (s₁.setTop (mkF m 1 #[.val (.long q1), .second, .val (.int p2), .unset, .unset, .unset, .unset, .unset] [(.int p2)])) _
    refine XS.iconst X0.here hx rfl (hb hby at_1) ?_
    show Steps p.tables e below (s₁.setTop (mkF m 2 #[.val (.long q1), .second, .val (.int p2), .unset, .unset, .unset, .unset, .unset] [(.int (3 : Int32)), (.int p2)])) _
    refine XS.iand X0.here hx rfl (hb hby at_2) rfl ?_
    show Steps p.tables e below (s₁.setTop (mkF m 3 #[.val (.long q1), .second, .val (.int p2), .unset, .unset, .unset, .unset, .unset] [(.int (p2 &&& (3 : Int32)))])) _
    refine XS.istoreN X0.here hx rfl (hb hby at_3) rfl (l' := #[.val (.long q1), .second, .val (.int p2), .val (.int (p2 &&& (3 : Int32))), .unset, .unset, .unset, .unset]) rfl ?_
    show Steps p.tables e below (s₁.setTop (mkF m 4 #[.val (.long q1), .second, .val (.int p2), .val (.int (p2 &&& (3 : Int32))), .unset, .unset, .unset, .unset] [])) _
    refine XS.iloadN X0.here hx rfl (hb hby at_4) rfl ?_
    show Steps p.tables e below (s₁.setTop (mkF m 5 #[.val (.long q1), .second, .val (.int p2), .val (.int (p2 &&& (3 : Int32))), .unset, .unset, .unset, .unset] [(.int (p2 &&& (3 : Int32)))])) _
    refine XS.iconst X0.here hx rfl (hb hby at_5) ?_
    show Steps p.tables e below (s₁.setTop (mkF m 6 #[.val (.long q1), .second, .val (.int p2), .val (.int (p2 &&& (3 : Int32))), .unset, .unset, .unset, .unset] [(.int (3 : Int32)), (.int (p2 &&& (3 : Int32)))])) _
    refine XS.icmpYes X0.here hx rfl (pc0 := 6) (pc' := 19) rfl (hb hby at_6) rfl (feq hc6).2 (by decide) (by decide) ?_
    show Steps p.tables e below (s₁.setTop (mkF m 19 #[.val (.long q1), .second, .val (.int p2), .val (.int (p2 &&& (3 : Int32))), .unset, .unset, .unset, .unset] [])) _
    refine XS.iloadN X0.here hx rfl (hb hby at_19) rfl ?_
    show Steps p.tables e below (s₁.setTop (mkF m 20 #[.val (.long q1), .second, .val (.int p2), .val (.int (p2 &&& (3 : Int32))), .unset, .unset, .unset, .unset] [(.int (p2 &&& (3 : Int32)))])) _
    refine XS.ifNo X0.here hx rfl (hb hby at_20) rfl ((if0 _ _).trans (teq hc20).2) ?_
    show Steps p.tables e below (s₁.setTop (mkF m 23 #[.val (.long q1), .second, .val (.int p2), .val (.int (p2 &&& (3 : Int32))), .unset, .unset, .unset, .unset] [])) _
    refine X0.ldc2Long hx hown (mvT hZ (hw _ (List.mem_of_getElem? (i := 2) rfl))) (g := (mkF m 23 #[.val (.long q1), .second, .val (.int p2), .val (.int (p2 &&& (3 : Int32))), .unset, .unset, .unset, .unset] [])) rfl (hb hby at_23) _ ?_
    show Steps p.tables e below (s₁.setTop (mkF m 26 #[.val (.long q1), .second, .val (.int p2), .val (.int (p2 &&& (3 : Int32))), .unset, .unset, .unset, .unset] [(.long (131072 : Int64))])) _
    refine XS.lstore X0.here hx rfl (hb hby at_26) rfl (l' := #[.val (.long q1), .second, .val (.int p2), .val (.int (p2 &&& (3 : Int32))), .unset, .unset, .val (.long (131072 : Int64)), .second]) rfl ?_
    show Steps p.tables e below (s₁.setTop (mkF m 28 #[.val (.long q1), .second, .val (.int p2), .val (.int (p2 &&& (3 : Int32))), .unset, .unset, .val (.long (131072 : Int64)), .second] [])) _
    refine XS.goto X0.here hx rfl (pc0 := 28) (pc' := 49) rfl (hb hby at_28) (by decide) (by decide) ?_
    show Steps p.tables e below (s₁.setTop (mkF m 49 #[.val (.long q1), .second, .val (.int p2), .val (.int (p2 &&& (3 : Int32))), .unset, .unset, .val (.long (131072 : Int64)), .second] [])) _
    refine XS.lload X0.here hx rfl (hb hby at_49) rfl ?_
    show Steps p.tables e below (s₁.setTop (mkF m 51 #[.val (.long q1), .second, .val (.int p2), .val (.int (p2 &&& (3 : Int32))), .unset, .unset, .val (.long (131072 : Int64)), .second] [(.long (131072 : Int64))])) _
    refine XS.lloadN X0.here hx rfl (hb hby at_51) rfl ?_
    show Steps p.tables e below (s₁.setTop (mkF m 52 #[.val (.long q1), .second, .val (.int p2), .val (.int (p2 &&& (3 : Int32))), .unset, .unset, .val (.long (131072 : Int64)), .second] [(.long q1), (.long (131072 : Int64))])) _
    refine X0.ldc2Long hx hown (mvT hZ (hw _ (List.mem_of_getElem? (i := 1) rfl))) (g := (mkF m 52 #[.val (.long q1), .second, .val (.int p2), .val (.int (p2 &&& (3 : Int32))), .unset, .unset, .val (.long (131072 : Int64)), .second] [(.long q1), (.long (131072 : Int64))])) rfl (hb hby at_52) _ ?_
    show Steps p.tables e below (s₁.setTop (mkF m 55 #[.val (.long q1), .second, .val (.int p2), .val (.int (p2 &&& (3 : Int32))), .unset, .unset, .val (.long (131072 : Int64)), .second] [(.long (5 : Int64)), (.long q1), (.long (131072 : Int64))])) _
    refine XS.lrem X0.here hx rfl (hb hby at_55) rfl hnz55 ?_
    show Steps p.tables e below (s₁.setTop (mkF m 56 #[.val (.long q1), .second, .val (.int p2), .val (.int (p2 &&& (3 : Int32))), .unset, .unset, .val (.long (131072 : Int64)), .second] [(.long (q1 - ((q1 / (5 : Int64)) * (5 : Int64)))), (.long (131072 : Int64))])) _
    refine XS.ladd X0.here hx rfl (hb hby at_56) rfl ?_
    show Steps p.tables e below (s₁.setTop (mkF m 57 #[.val (.long q1), .second, .val (.int p2), .val (.int (p2 &&& (3 : Int32))), .unset, .unset, .val (.long (131072 : Int64)), .second] [(.long ((131072 : Int64) + (q1 - ((q1 / (5 : Int64)) * (5 : Int64)))))])) _
    refine XS.lstore X0.here hx rfl (hb hby at_57) rfl (l' := #[.val (.long q1), .second, .val (.int p2), .val (.int (p2 &&& (3 : Int32))), .val (.long ((131072 : Int64) + (q1 - ((q1 / (5 : Int64)) * (5 : Int64))))), .second, .val (.long (131072 : Int64)), .second]) rfl ?_
    show Steps p.tables e below (s₁.setTop (mkF m 59 #[.val (.long q1), .second, .val (.int p2), .val (.int (p2 &&& (3 : Int32))), .val (.long ((131072 : Int64) + (q1 - ((q1 / (5 : Int64)) * (5 : Int64))))), .second, .val (.long (131072 : Int64)), .second] [])) _
    refine XS.lload X0.here hx rfl (hb hby at_59) rfl ?_
    show Steps p.tables e below (s₁.setTop (mkF m 61 #[.val (.long q1), .second, .val (.int p2), .val (.int (p2 &&& (3 : Int32))), .val (.long ((131072 : Int64) + (q1 - ((q1 / (5 : Int64)) * (5 : Int64))))), .second, .val (.long (131072 : Int64)), .second] [(.long ((131072 : Int64) + (q1 - ((q1 / (5 : Int64)) * (5 : Int64)))))])) _
    refine X0.ldc2Long hx hown (mvT hZ (hw _ (List.mem_of_getElem? (i := 2) rfl))) (g := (mkF m 61 #[.val (.long q1), .second, .val (.int p2), .val (.int (p2 &&& (3 : Int32))), .val (.long ((131072 : Int64) + (q1 - ((q1 / (5 : Int64)) * (5 : Int64))))), .second, .val (.long (131072 : Int64)), .second] [(.long ((131072 : Int64) + (q1 - ((q1 / (5 : Int64)) * (5 : Int64)))))])) rfl (hb hby at_61) _ ?_
    show Steps p.tables e below (s₁.setTop (mkF m 64 #[.val (.long q1), .second, .val (.int p2), .val (.int (p2 &&& (3 : Int32))), .val (.long ((131072 : Int64) + (q1 - ((q1 / (5 : Int64)) * (5 : Int64))))), .second, .val (.long (131072 : Int64)), .second] [(.long (131072 : Int64)), (.long ((131072 : Int64) + (q1 - ((q1 / (5 : Int64)) * (5 : Int64)))))])) _
    refine XS.lcmp X0.here hx rfl (hb hby at_64) rfl ?_
    show Steps p.tables e below (s₁.setTop (mkF m 65 #[.val (.long q1), .second, .val (.int p2), .val (.int (p2 &&& (3 : Int32))), .val (.long ((131072 : Int64) + (q1 - ((q1 / (5 : Int64)) * (5 : Int64))))), .second, .val (.long (131072 : Int64)), .second] [(.int (lcmpW ((131072 : Int64) + (q1 - ((q1 / (5 : Int64)) * (5 : Int64)))) (131072 : Int64)))])) _
    refine XS.ifNo X0.here hx rfl (hb hby at_65) rfl ((if0 _ _).trans (flt hc65).2.2.1) ?_
    show Steps p.tables e below (s₁.setTop (mkF m 68 #[.val (.long q1), .second, .val (.int p2), .val (.int (p2 &&& (3 : Int32))), .val (.long ((131072 : Int64) + (q1 - ((q1 / (5 : Int64)) * (5 : Int64))))), .second, .val (.long (131072 : Int64)), .second] [])) _
    refine XS.iconst X0.here hx rfl (hb hby at_68) ?_
    show Steps p.tables e below (s₁.setTop (mkF m 69 #[.val (.long q1), .second, .val (.int p2), .val (.int (p2 &&& (3 : Int32))), .val (.long ((131072 : Int64) + (q1 - ((q1 / (5 : Int64)) * (5 : Int64))))), .second, .val (.long (131072 : Int64)), .second] [(.int (4 : Int32))])) _
    refine XS.istore X0.here hx rfl (hb hby at_69) rfl (l' := #[.val (.long q1), .second, .val (.int p2), .val (.int (p2 &&& (3 : Int32))), .val (.long ((131072 : Int64) + (q1 - ((q1 / (5 : Int64)) * (5 : Int64))))), .second, .val (.int (4 : Int32)), .unset]) rfl ?_
    show Steps p.tables e below (s₁.setTop (mkF m 71 #[.val (.long q1), .second, .val (.int p2), .val (.int (p2 &&& (3 : Int32))), .val (.long ((131072 : Int64) + (q1 - ((q1 / (5 : Int64)) * (5 : Int64))))), .second, .val (.int (4 : Int32)), .unset] [])) _
    refine XS.goto X0.here hx rfl (pc0 := 71) (pc' := 109) rfl (hb hby at_71) (by decide) (by decide) ?_
    show Steps p.tables e below (s₁.setTop (mkF m 109 #[.val (.long q1), .second, .val (.int p2), .val (.int (p2 &&& (3 : Int32))), .val (.long ((131072 : Int64) + (q1 - ((q1 / (5 : Int64)) * (5 : Int64))))), .second, .val (.int (4 : Int32)), .unset] [])) _
    refine XS.lload X0.here hx rfl (hb hby at_109) rfl ?_
    show Steps p.tables e below (s₁.setTop (mkF m 111 #[.val (.long q1), .second, .val (.int p2), .val (.int (p2 &&& (3 : Int32))), .val (.long ((131072 : Int64) + (q1 - ((q1 / (5 : Int64)) * (5 : Int64))))), .second, .val (.int (4 : Int32)), .unset] [(.long ((131072 : Int64) + (q1 - ((q1 / (5 : Int64)) * (5 : Int64)))))])) _
    refine st3 _ ?_
    show Steps p.tables e below (T3.setTop (mkF m 114 #[.val (.long q1), .second, .val (.int p2), .val (.int (p2 &&& (3 : Int32))), .val (.long ((131072 : Int64) + (q1 - ((q1 / (5 : Int64)) * (5 : Int64))))), .second, .val (.int (4 : Int32)), .unset] [(.int (4 : Int32))])) _
    refine XS.iload X3.here hx rfl (hb hby at_114) rfl ?_
    show Steps p.tables e below (T3.setTop (mkF m 116 #[.val (.long q1), .second, .val (.int p2), .val (.int (p2 &&& (3 : Int32))), .val (.long ((131072 : Int64) + (q1 - ((q1 / (5 : Int64)) * (5 : Int64))))), .second, .val (.int (4 : Int32)), .unset] [(.int (4 : Int32)), (.int (4 : Int32))])) _
    refine XS.icmpNo X3.here hx rfl (hb hby at_116) rfl (teq (rfl : (4 : Int32) = (4 : Int32))).2 ?_
    show Steps p.tables e below (T3.setTop (mkF m 119 #[.val (.long q1), .second, .val (.int p2), .val (.int (p2 &&& (3 : Int32))), .val (.long ((131072 : Int64) + (q1 - ((q1 / (5 : Int64)) * (5 : Int64))))), .second, .val (.int (4 : Int32)), .unset] [])) _
    refine XS.iconst X3.here hx rfl (hb hby at_119) ?_
    show Steps p.tables e below (T3.setTop (mkF m 120 #[.val (.long q1), .second, .val (.int p2), .val (.int (p2 &&& (3 : Int32))), .val (.long ((131072 : Int64) + (q1 - ((q1 / (5 : Int64)) * (5 : Int64))))), .second, .val (.int (4 : Int32)), .unset] [(.int (1 : Int32))])) _
    refine XS.goto X3.here hx rfl (pc0 := 120) (pc' := 124) rfl (hb hby at_120) (by decide) (by decide) ?_
    show Steps p.tables e below (T3.setTop (mkF m 124 #[.val (.long q1), .second, .val (.int p2), .val (.int (p2 &&& (3 : Int32))), .val (.long ((131072 : Int64) + (q1 - ((q1 / (5 : Int64)) * (5 : Int64))))), .second, .val (.int (4 : Int32)), .unset] [(.int (1 : Int32))])) _
    exact retN X3 hx (t := .boolean) Bd.returns (by simp) (hb hby at_124) hr
  · show Q0 Z q1 p2 h0 n0 _ T3.heap _
    exact ⟨rfl, N3⟩
set_option maxRecDepth 65536 in
set_option maxHeartbeats 40000000 in
theorem rm0_tf5 (l : Launch) (Z : State) (a0 : Array Value) (hw : ∀ d ∈ tables_1, d.before a0 Z = true) (ws : List Jvm.Cond) (q1 : Int64) (p2 : Int32) (h0 : Heap) (n0 : Nat) (Z0 : n0 ≤ h0.size) (hc6 : ¬ ((p2 &&& (3 : Int32)) = (3 : Int32))) (hc20 : (p2 &&& (3 : Int32)) = (0 : Int32)) (hnz55 : ¬ ((5 : Int64) = (0 : Int64))) (hc65 : (0 : Int32) < (lcmpW ((131072 : Int64) + (q1 - ((q1 / (5 : Int64)) * (5 : Int64)))) (131072 : Int64))) (hc80 : ¬ ((0 : Int32) < (lcmpW ((131072 : Int64) + (q1 - ((q1 / (5 : Int64)) * (5 : Int64)))) (33554432 : Int64)))) :
    MetFree l x (head1 (Jvm.Cond.code x code maxLocals ret :: ws) room_1) (fun a U => a = #[(.long q1), (.int p2)] ∧ Z.Warmed39 U.vm ∧ U.heap = h0) (fun _ _ _ _ _ => True) (fun _ U o U' => ∃ v L, o = .returned v ∧ Q0 Z q1 p2 h0 n0 v U'.heap L ∧ FrameEnd U o U' L room_1.cells room_1.slots) := by
  refine MetFree.of_bodySF (plainFor_of_name pn_0) hisR ?_
  intro p e s m args below meth c s₁ Bd hml0 hP hK
  obtain ⟨rfl, hZ, hh⟩ := hP
  have hx := Bd.exec
  have hby := Bd.bytes
  have hml : c.maxLocals = 8 := hml0
  have hown : s.vm.findClass "com/example/key_steward/keysteward/steward/TokenSerialsLengthPinLaw" = some m.cls := findClass_of_methodNamed Bd.named
  have hnm := (name_of_methodNamed Bd.named Bd.method).1
  have X0 : Stand p l e room_1 s m #[(.long q1), (.int p2)] below meth c s₁ [] 0 0 := Stand.of_body Bd
  have e0 : s₁.heap = h0 := by rw [← hh, Bd.state]; rfl
  have N0 := Fr.nil n0
  have hlo : 131072 < ((131072 : Int64) + (q1 - ((q1 / (5 : Int64)) * (5 : Int64)))).toInt := own_gt own_k4 hc65
  have hhi : ((131072 : Int64) + (q1 - ((q1 / (5 : Int64)) * (5 : Int64)))).toInt ≤ 33554432 := own_le own_k5 hc80
  have pre0 : ∀ t, Steps p.tables e below (s₁.setTop (mkF m 0 #[.val (.long q1), .second, .val (.int p2), .unset, .unset, .unset, .unset, .unset] [])) t → Steps p.tables e below (s₁.setTop (entryFrame m #[(.long q1), (.int p2)] maxLocals)) t := fun t k => castTop (ef_0 m q1 p2) k
  obtain ⟨_, _, ⟨T3, L3, k3, n3⟩, -, X3, ⟨Lc3, hQ3, l3, y3, z3⟩, st3⟩ := Jvm.LawKit.callS X0 hx (y := (⟨"com/example/key_steward/keysteward/steward/TokenSerials", "length", "(J)I"⟩ : MethodName)) hown (mvT hZ (hw _ (List.mem_of_getElem? (i := 4) rfl))) (mvT hZ (hw _ (List.mem_of_getElem? (i := 5) rfl))) (mvT hZ (hw _ (List.mem_of_getElem? (i := 6) rfl))) (mvT hZ (hw _ (List.mem_of_getElem? (i := 7) rfl))) (by decide) (backOf (W := 0) (rm1_5 l Z a0 hw [] ((131072 : Int64) + (q1 - ((q1 / (5 : Int64)) * (5 : Int64)))) h0 n0 Z0 hlo hhi) hZ (hw _ (List.mem_of_getElem? (i := 7) rfl)) (hw _ (List.mem_of_getElem? (i := 6) rfl)) (by decide) (by decide)) (g := (mkF m 111 #[.val (.long q1), .second, .val (.int p2), .val (.int (p2 &&& (3 : Int32))), .val (.long ((131072 : Int64) + (q1 - ((q1 / (5 : Int64)) * (5 : Int64))))), .second, .val (.int (5 : Int32)), .unset] [(.long ((131072 : Int64) + (q1 - ((q1 / (5 : Int64)) * (5 : Int64)))))])) rfl (by rw [hml]; rfl) (argsL := [(.long ((131072 : Int64) + (q1 - ((q1 / (5 : Int64)) * (5 : Int64)))))]) (rest := []) (lenOf pd_0_0 rfl) rfl (by show 2 * 0 + _ ≤ _; exact Nat.le_of_eq rfl) (hb hby at_111) (fun _ _ => ⟨rfl, e0, (by decide : 0 + 0 ≤ _), (by decide : 0 + 0 ≤ _)⟩)
  dsimp only [Pt.U, Pt.locs, Pt.cells, Pt.slots] at X3 l3 y3 z3 st3 hQ3
  subst l3 y3 z3
  obtain ⟨rfl, N3q, Hc⟩ := hQ3
  have N3 := Fr.app N0 N3q
  obtain ⟨fs, hr, hrun, hended, hW, hsame⟩ := X3.leave (v := some (.int (1 : Int32))) (fun h => by rw [Bd.returns] at h; cases h)
  refine ⟨_, _, pre0 _ ?_, hrun, hended, _, _, rfl, ?_, ⟨_, rfl⟩, hW, hsame.mono (by decide) (by decide)⟩
  · show Steps p.tables e below (s₁.setTop (mkF m 0 #[.val (.long q1), .second, .val (.int p2), .unset, .unset, .unset, .unset, .unset] [])) _
    refine XS.iloadN X0.here hx rfl (hb hby at_0) rfl ?_
    show Steps p.tables e below (s₁.setTop (mkF m 1 #[.val (.long q1), .second, .val (.int p2), .unset, .unset, .unset, .unset, .unset] [(.int p2)])) _
    refine XS.iconst X0.here hx rfl (hb hby at_1) ?_
    show Steps p.tables e below (s₁.setTop (mkF m 2 #[.val (.long q1), .second, .val (.int p2), .unset, .unset, .unset, .unset, .unset] [(.int (3 : Int32)), (.int p2)])) _
    refine XS.iand X0.here hx rfl (hb hby at_2) rfl ?_
    show Steps p.tables e below (s₁.setTop (mkF m 3 #[.val (.long q1), .second, .val (.int p2), .unset, .unset, .unset, .unset, .unset] [(.int (p2 &&& (3 : Int32)))])) _
    refine XS.istoreN X0.here hx rfl (hb hby at_3) rfl (l' := #[.val (.long q1), .second, .val (.int p2), .val (.int (p2 &&& (3 : Int32))), .unset, .unset, .unset, .unset]) rfl ?_
    show Steps p.tables e below (s₁.setTop (mkF m 4 #[.val (.long q1), .second, .val (.int p2), .val (.int (p2 &&& (3 : Int32))), .unset, .unset, .unset, .unset] [])) _
    refine XS.iloadN X0.here hx rfl (hb hby at_4) rfl ?_
    show Steps p.tables e below (s₁.setTop (mkF m 5 #[.val (.long q1), .second, .val (.int p2), .val (.int (p2 &&& (3 : Int32))), .unset, .unset, .unset, .unset] [(.int (p2 &&& (3 : Int32)))])) _
    refine XS.iconst X0.here hx rfl (hb hby at_5) ?_
    show Steps p.tables e below (s₁.setTop (mkF m 6 #[.val (.long q1), .second, .val (.int p2), .val (.int (p2 &&& (3 : Int32))), .unset, .unset, .unset, .unset] [(.int (3 : Int32)), (.int (p2 &&& (3 : Int32)))])) _
    refine XS.icmpYes X0.here hx rfl (pc0 := 6) (pc' := 19) rfl (hb hby at_6) rfl (feq hc6).2 (by decide) (by decide) ?_
    show Steps p.tables e below (s₁.setTop (mkF m 19 #[.val (.long q1), .second, .val (.int p2), .val (.int (p2 &&& (3 : Int32))), .unset, .unset, .unset, .unset] [])) _
    refine XS.iloadN X0.here hx rfl (hb hby at_19) rfl ?_
    show Steps p.tables e below (s₁.setTop (mkF m 20 #[.val (.long q1), .second, .val (.int p2), .val (.int (p2 &&& (3 : Int32))), .unset, .unset, .unset, .unset] [(.int (p2 &&& (3 : Int32)))])) _
    refine XS.ifNo X0.here hx rfl (hb hby at_20) rfl ((if0 _ _).trans (teq hc20).2) ?_
    show Steps p.tables e below (s₁.setTop (mkF m 23 #[.val (.long q1), .second, .val (.int p2), .val (.int (p2 &&& (3 : Int32))), .unset, .unset, .unset, .unset] [])) _
    refine X0.ldc2Long hx hown (mvT hZ (hw _ (List.mem_of_getElem? (i := 2) rfl))) (g := (mkF m 23 #[.val (.long q1), .second, .val (.int p2), .val (.int (p2 &&& (3 : Int32))), .unset, .unset, .unset, .unset] [])) rfl (hb hby at_23) _ ?_
    show Steps p.tables e below (s₁.setTop (mkF m 26 #[.val (.long q1), .second, .val (.int p2), .val (.int (p2 &&& (3 : Int32))), .unset, .unset, .unset, .unset] [(.long (131072 : Int64))])) _
    refine XS.lstore X0.here hx rfl (hb hby at_26) rfl (l' := #[.val (.long q1), .second, .val (.int p2), .val (.int (p2 &&& (3 : Int32))), .unset, .unset, .val (.long (131072 : Int64)), .second]) rfl ?_
    show Steps p.tables e below (s₁.setTop (mkF m 28 #[.val (.long q1), .second, .val (.int p2), .val (.int (p2 &&& (3 : Int32))), .unset, .unset, .val (.long (131072 : Int64)), .second] [])) _
    refine XS.goto X0.here hx rfl (pc0 := 28) (pc' := 49) rfl (hb hby at_28) (by decide) (by decide) ?_
    show Steps p.tables e below (s₁.setTop (mkF m 49 #[.val (.long q1), .second, .val (.int p2), .val (.int (p2 &&& (3 : Int32))), .unset, .unset, .val (.long (131072 : Int64)), .second] [])) _
    refine XS.lload X0.here hx rfl (hb hby at_49) rfl ?_
    show Steps p.tables e below (s₁.setTop (mkF m 51 #[.val (.long q1), .second, .val (.int p2), .val (.int (p2 &&& (3 : Int32))), .unset, .unset, .val (.long (131072 : Int64)), .second] [(.long (131072 : Int64))])) _
    refine XS.lloadN X0.here hx rfl (hb hby at_51) rfl ?_
    show Steps p.tables e below (s₁.setTop (mkF m 52 #[.val (.long q1), .second, .val (.int p2), .val (.int (p2 &&& (3 : Int32))), .unset, .unset, .val (.long (131072 : Int64)), .second] [(.long q1), (.long (131072 : Int64))])) _
    refine X0.ldc2Long hx hown (mvT hZ (hw _ (List.mem_of_getElem? (i := 1) rfl))) (g := (mkF m 52 #[.val (.long q1), .second, .val (.int p2), .val (.int (p2 &&& (3 : Int32))), .unset, .unset, .val (.long (131072 : Int64)), .second] [(.long q1), (.long (131072 : Int64))])) rfl (hb hby at_52) _ ?_
    show Steps p.tables e below (s₁.setTop (mkF m 55 #[.val (.long q1), .second, .val (.int p2), .val (.int (p2 &&& (3 : Int32))), .unset, .unset, .val (.long (131072 : Int64)), .second] [(.long (5 : Int64)), (.long q1), (.long (131072 : Int64))])) _
    refine XS.lrem X0.here hx rfl (hb hby at_55) rfl hnz55 ?_
    show Steps p.tables e below (s₁.setTop (mkF m 56 #[.val (.long q1), .second, .val (.int p2), .val (.int (p2 &&& (3 : Int32))), .unset, .unset, .val (.long (131072 : Int64)), .second] [(.long (q1 - ((q1 / (5 : Int64)) * (5 : Int64)))), (.long (131072 : Int64))])) _
    refine XS.ladd X0.here hx rfl (hb hby at_56) rfl ?_
    show Steps p.tables e below (s₁.setTop (mkF m 57 #[.val (.long q1), .second, .val (.int p2), .val (.int (p2 &&& (3 : Int32))), .unset, .unset, .val (.long (131072 : Int64)), .second] [(.long ((131072 : Int64) + (q1 - ((q1 / (5 : Int64)) * (5 : Int64)))))])) _
    refine XS.lstore X0.here hx rfl (hb hby at_57) rfl (l' := #[.val (.long q1), .second, .val (.int p2), .val (.int (p2 &&& (3 : Int32))), .val (.long ((131072 : Int64) + (q1 - ((q1 / (5 : Int64)) * (5 : Int64))))), .second, .val (.long (131072 : Int64)), .second]) rfl ?_
    show Steps p.tables e below (s₁.setTop (mkF m 59 #[.val (.long q1), .second, .val (.int p2), .val (.int (p2 &&& (3 : Int32))), .val (.long ((131072 : Int64) + (q1 - ((q1 / (5 : Int64)) * (5 : Int64))))), .second, .val (.long (131072 : Int64)), .second] [])) _
    refine XS.lload X0.here hx rfl (hb hby at_59) rfl ?_
    show Steps p.tables e below (s₁.setTop (mkF m 61 #[.val (.long q1), .second, .val (.int p2), .val (.int (p2 &&& (3 : Int32))), .val (.long ((131072 : Int64) + (q1 - ((q1 / (5 : Int64)) * (5 : Int64))))), .second, .val (.long (131072 : Int64)), .second] [(.long ((131072 : Int64) + (q1 - ((q1 / (5 : Int64)) * (5 : Int64)))))])) _
    refine X0.ldc2Long hx hown (mvT hZ (hw _ (List.mem_of_getElem? (i := 2) rfl))) (g := (mkF m 61 #[.val (.long q1), .second, .val (.int p2), .val (.int (p2 &&& (3 : Int32))), .val (.long ((131072 : Int64) + (q1 - ((q1 / (5 : Int64)) * (5 : Int64))))), .second, .val (.long (131072 : Int64)), .second] [(.long ((131072 : Int64) + (q1 - ((q1 / (5 : Int64)) * (5 : Int64)))))])) rfl (hb hby at_61) _ ?_
    show Steps p.tables e below (s₁.setTop (mkF m 64 #[.val (.long q1), .second, .val (.int p2), .val (.int (p2 &&& (3 : Int32))), .val (.long ((131072 : Int64) + (q1 - ((q1 / (5 : Int64)) * (5 : Int64))))), .second, .val (.long (131072 : Int64)), .second] [(.long (131072 : Int64)), (.long ((131072 : Int64) + (q1 - ((q1 / (5 : Int64)) * (5 : Int64)))))])) _
    refine XS.lcmp X0.here hx rfl (hb hby at_64) rfl ?_
    show Steps p.tables e below (s₁.setTop (mkF m 65 #[.val (.long q1), .second, .val (.int p2), .val (.int (p2 &&& (3 : Int32))), .val (.long ((131072 : Int64) + (q1 - ((q1 / (5 : Int64)) * (5 : Int64))))), .second, .val (.long (131072 : Int64)), .second] [(.int (lcmpW ((131072 : Int64) + (q1 - ((q1 / (5 : Int64)) * (5 : Int64)))) (131072 : Int64)))])) _
    refine XS.ifYes X0.here hx rfl (pc0 := 65) (pc' := 74) rfl (hb hby at_65) rfl ((if0 _ _).trans (tlt hc65).2.2.1) (by decide) (by decide) ?_
    show Steps p.tables e below (s₁.setTop (mkF m 74 #[.val (.long q1), .second, .val (.int p2), .val (.int (p2 &&& (3 : Int32))), .val (.long ((131072 : Int64) + (q1 - ((q1 / (5 : Int64)) * (5 : Int64))))), .second, .val (.long (131072 : Int64)), .second] [])) _
    refine XS.lload X0.here hx rfl (hb hby at_74) rfl ?_
    show Steps p.tables e below (s₁.setTop (mkF m 76 #[.val (.long q1), .second, .val (.int p2), .val (.int (p2 &&& (3 : Int32))), .val (.long ((131072 : Int64) + (q1 - ((q1 / (5 : Int64)) * (5 : Int64))))), .second, .val (.long (131072 : Int64)), .second] [(.long ((131072 : Int64) + (q1 - ((q1 / (5 : Int64)) * (5 : Int64)))))])) _
    refine X0.ldc2Long hx hown (mvT hZ (hw _ (List.mem_of_getElem? (i := 3) rfl))) (g := (mkF m 76 #[.val (.long q1), .second, .val (.int p2), .val (.int (p2 &&& (3 : Int32))), .val (.long ((131072 : Int64) + (q1 - ((q1 / (5 : Int64)) * (5 : Int64))))), .second, .val (.long (131072 : Int64)), .second] [(.long ((131072 : Int64) + (q1 - ((q1 / (5 : Int64)) * (5 : Int64)))))])) rfl (hb hby at_76) _ ?_
    show Steps p.tables e below (s₁.setTop (mkF m 79 #[.val (.long q1), .second, .val (.int p2), .val (.int (p2 &&& (3 : Int32))), .val (.long ((131072 : Int64) + (q1 - ((q1 / (5 : Int64)) * (5 : Int64))))), .second, .val (.long (131072 : Int64)), .second] [(.long (33554432 : Int64)), (.long ((131072 : Int64) + (q1 - ((q1 / (5 : Int64)) * (5 : Int64)))))])) _
    refine XS.lcmp X0.here hx rfl (hb hby at_79) rfl ?_
    show Steps p.tables e below (s₁.setTop (mkF m 80 #[.val (.long q1), .second, .val (.int p2), .val (.int (p2 &&& (3 : Int32))), .val (.long ((131072 : Int64) + (q1 - ((q1 / (5 : Int64)) * (5 : Int64))))), .second, .val (.long (131072 : Int64)), .second] [(.int (lcmpW ((131072 : Int64) + (q1 - ((q1 / (5 : Int64)) * (5 : Int64)))) (33554432 : Int64)))])) _
    refine XS.ifNo X0.here hx rfl (hb hby at_80) rfl ((if0 _ _).trans (flt hc80).2.2.1) ?_
    show Steps p.tables e below (s₁.setTop (mkF m 83 #[.val (.long q1), .second, .val (.int p2), .val (.int (p2 &&& (3 : Int32))), .val (.long ((131072 : Int64) + (q1 - ((q1 / (5 : Int64)) * (5 : Int64))))), .second, .val (.long (131072 : Int64)), .second] [])) _
    refine XS.iconst X0.here hx rfl (hb hby at_83) ?_
    show Steps p.tables e below (s₁.setTop (mkF m 84 #[.val (.long q1), .second, .val (.int p2), .val (.int (p2 &&& (3 : Int32))), .val (.long ((131072 : Int64) + (q1 - ((q1 / (5 : Int64)) * (5 : Int64))))), .second, .val (.long (131072 : Int64)), .second] [(.int (5 : Int32))])) _
    refine XS.istore X0.here hx rfl (hb hby at_84) rfl (l' := #[.val (.long q1), .second, .val (.int p2), .val (.int (p2 &&& (3 : Int32))), .val (.long ((131072 : Int64) + (q1 - ((q1 / (5 : Int64)) * (5 : Int64))))), .second, .val (.int (5 : Int32)), .unset]) rfl ?_
    show Steps p.tables e below (s₁.setTop (mkF m 86 #[.val (.long q1), .second, .val (.int p2), .val (.int (p2 &&& (3 : Int32))), .val (.long ((131072 : Int64) + (q1 - ((q1 / (5 : Int64)) * (5 : Int64))))), .second, .val (.int (5 : Int32)), .unset] [])) _
    refine XS.goto X0.here hx rfl (pc0 := 86) (pc' := 109) rfl (hb hby at_86) (by decide) (by decide) ?_
    show Steps p.tables e below (s₁.setTop (mkF m 109 #[.val (.long q1), .second, .val (.int p2), .val (.int (p2 &&& (3 : Int32))), .val (.long ((131072 : Int64) + (q1 - ((q1 / (5 : Int64)) * (5 : Int64))))), .second, .val (.int (5 : Int32)), .unset] [])) _
    refine XS.lload X0.here hx rfl (hb hby at_109) rfl ?_
    show Steps p.tables e below (s₁.setTop (mkF m 111 #[.val (.long q1), .second, .val (.int p2), .val (.int (p2 &&& (3 : Int32))), .val (.long ((131072 : Int64) + (q1 - ((q1 / (5 : Int64)) * (5 : Int64))))), .second, .val (.int (5 : Int32)), .unset] [(.long ((131072 : Int64) + (q1 - ((q1 / (5 : Int64)) * (5 : Int64)))))])) _
    refine st3 _ ?_
    show Steps p.tables e below (T3.setTop (mkF m 114 #[.val (.long q1), .second, .val (.int p2), .val (.int (p2 &&& (3 : Int32))), .val (.long ((131072 : Int64) + (q1 - ((q1 / (5 : Int64)) * (5 : Int64))))), .second, .val (.int (5 : Int32)), .unset] [(.int (5 : Int32))])) _
    refine XS.iload X3.here hx rfl (hb hby at_114) rfl ?_
    show Steps p.tables e below (T3.setTop (mkF m 116 #[.val (.long q1), .second, .val (.int p2), .val (.int (p2 &&& (3 : Int32))), .val (.long ((131072 : Int64) + (q1 - ((q1 / (5 : Int64)) * (5 : Int64))))), .second, .val (.int (5 : Int32)), .unset] [(.int (5 : Int32)), (.int (5 : Int32))])) _
    refine XS.icmpNo X3.here hx rfl (hb hby at_116) rfl (teq (rfl : (5 : Int32) = (5 : Int32))).2 ?_
    show Steps p.tables e below (T3.setTop (mkF m 119 #[.val (.long q1), .second, .val (.int p2), .val (.int (p2 &&& (3 : Int32))), .val (.long ((131072 : Int64) + (q1 - ((q1 / (5 : Int64)) * (5 : Int64))))), .second, .val (.int (5 : Int32)), .unset] [])) _
    refine XS.iconst X3.here hx rfl (hb hby at_119) ?_
    show Steps p.tables e below (T3.setTop (mkF m 120 #[.val (.long q1), .second, .val (.int p2), .val (.int (p2 &&& (3 : Int32))), .val (.long ((131072 : Int64) + (q1 - ((q1 / (5 : Int64)) * (5 : Int64))))), .second, .val (.int (5 : Int32)), .unset] [(.int (1 : Int32))])) _
    refine XS.goto X3.here hx rfl (pc0 := 120) (pc' := 124) rfl (hb hby at_120) (by decide) (by decide) ?_
    show Steps p.tables e below (T3.setTop (mkF m 124 #[.val (.long q1), .second, .val (.int p2), .val (.int (p2 &&& (3 : Int32))), .val (.long ((131072 : Int64) + (q1 - ((q1 / (5 : Int64)) * (5 : Int64))))), .second, .val (.int (5 : Int32)), .unset] [(.int (1 : Int32))])) _
    exact retN X3 hx (t := .boolean) Bd.returns (by simp) (hb hby at_124) hr
  · show Q0 Z q1 p2 h0 n0 _ T3.heap _
    exact ⟨rfl, N3⟩
set_option maxRecDepth 65536 in
set_option maxHeartbeats 40000000 in
theorem rm0_ttf5 (l : Launch) (Z : State) (a0 : Array Value) (hw : ∀ d ∈ tables_1, d.before a0 Z = true) (ws : List Jvm.Cond) (q1 : Int64) (p2 : Int32) (h0 : Heap) (n0 : Nat) (Z0 : n0 ≤ h0.size) (hc6 : ¬ ((p2 &&& (3 : Int32)) = (3 : Int32))) (hc20 : ¬ ((p2 &&& (3 : Int32)) = (0 : Int32))) (hc33 : (p2 &&& (3 : Int32)) = (1 : Int32)) (hnz55 : ¬ ((5 : Int64) = (0 : Int64))) (hc65 : (0 : Int32) < (lcmpW ((33554432 : Int64) + (q1 - ((q1 / (5 : Int64)) * (5 : Int64)))) (131072 : Int64))) (hc80 : ¬ ((0 : Int32) < (lcmpW ((33554432 : Int64) + (q1 - ((q1 / (5 : Int64)) * (5 : Int64)))) (33554432 : Int64)))) :
    MetFree l x (head1 (Jvm.Cond.code x code maxLocals ret :: ws) room_1) (fun a U => a = #[(.long q1), (.int p2)] ∧ Z.Warmed39 U.vm ∧ U.heap = h0) (fun _ _ _ _ _ => True) (fun _ U o U' => ∃ v L, o = .returned v ∧ Q0 Z q1 p2 h0 n0 v U'.heap L ∧ FrameEnd U o U' L room_1.cells room_1.slots) := by
  refine MetFree.of_bodySF (plainFor_of_name pn_0) hisR ?_
  intro p e s m args below meth c s₁ Bd hml0 hP hK
  obtain ⟨rfl, hZ, hh⟩ := hP
  have hx := Bd.exec
  have hby := Bd.bytes
  have hml : c.maxLocals = 8 := hml0
  have hown : s.vm.findClass "com/example/key_steward/keysteward/steward/TokenSerialsLengthPinLaw" = some m.cls := findClass_of_methodNamed Bd.named
  have hnm := (name_of_methodNamed Bd.named Bd.method).1
  have X0 : Stand p l e room_1 s m #[(.long q1), (.int p2)] below meth c s₁ [] 0 0 := Stand.of_body Bd
  have e0 : s₁.heap = h0 := by rw [← hh, Bd.state]; rfl
  have N0 := Fr.nil n0
  have hlo : 131072 < ((33554432 : Int64) + (q1 - ((q1 / (5 : Int64)) * (5 : Int64)))).toInt := own_gt own_k4 hc65
  have hhi : ((33554432 : Int64) + (q1 - ((q1 / (5 : Int64)) * (5 : Int64)))).toInt ≤ 33554432 := own_le own_k5 hc80
  have pre0 : ∀ t, Steps p.tables e below (s₁.setTop (mkF m 0 #[.val (.long q1), .second, .val (.int p2), .unset, .unset, .unset, .unset, .unset] [])) t → Steps p.tables e below (s₁.setTop (entryFrame m #[(.long q1), (.int p2)] maxLocals)) t := fun t k => castTop (ef_0 m q1 p2) k
  obtain ⟨_, _, ⟨T3, L3, k3, n3⟩, -, X3, ⟨Lc3, hQ3, l3, y3, z3⟩, st3⟩ := Jvm.LawKit.callS X0 hx (y := (⟨"com/example/key_steward/keysteward/steward/TokenSerials", "length", "(J)I"⟩ : MethodName)) hown (mvT hZ (hw _ (List.mem_of_getElem? (i := 4) rfl))) (mvT hZ (hw _ (List.mem_of_getElem? (i := 5) rfl))) (mvT hZ (hw _ (List.mem_of_getElem? (i := 6) rfl))) (mvT hZ (hw _ (List.mem_of_getElem? (i := 7) rfl))) (by decide) (backOf (W := 0) (rm1_5 l Z a0 hw [] ((33554432 : Int64) + (q1 - ((q1 / (5 : Int64)) * (5 : Int64)))) h0 n0 Z0 hlo hhi) hZ (hw _ (List.mem_of_getElem? (i := 7) rfl)) (hw _ (List.mem_of_getElem? (i := 6) rfl)) (by decide) (by decide)) (g := (mkF m 111 #[.val (.long q1), .second, .val (.int p2), .val (.int (p2 &&& (3 : Int32))), .val (.long ((33554432 : Int64) + (q1 - ((q1 / (5 : Int64)) * (5 : Int64))))), .second, .val (.int (5 : Int32)), .unset] [(.long ((33554432 : Int64) + (q1 - ((q1 / (5 : Int64)) * (5 : Int64)))))])) rfl (by rw [hml]; rfl) (argsL := [(.long ((33554432 : Int64) + (q1 - ((q1 / (5 : Int64)) * (5 : Int64)))))]) (rest := []) (lenOf pd_0_0 rfl) rfl (by show 2 * 0 + _ ≤ _; exact Nat.le_of_eq rfl) (hb hby at_111) (fun _ _ => ⟨rfl, e0, (by decide : 0 + 0 ≤ _), (by decide : 0 + 0 ≤ _)⟩)
  dsimp only [Pt.U, Pt.locs, Pt.cells, Pt.slots] at X3 l3 y3 z3 st3 hQ3
  subst l3 y3 z3
  obtain ⟨rfl, N3q, Hc⟩ := hQ3
  have N3 := Fr.app N0 N3q
  obtain ⟨fs, hr, hrun, hended, hW, hsame⟩ := X3.leave (v := some (.int (1 : Int32))) (fun h => by rw [Bd.returns] at h; cases h)
  refine ⟨_, _, pre0 _ ?_, hrun, hended, _, _, rfl, ?_, ⟨_, rfl⟩, hW, hsame.mono (by decide) (by decide)⟩
  · show Steps p.tables e below (s₁.setTop (mkF m 0 #[.val (.long q1), .second, .val (.int p2), .unset, .unset, .unset, .unset, .unset] [])) _
    refine XS.iloadN X0.here hx rfl (hb hby at_0) rfl ?_
    show Steps p.tables e below (s₁.setTop (mkF m 1 #[.val (.long q1), .second, .val (.int p2), .unset, .unset, .unset, .unset, .unset] [(.int p2)])) _
    refine XS.iconst X0.here hx rfl (hb hby at_1) ?_
    show Steps p.tables e below (s₁.setTop (mkF m 2 #[.val (.long q1), .second, .val (.int p2), .unset, .unset, .unset, .unset, .unset] [(.int (3 : Int32)), (.int p2)])) _
    refine XS.iand X0.here hx rfl (hb hby at_2) rfl ?_
    show Steps p.tables e below (s₁.setTop (mkF m 3 #[.val (.long q1), .second, .val (.int p2), .unset, .unset, .unset, .unset, .unset] [(.int (p2 &&& (3 : Int32)))])) _
    refine XS.istoreN X0.here hx rfl (hb hby at_3) rfl (l' := #[.val (.long q1), .second, .val (.int p2), .val (.int (p2 &&& (3 : Int32))), .unset, .unset, .unset, .unset]) rfl ?_
    show Steps p.tables e below (s₁.setTop (mkF m 4 #[.val (.long q1), .second, .val (.int p2), .val (.int (p2 &&& (3 : Int32))), .unset, .unset, .unset, .unset] [])) _
    refine XS.iloadN X0.here hx rfl (hb hby at_4) rfl ?_
    show Steps p.tables e below (s₁.setTop (mkF m 5 #[.val (.long q1), .second, .val (.int p2), .val (.int (p2 &&& (3 : Int32))), .unset, .unset, .unset, .unset] [(.int (p2 &&& (3 : Int32)))])) _
    refine XS.iconst X0.here hx rfl (hb hby at_5) ?_
    show Steps p.tables e below (s₁.setTop (mkF m 6 #[.val (.long q1), .second, .val (.int p2), .val (.int (p2 &&& (3 : Int32))), .unset, .unset, .unset, .unset] [(.int (3 : Int32)), (.int (p2 &&& (3 : Int32)))])) _
    refine XS.icmpYes X0.here hx rfl (pc0 := 6) (pc' := 19) rfl (hb hby at_6) rfl (feq hc6).2 (by decide) (by decide) ?_
    show Steps p.tables e below (s₁.setTop (mkF m 19 #[.val (.long q1), .second, .val (.int p2), .val (.int (p2 &&& (3 : Int32))), .unset, .unset, .unset, .unset] [])) _
    refine XS.iloadN X0.here hx rfl (hb hby at_19) rfl ?_
    show Steps p.tables e below (s₁.setTop (mkF m 20 #[.val (.long q1), .second, .val (.int p2), .val (.int (p2 &&& (3 : Int32))), .unset, .unset, .unset, .unset] [(.int (p2 &&& (3 : Int32)))])) _
    refine XS.ifYes X0.here hx rfl (pc0 := 20) (pc' := 31) rfl (hb hby at_20) rfl ((if0 _ _).trans (feq hc20).2) (by decide) (by decide) ?_
    show Steps p.tables e below (s₁.setTop (mkF m 31 #[.val (.long q1), .second, .val (.int p2), .val (.int (p2 &&& (3 : Int32))), .unset, .unset, .unset, .unset] [])) _
    refine XS.iloadN X0.here hx rfl (hb hby at_31) rfl ?_
    show Steps p.tables e below (s₁.setTop (mkF m 32 #[.val (.long q1), .second, .val (.int p2), .val (.int (p2 &&& (3 : Int32))), .unset, .unset, .unset, .unset] [(.int (p2 &&& (3 : Int32)))])) _
    refine XS.iconst X0.here hx rfl (hb hby at_32) ?_
    show Steps p.tables e below (s₁.setTop (mkF m 33 #[.val (.long q1), .second, .val (.int p2), .val (.int (p2 &&& (3 : Int32))), .unset, .unset, .unset, .unset] [(.int (1 : Int32)), (.int (p2 &&& (3 : Int32)))])) _
    refine XS.icmpNo X0.here hx rfl (hb hby at_33) rfl (teq hc33).2 ?_
    show Steps p.tables e below (s₁.setTop (mkF m 36 #[.val (.long q1), .second, .val (.int p2), .val (.int (p2 &&& (3 : Int32))), .unset, .unset, .unset, .unset] [])) _
    refine X0.ldc2Long hx hown (mvT hZ (hw _ (List.mem_of_getElem? (i := 3) rfl))) (g := (mkF m 36 #[.val (.long q1), .second, .val (.int p2), .val (.int (p2 &&& (3 : Int32))), .unset, .unset, .unset, .unset] [])) rfl (hb hby at_36) _ ?_
    show Steps p.tables e below (s₁.setTop (mkF m 39 #[.val (.long q1), .second, .val (.int p2), .val (.int (p2 &&& (3 : Int32))), .unset, .unset, .unset, .unset] [(.long (33554432 : Int64))])) _
    refine XS.lstore X0.here hx rfl (hb hby at_39) rfl (l' := #[.val (.long q1), .second, .val (.int p2), .val (.int (p2 &&& (3 : Int32))), .unset, .unset, .val (.long (33554432 : Int64)), .second]) rfl ?_
    show Steps p.tables e below (s₁.setTop (mkF m 41 #[.val (.long q1), .second, .val (.int p2), .val (.int (p2 &&& (3 : Int32))), .unset, .unset, .val (.long (33554432 : Int64)), .second] [])) _
    refine XS.goto X0.here hx rfl (pc0 := 41) (pc' := 49) rfl (hb hby at_41) (by decide) (by decide) ?_
    show Steps p.tables e below (s₁.setTop (mkF m 49 #[.val (.long q1), .second, .val (.int p2), .val (.int (p2 &&& (3 : Int32))), .unset, .unset, .val (.long (33554432 : Int64)), .second] [])) _
    refine XS.lload X0.here hx rfl (hb hby at_49) rfl ?_
    show Steps p.tables e below (s₁.setTop (mkF m 51 #[.val (.long q1), .second, .val (.int p2), .val (.int (p2 &&& (3 : Int32))), .unset, .unset, .val (.long (33554432 : Int64)), .second] [(.long (33554432 : Int64))])) _
    refine XS.lloadN X0.here hx rfl (hb hby at_51) rfl ?_
    show Steps p.tables e below (s₁.setTop (mkF m 52 #[.val (.long q1), .second, .val (.int p2), .val (.int (p2 &&& (3 : Int32))), .unset, .unset, .val (.long (33554432 : Int64)), .second] [(.long q1), (.long (33554432 : Int64))])) _
    refine X0.ldc2Long hx hown (mvT hZ (hw _ (List.mem_of_getElem? (i := 1) rfl))) (g := (mkF m 52 #[.val (.long q1), .second, .val (.int p2), .val (.int (p2 &&& (3 : Int32))), .unset, .unset, .val (.long (33554432 : Int64)), .second] [(.long q1), (.long (33554432 : Int64))])) rfl (hb hby at_52) _ ?_
    show Steps p.tables e below (s₁.setTop (mkF m 55 #[.val (.long q1), .second, .val (.int p2), .val (.int (p2 &&& (3 : Int32))), .unset, .unset, .val (.long (33554432 : Int64)), .second] [(.long (5 : Int64)), (.long q1), (.long (33554432 : Int64))])) _
    refine XS.lrem X0.here hx rfl (hb hby at_55) rfl hnz55 ?_
    show Steps p.tables e below (s₁.setTop (mkF m 56 #[.val (.long q1), .second, .val (.int p2), .val (.int (p2 &&& (3 : Int32))), .unset, .unset, .val (.long (33554432 : Int64)), .second] [(.long (q1 - ((q1 / (5 : Int64)) * (5 : Int64)))), (.long (33554432 : Int64))])) _
    refine XS.ladd X0.here hx rfl (hb hby at_56) rfl ?_
    show Steps p.tables e below (s₁.setTop (mkF m 57 #[.val (.long q1), .second, .val (.int p2), .val (.int (p2 &&& (3 : Int32))), .unset, .unset, .val (.long (33554432 : Int64)), .second] [(.long ((33554432 : Int64) + (q1 - ((q1 / (5 : Int64)) * (5 : Int64)))))])) _
    refine XS.lstore X0.here hx rfl (hb hby at_57) rfl (l' := #[.val (.long q1), .second, .val (.int p2), .val (.int (p2 &&& (3 : Int32))), .val (.long ((33554432 : Int64) + (q1 - ((q1 / (5 : Int64)) * (5 : Int64))))), .second, .val (.long (33554432 : Int64)), .second]) rfl ?_
    show Steps p.tables e below (s₁.setTop (mkF m 59 #[.val (.long q1), .second, .val (.int p2), .val (.int (p2 &&& (3 : Int32))), .val (.long ((33554432 : Int64) + (q1 - ((q1 / (5 : Int64)) * (5 : Int64))))), .second, .val (.long (33554432 : Int64)), .second] [])) _
    refine XS.lload X0.here hx rfl (hb hby at_59) rfl ?_
    show Steps p.tables e below (s₁.setTop (mkF m 61 #[.val (.long q1), .second, .val (.int p2), .val (.int (p2 &&& (3 : Int32))), .val (.long ((33554432 : Int64) + (q1 - ((q1 / (5 : Int64)) * (5 : Int64))))), .second, .val (.long (33554432 : Int64)), .second] [(.long ((33554432 : Int64) + (q1 - ((q1 / (5 : Int64)) * (5 : Int64)))))])) _
    refine X0.ldc2Long hx hown (mvT hZ (hw _ (List.mem_of_getElem? (i := 2) rfl))) (g := (mkF m 61 #[.val (.long q1), .second, .val (.int p2), .val (.int (p2 &&& (3 : Int32))), .val (.long ((33554432 : Int64) + (q1 - ((q1 / (5 : Int64)) * (5 : Int64))))), .second, .val (.long (33554432 : Int64)), .second] [(.long ((33554432 : Int64) + (q1 - ((q1 / (5 : Int64)) * (5 : Int64)))))])) rfl (hb hby at_61) _ ?_
    show Steps p.tables e below (s₁.setTop (mkF m 64 #[.val (.long q1), .second, .val (.int p2), .val (.int (p2 &&& (3 : Int32))), .val (.long ((33554432 : Int64) + (q1 - ((q1 / (5 : Int64)) * (5 : Int64))))), .second, .val (.long (33554432 : Int64)), .second] [(.long (131072 : Int64)), (.long ((33554432 : Int64) + (q1 - ((q1 / (5 : Int64)) * (5 : Int64)))))])) _
    refine XS.lcmp X0.here hx rfl (hb hby at_64) rfl ?_
    show Steps p.tables e below (s₁.setTop (mkF m 65 #[.val (.long q1), .second, .val (.int p2), .val (.int (p2 &&& (3 : Int32))), .val (.long ((33554432 : Int64) + (q1 - ((q1 / (5 : Int64)) * (5 : Int64))))), .second, .val (.long (33554432 : Int64)), .second] [(.int (lcmpW ((33554432 : Int64) + (q1 - ((q1 / (5 : Int64)) * (5 : Int64)))) (131072 : Int64)))])) _
    refine XS.ifYes X0.here hx rfl (pc0 := 65) (pc' := 74) rfl (hb hby at_65) rfl ((if0 _ _).trans (tlt hc65).2.2.1) (by decide) (by decide) ?_
    show Steps p.tables e below (s₁.setTop (mkF m 74 #[.val (.long q1), .second, .val (.int p2), .val (.int (p2 &&& (3 : Int32))), .val (.long ((33554432 : Int64) + (q1 - ((q1 / (5 : Int64)) * (5 : Int64))))), .second, .val (.long (33554432 : Int64)), .second] [])) _
    refine XS.lload X0.here hx rfl (hb hby at_74) rfl ?_
    show Steps p.tables e below (s₁.setTop (mkF m 76 #[.val (.long q1), .second, .val (.int p2), .val (.int (p2 &&& (3 : Int32))), .val (.long ((33554432 : Int64) + (q1 - ((q1 / (5 : Int64)) * (5 : Int64))))), .second, .val (.long (33554432 : Int64)), .second] [(.long ((33554432 : Int64) + (q1 - ((q1 / (5 : Int64)) * (5 : Int64)))))])) _
    refine X0.ldc2Long hx hown (mvT hZ (hw _ (List.mem_of_getElem? (i := 3) rfl))) (g := (mkF m 76 #[.val (.long q1), .second, .val (.int p2), .val (.int (p2 &&& (3 : Int32))), .val (.long ((33554432 : Int64) + (q1 - ((q1 / (5 : Int64)) * (5 : Int64))))), .second, .val (.long (33554432 : Int64)), .second] [(.long ((33554432 : Int64) + (q1 - ((q1 / (5 : Int64)) * (5 : Int64)))))])) rfl (hb hby at_76) _ ?_
    show Steps p.tables e below (s₁.setTop (mkF m 79 #[.val (.long q1), .second, .val (.int p2), .val (.int (p2 &&& (3 : Int32))), .val (.long ((33554432 : Int64) + (q1 - ((q1 / (5 : Int64)) * (5 : Int64))))), .second, .val (.long (33554432 : Int64)), .second] [(.long (33554432 : Int64)), (.long ((33554432 : Int64) + (q1 - ((q1 / (5 : Int64)) * (5 : Int64)))))])) _
    refine XS.lcmp X0.here hx rfl (hb hby at_79) rfl ?_
    show Steps p.tables e below (s₁.setTop (mkF m 80 #[.val (.long q1), .second, .val (.int p2), .val (.int (p2 &&& (3 : Int32))), .val (.long ((33554432 : Int64) + (q1 - ((q1 / (5 : Int64)) * (5 : Int64))))), .second, .val (.long (33554432 : Int64)), .second] [(.int (lcmpW ((33554432 : Int64) + (q1 - ((q1 / (5 : Int64)) * (5 : Int64)))) (33554432 : Int64)))])) _
    refine XS.ifNo X0.here hx rfl (hb hby at_80) rfl ((if0 _ _).trans (flt hc80).2.2.1) ?_
    show Steps p.tables e below (s₁.setTop (mkF m 83 #[.val (.long q1), .second, .val (.int p2), .val (.int (p2 &&& (3 : Int32))), .val (.long ((33554432 : Int64) + (q1 - ((q1 / (5 : Int64)) * (5 : Int64))))), .second, .val (.long (33554432 : Int64)), .second] [])) _
    refine XS.iconst X0.here hx rfl (hb hby at_83) ?_
    show Steps p.tables e below (s₁.setTop (mkF m 84 #[.val (.long q1), .second, .val (.int p2), .val (.int (p2 &&& (3 : Int32))), .val (.long ((33554432 : Int64) + (q1 - ((q1 / (5 : Int64)) * (5 : Int64))))), .second, .val (.long (33554432 : Int64)), .second] [(.int (5 : Int32))])) _
    refine XS.istore X0.here hx rfl (hb hby at_84) rfl (l' := #[.val (.long q1), .second, .val (.int p2), .val (.int (p2 &&& (3 : Int32))), .val (.long ((33554432 : Int64) + (q1 - ((q1 / (5 : Int64)) * (5 : Int64))))), .second, .val (.int (5 : Int32)), .unset]) rfl ?_
    show Steps p.tables e below (s₁.setTop (mkF m 86 #[.val (.long q1), .second, .val (.int p2), .val (.int (p2 &&& (3 : Int32))), .val (.long ((33554432 : Int64) + (q1 - ((q1 / (5 : Int64)) * (5 : Int64))))), .second, .val (.int (5 : Int32)), .unset] [])) _
    refine XS.goto X0.here hx rfl (pc0 := 86) (pc' := 109) rfl (hb hby at_86) (by decide) (by decide) ?_
    show Steps p.tables e below (s₁.setTop (mkF m 109 #[.val (.long q1), .second, .val (.int p2), .val (.int (p2 &&& (3 : Int32))), .val (.long ((33554432 : Int64) + (q1 - ((q1 / (5 : Int64)) * (5 : Int64))))), .second, .val (.int (5 : Int32)), .unset] [])) _
    refine XS.lload X0.here hx rfl (hb hby at_109) rfl ?_
    show Steps p.tables e below (s₁.setTop (mkF m 111 #[.val (.long q1), .second, .val (.int p2), .val (.int (p2 &&& (3 : Int32))), .val (.long ((33554432 : Int64) + (q1 - ((q1 / (5 : Int64)) * (5 : Int64))))), .second, .val (.int (5 : Int32)), .unset] [(.long ((33554432 : Int64) + (q1 - ((q1 / (5 : Int64)) * (5 : Int64)))))])) _
    refine st3 _ ?_
    show Steps p.tables e below (T3.setTop (mkF m 114 #[.val (.long q1), .second, .val (.int p2), .val (.int (p2 &&& (3 : Int32))), .val (.long ((33554432 : Int64) + (q1 - ((q1 / (5 : Int64)) * (5 : Int64))))), .second, .val (.int (5 : Int32)), .unset] [(.int (5 : Int32))])) _
    refine XS.iload X3.here hx rfl (hb hby at_114) rfl ?_
    show Steps p.tables e below (T3.setTop (mkF m 116 #[.val (.long q1), .second, .val (.int p2), .val (.int (p2 &&& (3 : Int32))), .val (.long ((33554432 : Int64) + (q1 - ((q1 / (5 : Int64)) * (5 : Int64))))), .second, .val (.int (5 : Int32)), .unset] [(.int (5 : Int32)), (.int (5 : Int32))])) _
    refine XS.icmpNo X3.here hx rfl (hb hby at_116) rfl (teq (rfl : (5 : Int32) = (5 : Int32))).2 ?_
    show Steps p.tables e below (T3.setTop (mkF m 119 #[.val (.long q1), .second, .val (.int p2), .val (.int (p2 &&& (3 : Int32))), .val (.long ((33554432 : Int64) + (q1 - ((q1 / (5 : Int64)) * (5 : Int64))))), .second, .val (.int (5 : Int32)), .unset] [])) _
    refine XS.iconst X3.here hx rfl (hb hby at_119) ?_
    show Steps p.tables e below (T3.setTop (mkF m 120 #[.val (.long q1), .second, .val (.int p2), .val (.int (p2 &&& (3 : Int32))), .val (.long ((33554432 : Int64) + (q1 - ((q1 / (5 : Int64)) * (5 : Int64))))), .second, .val (.int (5 : Int32)), .unset] [(.int (1 : Int32))])) _
    refine XS.goto X3.here hx rfl (pc0 := 120) (pc' := 124) rfl (hb hby at_120) (by decide) (by decide) ?_
    show Steps p.tables e below (T3.setTop (mkF m 124 #[.val (.long q1), .second, .val (.int p2), .val (.int (p2 &&& (3 : Int32))), .val (.long ((33554432 : Int64) + (q1 - ((q1 / (5 : Int64)) * (5 : Int64))))), .second, .val (.int (5 : Int32)), .unset] [(.int (1 : Int32))])) _
    exact retN X3 hx (t := .boolean) Bd.returns (by simp) (hb hby at_124) hr
  · show Q0 Z q1 p2 h0 n0 _ T3.heap _
    exact ⟨rfl, N3⟩
set_option maxRecDepth 65536 in
set_option maxHeartbeats 40000000 in
theorem rm0_ttf6 (l : Launch) (Z : State) (a0 : Array Value) (hw : ∀ d ∈ tables_1, d.before a0 Z = true) (ws : List Jvm.Cond) (q1 : Int64) (p2 : Int32) (h0 : Heap) (n0 : Nat) (Z0 : n0 ≤ h0.size) (hc6 : ¬ ((p2 &&& (3 : Int32)) = (3 : Int32))) (hc20 : ¬ ((p2 &&& (3 : Int32)) = (0 : Int32))) (hc33 : (p2 &&& (3 : Int32)) = (1 : Int32)) (hnz55 : ¬ ((5 : Int64) = (0 : Int64))) (hc65 : (0 : Int32) < (lcmpW ((33554432 : Int64) + (q1 - ((q1 / (5 : Int64)) * (5 : Int64)))) (131072 : Int64))) (hc80 : (0 : Int32) < (lcmpW ((33554432 : Int64) + (q1 - ((q1 / (5 : Int64)) * (5 : Int64)))) (33554432 : Int64))) (hc95 : ¬ ((0 : Int32) < (lcmpW ((33554432 : Int64) + (q1 - ((q1 / (5 : Int64)) * (5 : Int64)))) (8589934592 : Int64)))) :
    MetFree l x (head1 (Jvm.Cond.code x code maxLocals ret :: ws) room_1) (fun a U => a = #[(.long q1), (.int p2)] ∧ Z.Warmed39 U.vm ∧ U.heap = h0) (fun _ _ _ _ _ => True) (fun _ U o U' => ∃ v L, o = .returned v ∧ Q0 Z q1 p2 h0 n0 v U'.heap L ∧ FrameEnd U o U' L room_1.cells room_1.slots) := by
  refine MetFree.of_bodySF (plainFor_of_name pn_0) hisR ?_
  intro p e s m args below meth c s₁ Bd hml0 hP hK
  obtain ⟨rfl, hZ, hh⟩ := hP
  have hx := Bd.exec
  have hby := Bd.bytes
  have hml : c.maxLocals = 8 := hml0
  have hown : s.vm.findClass "com/example/key_steward/keysteward/steward/TokenSerialsLengthPinLaw" = some m.cls := findClass_of_methodNamed Bd.named
  have hnm := (name_of_methodNamed Bd.named Bd.method).1
  have X0 : Stand p l e room_1 s m #[(.long q1), (.int p2)] below meth c s₁ [] 0 0 := Stand.of_body Bd
  have e0 : s₁.heap = h0 := by rw [← hh, Bd.state]; rfl
  have N0 := Fr.nil n0
  have hlo : 33554432 < ((33554432 : Int64) + (q1 - ((q1 / (5 : Int64)) * (5 : Int64)))).toInt := own_gt own_k5 hc80
  have hhi : ((33554432 : Int64) + (q1 - ((q1 / (5 : Int64)) * (5 : Int64)))).toInt ≤ 8589934592 := own_le own_k6 hc95
  have pre0 : ∀ t, Steps p.tables e below (s₁.setTop (mkF m 0 #[.val (.long q1), .second, .val (.int p2), .unset, .unset, .unset, .unset, .unset] [])) t → Steps p.tables e below (s₁.setTop (entryFrame m #[(.long q1), (.int p2)] maxLocals)) t := fun t k => castTop (ef_0 m q1 p2) k
  obtain ⟨_, _, ⟨T3, L3, k3, n3⟩, -, X3, ⟨Lc3, hQ3, l3, y3, z3⟩, st3⟩ := Jvm.LawKit.callS X0 hx (y := (⟨"com/example/key_steward/keysteward/steward/TokenSerials", "length", "(J)I"⟩ : MethodName)) hown (mvT hZ (hw _ (List.mem_of_getElem? (i := 4) rfl))) (mvT hZ (hw _ (List.mem_of_getElem? (i := 5) rfl))) (mvT hZ (hw _ (List.mem_of_getElem? (i := 6) rfl))) (mvT hZ (hw _ (List.mem_of_getElem? (i := 7) rfl))) (by decide) (backOf (W := 0) (rm1_6 l Z a0 hw [] ((33554432 : Int64) + (q1 - ((q1 / (5 : Int64)) * (5 : Int64)))) h0 n0 Z0 hlo hhi) hZ (hw _ (List.mem_of_getElem? (i := 7) rfl)) (hw _ (List.mem_of_getElem? (i := 6) rfl)) (by decide) (by decide)) (g := (mkF m 111 #[.val (.long q1), .second, .val (.int p2), .val (.int (p2 &&& (3 : Int32))), .val (.long ((33554432 : Int64) + (q1 - ((q1 / (5 : Int64)) * (5 : Int64))))), .second, .val (.int (6 : Int32)), .unset] [(.long ((33554432 : Int64) + (q1 - ((q1 / (5 : Int64)) * (5 : Int64)))))])) rfl (by rw [hml]; rfl) (argsL := [(.long ((33554432 : Int64) + (q1 - ((q1 / (5 : Int64)) * (5 : Int64)))))]) (rest := []) (lenOf pd_0_0 rfl) rfl (by show 2 * 0 + _ ≤ _; exact Nat.le_of_eq rfl) (hb hby at_111) (fun _ _ => ⟨rfl, e0, (by decide : 0 + 0 ≤ _), (by decide : 0 + 0 ≤ _)⟩)
  dsimp only [Pt.U, Pt.locs, Pt.cells, Pt.slots] at X3 l3 y3 z3 st3 hQ3
  subst l3 y3 z3
  obtain ⟨rfl, N3q, Hc⟩ := hQ3
  have N3 := Fr.app N0 N3q
  obtain ⟨fs, hr, hrun, hended, hW, hsame⟩ := X3.leave (v := some (.int (1 : Int32))) (fun h => by rw [Bd.returns] at h; cases h)
  refine ⟨_, _, pre0 _ ?_, hrun, hended, _, _, rfl, ?_, ⟨_, rfl⟩, hW, hsame.mono (by decide) (by decide)⟩
  · show Steps p.tables e below (s₁.setTop (mkF m 0 #[.val (.long q1), .second, .val (.int p2), .unset, .unset, .unset, .unset, .unset] [])) _
    refine XS.iloadN X0.here hx rfl (hb hby at_0) rfl ?_
    show Steps p.tables e below (s₁.setTop (mkF m 1 #[.val (.long q1), .second, .val (.int p2), .unset, .unset, .unset, .unset, .unset] [(.int p2)])) _
    refine XS.iconst X0.here hx rfl (hb hby at_1) ?_
    show Steps p.tables e below (s₁.setTop (mkF m 2 #[.val (.long q1), .second, .val (.int p2), .unset, .unset, .unset, .unset, .unset] [(.int (3 : Int32)), (.int p2)])) _
    refine XS.iand X0.here hx rfl (hb hby at_2) rfl ?_
    show Steps p.tables e below (s₁.setTop (mkF m 3 #[.val (.long q1), .second, .val (.int p2), .unset, .unset, .unset, .unset, .unset] [(.int (p2 &&& (3 : Int32)))])) _
    refine XS.istoreN X0.here hx rfl (hb hby at_3) rfl (l' := #[.val (.long q1), .second, .val (.int p2), .val (.int (p2 &&& (3 : Int32))), .unset, .unset, .unset, .unset]) rfl ?_
    show Steps p.tables e below (s₁.setTop (mkF m 4 #[.val (.long q1), .second, .val (.int p2), .val (.int (p2 &&& (3 : Int32))), .unset, .unset, .unset, .unset] [])) _
    refine XS.iloadN X0.here hx rfl (hb hby at_4) rfl ?_
    show Steps p.tables e below (s₁.setTop (mkF m 5 #[.val (.long q1), .second, .val (.int p2), .val (.int (p2 &&& (3 : Int32))), .unset, .unset, .unset, .unset] [(.int (p2 &&& (3 : Int32)))])) _
    refine XS.iconst X0.here hx rfl (hb hby at_5) ?_
    show Steps p.tables e below (s₁.setTop (mkF m 6 #[.val (.long q1), .second, .val (.int p2), .val (.int (p2 &&& (3 : Int32))), .unset, .unset, .unset, .unset] [(.int (3 : Int32)), (.int (p2 &&& (3 : Int32)))])) _
    refine XS.icmpYes X0.here hx rfl (pc0 := 6) (pc' := 19) rfl (hb hby at_6) rfl (feq hc6).2 (by decide) (by decide) ?_
    show Steps p.tables e below (s₁.setTop (mkF m 19 #[.val (.long q1), .second, .val (.int p2), .val (.int (p2 &&& (3 : Int32))), .unset, .unset, .unset, .unset] [])) _
    refine XS.iloadN X0.here hx rfl (hb hby at_19) rfl ?_
    show Steps p.tables e below (s₁.setTop (mkF m 20 #[.val (.long q1), .second, .val (.int p2), .val (.int (p2 &&& (3 : Int32))), .unset, .unset, .unset, .unset] [(.int (p2 &&& (3 : Int32)))])) _
    refine XS.ifYes X0.here hx rfl (pc0 := 20) (pc' := 31) rfl (hb hby at_20) rfl ((if0 _ _).trans (feq hc20).2) (by decide) (by decide) ?_
    show Steps p.tables e below (s₁.setTop (mkF m 31 #[.val (.long q1), .second, .val (.int p2), .val (.int (p2 &&& (3 : Int32))), .unset, .unset, .unset, .unset] [])) _
    refine XS.iloadN X0.here hx rfl (hb hby at_31) rfl ?_
    show Steps p.tables e below (s₁.setTop (mkF m 32 #[.val (.long q1), .second, .val (.int p2), .val (.int (p2 &&& (3 : Int32))), .unset, .unset, .unset, .unset] [(.int (p2 &&& (3 : Int32)))])) _
    refine XS.iconst X0.here hx rfl (hb hby at_32) ?_
    show Steps p.tables e below (s₁.setTop (mkF m 33 #[.val (.long q1), .second, .val (.int p2), .val (.int (p2 &&& (3 : Int32))), .unset, .unset, .unset, .unset] [(.int (1 : Int32)), (.int (p2 &&& (3 : Int32)))])) _
    refine XS.icmpNo X0.here hx rfl (hb hby at_33) rfl (teq hc33).2 ?_
    show Steps p.tables e below (s₁.setTop (mkF m 36 #[.val (.long q1), .second, .val (.int p2), .val (.int (p2 &&& (3 : Int32))), .unset, .unset, .unset, .unset] [])) _
    refine X0.ldc2Long hx hown (mvT hZ (hw _ (List.mem_of_getElem? (i := 3) rfl))) (g := (mkF m 36 #[.val (.long q1), .second, .val (.int p2), .val (.int (p2 &&& (3 : Int32))), .unset, .unset, .unset, .unset] [])) rfl (hb hby at_36) _ ?_
    show Steps p.tables e below (s₁.setTop (mkF m 39 #[.val (.long q1), .second, .val (.int p2), .val (.int (p2 &&& (3 : Int32))), .unset, .unset, .unset, .unset] [(.long (33554432 : Int64))])) _
    refine XS.lstore X0.here hx rfl (hb hby at_39) rfl (l' := #[.val (.long q1), .second, .val (.int p2), .val (.int (p2 &&& (3 : Int32))), .unset, .unset, .val (.long (33554432 : Int64)), .second]) rfl ?_
    show Steps p.tables e below (s₁.setTop (mkF m 41 #[.val (.long q1), .second, .val (.int p2), .val (.int (p2 &&& (3 : Int32))), .unset, .unset, .val (.long (33554432 : Int64)), .second] [])) _
    refine XS.goto X0.here hx rfl (pc0 := 41) (pc' := 49) rfl (hb hby at_41) (by decide) (by decide) ?_
    show Steps p.tables e below (s₁.setTop (mkF m 49 #[.val (.long q1), .second, .val (.int p2), .val (.int (p2 &&& (3 : Int32))), .unset, .unset, .val (.long (33554432 : Int64)), .second] [])) _
    refine XS.lload X0.here hx rfl (hb hby at_49) rfl ?_
    show Steps p.tables e below (s₁.setTop (mkF m 51 #[.val (.long q1), .second, .val (.int p2), .val (.int (p2 &&& (3 : Int32))), .unset, .unset, .val (.long (33554432 : Int64)), .second] [(.long (33554432 : Int64))])) _
    refine XS.lloadN X0.here hx rfl (hb hby at_51) rfl ?_
    show Steps p.tables e below (s₁.setTop (mkF m 52 #[.val (.long q1), .second, .val (.int p2), .val (.int (p2 &&& (3 : Int32))), .unset, .unset, .val (.long (33554432 : Int64)), .second] [(.long q1), (.long (33554432 : Int64))])) _
    refine X0.ldc2Long hx hown (mvT hZ (hw _ (List.mem_of_getElem? (i := 1) rfl))) (g := (mkF m 52 #[.val (.long q1), .second, .val (.int p2), .val (.int (p2 &&& (3 : Int32))), .unset, .unset, .val (.long (33554432 : Int64)), .second] [(.long q1), (.long (33554432 : Int64))])) rfl (hb hby at_52) _ ?_
    show Steps p.tables e below (s₁.setTop (mkF m 55 #[.val (.long q1), .second, .val (.int p2), .val (.int (p2 &&& (3 : Int32))), .unset, .unset, .val (.long (33554432 : Int64)), .second] [(.long (5 : Int64)), (.long q1), (.long (33554432 : Int64))])) _
    refine XS.lrem X0.here hx rfl (hb hby at_55) rfl hnz55 ?_
    show Steps p.tables e below (s₁.setTop (mkF m 56 #[.val (.long q1), .second, .val (.int p2), .val (.int (p2 &&& (3 : Int32))), .unset, .unset, .val (.long (33554432 : Int64)), .second] [(.long (q1 - ((q1 / (5 : Int64)) * (5 : Int64)))), (.long (33554432 : Int64))])) _
    refine XS.ladd X0.here hx rfl (hb hby at_56) rfl ?_
    show Steps p.tables e below (s₁.setTop (mkF m 57 #[.val (.long q1), .second, .val (.int p2), .val (.int (p2 &&& (3 : Int32))), .unset, .unset, .val (.long (33554432 : Int64)), .second] [(.long ((33554432 : Int64) + (q1 - ((q1 / (5 : Int64)) * (5 : Int64)))))])) _
    refine XS.lstore X0.here hx rfl (hb hby at_57) rfl (l' := #[.val (.long q1), .second, .val (.int p2), .val (.int (p2 &&& (3 : Int32))), .val (.long ((33554432 : Int64) + (q1 - ((q1 / (5 : Int64)) * (5 : Int64))))), .second, .val (.long (33554432 : Int64)), .second]) rfl ?_
    show Steps p.tables e below (s₁.setTop (mkF m 59 #[.val (.long q1), .second, .val (.int p2), .val (.int (p2 &&& (3 : Int32))), .val (.long ((33554432 : Int64) + (q1 - ((q1 / (5 : Int64)) * (5 : Int64))))), .second, .val (.long (33554432 : Int64)), .second] [])) _
    refine XS.lload X0.here hx rfl (hb hby at_59) rfl ?_
    show Steps p.tables e below (s₁.setTop (mkF m 61 #[.val (.long q1), .second, .val (.int p2), .val (.int (p2 &&& (3 : Int32))), .val (.long ((33554432 : Int64) + (q1 - ((q1 / (5 : Int64)) * (5 : Int64))))), .second, .val (.long (33554432 : Int64)), .second] [(.long ((33554432 : Int64) + (q1 - ((q1 / (5 : Int64)) * (5 : Int64)))))])) _
    refine X0.ldc2Long hx hown (mvT hZ (hw _ (List.mem_of_getElem? (i := 2) rfl))) (g := (mkF m 61 #[.val (.long q1), .second, .val (.int p2), .val (.int (p2 &&& (3 : Int32))), .val (.long ((33554432 : Int64) + (q1 - ((q1 / (5 : Int64)) * (5 : Int64))))), .second, .val (.long (33554432 : Int64)), .second] [(.long ((33554432 : Int64) + (q1 - ((q1 / (5 : Int64)) * (5 : Int64)))))])) rfl (hb hby at_61) _ ?_
    show Steps p.tables e below (s₁.setTop (mkF m 64 #[.val (.long q1), .second, .val (.int p2), .val (.int (p2 &&& (3 : Int32))), .val (.long ((33554432 : Int64) + (q1 - ((q1 / (5 : Int64)) * (5 : Int64))))), .second, .val (.long (33554432 : Int64)), .second] [(.long (131072 : Int64)), (.long ((33554432 : Int64) + (q1 - ((q1 / (5 : Int64)) * (5 : Int64)))))])) _
    refine XS.lcmp X0.here hx rfl (hb hby at_64) rfl ?_
    show Steps p.tables e below (s₁.setTop (mkF m 65 #[.val (.long q1), .second, .val (.int p2), .val (.int (p2 &&& (3 : Int32))), .val (.long ((33554432 : Int64) + (q1 - ((q1 / (5 : Int64)) * (5 : Int64))))), .second, .val (.long (33554432 : Int64)), .second] [(.int (lcmpW ((33554432 : Int64) + (q1 - ((q1 / (5 : Int64)) * (5 : Int64)))) (131072 : Int64)))])) _
    refine XS.ifYes X0.here hx rfl (pc0 := 65) (pc' := 74) rfl (hb hby at_65) rfl ((if0 _ _).trans (tlt hc65).2.2.1) (by decide) (by decide) ?_
    show Steps p.tables e below (s₁.setTop (mkF m 74 #[.val (.long q1), .second, .val (.int p2), .val (.int (p2 &&& (3 : Int32))), .val (.long ((33554432 : Int64) + (q1 - ((q1 / (5 : Int64)) * (5 : Int64))))), .second, .val (.long (33554432 : Int64)), .second] [])) _
    refine XS.lload X0.here hx rfl (hb hby at_74) rfl ?_
    show Steps p.tables e below (s₁.setTop (mkF m 76 #[.val (.long q1), .second, .val (.int p2), .val (.int (p2 &&& (3 : Int32))), .val (.long ((33554432 : Int64) + (q1 - ((q1 / (5 : Int64)) * (5 : Int64))))), .second, .val (.long (33554432 : Int64)), .second] [(.long ((33554432 : Int64) + (q1 - ((q1 / (5 : Int64)) * (5 : Int64)))))])) _
    refine X0.ldc2Long hx hown (mvT hZ (hw _ (List.mem_of_getElem? (i := 3) rfl))) (g := (mkF m 76 #[.val (.long q1), .second, .val (.int p2), .val (.int (p2 &&& (3 : Int32))), .val (.long ((33554432 : Int64) + (q1 - ((q1 / (5 : Int64)) * (5 : Int64))))), .second, .val (.long (33554432 : Int64)), .second] [(.long ((33554432 : Int64) + (q1 - ((q1 / (5 : Int64)) * (5 : Int64)))))])) rfl (hb hby at_76) _ ?_
    show Steps p.tables e below (s₁.setTop (mkF m 79 #[.val (.long q1), .second, .val (.int p2), .val (.int (p2 &&& (3 : Int32))), .val (.long ((33554432 : Int64) + (q1 - ((q1 / (5 : Int64)) * (5 : Int64))))), .second, .val (.long (33554432 : Int64)), .second] [(.long (33554432 : Int64)), (.long ((33554432 : Int64) + (q1 - ((q1 / (5 : Int64)) * (5 : Int64)))))])) _
    refine XS.lcmp X0.here hx rfl (hb hby at_79) rfl ?_
    show Steps p.tables e below (s₁.setTop (mkF m 80 #[.val (.long q1), .second, .val (.int p2), .val (.int (p2 &&& (3 : Int32))), .val (.long ((33554432 : Int64) + (q1 - ((q1 / (5 : Int64)) * (5 : Int64))))), .second, .val (.long (33554432 : Int64)), .second] [(.int (lcmpW ((33554432 : Int64) + (q1 - ((q1 / (5 : Int64)) * (5 : Int64)))) (33554432 : Int64)))])) _
    refine XS.ifYes X0.here hx rfl (pc0 := 80) (pc' := 89) rfl (hb hby at_80) rfl ((if0 _ _).trans (tlt hc80).2.2.1) (by decide) (by decide) ?_
    show Steps p.tables e below (s₁.setTop (mkF m 89 #[.val (.long q1), .second, .val (.int p2), .val (.int (p2 &&& (3 : Int32))), .val (.long ((33554432 : Int64) + (q1 - ((q1 / (5 : Int64)) * (5 : Int64))))), .second, .val (.long (33554432 : Int64)), .second] [])) _
    refine XS.lload X0.here hx rfl (hb hby at_89) rfl ?_
    show Steps p.tables e below (s₁.setTop (mkF m 91 #[.val (.long q1), .second, .val (.int p2), .val (.int (p2 &&& (3 : Int32))), .val (.long ((33554432 : Int64) + (q1 - ((q1 / (5 : Int64)) * (5 : Int64))))), .second, .val (.long (33554432 : Int64)), .second] [(.long ((33554432 : Int64) + (q1 - ((q1 / (5 : Int64)) * (5 : Int64)))))])) _
    refine X0.ldc2Long hx hown (mvT hZ (hw _ (List.mem_of_getElem? (i := 0) rfl))) (g := (mkF m 91 #[.val (.long q1), .second, .val (.int p2), .val (.int (p2 &&& (3 : Int32))), .val (.long ((33554432 : Int64) + (q1 - ((q1 / (5 : Int64)) * (5 : Int64))))), .second, .val (.long (33554432 : Int64)), .second] [(.long ((33554432 : Int64) + (q1 - ((q1 / (5 : Int64)) * (5 : Int64)))))])) rfl (hb hby at_91) _ ?_
    show Steps p.tables e below (s₁.setTop (mkF m 94 #[.val (.long q1), .second, .val (.int p2), .val (.int (p2 &&& (3 : Int32))), .val (.long ((33554432 : Int64) + (q1 - ((q1 / (5 : Int64)) * (5 : Int64))))), .second, .val (.long (33554432 : Int64)), .second] [(.long (8589934592 : Int64)), (.long ((33554432 : Int64) + (q1 - ((q1 / (5 : Int64)) * (5 : Int64)))))])) _
    refine XS.lcmp X0.here hx rfl (hb hby at_94) rfl ?_
    show Steps p.tables e below (s₁.setTop (mkF m 95 #[.val (.long q1), .second, .val (.int p2), .val (.int (p2 &&& (3 : Int32))), .val (.long ((33554432 : Int64) + (q1 - ((q1 / (5 : Int64)) * (5 : Int64))))), .second, .val (.long (33554432 : Int64)), .second] [(.int (lcmpW ((33554432 : Int64) + (q1 - ((q1 / (5 : Int64)) * (5 : Int64)))) (8589934592 : Int64)))])) _
    refine XS.ifNo X0.here hx rfl (hb hby at_95) rfl ((if0 _ _).trans (flt hc95).2.2.1) ?_
    show Steps p.tables e below (s₁.setTop (mkF m 98 #[.val (.long q1), .second, .val (.int p2), .val (.int (p2 &&& (3 : Int32))), .val (.long ((33554432 : Int64) + (q1 - ((q1 / (5 : Int64)) * (5 : Int64))))), .second, .val (.long (33554432 : Int64)), .second] [])) _
    refine XS.bipush X0.here hx rfl (hb hby at_98) ?_
    show Steps p.tables e below (s₁.setTop (mkF m 100 #[.val (.long q1), .second, .val (.int p2), .val (.int (p2 &&& (3 : Int32))), .val (.long ((33554432 : Int64) + (q1 - ((q1 / (5 : Int64)) * (5 : Int64))))), .second, .val (.long (33554432 : Int64)), .second] [(.int (6 : Int32))])) _
    refine XS.istore X0.here hx rfl (hb hby at_100) rfl (l' := #[.val (.long q1), .second, .val (.int p2), .val (.int (p2 &&& (3 : Int32))), .val (.long ((33554432 : Int64) + (q1 - ((q1 / (5 : Int64)) * (5 : Int64))))), .second, .val (.int (6 : Int32)), .unset]) rfl ?_
    show Steps p.tables e below (s₁.setTop (mkF m 102 #[.val (.long q1), .second, .val (.int p2), .val (.int (p2 &&& (3 : Int32))), .val (.long ((33554432 : Int64) + (q1 - ((q1 / (5 : Int64)) * (5 : Int64))))), .second, .val (.int (6 : Int32)), .unset] [])) _
    refine XS.goto X0.here hx rfl (pc0 := 102) (pc' := 109) rfl (hb hby at_102) (by decide) (by decide) ?_
    show Steps p.tables e below (s₁.setTop (mkF m 109 #[.val (.long q1), .second, .val (.int p2), .val (.int (p2 &&& (3 : Int32))), .val (.long ((33554432 : Int64) + (q1 - ((q1 / (5 : Int64)) * (5 : Int64))))), .second, .val (.int (6 : Int32)), .unset] [])) _
    refine XS.lload X0.here hx rfl (hb hby at_109) rfl ?_
    show Steps p.tables e below (s₁.setTop (mkF m 111 #[.val (.long q1), .second, .val (.int p2), .val (.int (p2 &&& (3 : Int32))), .val (.long ((33554432 : Int64) + (q1 - ((q1 / (5 : Int64)) * (5 : Int64))))), .second, .val (.int (6 : Int32)), .unset] [(.long ((33554432 : Int64) + (q1 - ((q1 / (5 : Int64)) * (5 : Int64)))))])) _
    refine st3 _ ?_
    show Steps p.tables e below (T3.setTop (mkF m 114 #[.val (.long q1), .second, .val (.int p2), .val (.int (p2 &&& (3 : Int32))), .val (.long ((33554432 : Int64) + (q1 - ((q1 / (5 : Int64)) * (5 : Int64))))), .second, .val (.int (6 : Int32)), .unset] [(.int (6 : Int32))])) _
    refine XS.iload X3.here hx rfl (hb hby at_114) rfl ?_
    show Steps p.tables e below (T3.setTop (mkF m 116 #[.val (.long q1), .second, .val (.int p2), .val (.int (p2 &&& (3 : Int32))), .val (.long ((33554432 : Int64) + (q1 - ((q1 / (5 : Int64)) * (5 : Int64))))), .second, .val (.int (6 : Int32)), .unset] [(.int (6 : Int32)), (.int (6 : Int32))])) _
    refine XS.icmpNo X3.here hx rfl (hb hby at_116) rfl (teq (rfl : (6 : Int32) = (6 : Int32))).2 ?_
    show Steps p.tables e below (T3.setTop (mkF m 119 #[.val (.long q1), .second, .val (.int p2), .val (.int (p2 &&& (3 : Int32))), .val (.long ((33554432 : Int64) + (q1 - ((q1 / (5 : Int64)) * (5 : Int64))))), .second, .val (.int (6 : Int32)), .unset] [])) _
    refine XS.iconst X3.here hx rfl (hb hby at_119) ?_
    show Steps p.tables e below (T3.setTop (mkF m 120 #[.val (.long q1), .second, .val (.int p2), .val (.int (p2 &&& (3 : Int32))), .val (.long ((33554432 : Int64) + (q1 - ((q1 / (5 : Int64)) * (5 : Int64))))), .second, .val (.int (6 : Int32)), .unset] [(.int (1 : Int32))])) _
    refine XS.goto X3.here hx rfl (pc0 := 120) (pc' := 124) rfl (hb hby at_120) (by decide) (by decide) ?_
    show Steps p.tables e below (T3.setTop (mkF m 124 #[.val (.long q1), .second, .val (.int p2), .val (.int (p2 &&& (3 : Int32))), .val (.long ((33554432 : Int64) + (q1 - ((q1 / (5 : Int64)) * (5 : Int64))))), .second, .val (.int (6 : Int32)), .unset] [(.int (1 : Int32))])) _
    exact retN X3 hx (t := .boolean) Bd.returns (by simp) (hb hby at_124) hr
  · show Q0 Z q1 p2 h0 n0 _ T3.heap _
    exact ⟨rfl, N3⟩
set_option maxRecDepth 65536 in
set_option maxHeartbeats 40000000 in
theorem rm0_ttt6 (l : Launch) (Z : State) (a0 : Array Value) (hw : ∀ d ∈ tables_1, d.before a0 Z = true) (ws : List Jvm.Cond) (q1 : Int64) (p2 : Int32) (h0 : Heap) (n0 : Nat) (Z0 : n0 ≤ h0.size) (hc6 : ¬ ((p2 &&& (3 : Int32)) = (3 : Int32))) (hc20 : ¬ ((p2 &&& (3 : Int32)) = (0 : Int32))) (hc33 : ¬ ((p2 &&& (3 : Int32)) = (1 : Int32))) (hnz55 : ¬ ((5 : Int64) = (0 : Int64))) (hc65 : (0 : Int32) < (lcmpW ((8589934592 : Int64) + (q1 - ((q1 / (5 : Int64)) * (5 : Int64)))) (131072 : Int64))) (hc80 : (0 : Int32) < (lcmpW ((8589934592 : Int64) + (q1 - ((q1 / (5 : Int64)) * (5 : Int64)))) (33554432 : Int64))) (hc95 : ¬ ((0 : Int32) < (lcmpW ((8589934592 : Int64) + (q1 - ((q1 / (5 : Int64)) * (5 : Int64)))) (8589934592 : Int64)))) :
    MetFree l x (head1 (Jvm.Cond.code x code maxLocals ret :: ws) room_1) (fun a U => a = #[(.long q1), (.int p2)] ∧ Z.Warmed39 U.vm ∧ U.heap = h0) (fun _ _ _ _ _ => True) (fun _ U o U' => ∃ v L, o = .returned v ∧ Q0 Z q1 p2 h0 n0 v U'.heap L ∧ FrameEnd U o U' L room_1.cells room_1.slots) := by
  refine MetFree.of_bodySF (plainFor_of_name pn_0) hisR ?_
  intro p e s m args below meth c s₁ Bd hml0 hP hK
  obtain ⟨rfl, hZ, hh⟩ := hP
  have hx := Bd.exec
  have hby := Bd.bytes
  have hml : c.maxLocals = 8 := hml0
  have hown : s.vm.findClass "com/example/key_steward/keysteward/steward/TokenSerialsLengthPinLaw" = some m.cls := findClass_of_methodNamed Bd.named
  have hnm := (name_of_methodNamed Bd.named Bd.method).1
  have X0 : Stand p l e room_1 s m #[(.long q1), (.int p2)] below meth c s₁ [] 0 0 := Stand.of_body Bd
  have e0 : s₁.heap = h0 := by rw [← hh, Bd.state]; rfl
  have N0 := Fr.nil n0
  have hlo : 33554432 < ((8589934592 : Int64) + (q1 - ((q1 / (5 : Int64)) * (5 : Int64)))).toInt := own_gt own_k5 hc80
  have hhi : ((8589934592 : Int64) + (q1 - ((q1 / (5 : Int64)) * (5 : Int64)))).toInt ≤ 8589934592 := own_le own_k6 hc95
  have pre0 : ∀ t, Steps p.tables e below (s₁.setTop (mkF m 0 #[.val (.long q1), .second, .val (.int p2), .unset, .unset, .unset, .unset, .unset] [])) t → Steps p.tables e below (s₁.setTop (entryFrame m #[(.long q1), (.int p2)] maxLocals)) t := fun t k => castTop (ef_0 m q1 p2) k
  obtain ⟨_, _, ⟨T3, L3, k3, n3⟩, -, X3, ⟨Lc3, hQ3, l3, y3, z3⟩, st3⟩ := Jvm.LawKit.callS X0 hx (y := (⟨"com/example/key_steward/keysteward/steward/TokenSerials", "length", "(J)I"⟩ : MethodName)) hown (mvT hZ (hw _ (List.mem_of_getElem? (i := 4) rfl))) (mvT hZ (hw _ (List.mem_of_getElem? (i := 5) rfl))) (mvT hZ (hw _ (List.mem_of_getElem? (i := 6) rfl))) (mvT hZ (hw _ (List.mem_of_getElem? (i := 7) rfl))) (by decide) (backOf (W := 0) (rm1_6 l Z a0 hw [] ((8589934592 : Int64) + (q1 - ((q1 / (5 : Int64)) * (5 : Int64)))) h0 n0 Z0 hlo hhi) hZ (hw _ (List.mem_of_getElem? (i := 7) rfl)) (hw _ (List.mem_of_getElem? (i := 6) rfl)) (by decide) (by decide)) (g := (mkF m 111 #[.val (.long q1), .second, .val (.int p2), .val (.int (p2 &&& (3 : Int32))), .val (.long ((8589934592 : Int64) + (q1 - ((q1 / (5 : Int64)) * (5 : Int64))))), .second, .val (.int (6 : Int32)), .unset] [(.long ((8589934592 : Int64) + (q1 - ((q1 / (5 : Int64)) * (5 : Int64)))))])) rfl (by rw [hml]; rfl) (argsL := [(.long ((8589934592 : Int64) + (q1 - ((q1 / (5 : Int64)) * (5 : Int64)))))]) (rest := []) (lenOf pd_0_0 rfl) rfl (by show 2 * 0 + _ ≤ _; exact Nat.le_of_eq rfl) (hb hby at_111) (fun _ _ => ⟨rfl, e0, (by decide : 0 + 0 ≤ _), (by decide : 0 + 0 ≤ _)⟩)
  dsimp only [Pt.U, Pt.locs, Pt.cells, Pt.slots] at X3 l3 y3 z3 st3 hQ3
  subst l3 y3 z3
  obtain ⟨rfl, N3q, Hc⟩ := hQ3
  have N3 := Fr.app N0 N3q
  obtain ⟨fs, hr, hrun, hended, hW, hsame⟩ := X3.leave (v := some (.int (1 : Int32))) (fun h => by rw [Bd.returns] at h; cases h)
  refine ⟨_, _, pre0 _ ?_, hrun, hended, _, _, rfl, ?_, ⟨_, rfl⟩, hW, hsame.mono (by decide) (by decide)⟩
  · show Steps p.tables e below (s₁.setTop (mkF m 0 #[.val (.long q1), .second, .val (.int p2), .unset, .unset, .unset, .unset, .unset] [])) _
    refine XS.iloadN X0.here hx rfl (hb hby at_0) rfl ?_
    show Steps p.tables e below (s₁.setTop (mkF m 1 #[.val (.long q1), .second, .val (.int p2), .unset, .unset, .unset, .unset, .unset] [(.int p2)])) _
    refine XS.iconst X0.here hx rfl (hb hby at_1) ?_
    show Steps p.tables e below (s₁.setTop (mkF m 2 #[.val (.long q1), .second, .val (.int p2), .unset, .unset, .unset, .unset, .unset] [(.int (3 : Int32)), (.int p2)])) _
    refine XS.iand X0.here hx rfl (hb hby at_2) rfl ?_
    show Steps p.tables e below (s₁.setTop (mkF m 3 #[.val (.long q1), .second, .val (.int p2), .unset, .unset, .unset, .unset, .unset] [(.int (p2 &&& (3 : Int32)))])) _
    refine XS.istoreN X0.here hx rfl (hb hby at_3) rfl (l' := #[.val (.long q1), .second, .val (.int p2), .val (.int (p2 &&& (3 : Int32))), .unset, .unset, .unset, .unset]) rfl ?_
    show Steps p.tables e below (s₁.setTop (mkF m 4 #[.val (.long q1), .second, .val (.int p2), .val (.int (p2 &&& (3 : Int32))), .unset, .unset, .unset, .unset] [])) _
    refine XS.iloadN X0.here hx rfl (hb hby at_4) rfl ?_
    show Steps p.tables e below (s₁.setTop (mkF m 5 #[.val (.long q1), .second, .val (.int p2), .val (.int (p2 &&& (3 : Int32))), .unset, .unset, .unset, .unset] [(.int (p2 &&& (3 : Int32)))])) _
    refine XS.iconst X0.here hx rfl (hb hby at_5) ?_
    show Steps p.tables e below (s₁.setTop (mkF m 6 #[.val (.long q1), .second, .val (.int p2), .val (.int (p2 &&& (3 : Int32))), .unset, .unset, .unset, .unset] [(.int (3 : Int32)), (.int (p2 &&& (3 : Int32)))])) _
    refine XS.icmpYes X0.here hx rfl (pc0 := 6) (pc' := 19) rfl (hb hby at_6) rfl (feq hc6).2 (by decide) (by decide) ?_
    show Steps p.tables e below (s₁.setTop (mkF m 19 #[.val (.long q1), .second, .val (.int p2), .val (.int (p2 &&& (3 : Int32))), .unset, .unset, .unset, .unset] [])) _
    refine XS.iloadN X0.here hx rfl (hb hby at_19) rfl ?_
    show Steps p.tables e below (s₁.setTop (mkF m 20 #[.val (.long q1), .second, .val (.int p2), .val (.int (p2 &&& (3 : Int32))), .unset, .unset, .unset, .unset] [(.int (p2 &&& (3 : Int32)))])) _
    refine XS.ifYes X0.here hx rfl (pc0 := 20) (pc' := 31) rfl (hb hby at_20) rfl ((if0 _ _).trans (feq hc20).2) (by decide) (by decide) ?_
    show Steps p.tables e below (s₁.setTop (mkF m 31 #[.val (.long q1), .second, .val (.int p2), .val (.int (p2 &&& (3 : Int32))), .unset, .unset, .unset, .unset] [])) _
    refine XS.iloadN X0.here hx rfl (hb hby at_31) rfl ?_
    show Steps p.tables e below (s₁.setTop (mkF m 32 #[.val (.long q1), .second, .val (.int p2), .val (.int (p2 &&& (3 : Int32))), .unset, .unset, .unset, .unset] [(.int (p2 &&& (3 : Int32)))])) _
    refine XS.iconst X0.here hx rfl (hb hby at_32) ?_
    show Steps p.tables e below (s₁.setTop (mkF m 33 #[.val (.long q1), .second, .val (.int p2), .val (.int (p2 &&& (3 : Int32))), .unset, .unset, .unset, .unset] [(.int (1 : Int32)), (.int (p2 &&& (3 : Int32)))])) _
    refine XS.icmpYes X0.here hx rfl (pc0 := 33) (pc' := 44) rfl (hb hby at_33) rfl (feq hc33).2 (by decide) (by decide) ?_
    show Steps p.tables e below (s₁.setTop (mkF m 44 #[.val (.long q1), .second, .val (.int p2), .val (.int (p2 &&& (3 : Int32))), .unset, .unset, .unset, .unset] [])) _
    refine X0.ldc2Long hx hown (mvT hZ (hw _ (List.mem_of_getElem? (i := 0) rfl))) (g := (mkF m 44 #[.val (.long q1), .second, .val (.int p2), .val (.int (p2 &&& (3 : Int32))), .unset, .unset, .unset, .unset] [])) rfl (hb hby at_44) _ ?_
    show Steps p.tables e below (s₁.setTop (mkF m 47 #[.val (.long q1), .second, .val (.int p2), .val (.int (p2 &&& (3 : Int32))), .unset, .unset, .unset, .unset] [(.long (8589934592 : Int64))])) _
    refine XS.lstore X0.here hx rfl (hb hby at_47) rfl (l' := #[.val (.long q1), .second, .val (.int p2), .val (.int (p2 &&& (3 : Int32))), .unset, .unset, .val (.long (8589934592 : Int64)), .second]) rfl ?_
    show Steps p.tables e below (s₁.setTop (mkF m 49 #[.val (.long q1), .second, .val (.int p2), .val (.int (p2 &&& (3 : Int32))), .unset, .unset, .val (.long (8589934592 : Int64)), .second] [])) _
    refine XS.lload X0.here hx rfl (hb hby at_49) rfl ?_
    show Steps p.tables e below (s₁.setTop (mkF m 51 #[.val (.long q1), .second, .val (.int p2), .val (.int (p2 &&& (3 : Int32))), .unset, .unset, .val (.long (8589934592 : Int64)), .second] [(.long (8589934592 : Int64))])) _
    refine XS.lloadN X0.here hx rfl (hb hby at_51) rfl ?_
    show Steps p.tables e below (s₁.setTop (mkF m 52 #[.val (.long q1), .second, .val (.int p2), .val (.int (p2 &&& (3 : Int32))), .unset, .unset, .val (.long (8589934592 : Int64)), .second] [(.long q1), (.long (8589934592 : Int64))])) _
    refine X0.ldc2Long hx hown (mvT hZ (hw _ (List.mem_of_getElem? (i := 1) rfl))) (g := (mkF m 52 #[.val (.long q1), .second, .val (.int p2), .val (.int (p2 &&& (3 : Int32))), .unset, .unset, .val (.long (8589934592 : Int64)), .second] [(.long q1), (.long (8589934592 : Int64))])) rfl (hb hby at_52) _ ?_
    show Steps p.tables e below (s₁.setTop (mkF m 55 #[.val (.long q1), .second, .val (.int p2), .val (.int (p2 &&& (3 : Int32))), .unset, .unset, .val (.long (8589934592 : Int64)), .second] [(.long (5 : Int64)), (.long q1), (.long (8589934592 : Int64))])) _
    refine XS.lrem X0.here hx rfl (hb hby at_55) rfl hnz55 ?_
    show Steps p.tables e below (s₁.setTop (mkF m 56 #[.val (.long q1), .second, .val (.int p2), .val (.int (p2 &&& (3 : Int32))), .unset, .unset, .val (.long (8589934592 : Int64)), .second] [(.long (q1 - ((q1 / (5 : Int64)) * (5 : Int64)))), (.long (8589934592 : Int64))])) _
    refine XS.ladd X0.here hx rfl (hb hby at_56) rfl ?_
    show Steps p.tables e below (s₁.setTop (mkF m 57 #[.val (.long q1), .second, .val (.int p2), .val (.int (p2 &&& (3 : Int32))), .unset, .unset, .val (.long (8589934592 : Int64)), .second] [(.long ((8589934592 : Int64) + (q1 - ((q1 / (5 : Int64)) * (5 : Int64)))))])) _
    refine XS.lstore X0.here hx rfl (hb hby at_57) rfl (l' := #[.val (.long q1), .second, .val (.int p2), .val (.int (p2 &&& (3 : Int32))), .val (.long ((8589934592 : Int64) + (q1 - ((q1 / (5 : Int64)) * (5 : Int64))))), .second, .val (.long (8589934592 : Int64)), .second]) rfl ?_
    show Steps p.tables e below (s₁.setTop (mkF m 59 #[.val (.long q1), .second, .val (.int p2), .val (.int (p2 &&& (3 : Int32))), .val (.long ((8589934592 : Int64) + (q1 - ((q1 / (5 : Int64)) * (5 : Int64))))), .second, .val (.long (8589934592 : Int64)), .second] [])) _
    refine XS.lload X0.here hx rfl (hb hby at_59) rfl ?_
    show Steps p.tables e below (s₁.setTop (mkF m 61 #[.val (.long q1), .second, .val (.int p2), .val (.int (p2 &&& (3 : Int32))), .val (.long ((8589934592 : Int64) + (q1 - ((q1 / (5 : Int64)) * (5 : Int64))))), .second, .val (.long (8589934592 : Int64)), .second] [(.long ((8589934592 : Int64) + (q1 - ((q1 / (5 : Int64)) * (5 : Int64)))))])) _
    refine X0.ldc2Long hx hown (mvT hZ (hw _ (List.mem_of_getElem? (i := 2) rfl))) (g := (mkF m 61 #[.val (.long q1), .second, .val (.int p2), .val (.int (p2 &&& (3 : Int32))), .val (.long ((8589934592 : Int64) + (q1 - ((q1 / (5 : Int64)) * (5 : Int64))))), .second, .val (.long (8589934592 : Int64)), .second] [(.long ((8589934592 : Int64) + (q1 - ((q1 / (5 : Int64)) * (5 : Int64)))))])) rfl (hb hby at_61) _ ?_
    show Steps p.tables e below (s₁.setTop (mkF m 64 #[.val (.long q1), .second, .val (.int p2), .val (.int (p2 &&& (3 : Int32))), .val (.long ((8589934592 : Int64) + (q1 - ((q1 / (5 : Int64)) * (5 : Int64))))), .second, .val (.long (8589934592 : Int64)), .second] [(.long (131072 : Int64)), (.long ((8589934592 : Int64) + (q1 - ((q1 / (5 : Int64)) * (5 : Int64)))))])) _
    refine XS.lcmp X0.here hx rfl (hb hby at_64) rfl ?_
    show Steps p.tables e below (s₁.setTop (mkF m 65 #[.val (.long q1), .second, .val (.int p2), .val (.int (p2 &&& (3 : Int32))), .val (.long ((8589934592 : Int64) + (q1 - ((q1 / (5 : Int64)) * (5 : Int64))))), .second, .val (.long (8589934592 : Int64)), .second] [(.int (lcmpW ((8589934592 : Int64) + (q1 - ((q1 / (5 : Int64)) * (5 : Int64)))) (131072 : Int64)))])) _
    refine XS.ifYes X0.here hx rfl (pc0 := 65) (pc' := 74) rfl (hb hby at_65) rfl ((if0 _ _).trans (tlt hc65).2.2.1) (by decide) (by decide) ?_
    show Steps p.tables e below (s₁.setTop (mkF m 74 #[.val (.long q1), .second, .val (.int p2), .val (.int (p2 &&& (3 : Int32))), .val (.long ((8589934592 : Int64) + (q1 - ((q1 / (5 : Int64)) * (5 : Int64))))), .second, .val (.long (8589934592 : Int64)), .second] [])) _
    refine XS.lload X0.here hx rfl (hb hby at_74) rfl ?_
    show Steps p.tables e below (s₁.setTop (mkF m 76 #[.val (.long q1), .second, .val (.int p2), .val (.int (p2 &&& (3 : Int32))), .val (.long ((8589934592 : Int64) + (q1 - ((q1 / (5 : Int64)) * (5 : Int64))))), .second, .val (.long (8589934592 : Int64)), .second] [(.long ((8589934592 : Int64) + (q1 - ((q1 / (5 : Int64)) * (5 : Int64)))))])) _
    refine X0.ldc2Long hx hown (mvT hZ (hw _ (List.mem_of_getElem? (i := 3) rfl))) (g := (mkF m 76 #[.val (.long q1), .second, .val (.int p2), .val (.int (p2 &&& (3 : Int32))), .val (.long ((8589934592 : Int64) + (q1 - ((q1 / (5 : Int64)) * (5 : Int64))))), .second, .val (.long (8589934592 : Int64)), .second] [(.long ((8589934592 : Int64) + (q1 - ((q1 / (5 : Int64)) * (5 : Int64)))))])) rfl (hb hby at_76) _ ?_
    show Steps p.tables e below (s₁.setTop (mkF m 79 #[.val (.long q1), .second, .val (.int p2), .val (.int (p2 &&& (3 : Int32))), .val (.long ((8589934592 : Int64) + (q1 - ((q1 / (5 : Int64)) * (5 : Int64))))), .second, .val (.long (8589934592 : Int64)), .second] [(.long (33554432 : Int64)), (.long ((8589934592 : Int64) + (q1 - ((q1 / (5 : Int64)) * (5 : Int64)))))])) _
    refine XS.lcmp X0.here hx rfl (hb hby at_79) rfl ?_
    show Steps p.tables e below (s₁.setTop (mkF m 80 #[.val (.long q1), .second, .val (.int p2), .val (.int (p2 &&& (3 : Int32))), .val (.long ((8589934592 : Int64) + (q1 - ((q1 / (5 : Int64)) * (5 : Int64))))), .second, .val (.long (8589934592 : Int64)), .second] [(.int (lcmpW ((8589934592 : Int64) + (q1 - ((q1 / (5 : Int64)) * (5 : Int64)))) (33554432 : Int64)))])) _
    refine XS.ifYes X0.here hx rfl (pc0 := 80) (pc' := 89) rfl (hb hby at_80) rfl ((if0 _ _).trans (tlt hc80).2.2.1) (by decide) (by decide) ?_
    show Steps p.tables e below (s₁.setTop (mkF m 89 #[.val (.long q1), .second, .val (.int p2), .val (.int (p2 &&& (3 : Int32))), .val (.long ((8589934592 : Int64) + (q1 - ((q1 / (5 : Int64)) * (5 : Int64))))), .second, .val (.long (8589934592 : Int64)), .second] [])) _
    refine XS.lload X0.here hx rfl (hb hby at_89) rfl ?_
    show Steps p.tables e below (s₁.setTop (mkF m 91 #[.val (.long q1), .second, .val (.int p2), .val (.int (p2 &&& (3 : Int32))), .val (.long ((8589934592 : Int64) + (q1 - ((q1 / (5 : Int64)) * (5 : Int64))))), .second, .val (.long (8589934592 : Int64)), .second] [(.long ((8589934592 : Int64) + (q1 - ((q1 / (5 : Int64)) * (5 : Int64)))))])) _
    refine X0.ldc2Long hx hown (mvT hZ (hw _ (List.mem_of_getElem? (i := 0) rfl))) (g := (mkF m 91 #[.val (.long q1), .second, .val (.int p2), .val (.int (p2 &&& (3 : Int32))), .val (.long ((8589934592 : Int64) + (q1 - ((q1 / (5 : Int64)) * (5 : Int64))))), .second, .val (.long (8589934592 : Int64)), .second] [(.long ((8589934592 : Int64) + (q1 - ((q1 / (5 : Int64)) * (5 : Int64)))))])) rfl (hb hby at_91) _ ?_
    show Steps p.tables e below (s₁.setTop (mkF m 94 #[.val (.long q1), .second, .val (.int p2), .val (.int (p2 &&& (3 : Int32))), .val (.long ((8589934592 : Int64) + (q1 - ((q1 / (5 : Int64)) * (5 : Int64))))), .second, .val (.long (8589934592 : Int64)), .second] [(.long (8589934592 : Int64)), (.long ((8589934592 : Int64) + (q1 - ((q1 / (5 : Int64)) * (5 : Int64)))))])) _
    refine XS.lcmp X0.here hx rfl (hb hby at_94) rfl ?_
    show Steps p.tables e below (s₁.setTop (mkF m 95 #[.val (.long q1), .second, .val (.int p2), .val (.int (p2 &&& (3 : Int32))), .val (.long ((8589934592 : Int64) + (q1 - ((q1 / (5 : Int64)) * (5 : Int64))))), .second, .val (.long (8589934592 : Int64)), .second] [(.int (lcmpW ((8589934592 : Int64) + (q1 - ((q1 / (5 : Int64)) * (5 : Int64)))) (8589934592 : Int64)))])) _
    refine XS.ifNo X0.here hx rfl (hb hby at_95) rfl ((if0 _ _).trans (flt hc95).2.2.1) ?_
    show Steps p.tables e below (s₁.setTop (mkF m 98 #[.val (.long q1), .second, .val (.int p2), .val (.int (p2 &&& (3 : Int32))), .val (.long ((8589934592 : Int64) + (q1 - ((q1 / (5 : Int64)) * (5 : Int64))))), .second, .val (.long (8589934592 : Int64)), .second] [])) _
    refine XS.bipush X0.here hx rfl (hb hby at_98) ?_
    show Steps p.tables e below (s₁.setTop (mkF m 100 #[.val (.long q1), .second, .val (.int p2), .val (.int (p2 &&& (3 : Int32))), .val (.long ((8589934592 : Int64) + (q1 - ((q1 / (5 : Int64)) * (5 : Int64))))), .second, .val (.long (8589934592 : Int64)), .second] [(.int (6 : Int32))])) _
    refine XS.istore X0.here hx rfl (hb hby at_100) rfl (l' := #[.val (.long q1), .second, .val (.int p2), .val (.int (p2 &&& (3 : Int32))), .val (.long ((8589934592 : Int64) + (q1 - ((q1 / (5 : Int64)) * (5 : Int64))))), .second, .val (.int (6 : Int32)), .unset]) rfl ?_
    show Steps p.tables e below (s₁.setTop (mkF m 102 #[.val (.long q1), .second, .val (.int p2), .val (.int (p2 &&& (3 : Int32))), .val (.long ((8589934592 : Int64) + (q1 - ((q1 / (5 : Int64)) * (5 : Int64))))), .second, .val (.int (6 : Int32)), .unset] [])) _
    refine XS.goto X0.here hx rfl (pc0 := 102) (pc' := 109) rfl (hb hby at_102) (by decide) (by decide) ?_
    show Steps p.tables e below (s₁.setTop (mkF m 109 #[.val (.long q1), .second, .val (.int p2), .val (.int (p2 &&& (3 : Int32))), .val (.long ((8589934592 : Int64) + (q1 - ((q1 / (5 : Int64)) * (5 : Int64))))), .second, .val (.int (6 : Int32)), .unset] [])) _
    refine XS.lload X0.here hx rfl (hb hby at_109) rfl ?_
    show Steps p.tables e below (s₁.setTop (mkF m 111 #[.val (.long q1), .second, .val (.int p2), .val (.int (p2 &&& (3 : Int32))), .val (.long ((8589934592 : Int64) + (q1 - ((q1 / (5 : Int64)) * (5 : Int64))))), .second, .val (.int (6 : Int32)), .unset] [(.long ((8589934592 : Int64) + (q1 - ((q1 / (5 : Int64)) * (5 : Int64)))))])) _
    refine st3 _ ?_
    show Steps p.tables e below (T3.setTop (mkF m 114 #[.val (.long q1), .second, .val (.int p2), .val (.int (p2 &&& (3 : Int32))), .val (.long ((8589934592 : Int64) + (q1 - ((q1 / (5 : Int64)) * (5 : Int64))))), .second, .val (.int (6 : Int32)), .unset] [(.int (6 : Int32))])) _
    refine XS.iload X3.here hx rfl (hb hby at_114) rfl ?_
    show Steps p.tables e below (T3.setTop (mkF m 116 #[.val (.long q1), .second, .val (.int p2), .val (.int (p2 &&& (3 : Int32))), .val (.long ((8589934592 : Int64) + (q1 - ((q1 / (5 : Int64)) * (5 : Int64))))), .second, .val (.int (6 : Int32)), .unset] [(.int (6 : Int32)), (.int (6 : Int32))])) _
    refine XS.icmpNo X3.here hx rfl (hb hby at_116) rfl (teq (rfl : (6 : Int32) = (6 : Int32))).2 ?_
    show Steps p.tables e below (T3.setTop (mkF m 119 #[.val (.long q1), .second, .val (.int p2), .val (.int (p2 &&& (3 : Int32))), .val (.long ((8589934592 : Int64) + (q1 - ((q1 / (5 : Int64)) * (5 : Int64))))), .second, .val (.int (6 : Int32)), .unset] [])) _
    refine XS.iconst X3.here hx rfl (hb hby at_119) ?_
    show Steps p.tables e below (T3.setTop (mkF m 120 #[.val (.long q1), .second, .val (.int p2), .val (.int (p2 &&& (3 : Int32))), .val (.long ((8589934592 : Int64) + (q1 - ((q1 / (5 : Int64)) * (5 : Int64))))), .second, .val (.int (6 : Int32)), .unset] [(.int (1 : Int32))])) _
    refine XS.goto X3.here hx rfl (pc0 := 120) (pc' := 124) rfl (hb hby at_120) (by decide) (by decide) ?_
    show Steps p.tables e below (T3.setTop (mkF m 124 #[.val (.long q1), .second, .val (.int p2), .val (.int (p2 &&& (3 : Int32))), .val (.long ((8589934592 : Int64) + (q1 - ((q1 / (5 : Int64)) * (5 : Int64))))), .second, .val (.int (6 : Int32)), .unset] [(.int (1 : Int32))])) _
    exact retN X3 hx (t := .boolean) Bd.returns (by simp) (hb hby at_124) hr
  · show Q0 Z q1 p2 h0 n0 _ T3.heap _
    exact ⟨rfl, N3⟩
set_option maxRecDepth 65536 in
set_option maxHeartbeats 40000000 in
theorem rm0_ttt7 (l : Launch) (Z : State) (a0 : Array Value) (hw : ∀ d ∈ tables_1, d.before a0 Z = true) (ws : List Jvm.Cond) (q1 : Int64) (p2 : Int32) (h0 : Heap) (n0 : Nat) (Z0 : n0 ≤ h0.size) (hc6 : ¬ ((p2 &&& (3 : Int32)) = (3 : Int32))) (hc20 : ¬ ((p2 &&& (3 : Int32)) = (0 : Int32))) (hc33 : ¬ ((p2 &&& (3 : Int32)) = (1 : Int32))) (hnz55 : ¬ ((5 : Int64) = (0 : Int64))) (hc65 : (0 : Int32) < (lcmpW ((8589934592 : Int64) + (q1 - ((q1 / (5 : Int64)) * (5 : Int64)))) (131072 : Int64))) (hc80 : (0 : Int32) < (lcmpW ((8589934592 : Int64) + (q1 - ((q1 / (5 : Int64)) * (5 : Int64)))) (33554432 : Int64))) (hc95 : (0 : Int32) < (lcmpW ((8589934592 : Int64) + (q1 - ((q1 / (5 : Int64)) * (5 : Int64)))) (8589934592 : Int64))) :
    MetFree l x (head1 (Jvm.Cond.code x code maxLocals ret :: ws) room_1) (fun a U => a = #[(.long q1), (.int p2)] ∧ Z.Warmed39 U.vm ∧ U.heap = h0) (fun _ _ _ _ _ => True) (fun _ U o U' => ∃ v L, o = .returned v ∧ Q0 Z q1 p2 h0 n0 v U'.heap L ∧ FrameEnd U o U' L room_1.cells room_1.slots) := by
  refine MetFree.of_bodySF (plainFor_of_name pn_0) hisR ?_
  intro p e s m args below meth c s₁ Bd hml0 hP hK
  obtain ⟨rfl, hZ, hh⟩ := hP
  have hx := Bd.exec
  have hby := Bd.bytes
  have hml : c.maxLocals = 8 := hml0
  have hown : s.vm.findClass "com/example/key_steward/keysteward/steward/TokenSerialsLengthPinLaw" = some m.cls := findClass_of_methodNamed Bd.named
  have hnm := (name_of_methodNamed Bd.named Bd.method).1
  have X0 : Stand p l e room_1 s m #[(.long q1), (.int p2)] below meth c s₁ [] 0 0 := Stand.of_body Bd
  have e0 : s₁.heap = h0 := by rw [← hh, Bd.state]; rfl
  have N0 := Fr.nil n0
  have hlo : 8589934592 < ((8589934592 : Int64) + (q1 - ((q1 / (5 : Int64)) * (5 : Int64)))).toInt := own_gt own_k6 hc95
  have hhi : ((8589934592 : Int64) + (q1 - ((q1 / (5 : Int64)) * (5 : Int64)))).toInt ≤ 2199023255552 := by have := own_b5 q1 own_k6 (by omega) (by omega); omega
  have pre0 : ∀ t, Steps p.tables e below (s₁.setTop (mkF m 0 #[.val (.long q1), .second, .val (.int p2), .unset, .unset, .unset, .unset, .unset] [])) t → Steps p.tables e below (s₁.setTop (entryFrame m #[(.long q1), (.int p2)] maxLocals)) t := fun t k => castTop (ef_0 m q1 p2) k
  obtain ⟨_, _, ⟨T3, L3, k3, n3⟩, -, X3, ⟨Lc3, hQ3, l3, y3, z3⟩, st3⟩ := Jvm.LawKit.callS X0 hx (y := (⟨"com/example/key_steward/keysteward/steward/TokenSerials", "length", "(J)I"⟩ : MethodName)) hown (mvT hZ (hw _ (List.mem_of_getElem? (i := 4) rfl))) (mvT hZ (hw _ (List.mem_of_getElem? (i := 5) rfl))) (mvT hZ (hw _ (List.mem_of_getElem? (i := 6) rfl))) (mvT hZ (hw _ (List.mem_of_getElem? (i := 7) rfl))) (by decide) (backOf (W := 0) (rm1_7 l Z a0 hw [] ((8589934592 : Int64) + (q1 - ((q1 / (5 : Int64)) * (5 : Int64)))) h0 n0 Z0 hlo hhi) hZ (hw _ (List.mem_of_getElem? (i := 7) rfl)) (hw _ (List.mem_of_getElem? (i := 6) rfl)) (by decide) (by decide)) (g := (mkF m 111 #[.val (.long q1), .second, .val (.int p2), .val (.int (p2 &&& (3 : Int32))), .val (.long ((8589934592 : Int64) + (q1 - ((q1 / (5 : Int64)) * (5 : Int64))))), .second, .val (.int (7 : Int32)), .unset] [(.long ((8589934592 : Int64) + (q1 - ((q1 / (5 : Int64)) * (5 : Int64)))))])) rfl (by rw [hml]; rfl) (argsL := [(.long ((8589934592 : Int64) + (q1 - ((q1 / (5 : Int64)) * (5 : Int64)))))]) (rest := []) (lenOf pd_0_0 rfl) rfl (by show 2 * 0 + _ ≤ _; exact Nat.le_of_eq rfl) (hb hby at_111) (fun _ _ => ⟨rfl, e0, (by decide : 0 + 0 ≤ _), (by decide : 0 + 0 ≤ _)⟩)
  dsimp only [Pt.U, Pt.locs, Pt.cells, Pt.slots] at X3 l3 y3 z3 st3 hQ3
  subst l3 y3 z3
  obtain ⟨rfl, N3q, Hc⟩ := hQ3
  have N3 := Fr.app N0 N3q
  obtain ⟨fs, hr, hrun, hended, hW, hsame⟩ := X3.leave (v := some (.int (1 : Int32))) (fun h => by rw [Bd.returns] at h; cases h)
  refine ⟨_, _, pre0 _ ?_, hrun, hended, _, _, rfl, ?_, ⟨_, rfl⟩, hW, hsame.mono (by decide) (by decide)⟩
  · show Steps p.tables e below (s₁.setTop (mkF m 0 #[.val (.long q1), .second, .val (.int p2), .unset, .unset, .unset, .unset, .unset] [])) _
    refine XS.iloadN X0.here hx rfl (hb hby at_0) rfl ?_
    show Steps p.tables e below (s₁.setTop (mkF m 1 #[.val (.long q1), .second, .val (.int p2), .unset, .unset, .unset, .unset, .unset] [(.int p2)])) _
    refine XS.iconst X0.here hx rfl (hb hby at_1) ?_
    show Steps p.tables e below (s₁.setTop (mkF m 2 #[.val (.long q1), .second, .val (.int p2), .unset, .unset, .unset, .unset, .unset] [(.int (3 : Int32)), (.int p2)])) _
    refine XS.iand X0.here hx rfl (hb hby at_2) rfl ?_
    show Steps p.tables e below (s₁.setTop (mkF m 3 #[.val (.long q1), .second, .val (.int p2), .unset, .unset, .unset, .unset, .unset] [(.int (p2 &&& (3 : Int32)))])) _
    refine XS.istoreN X0.here hx rfl (hb hby at_3) rfl (l' := #[.val (.long q1), .second, .val (.int p2), .val (.int (p2 &&& (3 : Int32))), .unset, .unset, .unset, .unset]) rfl ?_
    show Steps p.tables e below (s₁.setTop (mkF m 4 #[.val (.long q1), .second, .val (.int p2), .val (.int (p2 &&& (3 : Int32))), .unset, .unset, .unset, .unset] [])) _
    refine XS.iloadN X0.here hx rfl (hb hby at_4) rfl ?_
    show Steps p.tables e below (s₁.setTop (mkF m 5 #[.val (.long q1), .second, .val (.int p2), .val (.int (p2 &&& (3 : Int32))), .unset, .unset, .unset, .unset] [(.int (p2 &&& (3 : Int32)))])) _
    refine XS.iconst X0.here hx rfl (hb hby at_5) ?_
    show Steps p.tables e below (s₁.setTop (mkF m 6 #[.val (.long q1), .second, .val (.int p2), .val (.int (p2 &&& (3 : Int32))), .unset, .unset, .unset, .unset] [(.int (3 : Int32)), (.int (p2 &&& (3 : Int32)))])) _
    refine XS.icmpYes X0.here hx rfl (pc0 := 6) (pc' := 19) rfl (hb hby at_6) rfl (feq hc6).2 (by decide) (by decide) ?_
    show Steps p.tables e below (s₁.setTop (mkF m 19 #[.val (.long q1), .second, .val (.int p2), .val (.int (p2 &&& (3 : Int32))), .unset, .unset, .unset, .unset] [])) _
    refine XS.iloadN X0.here hx rfl (hb hby at_19) rfl ?_
    show Steps p.tables e below (s₁.setTop (mkF m 20 #[.val (.long q1), .second, .val (.int p2), .val (.int (p2 &&& (3 : Int32))), .unset, .unset, .unset, .unset] [(.int (p2 &&& (3 : Int32)))])) _
    refine XS.ifYes X0.here hx rfl (pc0 := 20) (pc' := 31) rfl (hb hby at_20) rfl ((if0 _ _).trans (feq hc20).2) (by decide) (by decide) ?_
    show Steps p.tables e below (s₁.setTop (mkF m 31 #[.val (.long q1), .second, .val (.int p2), .val (.int (p2 &&& (3 : Int32))), .unset, .unset, .unset, .unset] [])) _
    refine XS.iloadN X0.here hx rfl (hb hby at_31) rfl ?_
    show Steps p.tables e below (s₁.setTop (mkF m 32 #[.val (.long q1), .second, .val (.int p2), .val (.int (p2 &&& (3 : Int32))), .unset, .unset, .unset, .unset] [(.int (p2 &&& (3 : Int32)))])) _
    refine XS.iconst X0.here hx rfl (hb hby at_32) ?_
    show Steps p.tables e below (s₁.setTop (mkF m 33 #[.val (.long q1), .second, .val (.int p2), .val (.int (p2 &&& (3 : Int32))), .unset, .unset, .unset, .unset] [(.int (1 : Int32)), (.int (p2 &&& (3 : Int32)))])) _
    refine XS.icmpYes X0.here hx rfl (pc0 := 33) (pc' := 44) rfl (hb hby at_33) rfl (feq hc33).2 (by decide) (by decide) ?_
    show Steps p.tables e below (s₁.setTop (mkF m 44 #[.val (.long q1), .second, .val (.int p2), .val (.int (p2 &&& (3 : Int32))), .unset, .unset, .unset, .unset] [])) _
    refine X0.ldc2Long hx hown (mvT hZ (hw _ (List.mem_of_getElem? (i := 0) rfl))) (g := (mkF m 44 #[.val (.long q1), .second, .val (.int p2), .val (.int (p2 &&& (3 : Int32))), .unset, .unset, .unset, .unset] [])) rfl (hb hby at_44) _ ?_
    show Steps p.tables e below (s₁.setTop (mkF m 47 #[.val (.long q1), .second, .val (.int p2), .val (.int (p2 &&& (3 : Int32))), .unset, .unset, .unset, .unset] [(.long (8589934592 : Int64))])) _
    refine XS.lstore X0.here hx rfl (hb hby at_47) rfl (l' := #[.val (.long q1), .second, .val (.int p2), .val (.int (p2 &&& (3 : Int32))), .unset, .unset, .val (.long (8589934592 : Int64)), .second]) rfl ?_
    show Steps p.tables e below (s₁.setTop (mkF m 49 #[.val (.long q1), .second, .val (.int p2), .val (.int (p2 &&& (3 : Int32))), .unset, .unset, .val (.long (8589934592 : Int64)), .second] [])) _
    refine XS.lload X0.here hx rfl (hb hby at_49) rfl ?_
    show Steps p.tables e below (s₁.setTop (mkF m 51 #[.val (.long q1), .second, .val (.int p2), .val (.int (p2 &&& (3 : Int32))), .unset, .unset, .val (.long (8589934592 : Int64)), .second] [(.long (8589934592 : Int64))])) _
    refine XS.lloadN X0.here hx rfl (hb hby at_51) rfl ?_
    show Steps p.tables e below (s₁.setTop (mkF m 52 #[.val (.long q1), .second, .val (.int p2), .val (.int (p2 &&& (3 : Int32))), .unset, .unset, .val (.long (8589934592 : Int64)), .second] [(.long q1), (.long (8589934592 : Int64))])) _
    refine X0.ldc2Long hx hown (mvT hZ (hw _ (List.mem_of_getElem? (i := 1) rfl))) (g := (mkF m 52 #[.val (.long q1), .second, .val (.int p2), .val (.int (p2 &&& (3 : Int32))), .unset, .unset, .val (.long (8589934592 : Int64)), .second] [(.long q1), (.long (8589934592 : Int64))])) rfl (hb hby at_52) _ ?_
    show Steps p.tables e below (s₁.setTop (mkF m 55 #[.val (.long q1), .second, .val (.int p2), .val (.int (p2 &&& (3 : Int32))), .unset, .unset, .val (.long (8589934592 : Int64)), .second] [(.long (5 : Int64)), (.long q1), (.long (8589934592 : Int64))])) _
    refine XS.lrem X0.here hx rfl (hb hby at_55) rfl hnz55 ?_
    show Steps p.tables e below (s₁.setTop (mkF m 56 #[.val (.long q1), .second, .val (.int p2), .val (.int (p2 &&& (3 : Int32))), .unset, .unset, .val (.long (8589934592 : Int64)), .second] [(.long (q1 - ((q1 / (5 : Int64)) * (5 : Int64)))), (.long (8589934592 : Int64))])) _
    refine XS.ladd X0.here hx rfl (hb hby at_56) rfl ?_
    show Steps p.tables e below (s₁.setTop (mkF m 57 #[.val (.long q1), .second, .val (.int p2), .val (.int (p2 &&& (3 : Int32))), .unset, .unset, .val (.long (8589934592 : Int64)), .second] [(.long ((8589934592 : Int64) + (q1 - ((q1 / (5 : Int64)) * (5 : Int64)))))])) _
    refine XS.lstore X0.here hx rfl (hb hby at_57) rfl (l' := #[.val (.long q1), .second, .val (.int p2), .val (.int (p2 &&& (3 : Int32))), .val (.long ((8589934592 : Int64) + (q1 - ((q1 / (5 : Int64)) * (5 : Int64))))), .second, .val (.long (8589934592 : Int64)), .second]) rfl ?_
    show Steps p.tables e below (s₁.setTop (mkF m 59 #[.val (.long q1), .second, .val (.int p2), .val (.int (p2 &&& (3 : Int32))), .val (.long ((8589934592 : Int64) + (q1 - ((q1 / (5 : Int64)) * (5 : Int64))))), .second, .val (.long (8589934592 : Int64)), .second] [])) _
    refine XS.lload X0.here hx rfl (hb hby at_59) rfl ?_
    show Steps p.tables e below (s₁.setTop (mkF m 61 #[.val (.long q1), .second, .val (.int p2), .val (.int (p2 &&& (3 : Int32))), .val (.long ((8589934592 : Int64) + (q1 - ((q1 / (5 : Int64)) * (5 : Int64))))), .second, .val (.long (8589934592 : Int64)), .second] [(.long ((8589934592 : Int64) + (q1 - ((q1 / (5 : Int64)) * (5 : Int64)))))])) _
    refine X0.ldc2Long hx hown (mvT hZ (hw _ (List.mem_of_getElem? (i := 2) rfl))) (g := (mkF m 61 #[.val (.long q1), .second, .val (.int p2), .val (.int (p2 &&& (3 : Int32))), .val (.long ((8589934592 : Int64) + (q1 - ((q1 / (5 : Int64)) * (5 : Int64))))), .second, .val (.long (8589934592 : Int64)), .second] [(.long ((8589934592 : Int64) + (q1 - ((q1 / (5 : Int64)) * (5 : Int64)))))])) rfl (hb hby at_61) _ ?_
    show Steps p.tables e below (s₁.setTop (mkF m 64 #[.val (.long q1), .second, .val (.int p2), .val (.int (p2 &&& (3 : Int32))), .val (.long ((8589934592 : Int64) + (q1 - ((q1 / (5 : Int64)) * (5 : Int64))))), .second, .val (.long (8589934592 : Int64)), .second] [(.long (131072 : Int64)), (.long ((8589934592 : Int64) + (q1 - ((q1 / (5 : Int64)) * (5 : Int64)))))])) _
    refine XS.lcmp X0.here hx rfl (hb hby at_64) rfl ?_
    show Steps p.tables e below (s₁.setTop (mkF m 65 #[.val (.long q1), .second, .val (.int p2), .val (.int (p2 &&& (3 : Int32))), .val (.long ((8589934592 : Int64) + (q1 - ((q1 / (5 : Int64)) * (5 : Int64))))), .second, .val (.long (8589934592 : Int64)), .second] [(.int (lcmpW ((8589934592 : Int64) + (q1 - ((q1 / (5 : Int64)) * (5 : Int64)))) (131072 : Int64)))])) _
    refine XS.ifYes X0.here hx rfl (pc0 := 65) (pc' := 74) rfl (hb hby at_65) rfl ((if0 _ _).trans (tlt hc65).2.2.1) (by decide) (by decide) ?_
    show Steps p.tables e below (s₁.setTop (mkF m 74 #[.val (.long q1), .second, .val (.int p2), .val (.int (p2 &&& (3 : Int32))), .val (.long ((8589934592 : Int64) + (q1 - ((q1 / (5 : Int64)) * (5 : Int64))))), .second, .val (.long (8589934592 : Int64)), .second] [])) _
    refine XS.lload X0.here hx rfl (hb hby at_74) rfl ?_
    show Steps p.tables e below (s₁.setTop (mkF m 76 #[.val (.long q1), .second, .val (.int p2), .val (.int (p2 &&& (3 : Int32))), .val (.long ((8589934592 : Int64) + (q1 - ((q1 / (5 : Int64)) * (5 : Int64))))), .second, .val (.long (8589934592 : Int64)), .second] [(.long ((8589934592 : Int64) + (q1 - ((q1 / (5 : Int64)) * (5 : Int64)))))])) _
    refine X0.ldc2Long hx hown (mvT hZ (hw _ (List.mem_of_getElem? (i := 3) rfl))) (g := (mkF m 76 #[.val (.long q1), .second, .val (.int p2), .val (.int (p2 &&& (3 : Int32))), .val (.long ((8589934592 : Int64) + (q1 - ((q1 / (5 : Int64)) * (5 : Int64))))), .second, .val (.long (8589934592 : Int64)), .second] [(.long ((8589934592 : Int64) + (q1 - ((q1 / (5 : Int64)) * (5 : Int64)))))])) rfl (hb hby at_76) _ ?_
    show Steps p.tables e below (s₁.setTop (mkF m 79 #[.val (.long q1), .second, .val (.int p2), .val (.int (p2 &&& (3 : Int32))), .val (.long ((8589934592 : Int64) + (q1 - ((q1 / (5 : Int64)) * (5 : Int64))))), .second, .val (.long (8589934592 : Int64)), .second] [(.long (33554432 : Int64)), (.long ((8589934592 : Int64) + (q1 - ((q1 / (5 : Int64)) * (5 : Int64)))))])) _
    refine XS.lcmp X0.here hx rfl (hb hby at_79) rfl ?_
    show Steps p.tables e below (s₁.setTop (mkF m 80 #[.val (.long q1), .second, .val (.int p2), .val (.int (p2 &&& (3 : Int32))), .val (.long ((8589934592 : Int64) + (q1 - ((q1 / (5 : Int64)) * (5 : Int64))))), .second, .val (.long (8589934592 : Int64)), .second] [(.int (lcmpW ((8589934592 : Int64) + (q1 - ((q1 / (5 : Int64)) * (5 : Int64)))) (33554432 : Int64)))])) _
    refine XS.ifYes X0.here hx rfl (pc0 := 80) (pc' := 89) rfl (hb hby at_80) rfl ((if0 _ _).trans (tlt hc80).2.2.1) (by decide) (by decide) ?_
    show Steps p.tables e below (s₁.setTop (mkF m 89 #[.val (.long q1), .second, .val (.int p2), .val (.int (p2 &&& (3 : Int32))), .val (.long ((8589934592 : Int64) + (q1 - ((q1 / (5 : Int64)) * (5 : Int64))))), .second, .val (.long (8589934592 : Int64)), .second] [])) _
    refine XS.lload X0.here hx rfl (hb hby at_89) rfl ?_
    show Steps p.tables e below (s₁.setTop (mkF m 91 #[.val (.long q1), .second, .val (.int p2), .val (.int (p2 &&& (3 : Int32))), .val (.long ((8589934592 : Int64) + (q1 - ((q1 / (5 : Int64)) * (5 : Int64))))), .second, .val (.long (8589934592 : Int64)), .second] [(.long ((8589934592 : Int64) + (q1 - ((q1 / (5 : Int64)) * (5 : Int64)))))])) _
    refine X0.ldc2Long hx hown (mvT hZ (hw _ (List.mem_of_getElem? (i := 0) rfl))) (g := (mkF m 91 #[.val (.long q1), .second, .val (.int p2), .val (.int (p2 &&& (3 : Int32))), .val (.long ((8589934592 : Int64) + (q1 - ((q1 / (5 : Int64)) * (5 : Int64))))), .second, .val (.long (8589934592 : Int64)), .second] [(.long ((8589934592 : Int64) + (q1 - ((q1 / (5 : Int64)) * (5 : Int64)))))])) rfl (hb hby at_91) _ ?_
    show Steps p.tables e below (s₁.setTop (mkF m 94 #[.val (.long q1), .second, .val (.int p2), .val (.int (p2 &&& (3 : Int32))), .val (.long ((8589934592 : Int64) + (q1 - ((q1 / (5 : Int64)) * (5 : Int64))))), .second, .val (.long (8589934592 : Int64)), .second] [(.long (8589934592 : Int64)), (.long ((8589934592 : Int64) + (q1 - ((q1 / (5 : Int64)) * (5 : Int64)))))])) _
    refine XS.lcmp X0.here hx rfl (hb hby at_94) rfl ?_
    show Steps p.tables e below (s₁.setTop (mkF m 95 #[.val (.long q1), .second, .val (.int p2), .val (.int (p2 &&& (3 : Int32))), .val (.long ((8589934592 : Int64) + (q1 - ((q1 / (5 : Int64)) * (5 : Int64))))), .second, .val (.long (8589934592 : Int64)), .second] [(.int (lcmpW ((8589934592 : Int64) + (q1 - ((q1 / (5 : Int64)) * (5 : Int64)))) (8589934592 : Int64)))])) _
    refine XS.ifYes X0.here hx rfl (pc0 := 95) (pc' := 105) rfl (hb hby at_95) rfl ((if0 _ _).trans (tlt hc95).2.2.1) (by decide) (by decide) ?_
    show Steps p.tables e below (s₁.setTop (mkF m 105 #[.val (.long q1), .second, .val (.int p2), .val (.int (p2 &&& (3 : Int32))), .val (.long ((8589934592 : Int64) + (q1 - ((q1 / (5 : Int64)) * (5 : Int64))))), .second, .val (.long (8589934592 : Int64)), .second] [])) _
    refine XS.bipush X0.here hx rfl (hb hby at_105) ?_
    show Steps p.tables e below (s₁.setTop (mkF m 107 #[.val (.long q1), .second, .val (.int p2), .val (.int (p2 &&& (3 : Int32))), .val (.long ((8589934592 : Int64) + (q1 - ((q1 / (5 : Int64)) * (5 : Int64))))), .second, .val (.long (8589934592 : Int64)), .second] [(.int (7 : Int32))])) _
    refine XS.istore X0.here hx rfl (hb hby at_107) rfl (l' := #[.val (.long q1), .second, .val (.int p2), .val (.int (p2 &&& (3 : Int32))), .val (.long ((8589934592 : Int64) + (q1 - ((q1 / (5 : Int64)) * (5 : Int64))))), .second, .val (.int (7 : Int32)), .unset]) rfl ?_
    show Steps p.tables e below (s₁.setTop (mkF m 109 #[.val (.long q1), .second, .val (.int p2), .val (.int (p2 &&& (3 : Int32))), .val (.long ((8589934592 : Int64) + (q1 - ((q1 / (5 : Int64)) * (5 : Int64))))), .second, .val (.int (7 : Int32)), .unset] [])) _
    refine XS.lload X0.here hx rfl (hb hby at_109) rfl ?_
    show Steps p.tables e below (s₁.setTop (mkF m 111 #[.val (.long q1), .second, .val (.int p2), .val (.int (p2 &&& (3 : Int32))), .val (.long ((8589934592 : Int64) + (q1 - ((q1 / (5 : Int64)) * (5 : Int64))))), .second, .val (.int (7 : Int32)), .unset] [(.long ((8589934592 : Int64) + (q1 - ((q1 / (5 : Int64)) * (5 : Int64)))))])) _
    refine st3 _ ?_
    show Steps p.tables e below (T3.setTop (mkF m 114 #[.val (.long q1), .second, .val (.int p2), .val (.int (p2 &&& (3 : Int32))), .val (.long ((8589934592 : Int64) + (q1 - ((q1 / (5 : Int64)) * (5 : Int64))))), .second, .val (.int (7 : Int32)), .unset] [(.int (7 : Int32))])) _
    refine XS.iload X3.here hx rfl (hb hby at_114) rfl ?_
    show Steps p.tables e below (T3.setTop (mkF m 116 #[.val (.long q1), .second, .val (.int p2), .val (.int (p2 &&& (3 : Int32))), .val (.long ((8589934592 : Int64) + (q1 - ((q1 / (5 : Int64)) * (5 : Int64))))), .second, .val (.int (7 : Int32)), .unset] [(.int (7 : Int32)), (.int (7 : Int32))])) _
    refine XS.icmpNo X3.here hx rfl (hb hby at_116) rfl (teq (rfl : (7 : Int32) = (7 : Int32))).2 ?_
    show Steps p.tables e below (T3.setTop (mkF m 119 #[.val (.long q1), .second, .val (.int p2), .val (.int (p2 &&& (3 : Int32))), .val (.long ((8589934592 : Int64) + (q1 - ((q1 / (5 : Int64)) * (5 : Int64))))), .second, .val (.int (7 : Int32)), .unset] [])) _
    refine XS.iconst X3.here hx rfl (hb hby at_119) ?_
    show Steps p.tables e below (T3.setTop (mkF m 120 #[.val (.long q1), .second, .val (.int p2), .val (.int (p2 &&& (3 : Int32))), .val (.long ((8589934592 : Int64) + (q1 - ((q1 / (5 : Int64)) * (5 : Int64))))), .second, .val (.int (7 : Int32)), .unset] [(.int (1 : Int32))])) _
    refine XS.goto X3.here hx rfl (pc0 := 120) (pc' := 124) rfl (hb hby at_120) (by decide) (by decide) ?_
    show Steps p.tables e below (T3.setTop (mkF m 124 #[.val (.long q1), .second, .val (.int p2), .val (.int (p2 &&& (3 : Int32))), .val (.long ((8589934592 : Int64) + (q1 - ((q1 / (5 : Int64)) * (5 : Int64))))), .second, .val (.int (7 : Int32)), .unset] [(.int (1 : Int32))])) _
    exact retN X3 hx (t := .boolean) Bd.returns (by simp) (hb hby at_124) hr
  · show Q0 Z q1 p2 h0 n0 _ T3.heap _
    exact ⟨rfl, N3⟩
set_option maxRecDepth 65536 in
set_option maxHeartbeats 40000000 in
theorem comes_1 {Post : Tables → Env → Array Value → State → Outcome → State → Prop} (hpost : ∀ tb e args s v u, (limb_1_1.after args s (.returned v) u = true ∧ limb_1_2.after args s (.returned v) u = true ∧ True) → FrameEnd s (.returned v) u (Jvm.fieldLocs frame_1_writes args s ++ Jvm.arrayLocs frame_1_arrays args s ++ Jvm.staticLocs frame_1_statics s) 0 0 → Post tb e args s (.returned v) u) :
    ArmFor flags0 classFile x code maxLocals ret World_1 tables_1 room_1 Calls_1 rest_1 Pre_1 Post := by
  intro l hfl _ _ p e ha hc hk s m args below hf hA hF happ hP
  obtain ⟨hcalls, hrest, hpre⟩ := hP
  obtain ⟨-, -, -, hnamed, -, -, -, hat⟩ := (Spec.applies_iff hf).mp happ
  obtain ⟨hg, hn⟩ := and_e (Cond.before_iff.mp (show (Jvm.Cond.and given_1 narrow_1).before args s = true from hpre))
  obtain ⟨g4, g5⟩ := and_e hg
  obtain ⟨g6, g7⟩ := and_e g5
  obtain ⟨w0, w1, rfl⟩ : ∃ w0 w1 : Value, args = #[w0, w1] := by
    have hs : args.size = 2 := by simpa [Cond.value, given_1] using g4
    obtain ⟨L⟩ := args
    match L, hs with
    | [w0, w1], _ => exact ⟨w0, w1, rfl⟩
  have hw := fun d (hd : d ∈ tables_1) => atoms_spec (ws := Jvm.Cond.code x code maxLocals ret :: tables_1) hat d (List.mem_cons_of_mem _ hd)
  have hfit : Fit s := fun {y c} hc i hi => by
    obtain ⟨ha, rfl⟩ := Array.getElem?_eq_some_iff.mp hc
    have q := List.all_eq_true.mp ((Array.all_eq_true_iff_forall_mem.mp hF) _ (Array.getElem_mem ha)) i (List.mem_range.mpr hi)
    simpa [Array.getElem?_eq_getElem hi] using q
  obtain ⟨i0, ei0⟩ := isL_v g6
  obtain rfl : w0 = (.long i0) := Option.some.inj ei0
  obtain ⟨i1, ei1⟩ := is_v g7
  obtain rfl : w1 = (.int i1) := Option.some.inj ei1
  by_cases hc6 : (i1 &&& (3 : Int32)) = (3 : Int32)
  · by_cases hc65 : (0 : Int32) < (lcmpW (i0 - ((i0 / (2199023255553 : Int64)) * (2199023255553 : Int64))) (131072 : Int64))
    · by_cases hc80 : (0 : Int32) < (lcmpW (i0 - ((i0 / (2199023255553 : Int64)) * (2199023255553 : Int64))) (33554432 : Int64))
      · by_cases hc95 : (0 : Int32) < (lcmpW (i0 - ((i0 / (2199023255553 : Int64)) * (2199023255553 : Int64))) (8589934592 : Int64))
        · obtain ⟨n, o, h1, h2, h3, _, L, rfl, ⟨rfl, N⟩, hq⟩ := rm0_f7 l s _ hw tables_1 i0 i1 s.heap s.heap.size (Nat.le_refl _) hc6 (by decide) hc65 hc80 hc95 p e ha hc hk s m _ below hf ((Spec.applies_iff_loose hf).mp happ).1 ⟨rfl, State.Warmed39.refl s, rfl⟩ trivial
          refine ⟨n, _, h1, h2, h3, hpost _ _ _ _ _ _ ⟨Cond.after_iff.mpr rfl, Cond.after_iff.mpr (eq_i res_at (Term.int_eval (1)) rfl), trivial⟩ ⟨hq.1, hq.2.1, (hq.2.2.sift fun y hy => Or.inr (N y hy)).mono (by decide) (by decide)⟩⟩
        · obtain ⟨n, o, h1, h2, h3, _, L, rfl, ⟨rfl, N⟩, hq⟩ := rm0_f6 l s _ hw tables_1 i0 i1 s.heap s.heap.size (Nat.le_refl _) hc6 (by decide) hc65 hc80 hc95 p e ha hc hk s m _ below hf ((Spec.applies_iff_loose hf).mp happ).1 ⟨rfl, State.Warmed39.refl s, rfl⟩ trivial
          refine ⟨n, _, h1, h2, h3, hpost _ _ _ _ _ _ ⟨Cond.after_iff.mpr rfl, Cond.after_iff.mpr (eq_i res_at (Term.int_eval (1)) rfl), trivial⟩ ⟨hq.1, hq.2.1, (hq.2.2.sift fun y hy => Or.inr (N y hy)).mono (by decide) (by decide)⟩⟩
      · obtain ⟨n, o, h1, h2, h3, _, L, rfl, ⟨rfl, N⟩, hq⟩ := rm0_f5 l s _ hw tables_1 i0 i1 s.heap s.heap.size (Nat.le_refl _) hc6 (by decide) hc65 hc80 p e ha hc hk s m _ below hf ((Spec.applies_iff_loose hf).mp happ).1 ⟨rfl, State.Warmed39.refl s, rfl⟩ trivial
        refine ⟨n, _, h1, h2, h3, hpost _ _ _ _ _ _ ⟨Cond.after_iff.mpr rfl, Cond.after_iff.mpr (eq_i res_at (Term.int_eval (1)) rfl), trivial⟩ ⟨hq.1, hq.2.1, (hq.2.2.sift fun y hy => Or.inr (N y hy)).mono (by decide) (by decide)⟩⟩
    · obtain ⟨n, o, h1, h2, h3, _, L, rfl, ⟨rfl, N⟩, hq⟩ := rm0_f4 l s _ hw tables_1 i0 i1 s.heap s.heap.size (Nat.le_refl _) hc6 (by decide) hc65 p e ha hc hk s m _ below hf ((Spec.applies_iff_loose hf).mp happ).1 ⟨rfl, State.Warmed39.refl s, rfl⟩ trivial
      refine ⟨n, _, h1, h2, h3, hpost _ _ _ _ _ _ ⟨Cond.after_iff.mpr rfl, Cond.after_iff.mpr (eq_i res_at (Term.int_eval (1)) rfl), trivial⟩ ⟨hq.1, hq.2.1, (hq.2.2.sift fun y hy => Or.inr (N y hy)).mono (by decide) (by decide)⟩⟩
  · by_cases hc20 : (i1 &&& (3 : Int32)) = (0 : Int32)
    · by_cases hc65 : (0 : Int32) < (lcmpW ((131072 : Int64) + (i0 - ((i0 / (5 : Int64)) * (5 : Int64)))) (131072 : Int64))
      · by_cases hc80 : (0 : Int32) < (lcmpW ((131072 : Int64) + (i0 - ((i0 / (5 : Int64)) * (5 : Int64)))) (33554432 : Int64))
        · by_cases hc95 : (0 : Int32) < (lcmpW ((131072 : Int64) + (i0 - ((i0 / (5 : Int64)) * (5 : Int64)))) (8589934592 : Int64))
          · exfalso
            have r1 := own_b5 i0 own_k4 (by omega) (by omega)
            have r3 := own_gt own_k6 hc95
            omega
          · exfalso
            have r1 := own_b5 i0 own_k4 (by omega) (by omega)
            have r2 := own_le own_k6 hc95
            have r3 := own_gt own_k5 hc80
            omega
        · obtain ⟨n, o, h1, h2, h3, _, L, rfl, ⟨rfl, N⟩, hq⟩ := rm0_tf5 l s _ hw tables_1 i0 i1 s.heap s.heap.size (Nat.le_refl _) hc6 hc20 (by decide) hc65 hc80 p e ha hc hk s m _ below hf ((Spec.applies_iff_loose hf).mp happ).1 ⟨rfl, State.Warmed39.refl s, rfl⟩ trivial
          refine ⟨n, _, h1, h2, h3, hpost _ _ _ _ _ _ ⟨Cond.after_iff.mpr rfl, Cond.after_iff.mpr (eq_i res_at (Term.int_eval (1)) rfl), trivial⟩ ⟨hq.1, hq.2.1, (hq.2.2.sift fun y hy => Or.inr (N y hy)).mono (by decide) (by decide)⟩⟩
      · obtain ⟨n, o, h1, h2, h3, _, L, rfl, ⟨rfl, N⟩, hq⟩ := rm0_tf4 l s _ hw tables_1 i0 i1 s.heap s.heap.size (Nat.le_refl _) hc6 hc20 (by decide) hc65 p e ha hc hk s m _ below hf ((Spec.applies_iff_loose hf).mp happ).1 ⟨rfl, State.Warmed39.refl s, rfl⟩ trivial
        refine ⟨n, _, h1, h2, h3, hpost _ _ _ _ _ _ ⟨Cond.after_iff.mpr rfl, Cond.after_iff.mpr (eq_i res_at (Term.int_eval (1)) rfl), trivial⟩ ⟨hq.1, hq.2.1, (hq.2.2.sift fun y hy => Or.inr (N y hy)).mono (by decide) (by decide)⟩⟩
    · by_cases hc33 : (i1 &&& (3 : Int32)) = (1 : Int32)
      · by_cases hc65 : (0 : Int32) < (lcmpW ((33554432 : Int64) + (i0 - ((i0 / (5 : Int64)) * (5 : Int64)))) (131072 : Int64))
        · by_cases hc80 : (0 : Int32) < (lcmpW ((33554432 : Int64) + (i0 - ((i0 / (5 : Int64)) * (5 : Int64)))) (33554432 : Int64))
          · by_cases hc95 : (0 : Int32) < (lcmpW ((33554432 : Int64) + (i0 - ((i0 / (5 : Int64)) * (5 : Int64)))) (8589934592 : Int64))
            · exfalso
              have r1 := own_b5 i0 own_k5 (by omega) (by omega)
              have r3 := own_gt own_k6 hc95
              omega
            · obtain ⟨n, o, h1, h2, h3, _, L, rfl, ⟨rfl, N⟩, hq⟩ := rm0_ttf6 l s _ hw tables_1 i0 i1 s.heap s.heap.size (Nat.le_refl _) hc6 hc20 hc33 (by decide) hc65 hc80 hc95 p e ha hc hk s m _ below hf ((Spec.applies_iff_loose hf).mp happ).1 ⟨rfl, State.Warmed39.refl s, rfl⟩ trivial
              refine ⟨n, _, h1, h2, h3, hpost _ _ _ _ _ _ ⟨Cond.after_iff.mpr rfl, Cond.after_iff.mpr (eq_i res_at (Term.int_eval (1)) rfl), trivial⟩ ⟨hq.1, hq.2.1, (hq.2.2.sift fun y hy => Or.inr (N y hy)).mono (by decide) (by decide)⟩⟩
          · obtain ⟨n, o, h1, h2, h3, _, L, rfl, ⟨rfl, N⟩, hq⟩ := rm0_ttf5 l s _ hw tables_1 i0 i1 s.heap s.heap.size (Nat.le_refl _) hc6 hc20 hc33 (by decide) hc65 hc80 p e ha hc hk s m _ below hf ((Spec.applies_iff_loose hf).mp happ).1 ⟨rfl, State.Warmed39.refl s, rfl⟩ trivial
            refine ⟨n, _, h1, h2, h3, hpost _ _ _ _ _ _ ⟨Cond.after_iff.mpr rfl, Cond.after_iff.mpr (eq_i res_at (Term.int_eval (1)) rfl), trivial⟩ ⟨hq.1, hq.2.1, (hq.2.2.sift fun y hy => Or.inr (N y hy)).mono (by decide) (by decide)⟩⟩
        · exfalso
          have r1 := own_b5 i0 own_k5 (by omega) (by omega)
          have r2 := own_le own_k4 hc65
          omega
      · by_cases hc65 : (0 : Int32) < (lcmpW ((8589934592 : Int64) + (i0 - ((i0 / (5 : Int64)) * (5 : Int64)))) (131072 : Int64))
        · by_cases hc80 : (0 : Int32) < (lcmpW ((8589934592 : Int64) + (i0 - ((i0 / (5 : Int64)) * (5 : Int64)))) (33554432 : Int64))
          · by_cases hc95 : (0 : Int32) < (lcmpW ((8589934592 : Int64) + (i0 - ((i0 / (5 : Int64)) * (5 : Int64)))) (8589934592 : Int64))
            · obtain ⟨n, o, h1, h2, h3, _, L, rfl, ⟨rfl, N⟩, hq⟩ := rm0_ttt7 l s _ hw tables_1 i0 i1 s.heap s.heap.size (Nat.le_refl _) hc6 hc20 hc33 (by decide) hc65 hc80 hc95 p e ha hc hk s m _ below hf ((Spec.applies_iff_loose hf).mp happ).1 ⟨rfl, State.Warmed39.refl s, rfl⟩ trivial
              refine ⟨n, _, h1, h2, h3, hpost _ _ _ _ _ _ ⟨Cond.after_iff.mpr rfl, Cond.after_iff.mpr (eq_i res_at (Term.int_eval (1)) rfl), trivial⟩ ⟨hq.1, hq.2.1, (hq.2.2.sift fun y hy => Or.inr (N y hy)).mono (by decide) (by decide)⟩⟩
            · obtain ⟨n, o, h1, h2, h3, _, L, rfl, ⟨rfl, N⟩, hq⟩ := rm0_ttt6 l s _ hw tables_1 i0 i1 s.heap s.heap.size (Nat.le_refl _) hc6 hc20 hc33 (by decide) hc65 hc80 hc95 p e ha hc hk s m _ below hf ((Spec.applies_iff_loose hf).mp happ).1 ⟨rfl, State.Warmed39.refl s, rfl⟩ trivial
              refine ⟨n, _, h1, h2, h3, hpost _ _ _ _ _ _ ⟨Cond.after_iff.mpr rfl, Cond.after_iff.mpr (eq_i res_at (Term.int_eval (1)) rfl), trivial⟩ ⟨hq.1, hq.2.1, (hq.2.2.sift fun y hy => Or.inr (N y hy)).mono (by decide) (by decide)⟩⟩
          · exfalso
            have r1 := own_b5 i0 own_k6 (by omega) (by omega)
            have r2 := own_le own_k5 hc80
            have r3 := own_gt own_k4 hc65
            omega
        · exfalso
          have r1 := own_b5 i0 own_k6 (by omega) (by omega)
          have r2 := own_le own_k4 hc65
          omega
theorem main_1_1 : Claimed_1_1 := comes_1 fun _ _ _ _ _ _ h hF => ⟨h.1, hF⟩
theorem main_1_2 : Claimed_1_2 := comes_1 fun _ _ _ _ _ _ h hF => ⟨h.2.1, hF⟩
end Jvm.Pilot.@@N@@
namespace Jvm.Pilot.@@N@@
open Jvm Jvm.ClassFile Sem Op Lib Jvm.Free Jvm.Stand Jvm.Pilot.@@N@@.Jvm.D
/-! MADE BY PROGRAM (witnessworld.py) out of the Statement's table words and the real class files: 7 classes; the members and pool entries that the words name. The judged class is class 1, her method 1. -/
namespace start1
open Jvm.ClassFile
def u (s : String) : CpInfo := .utf8 (stringToUtf16 s)
/-- a pool by its gaps: so many unusable entries, then the entry; so many at the end -/
def gap : Nat → List CpInfo → List CpInfo
  | 0, r => r
  | n + 1, r => .unusable :: gap n r
def poolList (es : List (Nat × CpInfo)) (last : Nat) : List CpInfo := es.foldr (fun e r => gap e.1 (e.2 :: r)) (gap last [])
def pool (es : List (Nat × CpInfo)) (last : Nat) : Array CpInfo := ⟨poolList es last⟩
def fileOf (pool : Array CpInfo) (this : Nat) (attrs : Array Attribute := #[]) (ms : Array MethodInfo := #[]) (fl : Nat := 33) (sup : Nat := 0) (ifs : Array Nat := #[]) (fds : Array FieldInfo := #[]) : ClassFile where
  minorVersion := 0
  majorVersion := 65
  constantPool := pool
  accessFlags := fl
  thisClass := this
  superClass := sup
  interfaces := ifs
  fields := fds
  methods := ms
  attributes := attrs
def plain (name : String) (sup : Option ClassId) : Class where
  name := name
  kind := .ordinary
  loader := none
  accessFlags := 33
  super := sup
  interfaces := #[]
  cf := none
  fields := #[]
  methods := #[]
  instanceTypes := #[]
  staticTypes := #[]
  resolved := #[]
  callSites := []
  init := .initialized
  statics := none
  mirror := none

def pool0 : Array CpInfo := pool [(5, u "<init>"), (0, u "()V"), (1, .class_ 10), (1, u "java/lang/Object")] 113

def k0m0 : Method := { name := "<init>", desc := "()V", sig := { parameters := [], returnType := none }, accessFlags := 1, code := none }
/-- java/lang/Object -/
def k0 : Class := { plain "java/lang/Object" none with
  accessFlags := 33
  interfaces := #[]
  cf := some (fileOf pool0 8 #[] #[{ accessFlags := 1, nameIndex := 5, descriptorIndex := 6, attributes := #[] }] 33 0 #[] #[])
  fields := #[]
  methods := #[k0m0]
  instanceTypes := #[]
  staticTypes := #[]
  resolved := Array.replicate 124 none
  statics := none }

def pool1 : Array CpInfo := pool [(2, .class_ 4), (1, u "java/lang/Object"), (0, u "<init>"), (0, u "()V"), (0, .long 2199023255553), (1, .long 131072), (1, .long 33554432), (1, .long 8589934592), (1, .long 5), (1, .methodref 18 19), (0, .class_ 20), (0, .nameAndType 21 22), (0, u "com/example/key_steward/keysteward/steward/TokenSerials"), (0, u "length"), (0, u "(J)I"), (0, .class_ 24), (0, u "com/example/key_steward/keysteward/steward/TokenSerialsLengthPinLaw"), (2, u "law"), (0, u "(JI)Z")] 3

def k1m0 : Method := { name := "<init>", desc := "()V", sig := { parameters := [], returnType := none }, accessFlags := 2, code := none }
def k1c1 : Code := { maxStack := 6, maxLocals := 8, code := code, exceptionTable := #[], attributes := #[] }
def k1m1 : Method := { name := "law", desc := "(JI)Z", sig := { parameters := [.long, .int], returnType := some .boolean }, accessFlags := 9, code := some k1c1 }
/-- com/example/key_steward/keysteward/steward/TokenSerialsLengthPinLaw -/
def k1 : Class := { plain "com/example/key_steward/keysteward/steward/TokenSerialsLengthPinLaw" (some 0) with
  accessFlags := 49
  interfaces := #[]
  cf := some (fileOf pool1 23 #[] #[{ accessFlags := 2, nameIndex := 5, descriptorIndex := 6, attributes := #[] }, { accessFlags := 9, nameIndex := 27, descriptorIndex := 28, attributes := #[] }] 49 2 #[] #[])
  fields := #[]
  methods := #[k1m0, k1m1]
  instanceTypes := #[]
  staticTypes := #[]
  resolved := Array.replicate 32 none
  statics := none }

def pool2 : Array CpInfo := pool [(2, .class_ 4), (1, u "java/lang/Object"), (7, .class_ 14), (1, u "com/example/key_steward/keysteward/steward/TokenSerials"), (0, u "last"), (0, u "J"), (2, u "clock"), (0, u "Ljava/time/Clock;"), (8, u "due"), (2, u "BURST_NANOS"), (23, u "INTERVAL_NANOS"), (5, .long 16384), (9, .methodref 12 73), (0, .nameAndType 74 75), (0, u "lapSeconds"), (0, u "(I)J"), (0, .long 2), (3, u "MOST_AHEAD"), (17, u "BURST"), (2, u "PER_SECOND"), (1, u "SHORTEST"), (0, u "I"), (6, u "length"), (0, u "(J)I")] 9

def k2c0 : Code := { maxStack := 6, maxLocals := 3, code := prog_16_method_3_code, exceptionTable := #[], attributes := #[] }
def k2m0 : Method := { name := "length", desc := "(J)I", sig := { parameters := [.long], returnType := some .int }, accessFlags := 8, code := some k2c0 }
def k2c1 : Code := { maxStack := 4, maxLocals := 1, code := prog_16_method_4_code, exceptionTable := #[], attributes := #[] }
def k2m1 : Method := { name := "lapSeconds", desc := "(I)J", sig := { parameters := [.int], returnType := some .long }, accessFlags := 8, code := some k2c1 }
/-- com/example/key_steward/keysteward/steward/TokenSerials -/
def k2 : Class := { plain "com/example/key_steward/keysteward/steward/TokenSerials" (some 0) with
  accessFlags := 48
  interfaces := #[]
  cf := some (fileOf pool2 12 #[] #[{ accessFlags := 8, nameIndex := 111, descriptorIndex := 112, attributes := #[] }, { accessFlags := 8, nameIndex := 74, descriptorIndex := 75, attributes := #[] }] 48 2 #[] #[{ accessFlags := 24, nameIndex := 101, descriptorIndex := 16, attributes := #[] }, { accessFlags := 26, nameIndex := 103, descriptorIndex := 104, attributes := #[] }, { accessFlags := 26, nameIndex := 56, descriptorIndex := 16, attributes := #[] }, { accessFlags := 26, nameIndex := 32, descriptorIndex := 16, attributes := #[] }, { accessFlags := 26, nameIndex := 98, descriptorIndex := 16, attributes := #[] }, { accessFlags := 26, nameIndex := 80, descriptorIndex := 16, attributes := #[] }, { accessFlags := 18, nameIndex := 19, descriptorIndex := 20, attributes := #[] }, { accessFlags := 2, nameIndex := 15, descriptorIndex := 16, attributes := #[] }, { accessFlags := 2, nameIndex := 29, descriptorIndex := 16, attributes := #[] }])
  fields := #[{ name := "PER_SECOND", type := .long, accessFlags := 24, slot := 0, constantValue := 0 }, { name := "SHORTEST", type := .int, accessFlags := 26, slot := 1, constantValue := 0 }, { name := "INTERVAL_NANOS", type := .long, accessFlags := 26, slot := 2, constantValue := 0 }, { name := "BURST_NANOS", type := .long, accessFlags := 26, slot := 3, constantValue := 0 }, { name := "BURST", type := .long, accessFlags := 26, slot := 4, constantValue := 0 }, { name := "MOST_AHEAD", type := .long, accessFlags := 26, slot := 5, constantValue := 0 }, { name := "clock", type := (.object "java/time/Clock"), accessFlags := 18, slot := 0, constantValue := 0 }, { name := "last", type := .long, accessFlags := 2, slot := 1, constantValue := 0 }, { name := "due", type := .long, accessFlags := 2, slot := 2, constantValue := 0 }]
  methods := #[k2m0, k2m1]
  instanceTypes := #[(.object "java/time/Clock"), .long, .long]
  staticTypes := #[.long, .int, .long, .long, .long, .long]
  resolved := Array.replicate 122 none
  statics := none }

def pool3 : Array CpInfo := pool [(1, u "java/lang/Cloneable"), (0, .class_ 1), (0, u "java/lang/Object"), (0, .class_ 3)] 3

/-- java/lang/Cloneable -/
def k3 : Class := { plain "java/lang/Cloneable" (some 0) with
  accessFlags := 1537
  interfaces := #[]
  cf := some (fileOf pool3 2 #[] #[] 1537 4 #[] #[])
  fields := #[]
  methods := #[]
  instanceTypes := #[]
  staticTypes := #[]
  resolved := Array.replicate 8 none
  statics := none }

def pool4 : Array CpInfo := pool [(1, u "java/io/Serializable"), (0, .class_ 1), (0, u "java/lang/Object"), (0, .class_ 3)] 3

/-- java/io/Serializable -/
def k4 : Class := { plain "java/io/Serializable" (some 0) with
  accessFlags := 1537
  interfaces := #[]
  cf := some (fileOf pool4 2 #[] #[] 1537 4 #[] #[])
  fields := #[]
  methods := #[]
  instanceTypes := #[]
  staticTypes := #[]
  resolved := Array.replicate 8 none
  statics := none }

/-- the primitive byte -/
def k5 : Class := { plain "byte" none with kind := .primitive 'B', accessFlags := 0x411 }
/-- [B -/
def k6 : Class := { plain "[B" (some 0) with kind := .array 5 .byte, interfaces := #[3, 4], accessFlags := 1041 }

def heap : Heap := #[]
def classes : Array Class := #[k0, k1, k2, k3, k4, k5, k6]
def interned : List (Array UInt16 × Addr) := []
def slotsUsed : Nat := 0
def theMethod : MethodId := ⟨1, 1⟩
def args0 : Array Value := #[.long 5, .int 7]
def aboutOver (below : List Frame) : State where
  vm := { classes := classes, interned := interned.toArray }
  heap := heap
  slotsUsed := slotsUsed
  threads := #[{ frames := .invoking theMethod args0 :: below }]
def below0 : List Frame := [.native { method := ⟨0, 0⟩, args := #[] }]
def about1 : State := aboutOver below0
def p0 : Program := .bare "" "" ""
def e0 : Env := launch0.env 0 0 0
theorem w_frames : about1.frames = Frame.invoking theMethod args0 :: below0 := rfl
set_option maxRecDepth 65536 in
theorem w_args : argsFit about1.vm theMethod args0 = true := by decide +kernel
set_option maxRecDepth 65536 in
theorem w_heap : heapFits about1 = true := by decide +kernel
set_option maxRecDepth 65536 in
theorem w_runnable : about1.curStatus? = some .runnable := by decide +kernel
set_option maxRecDepth 65536 in
theorem w_alone : about1.alone = true := by decide +kernel
set_option maxRecDepth 65536 in
theorem w_named : about1.methodNamed? x = some theMethod := by decide +kernel
set_option maxRecDepth 65536 in
theorem w_hears : about1.hears theMethod below0 = true := by decide +kernel
set_option maxRecDepth 65536 in
theorem w_ripe : about1.ripe theMethod args0 below0 = true := by decide +kernel
theorem w_running : about1.status = .running := rfl
set_option maxRecDepth 65536 in
theorem w_room : about1.hasRoom e0.platform room_1 = true :=
  launch0.hasRoom_least _ room_1 (by decide +kernel) (by decide +kernel) (by decide +kernel) (by decide +kernel) (by decide +kernel) (by decide +kernel)
theorem allAtoms_all (ts : List Jvm.Cond) (a : Array Jvm.Value) (st : Jvm.State) : (allAtoms ts).before a st = ts.all (fun c => c.before a st) := by
  induction ts with
  | nil => rfl
  | cons c t ih =>
    show (Jvm.Cond.and c (allAtoms t)).before a st = _
    rw [Jvm.Cond.before_and, ih, List.all_cons]
def words1 : List Jvm.Cond := Jvm.Cond.code x code maxLocals ret :: tables_1
/-- a 'code' word, met by the world's own term for the bytes: nothing is compared byte by byte -/
theorem code_word {y : MethodName} {bytes : ByteArray} {mx : Nat} {rt : Option FieldType} {a : Array Value} {s : State} {m : MethodId} {meth : Method} {c : Code} (h1 : s.methodNamed? y = some m) (h2 : s.vm.method? m = some meth) (h3 : meth.code = some c) (h4 : c.code = bytes)
    (h5 : (c.maxLocals == mx && c.exceptionTable.isEmpty && decide (c.maxStack ≤ mostOperands) && decide (meth.sig.returnType = rt) && !meth.locks && decide (parseMethodDescriptor y.desc = some meth.sig)) = true) : (Jvm.Cond.code y bytes mx rt).before a s = true := by
  simp only [Bool.and_eq_true, beq_iff_eq, Bool.not_eq_true', decide_eq_true_eq] at h5
  obtain ⟨⟨⟨⟨⟨g1, g2⟩, g3⟩, g4⟩, g5⟩, g6⟩ := h5
  simp [Cond.before, Cond.holds, Cond.value, h1, h2, h3, h4, g1, g2, g3, g4, g5, g6]
def isCode : Jvm.Cond → Bool
  | .code _ _ _ _ => true
  | _ => false
theorem all_split {L : List Jvm.Cond} {P : Jvm.Cond → Bool} (h1 : L.all (fun c => isCode c || P c) = true) (h2 : ∀ c ∈ L.filter isCode, P c = true) : L.all P = true := by
  refine List.all_eq_true.mpr fun c hc => ?_
  have h := List.all_eq_true.mp h1 c hc
  rcases Bool.eq_false_or_eq_true (isCode c) with hi | hi
  · exact h2 c (List.mem_filter.mpr ⟨hc, hi⟩)
  · simpa [hi] using h
set_option maxRecDepth 65536 in
theorem w_c0 : (Jvm.Cond.code x code maxLocals ret).before args0 about1 = true := code_word (m := ⟨1, 1⟩) (meth := k1m1) (c := k1c1) (by decide +kernel) rfl rfl rfl (by decide +kernel)
set_option maxRecDepth 65536 in
theorem w_c1 : (Jvm.Cond.code ({ cls := "com/example/key_steward/keysteward/steward/TokenSerials", name := "length", desc := "(J)I" } : Jvm.MethodName) prog_16_method_3_code (3 : Nat) (Option.some Jvm.ClassFile.FieldType.int)).before args0 about1 = true := code_word (m := ⟨2, 0⟩) (meth := k2m0) (c := k2c0) (by decide +kernel) rfl rfl rfl (by decide +kernel)
set_option maxRecDepth 65536 in
theorem w_c2 : (Jvm.Cond.code ({ cls := "com/example/key_steward/keysteward/steward/TokenSerials", name := "lapSeconds", desc := "(I)J" } : Jvm.MethodName) prog_16_method_4_code (1 : Nat) (Option.some Jvm.ClassFile.FieldType.long)).before args0 about1 = true := code_word (m := ⟨2, 1⟩) (meth := k2m1) (c := k2c1) (by decide +kernel) rfl rfl rfl (by decide +kernel)
def codes1 : List Jvm.Cond := [Jvm.Cond.code x code maxLocals ret, Jvm.Cond.code ({ cls := "com/example/key_steward/keysteward/steward/TokenSerials", name := "length", desc := "(J)I" } : Jvm.MethodName) prog_16_method_3_code (3 : Nat) (Option.some Jvm.ClassFile.FieldType.int), Jvm.Cond.code ({ cls := "com/example/key_steward/keysteward/steward/TokenSerials", name := "lapSeconds", desc := "(I)J" } : Jvm.MethodName) prog_16_method_4_code (1 : Nat) (Option.some Jvm.ClassFile.FieldType.long)]
set_option maxRecDepth 65536 in
theorem codes_eq : words1.filter isCode = codes1 := rfl
theorem w_codes : ∀ c ∈ words1.filter isCode, c.before args0 about1 = true := by
  rw [codes_eq]
  intro c hc
  simp only [codes1, List.mem_cons, List.not_mem_nil, or_false] at hc
  rcases hc with rfl | rfl | rfl
  · exact w_c0
  · exact w_c1
  · exact w_c2
set_option maxRecDepth 65536 in
theorem w_t1 : words1.all (fun c => isCode c || c.before args0 about1) = true := by decide +kernel
theorem w_tables : (allAtoms (Jvm.Cond.code x code maxLocals ret :: tables_1)).before args0 about1 = true := by
  rw [allAtoms_all]
  show words1.all (fun c => c.before args0 about1) = true
  refine all_split ?_ w_codes
  rw [w_t1]
set_option maxRecDepth 65536 in
theorem w_case : (Jvm.Cond.and given_1 narrow_1).before args0 about1 = true := by decide +kernel
theorem w_applies : (headSpec (Jvm.Cond.code x code maxLocals ret :: tables_1) room_1).applies x e0.platform about1 = true :=
  (Spec.applies_iff w_frames).mpr ⟨w_running, w_runnable, w_alone, w_named, w_hears, w_ripe, w_room, w_tables⟩
theorem atStart : AtStart classFile x code maxLocals ret World_1 tables_1 room_1 Calls_1 rest_1 Pre_1 launch0 p0 e0 about1 theMethod args0 below0 :=
  ⟨lists_1, trivial, launch0.admits_env _ _ _, launch0.least_env, fairChoices_fair.cas, fairChoices_fair.clock, w_frames, w_args, w_heap, w_applies, trivial, trivial, w_case⟩
end start1
theorem witness_1 : WitnessClaimed_1 := ⟨start1.p0, start1.e0, start1.about1, start1.theMethod, start1.args0, start1.below0, start1.atStart⟩
end Jvm.Pilot.@@N@@
