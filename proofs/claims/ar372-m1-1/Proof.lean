import JvmDerived
import JvmDerived.Pilot.@@N@@Statement
import JvmDerived.Pilot.@@N@@Code
set_option linter.unusedVariables false
set_option linter.unusedSimpArgs false
@@BLOCK:NumsL.lean.txt@@
namespace Jvm.RoadKit
open Sem ClassFile Op Lib Jvm.Stand Jvm.Free Jvm.LawKit
section New
variable {p : Program} {l : Launch} {e : Env} {R : Room} {s : State} {m : MethodId} {args : Array Value} {below : List Frame} {meth : Method} {c : Code} {T : State} {locs : List Loc} {cells slots : Nat}
theorem retI (X : Stand p l e R s m args below meth c T locs cells slots) (hx : p.tables.exec = Jvm.exec) {pc : Nat} {Ls : Array Slot} {z : Int32} {rest : List Value} (hret : meth.sig.returnType = some .int) (hd : decode c.code pc = .ok (.ireturn, 1)) {fs : List Frame}
    (hl : ∀ (f : JFrame) (acts : List Action), f.method = m → f.locked = none → f.entered = [] → (doReturn e (T.setTop f) acts (some (.int z))).1 = T.setFrames fs) : Steps p.tables e below (T.setTop (mkF m pc Ls (.int z :: rest))) (T.setFrames fs) := by
  have hm' : T.vm.method? m = some meth := X.method'
  have hn : narrow .int (.int z) = .int z := rfl
  show Steps p.tables e below (T.setTop { method := m, pc := pc, locals := Ls, stack := _ :: rest, locked := none }) _
  jvm_step X.here [X.here.top, hx, hd, hm', hret, hn]
  first | (intro acts; rw [hl _ acts rfl rfl rfl]) | rw [hl _ _ rfl rfl rfl]
  exact Steps.refl _
end New
end Jvm.RoadKit
namespace Jvm.Pilot.@@N@@
open Jvm Jvm.ClassFile Sem Op Lib Jvm.Free Jvm.Stand Jvm.LawKit Jvm.RoadKit Bundle Jvm.Pilot.@@N@@.Jvm.D
theorem own_nz : ¬ ((1000000000 : Int64) = (0 : Int64)) := by decide
theorem own_rate (r : Int64) : 1 ≤ (((r &&& (9223372036854775807 : Int64)) - ((r &&& (9223372036854775807 : Int64)) / (1000000000 : Int64)) * (1000000000 : Int64)) + (1 : Int64)).toInt ∧
    (((r &&& (9223372036854775807 : Int64)) - ((r &&& (9223372036854775807 : Int64)) / (1000000000 : Int64)) * (1000000000 : Int64)) + (1 : Int64)).toInt ≤ 1000000000 := by
  have L1 : (1 : Int64).toInt = 1 := rfl
  have LG : (1000000000 : Int64).toInt = 1000000000 := rfl
  have e1 : (r &&& (9223372036854775807 : Int64)).toInt = r.toInt % 2 ^ 63 := Jvm.Kit.i64_mask r 9223372036854775807 (k := 63) (by decide) (by decide)
  generalize (r &&& (9223372036854775807 : Int64)) = v at *
  have e2 := Jvm.Kit.i64_rem_nonneg (x := v) (y := (1000000000 : Int64)) (by omega)
  rw [LG] at e2
  generalize (v - (v / (1000000000 : Int64)) * (1000000000 : Int64)) = u at *
  have e3 : (u + (1 : Int64)).toInt = u.toInt + 1 := by rw [Jvm.Kit.i64_add (by omega) (by omega), L1]
  omega
set_option maxHeartbeats 4000000 in
theorem own_ar (t rate n : Int64) (ht : 0 ≤ t.toInt) (h1 : 1 ≤ rate.toInt) (h2 : rate.toInt ≤ 1000000000)
    (hn : n = ((((t / (1000000000 : Int64)) * rate) + (((t - (t / (1000000000 : Int64)) * (1000000000 : Int64)) * rate) / (1000000000 : Int64))) + (1 : Int64))) :
    ¬ ((lcmpW (n - (1 : Int64)) (0 : Int64)) < (0 : Int32)) ∧ ¬ ((0 : Int32) < (lcmpW (n - (1 : Int64)) t)) ∧
    ¬ ((lcmpW ((n - (1 : Int64)) - ((t / (1000000000 : Int64)) * rate)) (0 : Int64)) < (0 : Int32)) ∧ ¬ ((0 : Int32) < (lcmpW ((n - (1 : Int64)) - ((t / (1000000000 : Int64)) * rate)) rate)) ∧
    ¬ ((lcmpW ((t * rate) - ((n - (1 : Int64)) * (1000000000 : Int64))) (0 : Int64)) < (0 : Int32)) ∧ (lcmpW ((t * rate) - ((n - (1 : Int64)) * (1000000000 : Int64))) (1000000000 : Int64)) < (0 : Int32) := by
  have L0 : (0 : Int64).toInt = 0 := rfl
  have LG : (1000000000 : Int64).toInt = 1000000000 := rfl
  have t1 := t.toInt_lt
  have ew : (t / (1000000000 : Int64)).toInt = t.toInt / 1000000000 := by
    rw [Jvm.Kit.i64_div (by rw [LG]; omega), LG, Int.tdiv_eq_ediv_of_nonneg ht]
  have es := Jvm.Kit.i64_rem_nonneg (x := t) (y := (1000000000 : Int64)) ht
  rw [LG] at es
  have hm : n - (1 : Int64) = ((t / (1000000000 : Int64)) * rate) + (((t - (t / (1000000000 : Int64)) * (1000000000 : Int64)) * rate) / (1000000000 : Int64)) := by
    rw [hn, Int64.add_sub_cancel]
  rw [hm]
  clear hm hn
  generalize (t - (t / (1000000000 : Int64)) * (1000000000 : Int64)) = sv at *
  generalize (t / (1000000000 : Int64)) = wv at *
  have hT : t.toInt = 1000000000 * wv.toInt + sv.toInt := by omega
  have w0 : 0 ≤ wv.toInt := by omega
  have s0 : 0 ≤ sv.toInt := by omega
  have s1 : sv.toInt < 1000000000 := by omega
  clear ew es
  generalize hW : wv.toInt = W at *
  generalize hS : sv.toInt = S at *
  generalize hR : rate.toInt = R at *
  have p0 : 0 ≤ W * R := Int.mul_nonneg w0 (by omega)
  have p1 : W * R ≤ W * 1000000000 := Int.mul_le_mul_of_nonneg_left h2 w0
  have p2 : 0 ≤ S * R := Int.mul_nonneg s0 (by omega)
  have p3 : S * R ≤ S * 1000000000 := Int.mul_le_mul_of_nonneg_left h2 s0
  have p4 : S * R ≤ 1000000000 * R := Int.mul_le_mul_of_nonneg_right (by omega) (by omega)
  have tr : t.toInt * R = 1000000000 * (W * R) + S * R := by rw [hT, Int.add_mul, Int.mul_assoc]
  generalize hP : W * R = P at *
  generalize hQ : S * R = Q at *
  have g1 : 0 ≤ P + Q / 1000000000 := by omega
  have g2 : P + Q / 1000000000 ≤ t.toInt := by omega
  have g3 : 0 ≤ Q / 1000000000 := by omega
  have g4 : Q / 1000000000 ≤ R := by omega
  have g5 : 0 ≤ Q % 1000000000 := by omega
  have g6 : Q % 1000000000 < 1000000000 := by omega
  have f1 : (wv * rate).toInt = P := by rw [Jvm.Kit.i64_mul (by rw [hW, hR, hP]; omega) (by rw [hW, hR, hP]; omega), hW, hR, hP]
  have f2 : (sv * rate).toInt = Q := by rw [Jvm.Kit.i64_mul (by rw [hS, hR, hQ]; omega) (by rw [hS, hR, hQ]; omega), hS, hR, hQ]
  have f3 : ((sv * rate) / (1000000000 : Int64)).toInt = Q / 1000000000 := by
    rw [Jvm.Kit.i64_div (by rw [LG]; omega), LG, f2, Int.tdiv_eq_ediv_of_nonneg p2]
  have f4 : ((wv * rate) + ((sv * rate) / (1000000000 : Int64))).toInt = P + Q / 1000000000 := by rw [Jvm.Kit.i64_add (by omega) (by omega), f1, f3]
  generalize hA : ((wv * rate) + ((sv * rate) / (1000000000 : Int64))) = A at *
  have f5 : (A - (wv * rate)).toInt = Q / 1000000000 := by rw [Jvm.Kit.i64_sub (by omega) (by omega), f4, f1]; omega
  have f6 : ((t * rate) - (A * (1000000000 : Int64))).toInt = Q % 1000000000 := by
    rw [Int64.toInt_sub, Int64.toInt_mul, Int64.toInt_mul, hR, LG, tr, f4, Int.bmod_sub_bmod, Int.sub_bmod_bmod]
    rw [show 1000000000 * P + Q - (P + Q / 1000000000) * 1000000000 = Q % 1000000000 by omega]
    exact Jvm.Kit.bmod64 (by omega) (by omega)
  refine ⟨?_, ?_, ?_, ?_, ?_, ?_⟩
  · rw [lw_lt, Int64.lt_iff_toInt_lt, f4, L0]; exact Int.not_lt.mpr g1
  · rw [lw_gt, Int64.lt_iff_toInt_lt, f4]; exact Int.not_lt.mpr g2
  · rw [lw_lt, Int64.lt_iff_toInt_lt, f5, L0]; exact Int.not_lt.mpr g3
  · rw [lw_gt, Int64.lt_iff_toInt_lt, f5, hR]; exact Int.not_lt.mpr g4
  · rw [lw_lt, Int64.lt_iff_toInt_lt, f6, L0]; exact Int.not_lt.mpr g5
  · rw [lw_lt, Int64.lt_iff_toInt_lt, f6, LG]; exact g6
theorem d1_0 : decode prog_70_method_1_code 0 = .ok (.aload_n 0, 1) := by decide +kernel
theorem d1_1 : decode prog_70_method_1_code 1 = .ok (.invokespecial 1, 3) := by decide +kernel
theorem d1_4 : decode prog_70_method_1_code 4 = .ok (.lload_n 1, 1) := by decide +kernel
theorem d1_5 : decode prog_70_method_1_code 5 = .ok (.lconst 1, 1) := by decide +kernel
theorem d1_6 : decode prog_70_method_1_code 6 = .ok (.lcmp, 1) := by decide +kernel
theorem d1_7 : decode prog_70_method_1_code 7 = .ok (.ifCond .lt 11, 3) := by decide +kernel
theorem d1_10 : decode prog_70_method_1_code 10 = .ok (.lload_n 1, 1) := by decide +kernel
theorem d1_11 : decode prog_70_method_1_code 11 = .ok (.ldc2_w 9, 3) := by decide +kernel
theorem d1_14 : decode prog_70_method_1_code 14 = .ok (.lcmp, 1) := by decide +kernel
theorem d1_15 : decode prog_70_method_1_code 15 = .ok (.ifCond .le 17, 3) := by decide +kernel
theorem d1_32 : decode prog_70_method_1_code 32 = .ok (.aload_n 0, 1) := by decide +kernel
theorem d1_33 : decode prog_70_method_1_code 33 = .ok (.lload_n 1, 1) := by decide +kernel
theorem d1_34 : decode prog_70_method_1_code 34 = .ok (.putfield 20, 3) := by decide +kernel
theorem d1_37 : decode prog_70_method_1_code 37 = .ok (.return_, 1) := by decide +kernel
theorem pn_1 : plainName "com/example/sluiceway/sluiceway/workload/replay/Pace" = true := by first | (simp [plainName, overriddenIn]; done) | decide +kernel
theorem ef_1 (m : MethodId) (x0 : Addr) (x1 : Int64) : entryFrame m #[(.ref x0), (.long x1)] 3 = mkF m 0 #[.val (.ref x0), .val (.long x1), .second] [] := by first | (simp [entryFrame, mkF, argsToLocals, Value.category]; done) | rfl
def Q1 (Z : State) (a1 : Addr) (q2 : Int64) (u_rate_a1 : Value) (h0 : Heap) (n0 : Nat) (v : Option Value) (h : Heap) (L : List Loc) : Prop := v = none ∧ Fr n0 L ∧ Keep h0 h [a1] ∧ Exa Z h a1 "com/example/sluiceway/sluiceway/workload/replay/Pace" ∧ Fld Z h a1 "com/example/sluiceway/sluiceway/workload/replay/Pace" "rate" "J" (.long q2)
set_option maxRecDepth 65536 in
set_option maxHeartbeats 40000000 in
theorem rm1 (l : Launch) (Z : State) (a0 : Array Value) (hw : ∀ d ∈ tables_1, d.before a0 Z = true) (ws : List Jvm.Cond) (a1 : Addr) (q2 : Int64) (u_rate_a1 : Value) (h0 : Heap) (n0 : Nat) (Z0 : n0 ≤ h0.size) (E_a1 : Exa Z h0 a1 "com/example/sluiceway/sluiceway/workload/replay/Pace") (F_rate_a1 : Fld Z h0 a1 "com/example/sluiceway/sluiceway/workload/replay/Pace" "rate" "J" u_rate_a1) (g_a1 : n0 ≤ a1) (hc7 : ¬ ((lcmpW q2 (1 : Int64)) < (0 : Int32))) (hc15 : ¬ ((0 : Int32) < (lcmpW q2 (1000000000 : Int64)))) :
    MetFree l (⟨"com/example/sluiceway/sluiceway/workload/replay/Pace", "<init>", "(J)V"⟩ : MethodName) (head1 (Jvm.Cond.code (⟨"com/example/sluiceway/sluiceway/workload/replay/Pace", "<init>", "(J)V"⟩ : MethodName) prog_70_method_1_code 3 none :: ws) ({ frames := 1, cells := 0, slots := 0, locals := 12 } : Room)) (fun a U => a = #[(.ref a1), (.long q2)] ∧ Z.Warmed39 U.vm ∧ U.heap = h0) (fun _ _ _ _ _ => True) (fun _ U o U' => ∃ v L, o = .returned v ∧ Q1 Z a1 q2 u_rate_a1 h0 n0 v U'.heap L ∧ FrameEnd U o U' L ({ frames := 1, cells := 0, slots := 0, locals := 12 } : Room).cells ({ frames := 1, cells := 0, slots := 0, locals := 12 } : Room).slots) := by
  refine MetFree.of_bodySF (plainFor_of_name pn_1) hisR ?_
  intro p e s m args below meth c s₁ Bd hml0 hP hK
  obtain ⟨rfl, hZ, hh⟩ := hP
  have hx := Bd.exec
  have hby := Bd.bytes
  have hml : c.maxLocals = 3 := hml0
  have hown : s.vm.findClass "com/example/sluiceway/sluiceway/workload/replay/Pace" = some m.cls := findClass_of_methodNamed Bd.named
  have hnm := (name_of_methodNamed Bd.named Bd.method).1
  have X0 : Stand p l e ({ frames := 1, cells := 0, slots := 0, locals := 12 } : Room) s m #[(.ref a1), (.long q2)] below meth c s₁ [] 0 0 := Stand.of_body Bd
  have e0 : s₁.heap = h0 := by rw [← hh, Bd.state]; rfl
  have N0 := Fr.nil n0
  have pre0 : ∀ t, Steps p.tables e below (s₁.setTop (mkF m 0 #[.val (.ref a1), .val (.long q2), .second] [])) t → Steps p.tables e below (s₁.setTop (entryFrame m #[(.ref a1), (.long q2)] 3)) t := fun t k => castTop (ef_1 m a1 q2) k
  -- 3. LAWS
  obtain ⟨T3, X3, e3, st3⟩ := initO X0 hx hZ hown (hw _ (List.mem_of_getElem? (i := 8) rfl)) (hw _ (List.mem_of_getElem? (i := 9) rfl)) (hw _ (List.mem_of_getElem? (i := 10) rfl)) e0 (g := (mkF m 1 #[.val (.ref a1), .val (.long q2), .second] [(.ref a1)])) rfl (by rw [hml]; rfl) rfl (hb hby d1_1) (by decide) (W := 0) (by show 2 * 0 + _ ≤ _; exact Nat.le_of_eq rfl) (by decide)
  obtain ⟨T4, h4, X4, e4, W4, st4⟩ := putF X3 hx hZ hown (host := "") (Or.inl (hw _ (List.mem_of_getElem? (i := 12) rfl))) Via.refl e3 F_rate_a1 E_a1 (Or.inr ⟨(hw _ (List.mem_of_getElem? (i := 13) rfl)), rfl, hnm⟩) (hw _ (List.mem_of_getElem? (i := 3) rfl)) (ty := .long) (by decide) rfl rfl (g := (mkF m 34 #[.val (.ref a1), .val (.long q2), .second] [(.long q2), (.ref a1)])) rfl rfl (hb hby d1_34)
  have Fw4 := F_rate_a1.same W4      -- the field now holds (.long q2)
  have K4 : Keep h0 h4 [a1] := (Keep.refl h0 [a1]).wr W4 (Or.inl (List.mem_of_getElem? (i := 0) rfl))
  have N4 := Fr.snoc X4 N0 g_a1
  obtain ⟨fs, hr, hrun, hended, hW, hsame⟩ := X4.leave (v := none) (fun _ => rfl)
  refine ⟨_, _, pre0 _ ?_, hrun, hended, _, _, rfl, ?_, ⟨_, rfl⟩, hW, hsame.mono (by decide) (by decide)⟩
  -- 4. STEPS
  · show Steps p.tables e below (s₁.setTop (mkF m 0 #[.val (.ref a1), .val (.long q2), .second] [])) _
    refine XS.aloadN X0.here hx rfl (hb hby d1_0) rfl rfl ?_
    show Steps p.tables e below (s₁.setTop (mkF m 1 #[.val (.ref a1), .val (.long q2), .second] [(.ref a1)])) _
    refine st3 _ ?_
    show Steps p.tables e below (T3.setTop (mkF m 4 #[.val (.ref a1), .val (.long q2), .second] [])) _
    refine XS.lloadN X3.here hx rfl (hb hby d1_4) rfl ?_
    show Steps p.tables e below (T3.setTop (mkF m 5 #[.val (.ref a1), .val (.long q2), .second] [(.long q2)])) _
    refine XS.lconst X3.here hx rfl (hb hby d1_5) ?_
    show Steps p.tables e below (T3.setTop (mkF m 6 #[.val (.ref a1), .val (.long q2), .second] [(.long (1 : Int64)), (.long q2)])) _
    refine XS.lcmp X3.here hx rfl (hb hby d1_6) rfl ?_
    show Steps p.tables e below (T3.setTop (mkF m 7 #[.val (.ref a1), .val (.long q2), .second] [(.int (lcmpW q2 (1 : Int64)))])) _
    refine XS.ifNo X3.here hx rfl (hb hby d1_7) rfl ((if0 _ _).trans (flt hc7).1) ?_
    show Steps p.tables e below (T3.setTop (mkF m 10 #[.val (.ref a1), .val (.long q2), .second] [])) _
    refine XS.lloadN X3.here hx rfl (hb hby d1_10) rfl ?_
    show Steps p.tables e below (T3.setTop (mkF m 11 #[.val (.ref a1), .val (.long q2), .second] [(.long q2)])) _
    refine X3.ldc2Long hx hown (mvT hZ (hw _ (List.mem_of_getElem? (i := 11) rfl))) (g := (mkF m 11 #[.val (.ref a1), .val (.long q2), .second] [(.long q2)])) rfl (hb hby d1_11) _ ?_
    show Steps p.tables e below (T3.setTop (mkF m 14 #[.val (.ref a1), .val (.long q2), .second] [(.long (1000000000 : Int64)), (.long q2)])) _
    refine XS.lcmp X3.here hx rfl (hb hby d1_14) rfl ?_
    show Steps p.tables e below (T3.setTop (mkF m 15 #[.val (.ref a1), .val (.long q2), .second] [(.int (lcmpW q2 (1000000000 : Int64)))])) _
    refine XS.ifYes X3.here hx rfl (pc0 := 15) (pc' := 32) rfl (hb hby d1_15) rfl ((if0 _ _).trans (flt hc15).2.2.2) (by decide) (by decide) ?_
    show Steps p.tables e below (T3.setTop (mkF m 32 #[.val (.ref a1), .val (.long q2), .second] [])) _
    refine XS.aloadN X3.here hx rfl (hb hby d1_32) rfl rfl ?_
    show Steps p.tables e below (T3.setTop (mkF m 33 #[.val (.ref a1), .val (.long q2), .second] [(.ref a1)])) _
    refine XS.lloadN X3.here hx rfl (hb hby d1_33) rfl ?_
    show Steps p.tables e below (T3.setTop (mkF m 34 #[.val (.ref a1), .val (.long q2), .second] [(.long q2), (.ref a1)])) _
    refine st4 _ ?_
    show Steps p.tables e below (T4.setTop (mkF m 37 #[.val (.ref a1), .val (.long q2), .second] [])) _
    exact X4.returnOut hx Bd.returns (hb hby d1_37) hr
  · show Q1 Z a1 q2 u_rate_a1 h0 n0 _ T4.heap _
    rw [e4]
    exact ⟨rfl, N4, K4, (E_a1.wr W4), Fw4⟩
theorem d3_0 : decode prog_70_method_3_code 0 = .ok (.lload_n 1, 1) := by decide +kernel
theorem d3_1 : decode prog_70_method_3_code 1 = .ok (.lconst 0, 1) := by decide +kernel
theorem d3_2 : decode prog_70_method_3_code 2 = .ok (.lcmp, 1) := by decide +kernel
theorem d3_3 : decode prog_70_method_3_code 3 = .ok (.ifCond .ge 5, 3) := by decide +kernel
theorem d3_8 : decode prog_70_method_3_code 8 = .ok (.lload_n 1, 1) := by decide +kernel
theorem d3_9 : decode prog_70_method_3_code 9 = .ok (.ldc2_w 9, 3) := by decide +kernel
theorem d3_12 : decode prog_70_method_3_code 12 = .ok (.ldiv, 1) := by decide +kernel
theorem d3_13 : decode prog_70_method_3_code 13 = .ok (.lstore_n 3, 1) := by decide +kernel
theorem d3_14 : decode prog_70_method_3_code 14 = .ok (.lload_n 1, 1) := by decide +kernel
theorem d3_15 : decode prog_70_method_3_code 15 = .ok (.ldc2_w 9, 3) := by decide +kernel
theorem d3_18 : decode prog_70_method_3_code 18 = .ok (.lrem, 1) := by decide +kernel
theorem d3_19 : decode prog_70_method_3_code 19 = .ok (.lstore 5, 2) := by decide +kernel
theorem d3_21 : decode prog_70_method_3_code 21 = .ok (.lload_n 3, 1) := by decide +kernel
theorem d3_22 : decode prog_70_method_3_code 22 = .ok (.aload_n 0, 1) := by decide +kernel
theorem d3_23 : decode prog_70_method_3_code 23 = .ok (.getfield 20, 3) := by decide +kernel
theorem d3_26 : decode prog_70_method_3_code 26 = .ok (.lmul, 1) := by decide +kernel
theorem d3_27 : decode prog_70_method_3_code 27 = .ok (.lload 5, 2) := by decide +kernel
theorem d3_29 : decode prog_70_method_3_code 29 = .ok (.aload_n 0, 1) := by decide +kernel
theorem d3_30 : decode prog_70_method_3_code 30 = .ok (.getfield 20, 3) := by decide +kernel
theorem d3_33 : decode prog_70_method_3_code 33 = .ok (.lmul, 1) := by decide +kernel
theorem d3_34 : decode prog_70_method_3_code 34 = .ok (.ldc2_w 9, 3) := by decide +kernel
theorem d3_37 : decode prog_70_method_3_code 37 = .ok (.ldiv, 1) := by decide +kernel
theorem d3_38 : decode prog_70_method_3_code 38 = .ok (.ladd, 1) := by decide +kernel
theorem d3_39 : decode prog_70_method_3_code 39 = .ok (.lconst 1, 1) := by decide +kernel
theorem d3_40 : decode prog_70_method_3_code 40 = .ok (.ladd, 1) := by decide +kernel
theorem d3_41 : decode prog_70_method_3_code 41 = .ok (.lreturn, 1) := by decide +kernel
theorem pn_3 : plainName "com/example/sluiceway/sluiceway/workload/replay/Pace" = true := by first | (simp [plainName, overriddenIn]; done) | decide +kernel
theorem ef_3 (m : MethodId) (x0 : Addr) (x1 : Int64) : entryFrame m #[(.ref x0), (.long x1)] 7 = mkF m 0 #[.val (.ref x0), .val (.long x1), .second, .unset, .unset, .unset, .unset] [] := by first | (simp [entryFrame, mkF, argsToLocals, Value.category]; done) | rfl
theorem d3_6 : decode prog_70_method_3_code 6 = .ok (.lconst 0, 1) := by decide +kernel
theorem d3_7 : decode prog_70_method_3_code 7 = .ok (.lreturn, 1) := by decide +kernel
def Q3 (Z : State) (a1 : Addr) (q2 : Int64) (w3 : Int64) (h0 : Heap) (n0 : Nat) (v : Option Value) (h : Heap) (L : List Loc) : Prop := v = some (.long ((((q2 / (1000000000 : Int64)) * w3) + (((q2 - (q2 / (1000000000 : Int64)) * (1000000000 : Int64)) * w3) / (1000000000 : Int64))) + (1 : Int64))) ∧ Fr n0 L ∧ h = h0
set_option maxRecDepth 65536 in
set_option maxHeartbeats 40000000 in
theorem rm3 (l : Launch) (Z : State) (a0 : Array Value) (hw : ∀ d ∈ tables_1, d.before a0 Z = true) (ws : List Jvm.Cond) (a1 : Addr) (q2 : Int64) (w3 : Int64) (h0 : Heap) (n0 : Nat) (Z0 : n0 ≤ h0.size) (F_rate_a1 : Fld Z h0 a1 "com/example/sluiceway/sluiceway/workload/replay/Pace" "rate" "J" (.long w3)) (hc3 : ¬ ((lcmpW q2 (0 : Int64)) < (0 : Int32))) (hnz12 : ¬ ((1000000000 : Int64) = (0 : Int64))) (hnz18 : ¬ ((1000000000 : Int64) = (0 : Int64))) (hnz37 : ¬ ((1000000000 : Int64) = (0 : Int64))) :
    MetFree l (⟨"com/example/sluiceway/sluiceway/workload/replay/Pace", "dueBy", "(J)J"⟩ : MethodName) (head1 (Jvm.Cond.code (⟨"com/example/sluiceway/sluiceway/workload/replay/Pace", "dueBy", "(J)J"⟩ : MethodName) prog_70_method_3_code 7 (some .long) :: ws) ({ frames := 0, cells := 0, slots := 0, locals := 0 } : Room)) (fun a U => a = #[(.ref a1), (.long q2)] ∧ Z.Warmed39 U.vm ∧ U.heap = h0) (fun _ _ _ _ _ => True) (fun _ U o U' => ∃ v L, o = .returned v ∧ Q3 Z a1 q2 w3 h0 n0 v U'.heap L ∧ FrameEnd U o U' L ({ frames := 0, cells := 0, slots := 0, locals := 0 } : Room).cells ({ frames := 0, cells := 0, slots := 0, locals := 0 } : Room).slots) := by
  refine MetFree.of_bodySF (plainFor_of_name pn_3) hisR ?_
  intro p e s m args below meth c s₁ Bd hml0 hP hK
  obtain ⟨rfl, hZ, hh⟩ := hP
  have hx := Bd.exec
  have hby := Bd.bytes
  have hml : c.maxLocals = 7 := hml0
  have hown : s.vm.findClass "com/example/sluiceway/sluiceway/workload/replay/Pace" = some m.cls := findClass_of_methodNamed Bd.named
  have hnm := (name_of_methodNamed Bd.named Bd.method).1
  have X0 : Stand p l e ({ frames := 0, cells := 0, slots := 0, locals := 0 } : Room) s m #[(.ref a1), (.long q2)] below meth c s₁ [] 0 0 := Stand.of_body Bd
  have e0 : s₁.heap = h0 := by rw [← hh, Bd.state]; rfl
  have N0 := Fr.nil n0
  have pre0 : ∀ t, Steps p.tables e below (s₁.setTop (mkF m 0 #[.val (.ref a1), .val (.long q2), .second, .unset, .unset, .unset, .unset] [])) t → Steps p.tables e below (s₁.setTop (entryFrame m #[(.ref a1), (.long q2)] 7)) t := fun t k => castTop (ef_3 m a1 q2) k
  -- 3. LAWS
  obtain ⟨T4, X4, e4, st4⟩ := getF X0 hx hZ hown (host := "") (Or.inl (hw _ (List.mem_of_getElem? (i := 12) rfl))) Via.refl e0 F_rate_a1 (g := (mkF m 23 #[.val (.ref a1), .val (.long q2), .second, .val (.long (q2 / (1000000000 : Int64))), .second, .val (.long (q2 - (q2 / (1000000000 : Int64)) * (1000000000 : Int64))), .second] [(.ref a1), (.long (q2 / (1000000000 : Int64)))])) rfl rfl (hb hby d3_23)
  obtain ⟨T5, X5, e5, st5⟩ := getF X4 hx hZ hown (host := "") (Or.inl (hw _ (List.mem_of_getElem? (i := 12) rfl))) Via.refl e4 F_rate_a1 (g := (mkF m 30 #[.val (.ref a1), .val (.long q2), .second, .val (.long (q2 / (1000000000 : Int64))), .second, .val (.long (q2 - (q2 / (1000000000 : Int64)) * (1000000000 : Int64))), .second] [(.ref a1), (.long (q2 - (q2 / (1000000000 : Int64)) * (1000000000 : Int64))), (.long ((q2 / (1000000000 : Int64)) * w3))])) rfl rfl (hb hby d3_30)
  obtain ⟨fs, hr, hrun, hended, hW, hsame⟩ := X5.leave (v := some (.long ((((q2 / (1000000000 : Int64)) * w3) + (((q2 - (q2 / (1000000000 : Int64)) * (1000000000 : Int64)) * w3) / (1000000000 : Int64))) + (1 : Int64)))) (fun h => by rw [Bd.returns] at h; cases h)
  refine ⟨_, _, pre0 _ ?_, hrun, hended, _, _, rfl, ?_, ⟨_, rfl⟩, hW, hsame.mono (by decide) (by decide)⟩
  -- 4. STEPS
  · show Steps p.tables e below (s₁.setTop (mkF m 0 #[.val (.ref a1), .val (.long q2), .second, .unset, .unset, .unset, .unset] [])) _
    refine XS.lloadN X0.here hx rfl (hb hby d3_0) rfl ?_
    show Steps p.tables e below (s₁.setTop (mkF m 1 #[.val (.ref a1), .val (.long q2), .second, .unset, .unset, .unset, .unset] [(.long q2)])) _
    refine XS.lconst X0.here hx rfl (hb hby d3_1) ?_
    show Steps p.tables e below (s₁.setTop (mkF m 2 #[.val (.ref a1), .val (.long q2), .second, .unset, .unset, .unset, .unset] [(.long (0 : Int64)), (.long q2)])) _
    refine XS.lcmp X0.here hx rfl (hb hby d3_2) rfl ?_
    show Steps p.tables e below (s₁.setTop (mkF m 3 #[.val (.ref a1), .val (.long q2), .second, .unset, .unset, .unset, .unset] [(.int (lcmpW q2 (0 : Int64)))])) _
    refine XS.ifYes X0.here hx rfl (pc0 := 3) (pc' := 8) rfl (hb hby d3_3) rfl ((if0 _ _).trans (flt hc3).2.1) (by decide) (by decide) ?_
    show Steps p.tables e below (s₁.setTop (mkF m 8 #[.val (.ref a1), .val (.long q2), .second, .unset, .unset, .unset, .unset] [])) _
    refine XS.lloadN X0.here hx rfl (hb hby d3_8) rfl ?_
    show Steps p.tables e below (s₁.setTop (mkF m 9 #[.val (.ref a1), .val (.long q2), .second, .unset, .unset, .unset, .unset] [(.long q2)])) _
    refine X0.ldc2Long hx hown (mvT hZ (hw _ (List.mem_of_getElem? (i := 11) rfl))) (g := (mkF m 9 #[.val (.ref a1), .val (.long q2), .second, .unset, .unset, .unset, .unset] [(.long q2)])) rfl (hb hby d3_9) _ ?_
    show Steps p.tables e below (s₁.setTop (mkF m 12 #[.val (.ref a1), .val (.long q2), .second, .unset, .unset, .unset, .unset] [(.long (1000000000 : Int64)), (.long q2)])) _
    refine XS.ldiv X0.here hx rfl (hb hby d3_12) rfl hnz12 ?_
    show Steps p.tables e below (s₁.setTop (mkF m 13 #[.val (.ref a1), .val (.long q2), .second, .unset, .unset, .unset, .unset] [(.long (q2 / (1000000000 : Int64)))])) _
    refine XS.lstoreN X0.here hx rfl (hb hby d3_13) rfl (l' := #[.val (.ref a1), .val (.long q2), .second, .val (.long (q2 / (1000000000 : Int64))), .second, .unset, .unset]) rfl ?_
    show Steps p.tables e below (s₁.setTop (mkF m 14 #[.val (.ref a1), .val (.long q2), .second, .val (.long (q2 / (1000000000 : Int64))), .second, .unset, .unset] [])) _
    refine XS.lloadN X0.here hx rfl (hb hby d3_14) rfl ?_
    show Steps p.tables e below (s₁.setTop (mkF m 15 #[.val (.ref a1), .val (.long q2), .second, .val (.long (q2 / (1000000000 : Int64))), .second, .unset, .unset] [(.long q2)])) _
    refine X0.ldc2Long hx hown (mvT hZ (hw _ (List.mem_of_getElem? (i := 11) rfl))) (g := (mkF m 15 #[.val (.ref a1), .val (.long q2), .second, .val (.long (q2 / (1000000000 : Int64))), .second, .unset, .unset] [(.long q2)])) rfl (hb hby d3_15) _ ?_
    show Steps p.tables e below (s₁.setTop (mkF m 18 #[.val (.ref a1), .val (.long q2), .second, .val (.long (q2 / (1000000000 : Int64))), .second, .unset, .unset] [(.long (1000000000 : Int64)), (.long q2)])) _
    refine XS.lrem X0.here hx rfl (hb hby d3_18) rfl hnz18 ?_
    show Steps p.tables e below (s₁.setTop (mkF m 19 #[.val (.ref a1), .val (.long q2), .second, .val (.long (q2 / (1000000000 : Int64))), .second, .unset, .unset] [(.long (q2 - (q2 / (1000000000 : Int64)) * (1000000000 : Int64)))])) _
    refine XS.lstore X0.here hx rfl (hb hby d3_19) rfl (l' := #[.val (.ref a1), .val (.long q2), .second, .val (.long (q2 / (1000000000 : Int64))), .second, .val (.long (q2 - (q2 / (1000000000 : Int64)) * (1000000000 : Int64))), .second]) rfl ?_
    show Steps p.tables e below (s₁.setTop (mkF m 21 #[.val (.ref a1), .val (.long q2), .second, .val (.long (q2 / (1000000000 : Int64))), .second, .val (.long (q2 - (q2 / (1000000000 : Int64)) * (1000000000 : Int64))), .second] [])) _
    refine XS.lloadN X0.here hx rfl (hb hby d3_21) rfl ?_
    show Steps p.tables e below (s₁.setTop (mkF m 22 #[.val (.ref a1), .val (.long q2), .second, .val (.long (q2 / (1000000000 : Int64))), .second, .val (.long (q2 - (q2 / (1000000000 : Int64)) * (1000000000 : Int64))), .second] [(.long (q2 / (1000000000 : Int64)))])) _
    refine XS.aloadN X0.here hx rfl (hb hby d3_22) rfl rfl ?_
    show Steps p.tables e below (s₁.setTop (mkF m 23 #[.val (.ref a1), .val (.long q2), .second, .val (.long (q2 / (1000000000 : Int64))), .second, .val (.long (q2 - (q2 / (1000000000 : Int64)) * (1000000000 : Int64))), .second] [(.ref a1), (.long (q2 / (1000000000 : Int64)))])) _
    refine st4 _ ?_
    show Steps p.tables e below (T4.setTop (mkF m 26 #[.val (.ref a1), .val (.long q2), .second, .val (.long (q2 / (1000000000 : Int64))), .second, .val (.long (q2 - (q2 / (1000000000 : Int64)) * (1000000000 : Int64))), .second] [(.long w3), (.long (q2 / (1000000000 : Int64)))])) _
    refine XS.lmul X4.here hx rfl (hb hby d3_26) rfl ?_
    show Steps p.tables e below (T4.setTop (mkF m 27 #[.val (.ref a1), .val (.long q2), .second, .val (.long (q2 / (1000000000 : Int64))), .second, .val (.long (q2 - (q2 / (1000000000 : Int64)) * (1000000000 : Int64))), .second] [(.long ((q2 / (1000000000 : Int64)) * w3))])) _
    refine XS.lload X4.here hx rfl (hb hby d3_27) rfl ?_
    show Steps p.tables e below (T4.setTop (mkF m 29 #[.val (.ref a1), .val (.long q2), .second, .val (.long (q2 / (1000000000 : Int64))), .second, .val (.long (q2 - (q2 / (1000000000 : Int64)) * (1000000000 : Int64))), .second] [(.long (q2 - (q2 / (1000000000 : Int64)) * (1000000000 : Int64))), (.long ((q2 / (1000000000 : Int64)) * w3))])) _
    refine XS.aloadN X4.here hx rfl (hb hby d3_29) rfl rfl ?_
    show Steps p.tables e below (T4.setTop (mkF m 30 #[.val (.ref a1), .val (.long q2), .second, .val (.long (q2 / (1000000000 : Int64))), .second, .val (.long (q2 - (q2 / (1000000000 : Int64)) * (1000000000 : Int64))), .second] [(.ref a1), (.long (q2 - (q2 / (1000000000 : Int64)) * (1000000000 : Int64))), (.long ((q2 / (1000000000 : Int64)) * w3))])) _
    refine st5 _ ?_
    show Steps p.tables e below (T5.setTop (mkF m 33 #[.val (.ref a1), .val (.long q2), .second, .val (.long (q2 / (1000000000 : Int64))), .second, .val (.long (q2 - (q2 / (1000000000 : Int64)) * (1000000000 : Int64))), .second] [(.long w3), (.long (q2 - (q2 / (1000000000 : Int64)) * (1000000000 : Int64))), (.long ((q2 / (1000000000 : Int64)) * w3))])) _
    refine XS.lmul X5.here hx rfl (hb hby d3_33) rfl ?_
    show Steps p.tables e below (T5.setTop (mkF m 34 #[.val (.ref a1), .val (.long q2), .second, .val (.long (q2 / (1000000000 : Int64))), .second, .val (.long (q2 - (q2 / (1000000000 : Int64)) * (1000000000 : Int64))), .second] [(.long ((q2 - (q2 / (1000000000 : Int64)) * (1000000000 : Int64)) * w3)), (.long ((q2 / (1000000000 : Int64)) * w3))])) _
    refine X5.ldc2Long hx hown (mvT hZ (hw _ (List.mem_of_getElem? (i := 11) rfl))) (g := (mkF m 34 #[.val (.ref a1), .val (.long q2), .second, .val (.long (q2 / (1000000000 : Int64))), .second, .val (.long (q2 - (q2 / (1000000000 : Int64)) * (1000000000 : Int64))), .second] [(.long ((q2 - (q2 / (1000000000 : Int64)) * (1000000000 : Int64)) * w3)), (.long ((q2 / (1000000000 : Int64)) * w3))])) rfl (hb hby d3_34) _ ?_
    show Steps p.tables e below (T5.setTop (mkF m 37 #[.val (.ref a1), .val (.long q2), .second, .val (.long (q2 / (1000000000 : Int64))), .second, .val (.long (q2 - (q2 / (1000000000 : Int64)) * (1000000000 : Int64))), .second] [(.long (1000000000 : Int64)), (.long ((q2 - (q2 / (1000000000 : Int64)) * (1000000000 : Int64)) * w3)), (.long ((q2 / (1000000000 : Int64)) * w3))])) _
    refine XS.ldiv X5.here hx rfl (hb hby d3_37) rfl hnz37 ?_
    show Steps p.tables e below (T5.setTop (mkF m 38 #[.val (.ref a1), .val (.long q2), .second, .val (.long (q2 / (1000000000 : Int64))), .second, .val (.long (q2 - (q2 / (1000000000 : Int64)) * (1000000000 : Int64))), .second] [(.long (((q2 - (q2 / (1000000000 : Int64)) * (1000000000 : Int64)) * w3) / (1000000000 : Int64))), (.long ((q2 / (1000000000 : Int64)) * w3))])) _
    refine XS.ladd X5.here hx rfl (hb hby d3_38) rfl ?_
    show Steps p.tables e below (T5.setTop (mkF m 39 #[.val (.ref a1), .val (.long q2), .second, .val (.long (q2 / (1000000000 : Int64))), .second, .val (.long (q2 - (q2 / (1000000000 : Int64)) * (1000000000 : Int64))), .second] [(.long (((q2 / (1000000000 : Int64)) * w3) + (((q2 - (q2 / (1000000000 : Int64)) * (1000000000 : Int64)) * w3) / (1000000000 : Int64))))])) _
    refine XS.lconst X5.here hx rfl (hb hby d3_39) ?_
    show Steps p.tables e below (T5.setTop (mkF m 40 #[.val (.ref a1), .val (.long q2), .second, .val (.long (q2 / (1000000000 : Int64))), .second, .val (.long (q2 - (q2 / (1000000000 : Int64)) * (1000000000 : Int64))), .second] [(.long (1 : Int64)), (.long (((q2 / (1000000000 : Int64)) * w3) + (((q2 - (q2 / (1000000000 : Int64)) * (1000000000 : Int64)) * w3) / (1000000000 : Int64))))])) _
    refine XS.ladd X5.here hx rfl (hb hby d3_40) rfl ?_
    show Steps p.tables e below (T5.setTop (mkF m 41 #[.val (.ref a1), .val (.long q2), .second, .val (.long (q2 / (1000000000 : Int64))), .second, .val (.long (q2 - (q2 / (1000000000 : Int64)) * (1000000000 : Int64))), .second] [(.long ((((q2 / (1000000000 : Int64)) * w3) + (((q2 - (q2 / (1000000000 : Int64)) * (1000000000 : Int64)) * w3) / (1000000000 : Int64))) + (1 : Int64)))])) _
    jvm_step X5.here [X5.here.top, hx, (hb hby d3_41), X5.method', Bd.returns, narrow]
    first | (intro acts; rw [hr _ acts rfl rfl rfl]) | rw [hr _ _ rfl rfl rfl]
    exact Steps.refl _
  · show Q3 Z a1 q2 w3 h0 n0 _ T5.heap _
    rw [e5]
    exact ⟨rfl, N0, rfl⟩
def Q3b (Z : State) (a1 : Addr) (q2 : Int64) (h0 : Heap) (n0 : Nat) (v : Option Value) (h : Heap) (L : List Loc) : Prop := v = some (.long (0 : Int64)) ∧ Fr n0 L ∧ h = h0
set_option maxRecDepth 65536 in
set_option maxHeartbeats 40000000 in
theorem rm3b (l : Launch) (Z : State) (a0 : Array Value) (hw : ∀ d ∈ tables_1, d.before a0 Z = true) (ws : List Jvm.Cond) (a1 : Addr) (q2 : Int64) (h0 : Heap) (n0 : Nat) (Z0 : n0 ≤ h0.size) (hc3 : (lcmpW q2 (0 : Int64)) < (0 : Int32)) :
    MetFree l (⟨"com/example/sluiceway/sluiceway/workload/replay/Pace", "dueBy", "(J)J"⟩ : MethodName) (head1 (Jvm.Cond.code (⟨"com/example/sluiceway/sluiceway/workload/replay/Pace", "dueBy", "(J)J"⟩ : MethodName) prog_70_method_3_code 7 (some .long) :: ws) ({ frames := 0, cells := 0, slots := 0, locals := 0 } : Room)) (fun a U => a = #[(.ref a1), (.long q2)] ∧ Z.Warmed39 U.vm ∧ U.heap = h0) (fun _ _ _ _ _ => True) (fun _ U o U' => ∃ v L, o = .returned v ∧ Q3b Z a1 q2 h0 n0 v U'.heap L ∧ FrameEnd U o U' L ({ frames := 0, cells := 0, slots := 0, locals := 0 } : Room).cells ({ frames := 0, cells := 0, slots := 0, locals := 0 } : Room).slots) := by
  refine MetFree.of_bodySF (plainFor_of_name pn_3) hisR ?_
  intro p e s m args below meth c s₁ Bd hml0 hP hK
  obtain ⟨rfl, hZ, hh⟩ := hP
  have hx := Bd.exec
  have hby := Bd.bytes
  have hml : c.maxLocals = 7 := hml0
  have hown : s.vm.findClass "com/example/sluiceway/sluiceway/workload/replay/Pace" = some m.cls := findClass_of_methodNamed Bd.named
  have hnm := (name_of_methodNamed Bd.named Bd.method).1
  have X0 : Stand p l e ({ frames := 0, cells := 0, slots := 0, locals := 0 } : Room) s m #[(.ref a1), (.long q2)] below meth c s₁ [] 0 0 := Stand.of_body Bd
  have e0 : s₁.heap = h0 := by rw [← hh, Bd.state]; rfl
  have N0 := Fr.nil n0
  have pre0 : ∀ t, Steps p.tables e below (s₁.setTop (mkF m 0 #[.val (.ref a1), .val (.long q2), .second, .unset, .unset, .unset, .unset] [])) t → Steps p.tables e below (s₁.setTop (entryFrame m #[(.ref a1), (.long q2)] 7)) t := fun t k => castTop (ef_3 m a1 q2) k
  -- 3. LAWS

  obtain ⟨fs, hr, hrun, hended, hW, hsame⟩ := X0.leave (v := some (.long (0 : Int64))) (fun h => by rw [Bd.returns] at h; cases h)
  refine ⟨_, _, pre0 _ ?_, hrun, hended, _, _, rfl, ?_, ⟨_, rfl⟩, hW, hsame.mono (by decide) (by decide)⟩
  -- 4. STEPS
  · show Steps p.tables e below (s₁.setTop (mkF m 0 #[.val (.ref a1), .val (.long q2), .second, .unset, .unset, .unset, .unset] [])) _
    refine XS.lloadN X0.here hx rfl (hb hby d3_0) rfl ?_
    show Steps p.tables e below (s₁.setTop (mkF m 1 #[.val (.ref a1), .val (.long q2), .second, .unset, .unset, .unset, .unset] [(.long q2)])) _
    refine XS.lconst X0.here hx rfl (hb hby d3_1) ?_
    show Steps p.tables e below (s₁.setTop (mkF m 2 #[.val (.ref a1), .val (.long q2), .second, .unset, .unset, .unset, .unset] [(.long (0 : Int64)), (.long q2)])) _
    refine XS.lcmp X0.here hx rfl (hb hby d3_2) rfl ?_
    show Steps p.tables e below (s₁.setTop (mkF m 3 #[.val (.ref a1), .val (.long q2), .second, .unset, .unset, .unset, .unset] [(.int (lcmpW q2 (0 : Int64)))])) _
    refine XS.ifNo X0.here hx rfl (hb hby d3_3) rfl ((if0 _ _).trans (tlt hc3).2.1) ?_
    show Steps p.tables e below (s₁.setTop (mkF m 6 #[.val (.ref a1), .val (.long q2), .second, .unset, .unset, .unset, .unset] [])) _
    refine XS.lconst X0.here hx rfl (hb hby d3_6) ?_
    show Steps p.tables e below (s₁.setTop (mkF m 7 #[.val (.ref a1), .val (.long q2), .second, .unset, .unset, .unset, .unset] [(.long (0 : Int64))])) _
    jvm_step X0.here [X0.here.top, hx, (hb hby d3_7), X0.method', Bd.returns, narrow]
    first | (intro acts; rw [hr _ acts rfl rfl rfl]) | rw [hr _ _ rfl rfl rfl]
    exact Steps.refl _
  · show Q3b Z a1 q2 h0 n0 _ s₁.heap _
    rw [e0]
    exact ⟨rfl, N0, rfl⟩
theorem pn_0 : plainName "com/example/sluiceway/sluiceway/workload/replay/PaceDueByPinLaw" = true := by first | (simp [plainName, overriddenIn]; done) | decide +kernel
theorem pd_0_0 : parseMethodDescriptor "(J)V" = some ⟨[.long], none⟩ := by decide +kernel
theorem pd_0_2 : parseMethodDescriptor "(J)J" = some ⟨[.long], some .long⟩ := by decide +kernel
theorem ef_0 (m : MethodId) (x0 : Int64) (x1 : Int64) : entryFrame m #[(.long x0), (.long x1)] maxLocals = mkF m 0 #[.val (.long x0), .second, .val (.long x1), .second, .unset, .unset, .unset, .unset, .unset, .unset, .unset, .unset, .unset, .unset, .unset, .unset, .unset] [] := by first | (simp [entryFrame, mkF, argsToLocals, Value.category, maxLocals]; done) | rfl
def Q0 (Z : State) (q1 : Int64) (q2 : Int64) (h0 : Heap) (n0 : Nat) (v : Option Value) (h : Heap) (L : List Loc) : Prop := v = some (.int (1 : Int32)) ∧ Fr n0 L
set_option maxRecDepth 65536 in
set_option maxHeartbeats 40000000 in
theorem rm0 (l : Launch) (Z : State) (a0 : Array Value) (hw : ∀ d ∈ tables_1, d.before a0 Z = true) (ws : List Jvm.Cond) (q1 : Int64) (q2 : Int64) (rate : Int64) (hrate : rate = (((q2 &&& (9223372036854775807 : Int64)) - ((q2 &&& (9223372036854775807 : Int64)) / (1000000000 : Int64)) * (1000000000 : Int64)) + (1 : Int64))) (nv : Int64) (hnv : nv = ((((q1 / (1000000000 : Int64)) * rate) + (((q1 - (q1 / (1000000000 : Int64)) * (1000000000 : Int64)) * rate) / (1000000000 : Int64))) + (1 : Int64))) (h0 : Heap) (n0 : Nat) (Z0 : n0 ≤ h0.size) (hnz8 : ¬ ((1000000000 : Int64) = (0 : Int64))) (hc35 : ¬ ((lcmpW q1 (0 : Int64)) < (0 : Int32))) (hc61 : ¬ ((lcmpW (nv - (1 : Int64)) (0 : Int64)) < (0 : Int32))) (hc68 : ¬ ((0 : Int32) < (lcmpW (nv - (1 : Int64)) q1))) (hnz77 : ¬ ((1000000000 : Int64) = (0 : Int64))) (hc94 : ¬ ((lcmpW ((nv - (1 : Int64)) - ((q1 / (1000000000 : Int64)) * rate)) (0 : Int64)) < (0 : Int32))) (hc102 : ¬ ((0 : Int32) < (lcmpW ((nv - (1 : Int64)) - ((q1 / (1000000000 : Int64)) * rate)) rate))) (hc124 : ¬ ((lcmpW ((q1 * rate) - ((nv - (1 : Int64)) * (1000000000 : Int64))) (0 : Int64)) < (0 : Int32))) (hc133 : (lcmpW ((q1 * rate) - ((nv - (1 : Int64)) * (1000000000 : Int64))) (1000000000 : Int64)) < (0 : Int32)) (hr1 : ¬ ((lcmpW rate (1 : Int64)) < (0 : Int32))) (hr2 : ¬ ((0 : Int32) < (lcmpW rate (1000000000 : Int64)))) :
    MetFree l x (head1 (Jvm.Cond.code x code maxLocals ret :: ws) room_1) (fun a U => a = #[(.long q1), (.long q2)] ∧ Z.Warmed39 U.vm ∧ U.heap = h0) (fun _ _ _ _ _ => True) (fun _ U o U' => ∃ v L, o = .returned v ∧ Q0 Z q1 q2 h0 n0 v U'.heap L ∧ FrameEnd U o U' L room_1.cells room_1.slots) := by
  refine MetFree.of_bodySF (plainFor_of_name pn_0) hisR ?_
  intro p e s m args below meth c s₁ Bd hml0 hP hK
  obtain ⟨rfl, hZ, hh⟩ := hP
  have hx := Bd.exec
  have hby := Bd.bytes
  have hml : c.maxLocals = 17 := hml0
  have hown : s.vm.findClass "com/example/sluiceway/sluiceway/workload/replay/PaceDueByPinLaw" = some m.cls := findClass_of_methodNamed Bd.named
  have hnm := (name_of_methodNamed Bd.named Bd.method).1
  have X0 : Stand p l e room_1 s m #[(.long q1), (.long q2)] below meth c s₁ [] 0 0 := Stand.of_body Bd
  have e0 : s₁.heap = h0 := by rw [← hh, Bd.state]; rfl
  have N0 := Fr.nil n0
  have pre0 : ∀ t, Steps p.tables e below (s₁.setTop (mkF m 0 #[.val (.long q1), .second, .val (.long q2), .second, .unset, .unset, .unset, .unset, .unset, .unset, .unset, .unset, .unset, .unset, .unset, .unset, .unset] [])) t → Steps p.tables e below (s₁.setTop (entryFrame m #[(.long q1), (.long q2)] maxLocals)) t := fun t k => castTop (ef_0 m q1 q2) k
  have pre1 : ∀ t, Steps p.tables e below (s₁.setTop (mkF m 13 #[.val (.long q1), .second, .val (.long q2), .second, .val (.long rate), .second, .unset, .unset, .unset, .unset, .unset, .unset, .unset, .unset, .unset, .unset, .unset] [])) t → Steps p.tables e below (s₁.setTop (mkF m 0 #[.val (.long q1), .second, .val (.long q2), .second, .unset, .unset, .unset, .unset, .unset, .unset, .unset, .unset, .unset, .unset, .unset, .unset, .unset] [])) t := by
    intro t kt
    subst hrate
    show Steps p.tables e below (s₁.setTop (mkF m 0 #[.val (.long q1), .second, .val (.long q2), .second, .unset, .unset, .unset, .unset, .unset, .unset, .unset, .unset, .unset, .unset, .unset, .unset, .unset] [])) _
    refine XS.lloadN X0.here hx rfl (hb hby at_0) rfl ?_
    show Steps p.tables e below (s₁.setTop (mkF m 1 #[.val (.long q1), .second, .val (.long q2), .second, .unset, .unset, .unset, .unset, .unset, .unset, .unset, .unset, .unset, .unset, .unset, .unset, .unset] [(.long q2)])) _
    refine X0.ldc2Long hx hown (mvT hZ (hw _ (List.mem_of_getElem? (i := 0) rfl))) (g := (mkF m 1 #[.val (.long q1), .second, .val (.long q2), .second, .unset, .unset, .unset, .unset, .unset, .unset, .unset, .unset, .unset, .unset, .unset, .unset, .unset] [(.long q2)])) rfl (hb hby at_1) _ ?_
    show Steps p.tables e below (s₁.setTop (mkF m 4 #[.val (.long q1), .second, .val (.long q2), .second, .unset, .unset, .unset, .unset, .unset, .unset, .unset, .unset, .unset, .unset, .unset, .unset, .unset] [(.long (9223372036854775807 : Int64)), (.long q2)])) _
    refine XS.land X0.here hx rfl (hb hby at_4) rfl ?_
    show Steps p.tables e below (s₁.setTop (mkF m 5 #[.val (.long q1), .second, .val (.long q2), .second, .unset, .unset, .unset, .unset, .unset, .unset, .unset, .unset, .unset, .unset, .unset, .unset, .unset] [(.long (q2 &&& (9223372036854775807 : Int64)))])) _
    refine X0.ldc2Long hx hown (mvT hZ (hw _ (List.mem_of_getElem? (i := 1) rfl))) (g := (mkF m 5 #[.val (.long q1), .second, .val (.long q2), .second, .unset, .unset, .unset, .unset, .unset, .unset, .unset, .unset, .unset, .unset, .unset, .unset, .unset] [(.long (q2 &&& (9223372036854775807 : Int64)))])) rfl (hb hby at_5) _ ?_
    show Steps p.tables e below (s₁.setTop (mkF m 8 #[.val (.long q1), .second, .val (.long q2), .second, .unset, .unset, .unset, .unset, .unset, .unset, .unset, .unset, .unset, .unset, .unset, .unset, .unset] [(.long (1000000000 : Int64)), (.long (q2 &&& (9223372036854775807 : Int64)))])) _
    refine XS.lrem X0.here hx rfl (hb hby at_8) rfl hnz8 ?_
    show Steps p.tables e below (s₁.setTop (mkF m 9 #[.val (.long q1), .second, .val (.long q2), .second, .unset, .unset, .unset, .unset, .unset, .unset, .unset, .unset, .unset, .unset, .unset, .unset, .unset] [(.long ((q2 &&& (9223372036854775807 : Int64)) - ((q2 &&& (9223372036854775807 : Int64)) / (1000000000 : Int64)) * (1000000000 : Int64)))])) _
    refine XS.lconst X0.here hx rfl (hb hby at_9) ?_
    show Steps p.tables e below (s₁.setTop (mkF m 10 #[.val (.long q1), .second, .val (.long q2), .second, .unset, .unset, .unset, .unset, .unset, .unset, .unset, .unset, .unset, .unset, .unset, .unset, .unset] [(.long (1 : Int64)), (.long ((q2 &&& (9223372036854775807 : Int64)) - ((q2 &&& (9223372036854775807 : Int64)) / (1000000000 : Int64)) * (1000000000 : Int64)))])) _
    refine XS.ladd X0.here hx rfl (hb hby at_10) rfl ?_
    show Steps p.tables e below (s₁.setTop (mkF m 11 #[.val (.long q1), .second, .val (.long q2), .second, .unset, .unset, .unset, .unset, .unset, .unset, .unset, .unset, .unset, .unset, .unset, .unset, .unset] [(.long (((q2 &&& (9223372036854775807 : Int64)) - ((q2 &&& (9223372036854775807 : Int64)) / (1000000000 : Int64)) * (1000000000 : Int64)) + (1 : Int64)))])) _
    refine XS.lstore X0.here hx rfl (hb hby at_11) rfl (l' := #[.val (.long q1), .second, .val (.long q2), .second, .val (.long (((q2 &&& (9223372036854775807 : Int64)) - ((q2 &&& (9223372036854775807 : Int64)) / (1000000000 : Int64)) * (1000000000 : Int64)) + (1 : Int64))), .second, .unset, .unset, .unset, .unset, .unset, .unset, .unset, .unset, .unset, .unset, .unset]) rfl ?_
    exact kt
  -- 3. LAWS
  obtain ⟨T3, h3, X3, e3, E3, A3, D3, -, st3⟩ := newO X0 hx hZ hown (hw _ (List.mem_of_getElem? (i := 2) rfl)) (hw _ (List.mem_of_getElem? (i := 3) rfl)) (hw _ (List.mem_of_getElem? (i := 4) rfl)) e0 (g := (mkF m 13 #[.val (.long q1), .second, .val (.long q2), .second, .val (.long rate), .second, .unset, .unset, .unset, .unset, .unset, .unset, .unset, .unset, .unset, .unset, .unset] [])) rfl (hb hby at_13) (by decide) (by decide)
  obtain ⟨b3, g3⟩ : ∃ z, z = h0.size := ⟨_, rfl⟩      -- the fresh object's address
  rw [← g3] at A3 D3 st3      -- A3 : Exa Z h3 b3 "com/example/sluiceway/sluiceway/workload/replay/Pace"; E3 : Ext h0 h3 (carries every older fact: .ext E3)
  have F_rate_b3 : Fld Z h3 b3 "com/example/sluiceway/sluiceway/workload/replay/Pace" "rate" "J" (.long (0 : Int64)) := D3 (Or.inr (hw _ (List.mem_of_getElem? (i := 13) rfl))) (ty := .long) (by decide)
  have E_b3 := A3
  have g_b3 : n0 ≤ b3 := Nat.le_trans Z0 (Nat.le_of_eq g3.symm)
  have sz_b3 : h0.size ≤ b3 := (Nat.le_trans (Keep.refl h0 []).1 (Nat.le_of_eq g3.symm))
  have K3 : Keep h0 h3 [] := (Keep.refl h0 []).ext E3
  -- pc 19: the constructor of com/example/sluiceway/sluiceway/workload/replay/Pace by its contract rm1
  obtain ⟨_, _, ⟨T4, L4, k4, n4⟩, -, X4, ⟨Lc4, hQ4, l4, y4, z4⟩, st4⟩ := X3.specialBack hx (y := (⟨"com/example/sluiceway/sluiceway/workload/replay/Pace", "<init>", "(J)V"⟩ : MethodName)) rfl hown (mvT hZ (hw _ (List.mem_of_getElem? (i := 5) rfl))) (mvT hZ (hw _ (List.mem_of_getElem? (i := 6) rfl))) (mvT hZ (hw _ (List.mem_of_getElem? (i := 7) rfl))) (by decide) (backOf (W := 1) (rm1 l Z a0 hw [] b3 rate _ h3 n0 (Nat.le_trans Z0 E3.1) E_b3 F_rate_b3 g_b3 hr1 hr2) hZ (hw _ (List.mem_of_getElem? (i := 7) rfl)) (hw _ (List.mem_of_getElem? (i := 4) rfl)) (by decide) (by decide)) (g := (mkF m 19 #[.val (.long q1), .second, .val (.long q2), .second, .val (.long rate), .second, .unset, .unset, .unset, .unset, .unset, .unset, .unset, .unset, .unset, .unset, .unset] [(.long rate), (.ref b3), (.ref b3)])) rfl (by rw [hml]; rfl) (Steps.refl _) (a := b3) (argsL := [(.long rate)]) (rest := [(.ref b3)]) (lenOf pd_0_0 rfl) rfl (by show 2 * 0 + _ ≤ _; exact Nat.le_of_eq rfl) (hb hby at_19) (fun _ _ => ⟨rfl, e3, (by decide : 1 + 0 ≤ _), (by decide : 1 + 0 ≤ _)⟩)
  dsimp only [Pt.U, Pt.locs, Pt.cells, Pt.slots] at X4 l4 y4 z4 st4 hQ4
  subst l4 y4 z4
  obtain ⟨rfl, N4q, K4c, E4c, F4c⟩ := hQ4
  have N4 := Fr.app N0 N4q
  -- pc 27: com/example/sluiceway/sluiceway/workload/replay/Pace.dueBy by the contract of the body that the receiver's class selects, rm3
  obtain ⟨cq5, kq5, q5a, q5b, q5c⟩ := isOf hZ rfl (E_b3.keep K4c)
  obtain ⟨_, _, ⟨T5, L5, k5, n5⟩, -, X5, ⟨Lc5, hQ5, l5, y5, z5⟩, st5⟩ := X4.virtualBack hx (y := (⟨"com/example/sluiceway/sluiceway/workload/replay/Pace", "dueBy", "(J)J"⟩ : MethodName)) (z := (⟨"com/example/sluiceway/sluiceway/workload/replay/Pace", "dueBy", "(J)J"⟩ : MethodName)) hown (mvT hZ (hw _ (List.mem_of_getElem? (i := 14) rfl))) (mvT hZ (hw _ (List.mem_of_getElem? (i := 15) rfl))) (notFace_of_selects (args := #[]) (mvT hZ (hw _ (List.mem_of_getElem? (i := 17) rfl)))) (mvT hZ (hw _ (List.mem_of_getElem? (i := 17) rfl))) (mvT hZ (hw _ (List.mem_of_getElem? (i := 16) rfl))) (by decide) (backOf (W := 0) (rm3 l Z a0 hw [] b3 q1 _ T4.heap n0 (Nat.le_trans (Nat.le_trans Z0 E3.1) K4c.1) F4c hc35 own_nz own_nz own_nz) hZ (hw _ (List.mem_of_getElem? (i := 18) rfl)) (hw _ (List.mem_of_getElem? (i := 4) rfl)) (by decide) (by decide)) q5a q5c (g := (mkF m 27 #[.val (.long q1), .second, .val (.long q2), .second, .val (.long rate), .second, .val (.ref b3), .unset, .unset, .unset, .unset, .unset, .unset, .unset, .unset, .unset, .unset] [(.long q1), (.ref b3)])) rfl (by rw [hml]; rfl) (Steps.refl _) (argsL := [(.long q1)]) (rest := []) (lenOf pd_0_2 rfl) rfl (by show 2 * 0 + _ ≤ _; exact Nat.le_of_eq rfl) (hb hby at_27) (fun _ _ => ⟨rfl, rfl, (by decide : 1 + 0 ≤ _), (by decide : 1 + 0 ≤ _)⟩)
  dsimp only [Pt.U, Pt.locs, Pt.cells, Pt.slots] at X5 l5 y5 z5 st5 hQ5
  subst l5 y5 z5
  obtain ⟨hv5, N5q, e5q⟩ := hQ5
  obtain rfl : _ = some (Value.long nv) := hv5.trans (by rw [hnv])
  have N5 := Fr.app N4 N5q
  obtain ⟨fs, hr, hrun, hended, hW, hsame⟩ := X5.leave (v := some (.int (1 : Int32))) (fun h => by rw [Bd.returns] at h; cases h)
  refine ⟨_, _, pre0 _ (pre1 _ ?_), hrun, hended, _, _, rfl, ?_, ⟨_, rfl⟩, hW, hsame.mono (by decide) (by decide)⟩
  -- 4. STEPS
  · show Steps p.tables e below (s₁.setTop (mkF m 13 #[.val (.long q1), .second, .val (.long q2), .second, .val (.long rate), .second, .unset, .unset, .unset, .unset, .unset, .unset, .unset, .unset, .unset, .unset, .unset] [])) _
    refine st3 _ ?_
    show Steps p.tables e below (T3.setTop (mkF m 16 #[.val (.long q1), .second, .val (.long q2), .second, .val (.long rate), .second, .unset, .unset, .unset, .unset, .unset, .unset, .unset, .unset, .unset, .unset, .unset] [(.ref b3)])) _
    refine XS.dup X3.here hx rfl (hb hby at_16) rfl rfl ?_
    show Steps p.tables e below (T3.setTop (mkF m 17 #[.val (.long q1), .second, .val (.long q2), .second, .val (.long rate), .second, .unset, .unset, .unset, .unset, .unset, .unset, .unset, .unset, .unset, .unset, .unset] [(.ref b3), (.ref b3)])) _
    refine XS.lload X3.here hx rfl (hb hby at_17) rfl ?_
    show Steps p.tables e below (T3.setTop (mkF m 19 #[.val (.long q1), .second, .val (.long q2), .second, .val (.long rate), .second, .unset, .unset, .unset, .unset, .unset, .unset, .unset, .unset, .unset, .unset, .unset] [(.long rate), (.ref b3), (.ref b3)])) _
    refine st4.trans ?_
    show Steps p.tables e below (T4.setTop (mkF m 22 #[.val (.long q1), .second, .val (.long q2), .second, .val (.long rate), .second, .unset, .unset, .unset, .unset, .unset, .unset, .unset, .unset, .unset, .unset, .unset] [(.ref b3)])) _
    refine XS.astore X4.here hx rfl (hb hby at_22) rfl rfl (l' := #[.val (.long q1), .second, .val (.long q2), .second, .val (.long rate), .second, .val (.ref b3), .unset, .unset, .unset, .unset, .unset, .unset, .unset, .unset, .unset, .unset]) rfl ?_
    show Steps p.tables e below (T4.setTop (mkF m 24 #[.val (.long q1), .second, .val (.long q2), .second, .val (.long rate), .second, .val (.ref b3), .unset, .unset, .unset, .unset, .unset, .unset, .unset, .unset, .unset, .unset] [])) _
    refine XS.aload X4.here hx rfl (hb hby at_24) rfl rfl ?_
    show Steps p.tables e below (T4.setTop (mkF m 26 #[.val (.long q1), .second, .val (.long q2), .second, .val (.long rate), .second, .val (.ref b3), .unset, .unset, .unset, .unset, .unset, .unset, .unset, .unset, .unset, .unset] [(.ref b3)])) _
    refine XS.lloadN X4.here hx rfl (hb hby at_26) rfl ?_
    show Steps p.tables e below (T4.setTop (mkF m 27 #[.val (.long q1), .second, .val (.long q2), .second, .val (.long rate), .second, .val (.ref b3), .unset, .unset, .unset, .unset, .unset, .unset, .unset, .unset, .unset, .unset] [(.long q1), (.ref b3)])) _
    refine st5.trans ?_
    show Steps p.tables e below (T5.setTop (mkF m 30 #[.val (.long q1), .second, .val (.long q2), .second, .val (.long rate), .second, .val (.ref b3), .unset, .unset, .unset, .unset, .unset, .unset, .unset, .unset, .unset, .unset] [(.long nv)])) _
    refine XS.lstore X5.here hx rfl (hb hby at_30) rfl (l' := #[.val (.long q1), .second, .val (.long q2), .second, .val (.long rate), .second, .val (.ref b3), .val (.long nv), .second, .unset, .unset, .unset, .unset, .unset, .unset, .unset, .unset]) rfl ?_
    show Steps p.tables e below (T5.setTop (mkF m 32 #[.val (.long q1), .second, .val (.long q2), .second, .val (.long rate), .second, .val (.ref b3), .val (.long nv), .second, .unset, .unset, .unset, .unset, .unset, .unset, .unset, .unset] [])) _
    refine XS.lloadN X5.here hx rfl (hb hby at_32) rfl ?_
    show Steps p.tables e below (T5.setTop (mkF m 33 #[.val (.long q1), .second, .val (.long q2), .second, .val (.long rate), .second, .val (.ref b3), .val (.long nv), .second, .unset, .unset, .unset, .unset, .unset, .unset, .unset, .unset] [(.long q1)])) _
    refine XS.lconst X5.here hx rfl (hb hby at_33) ?_
    show Steps p.tables e below (T5.setTop (mkF m 34 #[.val (.long q1), .second, .val (.long q2), .second, .val (.long rate), .second, .val (.ref b3), .val (.long nv), .second, .unset, .unset, .unset, .unset, .unset, .unset, .unset, .unset] [(.long (0 : Int64)), (.long q1)])) _
    refine XS.lcmp X5.here hx rfl (hb hby at_34) rfl ?_
    show Steps p.tables e below (T5.setTop (mkF m 35 #[.val (.long q1), .second, .val (.long q2), .second, .val (.long rate), .second, .val (.ref b3), .val (.long nv), .second, .unset, .unset, .unset, .unset, .unset, .unset, .unset, .unset] [(.int (lcmpW q1 (0 : Int64)))])) _
    refine XS.ifYes X5.here hx rfl (pc0 := 35) (pc' := 51) rfl (hb hby at_35) rfl ((if0 _ _).trans (flt hc35).2.1) (by decide) (by decide) ?_
    show Steps p.tables e below (T5.setTop (mkF m 51 #[.val (.long q1), .second, .val (.long q2), .second, .val (.long rate), .second, .val (.ref b3), .val (.long nv), .second, .unset, .unset, .unset, .unset, .unset, .unset, .unset, .unset] [])) _
    refine XS.lload X5.here hx rfl (hb hby at_51) rfl ?_
    show Steps p.tables e below (T5.setTop (mkF m 53 #[.val (.long q1), .second, .val (.long q2), .second, .val (.long rate), .second, .val (.ref b3), .val (.long nv), .second, .unset, .unset, .unset, .unset, .unset, .unset, .unset, .unset] [(.long nv)])) _
    refine XS.lconst X5.here hx rfl (hb hby at_53) ?_
    show Steps p.tables e below (T5.setTop (mkF m 54 #[.val (.long q1), .second, .val (.long q2), .second, .val (.long rate), .second, .val (.ref b3), .val (.long nv), .second, .unset, .unset, .unset, .unset, .unset, .unset, .unset, .unset] [(.long (1 : Int64)), (.long nv)])) _
    refine XS.lsub X5.here hx rfl (hb hby at_54) rfl ?_
    show Steps p.tables e below (T5.setTop (mkF m 55 #[.val (.long q1), .second, .val (.long q2), .second, .val (.long rate), .second, .val (.ref b3), .val (.long nv), .second, .unset, .unset, .unset, .unset, .unset, .unset, .unset, .unset] [(.long (nv - (1 : Int64)))])) _
    refine XS.lstore X5.here hx rfl (hb hby at_55) rfl (l' := #[.val (.long q1), .second, .val (.long q2), .second, .val (.long rate), .second, .val (.ref b3), .val (.long nv), .second, .val (.long (nv - (1 : Int64))), .second, .unset, .unset, .unset, .unset, .unset, .unset]) rfl ?_
    show Steps p.tables e below (T5.setTop (mkF m 57 #[.val (.long q1), .second, .val (.long q2), .second, .val (.long rate), .second, .val (.ref b3), .val (.long nv), .second, .val (.long (nv - (1 : Int64))), .second, .unset, .unset, .unset, .unset, .unset, .unset] [])) _
    refine XS.lload X5.here hx rfl (hb hby at_57) rfl ?_
    show Steps p.tables e below (T5.setTop (mkF m 59 #[.val (.long q1), .second, .val (.long q2), .second, .val (.long rate), .second, .val (.ref b3), .val (.long nv), .second, .val (.long (nv - (1 : Int64))), .second, .unset, .unset, .unset, .unset, .unset, .unset] [(.long (nv - (1 : Int64)))])) _
    refine XS.lconst X5.here hx rfl (hb hby at_59) ?_
    show Steps p.tables e below (T5.setTop (mkF m 60 #[.val (.long q1), .second, .val (.long q2), .second, .val (.long rate), .second, .val (.ref b3), .val (.long nv), .second, .val (.long (nv - (1 : Int64))), .second, .unset, .unset, .unset, .unset, .unset, .unset] [(.long (0 : Int64)), (.long (nv - (1 : Int64)))])) _
    refine XS.lcmp X5.here hx rfl (hb hby at_60) rfl ?_
    show Steps p.tables e below (T5.setTop (mkF m 61 #[.val (.long q1), .second, .val (.long q2), .second, .val (.long rate), .second, .val (.ref b3), .val (.long nv), .second, .val (.long (nv - (1 : Int64))), .second, .unset, .unset, .unset, .unset, .unset, .unset] [(.int (lcmpW (nv - (1 : Int64)) (0 : Int64)))])) _
    refine XS.ifNo X5.here hx rfl (hb hby at_61) rfl ((if0 _ _).trans (flt hc61).1) ?_
    show Steps p.tables e below (T5.setTop (mkF m 64 #[.val (.long q1), .second, .val (.long q2), .second, .val (.long rate), .second, .val (.ref b3), .val (.long nv), .second, .val (.long (nv - (1 : Int64))), .second, .unset, .unset, .unset, .unset, .unset, .unset] [])) _
    refine XS.lload X5.here hx rfl (hb hby at_64) rfl ?_
    show Steps p.tables e below (T5.setTop (mkF m 66 #[.val (.long q1), .second, .val (.long q2), .second, .val (.long rate), .second, .val (.ref b3), .val (.long nv), .second, .val (.long (nv - (1 : Int64))), .second, .unset, .unset, .unset, .unset, .unset, .unset] [(.long (nv - (1 : Int64)))])) _
    refine XS.lloadN X5.here hx rfl (hb hby at_66) rfl ?_
    show Steps p.tables e below (T5.setTop (mkF m 67 #[.val (.long q1), .second, .val (.long q2), .second, .val (.long rate), .second, .val (.ref b3), .val (.long nv), .second, .val (.long (nv - (1 : Int64))), .second, .unset, .unset, .unset, .unset, .unset, .unset] [(.long q1), (.long (nv - (1 : Int64)))])) _
    refine XS.lcmp X5.here hx rfl (hb hby at_67) rfl ?_
    show Steps p.tables e below (T5.setTop (mkF m 68 #[.val (.long q1), .second, .val (.long q2), .second, .val (.long rate), .second, .val (.ref b3), .val (.long nv), .second, .val (.long (nv - (1 : Int64))), .second, .unset, .unset, .unset, .unset, .unset, .unset] [(.int (lcmpW (nv - (1 : Int64)) q1))])) _
    refine XS.ifYes X5.here hx rfl (pc0 := 68) (pc' := 73) rfl (hb hby at_68) rfl ((if0 _ _).trans (flt hc68).2.2.2) (by decide) (by decide) ?_
    show Steps p.tables e below (T5.setTop (mkF m 73 #[.val (.long q1), .second, .val (.long q2), .second, .val (.long rate), .second, .val (.ref b3), .val (.long nv), .second, .val (.long (nv - (1 : Int64))), .second, .unset, .unset, .unset, .unset, .unset, .unset] [])) _
    refine XS.lloadN X5.here hx rfl (hb hby at_73) rfl ?_
    show Steps p.tables e below (T5.setTop (mkF m 74 #[.val (.long q1), .second, .val (.long q2), .second, .val (.long rate), .second, .val (.ref b3), .val (.long nv), .second, .val (.long (nv - (1 : Int64))), .second, .unset, .unset, .unset, .unset, .unset, .unset] [(.long q1)])) _
    refine X5.ldc2Long hx hown (mvT hZ (hw _ (List.mem_of_getElem? (i := 1) rfl))) (g := (mkF m 74 #[.val (.long q1), .second, .val (.long q2), .second, .val (.long rate), .second, .val (.ref b3), .val (.long nv), .second, .val (.long (nv - (1 : Int64))), .second, .unset, .unset, .unset, .unset, .unset, .unset] [(.long q1)])) rfl (hb hby at_74) _ ?_
    show Steps p.tables e below (T5.setTop (mkF m 77 #[.val (.long q1), .second, .val (.long q2), .second, .val (.long rate), .second, .val (.ref b3), .val (.long nv), .second, .val (.long (nv - (1 : Int64))), .second, .unset, .unset, .unset, .unset, .unset, .unset] [(.long (1000000000 : Int64)), (.long q1)])) _
    refine XS.ldiv X5.here hx rfl (hb hby at_77) rfl hnz77 ?_
    show Steps p.tables e below (T5.setTop (mkF m 78 #[.val (.long q1), .second, .val (.long q2), .second, .val (.long rate), .second, .val (.ref b3), .val (.long nv), .second, .val (.long (nv - (1 : Int64))), .second, .unset, .unset, .unset, .unset, .unset, .unset] [(.long (q1 / (1000000000 : Int64)))])) _
    refine XS.lload X5.here hx rfl (hb hby at_78) rfl ?_
    show Steps p.tables e below (T5.setTop (mkF m 80 #[.val (.long q1), .second, .val (.long q2), .second, .val (.long rate), .second, .val (.ref b3), .val (.long nv), .second, .val (.long (nv - (1 : Int64))), .second, .unset, .unset, .unset, .unset, .unset, .unset] [(.long rate), (.long (q1 / (1000000000 : Int64)))])) _
    refine XS.lmul X5.here hx rfl (hb hby at_80) rfl ?_
    show Steps p.tables e below (T5.setTop (mkF m 81 #[.val (.long q1), .second, .val (.long q2), .second, .val (.long rate), .second, .val (.ref b3), .val (.long nv), .second, .val (.long (nv - (1 : Int64))), .second, .unset, .unset, .unset, .unset, .unset, .unset] [(.long ((q1 / (1000000000 : Int64)) * rate))])) _
    refine XS.lstore X5.here hx rfl (hb hby at_81) rfl (l' := #[.val (.long q1), .second, .val (.long q2), .second, .val (.long rate), .second, .val (.ref b3), .val (.long nv), .second, .val (.long (nv - (1 : Int64))), .second, .val (.long ((q1 / (1000000000 : Int64)) * rate)), .second, .unset, .unset, .unset, .unset]) rfl ?_
    show Steps p.tables e below (T5.setTop (mkF m 83 #[.val (.long q1), .second, .val (.long q2), .second, .val (.long rate), .second, .val (.ref b3), .val (.long nv), .second, .val (.long (nv - (1 : Int64))), .second, .val (.long ((q1 / (1000000000 : Int64)) * rate)), .second, .unset, .unset, .unset, .unset] [])) _
    refine XS.lload X5.here hx rfl (hb hby at_83) rfl ?_
    show Steps p.tables e below (T5.setTop (mkF m 85 #[.val (.long q1), .second, .val (.long q2), .second, .val (.long rate), .second, .val (.ref b3), .val (.long nv), .second, .val (.long (nv - (1 : Int64))), .second, .val (.long ((q1 / (1000000000 : Int64)) * rate)), .second, .unset, .unset, .unset, .unset] [(.long (nv - (1 : Int64)))])) _
    refine XS.lload X5.here hx rfl (hb hby at_85) rfl ?_
    show Steps p.tables e below (T5.setTop (mkF m 87 #[.val (.long q1), .second, .val (.long q2), .second, .val (.long rate), .second, .val (.ref b3), .val (.long nv), .second, .val (.long (nv - (1 : Int64))), .second, .val (.long ((q1 / (1000000000 : Int64)) * rate)), .second, .unset, .unset, .unset, .unset] [(.long ((q1 / (1000000000 : Int64)) * rate)), (.long (nv - (1 : Int64)))])) _
    refine XS.lsub X5.here hx rfl (hb hby at_87) rfl ?_
    show Steps p.tables e below (T5.setTop (mkF m 88 #[.val (.long q1), .second, .val (.long q2), .second, .val (.long rate), .second, .val (.ref b3), .val (.long nv), .second, .val (.long (nv - (1 : Int64))), .second, .val (.long ((q1 / (1000000000 : Int64)) * rate)), .second, .unset, .unset, .unset, .unset] [(.long ((nv - (1 : Int64)) - ((q1 / (1000000000 : Int64)) * rate)))])) _
    refine XS.lstore X5.here hx rfl (hb hby at_88) rfl (l' := #[.val (.long q1), .second, .val (.long q2), .second, .val (.long rate), .second, .val (.ref b3), .val (.long nv), .second, .val (.long (nv - (1 : Int64))), .second, .val (.long ((q1 / (1000000000 : Int64)) * rate)), .second, .val (.long ((nv - (1 : Int64)) - ((q1 / (1000000000 : Int64)) * rate))), .second, .unset, .unset]) rfl ?_
    show Steps p.tables e below (T5.setTop (mkF m 90 #[.val (.long q1), .second, .val (.long q2), .second, .val (.long rate), .second, .val (.ref b3), .val (.long nv), .second, .val (.long (nv - (1 : Int64))), .second, .val (.long ((q1 / (1000000000 : Int64)) * rate)), .second, .val (.long ((nv - (1 : Int64)) - ((q1 / (1000000000 : Int64)) * rate))), .second, .unset, .unset] [])) _
    refine XS.lload X5.here hx rfl (hb hby at_90) rfl ?_
    show Steps p.tables e below (T5.setTop (mkF m 92 #[.val (.long q1), .second, .val (.long q2), .second, .val (.long rate), .second, .val (.ref b3), .val (.long nv), .second, .val (.long (nv - (1 : Int64))), .second, .val (.long ((q1 / (1000000000 : Int64)) * rate)), .second, .val (.long ((nv - (1 : Int64)) - ((q1 / (1000000000 : Int64)) * rate))), .second, .unset, .unset] [(.long ((nv - (1 : Int64)) - ((q1 / (1000000000 : Int64)) * rate)))])) _
    refine XS.lconst X5.here hx rfl (hb hby at_92) ?_
    show Steps p.tables e below (T5.setTop (mkF m 93 #[.val (.long q1), .second, .val (.long q2), .second, .val (.long rate), .second, .val (.ref b3), .val (.long nv), .second, .val (.long (nv - (1 : Int64))), .second, .val (.long ((q1 / (1000000000 : Int64)) * rate)), .second, .val (.long ((nv - (1 : Int64)) - ((q1 / (1000000000 : Int64)) * rate))), .second, .unset, .unset] [(.long (0 : Int64)), (.long ((nv - (1 : Int64)) - ((q1 / (1000000000 : Int64)) * rate)))])) _
    refine XS.lcmp X5.here hx rfl (hb hby at_93) rfl ?_
    show Steps p.tables e below (T5.setTop (mkF m 94 #[.val (.long q1), .second, .val (.long q2), .second, .val (.long rate), .second, .val (.ref b3), .val (.long nv), .second, .val (.long (nv - (1 : Int64))), .second, .val (.long ((q1 / (1000000000 : Int64)) * rate)), .second, .val (.long ((nv - (1 : Int64)) - ((q1 / (1000000000 : Int64)) * rate))), .second, .unset, .unset] [(.int (lcmpW ((nv - (1 : Int64)) - ((q1 / (1000000000 : Int64)) * rate)) (0 : Int64)))])) _
    refine XS.ifNo X5.here hx rfl (hb hby at_94) rfl ((if0 _ _).trans (flt hc94).1) ?_
    show Steps p.tables e below (T5.setTop (mkF m 97 #[.val (.long q1), .second, .val (.long q2), .second, .val (.long rate), .second, .val (.ref b3), .val (.long nv), .second, .val (.long (nv - (1 : Int64))), .second, .val (.long ((q1 / (1000000000 : Int64)) * rate)), .second, .val (.long ((nv - (1 : Int64)) - ((q1 / (1000000000 : Int64)) * rate))), .second, .unset, .unset] [])) _
    refine XS.lload X5.here hx rfl (hb hby at_97) rfl ?_
    show Steps p.tables e below (T5.setTop (mkF m 99 #[.val (.long q1), .second, .val (.long q2), .second, .val (.long rate), .second, .val (.ref b3), .val (.long nv), .second, .val (.long (nv - (1 : Int64))), .second, .val (.long ((q1 / (1000000000 : Int64)) * rate)), .second, .val (.long ((nv - (1 : Int64)) - ((q1 / (1000000000 : Int64)) * rate))), .second, .unset, .unset] [(.long ((nv - (1 : Int64)) - ((q1 / (1000000000 : Int64)) * rate)))])) _
    refine XS.lload X5.here hx rfl (hb hby at_99) rfl ?_
    show Steps p.tables e below (T5.setTop (mkF m 101 #[.val (.long q1), .second, .val (.long q2), .second, .val (.long rate), .second, .val (.ref b3), .val (.long nv), .second, .val (.long (nv - (1 : Int64))), .second, .val (.long ((q1 / (1000000000 : Int64)) * rate)), .second, .val (.long ((nv - (1 : Int64)) - ((q1 / (1000000000 : Int64)) * rate))), .second, .unset, .unset] [(.long rate), (.long ((nv - (1 : Int64)) - ((q1 / (1000000000 : Int64)) * rate)))])) _
    refine XS.lcmp X5.here hx rfl (hb hby at_101) rfl ?_
    show Steps p.tables e below (T5.setTop (mkF m 102 #[.val (.long q1), .second, .val (.long q2), .second, .val (.long rate), .second, .val (.ref b3), .val (.long nv), .second, .val (.long (nv - (1 : Int64))), .second, .val (.long ((q1 / (1000000000 : Int64)) * rate)), .second, .val (.long ((nv - (1 : Int64)) - ((q1 / (1000000000 : Int64)) * rate))), .second, .unset, .unset] [(.int (lcmpW ((nv - (1 : Int64)) - ((q1 / (1000000000 : Int64)) * rate)) rate))])) _
    refine XS.ifYes X5.here hx rfl (pc0 := 102) (pc' := 107) rfl (hb hby at_102) rfl ((if0 _ _).trans (flt hc102).2.2.2) (by decide) (by decide) ?_
    show Steps p.tables e below (T5.setTop (mkF m 107 #[.val (.long q1), .second, .val (.long q2), .second, .val (.long rate), .second, .val (.ref b3), .val (.long nv), .second, .val (.long (nv - (1 : Int64))), .second, .val (.long ((q1 / (1000000000 : Int64)) * rate)), .second, .val (.long ((nv - (1 : Int64)) - ((q1 / (1000000000 : Int64)) * rate))), .second, .unset, .unset] [])) _
    refine XS.lloadN X5.here hx rfl (hb hby at_107) rfl ?_
    show Steps p.tables e below (T5.setTop (mkF m 108 #[.val (.long q1), .second, .val (.long q2), .second, .val (.long rate), .second, .val (.ref b3), .val (.long nv), .second, .val (.long (nv - (1 : Int64))), .second, .val (.long ((q1 / (1000000000 : Int64)) * rate)), .second, .val (.long ((nv - (1 : Int64)) - ((q1 / (1000000000 : Int64)) * rate))), .second, .unset, .unset] [(.long q1)])) _
    refine XS.lload X5.here hx rfl (hb hby at_108) rfl ?_
    show Steps p.tables e below (T5.setTop (mkF m 110 #[.val (.long q1), .second, .val (.long q2), .second, .val (.long rate), .second, .val (.ref b3), .val (.long nv), .second, .val (.long (nv - (1 : Int64))), .second, .val (.long ((q1 / (1000000000 : Int64)) * rate)), .second, .val (.long ((nv - (1 : Int64)) - ((q1 / (1000000000 : Int64)) * rate))), .second, .unset, .unset] [(.long rate), (.long q1)])) _
    refine XS.lmul X5.here hx rfl (hb hby at_110) rfl ?_
    show Steps p.tables e below (T5.setTop (mkF m 111 #[.val (.long q1), .second, .val (.long q2), .second, .val (.long rate), .second, .val (.ref b3), .val (.long nv), .second, .val (.long (nv - (1 : Int64))), .second, .val (.long ((q1 / (1000000000 : Int64)) * rate)), .second, .val (.long ((nv - (1 : Int64)) - ((q1 / (1000000000 : Int64)) * rate))), .second, .unset, .unset] [(.long (q1 * rate))])) _
    refine XS.lload X5.here hx rfl (hb hby at_111) rfl ?_
    show Steps p.tables e below (T5.setTop (mkF m 113 #[.val (.long q1), .second, .val (.long q2), .second, .val (.long rate), .second, .val (.ref b3), .val (.long nv), .second, .val (.long (nv - (1 : Int64))), .second, .val (.long ((q1 / (1000000000 : Int64)) * rate)), .second, .val (.long ((nv - (1 : Int64)) - ((q1 / (1000000000 : Int64)) * rate))), .second, .unset, .unset] [(.long (nv - (1 : Int64))), (.long (q1 * rate))])) _
    refine X5.ldc2Long hx hown (mvT hZ (hw _ (List.mem_of_getElem? (i := 1) rfl))) (g := (mkF m 113 #[.val (.long q1), .second, .val (.long q2), .second, .val (.long rate), .second, .val (.ref b3), .val (.long nv), .second, .val (.long (nv - (1 : Int64))), .second, .val (.long ((q1 / (1000000000 : Int64)) * rate)), .second, .val (.long ((nv - (1 : Int64)) - ((q1 / (1000000000 : Int64)) * rate))), .second, .unset, .unset] [(.long (nv - (1 : Int64))), (.long (q1 * rate))])) rfl (hb hby at_113) _ ?_
    show Steps p.tables e below (T5.setTop (mkF m 116 #[.val (.long q1), .second, .val (.long q2), .second, .val (.long rate), .second, .val (.ref b3), .val (.long nv), .second, .val (.long (nv - (1 : Int64))), .second, .val (.long ((q1 / (1000000000 : Int64)) * rate)), .second, .val (.long ((nv - (1 : Int64)) - ((q1 / (1000000000 : Int64)) * rate))), .second, .unset, .unset] [(.long (1000000000 : Int64)), (.long (nv - (1 : Int64))), (.long (q1 * rate))])) _
    refine XS.lmul X5.here hx rfl (hb hby at_116) rfl ?_
    show Steps p.tables e below (T5.setTop (mkF m 117 #[.val (.long q1), .second, .val (.long q2), .second, .val (.long rate), .second, .val (.ref b3), .val (.long nv), .second, .val (.long (nv - (1 : Int64))), .second, .val (.long ((q1 / (1000000000 : Int64)) * rate)), .second, .val (.long ((nv - (1 : Int64)) - ((q1 / (1000000000 : Int64)) * rate))), .second, .unset, .unset] [(.long ((nv - (1 : Int64)) * (1000000000 : Int64))), (.long (q1 * rate))])) _
    refine XS.lsub X5.here hx rfl (hb hby at_117) rfl ?_
    show Steps p.tables e below (T5.setTop (mkF m 118 #[.val (.long q1), .second, .val (.long q2), .second, .val (.long rate), .second, .val (.ref b3), .val (.long nv), .second, .val (.long (nv - (1 : Int64))), .second, .val (.long ((q1 / (1000000000 : Int64)) * rate)), .second, .val (.long ((nv - (1 : Int64)) - ((q1 / (1000000000 : Int64)) * rate))), .second, .unset, .unset] [(.long ((q1 * rate) - ((nv - (1 : Int64)) * (1000000000 : Int64))))])) _
    refine XS.lstore X5.here hx rfl (hb hby at_118) rfl (l' := #[.val (.long q1), .second, .val (.long q2), .second, .val (.long rate), .second, .val (.ref b3), .val (.long nv), .second, .val (.long (nv - (1 : Int64))), .second, .val (.long ((q1 / (1000000000 : Int64)) * rate)), .second, .val (.long ((nv - (1 : Int64)) - ((q1 / (1000000000 : Int64)) * rate))), .second, .val (.long ((q1 * rate) - ((nv - (1 : Int64)) * (1000000000 : Int64)))), .second]) rfl ?_
    show Steps p.tables e below (T5.setTop (mkF m 120 #[.val (.long q1), .second, .val (.long q2), .second, .val (.long rate), .second, .val (.ref b3), .val (.long nv), .second, .val (.long (nv - (1 : Int64))), .second, .val (.long ((q1 / (1000000000 : Int64)) * rate)), .second, .val (.long ((nv - (1 : Int64)) - ((q1 / (1000000000 : Int64)) * rate))), .second, .val (.long ((q1 * rate) - ((nv - (1 : Int64)) * (1000000000 : Int64)))), .second] [])) _
    refine XS.lload X5.here hx rfl (hb hby at_120) rfl ?_
    show Steps p.tables e below (T5.setTop (mkF m 122 #[.val (.long q1), .second, .val (.long q2), .second, .val (.long rate), .second, .val (.ref b3), .val (.long nv), .second, .val (.long (nv - (1 : Int64))), .second, .val (.long ((q1 / (1000000000 : Int64)) * rate)), .second, .val (.long ((nv - (1 : Int64)) - ((q1 / (1000000000 : Int64)) * rate))), .second, .val (.long ((q1 * rate) - ((nv - (1 : Int64)) * (1000000000 : Int64)))), .second] [(.long ((q1 * rate) - ((nv - (1 : Int64)) * (1000000000 : Int64))))])) _
    refine XS.lconst X5.here hx rfl (hb hby at_122) ?_
    show Steps p.tables e below (T5.setTop (mkF m 123 #[.val (.long q1), .second, .val (.long q2), .second, .val (.long rate), .second, .val (.ref b3), .val (.long nv), .second, .val (.long (nv - (1 : Int64))), .second, .val (.long ((q1 / (1000000000 : Int64)) * rate)), .second, .val (.long ((nv - (1 : Int64)) - ((q1 / (1000000000 : Int64)) * rate))), .second, .val (.long ((q1 * rate) - ((nv - (1 : Int64)) * (1000000000 : Int64)))), .second] [(.long (0 : Int64)), (.long ((q1 * rate) - ((nv - (1 : Int64)) * (1000000000 : Int64))))])) _
    refine XS.lcmp X5.here hx rfl (hb hby at_123) rfl ?_
    show Steps p.tables e below (T5.setTop (mkF m 124 #[.val (.long q1), .second, .val (.long q2), .second, .val (.long rate), .second, .val (.ref b3), .val (.long nv), .second, .val (.long (nv - (1 : Int64))), .second, .val (.long ((q1 / (1000000000 : Int64)) * rate)), .second, .val (.long ((nv - (1 : Int64)) - ((q1 / (1000000000 : Int64)) * rate))), .second, .val (.long ((q1 * rate) - ((nv - (1 : Int64)) * (1000000000 : Int64)))), .second] [(.int (lcmpW ((q1 * rate) - ((nv - (1 : Int64)) * (1000000000 : Int64))) (0 : Int64)))])) _
    refine XS.ifNo X5.here hx rfl (hb hby at_124) rfl ((if0 _ _).trans (flt hc124).1) ?_
    show Steps p.tables e below (T5.setTop (mkF m 127 #[.val (.long q1), .second, .val (.long q2), .second, .val (.long rate), .second, .val (.ref b3), .val (.long nv), .second, .val (.long (nv - (1 : Int64))), .second, .val (.long ((q1 / (1000000000 : Int64)) * rate)), .second, .val (.long ((nv - (1 : Int64)) - ((q1 / (1000000000 : Int64)) * rate))), .second, .val (.long ((q1 * rate) - ((nv - (1 : Int64)) * (1000000000 : Int64)))), .second] [])) _
    refine XS.lload X5.here hx rfl (hb hby at_127) rfl ?_
    show Steps p.tables e below (T5.setTop (mkF m 129 #[.val (.long q1), .second, .val (.long q2), .second, .val (.long rate), .second, .val (.ref b3), .val (.long nv), .second, .val (.long (nv - (1 : Int64))), .second, .val (.long ((q1 / (1000000000 : Int64)) * rate)), .second, .val (.long ((nv - (1 : Int64)) - ((q1 / (1000000000 : Int64)) * rate))), .second, .val (.long ((q1 * rate) - ((nv - (1 : Int64)) * (1000000000 : Int64)))), .second] [(.long ((q1 * rate) - ((nv - (1 : Int64)) * (1000000000 : Int64))))])) _
    refine X5.ldc2Long hx hown (mvT hZ (hw _ (List.mem_of_getElem? (i := 1) rfl))) (g := (mkF m 129 #[.val (.long q1), .second, .val (.long q2), .second, .val (.long rate), .second, .val (.ref b3), .val (.long nv), .second, .val (.long (nv - (1 : Int64))), .second, .val (.long ((q1 / (1000000000 : Int64)) * rate)), .second, .val (.long ((nv - (1 : Int64)) - ((q1 / (1000000000 : Int64)) * rate))), .second, .val (.long ((q1 * rate) - ((nv - (1 : Int64)) * (1000000000 : Int64)))), .second] [(.long ((q1 * rate) - ((nv - (1 : Int64)) * (1000000000 : Int64))))])) rfl (hb hby at_129) _ ?_
    show Steps p.tables e below (T5.setTop (mkF m 132 #[.val (.long q1), .second, .val (.long q2), .second, .val (.long rate), .second, .val (.ref b3), .val (.long nv), .second, .val (.long (nv - (1 : Int64))), .second, .val (.long ((q1 / (1000000000 : Int64)) * rate)), .second, .val (.long ((nv - (1 : Int64)) - ((q1 / (1000000000 : Int64)) * rate))), .second, .val (.long ((q1 * rate) - ((nv - (1 : Int64)) * (1000000000 : Int64)))), .second] [(.long (1000000000 : Int64)), (.long ((q1 * rate) - ((nv - (1 : Int64)) * (1000000000 : Int64))))])) _
    refine XS.lcmp X5.here hx rfl (hb hby at_132) rfl ?_
    show Steps p.tables e below (T5.setTop (mkF m 133 #[.val (.long q1), .second, .val (.long q2), .second, .val (.long rate), .second, .val (.ref b3), .val (.long nv), .second, .val (.long (nv - (1 : Int64))), .second, .val (.long ((q1 / (1000000000 : Int64)) * rate)), .second, .val (.long ((nv - (1 : Int64)) - ((q1 / (1000000000 : Int64)) * rate))), .second, .val (.long ((q1 * rate) - ((nv - (1 : Int64)) * (1000000000 : Int64)))), .second] [(.int (lcmpW ((q1 * rate) - ((nv - (1 : Int64)) * (1000000000 : Int64))) (1000000000 : Int64)))])) _
    refine XS.ifNo X5.here hx rfl (hb hby at_133) rfl ((if0 _ _).trans (tlt hc133).2.1) ?_
    show Steps p.tables e below (T5.setTop (mkF m 136 #[.val (.long q1), .second, .val (.long q2), .second, .val (.long rate), .second, .val (.ref b3), .val (.long nv), .second, .val (.long (nv - (1 : Int64))), .second, .val (.long ((q1 / (1000000000 : Int64)) * rate)), .second, .val (.long ((nv - (1 : Int64)) - ((q1 / (1000000000 : Int64)) * rate))), .second, .val (.long ((q1 * rate) - ((nv - (1 : Int64)) * (1000000000 : Int64)))), .second] [])) _
    refine XS.iconst X5.here hx rfl (hb hby at_136) ?_
    show Steps p.tables e below (T5.setTop (mkF m 137 #[.val (.long q1), .second, .val (.long q2), .second, .val (.long rate), .second, .val (.ref b3), .val (.long nv), .second, .val (.long (nv - (1 : Int64))), .second, .val (.long ((q1 / (1000000000 : Int64)) * rate)), .second, .val (.long ((nv - (1 : Int64)) - ((q1 / (1000000000 : Int64)) * rate))), .second, .val (.long ((q1 * rate) - ((nv - (1 : Int64)) * (1000000000 : Int64)))), .second] [(.int (1 : Int32))])) _
    refine XS.goto X5.here hx rfl (pc0 := 137) (pc' := 141) rfl (hb hby at_137) (by decide) (by decide) ?_
    show Steps p.tables e below (T5.setTop (mkF m 141 #[.val (.long q1), .second, .val (.long q2), .second, .val (.long rate), .second, .val (.ref b3), .val (.long nv), .second, .val (.long (nv - (1 : Int64))), .second, .val (.long ((q1 / (1000000000 : Int64)) * rate)), .second, .val (.long ((nv - (1 : Int64)) - ((q1 / (1000000000 : Int64)) * rate))), .second, .val (.long ((q1 * rate) - ((nv - (1 : Int64)) * (1000000000 : Int64)))), .second] [(.int (1 : Int32))])) _
    exact retN X5 hx (t := .boolean) Bd.returns (by simp) (hb hby at_141) hr
  · show Q0 Z q1 q2 h0 n0 _ T5.heap _
    exact ⟨rfl, N5⟩
def Q0b (Z : State) (q1 : Int64) (q2 : Int64) (h0 : Heap) (n0 : Nat) (v : Option Value) (h : Heap) (L : List Loc) : Prop := v = some (.int (1 : Int32)) ∧ Fr n0 L
set_option maxRecDepth 65536 in
set_option maxHeartbeats 40000000 in
theorem rm0b (l : Launch) (Z : State) (a0 : Array Value) (hw : ∀ d ∈ tables_1, d.before a0 Z = true) (ws : List Jvm.Cond) (q1 : Int64) (q2 : Int64) (rate : Int64) (hrate : rate = (((q2 &&& (9223372036854775807 : Int64)) - ((q2 &&& (9223372036854775807 : Int64)) / (1000000000 : Int64)) * (1000000000 : Int64)) + (1 : Int64))) (h0 : Heap) (n0 : Nat) (Z0 : n0 ≤ h0.size) (hnz8 : ¬ ((1000000000 : Int64) = (0 : Int64))) (hc35 : (lcmpW q1 (0 : Int64)) < (0 : Int32)) (hc42 : (lcmpW (0 : Int64) (0 : Int64)) = (0 : Int32)) (hr1 : ¬ ((lcmpW rate (1 : Int64)) < (0 : Int32))) (hr2 : ¬ ((0 : Int32) < (lcmpW rate (1000000000 : Int64)))) :
    MetFree l x (head1 (Jvm.Cond.code x code maxLocals ret :: ws) room_1) (fun a U => a = #[(.long q1), (.long q2)] ∧ Z.Warmed39 U.vm ∧ U.heap = h0) (fun _ _ _ _ _ => True) (fun _ U o U' => ∃ v L, o = .returned v ∧ Q0b Z q1 q2 h0 n0 v U'.heap L ∧ FrameEnd U o U' L room_1.cells room_1.slots) := by
  refine MetFree.of_bodySF (plainFor_of_name pn_0) hisR ?_
  intro p e s m args below meth c s₁ Bd hml0 hP hK
  obtain ⟨rfl, hZ, hh⟩ := hP
  have hx := Bd.exec
  have hby := Bd.bytes
  have hml : c.maxLocals = 17 := hml0
  have hown : s.vm.findClass "com/example/sluiceway/sluiceway/workload/replay/PaceDueByPinLaw" = some m.cls := findClass_of_methodNamed Bd.named
  have hnm := (name_of_methodNamed Bd.named Bd.method).1
  have X0 : Stand p l e room_1 s m #[(.long q1), (.long q2)] below meth c s₁ [] 0 0 := Stand.of_body Bd
  have e0 : s₁.heap = h0 := by rw [← hh, Bd.state]; rfl
  have N0 := Fr.nil n0
  have pre0 : ∀ t, Steps p.tables e below (s₁.setTop (mkF m 0 #[.val (.long q1), .second, .val (.long q2), .second, .unset, .unset, .unset, .unset, .unset, .unset, .unset, .unset, .unset, .unset, .unset, .unset, .unset] [])) t → Steps p.tables e below (s₁.setTop (entryFrame m #[(.long q1), (.long q2)] maxLocals)) t := fun t k => castTop (ef_0 m q1 q2) k
  have pre1 : ∀ t, Steps p.tables e below (s₁.setTop (mkF m 13 #[.val (.long q1), .second, .val (.long q2), .second, .val (.long rate), .second, .unset, .unset, .unset, .unset, .unset, .unset, .unset, .unset, .unset, .unset, .unset] [])) t → Steps p.tables e below (s₁.setTop (mkF m 0 #[.val (.long q1), .second, .val (.long q2), .second, .unset, .unset, .unset, .unset, .unset, .unset, .unset, .unset, .unset, .unset, .unset, .unset, .unset] [])) t := by
    intro t kt
    subst hrate
    show Steps p.tables e below (s₁.setTop (mkF m 0 #[.val (.long q1), .second, .val (.long q2), .second, .unset, .unset, .unset, .unset, .unset, .unset, .unset, .unset, .unset, .unset, .unset, .unset, .unset] [])) _
    refine XS.lloadN X0.here hx rfl (hb hby at_0) rfl ?_
    show Steps p.tables e below (s₁.setTop (mkF m 1 #[.val (.long q1), .second, .val (.long q2), .second, .unset, .unset, .unset, .unset, .unset, .unset, .unset, .unset, .unset, .unset, .unset, .unset, .unset] [(.long q2)])) _
    refine X0.ldc2Long hx hown (mvT hZ (hw _ (List.mem_of_getElem? (i := 0) rfl))) (g := (mkF m 1 #[.val (.long q1), .second, .val (.long q2), .second, .unset, .unset, .unset, .unset, .unset, .unset, .unset, .unset, .unset, .unset, .unset, .unset, .unset] [(.long q2)])) rfl (hb hby at_1) _ ?_
    show Steps p.tables e below (s₁.setTop (mkF m 4 #[.val (.long q1), .second, .val (.long q2), .second, .unset, .unset, .unset, .unset, .unset, .unset, .unset, .unset, .unset, .unset, .unset, .unset, .unset] [(.long (9223372036854775807 : Int64)), (.long q2)])) _
    refine XS.land X0.here hx rfl (hb hby at_4) rfl ?_
    show Steps p.tables e below (s₁.setTop (mkF m 5 #[.val (.long q1), .second, .val (.long q2), .second, .unset, .unset, .unset, .unset, .unset, .unset, .unset, .unset, .unset, .unset, .unset, .unset, .unset] [(.long (q2 &&& (9223372036854775807 : Int64)))])) _
    refine X0.ldc2Long hx hown (mvT hZ (hw _ (List.mem_of_getElem? (i := 1) rfl))) (g := (mkF m 5 #[.val (.long q1), .second, .val (.long q2), .second, .unset, .unset, .unset, .unset, .unset, .unset, .unset, .unset, .unset, .unset, .unset, .unset, .unset] [(.long (q2 &&& (9223372036854775807 : Int64)))])) rfl (hb hby at_5) _ ?_
    show Steps p.tables e below (s₁.setTop (mkF m 8 #[.val (.long q1), .second, .val (.long q2), .second, .unset, .unset, .unset, .unset, .unset, .unset, .unset, .unset, .unset, .unset, .unset, .unset, .unset] [(.long (1000000000 : Int64)), (.long (q2 &&& (9223372036854775807 : Int64)))])) _
    refine XS.lrem X0.here hx rfl (hb hby at_8) rfl hnz8 ?_
    show Steps p.tables e below (s₁.setTop (mkF m 9 #[.val (.long q1), .second, .val (.long q2), .second, .unset, .unset, .unset, .unset, .unset, .unset, .unset, .unset, .unset, .unset, .unset, .unset, .unset] [(.long ((q2 &&& (9223372036854775807 : Int64)) - ((q2 &&& (9223372036854775807 : Int64)) / (1000000000 : Int64)) * (1000000000 : Int64)))])) _
    refine XS.lconst X0.here hx rfl (hb hby at_9) ?_
    show Steps p.tables e below (s₁.setTop (mkF m 10 #[.val (.long q1), .second, .val (.long q2), .second, .unset, .unset, .unset, .unset, .unset, .unset, .unset, .unset, .unset, .unset, .unset, .unset, .unset] [(.long (1 : Int64)), (.long ((q2 &&& (9223372036854775807 : Int64)) - ((q2 &&& (9223372036854775807 : Int64)) / (1000000000 : Int64)) * (1000000000 : Int64)))])) _
    refine XS.ladd X0.here hx rfl (hb hby at_10) rfl ?_
    show Steps p.tables e below (s₁.setTop (mkF m 11 #[.val (.long q1), .second, .val (.long q2), .second, .unset, .unset, .unset, .unset, .unset, .unset, .unset, .unset, .unset, .unset, .unset, .unset, .unset] [(.long (((q2 &&& (9223372036854775807 : Int64)) - ((q2 &&& (9223372036854775807 : Int64)) / (1000000000 : Int64)) * (1000000000 : Int64)) + (1 : Int64)))])) _
    refine XS.lstore X0.here hx rfl (hb hby at_11) rfl (l' := #[.val (.long q1), .second, .val (.long q2), .second, .val (.long (((q2 &&& (9223372036854775807 : Int64)) - ((q2 &&& (9223372036854775807 : Int64)) / (1000000000 : Int64)) * (1000000000 : Int64)) + (1 : Int64))), .second, .unset, .unset, .unset, .unset, .unset, .unset, .unset, .unset, .unset, .unset, .unset]) rfl ?_
    exact kt
  -- 3. LAWS
  obtain ⟨T3, h3, X3, e3, E3, A3, D3, -, st3⟩ := newO X0 hx hZ hown (hw _ (List.mem_of_getElem? (i := 2) rfl)) (hw _ (List.mem_of_getElem? (i := 3) rfl)) (hw _ (List.mem_of_getElem? (i := 4) rfl)) e0 (g := (mkF m 13 #[.val (.long q1), .second, .val (.long q2), .second, .val (.long rate), .second, .unset, .unset, .unset, .unset, .unset, .unset, .unset, .unset, .unset, .unset, .unset] [])) rfl (hb hby at_13) (by decide) (by decide)
  obtain ⟨b3, g3⟩ : ∃ z, z = h0.size := ⟨_, rfl⟩      -- the fresh object's address
  rw [← g3] at A3 D3 st3      -- A3 : Exa Z h3 b3 "com/example/sluiceway/sluiceway/workload/replay/Pace"; E3 : Ext h0 h3 (carries every older fact: .ext E3)
  have F_rate_b3 : Fld Z h3 b3 "com/example/sluiceway/sluiceway/workload/replay/Pace" "rate" "J" (.long (0 : Int64)) := D3 (Or.inr (hw _ (List.mem_of_getElem? (i := 13) rfl))) (ty := .long) (by decide)
  have E_b3 := A3
  have g_b3 : n0 ≤ b3 := Nat.le_trans Z0 (Nat.le_of_eq g3.symm)
  have sz_b3 : h0.size ≤ b3 := (Nat.le_trans (Keep.refl h0 []).1 (Nat.le_of_eq g3.symm))
  have K3 : Keep h0 h3 [] := (Keep.refl h0 []).ext E3
  -- pc 19: the constructor of com/example/sluiceway/sluiceway/workload/replay/Pace by its contract rm1
  obtain ⟨_, _, ⟨T4, L4, k4, n4⟩, -, X4, ⟨Lc4, hQ4, l4, y4, z4⟩, st4⟩ := X3.specialBack hx (y := (⟨"com/example/sluiceway/sluiceway/workload/replay/Pace", "<init>", "(J)V"⟩ : MethodName)) rfl hown (mvT hZ (hw _ (List.mem_of_getElem? (i := 5) rfl))) (mvT hZ (hw _ (List.mem_of_getElem? (i := 6) rfl))) (mvT hZ (hw _ (List.mem_of_getElem? (i := 7) rfl))) (by decide) (backOf (W := 1) (rm1 l Z a0 hw [] b3 rate _ h3 n0 (Nat.le_trans Z0 E3.1) E_b3 F_rate_b3 g_b3 hr1 hr2) hZ (hw _ (List.mem_of_getElem? (i := 7) rfl)) (hw _ (List.mem_of_getElem? (i := 4) rfl)) (by decide) (by decide)) (g := (mkF m 19 #[.val (.long q1), .second, .val (.long q2), .second, .val (.long rate), .second, .unset, .unset, .unset, .unset, .unset, .unset, .unset, .unset, .unset, .unset, .unset] [(.long rate), (.ref b3), (.ref b3)])) rfl (by rw [hml]; rfl) (Steps.refl _) (a := b3) (argsL := [(.long rate)]) (rest := [(.ref b3)]) (lenOf pd_0_0 rfl) rfl (by show 2 * 0 + _ ≤ _; exact Nat.le_of_eq rfl) (hb hby at_19) (fun _ _ => ⟨rfl, e3, (by decide : 1 + 0 ≤ _), (by decide : 1 + 0 ≤ _)⟩)
  dsimp only [Pt.U, Pt.locs, Pt.cells, Pt.slots] at X4 l4 y4 z4 st4 hQ4
  subst l4 y4 z4
  obtain ⟨rfl, N4q, K4c, E4c, F4c⟩ := hQ4
  have N4 := Fr.app N0 N4q
  -- pc 27: com/example/sluiceway/sluiceway/workload/replay/Pace.dueBy by the contract of the body that the receiver's class selects, rm3
  obtain ⟨cq5, kq5, q5a, q5b, q5c⟩ := isOf hZ rfl (E_b3.keep K4c)
  obtain ⟨_, _, ⟨T5, L5, k5, n5⟩, -, X5, ⟨Lc5, hQ5, l5, y5, z5⟩, st5⟩ := X4.virtualBack hx (y := (⟨"com/example/sluiceway/sluiceway/workload/replay/Pace", "dueBy", "(J)J"⟩ : MethodName)) (z := (⟨"com/example/sluiceway/sluiceway/workload/replay/Pace", "dueBy", "(J)J"⟩ : MethodName)) hown (mvT hZ (hw _ (List.mem_of_getElem? (i := 14) rfl))) (mvT hZ (hw _ (List.mem_of_getElem? (i := 15) rfl))) (notFace_of_selects (args := #[]) (mvT hZ (hw _ (List.mem_of_getElem? (i := 17) rfl)))) (mvT hZ (hw _ (List.mem_of_getElem? (i := 17) rfl))) (mvT hZ (hw _ (List.mem_of_getElem? (i := 16) rfl))) (by decide) (backOf (W := 0) (rm3b l Z a0 hw [] b3 q1 T4.heap n0 (Nat.le_trans (Nat.le_trans Z0 E3.1) K4c.1) hc35) hZ (hw _ (List.mem_of_getElem? (i := 18) rfl)) (hw _ (List.mem_of_getElem? (i := 4) rfl)) (by decide) (by decide)) q5a q5c (g := (mkF m 27 #[.val (.long q1), .second, .val (.long q2), .second, .val (.long rate), .second, .val (.ref b3), .unset, .unset, .unset, .unset, .unset, .unset, .unset, .unset, .unset, .unset] [(.long q1), (.ref b3)])) rfl (by rw [hml]; rfl) (Steps.refl _) (argsL := [(.long q1)]) (rest := []) (lenOf pd_0_2 rfl) rfl (by show 2 * 0 + _ ≤ _; exact Nat.le_of_eq rfl) (hb hby at_27) (fun _ _ => ⟨rfl, rfl, (by decide : 1 + 0 ≤ _), (by decide : 1 + 0 ≤ _)⟩)
  dsimp only [Pt.U, Pt.locs, Pt.cells, Pt.slots] at X5 l5 y5 z5 st5 hQ5
  subst l5 y5 z5
  obtain ⟨rfl, N5q, e5q⟩ := hQ5
  have N5 := Fr.app N4 N5q
  obtain ⟨fs, hr, hrun, hended, hW, hsame⟩ := X5.leave (v := some (.int (1 : Int32))) (fun h => by rw [Bd.returns] at h; cases h)
  refine ⟨_, _, pre0 _ (pre1 _ ?_), hrun, hended, _, _, rfl, ?_, ⟨_, rfl⟩, hW, hsame.mono (by decide) (by decide)⟩
  -- 4. STEPS
  · show Steps p.tables e below (s₁.setTop (mkF m 13 #[.val (.long q1), .second, .val (.long q2), .second, .val (.long rate), .second, .unset, .unset, .unset, .unset, .unset, .unset, .unset, .unset, .unset, .unset, .unset] [])) _
    refine st3 _ ?_
    show Steps p.tables e below (T3.setTop (mkF m 16 #[.val (.long q1), .second, .val (.long q2), .second, .val (.long rate), .second, .unset, .unset, .unset, .unset, .unset, .unset, .unset, .unset, .unset, .unset, .unset] [(.ref b3)])) _
    refine XS.dup X3.here hx rfl (hb hby at_16) rfl rfl ?_
    show Steps p.tables e below (T3.setTop (mkF m 17 #[.val (.long q1), .second, .val (.long q2), .second, .val (.long rate), .second, .unset, .unset, .unset, .unset, .unset, .unset, .unset, .unset, .unset, .unset, .unset] [(.ref b3), (.ref b3)])) _
    refine XS.lload X3.here hx rfl (hb hby at_17) rfl ?_
    show Steps p.tables e below (T3.setTop (mkF m 19 #[.val (.long q1), .second, .val (.long q2), .second, .val (.long rate), .second, .unset, .unset, .unset, .unset, .unset, .unset, .unset, .unset, .unset, .unset, .unset] [(.long rate), (.ref b3), (.ref b3)])) _
    refine st4.trans ?_
    show Steps p.tables e below (T4.setTop (mkF m 22 #[.val (.long q1), .second, .val (.long q2), .second, .val (.long rate), .second, .unset, .unset, .unset, .unset, .unset, .unset, .unset, .unset, .unset, .unset, .unset] [(.ref b3)])) _
    refine XS.astore X4.here hx rfl (hb hby at_22) rfl rfl (l' := #[.val (.long q1), .second, .val (.long q2), .second, .val (.long rate), .second, .val (.ref b3), .unset, .unset, .unset, .unset, .unset, .unset, .unset, .unset, .unset, .unset]) rfl ?_
    show Steps p.tables e below (T4.setTop (mkF m 24 #[.val (.long q1), .second, .val (.long q2), .second, .val (.long rate), .second, .val (.ref b3), .unset, .unset, .unset, .unset, .unset, .unset, .unset, .unset, .unset, .unset] [])) _
    refine XS.aload X4.here hx rfl (hb hby at_24) rfl rfl ?_
    show Steps p.tables e below (T4.setTop (mkF m 26 #[.val (.long q1), .second, .val (.long q2), .second, .val (.long rate), .second, .val (.ref b3), .unset, .unset, .unset, .unset, .unset, .unset, .unset, .unset, .unset, .unset] [(.ref b3)])) _
    refine XS.lloadN X4.here hx rfl (hb hby at_26) rfl ?_
    show Steps p.tables e below (T4.setTop (mkF m 27 #[.val (.long q1), .second, .val (.long q2), .second, .val (.long rate), .second, .val (.ref b3), .unset, .unset, .unset, .unset, .unset, .unset, .unset, .unset, .unset, .unset] [(.long q1), (.ref b3)])) _
    refine st5.trans ?_
    show Steps p.tables e below (T5.setTop (mkF m 30 #[.val (.long q1), .second, .val (.long q2), .second, .val (.long rate), .second, .val (.ref b3), .unset, .unset, .unset, .unset, .unset, .unset, .unset, .unset, .unset, .unset] [(.long (0 : Int64))])) _
    refine XS.lstore X5.here hx rfl (hb hby at_30) rfl (l' := #[.val (.long q1), .second, .val (.long q2), .second, .val (.long rate), .second, .val (.ref b3), .val (.long (0 : Int64)), .second, .unset, .unset, .unset, .unset, .unset, .unset, .unset, .unset]) rfl ?_
    show Steps p.tables e below (T5.setTop (mkF m 32 #[.val (.long q1), .second, .val (.long q2), .second, .val (.long rate), .second, .val (.ref b3), .val (.long (0 : Int64)), .second, .unset, .unset, .unset, .unset, .unset, .unset, .unset, .unset] [])) _
    refine XS.lloadN X5.here hx rfl (hb hby at_32) rfl ?_
    show Steps p.tables e below (T5.setTop (mkF m 33 #[.val (.long q1), .second, .val (.long q2), .second, .val (.long rate), .second, .val (.ref b3), .val (.long (0 : Int64)), .second, .unset, .unset, .unset, .unset, .unset, .unset, .unset, .unset] [(.long q1)])) _
    refine XS.lconst X5.here hx rfl (hb hby at_33) ?_
    show Steps p.tables e below (T5.setTop (mkF m 34 #[.val (.long q1), .second, .val (.long q2), .second, .val (.long rate), .second, .val (.ref b3), .val (.long (0 : Int64)), .second, .unset, .unset, .unset, .unset, .unset, .unset, .unset, .unset] [(.long (0 : Int64)), (.long q1)])) _
    refine XS.lcmp X5.here hx rfl (hb hby at_34) rfl ?_
    show Steps p.tables e below (T5.setTop (mkF m 35 #[.val (.long q1), .second, .val (.long q2), .second, .val (.long rate), .second, .val (.ref b3), .val (.long (0 : Int64)), .second, .unset, .unset, .unset, .unset, .unset, .unset, .unset, .unset] [(.int (lcmpW q1 (0 : Int64)))])) _
    refine XS.ifNo X5.here hx rfl (hb hby at_35) rfl ((if0 _ _).trans (tlt hc35).2.1) ?_
    show Steps p.tables e below (T5.setTop (mkF m 38 #[.val (.long q1), .second, .val (.long q2), .second, .val (.long rate), .second, .val (.ref b3), .val (.long (0 : Int64)), .second, .unset, .unset, .unset, .unset, .unset, .unset, .unset, .unset] [])) _
    refine XS.lload X5.here hx rfl (hb hby at_38) rfl ?_
    show Steps p.tables e below (T5.setTop (mkF m 40 #[.val (.long q1), .second, .val (.long q2), .second, .val (.long rate), .second, .val (.ref b3), .val (.long (0 : Int64)), .second, .unset, .unset, .unset, .unset, .unset, .unset, .unset, .unset] [(.long (0 : Int64))])) _
    refine XS.lconst X5.here hx rfl (hb hby at_40) ?_
    show Steps p.tables e below (T5.setTop (mkF m 41 #[.val (.long q1), .second, .val (.long q2), .second, .val (.long rate), .second, .val (.ref b3), .val (.long (0 : Int64)), .second, .unset, .unset, .unset, .unset, .unset, .unset, .unset, .unset] [(.long (0 : Int64)), (.long (0 : Int64))])) _
    refine XS.lcmp X5.here hx rfl (hb hby at_41) rfl ?_
    show Steps p.tables e below (T5.setTop (mkF m 42 #[.val (.long q1), .second, .val (.long q2), .second, .val (.long rate), .second, .val (.ref b3), .val (.long (0 : Int64)), .second, .unset, .unset, .unset, .unset, .unset, .unset, .unset, .unset] [(.int (lcmpW (0 : Int64) (0 : Int64)))])) _
    refine XS.ifNo X5.here hx rfl (hb hby at_42) rfl ((if0 _ _).trans (teq hc42).2) ?_
    show Steps p.tables e below (T5.setTop (mkF m 45 #[.val (.long q1), .second, .val (.long q2), .second, .val (.long rate), .second, .val (.ref b3), .val (.long (0 : Int64)), .second, .unset, .unset, .unset, .unset, .unset, .unset, .unset, .unset] [])) _
    refine XS.iconst X5.here hx rfl (hb hby at_45) ?_
    show Steps p.tables e below (T5.setTop (mkF m 46 #[.val (.long q1), .second, .val (.long q2), .second, .val (.long rate), .second, .val (.ref b3), .val (.long (0 : Int64)), .second, .unset, .unset, .unset, .unset, .unset, .unset, .unset, .unset] [(.int (1 : Int32))])) _
    refine XS.goto X5.here hx rfl (pc0 := 46) (pc' := 50) rfl (hb hby at_46) (by decide) (by decide) ?_
    show Steps p.tables e below (T5.setTop (mkF m 50 #[.val (.long q1), .second, .val (.long q2), .second, .val (.long rate), .second, .val (.ref b3), .val (.long (0 : Int64)), .second, .unset, .unset, .unset, .unset, .unset, .unset, .unset, .unset] [(.int (1 : Int32))])) _
    exact retN X5 hx (t := .boolean) Bd.returns (by simp) (hb hby at_50) hr
  · show Q0b Z q1 q2 h0 n0 _ T5.heap _
    exact ⟨rfl, N5⟩
-- 5. FROM THE CASE'S WORDS TO rm0, AND THE OWED THEOREMS
set_option maxRecDepth 65536 in
set_option maxHeartbeats 40000000 in
theorem comes_1 {Post : Tables → Env → Array Value → State → Outcome → State → Prop} (hpost : ∀ tb e args s v u, (limb_1_1.after args s (.returned v) u = true ∧ limb_1_2.after args s (.returned v) u = true ∧ True) → FrameEnd s (.returned v) u (Jvm.fieldLocs frame_1_writes args s ++ Jvm.arrayLocs frame_1_arrays args s ++ Jvm.staticLocs frame_1_statics s) 16 128 → Post tb e args s (.returned v) u) :
    ArmFor flags0 classFile x code maxLocals ret World_1 tables_1 room_1 Calls_1 rest_1 Pre_1 Post := by
  intro l hfl _ _ p e ha hc hk s m args below hf hA hF happ hP
  obtain ⟨hcalls, hrest, hpre⟩ := hP
  obtain ⟨-, -, -, hnamed, -, -, -, hat⟩ := (Spec.applies_iff hf).mp happ
  obtain ⟨hg, hn⟩ := and_e (Cond.before_iff.mp (show (Jvm.Cond.and given_1 narrow_1).before args s = true from hpre))
  obtain ⟨g6, g7⟩ := and_e hg
  obtain ⟨g8, g9⟩ := and_e g7
  obtain ⟨w0, w1, rfl⟩ : ∃ w0 w1 : Value, args = #[w0, w1] := by
    have hs : args.size = 2 := by simpa [Cond.value, given_1] using g6
    obtain ⟨L⟩ := args
    match L, hs with
    | [w0, w1], _ => exact ⟨w0, w1, rfl⟩
  have hw := fun d (hd : d ∈ tables_1) => atoms_spec (ws := Jvm.Cond.code x code maxLocals ret :: tables_1) hat d (List.mem_cons_of_mem _ hd)
  have hfit : Fit s := fun {y c} hc i hi => by
    obtain ⟨ha, rfl⟩ := Array.getElem?_eq_some_iff.mp hc
    have q := List.all_eq_true.mp ((Array.all_eq_true_iff_forall_mem.mp hF) _ (Array.getElem_mem ha)) i (List.mem_range.mpr hi)
    simpa [Array.getElem?_eq_getElem hi] using q
  obtain ⟨i0, ei0⟩ := isL_v g8
  obtain rfl : w0 = (.long i0) := Option.some.inj ei0
  obtain ⟨i1, ei1⟩ := isL_v g9
  obtain rfl : w1 = (.long i1) := Option.some.inj ei1
  have rr := own_rate i1
  have hr1 : ¬ ((lcmpW (((i1 &&& (9223372036854775807 : Int64)) - ((i1 &&& (9223372036854775807 : Int64)) / (1000000000 : Int64)) * (1000000000 : Int64)) + (1 : Int64)) (1 : Int64)) < (0 : Int32)) := by rw [lw_lt, Int64.lt_iff_toInt_lt, show (1 : Int64).toInt = 1 from rfl]; omega
  have hr2 : ¬ ((0 : Int32) < (lcmpW (((i1 &&& (9223372036854775807 : Int64)) - ((i1 &&& (9223372036854775807 : Int64)) / (1000000000 : Int64)) * (1000000000 : Int64)) + (1 : Int64)) (1000000000 : Int64))) := by rw [lw_gt, Int64.lt_iff_toInt_lt, show (1000000000 : Int64).toInt = 1000000000 from rfl]; omega
  by_cases hT : (lcmpW i0 (0 : Int64)) < (0 : Int32)
  · obtain ⟨n, o, h1, h2, h3, _, L, rfl, ⟨rfl, N⟩, hq⟩ := rm0b l s _ hw tables_1 i0 i1 _ rfl s.heap s.heap.size (Nat.le_refl _) own_nz hT (by decide) hr1 hr2 p e ha hc hk s m _ below hf ((Spec.applies_iff_loose hf).mp happ).1 ⟨rfl, State.Warmed39.refl s, rfl⟩ trivial
    refine ⟨n, _, h1, h2, h3, hpost _ _ _ _ _ _ ⟨Cond.after_iff.mpr rfl, Cond.after_iff.mpr (eq_i res_at (Term.int_eval (1)) rfl), trivial⟩ ⟨hq.1, hq.2.1, (hq.2.2.sift fun y hy => Or.inr (N y hy)).mono (by decide) (by decide)⟩⟩
  · have t1 : 0 ≤ i0.toInt := by
      have hT2 := hT
      rw [lw_lt, Int64.lt_iff_toInt_lt, show (0 : Int64).toInt = 0 from rfl] at hT2
      omega
    have ar := own_ar i0 (((i1 &&& (9223372036854775807 : Int64)) - ((i1 &&& (9223372036854775807 : Int64)) / (1000000000 : Int64)) * (1000000000 : Int64)) + (1 : Int64)) _ t1 rr.1 rr.2 rfl
    obtain ⟨n, o, h1, h2, h3, _, L, rfl, ⟨rfl, N⟩, hq⟩ := rm0 l s _ hw tables_1 i0 i1 _ rfl _ rfl s.heap s.heap.size (Nat.le_refl _) own_nz hT ar.1 ar.2.1 own_nz ar.2.2.1 ar.2.2.2.1 ar.2.2.2.2.1 ar.2.2.2.2.2 hr1 hr2 p e ha hc hk s m _ below hf ((Spec.applies_iff_loose hf).mp happ).1 ⟨rfl, State.Warmed39.refl s, rfl⟩ trivial
    refine ⟨n, _, h1, h2, h3, hpost _ _ _ _ _ _ ⟨Cond.after_iff.mpr rfl, Cond.after_iff.mpr (eq_i res_at (Term.int_eval (1)) rfl), trivial⟩ ⟨hq.1, hq.2.1, (hq.2.2.sift fun y hy => Or.inr (N y hy)).mono (by decide) (by decide)⟩⟩
theorem main_1_1 : Claimed_1_1 := comes_1 fun _ _ _ _ _ _ h hF => ⟨h.1, hF⟩
theorem main_1_2 : Claimed_1_2 := comes_1 fun _ _ _ _ _ _ h hF => ⟨h.2.1, hF⟩
end Jvm.Pilot.@@N@@
namespace Jvm.Pilot.@@N@@
open Jvm Jvm.ClassFile Sem Op Lib Jvm.Free Jvm.Stand Jvm.Pilot.@@N@@.Jvm.D
/-! MADE BY PROGRAM (witnessworld.py) out of the Statement's table words and the real class files: 9 classes; the members and pool entries that the words name. The judged class is class 1, her method 1. -/
namespace start1
open Jvm.ClassFile
def u (s : String) : CpInfo := .utf8 (stringToUtf16 s)
/-- a pool by its gaps: so many unusable entries, then the entry; so many at the end -/
def gap : Nat → List CpInfo → List CpInfo
  | 0, r => r
  | n + 1, r => .unusable :: gap n r
def poolList (es : List (Nat × CpInfo)) (last : Nat) : List CpInfo := es.foldr (fun e r => gap e.1 (e.2 :: r)) (gap last [])
def pool (es : List (Nat × CpInfo)) (last : Nat) : Array CpInfo := ⟨poolList es last⟩
def fileOf (pool : Array CpInfo) (this : Nat) (attrs : Array Attribute := #[]) (ms : Array MethodInfo := #[]) (fl : Nat := 33) (sup : Nat := 0) (ifs : Array Nat := #[]) (fds : Array FieldInfo := #[]) : ClassFile where
  minorVersion := 0
  majorVersion := 65
  constantPool := pool
  accessFlags := fl
  thisClass := this
  superClass := sup
  interfaces := ifs
  fields := fds
  methods := ms
  attributes := attrs
def plain (name : String) (sup : Option ClassId) : Class where
  name := name
  kind := .ordinary
  loader := none
  accessFlags := 33
  super := sup
  interfaces := #[]
  cf := none
  fields := #[]
  methods := #[]
  instanceTypes := #[]
  staticTypes := #[]
  resolved := #[]
  callSites := []
  init := .initialized
  statics := none
  mirror := none

def pool0 : Array CpInfo := pool [(5, u "<init>"), (0, u "()V"), (1, .class_ 10), (1, u "java/lang/Object")] 113

def k0c0 : Code := { maxStack := 0, maxLocals := 1, code := object_method_1_code, exceptionTable := #[], attributes := #[] }
def k0m0 : Method := { name := "<init>", desc := "()V", sig := { parameters := [], returnType := none }, accessFlags := 1, code := some k0c0 }
/-- java/lang/Object -/
def k0 : Class := { plain "java/lang/Object" none with
  accessFlags := 33
  interfaces := #[]
  cf := some (fileOf pool0 8 #[] #[{ accessFlags := 1, nameIndex := 5, descriptorIndex := 6, attributes := #[] }] 33 0 #[] #[])
  fields := #[]
  methods := #[k0m0]
  instanceTypes := #[]
  staticTypes := #[]
  resolved := Array.replicate 124 none
  statics := none }

def pool1 : Array CpInfo := pool [(2, .class_ 4), (1, u "java/lang/Object"), (0, u "<init>"), (0, u "()V"), (0, .long 9223372036854775807), (1, .long 1000000000), (1, .class_ 12), (0, u "com/example/sluiceway/sluiceway/workload/replay/Pace"), (0, .methodref 11 14), (0, .nameAndType 5 15), (0, u "(J)V"), (0, .methodref 11 17), (0, .nameAndType 18 19), (0, u "dueBy"), (0, u "(J)J"), (0, .class_ 21), (0, u "com/example/sluiceway/sluiceway/workload/replay/PaceDueByPinLaw"), (2, u "law"), (0, u "(JJ)Z")] 3

def k1m0 : Method := { name := "<init>", desc := "()V", sig := { parameters := [], returnType := none }, accessFlags := 1, code := none }
def k1c1 : Code := { maxStack := 6, maxLocals := 17, code := code, exceptionTable := #[], attributes := #[] }
def k1m1 : Method := { name := "law", desc := "(JJ)Z", sig := { parameters := [.long, .long], returnType := some .boolean }, accessFlags := 9, code := some k1c1 }
/-- com/example/sluiceway/sluiceway/workload/replay/PaceDueByPinLaw -/
def k1 : Class := { plain "com/example/sluiceway/sluiceway/workload/replay/PaceDueByPinLaw" (some 0) with
  accessFlags := 49
  interfaces := #[]
  cf := some (fileOf pool1 20 #[] #[{ accessFlags := 1, nameIndex := 5, descriptorIndex := 6, attributes := #[] }, { accessFlags := 9, nameIndex := 24, descriptorIndex := 25, attributes := #[] }] 49 2 #[] #[])
  fields := #[]
  methods := #[k1m0, k1m1]
  instanceTypes := #[]
  staticTypes := #[]
  resolved := Array.replicate 29 none
  statics := none }

def pool2 : Array CpInfo := pool [(1, .methodref 2 3), (0, .class_ 4), (0, .nameAndType 5 6), (0, u "java/lang/Object"), (0, u "<init>"), (0, u "()V"), (0, .class_ 8), (0, u "com/example/sluiceway/sluiceway/workload/replay/Pace"), (0, .long 1000000000), (10, .fieldref 7 21), (0, .nameAndType 22 23), (0, u "rate"), (0, u "J"), (0, u "MAX_RATE"), (1, u "NANOS_PER_SECOND"), (0, u "(J)V"), (4, u "(J)J"), (0, u "dueBy")] 17

def k2c0 : Code := { maxStack := 4, maxLocals := 3, code := prog_70_method_1_code, exceptionTable := #[], attributes := #[] }
def k2m0 : Method := { name := "<init>", desc := "(J)V", sig := { parameters := [.long], returnType := none }, accessFlags := 1, code := some k2c0 }
def k2c1 : Code := { maxStack := 6, maxLocals := 7, code := prog_70_method_3_code, exceptionTable := #[], attributes := #[] }
def k2m1 : Method := { name := "dueBy", desc := "(J)J", sig := { parameters := [.long], returnType := some .long }, accessFlags := 0, code := some k2c1 }
/-- com/example/sluiceway/sluiceway/workload/replay/Pace -/
def k2 : Class := { plain "com/example/sluiceway/sluiceway/workload/replay/Pace" (some 0) with
  accessFlags := 49
  interfaces := #[]
  cf := some (fileOf pool2 7 #[] #[{ accessFlags := 1, nameIndex := 5, descriptorIndex := 27, attributes := #[] }, { accessFlags := 0, nameIndex := 33, descriptorIndex := 32, attributes := #[] }] 49 2 #[] #[{ accessFlags := 25, nameIndex := 24, descriptorIndex := 23, attributes := #[] }, { accessFlags := 24, nameIndex := 26, descriptorIndex := 23, attributes := #[] }, { accessFlags := 18, nameIndex := 22, descriptorIndex := 23, attributes := #[] }])
  fields := #[{ name := "MAX_RATE", type := .long, accessFlags := 25, slot := 0, constantValue := 0 }, { name := "NANOS_PER_SECOND", type := .long, accessFlags := 24, slot := 1, constantValue := 0 }, { name := "rate", type := .long, accessFlags := 18, slot := 0, constantValue := 0 }]
  methods := #[k2m0, k2m1]
  instanceTypes := #[.long]
  staticTypes := #[.long, .long]
  resolved := Array.replicate 51 none
  statics := none }

def pool3 : Array CpInfo := pool [(1, u "java/lang/Cloneable"), (0, .class_ 1), (0, u "java/lang/Object"), (0, .class_ 3)] 3

/-- java/lang/Cloneable -/
def k3 : Class := { plain "java/lang/Cloneable" (some 0) with
  accessFlags := 1537
  interfaces := #[]
  cf := some (fileOf pool3 2 #[] #[] 1537 4 #[] #[])
  fields := #[]
  methods := #[]
  instanceTypes := #[]
  staticTypes := #[]
  resolved := Array.replicate 8 none
  statics := none }

def pool4 : Array CpInfo := pool [(1, u "java/io/Serializable"), (0, .class_ 1), (0, u "java/lang/Object"), (0, .class_ 3)] 3

/-- java/io/Serializable -/
def k4 : Class := { plain "java/io/Serializable" (some 0) with
  accessFlags := 1537
  interfaces := #[]
  cf := some (fileOf pool4 2 #[] #[] 1537 4 #[] #[])
  fields := #[]
  methods := #[]
  instanceTypes := #[]
  staticTypes := #[]
  resolved := Array.replicate 8 none
  statics := none }

/-- the primitive byte -/
def k5 : Class := { plain "byte" none with kind := .primitive 'B', accessFlags := 0x411 }
/-- [B -/
def k6 : Class := { plain "[B" (some 0) with kind := .array 5 .byte, interfaces := #[3, 4], accessFlags := 1041 }

/-- the primitive int -/
def k7 : Class := { plain "int" none with kind := .primitive 'I', accessFlags := 0x411 }
/-- [I -/
def k8 : Class := { plain "[I" (some 0) with kind := .array 7 .int, interfaces := #[3, 4], accessFlags := 1041 }

def heap : Heap := #[]
def classes : Array Class := #[k0, k1, k2, k3, k4, k5, k6, k7, k8]
def interned : List (Array UInt16 × Addr) := []
def slotsUsed : Nat := 0
def theMethod : MethodId := ⟨1, 1⟩
def args0 : Array Value := #[.long 5, .long 300]
def aboutOver (below : List Frame) : State where
  vm := { classes := classes, interned := interned.toArray }
  heap := heap
  slotsUsed := slotsUsed
  threads := #[{ frames := .invoking theMethod args0 :: below }]
def below0 : List Frame := [.native { method := ⟨0, 0⟩, args := #[] }]
def about1 : State := aboutOver below0
def p0 : Program := .bare "" "" ""
def e0 : Env := launch0.env 0 0 0
theorem w_frames : about1.frames = Frame.invoking theMethod args0 :: below0 := rfl
set_option maxRecDepth 65536 in
theorem w_args : argsFit about1.vm theMethod args0 = true := by decide +kernel
set_option maxRecDepth 65536 in
theorem w_heap : heapFits about1 = true := by decide +kernel
set_option maxRecDepth 65536 in
theorem w_runnable : about1.curStatus? = some .runnable := by decide +kernel
set_option maxRecDepth 65536 in
theorem w_alone : about1.alone = true := by decide +kernel
set_option maxRecDepth 65536 in
theorem w_named : about1.methodNamed? x = some theMethod := by decide +kernel
set_option maxRecDepth 65536 in
theorem w_hears : about1.hears theMethod below0 = true := by decide +kernel
set_option maxRecDepth 65536 in
theorem w_ripe : about1.ripe theMethod args0 below0 = true := by decide +kernel
theorem w_running : about1.status = .running := rfl
set_option maxRecDepth 65536 in
theorem w_room : about1.hasRoom e0.platform room_1 = true :=
  launch0.hasRoom_least _ room_1 (by decide +kernel) (by decide +kernel) (by decide +kernel) (by decide +kernel) (by decide +kernel) (by decide +kernel)
theorem allAtoms_all (ts : List Jvm.Cond) (a : Array Jvm.Value) (st : Jvm.State) : (allAtoms ts).before a st = ts.all (fun c => c.before a st) := by
  induction ts with
  | nil => rfl
  | cons c t ih =>
    show (Jvm.Cond.and c (allAtoms t)).before a st = _
    rw [Jvm.Cond.before_and, ih, List.all_cons]
def words1 : List Jvm.Cond := Jvm.Cond.code x code maxLocals ret :: tables_1
/-- a 'code' word, met by the world's own term for the bytes: nothing is compared byte by byte -/
theorem code_word {y : MethodName} {bytes : ByteArray} {mx : Nat} {rt : Option FieldType} {a : Array Value} {s : State} {m : MethodId} {meth : Method} {c : Code} (h1 : s.methodNamed? y = some m) (h2 : s.vm.method? m = some meth) (h3 : meth.code = some c) (h4 : c.code = bytes)
    (h5 : (c.maxLocals == mx && c.exceptionTable.isEmpty && decide (c.maxStack ≤ mostOperands) && decide (meth.sig.returnType = rt) && !meth.locks && decide (parseMethodDescriptor y.desc = some meth.sig)) = true) : (Jvm.Cond.code y bytes mx rt).before a s = true := by
  simp only [Bool.and_eq_true, beq_iff_eq, Bool.not_eq_true', decide_eq_true_eq] at h5
  obtain ⟨⟨⟨⟨⟨g1, g2⟩, g3⟩, g4⟩, g5⟩, g6⟩ := h5
  simp [Cond.before, Cond.holds, Cond.value, h1, h2, h3, h4, g1, g2, g3, g4, g5, g6]
def isCode : Jvm.Cond → Bool
  | .code _ _ _ _ => true
  | _ => false
theorem all_split {L : List Jvm.Cond} {P : Jvm.Cond → Bool} (h1 : L.all (fun c => isCode c || P c) = true) (h2 : ∀ c ∈ L.filter isCode, P c = true) : L.all P = true := by
  refine List.all_eq_true.mpr fun c hc => ?_
  have h := List.all_eq_true.mp h1 c hc
  rcases Bool.eq_false_or_eq_true (isCode c) with hi | hi
  · exact h2 c (List.mem_filter.mpr ⟨hc, hi⟩)
  · simpa [hi] using h
set_option maxRecDepth 65536 in
theorem w_c0 : (Jvm.Cond.code x code maxLocals ret).before args0 about1 = true := code_word (m := ⟨1, 1⟩) (meth := k1m1) (c := k1c1) (by decide +kernel) rfl rfl rfl (by decide +kernel)
set_option maxRecDepth 65536 in
theorem w_c1 : (Jvm.Cond.code ({ cls := "com/example/sluiceway/sluiceway/workload/replay/Pace", name := "<init>", desc := "(J)V" } : Jvm.MethodName) prog_70_method_1_code (3 : Nat) (Option.none : Option Jvm.ClassFile.FieldType)).before args0 about1 = true := code_word (m := ⟨2, 0⟩) (meth := k2m0) (c := k2c0) (by decide +kernel) rfl rfl rfl (by decide +kernel)
set_option maxRecDepth 65536 in
theorem w_c2 : (Jvm.Cond.code ({ cls := "java/lang/Object", name := "<init>", desc := "()V" } : Jvm.MethodName) object_method_1_code (1 : Nat) (Option.none : Option Jvm.ClassFile.FieldType)).before args0 about1 = true := code_word (m := ⟨0, 0⟩) (meth := k0m0) (c := k0c0) (by decide +kernel) rfl rfl rfl (by decide +kernel)
set_option maxRecDepth 65536 in
theorem w_c3 : (Jvm.Cond.code ({ cls := "com/example/sluiceway/sluiceway/workload/replay/Pace", name := "dueBy", desc := "(J)J" } : Jvm.MethodName) prog_70_method_3_code (7 : Nat) (Option.some Jvm.ClassFile.FieldType.long)).before args0 about1 = true := code_word (m := ⟨2, 1⟩) (meth := k2m1) (c := k2c1) (by decide +kernel) rfl rfl rfl (by decide +kernel)
def codes1 : List Jvm.Cond := [Jvm.Cond.code x code maxLocals ret, Jvm.Cond.code ({ cls := "com/example/sluiceway/sluiceway/workload/replay/Pace", name := "<init>", desc := "(J)V" } : Jvm.MethodName) prog_70_method_1_code (3 : Nat) (Option.none : Option Jvm.ClassFile.FieldType), Jvm.Cond.code ({ cls := "java/lang/Object", name := "<init>", desc := "()V" } : Jvm.MethodName) object_method_1_code (1 : Nat) (Option.none : Option Jvm.ClassFile.FieldType), Jvm.Cond.code ({ cls := "com/example/sluiceway/sluiceway/workload/replay/Pace", name := "dueBy", desc := "(J)J" } : Jvm.MethodName) prog_70_method_3_code (7 : Nat) (Option.some Jvm.ClassFile.FieldType.long)]
set_option maxRecDepth 65536 in
theorem codes_eq : words1.filter isCode = codes1 := rfl
theorem w_codes : ∀ c ∈ words1.filter isCode, c.before args0 about1 = true := by
  rw [codes_eq]
  intro c hc
  simp only [codes1, List.mem_cons, List.not_mem_nil, or_false] at hc
  rcases hc with rfl | rfl | rfl | rfl
  · exact w_c0
  · exact w_c1
  · exact w_c2
  · exact w_c3
set_option maxRecDepth 65536 in
theorem w_t1 : words1.all (fun c => isCode c || c.before args0 about1) = true := by decide +kernel
theorem w_tables : (allAtoms (Jvm.Cond.code x code maxLocals ret :: tables_1)).before args0 about1 = true := by
  rw [allAtoms_all]
  show words1.all (fun c => c.before args0 about1) = true
  refine all_split ?_ w_codes
  rw [w_t1]
set_option maxRecDepth 65536 in
theorem w_case : (Jvm.Cond.and given_1 narrow_1).before args0 about1 = true := by decide +kernel
theorem w_applies : (headSpec (Jvm.Cond.code x code maxLocals ret :: tables_1) room_1).applies x e0.platform about1 = true :=
  (Spec.applies_iff w_frames).mpr ⟨w_running, w_runnable, w_alone, w_named, w_hears, w_ripe, w_room, w_tables⟩
theorem atStart : AtStart classFile x code maxLocals ret World_1 tables_1 room_1 Calls_1 rest_1 Pre_1 launch0 p0 e0 about1 theMethod args0 below0 :=
  ⟨lists_1, trivial, launch0.admits_env _ _ _, launch0.least_env, fairChoices_fair.cas, fairChoices_fair.clock, w_frames, w_args, w_heap, w_applies, trivial, trivial, w_case⟩
end start1
theorem witness_1 : WitnessClaimed_1 := ⟨start1.p0, start1.e0, start1.about1, start1.theMethod, start1.args0, start1.below0, start1.atStart⟩
end Jvm.Pilot.@@N@@
