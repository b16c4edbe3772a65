import JvmDerived
import JvmDerived.Pilot.@@N@@Statement
import JvmDerived.Pilot.@@N@@Code
set_option linter.unusedVariables false
set_option linter.unusedSimpArgs false
@@BLOCK:NumsL.lean.txt@@
namespace Jvm.RoadKit
open Sem ClassFile Op Lib Jvm.Stand Jvm.Free Jvm.LawKit
section New
variable {p : Program} {l : Launch} {e : Env} {R : Room} {s : State} {m : MethodId} {args : Array Value} {below : List Frame} {meth : Method} {c : Code} {T : State} {locs : List Loc} {cells slots : Nat}
theorem retI (X : Stand p l e R s m args below meth c T locs cells slots) (hx : p.tables.exec = Jvm.exec) {pc : Nat} {Ls : Array Slot} {z : Int32} {rest : List Value} (hret : meth.sig.returnType = some .int) (hd : decode c.code pc = .ok (.ireturn, 1)) {fs : List Frame}
    (hl : ∀ (f : JFrame) (acts : List Action), f.method = m → f.locked = none → f.entered = [] → (doReturn e (T.setTop f) acts (some (.int z))).1 = T.setFrames fs) : Steps p.tables e below (T.setTop (mkF m pc Ls (.int z :: rest))) (T.setFrames fs) := by
  have hm' : T.vm.method? m = some meth := X.method'
  have hn : narrow .int (.int z) = .int z := rfl
  show Steps p.tables e below (T.setTop { method := m, pc := pc, locals := Ls, stack := _ :: rest, locked := none }) _
  jvm_step X.here [X.here.top, hx, hd, hm', hret, hn]
  first | (intro acts; rw [hl _ acts rfl rfl rfl]) | rw [hl _ _ rfl rfl rfl]
  exact Steps.refl _
end New
end Jvm.RoadKit
namespace Jvm.Pilot.@@N@@
open Jvm Jvm.ClassFile Sem Op Lib Jvm.Free Jvm.Stand Jvm.LawKit Jvm.RoadKit Bundle Jvm.Pilot.@@N@@.Jvm.D
def own_max (a b : Int32) : Int32 := if a < b then b else a
theorem own_max1 (a : Int32) : 1 ≤ (own_max 1 (a &&& 2147483647)).toInt := by
  have h1 : (1 : Int32).toInt = 1 := rfl
  unfold own_max
  split
  · rename_i h
    rw [Int32.lt_iff_toInt_lt] at h
    omega
  · omega
theorem own_arith (k b : Int32) (hk : 1 ≤ k.toInt) :
    ¬ ((((2147483647 : Int32) - k) + (1 : Int32)) = (0 : Int32)) ∧
    ∀ t : Int32, t = (k + ((b &&& (2147483647 : Int32)) - ((b &&& (2147483647 : Int32)) / (((2147483647 : Int32) - k) + (1 : Int32))) * (((2147483647 : Int32) - k) + (1 : Int32)))) →
      ¬ (t < k) ∧ ¬ (((t - k) + (1 : Int32)) < (1 : Int32)) ∧ ¬ (t < ((t - k) + (1 : Int32))) ∧ (lcmpW (((((t - k) + (1 : Int32)).toInt64) + (k.toInt64)) - (1 : Int64)) (t.toInt64)) = (0 : Int32) := by
  have hM : (2147483647 : Int32).toInt = 2147483647 := rfl
  have h1 : (1 : Int32).toInt = 1 := rfl
  have h0 : (0 : Int32).toInt = 0 := rfl
  have L1 : (1 : Int64).toInt = 1 := rfl
  have ku := k.toInt_lt
  have s1 : ((2147483647 : Int32) - k).toInt = 2147483647 - k.toInt := by rw [Jvm.Kit.i32_sub (by omega) (by omega), hM]
  have s2 : (((2147483647 : Int32) - k) + (1 : Int32)).toInt = 2147483648 - k.toInt := by rw [Jvm.Kit.i32_add (by omega) (by omega), s1, h1]; omega
  refine ⟨fun q => by rw [q, h0] at s2; omega, ?_⟩
  intro t ht
  have e1 : (b &&& 2147483647).toInt = b.toInt % 2 ^ 31 := Jvm.Kit.i32_mask b 2147483647 (k := 31) (by decide) (by decide)
  generalize (((2147483647 : Int32) - k) + (1 : Int32)) = sp at *
  generalize (b &&& (2147483647 : Int32)) = v at *
  rw [irem_eq_mod] at ht
  have hv : 0 ≤ v.toInt := by omega
  have e2 : (v % sp).toInt = v.toInt % sp.toInt := Jvm.Kit.i32_rem_nonneg hv
  have b1 : 0 ≤ v.toInt % sp.toInt := Int.emod_nonneg _ (by omega)
  have b2 : v.toInt % sp.toInt < sp.toInt := Int.emod_lt_of_pos _ (by omega)
  generalize (v % sp) = r at *
  generalize v.toInt % sp.toInt = ri at *
  have et : t.toInt = k.toInt + r.toInt := by rw [ht, Jvm.Kit.i32_add (by omega) (by omega)]
  have ew0 : (t - k).toInt = r.toInt := by rw [Jvm.Kit.i32_sub (by omega) (by omega), et]; omega
  have ew : ((t - k) + (1 : Int32)).toInt = r.toInt + 1 := by rw [Jvm.Kit.i32_add (by omega) (by omega), ew0, h1]
  generalize ((t - k) + (1 : Int32)) = w at *
  have el : ((w.toInt64 + k.toInt64) - (1 : Int64)).toInt = w.toInt + k.toInt - 1 := by
    have a1 := Jvm.Kit.i64_of_i32 w
    have a2 := Jvm.Kit.i64_of_i32 k
    have a3 : (w.toInt64 + k.toInt64).toInt = w.toInt + k.toInt := by rw [Jvm.Kit.i64_add (by omega) (by omega), a1, a2]
    rw [Jvm.Kit.i64_sub (by omega) (by omega), a3, L1]
  refine ⟨?_, ?_, ?_, ?_⟩
  · rw [Int32.lt_iff_toInt_lt]; omega
  · rw [Int32.lt_iff_toInt_lt]; omega
  · rw [Int32.lt_iff_toInt_lt]; omega
  · rw [lw_eq, ← Int64.toInt_inj, el, Jvm.Kit.i64_of_i32]; omega
theorem d1_0 : decode jdk_29_method_65_code 0 = .ok (.iload_n 0, 1) := by decide +kernel
theorem d1_1 : decode jdk_29_method_65_code 1 = .ok (.iload_n 1, 1) := by decide +kernel
theorem d1_2 : decode jdk_29_method_65_code 2 = .ok (.if_icmp .lt 7, 3) := by decide +kernel
theorem d1_9 : decode jdk_29_method_65_code 9 = .ok (.iload_n 1, 1) := by decide +kernel
theorem d1_10 : decode jdk_29_method_65_code 10 = .ok (.ireturn, 1) := by decide +kernel
theorem ef_1 (m : MethodId) (x0 : Int32) (x1 : Int32) : entryFrame m #[(.int x0), (.int x1)] 2 = mkF m 0 #[.val (.int x0), .val (.int x1)] [] := by first | (simp [entryFrame, mkF, argsToLocals, Value.category]; done) | rfl
theorem d1_5 : decode jdk_29_method_65_code 5 = .ok (.iload_n 0, 1) := by decide +kernel
theorem d1_6 : decode jdk_29_method_65_code 6 = .ok (.goto 4, 3) := by decide +kernel
def Q1 (Z : State) (p1 : Int32) (p2 : Int32) (h0 : Heap) (n0 : Nat) (v : Option Value) (h : Heap) (L : List Loc) : Prop := v = some (.int (own_max p1 p2)) ∧ Fr n0 L ∧ h = h0
set_option maxRecDepth 65536 in
set_option maxHeartbeats 40000000 in
theorem rm1t (l : Launch) (Z : State) (a0 : Array Value) (hw : ∀ d ∈ tables_1, d.before a0 Z = true) (ws : List Jvm.Cond) (p1 : Int32) (p2 : Int32) (h0 : Heap) (n0 : Nat) (Z0 : n0 ≤ h0.size) (hc2 : p1 < p2) :
    MetFree l (⟨"java/lang/Math", "max", "(II)I"⟩ : MethodName) (head1 (Jvm.Cond.code (⟨"java/lang/Math", "max", "(II)I"⟩ : MethodName) jdk_29_method_65_code 2 (some .int) :: ws) ({ frames := 0, cells := 0, slots := 0, locals := 0 } : Room)) (fun a U => a = #[(.int p1), (.int p2)] ∧ Z.Warmed39 U.vm ∧ U.heap = h0) (fun _ _ _ _ _ => True) (fun _ U o U' => ∃ v L, o = .returned v ∧ Q1 Z p1 p2 h0 n0 v U'.heap L ∧ FrameEnd U o U' L ({ frames := 0, cells := 0, slots := 0, locals := 0 } : Room).cells ({ frames := 0, cells := 0, slots := 0, locals := 0 } : Room).slots) := by
  refine MetFree.of_bodySF (Jvm.Free.JP.mathPlain rfl (by decide +kernel)) hisR ?_
  intro p e s m args below meth c s₁ Bd hml0 hP hK
  obtain ⟨rfl, hZ, hh⟩ := hP
  have hx := Bd.exec
  have hby := Bd.bytes
  have hml : c.maxLocals = 2 := hml0
  have hown : s.vm.findClass "java/lang/Math" = some m.cls := findClass_of_methodNamed Bd.named
  have hnm := (name_of_methodNamed Bd.named Bd.method).1
  have X0 : Stand p l e ({ frames := 0, cells := 0, slots := 0, locals := 0 } : Room) s m #[(.int p1), (.int p2)] below meth c s₁ [] 0 0 := Stand.of_body Bd
  have e0 : s₁.heap = h0 := by rw [← hh, Bd.state]; rfl
  have N0 := Fr.nil n0
  have pre0 : ∀ t, Steps p.tables e below (s₁.setTop (mkF m 0 #[.val (.int p1), .val (.int p2)] [])) t → Steps p.tables e below (s₁.setTop (entryFrame m #[(.int p1), (.int p2)] 2)) t := fun t k => castTop (ef_1 m p1 p2) k
  -- 3. LAWS

  obtain ⟨fs, hr, hrun, hended, hW, hsame⟩ := X0.leave (v := some (.int p2)) (fun h => by rw [Bd.returns] at h; cases h)
  refine ⟨_, _, pre0 _ ?_, hrun, hended, _, _, rfl, ?_, ⟨_, rfl⟩, hW, hsame.mono (by decide) (by decide)⟩
  -- 4. STEPS
  · show Steps p.tables e below (s₁.setTop (mkF m 0 #[.val (.int p1), .val (.int p2)] [])) _
    refine XS.iloadN X0.here hx rfl (hb hby d1_0) rfl ?_
    show Steps p.tables e below (s₁.setTop (mkF m 1 #[.val (.int p1), .val (.int p2)] [(.int p1)])) _
    refine XS.iloadN X0.here hx rfl (hb hby d1_1) rfl ?_
    show Steps p.tables e below (s₁.setTop (mkF m 2 #[.val (.int p1), .val (.int p2)] [(.int p2), (.int p1)])) _
    refine XS.icmpYes X0.here hx rfl (pc0 := 2) (pc' := 9) rfl (hb hby d1_2) rfl (tlt hc2).1 (by decide) (by decide) ?_
    show Steps p.tables e below (s₁.setTop (mkF m 9 #[.val (.int p1), .val (.int p2)] [])) _
    refine XS.iloadN X0.here hx rfl (hb hby d1_9) rfl ?_
    show Steps p.tables e below (s₁.setTop (mkF m 10 #[.val (.int p1), .val (.int p2)] [(.int p2)])) _
    exact retI X0 hx Bd.returns (hb hby d1_10) hr      -- retI stands in the head ('lawwalk <made dir>' prints it)
  · show Q1 Z p1 p2 h0 n0 _ s₁.heap _
    rw [e0]
    exact ⟨by simp [own_max, hc2], N0, rfl⟩
set_option maxRecDepth 65536 in
set_option maxHeartbeats 40000000 in
theorem rm1f (l : Launch) (Z : State) (a0 : Array Value) (hw : ∀ d ∈ tables_1, d.before a0 Z = true) (ws : List Jvm.Cond) (p1 : Int32) (p2 : Int32) (h0 : Heap) (n0 : Nat) (Z0 : n0 ≤ h0.size) (hc2 : ¬ (p1 < p2)) :
    MetFree l (⟨"java/lang/Math", "max", "(II)I"⟩ : MethodName) (head1 (Jvm.Cond.code (⟨"java/lang/Math", "max", "(II)I"⟩ : MethodName) jdk_29_method_65_code 2 (some .int) :: ws) ({ frames := 0, cells := 0, slots := 0, locals := 0 } : Room)) (fun a U => a = #[(.int p1), (.int p2)] ∧ Z.Warmed39 U.vm ∧ U.heap = h0) (fun _ _ _ _ _ => True) (fun _ U o U' => ∃ v L, o = .returned v ∧ Q1 Z p1 p2 h0 n0 v U'.heap L ∧ FrameEnd U o U' L ({ frames := 0, cells := 0, slots := 0, locals := 0 } : Room).cells ({ frames := 0, cells := 0, slots := 0, locals := 0 } : Room).slots) := by
  refine MetFree.of_bodySF (Jvm.Free.JP.mathPlain rfl (by decide +kernel)) hisR ?_
  intro p e s m args below meth c s₁ Bd hml0 hP hK
  obtain ⟨rfl, hZ, hh⟩ := hP
  have hx := Bd.exec
  have hby := Bd.bytes
  have hml : c.maxLocals = 2 := hml0
  have hown : s.vm.findClass "java/lang/Math" = some m.cls := findClass_of_methodNamed Bd.named
  have hnm := (name_of_methodNamed Bd.named Bd.method).1
  have X0 : Stand p l e ({ frames := 0, cells := 0, slots := 0, locals := 0 } : Room) s m #[(.int p1), (.int p2)] below meth c s₁ [] 0 0 := Stand.of_body Bd
  have e0 : s₁.heap = h0 := by rw [← hh, Bd.state]; rfl
  have N0 := Fr.nil n0
  have pre0 : ∀ t, Steps p.tables e below (s₁.setTop (mkF m 0 #[.val (.int p1), .val (.int p2)] [])) t → Steps p.tables e below (s₁.setTop (entryFrame m #[(.int p1), (.int p2)] 2)) t := fun t k => castTop (ef_1 m p1 p2) k
  -- 3. LAWS

  obtain ⟨fs, hr, hrun, hended, hW, hsame⟩ := X0.leave (v := some (.int p1)) (fun h => by rw [Bd.returns] at h; cases h)
  refine ⟨_, _, pre0 _ ?_, hrun, hended, _, _, rfl, ?_, ⟨_, rfl⟩, hW, hsame.mono (by decide) (by decide)⟩
  -- 4. STEPS
  · show Steps p.tables e below (s₁.setTop (mkF m 0 #[.val (.int p1), .val (.int p2)] [])) _
    refine XS.iloadN X0.here hx rfl (hb hby d1_0) rfl ?_
    show Steps p.tables e below (s₁.setTop (mkF m 1 #[.val (.int p1), .val (.int p2)] [(.int p1)])) _
    refine XS.iloadN X0.here hx rfl (hb hby d1_1) rfl ?_
    show Steps p.tables e below (s₁.setTop (mkF m 2 #[.val (.int p1), .val (.int p2)] [(.int p2), (.int p1)])) _
    refine XS.icmpNo X0.here hx rfl (hb hby d1_2) rfl (flt hc2).1 ?_
    show Steps p.tables e below (s₁.setTop (mkF m 5 #[.val (.int p1), .val (.int p2)] [])) _
    refine XS.iloadN X0.here hx rfl (hb hby d1_5) rfl ?_
    show Steps p.tables e below (s₁.setTop (mkF m 6 #[.val (.int p1), .val (.int p2)] [(.int p1)])) _
    refine XS.goto X0.here hx rfl (pc0 := 6) (pc' := 10) rfl (hb hby d1_6) (by decide) (by decide) ?_
    show Steps p.tables e below (s₁.setTop (mkF m 10 #[.val (.int p1), .val (.int p2)] [(.int p1)])) _
    exact retI X0 hx Bd.returns (hb hby d1_10) hr      -- retI stands in the head ('lawwalk <made dir>' prints it)
  · show Q1 Z p1 p2 h0 n0 _ s₁.heap _
    rw [e0]
    exact ⟨by simp [own_max, hc2], N0, rfl⟩
theorem rm1 (l : Launch) (Z : State) (a0 : Array Value) (hw : ∀ d ∈ tables_1, d.before a0 Z = true) (ws : List Jvm.Cond) (p1 : Int32) (p2 : Int32) (h0 : Heap) (n0 : Nat) (Z0 : n0 ≤ h0.size) :
    MetFree l (⟨"java/lang/Math", "max", "(II)I"⟩ : MethodName) (head1 (Jvm.Cond.code (⟨"java/lang/Math", "max", "(II)I"⟩ : MethodName) jdk_29_method_65_code 2 (some .int) :: ws) ({ frames := 0, cells := 0, slots := 0, locals := 0 } : Room)) (fun a U => a = #[(.int p1), (.int p2)] ∧ Z.Warmed39 U.vm ∧ U.heap = h0) (fun _ _ _ _ _ => True) (fun _ U o U' => ∃ v L, o = .returned v ∧ Q1 Z p1 p2 h0 n0 v U'.heap L ∧ FrameEnd U o U' L ({ frames := 0, cells := 0, slots := 0, locals := 0 } : Room).cells ({ frames := 0, cells := 0, slots := 0, locals := 0 } : Room).slots) := by
  by_cases h : p1 < p2
  · exact rm1t l Z a0 hw ws p1 p2 h0 n0 Z0 h
  · exact rm1f l Z a0 hw ws p1 p2 h0 n0 Z0 h
theorem d3_0 : decode jdk_30_method_1_code 0 = .ok (.aload_n 0, 1) := by decide +kernel
theorem d3_1 : decode jdk_30_method_1_code 1 = .ok (.invokespecial 1, 3) := by decide +kernel
theorem d3_4 : decode jdk_30_method_1_code 4 = .ok (.return_, 1) := by decide +kernel
theorem pn_3 : plainName "java/lang/Record" = true := by first | (simp [plainName, overriddenIn]; done) | decide +kernel
theorem ef_3 (m : MethodId) (x0 : Addr) : entryFrame m #[(.ref x0)] 1 = mkF m 0 #[.val (.ref x0)] [] := by first | (simp [entryFrame, mkF, argsToLocals, Value.category]; done) | rfl
def Q3 (Z : State) (a1 : Addr) (h0 : Heap) (n0 : Nat) (v : Option Value) (h : Heap) (L : List Loc) : Prop := v = none ∧ Fr n0 L ∧ h = h0
set_option maxRecDepth 65536 in
set_option maxHeartbeats 40000000 in
theorem rm3 (l : Launch) (Z : State) (a0 : Array Value) (hw : ∀ d ∈ tables_1, d.before a0 Z = true) (ws : List Jvm.Cond) (a1 : Addr) (h0 : Heap) (n0 : Nat) (Z0 : n0 ≤ h0.size) :
    MetFree l (⟨"java/lang/Record", "<init>", "()V"⟩ : MethodName) (head1 (Jvm.Cond.code (⟨"java/lang/Record", "<init>", "()V"⟩ : MethodName) jdk_30_method_1_code 1 none :: ws) ({ frames := 1, cells := 0, slots := 0, locals := 12 } : Room)) (fun a U => a = #[(.ref a1)] ∧ Z.Warmed39 U.vm ∧ U.heap = h0) (fun _ _ _ _ _ => True) (fun _ U o U' => ∃ v L, o = .returned v ∧ Q3 Z a1 h0 n0 v U'.heap L ∧ FrameEnd U o U' L ({ frames := 1, cells := 0, slots := 0, locals := 12 } : Room).cells ({ frames := 1, cells := 0, slots := 0, locals := 12 } : Room).slots) := by
  refine MetFree.of_bodySF (plainFor_of_name pn_3) hisR ?_
  intro p e s m args below meth c s₁ Bd hml0 hP hK
  obtain ⟨rfl, hZ, hh⟩ := hP
  have hx := Bd.exec
  have hby := Bd.bytes
  have hml : c.maxLocals = 1 := hml0
  have hown : s.vm.findClass "java/lang/Record" = some m.cls := findClass_of_methodNamed Bd.named
  have hnm := (name_of_methodNamed Bd.named Bd.method).1
  have X0 : Stand p l e ({ frames := 1, cells := 0, slots := 0, locals := 12 } : Room) s m #[(.ref a1)] below meth c s₁ [] 0 0 := Stand.of_body Bd
  have e0 : s₁.heap = h0 := by rw [← hh, Bd.state]; rfl
  have N0 := Fr.nil n0
  have pre0 : ∀ t, Steps p.tables e below (s₁.setTop (mkF m 0 #[.val (.ref a1)] [])) t → Steps p.tables e below (s₁.setTop (entryFrame m #[(.ref a1)] 1)) t := fun t k => castTop (ef_3 m a1) k
  -- 3. LAWS
  obtain ⟨T2, X2, e2, st2⟩ := initO X0 hx hZ hown (hw _ (List.mem_of_getElem? (i := 16) rfl)) (hw _ (List.mem_of_getElem? (i := 17) rfl)) (hw _ (List.mem_of_getElem? (i := 18) rfl)) e0 (g := (mkF m 1 #[.val (.ref a1)] [(.ref a1)])) rfl (by rw [hml]; rfl) rfl (hb hby d3_1) (by decide) (W := 0) (by show 2 * 0 + _ ≤ _; exact Nat.le_of_eq rfl) (by decide)
  obtain ⟨fs, hr, hrun, hended, hW, hsame⟩ := X2.leave (v := none) (fun _ => rfl)
  refine ⟨_, _, pre0 _ ?_, hrun, hended, _, _, rfl, ?_, ⟨_, rfl⟩, hW, hsame.mono (by decide) (by decide)⟩
  -- 4. STEPS
  · show Steps p.tables e below (s₁.setTop (mkF m 0 #[.val (.ref a1)] [])) _
    refine XS.aloadN X0.here hx rfl (hb hby d3_0) rfl rfl ?_
    show Steps p.tables e below (s₁.setTop (mkF m 1 #[.val (.ref a1)] [(.ref a1)])) _
    refine st2 _ ?_
    show Steps p.tables e below (T2.setTop (mkF m 4 #[.val (.ref a1)] [])) _
    exact X2.returnOut hx Bd.returns (hb hby d3_4) hr
  · show Q3 Z a1 h0 n0 _ T2.heap _
    rw [e2]
    exact ⟨rfl, N0, rfl⟩
theorem d2_0 : decode prog_34_method_1_code 0 = .ok (.aload_n 0, 1) := by decide +kernel
theorem d2_1 : decode prog_34_method_1_code 1 = .ok (.invokespecial 1, 3) := by decide +kernel
theorem d2_4 : decode prog_34_method_1_code 4 = .ok (.iload_n 1, 1) := by decide +kernel
theorem d2_5 : decode prog_34_method_1_code 5 = .ok (.iconst 1, 1) := by decide +kernel
theorem d2_6 : decode prog_34_method_1_code 6 = .ok (.if_icmp .ge 17, 3) := by decide +kernel
theorem d2_23 : decode prog_34_method_1_code 23 = .ok (.iload_n 2, 1) := by decide +kernel
theorem d2_24 : decode prog_34_method_1_code 24 = .ok (.iload_n 1, 1) := by decide +kernel
theorem d2_25 : decode prog_34_method_1_code 25 = .ok (.if_icmp .ge 18, 3) := by decide +kernel
theorem d2_43 : decode prog_34_method_1_code 43 = .ok (.aload_n 0, 1) := by decide +kernel
theorem d2_44 : decode prog_34_method_1_code 44 = .ok (.iload_n 1, 1) := by decide +kernel
theorem d2_45 : decode prog_34_method_1_code 45 = .ok (.putfield 19, 3) := by decide +kernel
theorem d2_48 : decode prog_34_method_1_code 48 = .ok (.aload_n 0, 1) := by decide +kernel
theorem d2_49 : decode prog_34_method_1_code 49 = .ok (.iload_n 2, 1) := by decide +kernel
theorem d2_50 : decode prog_34_method_1_code 50 = .ok (.putfield 25, 3) := by decide +kernel
theorem d2_53 : decode prog_34_method_1_code 53 = .ok (.return_, 1) := by decide +kernel
theorem pn_2 : plainName "com/example/shingle/shingle/core/Thresholds" = true := by first | (simp [plainName, overriddenIn]; done) | decide +kernel
theorem pd_2_2 : parseMethodDescriptor "()V" = some ⟨[], none⟩ := by decide +kernel
theorem ef_2 (m : MethodId) (x0 : Addr) (x1 : Int32) (x2 : Int32) : entryFrame m #[(.ref x0), (.int x1), (.int x2)] 3 = mkF m 0 #[.val (.ref x0), .val (.int x1), .val (.int x2)] [] := by first | (simp [entryFrame, mkF, argsToLocals, Value.category]; done) | rfl
def Q2 (Z : State) (a1 : Addr) (p2 : Int32) (p3 : Int32) (u_k_a1 : Value) (u_t_a1 : Value) (h0 : Heap) (n0 : Nat) (v : Option Value) (h : Heap) (L : List Loc) : Prop := v = none ∧ Fr n0 L ∧ Keep h0 h [a1] ∧ Exa Z h a1 "com/example/shingle/shingle/core/Thresholds" ∧ Fld Z h a1 "com/example/shingle/shingle/core/Thresholds" "k" "I" (.int p2) ∧ Fld Z h a1 "com/example/shingle/shingle/core/Thresholds" "t" "I" (.int p3)
set_option maxRecDepth 65536 in
set_option maxHeartbeats 40000000 in
theorem rm2 (l : Launch) (Z : State) (a0 : Array Value) (hw : ∀ d ∈ tables_1, d.before a0 Z = true) (ws : List Jvm.Cond) (a1 : Addr) (p2 : Int32) (p3 : Int32) (u_k_a1 : Value) (u_t_a1 : Value) (h0 : Heap) (n0 : Nat) (Z0 : n0 ≤ h0.size) (E_a1 : Exa Z h0 a1 "com/example/shingle/shingle/core/Thresholds") (F_k_a1 : Fld Z h0 a1 "com/example/shingle/shingle/core/Thresholds" "k" "I" u_k_a1) (g_a1 : n0 ≤ a1) (F_t_a1 : Fld Z h0 a1 "com/example/shingle/shingle/core/Thresholds" "t" "I" u_t_a1) (hc6 : ¬ (p2 < (1 : Int32))) (hc25 : ¬ (p3 < p2)) :
    MetFree l (⟨"com/example/shingle/shingle/core/Thresholds", "<init>", "(II)V"⟩ : MethodName) (head1 (Jvm.Cond.code (⟨"com/example/shingle/shingle/core/Thresholds", "<init>", "(II)V"⟩ : MethodName) prog_34_method_1_code 3 none :: ws) ({ frames := 2, cells := 0, slots := 0, locals := 24 } : Room)) (fun a U => a = #[(.ref a1), (.int p2), (.int p3)] ∧ Z.Warmed39 U.vm ∧ U.heap = h0) (fun _ _ _ _ _ => True) (fun _ U o U' => ∃ v L, o = .returned v ∧ Q2 Z a1 p2 p3 u_k_a1 u_t_a1 h0 n0 v U'.heap L ∧ FrameEnd U o U' L ({ frames := 2, cells := 0, slots := 0, locals := 24 } : Room).cells ({ frames := 2, cells := 0, slots := 0, locals := 24 } : Room).slots) := by
  refine MetFree.of_bodySF (plainFor_of_name pn_2) hisR ?_
  intro p e s m args below meth c s₁ Bd hml0 hP hK
  obtain ⟨rfl, hZ, hh⟩ := hP
  have hx := Bd.exec
  have hby := Bd.bytes
  have hml : c.maxLocals = 3 := hml0
  have hown : s.vm.findClass "com/example/shingle/shingle/core/Thresholds" = some m.cls := findClass_of_methodNamed Bd.named
  have hnm := (name_of_methodNamed Bd.named Bd.method).1
  have X0 : Stand p l e ({ frames := 2, cells := 0, slots := 0, locals := 24 } : Room) s m #[(.ref a1), (.int p2), (.int p3)] below meth c s₁ [] 0 0 := Stand.of_body Bd
  have e0 : s₁.heap = h0 := by rw [← hh, Bd.state]; rfl
  have N0 := Fr.nil n0
  have pre0 : ∀ t, Steps p.tables e below (s₁.setTop (mkF m 0 #[.val (.ref a1), .val (.int p2), .val (.int p3)] [])) t → Steps p.tables e below (s₁.setTop (entryFrame m #[(.ref a1), (.int p2), (.int p3)] 3)) t := fun t k => castTop (ef_2 m a1 p2 p3) k
  -- 3. LAWS
  -- pc 1: the constructor of java/lang/Record by its contract rm3
  obtain ⟨_, _, ⟨T4, L4, k4, n4⟩, -, X4, ⟨Lc4, hQ4, l4, y4, z4⟩, st4⟩ := X0.specialBack hx (y := (⟨"java/lang/Record", "<init>", "()V"⟩ : MethodName)) rfl hown (mvT hZ (hw _ (List.mem_of_getElem? (i := 11) rfl))) (mvT hZ (hw _ (List.mem_of_getElem? (i := 12) rfl))) (mvT hZ (hw _ (List.mem_of_getElem? (i := 15) rfl))) (by decide) (backOf (W := 0) (rm3 l Z a0 hw [] a1 h0 n0 Z0) hZ (hw _ (List.mem_of_getElem? (i := 15) rfl)) (hw _ (List.mem_of_getElem? (i := 14) rfl)) (by decide) (by decide)) (g := (mkF m 1 #[.val (.ref a1), .val (.int p2), .val (.int p3)] [(.ref a1)])) rfl (by rw [hml]; rfl) (Steps.refl _) (a := a1) (argsL := []) (rest := []) (lenOf pd_2_2 rfl) rfl (by show 2 * 0 + _ ≤ _; exact Nat.le_of_eq rfl) (hb hby d2_1) (fun _ _ => ⟨rfl, e0, (by decide : 0 + 0 ≤ _), (by decide : 0 + 0 ≤ _)⟩)
  dsimp only [Pt.U, Pt.locs, Pt.cells, Pt.slots] at X4 l4 y4 z4 st4 hQ4
  subst l4 y4 z4
  obtain ⟨rfl, N4q, e4q⟩ := hQ4
  have K4c : Keep h0 T4.heap [] := by rw [e4q]; exact Keep.refl _ _
  have K4d : Keep h0 T4.heap [a1] := by rw [e4q]; exact Keep.refl _ _
  have N4 := Fr.app N0 N4q
  obtain ⟨T5, h5, X5, e5, W5, st5⟩ := putF X4 hx hZ hown (host := "") (Or.inl (hw _ (List.mem_of_getElem? (i := 19) rfl))) Via.refl rfl (F_k_a1.keep K4c nin0) (E_a1.keep K4c) (Or.inr ⟨(hw _ (List.mem_of_getElem? (i := 20) rfl)), rfl, hnm⟩) (hw _ (List.mem_of_getElem? (i := 6) rfl)) (ty := .int) (by decide) rfl rfl (g := (mkF m 45 #[.val (.ref a1), .val (.int p2), .val (.int p3)] [(.int p2), (.ref a1)])) rfl rfl (hb hby d2_45)
  have Fw5 := (F_k_a1.keep K4c nin0).same W5      -- the field now holds (.int p2)
  have K5 : Keep h0 h5 [a1] := (K4d).wr W5 (Or.inl (List.mem_of_getElem? (i := 0) rfl))
  have N5 := Fr.snoc X5 N4 g_a1
  obtain ⟨T6, h6, X6, e6, W6, st6⟩ := putF X5 hx hZ hown (host := "") (Or.inl (hw _ (List.mem_of_getElem? (i := 21) rfl))) Via.refl e5 ((F_t_a1.keep K4c nin0).other W5 (Or.inr (slot_ne (Or.inr (hw _ (List.mem_of_getElem? (i := 22) rfl))) (Or.inr (hw _ (List.mem_of_getElem? (i := 20) rfl))) (by decide) (t := .int) (t' := .int) (by decide) (by decide)))) ((E_a1.keep K4c).wr W5) (Or.inr ⟨(hw _ (List.mem_of_getElem? (i := 22) rfl)), rfl, hnm⟩) (hw _ (List.mem_of_getElem? (i := 6) rfl)) (ty := .int) (by decide) rfl rfl (g := (mkF m 50 #[.val (.ref a1), .val (.int p2), .val (.int p3)] [(.int p3), (.ref a1)])) rfl rfl (hb hby d2_50)
  have Fw6 := ((F_t_a1.keep K4c nin0).other W5 (Or.inr (slot_ne (Or.inr (hw _ (List.mem_of_getElem? (i := 22) rfl))) (Or.inr (hw _ (List.mem_of_getElem? (i := 20) rfl))) (by decide) (t := .int) (t' := .int) (by decide) (by decide)))).same W6      -- the field now holds (.int p3)
  have K6 : Keep h0 h6 [a1] := K5.wr W6 (Or.inl (List.mem_of_getElem? (i := 0) rfl))
  have N6 := Fr.snoc X6 N5 g_a1
  obtain ⟨fs, hr, hrun, hended, hW, hsame⟩ := X6.leave (v := none) (fun _ => rfl)
  refine ⟨_, _, pre0 _ ?_, hrun, hended, _, _, rfl, ?_, ⟨_, rfl⟩, hW, hsame.mono (by decide) (by decide)⟩
  -- 4. STEPS
  · show Steps p.tables e below (s₁.setTop (mkF m 0 #[.val (.ref a1), .val (.int p2), .val (.int p3)] [])) _
    refine XS.aloadN X0.here hx rfl (hb hby d2_0) rfl rfl ?_
    show Steps p.tables e below (s₁.setTop (mkF m 1 #[.val (.ref a1), .val (.int p2), .val (.int p3)] [(.ref a1)])) _
    refine st4.trans ?_
    show Steps p.tables e below (T4.setTop (mkF m 4 #[.val (.ref a1), .val (.int p2), .val (.int p3)] [])) _
    refine XS.iloadN X4.here hx rfl (hb hby d2_4) rfl ?_
    show Steps p.tables e below (T4.setTop (mkF m 5 #[.val (.ref a1), .val (.int p2), .val (.int p3)] [(.int p2)])) _
    refine XS.iconst X4.here hx rfl (hb hby d2_5) ?_
    show Steps p.tables e below (T4.setTop (mkF m 6 #[.val (.ref a1), .val (.int p2), .val (.int p3)] [(.int (1 : Int32)), (.int p2)])) _
    refine XS.icmpYes X4.here hx rfl (pc0 := 6) (pc' := 23) rfl (hb hby d2_6) rfl (flt hc6).2.1 (by decide) (by decide) ?_
    show Steps p.tables e below (T4.setTop (mkF m 23 #[.val (.ref a1), .val (.int p2), .val (.int p3)] [])) _
    refine XS.iloadN X4.here hx rfl (hb hby d2_23) rfl ?_
    show Steps p.tables e below (T4.setTop (mkF m 24 #[.val (.ref a1), .val (.int p2), .val (.int p3)] [(.int p3)])) _
    refine XS.iloadN X4.here hx rfl (hb hby d2_24) rfl ?_
    show Steps p.tables e below (T4.setTop (mkF m 25 #[.val (.ref a1), .val (.int p2), .val (.int p3)] [(.int p2), (.int p3)])) _
    refine XS.icmpYes X4.here hx rfl (pc0 := 25) (pc' := 43) rfl (hb hby d2_25) rfl (flt hc25).2.1 (by decide) (by decide) ?_
    show Steps p.tables e below (T4.setTop (mkF m 43 #[.val (.ref a1), .val (.int p2), .val (.int p3)] [])) _
    refine XS.aloadN X4.here hx rfl (hb hby d2_43) rfl rfl ?_
    show Steps p.tables e below (T4.setTop (mkF m 44 #[.val (.ref a1), .val (.int p2), .val (.int p3)] [(.ref a1)])) _
    refine XS.iloadN X4.here hx rfl (hb hby d2_44) rfl ?_
    show Steps p.tables e below (T4.setTop (mkF m 45 #[.val (.ref a1), .val (.int p2), .val (.int p3)] [(.int p2), (.ref a1)])) _
    refine st5 _ ?_
    show Steps p.tables e below (T5.setTop (mkF m 48 #[.val (.ref a1), .val (.int p2), .val (.int p3)] [])) _
    refine XS.aloadN X5.here hx rfl (hb hby d2_48) rfl rfl ?_
    show Steps p.tables e below (T5.setTop (mkF m 49 #[.val (.ref a1), .val (.int p2), .val (.int p3)] [(.ref a1)])) _
    refine XS.iloadN X5.here hx rfl (hb hby d2_49) rfl ?_
    show Steps p.tables e below (T5.setTop (mkF m 50 #[.val (.ref a1), .val (.int p2), .val (.int p3)] [(.int p3), (.ref a1)])) _
    refine st6 _ ?_
    show Steps p.tables e below (T6.setTop (mkF m 53 #[.val (.ref a1), .val (.int p2), .val (.int p3)] [])) _
    exact X6.returnOut hx Bd.returns (hb hby d2_53) hr
  · show Q2 Z a1 p2 p3 u_k_a1 u_t_a1 h0 n0 _ T6.heap _
    rw [e6]
    exact ⟨rfl, N6, K6, ((E_a1.keep K4c).wr W5).wr W6, Fw5.other W6 (Or.inr (slot_ne (Or.inr (hw _ (List.mem_of_getElem? (i := 20) rfl))) (Or.inr (hw _ (List.mem_of_getElem? (i := 22) rfl))) (by decide) (t := .int) (t' := .int) (by decide) (by decide))), Fw6⟩
theorem d5_0 : decode prog_34_method_2_code 0 = .ok (.aload_n 0, 1) := by decide +kernel
theorem d5_1 : decode prog_34_method_2_code 1 = .ok (.getfield 25, 3) := by decide +kernel
theorem d5_4 : decode prog_34_method_2_code 4 = .ok (.aload_n 0, 1) := by decide +kernel
theorem d5_5 : decode prog_34_method_2_code 5 = .ok (.getfield 19, 3) := by decide +kernel
theorem d5_8 : decode prog_34_method_2_code 8 = .ok (.isub, 1) := by decide +kernel
theorem d5_9 : decode prog_34_method_2_code 9 = .ok (.iconst 1, 1) := by decide +kernel
theorem d5_10 : decode prog_34_method_2_code 10 = .ok (.iadd, 1) := by decide +kernel
theorem d5_11 : decode prog_34_method_2_code 11 = .ok (.ireturn, 1) := by decide +kernel
theorem pn_5 : plainName "com/example/shingle/shingle/core/Thresholds" = true := by first | (simp [plainName, overriddenIn]; done) | decide +kernel
theorem ef_5 (m : MethodId) (x0 : Addr) : entryFrame m #[(.ref x0)] 1 = mkF m 0 #[.val (.ref x0)] [] := by first | (simp [entryFrame, mkF, argsToLocals, Value.category]; done) | rfl
def Q5 (Z : State) (a1 : Addr) (w2 : Int32) (w4 : Int32) (h0 : Heap) (n0 : Nat) (v : Option Value) (h : Heap) (L : List Loc) : Prop := v = some (.int ((w2 - w4) + (1 : Int32))) ∧ Fr n0 L ∧ h = h0
set_option maxRecDepth 65536 in
set_option maxHeartbeats 40000000 in
theorem rm5 (l : Launch) (Z : State) (a0 : Array Value) (hw : ∀ d ∈ tables_1, d.before a0 Z = true) (ws : List Jvm.Cond) (a1 : Addr) (w2 : Int32) (w4 : Int32) (h0 : Heap) (n0 : Nat) (Z0 : n0 ≤ h0.size) (F_t_a1 : Fld Z h0 a1 "com/example/shingle/shingle/core/Thresholds" "t" "I" (.int w2)) (F_k_a1 : Fld Z h0 a1 "com/example/shingle/shingle/core/Thresholds" "k" "I" (.int w4)) :
    MetFree l (⟨"com/example/shingle/shingle/core/Thresholds", "window", "()I"⟩ : MethodName) (head1 (Jvm.Cond.code (⟨"com/example/shingle/shingle/core/Thresholds", "window", "()I"⟩ : MethodName) prog_34_method_2_code 1 (some .int) :: ws) ({ frames := 0, cells := 0, slots := 0, locals := 0 } : Room)) (fun a U => a = #[(.ref a1)] ∧ Z.Warmed39 U.vm ∧ U.heap = h0) (fun _ _ _ _ _ => True) (fun _ U o U' => ∃ v L, o = .returned v ∧ Q5 Z a1 w2 w4 h0 n0 v U'.heap L ∧ FrameEnd U o U' L ({ frames := 0, cells := 0, slots := 0, locals := 0 } : Room).cells ({ frames := 0, cells := 0, slots := 0, locals := 0 } : Room).slots) := by
  refine MetFree.of_bodySF (plainFor_of_name pn_5) hisR ?_
  intro p e s m args below meth c s₁ Bd hml0 hP hK
  obtain ⟨rfl, hZ, hh⟩ := hP
  have hx := Bd.exec
  have hby := Bd.bytes
  have hml : c.maxLocals = 1 := hml0
  have hown : s.vm.findClass "com/example/shingle/shingle/core/Thresholds" = some m.cls := findClass_of_methodNamed Bd.named
  have hnm := (name_of_methodNamed Bd.named Bd.method).1
  have X0 : Stand p l e ({ frames := 0, cells := 0, slots := 0, locals := 0 } : Room) s m #[(.ref a1)] below meth c s₁ [] 0 0 := Stand.of_body Bd
  have e0 : s₁.heap = h0 := by rw [← hh, Bd.state]; rfl
  have N0 := Fr.nil n0
  have pre0 : ∀ t, Steps p.tables e below (s₁.setTop (mkF m 0 #[.val (.ref a1)] [])) t → Steps p.tables e below (s₁.setTop (entryFrame m #[(.ref a1)] 1)) t := fun t k => castTop (ef_5 m a1) k
  -- 3. LAWS
  obtain ⟨T3, X3, e3, st3⟩ := getF X0 hx hZ hown (host := "") (Or.inl (hw _ (List.mem_of_getElem? (i := 21) rfl))) Via.refl e0 F_t_a1 (g := (mkF m 1 #[.val (.ref a1)] [(.ref a1)])) rfl rfl (hb hby d5_1)
  obtain ⟨T5, X5, e5, st5⟩ := getF X3 hx hZ hown (host := "") (Or.inl (hw _ (List.mem_of_getElem? (i := 19) rfl))) Via.refl e3 F_k_a1 (g := (mkF m 5 #[.val (.ref a1)] [(.ref a1), (.int w2)])) rfl rfl (hb hby d5_5)
  obtain ⟨fs, hr, hrun, hended, hW, hsame⟩ := X5.leave (v := some (.int ((w2 - w4) + (1 : Int32)))) (fun h => by rw [Bd.returns] at h; cases h)
  refine ⟨_, _, pre0 _ ?_, hrun, hended, _, _, rfl, ?_, ⟨_, rfl⟩, hW, hsame.mono (by decide) (by decide)⟩
  -- 4. STEPS
  · show Steps p.tables e below (s₁.setTop (mkF m 0 #[.val (.ref a1)] [])) _
    refine XS.aloadN X0.here hx rfl (hb hby d5_0) rfl rfl ?_
    show Steps p.tables e below (s₁.setTop (mkF m 1 #[.val (.ref a1)] [(.ref a1)])) _
    refine st3 _ ?_
    show Steps p.tables e below (T3.setTop (mkF m 4 #[.val (.ref a1)] [(.int w2)])) _
    refine XS.aloadN X3.here hx rfl (hb hby d5_4) rfl rfl ?_
    show Steps p.tables e below (T3.setTop (mkF m 5 #[.val (.ref a1)] [(.ref a1), (.int w2)])) _
    refine st5 _ ?_
    show Steps p.tables e below (T5.setTop (mkF m 8 #[.val (.ref a1)] [(.int w4), (.int w2)])) _
    refine XS.isub X5.here hx rfl (hb hby d5_8) rfl ?_
    show Steps p.tables e below (T5.setTop (mkF m 9 #[.val (.ref a1)] [(.int (w2 - w4))])) _
    refine XS.iconst X5.here hx rfl (hb hby d5_9) ?_
    show Steps p.tables e below (T5.setTop (mkF m 10 #[.val (.ref a1)] [(.int (1 : Int32)), (.int (w2 - w4))])) _
    refine XS.iadd X5.here hx rfl (hb hby d5_10) rfl ?_
    show Steps p.tables e below (T5.setTop (mkF m 11 #[.val (.ref a1)] [(.int ((w2 - w4) + (1 : Int32)))])) _
    exact retI X5 hx Bd.returns (hb hby d5_11) hr      -- retI stands in the head ('lawwalk <made dir>' prints it)
  · show Q5 Z a1 w2 w4 h0 n0 _ T5.heap _
    rw [e5]
    exact ⟨rfl, N0, rfl⟩
theorem pn_0 : plainName "com/example/shingle/shingle/core/ThresholdsWindowPinLaw" = true := by first | (simp [plainName, overriddenIn]; done) | decide +kernel
theorem pd_0_0 : parseMethodDescriptor "(II)I" = some ⟨[.int, .int], some .int⟩ := by decide +kernel
theorem pd_0_1 : parseMethodDescriptor "(II)V" = some ⟨[.int, .int], none⟩ := by decide +kernel
theorem pd_0_3 : parseMethodDescriptor "()I" = some ⟨[], some .int⟩ := by decide +kernel
theorem ef_0 (m : MethodId) (x0 : Int32) (x1 : Int32) : entryFrame m #[(.int x0), (.int x1)] maxLocals = mkF m 0 #[.val (.int x0), .val (.int x1), .unset, .unset, .unset, .unset, .unset, .unset, .unset] [] := by first | (simp [entryFrame, mkF, argsToLocals, Value.category, maxLocals]; done) | rfl
def Q0 (Z : State) (p1 : Int32) (p2 : Int32) (h0 : Heap) (n0 : Nat) (v : Option Value) (h : Heap) (L : List Loc) : Prop := v = some (.int (1 : Int32)) ∧ Fr n0 L
set_option maxRecDepth 65536 in
set_option maxHeartbeats 40000000 in
theorem rm0 (l : Launch) (Z : State) (a0 : Array Value) (hw : ∀ d ∈ tables_1, d.before a0 Z = true) (ws : List Jvm.Cond) (p1 : Int32) (p2 : Int32) (k : Int32) (hk : k = own_max 1 (p1 &&& 2147483647)) (h0 : Heap) (n0 : Nat) (Z0 : n0 ≤ h0.size) (hnz22 : ¬ ((((2147483647 : Int32) - k) + (1 : Int32)) = (0 : Int32))) (hc48 : ¬ ((((k + ((p2 &&& (2147483647 : Int32)) - ((p2 &&& (2147483647 : Int32)) / (((2147483647 : Int32) - k) + (1 : Int32))) * (((2147483647 : Int32) - k) + (1 : Int32)))) - k) + (1 : Int32)) < (1 : Int32))) (hc57 : ¬ ((k + ((p2 &&& (2147483647 : Int32)) - ((p2 &&& (2147483647 : Int32)) / (((2147483647 : Int32) - k) + (1 : Int32))) * (((2147483647 : Int32) - k) + (1 : Int32)))) < (((k + ((p2 &&& (2147483647 : Int32)) - ((p2 &&& (2147483647 : Int32)) / (((2147483647 : Int32) - k) + (1 : Int32))) * (((2147483647 : Int32) - k) + (1 : Int32)))) - k) + (1 : Int32)))) (hc78 : (lcmpW ((((((k + ((p2 &&& (2147483647 : Int32)) - ((p2 &&& (2147483647 : Int32)) / (((2147483647 : Int32) - k) + (1 : Int32))) * (((2147483647 : Int32) - k) + (1 : Int32)))) - k) + (1 : Int32)).toInt64) + (k.toInt64)) - (1 : Int64)) ((k + ((p2 &&& (2147483647 : Int32)) - ((p2 &&& (2147483647 : Int32)) / (((2147483647 : Int32) - k) + (1 : Int32))) * (((2147483647 : Int32) - k) + (1 : Int32)))).toInt64)) = (0 : Int32)) (hk1 : ¬ (k < (1 : Int32))) (hkt : ¬ ((k + ((p2 &&& (2147483647 : Int32)) - ((p2 &&& (2147483647 : Int32)) / (((2147483647 : Int32) - k) + (1 : Int32))) * (((2147483647 : Int32) - k) + (1 : Int32)))) < k)) :
    MetFree l x (head1 (Jvm.Cond.code x code maxLocals ret :: ws) room_1) (fun a U => a = #[(.int p1), (.int p2)] ∧ Z.Warmed39 U.vm ∧ U.heap = h0) (fun _ _ _ _ _ => True) (fun _ U o U' => ∃ v L, o = .returned v ∧ Q0 Z p1 p2 h0 n0 v U'.heap L ∧ FrameEnd U o U' L room_1.cells room_1.slots) := by
  refine MetFree.of_bodySF (plainFor_of_name pn_0) hisR ?_
  intro p e s m args below meth c s₁ Bd hml0 hP hK
  obtain ⟨rfl, hZ, hh⟩ := hP
  have hx := Bd.exec
  have hby := Bd.bytes
  have hml : c.maxLocals = 9 := hml0
  have hown : s.vm.findClass "com/example/shingle/shingle/core/ThresholdsWindowPinLaw" = some m.cls := findClass_of_methodNamed Bd.named
  have hnm := (name_of_methodNamed Bd.named Bd.method).1
  have X0 : Stand p l e room_1 s m #[(.int p1), (.int p2)] below meth c s₁ [] 0 0 := Stand.of_body Bd
  have e0 : s₁.heap = h0 := by rw [← hh, Bd.state]; rfl
  have N0 := Fr.nil n0
  have pre0 : ∀ t, Steps p.tables e below (s₁.setTop (mkF m 0 #[.val (.int p1), .val (.int p2), .unset, .unset, .unset, .unset, .unset, .unset, .unset] [])) t → Steps p.tables e below (s₁.setTop (entryFrame m #[(.int p1), (.int p2)] maxLocals)) t := fun t k => castTop (ef_0 m p1 p2) k
  -- 3. LAWS
  -- pc 5: java/lang/Math.max by its contract rm1
  obtain ⟨_, _, ⟨T3, L3, k3, n3⟩, -, X3, ⟨Lc3, hQ3, l3, y3, z3⟩, st3⟩ := Jvm.LawKit.callS X0 hx (y := (⟨"java/lang/Math", "max", "(II)I"⟩ : MethodName)) hown (mvT hZ (hw _ (List.mem_of_getElem? (i := 1) rfl))) (mvT hZ (hw _ (List.mem_of_getElem? (i := 2) rfl))) (mvT hZ (hw _ (List.mem_of_getElem? (i := 3) rfl))) (mvT hZ (hw _ (List.mem_of_getElem? (i := 4) rfl))) (by decide) (backOf (W := 0) (rm1 l Z a0 hw [] (1 : Int32) (p1 &&& (2147483647 : Int32)) h0 n0 Z0) hZ (hw _ (List.mem_of_getElem? (i := 4) rfl)) (hw _ (List.mem_of_getElem? (i := 3) rfl)) (by decide) (by decide)) (g := (mkF m 5 #[.val (.int p1), .val (.int p2), .unset, .unset, .unset, .unset, .unset, .unset, .unset] [(.int (p1 &&& (2147483647 : Int32))), (.int (1 : Int32))])) rfl (by rw [hml]; rfl) (argsL := [(.int (1 : Int32)), (.int (p1 &&& (2147483647 : Int32)))]) (rest := []) (lenOf pd_0_0 rfl) rfl (by show 2 * 0 + _ ≤ _; exact Nat.le_of_eq rfl) (hb hby at_5) (fun _ _ => ⟨rfl, e0, (by decide : 0 + 0 ≤ _), (by decide : 0 + 0 ≤ _)⟩)
  dsimp only [Pt.U, Pt.locs, Pt.cells, Pt.slots] at X3 l3 y3 z3 st3 hQ3
  subst l3 y3 z3
  obtain ⟨hv3, N3q, e3q⟩ := hQ3
  obtain rfl : _ = some (Value.int k) := hv3.trans (by rw [hk])
  have K3c : Keep h0 T3.heap [] := by rw [e3q]; exact Keep.refl _ _
  have N3 := Fr.app N0 N3q
  obtain ⟨T4, h4, X4, e4, E4, A4, D4, -, st4⟩ := newO X3 hx hZ hown (hw _ (List.mem_of_getElem? (i := 5) rfl)) (hw _ (List.mem_of_getElem? (i := 6) rfl)) (hw _ (List.mem_of_getElem? (i := 7) rfl)) rfl (g := (mkF m 26 #[.val (.int p1), .val (.int p2), .val (.int k), .val (.int (((2147483647 : Int32) - k) + (1 : Int32))), .val (.int (k + ((p2 &&& (2147483647 : Int32)) - ((p2 &&& (2147483647 : Int32)) / (((2147483647 : Int32) - k) + (1 : Int32))) * (((2147483647 : Int32) - k) + (1 : Int32))))), .unset, .unset, .unset, .unset] [])) rfl (hb hby at_26) (by decide) (by decide)
  obtain ⟨b4, g4⟩ : ∃ z, z = T3.heap.size := ⟨_, rfl⟩      -- the fresh object's address
  rw [← g4] at A4 D4 st4      -- A4 : Exa Z h4 b4 "com/example/shingle/shingle/core/Thresholds"; E4 : Ext T3.heap h4 (carries every older fact: .ext E4)
  have F_k_b4 : Fld Z h4 b4 "com/example/shingle/shingle/core/Thresholds" "k" "I" (.int (0 : Int32)) := D4 (Or.inr (hw _ (List.mem_of_getElem? (i := 20) rfl))) (ty := .int) (by decide)
  have F_t_b4 : Fld Z h4 b4 "com/example/shingle/shingle/core/Thresholds" "t" "I" (.int (0 : Int32)) := D4 (Or.inr (hw _ (List.mem_of_getElem? (i := 22) rfl))) (ty := .int) (by decide)
  have E_b4 := A4
  have g_b4 : n0 ≤ b4 := Nat.le_trans (Nat.le_trans Z0 K3c.1) (Nat.le_of_eq g4.symm)
  have sz_b4 : h0.size ≤ b4 := (Nat.le_trans K3c.1 (Nat.le_of_eq g4.symm))
  have K4 : Keep h0 h4 [] := K3c.ext E4
  -- pc 33: the constructor of com/example/shingle/shingle/core/Thresholds by its contract rm2
  obtain ⟨_, _, ⟨T5, L5, k5, n5⟩, -, X5, ⟨Lc5, hQ5, l5, y5, z5⟩, st5⟩ := X4.specialBack hx (y := (⟨"com/example/shingle/shingle/core/Thresholds", "<init>", "(II)V"⟩ : MethodName)) rfl hown (mvT hZ (hw _ (List.mem_of_getElem? (i := 8) rfl))) (mvT hZ (hw _ (List.mem_of_getElem? (i := 9) rfl))) (mvT hZ (hw _ (List.mem_of_getElem? (i := 10) rfl))) (by decide) (backOf (W := 1) (rm2 l Z a0 hw [] b4 k (k + ((p2 &&& (2147483647 : Int32)) - ((p2 &&& (2147483647 : Int32)) / (((2147483647 : Int32) - k) + (1 : Int32))) * (((2147483647 : Int32) - k) + (1 : Int32)))) _ _ h4 n0 (Nat.le_trans (Nat.le_trans Z0 K3c.1) E4.1) E_b4 F_k_b4 g_b4 F_t_b4 hk1 hkt) hZ (hw _ (List.mem_of_getElem? (i := 10) rfl)) (hw _ (List.mem_of_getElem? (i := 7) rfl)) (by decide) (by decide)) (g := (mkF m 33 #[.val (.int p1), .val (.int p2), .val (.int k), .val (.int (((2147483647 : Int32) - k) + (1 : Int32))), .val (.int (k + ((p2 &&& (2147483647 : Int32)) - ((p2 &&& (2147483647 : Int32)) / (((2147483647 : Int32) - k) + (1 : Int32))) * (((2147483647 : Int32) - k) + (1 : Int32))))), .unset, .unset, .unset, .unset] [(.int (k + ((p2 &&& (2147483647 : Int32)) - ((p2 &&& (2147483647 : Int32)) / (((2147483647 : Int32) - k) + (1 : Int32))) * (((2147483647 : Int32) - k) + (1 : Int32))))), (.int k), (.ref b4), (.ref b4)])) rfl (by rw [hml]; rfl) (Steps.refl _) (a := b4) (argsL := [(.int k), (.int (k + ((p2 &&& (2147483647 : Int32)) - ((p2 &&& (2147483647 : Int32)) / (((2147483647 : Int32) - k) + (1 : Int32))) * (((2147483647 : Int32) - k) + (1 : Int32)))))]) (rest := [(.ref b4)]) (lenOf pd_0_1 rfl) rfl (by show 2 * 0 + _ ≤ _; exact Nat.le_of_eq rfl) (hb hby at_33) (fun _ _ => ⟨rfl, e4, (by decide : 1 + 0 ≤ _), (by decide : 2 + 0 ≤ _)⟩)
  dsimp only [Pt.U, Pt.locs, Pt.cells, Pt.slots] at X5 l5 y5 z5 st5 hQ5
  subst l5 y5 z5
  obtain ⟨rfl, N5q, K5c, E5c, F5k, F5t⟩ := hQ5
  have N5 := Fr.app N3 N5q
  -- pc 40: com/example/shingle/shingle/core/Thresholds.window by the contract of the body that the receiver's class selects, rm5
  obtain ⟨cq6, kq6, q6a, q6b, q6c⟩ := isOf hZ rfl (E_b4.keep K5c)
  obtain ⟨_, _, ⟨T6, L6, k6, n6⟩, -, X6, ⟨Lc6, hQ6, l6, y6, z6⟩, st6⟩ := X5.virtualBack hx (y := (⟨"com/example/shingle/shingle/core/Thresholds", "window", "()I"⟩ : MethodName)) (z := (⟨"com/example/shingle/shingle/core/Thresholds", "window", "()I"⟩ : MethodName)) hown (mvT hZ (hw _ (List.mem_of_getElem? (i := 23) rfl))) (mvT hZ (hw _ (List.mem_of_getElem? (i := 24) rfl))) (notFace_of_selects (args := #[]) (mvT hZ (hw _ (List.mem_of_getElem? (i := 26) rfl)))) (mvT hZ (hw _ (List.mem_of_getElem? (i := 26) rfl))) (mvT hZ (hw _ (List.mem_of_getElem? (i := 25) rfl))) (by decide) (backOf (W := 0) (rm5 l Z a0 hw [] b4 _ _ T5.heap n0 (Nat.le_trans (Nat.le_trans (Nat.le_trans Z0 K3c.1) E4.1) K5c.1) F5t F5k) hZ (hw _ (List.mem_of_getElem? (i := 27) rfl)) (hw _ (List.mem_of_getElem? (i := 7) rfl)) (by decide) (by decide)) q6a q6c (g := (mkF m 40 #[.val (.int p1), .val (.int p2), .val (.int k), .val (.int (((2147483647 : Int32) - k) + (1 : Int32))), .val (.int (k + ((p2 &&& (2147483647 : Int32)) - ((p2 &&& (2147483647 : Int32)) / (((2147483647 : Int32) - k) + (1 : Int32))) * (((2147483647 : Int32) - k) + (1 : Int32))))), .val (.ref b4), .unset, .unset, .unset] [(.ref b4)])) rfl (by rw [hml]; rfl) (Steps.refl _) (argsL := []) (rest := []) (lenOf pd_0_3 rfl) rfl (by show 2 * 0 + _ ≤ _; exact Nat.le_of_eq rfl) (hb hby at_40) (fun _ _ => ⟨rfl, rfl, (by decide : 1 + 0 ≤ _), (by decide : 2 + 0 ≤ _)⟩)
  dsimp only [Pt.U, Pt.locs, Pt.cells, Pt.slots] at X6 l6 y6 z6 st6 hQ6
  subst l6 y6 z6
  obtain ⟨rfl, N6q, e6q⟩ := hQ6
  have N6 := Fr.app N5 N6q
  obtain ⟨fs, hr, hrun, hended, hW, hsame⟩ := X6.leave (v := some (.int (1 : Int32))) (fun h => by rw [Bd.returns] at h; cases h)
  refine ⟨_, _, pre0 _ ?_, hrun, hended, _, _, rfl, ?_, ⟨_, rfl⟩, hW, hsame.mono (by decide) (by decide)⟩
  -- 4. STEPS
  · show Steps p.tables e below (s₁.setTop (mkF m 0 #[.val (.int p1), .val (.int p2), .unset, .unset, .unset, .unset, .unset, .unset, .unset] [])) _
    refine XS.iconst X0.here hx rfl (hb hby at_0) ?_
    show Steps p.tables e below (s₁.setTop (mkF m 1 #[.val (.int p1), .val (.int p2), .unset, .unset, .unset, .unset, .unset, .unset, .unset] [(.int (1 : Int32))])) _
    refine XS.iloadN X0.here hx rfl (hb hby at_1) rfl ?_
    show Steps p.tables e below (s₁.setTop (mkF m 2 #[.val (.int p1), .val (.int p2), .unset, .unset, .unset, .unset, .unset, .unset, .unset] [(.int p1), (.int (1 : Int32))])) _
    refine X0.ldcInt hx hown (mvT hZ (hw _ (List.mem_of_getElem? (i := 0) rfl))) (g := (mkF m 2 #[.val (.int p1), .val (.int p2), .unset, .unset, .unset, .unset, .unset, .unset, .unset] [(.int p1), (.int (1 : Int32))])) rfl (hb hby at_2) _ ?_
    show Steps p.tables e below (s₁.setTop (mkF m 4 #[.val (.int p1), .val (.int p2), .unset, .unset, .unset, .unset, .unset, .unset, .unset] [(.int (2147483647 : Int32)), (.int p1), (.int (1 : Int32))])) _
    refine XS.iand X0.here hx rfl (hb hby at_4) rfl ?_
    show Steps p.tables e below (s₁.setTop (mkF m 5 #[.val (.int p1), .val (.int p2), .unset, .unset, .unset, .unset, .unset, .unset, .unset] [(.int (p1 &&& (2147483647 : Int32))), (.int (1 : Int32))])) _
    refine st3 _ ?_
    show Steps p.tables e below (T3.setTop (mkF m 8 #[.val (.int p1), .val (.int p2), .unset, .unset, .unset, .unset, .unset, .unset, .unset] [(.int k)])) _
    refine XS.istoreN X3.here hx rfl (hb hby at_8) rfl (l' := #[.val (.int p1), .val (.int p2), .val (.int k), .unset, .unset, .unset, .unset, .unset, .unset]) rfl ?_
    show Steps p.tables e below (T3.setTop (mkF m 9 #[.val (.int p1), .val (.int p2), .val (.int k), .unset, .unset, .unset, .unset, .unset, .unset] [])) _
    refine X3.ldcInt hx hown (mvT hZ (hw _ (List.mem_of_getElem? (i := 0) rfl))) (g := (mkF m 9 #[.val (.int p1), .val (.int p2), .val (.int k), .unset, .unset, .unset, .unset, .unset, .unset] [])) rfl (hb hby at_9) _ ?_
    show Steps p.tables e below (T3.setTop (mkF m 11 #[.val (.int p1), .val (.int p2), .val (.int k), .unset, .unset, .unset, .unset, .unset, .unset] [(.int (2147483647 : Int32))])) _
    refine XS.iloadN X3.here hx rfl (hb hby at_11) rfl ?_
    show Steps p.tables e below (T3.setTop (mkF m 12 #[.val (.int p1), .val (.int p2), .val (.int k), .unset, .unset, .unset, .unset, .unset, .unset] [(.int k), (.int (2147483647 : Int32))])) _
    refine XS.isub X3.here hx rfl (hb hby at_12) rfl ?_
    show Steps p.tables e below (T3.setTop (mkF m 13 #[.val (.int p1), .val (.int p2), .val (.int k), .unset, .unset, .unset, .unset, .unset, .unset] [(.int ((2147483647 : Int32) - k))])) _
    refine XS.iconst X3.here hx rfl (hb hby at_13) ?_
    show Steps p.tables e below (T3.setTop (mkF m 14 #[.val (.int p1), .val (.int p2), .val (.int k), .unset, .unset, .unset, .unset, .unset, .unset] [(.int (1 : Int32)), (.int ((2147483647 : Int32) - k))])) _
    refine XS.iadd X3.here hx rfl (hb hby at_14) rfl ?_
    show Steps p.tables e below (T3.setTop (mkF m 15 #[.val (.int p1), .val (.int p2), .val (.int k), .unset, .unset, .unset, .unset, .unset, .unset] [(.int (((2147483647 : Int32) - k) + (1 : Int32)))])) _
    refine XS.istoreN X3.here hx rfl (hb hby at_15) rfl (l' := #[.val (.int p1), .val (.int p2), .val (.int k), .val (.int (((2147483647 : Int32) - k) + (1 : Int32))), .unset, .unset, .unset, .unset, .unset]) rfl ?_
    show Steps p.tables e below (T3.setTop (mkF m 16 #[.val (.int p1), .val (.int p2), .val (.int k), .val (.int (((2147483647 : Int32) - k) + (1 : Int32))), .unset, .unset, .unset, .unset, .unset] [])) _
    refine XS.iloadN X3.here hx rfl (hb hby at_16) rfl ?_
    show Steps p.tables e below (T3.setTop (mkF m 17 #[.val (.int p1), .val (.int p2), .val (.int k), .val (.int (((2147483647 : Int32) - k) + (1 : Int32))), .unset, .unset, .unset, .unset, .unset] [(.int k)])) _
    refine XS.iloadN X3.here hx rfl (hb hby at_17) rfl ?_
    show Steps p.tables e below (T3.setTop (mkF m 18 #[.val (.int p1), .val (.int p2), .val (.int k), .val (.int (((2147483647 : Int32) - k) + (1 : Int32))), .unset, .unset, .unset, .unset, .unset] [(.int p2), (.int k)])) _
    refine X3.ldcInt hx hown (mvT hZ (hw _ (List.mem_of_getElem? (i := 0) rfl))) (g := (mkF m 18 #[.val (.int p1), .val (.int p2), .val (.int k), .val (.int (((2147483647 : Int32) - k) + (1 : Int32))), .unset, .unset, .unset, .unset, .unset] [(.int p2), (.int k)])) rfl (hb hby at_18) _ ?_
    show Steps p.tables e below (T3.setTop (mkF m 20 #[.val (.int p1), .val (.int p2), .val (.int k), .val (.int (((2147483647 : Int32) - k) + (1 : Int32))), .unset, .unset, .unset, .unset, .unset] [(.int (2147483647 : Int32)), (.int p2), (.int k)])) _
    refine XS.iand X3.here hx rfl (hb hby at_20) rfl ?_
    show Steps p.tables e below (T3.setTop (mkF m 21 #[.val (.int p1), .val (.int p2), .val (.int k), .val (.int (((2147483647 : Int32) - k) + (1 : Int32))), .unset, .unset, .unset, .unset, .unset] [(.int (p2 &&& (2147483647 : Int32))), (.int k)])) _
    refine XS.iloadN X3.here hx rfl (hb hby at_21) rfl ?_
    show Steps p.tables e below (T3.setTop (mkF m 22 #[.val (.int p1), .val (.int p2), .val (.int k), .val (.int (((2147483647 : Int32) - k) + (1 : Int32))), .unset, .unset, .unset, .unset, .unset] [(.int (((2147483647 : Int32) - k) + (1 : Int32))), (.int (p2 &&& (2147483647 : Int32))), (.int k)])) _
    refine XS.irem X3.here hx rfl (hb hby at_22) rfl hnz22 ?_
    show Steps p.tables e below (T3.setTop (mkF m 23 #[.val (.int p1), .val (.int p2), .val (.int k), .val (.int (((2147483647 : Int32) - k) + (1 : Int32))), .unset, .unset, .unset, .unset, .unset] [(.int ((p2 &&& (2147483647 : Int32)) - ((p2 &&& (2147483647 : Int32)) / (((2147483647 : Int32) - k) + (1 : Int32))) * (((2147483647 : Int32) - k) + (1 : Int32)))), (.int k)])) _
    refine XS.iadd X3.here hx rfl (hb hby at_23) rfl ?_
    show Steps p.tables e below (T3.setTop (mkF m 24 #[.val (.int p1), .val (.int p2), .val (.int k), .val (.int (((2147483647 : Int32) - k) + (1 : Int32))), .unset, .unset, .unset, .unset, .unset] [(.int (k + ((p2 &&& (2147483647 : Int32)) - ((p2 &&& (2147483647 : Int32)) / (((2147483647 : Int32) - k) + (1 : Int32))) * (((2147483647 : Int32) - k) + (1 : Int32)))))])) _
    refine XS.istore X3.here hx rfl (hb hby at_24) rfl (l' := #[.val (.int p1), .val (.int p2), .val (.int k), .val (.int (((2147483647 : Int32) - k) + (1 : Int32))), .val (.int (k + ((p2 &&& (2147483647 : Int32)) - ((p2 &&& (2147483647 : Int32)) / (((2147483647 : Int32) - k) + (1 : Int32))) * (((2147483647 : Int32) - k) + (1 : Int32))))), .unset, .unset, .unset, .unset]) rfl ?_
    show Steps p.tables e below (T3.setTop (mkF m 26 #[.val (.int p1), .val (.int p2), .val (.int k), .val (.int (((2147483647 : Int32) - k) + (1 : Int32))), .val (.int (k + ((p2 &&& (2147483647 : Int32)) - ((p2 &&& (2147483647 : Int32)) / (((2147483647 : Int32) - k) + (1 : Int32))) * (((2147483647 : Int32) - k) + (1 : Int32))))), .unset, .unset, .unset, .unset] [])) _
    refine st4 _ ?_
    show Steps p.tables e below (T4.setTop (mkF m 29 #[.val (.int p1), .val (.int p2), .val (.int k), .val (.int (((2147483647 : Int32) - k) + (1 : Int32))), .val (.int (k + ((p2 &&& (2147483647 : Int32)) - ((p2 &&& (2147483647 : Int32)) / (((2147483647 : Int32) - k) + (1 : Int32))) * (((2147483647 : Int32) - k) + (1 : Int32))))), .unset, .unset, .unset, .unset] [(.ref b4)])) _
    refine XS.dup X4.here hx rfl (hb hby at_29) rfl rfl ?_
    show Steps p.tables e below (T4.setTop (mkF m 30 #[.val (.int p1), .val (.int p2), .val (.int k), .val (.int (((2147483647 : Int32) - k) + (1 : Int32))), .val (.int (k + ((p2 &&& (2147483647 : Int32)) - ((p2 &&& (2147483647 : Int32)) / (((2147483647 : Int32) - k) + (1 : Int32))) * (((2147483647 : Int32) - k) + (1 : Int32))))), .unset, .unset, .unset, .unset] [(.ref b4), (.ref b4)])) _
    refine XS.iloadN X4.here hx rfl (hb hby at_30) rfl ?_
    show Steps p.tables e below (T4.setTop (mkF m 31 #[.val (.int p1), .val (.int p2), .val (.int k), .val (.int (((2147483647 : Int32) - k) + (1 : Int32))), .val (.int (k + ((p2 &&& (2147483647 : Int32)) - ((p2 &&& (2147483647 : Int32)) / (((2147483647 : Int32) - k) + (1 : Int32))) * (((2147483647 : Int32) - k) + (1 : Int32))))), .unset, .unset, .unset, .unset] [(.int k), (.ref b4), (.ref b4)])) _
    refine XS.iload X4.here hx rfl (hb hby at_31) rfl ?_
    show Steps p.tables e below (T4.setTop (mkF m 33 #[.val (.int p1), .val (.int p2), .val (.int k), .val (.int (((2147483647 : Int32) - k) + (1 : Int32))), .val (.int (k + ((p2 &&& (2147483647 : Int32)) - ((p2 &&& (2147483647 : Int32)) / (((2147483647 : Int32) - k) + (1 : Int32))) * (((2147483647 : Int32) - k) + (1 : Int32))))), .unset, .unset, .unset, .unset] [(.int (k + ((p2 &&& (2147483647 : Int32)) - ((p2 &&& (2147483647 : Int32)) / (((2147483647 : Int32) - k) + (1 : Int32))) * (((2147483647 : Int32) - k) + (1 : Int32))))), (.int k), (.ref b4), (.ref b4)])) _
    refine st5.trans ?_
    show Steps p.tables e below (T5.setTop (mkF m 36 #[.val (.int p1), .val (.int p2), .val (.int k), .val (.int (((2147483647 : Int32) - k) + (1 : Int32))), .val (.int (k + ((p2 &&& (2147483647 : Int32)) - ((p2 &&& (2147483647 : Int32)) / (((2147483647 : Int32) - k) + (1 : Int32))) * (((2147483647 : Int32) - k) + (1 : Int32))))), .unset, .unset, .unset, .unset] [(.ref b4)])) _
    refine XS.astore X5.here hx rfl (hb hby at_36) rfl rfl (l' := #[.val (.int p1), .val (.int p2), .val (.int k), .val (.int (((2147483647 : Int32) - k) + (1 : Int32))), .val (.int (k + ((p2 &&& (2147483647 : Int32)) - ((p2 &&& (2147483647 : Int32)) / (((2147483647 : Int32) - k) + (1 : Int32))) * (((2147483647 : Int32) - k) + (1 : Int32))))), .val (.ref b4), .unset, .unset, .unset]) rfl ?_
    show Steps p.tables e below (T5.setTop (mkF m 38 #[.val (.int p1), .val (.int p2), .val (.int k), .val (.int (((2147483647 : Int32) - k) + (1 : Int32))), .val (.int (k + ((p2 &&& (2147483647 : Int32)) - ((p2 &&& (2147483647 : Int32)) / (((2147483647 : Int32) - k) + (1 : Int32))) * (((2147483647 : Int32) - k) + (1 : Int32))))), .val (.ref b4), .unset, .unset, .unset] [])) _
    refine XS.aload X5.here hx rfl (hb hby at_38) rfl rfl ?_
    show Steps p.tables e below (T5.setTop (mkF m 40 #[.val (.int p1), .val (.int p2), .val (.int k), .val (.int (((2147483647 : Int32) - k) + (1 : Int32))), .val (.int (k + ((p2 &&& (2147483647 : Int32)) - ((p2 &&& (2147483647 : Int32)) / (((2147483647 : Int32) - k) + (1 : Int32))) * (((2147483647 : Int32) - k) + (1 : Int32))))), .val (.ref b4), .unset, .unset, .unset] [(.ref b4)])) _
    refine st6.trans ?_
    show Steps p.tables e below (T6.setTop (mkF m 43 #[.val (.int p1), .val (.int p2), .val (.int k), .val (.int (((2147483647 : Int32) - k) + (1 : Int32))), .val (.int (k + ((p2 &&& (2147483647 : Int32)) - ((p2 &&& (2147483647 : Int32)) / (((2147483647 : Int32) - k) + (1 : Int32))) * (((2147483647 : Int32) - k) + (1 : Int32))))), .val (.ref b4), .unset, .unset, .unset] [(.int (((k + ((p2 &&& (2147483647 : Int32)) - ((p2 &&& (2147483647 : Int32)) / (((2147483647 : Int32) - k) + (1 : Int32))) * (((2147483647 : Int32) - k) + (1 : Int32)))) - k) + (1 : Int32)))])) _
    refine XS.istore X6.here hx rfl (hb hby at_43) rfl (l' := #[.val (.int p1), .val (.int p2), .val (.int k), .val (.int (((2147483647 : Int32) - k) + (1 : Int32))), .val (.int (k + ((p2 &&& (2147483647 : Int32)) - ((p2 &&& (2147483647 : Int32)) / (((2147483647 : Int32) - k) + (1 : Int32))) * (((2147483647 : Int32) - k) + (1 : Int32))))), .val (.ref b4), .val (.int (((k + ((p2 &&& (2147483647 : Int32)) - ((p2 &&& (2147483647 : Int32)) / (((2147483647 : Int32) - k) + (1 : Int32))) * (((2147483647 : Int32) - k) + (1 : Int32)))) - k) + (1 : Int32))), .unset, .unset]) rfl ?_
    show Steps p.tables e below (T6.setTop (mkF m 45 #[.val (.int p1), .val (.int p2), .val (.int k), .val (.int (((2147483647 : Int32) - k) + (1 : Int32))), .val (.int (k + ((p2 &&& (2147483647 : Int32)) - ((p2 &&& (2147483647 : Int32)) / (((2147483647 : Int32) - k) + (1 : Int32))) * (((2147483647 : Int32) - k) + (1 : Int32))))), .val (.ref b4), .val (.int (((k + ((p2 &&& (2147483647 : Int32)) - ((p2 &&& (2147483647 : Int32)) / (((2147483647 : Int32) - k) + (1 : Int32))) * (((2147483647 : Int32) - k) + (1 : Int32)))) - k) + (1 : Int32))), .unset, .unset] [])) _
    refine XS.iload X6.here hx rfl (hb hby at_45) rfl ?_
    show Steps p.tables e below (T6.setTop (mkF m 47 #[.val (.int p1), .val (.int p2), .val (.int k), .val (.int (((2147483647 : Int32) - k) + (1 : Int32))), .val (.int (k + ((p2 &&& (2147483647 : Int32)) - ((p2 &&& (2147483647 : Int32)) / (((2147483647 : Int32) - k) + (1 : Int32))) * (((2147483647 : Int32) - k) + (1 : Int32))))), .val (.ref b4), .val (.int (((k + ((p2 &&& (2147483647 : Int32)) - ((p2 &&& (2147483647 : Int32)) / (((2147483647 : Int32) - k) + (1 : Int32))) * (((2147483647 : Int32) - k) + (1 : Int32)))) - k) + (1 : Int32))), .unset, .unset] [(.int (((k + ((p2 &&& (2147483647 : Int32)) - ((p2 &&& (2147483647 : Int32)) / (((2147483647 : Int32) - k) + (1 : Int32))) * (((2147483647 : Int32) - k) + (1 : Int32)))) - k) + (1 : Int32)))])) _
    refine XS.iconst X6.here hx rfl (hb hby at_47) ?_
    show Steps p.tables e below (T6.setTop (mkF m 48 #[.val (.int p1), .val (.int p2), .val (.int k), .val (.int (((2147483647 : Int32) - k) + (1 : Int32))), .val (.int (k + ((p2 &&& (2147483647 : Int32)) - ((p2 &&& (2147483647 : Int32)) / (((2147483647 : Int32) - k) + (1 : Int32))) * (((2147483647 : Int32) - k) + (1 : Int32))))), .val (.ref b4), .val (.int (((k + ((p2 &&& (2147483647 : Int32)) - ((p2 &&& (2147483647 : Int32)) / (((2147483647 : Int32) - k) + (1 : Int32))) * (((2147483647 : Int32) - k) + (1 : Int32)))) - k) + (1 : Int32))), .unset, .unset] [(.int (1 : Int32)), (.int (((k + ((p2 &&& (2147483647 : Int32)) - ((p2 &&& (2147483647 : Int32)) / (((2147483647 : Int32) - k) + (1 : Int32))) * (((2147483647 : Int32) - k) + (1 : Int32)))) - k) + (1 : Int32)))])) _
    refine XS.icmpYes X6.here hx rfl (pc0 := 48) (pc' := 53) rfl (hb hby at_48) rfl (flt hc48).2.1 (by decide) (by decide) ?_
    show Steps p.tables e below (T6.setTop (mkF m 53 #[.val (.int p1), .val (.int p2), .val (.int k), .val (.int (((2147483647 : Int32) - k) + (1 : Int32))), .val (.int (k + ((p2 &&& (2147483647 : Int32)) - ((p2 &&& (2147483647 : Int32)) / (((2147483647 : Int32) - k) + (1 : Int32))) * (((2147483647 : Int32) - k) + (1 : Int32))))), .val (.ref b4), .val (.int (((k + ((p2 &&& (2147483647 : Int32)) - ((p2 &&& (2147483647 : Int32)) / (((2147483647 : Int32) - k) + (1 : Int32))) * (((2147483647 : Int32) - k) + (1 : Int32)))) - k) + (1 : Int32))), .unset, .unset] [])) _
    refine XS.iload X6.here hx rfl (hb hby at_53) rfl ?_
    show Steps p.tables e below (T6.setTop (mkF m 55 #[.val (.int p1), .val (.int p2), .val (.int k), .val (.int (((2147483647 : Int32) - k) + (1 : Int32))), .val (.int (k + ((p2 &&& (2147483647 : Int32)) - ((p2 &&& (2147483647 : Int32)) / (((2147483647 : Int32) - k) + (1 : Int32))) * (((2147483647 : Int32) - k) + (1 : Int32))))), .val (.ref b4), .val (.int (((k + ((p2 &&& (2147483647 : Int32)) - ((p2 &&& (2147483647 : Int32)) / (((2147483647 : Int32) - k) + (1 : Int32))) * (((2147483647 : Int32) - k) + (1 : Int32)))) - k) + (1 : Int32))), .unset, .unset] [(.int (((k + ((p2 &&& (2147483647 : Int32)) - ((p2 &&& (2147483647 : Int32)) / (((2147483647 : Int32) - k) + (1 : Int32))) * (((2147483647 : Int32) - k) + (1 : Int32)))) - k) + (1 : Int32)))])) _
    refine XS.iload X6.here hx rfl (hb hby at_55) rfl ?_
    show Steps p.tables e below (T6.setTop (mkF m 57 #[.val (.int p1), .val (.int p2), .val (.int k), .val (.int (((2147483647 : Int32) - k) + (1 : Int32))), .val (.int (k + ((p2 &&& (2147483647 : Int32)) - ((p2 &&& (2147483647 : Int32)) / (((2147483647 : Int32) - k) + (1 : Int32))) * (((2147483647 : Int32) - k) + (1 : Int32))))), .val (.ref b4), .val (.int (((k + ((p2 &&& (2147483647 : Int32)) - ((p2 &&& (2147483647 : Int32)) / (((2147483647 : Int32) - k) + (1 : Int32))) * (((2147483647 : Int32) - k) + (1 : Int32)))) - k) + (1 : Int32))), .unset, .unset] [(.int (k + ((p2 &&& (2147483647 : Int32)) - ((p2 &&& (2147483647 : Int32)) / (((2147483647 : Int32) - k) + (1 : Int32))) * (((2147483647 : Int32) - k) + (1 : Int32))))), (.int (((k + ((p2 &&& (2147483647 : Int32)) - ((p2 &&& (2147483647 : Int32)) / (((2147483647 : Int32) - k) + (1 : Int32))) * (((2147483647 : Int32) - k) + (1 : Int32)))) - k) + (1 : Int32)))])) _
    refine XS.icmpYes X6.here hx rfl (pc0 := 57) (pc' := 62) rfl (hb hby at_57) rfl (flt hc57).2.2.2 (by decide) (by decide) ?_
    show Steps p.tables e below (T6.setTop (mkF m 62 #[.val (.int p1), .val (.int p2), .val (.int k), .val (.int (((2147483647 : Int32) - k) + (1 : Int32))), .val (.int (k + ((p2 &&& (2147483647 : Int32)) - ((p2 &&& (2147483647 : Int32)) / (((2147483647 : Int32) - k) + (1 : Int32))) * (((2147483647 : Int32) - k) + (1 : Int32))))), .val (.ref b4), .val (.int (((k + ((p2 &&& (2147483647 : Int32)) - ((p2 &&& (2147483647 : Int32)) / (((2147483647 : Int32) - k) + (1 : Int32))) * (((2147483647 : Int32) - k) + (1 : Int32)))) - k) + (1 : Int32))), .unset, .unset] [])) _
    refine XS.iload X6.here hx rfl (hb hby at_62) rfl ?_
    show Steps p.tables e below (T6.setTop (mkF m 64 #[.val (.int p1), .val (.int p2), .val (.int k), .val (.int (((2147483647 : Int32) - k) + (1 : Int32))), .val (.int (k + ((p2 &&& (2147483647 : Int32)) - ((p2 &&& (2147483647 : Int32)) / (((2147483647 : Int32) - k) + (1 : Int32))) * (((2147483647 : Int32) - k) + (1 : Int32))))), .val (.ref b4), .val (.int (((k + ((p2 &&& (2147483647 : Int32)) - ((p2 &&& (2147483647 : Int32)) / (((2147483647 : Int32) - k) + (1 : Int32))) * (((2147483647 : Int32) - k) + (1 : Int32)))) - k) + (1 : Int32))), .unset, .unset] [(.int (((k + ((p2 &&& (2147483647 : Int32)) - ((p2 &&& (2147483647 : Int32)) / (((2147483647 : Int32) - k) + (1 : Int32))) * (((2147483647 : Int32) - k) + (1 : Int32)))) - k) + (1 : Int32)))])) _
    refine XS.i2l X6.here hx rfl (hb hby at_64) rfl ?_
    show Steps p.tables e below (T6.setTop (mkF m 65 #[.val (.int p1), .val (.int p2), .val (.int k), .val (.int (((2147483647 : Int32) - k) + (1 : Int32))), .val (.int (k + ((p2 &&& (2147483647 : Int32)) - ((p2 &&& (2147483647 : Int32)) / (((2147483647 : Int32) - k) + (1 : Int32))) * (((2147483647 : Int32) - k) + (1 : Int32))))), .val (.ref b4), .val (.int (((k + ((p2 &&& (2147483647 : Int32)) - ((p2 &&& (2147483647 : Int32)) / (((2147483647 : Int32) - k) + (1 : Int32))) * (((2147483647 : Int32) - k) + (1 : Int32)))) - k) + (1 : Int32))), .unset, .unset] [(.long ((((k + ((p2 &&& (2147483647 : Int32)) - ((p2 &&& (2147483647 : Int32)) / (((2147483647 : Int32) - k) + (1 : Int32))) * (((2147483647 : Int32) - k) + (1 : Int32)))) - k) + (1 : Int32)).toInt64))])) _
    refine XS.iloadN X6.here hx rfl (hb hby at_65) rfl ?_
    show Steps p.tables e below (T6.setTop (mkF m 66 #[.val (.int p1), .val (.int p2), .val (.int k), .val (.int (((2147483647 : Int32) - k) + (1 : Int32))), .val (.int (k + ((p2 &&& (2147483647 : Int32)) - ((p2 &&& (2147483647 : Int32)) / (((2147483647 : Int32) - k) + (1 : Int32))) * (((2147483647 : Int32) - k) + (1 : Int32))))), .val (.ref b4), .val (.int (((k + ((p2 &&& (2147483647 : Int32)) - ((p2 &&& (2147483647 : Int32)) / (((2147483647 : Int32) - k) + (1 : Int32))) * (((2147483647 : Int32) - k) + (1 : Int32)))) - k) + (1 : Int32))), .unset, .unset] [(.int k), (.long ((((k + ((p2 &&& (2147483647 : Int32)) - ((p2 &&& (2147483647 : Int32)) / (((2147483647 : Int32) - k) + (1 : Int32))) * (((2147483647 : Int32) - k) + (1 : Int32)))) - k) + (1 : Int32)).toInt64))])) _
    refine XS.i2l X6.here hx rfl (hb hby at_66) rfl ?_
    show Steps p.tables e below (T6.setTop (mkF m 67 #[.val (.int p1), .val (.int p2), .val (.int k), .val (.int (((2147483647 : Int32) - k) + (1 : Int32))), .val (.int (k + ((p2 &&& (2147483647 : Int32)) - ((p2 &&& (2147483647 : Int32)) / (((2147483647 : Int32) - k) + (1 : Int32))) * (((2147483647 : Int32) - k) + (1 : Int32))))), .val (.ref b4), .val (.int (((k + ((p2 &&& (2147483647 : Int32)) - ((p2 &&& (2147483647 : Int32)) / (((2147483647 : Int32) - k) + (1 : Int32))) * (((2147483647 : Int32) - k) + (1 : Int32)))) - k) + (1 : Int32))), .unset, .unset] [(.long (k.toInt64)), (.long ((((k + ((p2 &&& (2147483647 : Int32)) - ((p2 &&& (2147483647 : Int32)) / (((2147483647 : Int32) - k) + (1 : Int32))) * (((2147483647 : Int32) - k) + (1 : Int32)))) - k) + (1 : Int32)).toInt64))])) _
    refine XS.ladd X6.here hx rfl (hb hby at_67) rfl ?_
    show Steps p.tables e below (T6.setTop (mkF m 68 #[.val (.int p1), .val (.int p2), .val (.int k), .val (.int (((2147483647 : Int32) - k) + (1 : Int32))), .val (.int (k + ((p2 &&& (2147483647 : Int32)) - ((p2 &&& (2147483647 : Int32)) / (((2147483647 : Int32) - k) + (1 : Int32))) * (((2147483647 : Int32) - k) + (1 : Int32))))), .val (.ref b4), .val (.int (((k + ((p2 &&& (2147483647 : Int32)) - ((p2 &&& (2147483647 : Int32)) / (((2147483647 : Int32) - k) + (1 : Int32))) * (((2147483647 : Int32) - k) + (1 : Int32)))) - k) + (1 : Int32))), .unset, .unset] [(.long (((((k + ((p2 &&& (2147483647 : Int32)) - ((p2 &&& (2147483647 : Int32)) / (((2147483647 : Int32) - k) + (1 : Int32))) * (((2147483647 : Int32) - k) + (1 : Int32)))) - k) + (1 : Int32)).toInt64) + (k.toInt64)))])) _
    refine XS.lconst X6.here hx rfl (hb hby at_68) ?_
    show Steps p.tables e below (T6.setTop (mkF m 69 #[.val (.int p1), .val (.int p2), .val (.int k), .val (.int (((2147483647 : Int32) - k) + (1 : Int32))), .val (.int (k + ((p2 &&& (2147483647 : Int32)) - ((p2 &&& (2147483647 : Int32)) / (((2147483647 : Int32) - k) + (1 : Int32))) * (((2147483647 : Int32) - k) + (1 : Int32))))), .val (.ref b4), .val (.int (((k + ((p2 &&& (2147483647 : Int32)) - ((p2 &&& (2147483647 : Int32)) / (((2147483647 : Int32) - k) + (1 : Int32))) * (((2147483647 : Int32) - k) + (1 : Int32)))) - k) + (1 : Int32))), .unset, .unset] [(.long (1 : Int64)), (.long (((((k + ((p2 &&& (2147483647 : Int32)) - ((p2 &&& (2147483647 : Int32)) / (((2147483647 : Int32) - k) + (1 : Int32))) * (((2147483647 : Int32) - k) + (1 : Int32)))) - k) + (1 : Int32)).toInt64) + (k.toInt64)))])) _
    refine XS.lsub X6.here hx rfl (hb hby at_69) rfl ?_
    show Steps p.tables e below (T6.setTop (mkF m 70 #[.val (.int p1), .val (.int p2), .val (.int k), .val (.int (((2147483647 : Int32) - k) + (1 : Int32))), .val (.int (k + ((p2 &&& (2147483647 : Int32)) - ((p2 &&& (2147483647 : Int32)) / (((2147483647 : Int32) - k) + (1 : Int32))) * (((2147483647 : Int32) - k) + (1 : Int32))))), .val (.ref b4), .val (.int (((k + ((p2 &&& (2147483647 : Int32)) - ((p2 &&& (2147483647 : Int32)) / (((2147483647 : Int32) - k) + (1 : Int32))) * (((2147483647 : Int32) - k) + (1 : Int32)))) - k) + (1 : Int32))), .unset, .unset] [(.long ((((((k + ((p2 &&& (2147483647 : Int32)) - ((p2 &&& (2147483647 : Int32)) / (((2147483647 : Int32) - k) + (1 : Int32))) * (((2147483647 : Int32) - k) + (1 : Int32)))) - k) + (1 : Int32)).toInt64) + (k.toInt64)) - (1 : Int64)))])) _
    refine XS.lstore X6.here hx rfl (hb hby at_70) rfl (l' := #[.val (.int p1), .val (.int p2), .val (.int k), .val (.int (((2147483647 : Int32) - k) + (1 : Int32))), .val (.int (k + ((p2 &&& (2147483647 : Int32)) - ((p2 &&& (2147483647 : Int32)) / (((2147483647 : Int32) - k) + (1 : Int32))) * (((2147483647 : Int32) - k) + (1 : Int32))))), .val (.ref b4), .val (.int (((k + ((p2 &&& (2147483647 : Int32)) - ((p2 &&& (2147483647 : Int32)) / (((2147483647 : Int32) - k) + (1 : Int32))) * (((2147483647 : Int32) - k) + (1 : Int32)))) - k) + (1 : Int32))), .val (.long ((((((k + ((p2 &&& (2147483647 : Int32)) - ((p2 &&& (2147483647 : Int32)) / (((2147483647 : Int32) - k) + (1 : Int32))) * (((2147483647 : Int32) - k) + (1 : Int32)))) - k) + (1 : Int32)).toInt64) + (k.toInt64)) - (1 : Int64))), .second]) rfl ?_
    show Steps p.tables e below (T6.setTop (mkF m 72 #[.val (.int p1), .val (.int p2), .val (.int k), .val (.int (((2147483647 : Int32) - k) + (1 : Int32))), .val (.int (k + ((p2 &&& (2147483647 : Int32)) - ((p2 &&& (2147483647 : Int32)) / (((2147483647 : Int32) - k) + (1 : Int32))) * (((2147483647 : Int32) - k) + (1 : Int32))))), .val (.ref b4), .val (.int (((k + ((p2 &&& (2147483647 : Int32)) - ((p2 &&& (2147483647 : Int32)) / (((2147483647 : Int32) - k) + (1 : Int32))) * (((2147483647 : Int32) - k) + (1 : Int32)))) - k) + (1 : Int32))), .val (.long ((((((k + ((p2 &&& (2147483647 : Int32)) - ((p2 &&& (2147483647 : Int32)) / (((2147483647 : Int32) - k) + (1 : Int32))) * (((2147483647 : Int32) - k) + (1 : Int32)))) - k) + (1 : Int32)).toInt64) + (k.toInt64)) - (1 : Int64))), .second] [])) _
    refine XS.lload X6.here hx rfl (hb hby at_72) rfl ?_
    show Steps p.tables e below (T6.setTop (mkF m 74 #[.val (.int p1), .val (.int p2), .val (.int k), .val (.int (((2147483647 : Int32) - k) + (1 : Int32))), .val (.int (k + ((p2 &&& (2147483647 : Int32)) - ((p2 &&& (2147483647 : Int32)) / (((2147483647 : Int32) - k) + (1 : Int32))) * (((2147483647 : Int32) - k) + (1 : Int32))))), .val (.ref b4), .val (.int (((k + ((p2 &&& (2147483647 : Int32)) - ((p2 &&& (2147483647 : Int32)) / (((2147483647 : Int32) - k) + (1 : Int32))) * (((2147483647 : Int32) - k) + (1 : Int32)))) - k) + (1 : Int32))), .val (.long ((((((k + ((p2 &&& (2147483647 : Int32)) - ((p2 &&& (2147483647 : Int32)) / (((2147483647 : Int32) - k) + (1 : Int32))) * (((2147483647 : Int32) - k) + (1 : Int32)))) - k) + (1 : Int32)).toInt64) + (k.toInt64)) - (1 : Int64))), .second] [(.long ((((((k + ((p2 &&& (2147483647 : Int32)) - ((p2 &&& (2147483647 : Int32)) / (((2147483647 : Int32) - k) + (1 : Int32))) * (((2147483647 : Int32) - k) + (1 : Int32)))) - k) + (1 : Int32)).toInt64) + (k.toInt64)) - (1 : Int64)))])) _
    refine XS.iload X6.here hx rfl (hb hby at_74) rfl ?_
    show Steps p.tables e below (T6.setTop (mkF m 76 #[.val (.int p1), .val (.int p2), .val (.int k), .val (.int (((2147483647 : Int32) - k) + (1 : Int32))), .val (.int (k + ((p2 &&& (2147483647 : Int32)) - ((p2 &&& (2147483647 : Int32)) / (((2147483647 : Int32) - k) + (1 : Int32))) * (((2147483647 : Int32) - k) + (1 : Int32))))), .val (.ref b4), .val (.int (((k + ((p2 &&& (2147483647 : Int32)) - ((p2 &&& (2147483647 : Int32)) / (((2147483647 : Int32) - k) + (1 : Int32))) * (((2147483647 : Int32) - k) + (1 : Int32)))) - k) + (1 : Int32))), .val (.long ((((((k + ((p2 &&& (2147483647 : Int32)) - ((p2 &&& (2147483647 : Int32)) / (((2147483647 : Int32) - k) + (1 : Int32))) * (((2147483647 : Int32) - k) + (1 : Int32)))) - k) + (1 : Int32)).toInt64) + (k.toInt64)) - (1 : Int64))), .second] [(.int (k + ((p2 &&& (2147483647 : Int32)) - ((p2 &&& (2147483647 : Int32)) / (((2147483647 : Int32) - k) + (1 : Int32))) * (((2147483647 : Int32) - k) + (1 : Int32))))), (.long ((((((k + ((p2 &&& (2147483647 : Int32)) - ((p2 &&& (2147483647 : Int32)) / (((2147483647 : Int32) - k) + (1 : Int32))) * (((2147483647 : Int32) - k) + (1 : Int32)))) - k) + (1 : Int32)).toInt64) + (k.toInt64)) - (1 : Int64)))])) _
    refine XS.i2l X6.here hx rfl (hb hby at_76) rfl ?_
    show Steps p.tables e below (T6.setTop (mkF m 77 #[.val (.int p1), .val (.int p2), .val (.int k), .val (.int (((2147483647 : Int32) - k) + (1 : Int32))), .val (.int (k + ((p2 &&& (2147483647 : Int32)) - ((p2 &&& (2147483647 : Int32)) / (((2147483647 : Int32) - k) + (1 : Int32))) * (((2147483647 : Int32) - k) + (1 : Int32))))), .val (.ref b4), .val (.int (((k + ((p2 &&& (2147483647 : Int32)) - ((p2 &&& (2147483647 : Int32)) / (((2147483647 : Int32) - k) + (1 : Int32))) * (((2147483647 : Int32) - k) + (1 : Int32)))) - k) + (1 : Int32))), .val (.long ((((((k + ((p2 &&& (2147483647 : Int32)) - ((p2 &&& (2147483647 : Int32)) / (((2147483647 : Int32) - k) + (1 : Int32))) * (((2147483647 : Int32) - k) + (1 : Int32)))) - k) + (1 : Int32)).toInt64) + (k.toInt64)) - (1 : Int64))), .second] [(.long ((k + ((p2 &&& (2147483647 : Int32)) - ((p2 &&& (2147483647 : Int32)) / (((2147483647 : Int32) - k) + (1 : Int32))) * (((2147483647 : Int32) - k) + (1 : Int32)))).toInt64)), (.long ((((((k + ((p2 &&& (2147483647 : Int32)) - ((p2 &&& (2147483647 : Int32)) / (((2147483647 : Int32) - k) + (1 : Int32))) * (((2147483647 : Int32) - k) + (1 : Int32)))) - k) + (1 : Int32)).toInt64) + (k.toInt64)) - (1 : Int64)))])) _
    refine XS.lcmp X6.here hx rfl (hb hby at_77) rfl ?_
    show Steps p.tables e below (T6.setTop (mkF m 78 #[.val (.int p1), .val (.int p2), .val (.int k), .val (.int (((2147483647 : Int32) - k) + (1 : Int32))), .val (.int (k + ((p2 &&& (2147483647 : Int32)) - ((p2 &&& (2147483647 : Int32)) / (((2147483647 : Int32) - k) + (1 : Int32))) * (((2147483647 : Int32) - k) + (1 : Int32))))), .val (.ref b4), .val (.int (((k + ((p2 &&& (2147483647 : Int32)) - ((p2 &&& (2147483647 : Int32)) / (((2147483647 : Int32) - k) + (1 : Int32))) * (((2147483647 : Int32) - k) + (1 : Int32)))) - k) + (1 : Int32))), .val (.long ((((((k + ((p2 &&& (2147483647 : Int32)) - ((p2 &&& (2147483647 : Int32)) / (((2147483647 : Int32) - k) + (1 : Int32))) * (((2147483647 : Int32) - k) + (1 : Int32)))) - k) + (1 : Int32)).toInt64) + (k.toInt64)) - (1 : Int64))), .second] [(.int (lcmpW ((((((k + ((p2 &&& (2147483647 : Int32)) - ((p2 &&& (2147483647 : Int32)) / (((2147483647 : Int32) - k) + (1 : Int32))) * (((2147483647 : Int32) - k) + (1 : Int32)))) - k) + (1 : Int32)).toInt64) + (k.toInt64)) - (1 : Int64)) ((k + ((p2 &&& (2147483647 : Int32)) - ((p2 &&& (2147483647 : Int32)) / (((2147483647 : Int32) - k) + (1 : Int32))) * (((2147483647 : Int32) - k) + (1 : Int32)))).toInt64)))])) _
    refine XS.ifNo X6.here hx rfl (hb hby at_78) rfl ((if0 _ _).trans (teq hc78).2) ?_
    show Steps p.tables e below (T6.setTop (mkF m 81 #[.val (.int p1), .val (.int p2), .val (.int k), .val (.int (((2147483647 : Int32) - k) + (1 : Int32))), .val (.int (k + ((p2 &&& (2147483647 : Int32)) - ((p2 &&& (2147483647 : Int32)) / (((2147483647 : Int32) - k) + (1 : Int32))) * (((2147483647 : Int32) - k) + (1 : Int32))))), .val (.ref b4), .val (.int (((k + ((p2 &&& (2147483647 : Int32)) - ((p2 &&& (2147483647 : Int32)) / (((2147483647 : Int32) - k) + (1 : Int32))) * (((2147483647 : Int32) - k) + (1 : Int32)))) - k) + (1 : Int32))), .val (.long ((((((k + ((p2 &&& (2147483647 : Int32)) - ((p2 &&& (2147483647 : Int32)) / (((2147483647 : Int32) - k) + (1 : Int32))) * (((2147483647 : Int32) - k) + (1 : Int32)))) - k) + (1 : Int32)).toInt64) + (k.toInt64)) - (1 : Int64))), .second] [])) _
    refine XS.iconst X6.here hx rfl (hb hby at_81) ?_
    show Steps p.tables e below (T6.setTop (mkF m 82 #[.val (.int p1), .val (.int p2), .val (.int k), .val (.int (((2147483647 : Int32) - k) + (1 : Int32))), .val (.int (k + ((p2 &&& (2147483647 : Int32)) - ((p2 &&& (2147483647 : Int32)) / (((2147483647 : Int32) - k) + (1 : Int32))) * (((2147483647 : Int32) - k) + (1 : Int32))))), .val (.ref b4), .val (.int (((k + ((p2 &&& (2147483647 : Int32)) - ((p2 &&& (2147483647 : Int32)) / (((2147483647 : Int32) - k) + (1 : Int32))) * (((2147483647 : Int32) - k) + (1 : Int32)))) - k) + (1 : Int32))), .val (.long ((((((k + ((p2 &&& (2147483647 : Int32)) - ((p2 &&& (2147483647 : Int32)) / (((2147483647 : Int32) - k) + (1 : Int32))) * (((2147483647 : Int32) - k) + (1 : Int32)))) - k) + (1 : Int32)).toInt64) + (k.toInt64)) - (1 : Int64))), .second] [(.int (1 : Int32))])) _
    refine XS.goto X6.here hx rfl (pc0 := 82) (pc' := 86) rfl (hb hby at_82) (by decide) (by decide) ?_
    show Steps p.tables e below (T6.setTop (mkF m 86 #[.val (.int p1), .val (.int p2), .val (.int k), .val (.int (((2147483647 : Int32) - k) + (1 : Int32))), .val (.int (k + ((p2 &&& (2147483647 : Int32)) - ((p2 &&& (2147483647 : Int32)) / (((2147483647 : Int32) - k) + (1 : Int32))) * (((2147483647 : Int32) - k) + (1 : Int32))))), .val (.ref b4), .val (.int (((k + ((p2 &&& (2147483647 : Int32)) - ((p2 &&& (2147483647 : Int32)) / (((2147483647 : Int32) - k) + (1 : Int32))) * (((2147483647 : Int32) - k) + (1 : Int32)))) - k) + (1 : Int32))), .val (.long ((((((k + ((p2 &&& (2147483647 : Int32)) - ((p2 &&& (2147483647 : Int32)) / (((2147483647 : Int32) - k) + (1 : Int32))) * (((2147483647 : Int32) - k) + (1 : Int32)))) - k) + (1 : Int32)).toInt64) + (k.toInt64)) - (1 : Int64))), .second] [(.int (1 : Int32))])) _
    exact retN X6 hx (t := .boolean) Bd.returns (by simp) (hb hby at_86) hr
  · show Q0 Z p1 p2 h0 n0 _ T6.heap _
    exact ⟨rfl, N6⟩
-- 5. FROM THE CASE'S WORDS TO rm0, AND THE OWED THEOREMS
set_option maxRecDepth 65536 in
set_option maxHeartbeats 40000000 in
theorem comes_1 {Post : Tables → Env → Array Value → State → Outcome → State → Prop} (hpost : ∀ tb e args s v u, (limb_1_1.after args s (.returned v) u = true ∧ limb_1_2.after args s (.returned v) u = true ∧ True) → FrameEnd s (.returned v) u (Jvm.fieldLocs frame_1_writes args s ++ Jvm.arrayLocs frame_1_arrays args s ++ Jvm.staticLocs frame_1_statics s) 16 128 → Post tb e args s (.returned v) u) :
    ArmFor flags0 classFile x code maxLocals ret World_1 tables_1 room_1 Calls_1 rest_1 Pre_1 Post := by
  intro l hfl _ _ p e ha hc hk s m args below hf hA hF happ hP
  obtain ⟨hcalls, hrest, hpre⟩ := hP
  obtain ⟨-, -, -, hnamed, -, -, -, hat⟩ := (Spec.applies_iff hf).mp happ
  obtain ⟨hg, hn⟩ := and_e (Cond.before_iff.mp (show (Jvm.Cond.and given_1 narrow_1).before args s = true from hpre))
  obtain ⟨g7, g8⟩ := and_e hg
  obtain ⟨g9, g10⟩ := and_e g8
  obtain ⟨w0, w1, rfl⟩ : ∃ w0 w1 : Value, args = #[w0, w1] := by
    have hs : args.size = 2 := by simpa [Cond.value, given_1] using g7
    obtain ⟨L⟩ := args
    match L, hs with
    | [w0, w1], _ => exact ⟨w0, w1, rfl⟩
  have hw := fun d (hd : d ∈ tables_1) => atoms_spec (ws := Jvm.Cond.code x code maxLocals ret :: tables_1) hat d (List.mem_cons_of_mem _ hd)
  have hfit : Fit s := fun {y c} hc i hi => by
    obtain ⟨ha, rfl⟩ := Array.getElem?_eq_some_iff.mp hc
    have q := List.all_eq_true.mp ((Array.all_eq_true_iff_forall_mem.mp hF) _ (Array.getElem_mem ha)) i (List.mem_range.mpr hi)
    simpa [Array.getElem?_eq_getElem hi] using q
  obtain ⟨i0, ei0⟩ := is_v g9
  obtain rfl : w0 = (.int i0) := Option.some.inj ei0
  obtain ⟨i1, ei1⟩ := is_v g10
  obtain rfl : w1 = (.int i1) := Option.some.inj ei1
  have ar := own_arith (own_max 1 (i0 &&& 2147483647)) i1 (own_max1 i0)
  have ar2 := ar.2 _ rfl
  have hk1 : ¬ (own_max 1 (i0 &&& 2147483647) < (1 : Int32)) := by rw [Int32.lt_iff_toInt_lt, show (1 : Int32).toInt = 1 from rfl]; have := own_max1 i0; omega
  obtain ⟨n, o, h1, h2, h3, _, L, rfl, ⟨rfl, N⟩, hq⟩ := rm0 l s _ hw tables_1 i0 i1 _ rfl s.heap s.heap.size (Nat.le_refl _) ar.1 ar2.2.1 ar2.2.2.1 ar2.2.2.2 hk1 ar2.1 p e ha hc hk s m _ below hf ((Spec.applies_iff_loose hf).mp happ).1 ⟨rfl, State.Warmed39.refl s, rfl⟩ trivial
  refine ⟨n, _, h1, h2, h3, hpost _ _ _ _ _ _ ⟨Cond.after_iff.mpr rfl, Cond.after_iff.mpr (eq_i res_at (Term.int_eval (1)) rfl), trivial⟩ ⟨hq.1, hq.2.1, (hq.2.2.sift fun y hy => Or.inr (N y hy)).mono (by decide) (by decide)⟩⟩
theorem main_1_1 : Claimed_1_1 := comes_1 fun _ _ _ _ _ _ h hF => ⟨h.1, hF⟩
theorem main_1_2 : Claimed_1_2 := comes_1 fun _ _ _ _ _ _ h hF => ⟨h.2.1, hF⟩
end Jvm.Pilot.@@N@@
namespace Jvm.Pilot.@@N@@
open Jvm Jvm.ClassFile Sem Op Lib Jvm.Free Jvm.Stand Jvm.Pilot.@@N@@.Jvm.D
/-! MADE BY PROGRAM (witnessworld.py) out of the Statement's table words and the real class files: 9 classes; the members and pool entries that the words name. The judged class is class 1, her method 1. -/
namespace start1
open Jvm.ClassFile
def u (s : String) : CpInfo := .utf8 (stringToUtf16 s)
/-- a pool by its gaps: so many unusable entries, then the entry; so many at the end -/
def gap : Nat → List CpInfo → List CpInfo
  | 0, r => r
  | n + 1, r => .unusable :: gap n r
def poolList (es : List (Nat × CpInfo)) (last : Nat) : List CpInfo := es.foldr (fun e r => gap e.1 (e.2 :: r)) (gap last [])
def pool (es : List (Nat × CpInfo)) (last : Nat) : Array CpInfo := ⟨poolList es last⟩
def fileOf (pool : Array CpInfo) (this : Nat) (attrs : Array Attribute := #[]) (ms : Array MethodInfo := #[]) (fl : Nat := 33) (sup : Nat := 0) (ifs : Array Nat := #[]) (fds : Array FieldInfo := #[]) : ClassFile where
  minorVersion := 0
  majorVersion := 65
  constantPool := pool
  accessFlags := fl
  thisClass := this
  superClass := sup
  interfaces := ifs
  fields := fds
  methods := ms
  attributes := attrs
def plain (name : String) (sup : Option ClassId) : Class where
  name := name
  kind := .ordinary
  loader := none
  accessFlags := 33
  super := sup
  interfaces := #[]
  cf := none
  fields := #[]
  methods := #[]
  instanceTypes := #[]
  staticTypes := #[]
  resolved := #[]
  callSites := []
  init := .initialized
  statics := none
  mirror := none

def pool0 : Array CpInfo := pool [(5, u "<init>"), (0, u "()V"), (1, .class_ 10), (1, u "java/lang/Object")] 113

def k0c0 : Code := { maxStack := 0, maxLocals := 1, code := object_method_1_code, exceptionTable := #[], attributes := #[] }
def k0m0 : Method := { name := "<init>", desc := "()V", sig := { parameters := [], returnType := none }, accessFlags := 1, code := some k0c0 }
/-- java/lang/Object -/
def k0 : Class := { plain "java/lang/Object" none with
  accessFlags := 33
  interfaces := #[]
  cf := some (fileOf pool0 8 #[] #[{ accessFlags := 1, nameIndex := 5, descriptorIndex := 6, attributes := #[] }] 33 0 #[] #[])
  fields := #[]
  methods := #[k0m0]
  instanceTypes := #[]
  staticTypes := #[]
  resolved := Array.replicate 124 none
  statics := none }

def pool1 : Array CpInfo := pool [(2, .class_ 4), (1, u "java/lang/Object"), (0, u "<init>"), (0, u "()V"), (0, .integer 2147483647), (0, .methodref 9 10), (0, .class_ 11), (0, .nameAndType 12 13), (0, u "java/lang/Math"), (0, u "max"), (0, u "(II)I"), (2, .class_ 17), (0, u "com/example/shingle/shingle/core/Thresholds"), (0, .methodref 16 19), (0, .nameAndType 5 20), (0, u "(II)V"), (0, .methodref 16 22), (0, .nameAndType 23 24), (0, u "window"), (0, u "()I"), (0, .class_ 26), (0, u "com/example/shingle/shingle/core/ThresholdsWindowPinLaw"), (2, u "law"), (0, u "(II)Z")] 3

def k1m0 : Method := { name := "<init>", desc := "()V", sig := { parameters := [], returnType := none }, accessFlags := 1, code := none }
def k1c1 : Code := { maxStack := 4, maxLocals := 9, code := code, exceptionTable := #[], attributes := #[] }
def k1m1 : Method := { name := "law", desc := "(II)Z", sig := { parameters := [.int, .int], returnType := some .boolean }, accessFlags := 9, code := some k1c1 }
/-- com/example/shingle/shingle/core/ThresholdsWindowPinLaw -/
def k1 : Class := { plain "com/example/shingle/shingle/core/ThresholdsWindowPinLaw" (some 0) with
  accessFlags := 49
  interfaces := #[]
  cf := some (fileOf pool1 25 #[] #[{ accessFlags := 1, nameIndex := 5, descriptorIndex := 6, attributes := #[] }, { accessFlags := 9, nameIndex := 29, descriptorIndex := 30, attributes := #[] }] 49 2 #[] #[])
  fields := #[]
  methods := #[k1m0, k1m1]
  instanceTypes := #[]
  staticTypes := #[]
  resolved := Array.replicate 34 none
  statics := none }

def pool2 : Array CpInfo := pool [(1, .class_ 2), (0, u "java/lang/Math"), (1, .class_ 6), (1, u "java/lang/Object"), (0, u "<init>"), (0, u "()V"), (89, .class_ 100), (1, u "java/lang/Math$RandomNumberGeneratorHolder"), (71, u "negativeZeroFloatBits"), (0, u "J"), (2, u "negativeZeroDoubleBits"), (21, u "max"), (46, u "$assertionsDisabled"), (0, u "Z"), (88, u "(II)I"), (2, u "twoToTheDoubleScaleDown"), (0, u "D"), (4, u "twoToTheDoubleScaleUp"), (9, u "E"), (3, u "PI"), (2, u "TAU"), (2, u "DEGREES_TO_RADIANS"), (0, u "RADIANS_TO_DEGREES")] 94

def k2m0 : Method := { name := "<init>", desc := "()V", sig := { parameters := [], returnType := none }, accessFlags := 2, code := none }
def k2c1 : Code := { maxStack := 2, maxLocals := 2, code := jdk_29_method_65_code, exceptionTable := #[], attributes := #[] }
def k2m1 : Method := { name := "max", desc := "(II)I", sig := { parameters := [.int, .int], returnType := some .int }, accessFlags := 9, code := some k2c1 }
/-- java/lang/Math -/
def k2 : Class := { plain "java/lang/Math" (some 0) with
  accessFlags := 49
  interfaces := #[]
  cf := some (fileOf pool2 1 #[.nestMembers #[98]] #[{ accessFlags := 2, nameIndex := 7, descriptorIndex := 8, attributes := #[] }, { accessFlags := 9, nameIndex := 198, descriptorIndex := 335, attributes := #[] }] 49 4 #[] #[{ accessFlags := 25, nameIndex := 354, descriptorIndex := 339, attributes := #[] }, { accessFlags := 25, nameIndex := 358, descriptorIndex := 339, attributes := #[] }, { accessFlags := 25, nameIndex := 361, descriptorIndex := 339, attributes := #[] }, { accessFlags := 26, nameIndex := 364, descriptorIndex := 339, attributes := #[] }, { accessFlags := 26, nameIndex := 365, descriptorIndex := 339, attributes := #[] }, { accessFlags := 26, nameIndex := 172, descriptorIndex := 173, attributes := #[] }, { accessFlags := 26, nameIndex := 176, descriptorIndex := 173, attributes := #[] }, { accessFlags := 8, nameIndex := 344, descriptorIndex := 339, attributes := #[] }, { accessFlags := 8, nameIndex := 338, descriptorIndex := 339, attributes := #[] }, { accessFlags := 4120, nameIndex := 245, descriptorIndex := 246, attributes := #[] }])
  fields := #[{ name := "E", type := .double, accessFlags := 25, slot := 0, constantValue := 0 }, { name := "PI", type := .double, accessFlags := 25, slot := 1, constantValue := 0 }, { name := "TAU", type := .double, accessFlags := 25, slot := 2, constantValue := 0 }, { name := "DEGREES_TO_RADIANS", type := .double, accessFlags := 26, slot := 3, constantValue := 0 }, { name := "RADIANS_TO_DEGREES", type := .double, accessFlags := 26, slot := 4, constantValue := 0 }, { name := "negativeZeroFloatBits", type := .long, accessFlags := 26, slot := 5, constantValue := 0 }, { name := "negativeZeroDoubleBits", type := .long, accessFlags := 26, slot := 6, constantValue := 0 }, { name := "twoToTheDoubleScaleUp", type := .double, accessFlags := 8, slot := 7, constantValue := 0 }, { name := "twoToTheDoubleScaleDown", type := .double, accessFlags := 8, slot := 8, constantValue := 0 }, { name := "$assertionsDisabled", type := .boolean, accessFlags := 4120, slot := 9, constantValue := 0 }]
  methods := #[k2m0, k2m1]
  instanceTypes := #[]
  staticTypes := #[.double, .double, .double, .double, .double, .long, .long, .double, .double, .boolean]
  resolved := Array.replicate 460 none
  statics := none }

def pool3 : Array CpInfo := pool [(1, .methodref 2 3), (0, .class_ 4), (0, .nameAndType 5 6), (0, u "java/lang/Object"), (0, u "<init>"), (0, u "()V"), (0, .class_ 8), (0, u "java/lang/Record")] 13

def k3c0 : Code := { maxStack := 1, maxLocals := 1, code := jdk_30_method_1_code, exceptionTable := #[], attributes := #[] }
def k3m0 : Method := { name := "<init>", desc := "()V", sig := { parameters := [], returnType := none }, accessFlags := 4, code := some k3c0 }
/-- java/lang/Record -/
def k3 : Class := { plain "java/lang/Record" (some 0) with
  accessFlags := 1057
  interfaces := #[]
  cf := some (fileOf pool3 7 #[] #[{ accessFlags := 4, nameIndex := 5, descriptorIndex := 6, attributes := #[] }] 1057 2 #[] #[])
  fields := #[]
  methods := #[k3m0]
  instanceTypes := #[]
  staticTypes := #[]
  resolved := Array.replicate 22 none
  statics := none }

def pool4 : Array CpInfo := pool [(1, .methodref 2 3), (0, .class_ 4), (0, .nameAndType 5 6), (0, u "java/lang/Record"), (0, u "<init>"), (0, u "()V"), (12, .fieldref 20 21), (0, .class_ 22), (0, .nameAndType 23 24), (0, u "com/example/shingle/shingle/core/Thresholds"), (0, u "k"), (0, u "I"), (0, .fieldref 20 26), (0, .nameAndType 27 24), (0, u "t"), (12, u "DEFAULT_K"), (2, u "DEFAULT_T"), (1, u "(II)V"), (4, u "window"), (0, u "()I")] 33

def k4c0 : Code := { maxStack := 4, maxLocals := 3, code := prog_34_method_1_code, exceptionTable := #[], attributes := #[] }
def k4m0 : Method := { name := "<init>", desc := "(II)V", sig := { parameters := [.int, .int], returnType := none }, accessFlags := 1, code := some k4c0 }
def k4c1 : Code := { maxStack := 2, maxLocals := 1, code := prog_34_method_2_code, exceptionTable := #[], attributes := #[] }
def k4m1 : Method := { name := "window", desc := "()I", sig := { parameters := [], returnType := some .int }, accessFlags := 1, code := some k4c1 }
/-- com/example/shingle/shingle/core/Thresholds -/
def k4 : Class := { plain "com/example/shingle/shingle/core/Thresholds" (some 3) with
  accessFlags := 49
  interfaces := #[]
  cf := some (fileOf pool4 20 #[] #[{ accessFlags := 1, nameIndex := 5, descriptorIndex := 45, attributes := #[] }, { accessFlags := 1, nameIndex := 50, descriptorIndex := 51, attributes := #[] }] 49 2 #[] #[{ accessFlags := 18, nameIndex := 23, descriptorIndex := 24, attributes := #[] }, { accessFlags := 18, nameIndex := 27, descriptorIndex := 24, attributes := #[] }, { accessFlags := 25, nameIndex := 40, descriptorIndex := 24, attributes := #[] }, { accessFlags := 25, nameIndex := 43, descriptorIndex := 24, attributes := #[] }])
  fields := #[{ name := "k", type := .int, accessFlags := 18, slot := 0, constantValue := 0 }, { name := "t", type := .int, accessFlags := 18, slot := 1, constantValue := 0 }, { name := "DEFAULT_K", type := .int, accessFlags := 25, slot := 0, constantValue := 0 }, { name := "DEFAULT_T", type := .int, accessFlags := 25, slot := 1, constantValue := 0 }]
  methods := #[k4m0, k4m1]
  instanceTypes := #[.int, .int]
  staticTypes := #[.int, .int]
  resolved := Array.replicate 85 none
  statics := none }

def pool5 : Array CpInfo := pool [(1, u "java/lang/Cloneable"), (0, .class_ 1), (0, u "java/lang/Object"), (0, .class_ 3)] 3

/-- java/lang/Cloneable -/
def k5 : Class := { plain "java/lang/Cloneable" (some 0) with
  accessFlags := 1537
  interfaces := #[]
  cf := some (fileOf pool5 2 #[] #[] 1537 4 #[] #[])
  fields := #[]
  methods := #[]
  instanceTypes := #[]
  staticTypes := #[]
  resolved := Array.replicate 8 none
  statics := none }

def pool6 : Array CpInfo := pool [(1, u "java/io/Serializable"), (0, .class_ 1), (0, u "java/lang/Object"), (0, .class_ 3)] 3

/-- java/io/Serializable -/
def k6 : Class := { plain "java/io/Serializable" (some 0) with
  accessFlags := 1537
  interfaces := #[]
  cf := some (fileOf pool6 2 #[] #[] 1537 4 #[] #[])
  fields := #[]
  methods := #[]
  instanceTypes := #[]
  staticTypes := #[]
  resolved := Array.replicate 8 none
  statics := none }

/-- the primitive byte -/
def k7 : Class := { plain "byte" none with kind := .primitive 'B', accessFlags := 0x411 }
/-- [B -/
def k8 : Class := { plain "[B" (some 0) with kind := .array 7 .byte, interfaces := #[5, 6], accessFlags := 1041 }

def heap : Heap := #[]
def classes : Array Class := #[k0, k1, k2, k3, k4, k5, k6, k7, k8]
def interned : List (Array UInt16 × Addr) := []
def slotsUsed : Nat := 0
def theMethod : MethodId := ⟨1, 1⟩
def args0 : Array Value := #[.int 5, .int 300]
def aboutOver (below : List Frame) : State where
  vm := { classes := classes, interned := interned.toArray }
  heap := heap
  slotsUsed := slotsUsed
  threads := #[{ frames := .invoking theMethod args0 :: below }]
def below0 : List Frame := [.native { method := ⟨0, 0⟩, args := #[] }]
def about1 : State := aboutOver below0
def p0 : Program := .bare "" "" ""
def e0 : Env := launch0.env 0 0 0
theorem w_frames : about1.frames = Frame.invoking theMethod args0 :: below0 := rfl
set_option maxRecDepth 65536 in
theorem w_args : argsFit about1.vm theMethod args0 = true := by decide +kernel
set_option maxRecDepth 65536 in
theorem w_heap : heapFits about1 = true := by decide +kernel
set_option maxRecDepth 65536 in
theorem w_runnable : about1.curStatus? = some .runnable := by decide +kernel
set_option maxRecDepth 65536 in
theorem w_alone : about1.alone = true := by decide +kernel
set_option maxRecDepth 65536 in
theorem w_named : about1.methodNamed? x = some theMethod := by decide +kernel
set_option maxRecDepth 65536 in
theorem w_hears : about1.hears theMethod below0 = true := by decide +kernel
set_option maxRecDepth 65536 in
theorem w_ripe : about1.ripe theMethod args0 below0 = true := by decide +kernel
theorem w_running : about1.status = .running := rfl
set_option maxRecDepth 65536 in
theorem w_room : about1.hasRoom e0.platform room_1 = true :=
  launch0.hasRoom_least _ room_1 (by decide +kernel) (by decide +kernel) (by decide +kernel) (by decide +kernel) (by decide +kernel) (by decide +kernel)
theorem allAtoms_all (ts : List Jvm.Cond) (a : Array Jvm.Value) (st : Jvm.State) : (allAtoms ts).before a st = ts.all (fun c => c.before a st) := by
  induction ts with
  | nil => rfl
  | cons c t ih =>
    show (Jvm.Cond.and c (allAtoms t)).before a st = _
    rw [Jvm.Cond.before_and, ih, List.all_cons]
def words1 : List Jvm.Cond := Jvm.Cond.code x code maxLocals ret :: tables_1
/-- a 'code' word, met by the world's own term for the bytes: nothing is compared byte by byte -/
theorem code_word {y : MethodName} {bytes : ByteArray} {mx : Nat} {rt : Option FieldType} {a : Array Value} {s : State} {m : MethodId} {meth : Method} {c : Code} (h1 : s.methodNamed? y = some m) (h2 : s.vm.method? m = some meth) (h3 : meth.code = some c) (h4 : c.code = bytes)
    (h5 : (c.maxLocals == mx && c.exceptionTable.isEmpty && decide (c.maxStack ≤ mostOperands) && decide (meth.sig.returnType = rt) && !meth.locks && decide (parseMethodDescriptor y.desc = some meth.sig)) = true) : (Jvm.Cond.code y bytes mx rt).before a s = true := by
  simp only [Bool.and_eq_true, beq_iff_eq, Bool.not_eq_true', decide_eq_true_eq] at h5
  obtain ⟨⟨⟨⟨⟨g1, g2⟩, g3⟩, g4⟩, g5⟩, g6⟩ := h5
  simp [Cond.before, Cond.holds, Cond.value, h1, h2, h3, h4, g1, g2, g3, g4, g5, g6]
def isCode : Jvm.Cond → Bool
  | .code _ _ _ _ => true
  | _ => false
theorem all_split {L : List Jvm.Cond} {P : Jvm.Cond → Bool} (h1 : L.all (fun c => isCode c || P c) = true) (h2 : ∀ c ∈ L.filter isCode, P c = true) : L.all P = true := by
  refine List.all_eq_true.mpr fun c hc => ?_
  have h := List.all_eq_true.mp h1 c hc
  rcases Bool.eq_false_or_eq_true (isCode c) with hi | hi
  · exact h2 c (List.mem_filter.mpr ⟨hc, hi⟩)
  · simpa [hi] using h
set_option maxRecDepth 65536 in
theorem w_c0 : (Jvm.Cond.code x code maxLocals ret).before args0 about1 = true := code_word (m := ⟨1, 1⟩) (meth := k1m1) (c := k1c1) (by decide +kernel) rfl rfl rfl (by decide +kernel)
set_option maxRecDepth 65536 in
theorem w_c1 : (Jvm.Cond.code ({ cls := "java/lang/Math", name := "max", desc := "(II)I" } : Jvm.MethodName) jdk_29_method_65_code (2 : Nat) (Option.some Jvm.ClassFile.FieldType.int)).before args0 about1 = true := code_word (m := ⟨2, 1⟩) (meth := k2m1) (c := k2c1) (by decide +kernel) rfl rfl rfl (by decide +kernel)
set_option maxRecDepth 65536 in
theorem w_c2 : (Jvm.Cond.code ({ cls := "com/example/shingle/shingle/core/Thresholds", name := "<init>", desc := "(II)V" } : Jvm.MethodName) prog_34_method_1_code (3 : Nat) (Option.none : Option Jvm.ClassFile.FieldType)).before args0 about1 = true := code_word (m := ⟨4, 0⟩) (meth := k4m0) (c := k4c0) (by decide +kernel) rfl rfl rfl (by decide +kernel)
set_option maxRecDepth 65536 in
theorem w_c3 : (Jvm.Cond.code ({ cls := "java/lang/Record", name := "<init>", desc := "()V" } : Jvm.MethodName) jdk_30_method_1_code (1 : Nat) (Option.none : Option Jvm.ClassFile.FieldType)).before args0 about1 = true := code_word (m := ⟨3, 0⟩) (meth := k3m0) (c := k3c0) (by decide +kernel) rfl rfl rfl (by decide +kernel)
set_option maxRecDepth 65536 in
theorem w_c4 : (Jvm.Cond.code ({ cls := "java/lang/Object", name := "<init>", desc := "()V" } : Jvm.MethodName) object_method_1_code (1 : Nat) (Option.none : Option Jvm.ClassFile.FieldType)).before args0 about1 = true := code_word (m := ⟨0, 0⟩) (meth := k0m0) (c := k0c0) (by decide +kernel) rfl rfl rfl (by decide +kernel)
set_option maxRecDepth 65536 in
theorem w_c5 : (Jvm.Cond.code ({ cls := "com/example/shingle/shingle/core/Thresholds", name := "window", desc := "()I" } : Jvm.MethodName) prog_34_method_2_code (1 : Nat) (Option.some Jvm.ClassFile.FieldType.int)).before args0 about1 = true := code_word (m := ⟨4, 1⟩) (meth := k4m1) (c := k4c1) (by decide +kernel) rfl rfl rfl (by decide +kernel)
def codes1 : List Jvm.Cond := [Jvm.Cond.code x code maxLocals ret, Jvm.Cond.code ({ cls := "java/lang/Math", name := "max", desc := "(II)I" } : Jvm.MethodName) jdk_29_method_65_code (2 : Nat) (Option.some Jvm.ClassFile.FieldType.int), Jvm.Cond.code ({ cls := "com/example/shingle/shingle/core/Thresholds", name := "<init>", desc := "(II)V" } : Jvm.MethodName) prog_34_method_1_code (3 : Nat) (Option.none : Option Jvm.ClassFile.FieldType), Jvm.Cond.code ({ cls := "java/lang/Record", name := "<init>", desc := "()V" } : Jvm.MethodName) jdk_30_method_1_code (1 : Nat) (Option.none : Option Jvm.ClassFile.FieldType), Jvm.Cond.code ({ cls := "java/lang/Object", name := "<init>", desc := "()V" } : Jvm.MethodName) object_method_1_code (1 : Nat) (Option.none : Option Jvm.ClassFile.FieldType), Jvm.Cond.code ({ cls := "com/example/shingle/shingle/core/Thresholds", name := "window", desc := "()I" } : Jvm.MethodName) prog_34_method_2_code (1 : Nat) (Option.some Jvm.ClassFile.FieldType.int)]
set_option maxRecDepth 65536 in
theorem codes_eq : words1.filter isCode = codes1 := rfl
theorem w_codes : ∀ c ∈ words1.filter isCode, c.before args0 about1 = true := by
  rw [codes_eq]
  intro c hc
  simp only [codes1, List.mem_cons, List.not_mem_nil, or_false] at hc
  rcases hc with rfl | rfl | rfl | rfl | rfl | rfl
  · exact w_c0
  · exact w_c1
  · exact w_c2
  · exact w_c3
  · exact w_c4
  · exact w_c5
set_option maxRecDepth 65536 in
theorem w_t1 : (words1.take 24).all (fun c => isCode c || c.before args0 about1) = true := by decide +kernel
set_option maxRecDepth 65536 in
theorem w_t2 : (words1.drop 24).all (fun c => isCode c || c.before args0 about1) = true := by decide +kernel
theorem w_tables : (allAtoms (Jvm.Cond.code x code maxLocals ret :: tables_1)).before args0 about1 = true := by
  rw [allAtoms_all]
  show words1.all (fun c => c.before args0 about1) = true
  refine all_split ?_ w_codes
  rw [← List.take_append_drop 24 words1, List.all_append, w_t1, w_t2]
  rfl
set_option maxRecDepth 65536 in
theorem w_case : (Jvm.Cond.and given_1 narrow_1).before args0 about1 = true := by decide +kernel
theorem w_applies : (headSpec (Jvm.Cond.code x code maxLocals ret :: tables_1) room_1).applies x e0.platform about1 = true :=
  (Spec.applies_iff w_frames).mpr ⟨w_running, w_runnable, w_alone, w_named, w_hears, w_ripe, w_room, w_tables⟩
theorem atStart : AtStart classFile x code maxLocals ret World_1 tables_1 room_1 Calls_1 rest_1 Pre_1 launch0 p0 e0 about1 theMethod args0 below0 :=
  ⟨lists_1, trivial, launch0.admits_env _ _ _, launch0.least_env, fairChoices_fair.cas, fairChoices_fair.clock, w_frames, w_args, w_heap, w_applies, trivial, trivial, w_case⟩
end start1
theorem witness_1 : WitnessClaimed_1 := ⟨start1.p0, start1.e0, start1.about1, start1.theMethod, start1.args0, start1.below0, start1.atStart⟩
end Jvm.Pilot.@@N@@
