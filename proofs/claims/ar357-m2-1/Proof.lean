import JvmDerived
import JvmDerived.Pilot.@@N@@Statement
import JvmDerived.Pilot.@@N@@Code
set_option linter.unusedVariables false
set_option linter.unusedSimpArgs false
@@BLOCK:NumsL.lean.txt@@
namespace Jvm.RoadKit
open Sem ClassFile Op Lib Jvm.Stand Jvm.Free Jvm.LawKit
section New
variable {p : Program} {l : Launch} {e : Env} {R : Room} {s : State} {m : MethodId} {args : Array Value} {below : List Frame} {meth : Method} {c : Code} {T : State} {locs : List Loc} {cells slots : Nat}
theorem retI (X : Stand p l e R s m args below meth c T locs cells slots) (hx : p.tables.exec = Jvm.exec) {pc : Nat} {Ls : Array Slot} {z : Int32} {rest : List Value} (hret : meth.sig.returnType = some .int) (hd : decode c.code pc = .ok (.ireturn, 1)) {fs : List Frame}
    (hl : ∀ (f : JFrame) (acts : List Action), f.method = m → f.locked = none → f.entered = [] → (doReturn e (T.setTop f) acts (some (.int z))).1 = T.setFrames fs) : Steps p.tables e below (T.setTop (mkF m pc Ls (.int z :: rest))) (T.setFrames fs) := by
  have hm' : T.vm.method? m = some meth := X.method'
  have hn : narrow .int (.int z) = .int z := rfl
  show Steps p.tables e below (T.setTop { method := m, pc := pc, locals := Ls, stack := _ :: rest, locked := none }) _
  jvm_step X.here [X.here.top, hx, hd, hm', hret, hn]
  first | (intro acts; rw [hl _ acts rfl rfl rfl]) | rw [hl _ _ rfl rfl rfl]
  exact Steps.refl _
end New
end Jvm.RoadKit
namespace Jvm.Pilot.@@N@@
open Jvm Jvm.ClassFile Sem Op Lib Jvm.Free Jvm.Stand Jvm.LawKit Jvm.RoadKit Bundle Jvm.Pilot.@@N@@.Jvm.D
def own_AT (c : Cell) (n : Int32) (f : Int32 → Int32) : Prop := c.slots.size = n.toNatClampNeg ∧ ¬ n < 0 ∧ ∀ j : Int32, ¬ (j < 0 ∨ c.slots.size ≤ j.toNatClampNeg) → c.slots[j.toNatClampNeg]? = some (.int (f j))
def own_upd (f : Int32 → Int32) (k v : Int32) : Int32 → Int32 := fun j => if j = k then v else f j
theorem own_AT_set {c : Cell} {n : Int32} {f : Int32 → Int32} {k v : Int32} (H : own_AT c n f) (hk : ¬ (k < 0 ∨ c.slots.size ≤ k.toNatClampNeg)) : own_AT (c.setSlot k.toNatClampNeg (.int v)) n (own_upd f k v) := by
  obtain ⟨h1, h2, h3⟩ := H
  refine ⟨by rw [sz_set]; exact h1, h2, fun j hj => ?_⟩
  rw [sz_set] at hj
  by_cases e : j = k
  · rw [get_hit hk e]
    simp [own_upd, e]
  · rw [get_miss (fun q => hk (Or.inl q)) (fun q => hj (Or.inl q)) e, h3 j hj]
    simp [own_upd, e]
theorem own_AT_new {k : ClassId} {ty : FieldType} {n : Int32} (hd : defaultValue ty = .int 0) (hn : ¬ n < 0) : own_AT (newA k ty n) n (fun _ => 0) := by
  refine ⟨sz_new _ _ _, hn, fun j hj => ?_⟩
  rw [sz_new] at hj
  rw [get_new hj, hd]
def own_IQ (Z : State) (h : Heap) (n0 : Nat) (a it qu : Addr) (nb : Int32) (gi fq : Int32 → Int32) (hd sz : Int32) : Prop :=
  Exa Z h a "com/example/weftmap/weftmap/engine/place/IndexQueue" ∧ Fld Z h a "com/example/weftmap/weftmap/engine/place/IndexQueue" "items" "[I" (.ref it) ∧ Fld Z h a "com/example/weftmap/weftmap/engine/place/IndexQueue" "queued" "[Z" (.ref qu) ∧ Fld Z h a "com/example/weftmap/weftmap/engine/place/IndexQueue" "head" "I" (.int hd) ∧ Fld Z h a "com/example/weftmap/weftmap/engine/place/IndexQueue" "size" "I" (.int sz) ∧
  (∃ c : Cell, Arr Z h it c .int ∧ own_AT c 2 gi) ∧ (∃ c : Cell, Arr Z h qu c .boolean ∧ own_AT c nb fq) ∧ a ≠ it ∧ a ≠ qu ∧ it ≠ qu ∧ n0 ≤ a ∧ n0 ≤ it ∧ n0 ≤ qu
theorem own_n0 {Z : State} {h : Heap} {n0 : Nat} {a it qu : Addr} {nb : Int32} {gi fq : Int32 → Int32} {hd sz : Int32} (I : own_IQ Z h n0 a it qu nb gi fq hd sz) : n0 ≤ h.size := by
  obtain ⟨E, -, -, -, -, -, -, -, -, -, g, -, -⟩ := I
  exact Nat.le_of_lt (Nat.lt_of_le_of_lt g E.lt)
theorem own_nar1 : nar .boolean (1 : Int32) = 1 := by decide
theorem own_nar0 : nar .boolean (0 : Int32) = 0 := by decide
theorem own_nb (x : Int32) : 1 ≤ ((1 : Int32) + (x &&& (7 : Int32))).toInt ∧ ((1 : Int32) + (x &&& (7 : Int32))).toInt ≤ 8 := by
  have h1 : (1 : Int32).toInt = 1 := rfl
  have e1 : (x &&& 7).toInt = x.toInt % 2 ^ 3 := Jvm.Kit.i32_mask x 7 (k := 3) (by decide) (by decide)
  have e2 : ((1 : Int32) + (x &&& (7 : Int32))).toInt = 1 + (x &&& (7 : Int32)).toInt := by rw [Jvm.Kit.i32_add (by omega) (by omega), h1]
  omega
theorem own_in (x n : Int32) (hn : 1 ≤ n.toInt) : ¬ (((x &&& (2147483647 : Int32)) - ((x &&& (2147483647 : Int32)) / n) * n) < 0) ∧ ((x &&& (2147483647 : Int32)) - ((x &&& (2147483647 : Int32)) / n) * n) < n := by
  have h0 : (0 : Int32).toInt = 0 := rfl
  have e1 : (x &&& 2147483647).toInt = x.toInt % 2 ^ 31 := Jvm.Kit.i32_mask x 2147483647 (k := 31) (by decide) (by decide)
  rw [irem_eq_mod]
  generalize (x &&& (2147483647 : Int32)) = v at *
  have hv : 0 ≤ v.toInt := by omega
  have e2 : (v % n).toInt = v.toInt % n.toInt := Jvm.Kit.i32_rem_nonneg hv
  have b1 : 0 ≤ v.toInt % n.toInt := Int.emod_nonneg _ (by omega)
  have b2 : v.toInt % n.toInt < n.toInt := Int.emod_lt_of_pos _ (by omega)
  rw [Int32.lt_iff_toInt_lt, Int32.lt_iff_toInt_lt]
  omega
theorem d1_0 : decode prog_59_method_2_code 0 = .ok (.aload_n 0, 1) := by decide +kernel
theorem d1_1 : decode prog_59_method_2_code 1 = .ok (.invokespecial 7, 3) := by decide +kernel
theorem d1_4 : decode prog_59_method_2_code 4 = .ok (.aload_n 0, 1) := by decide +kernel
theorem d1_5 : decode prog_59_method_2_code 5 = .ok (.iload_n 1, 1) := by decide +kernel
theorem d1_6 : decode prog_59_method_2_code 6 = .ok (.newarray .int, 2) := by decide +kernel
theorem d1_8 : decode prog_59_method_2_code 8 = .ok (.putfield 12, 3) := by decide +kernel
theorem d1_11 : decode prog_59_method_2_code 11 = .ok (.aload_n 0, 1) := by decide +kernel
theorem d1_12 : decode prog_59_method_2_code 12 = .ok (.iload_n 2, 1) := by decide +kernel
theorem d1_13 : decode prog_59_method_2_code 13 = .ok (.newarray .boolean, 2) := by decide +kernel
theorem d1_15 : decode prog_59_method_2_code 15 = .ok (.putfield 16, 3) := by decide +kernel
theorem d1_18 : decode prog_59_method_2_code 18 = .ok (.return_, 1) := by decide +kernel
theorem pn_1 : plainName "com/example/weftmap/weftmap/engine/place/IndexQueue" = true := by first | (simp [plainName, overriddenIn]; done) | decide +kernel
theorem ef_1 (m : MethodId) (x0 : Addr) (x1 : Int32) (x2 : Int32) : entryFrame m #[(.ref x0), (.int x1), (.int x2)] 3 = mkF m 0 #[.val (.ref x0), .val (.int x1), .val (.int x2)] [] := by first | (simp [entryFrame, mkF, argsToLocals, Value.category]; done) | rfl
def Q1 (Z : State) (a1 : Addr) (p3 : Int32) (u_items_a1 : Value) (u_queued_a1 : Value) (h0 : Heap) (n0 : Nat) (v : Option Value) (h : Heap) (L : List Loc) : Prop := v = none ∧ Fr n0 L ∧ ∃ it qu : Addr, own_IQ Z h n0 a1 it qu p3 (fun _ => 0) (fun _ => 0) 0 0
set_option maxRecDepth 65536 in
set_option maxHeartbeats 40000000 in
theorem rm1 (l : Launch) (Z : State) (a0 : Array Value) (hw : ∀ d ∈ tables_1, d.before a0 Z = true) (ws : List Jvm.Cond) (a1 : Addr) (p3 : Int32) (u_items_a1 : Value) (u_queued_a1 : Value) (h0 : Heap) (n0 : Nat) (Z0 : n0 ≤ h0.size) (E_a1 : Exa Z h0 a1 "com/example/weftmap/weftmap/engine/place/IndexQueue") (F_items_a1 : Fld Z h0 a1 "com/example/weftmap/weftmap/engine/place/IndexQueue" "items" "[I" u_items_a1) (g_a1 : n0 ≤ a1) (F_queued_a1 : Fld Z h0 a1 "com/example/weftmap/weftmap/engine/place/IndexQueue" "queued" "[Z" u_queued_a1) (F_head_a1 : Fld Z h0 a1 "com/example/weftmap/weftmap/engine/place/IndexQueue" "head" "I" (.int (0 : Int32))) (F_size_a1 : Fld Z h0 a1 "com/example/weftmap/weftmap/engine/place/IndexQueue" "size" "I" (.int (0 : Int32))) (hn3 : ¬ p3 < 0) (hcap3 : p3.toNatClampNeg ≤ 8) :
    MetFree l (⟨"com/example/weftmap/weftmap/engine/place/IndexQueue", "<init>", "(II)V"⟩ : MethodName) (head1 (Jvm.Cond.code (⟨"com/example/weftmap/weftmap/engine/place/IndexQueue", "<init>", "(II)V"⟩ : MethodName) prog_59_method_2_code 3 none :: ws) ({ frames := 1, cells := 2, slots := 10, locals := 12 } : Room)) (fun a U => a = #[(.ref a1), (.int (2 : Int32)), (.int p3)] ∧ Z.Warmed39 U.vm ∧ U.heap = h0) (fun _ _ _ _ _ => True) (fun _ U o U' => ∃ v L, o = .returned v ∧ Q1 Z a1 p3 u_items_a1 u_queued_a1 h0 n0 v U'.heap L ∧ FrameEnd U o U' L ({ frames := 1, cells := 2, slots := 10, locals := 12 } : Room).cells ({ frames := 1, cells := 2, slots := 10, locals := 12 } : Room).slots) := by
  refine MetFree.of_bodySF (plainFor_of_name pn_1) hisR ?_
  intro p e s m args below meth c s₁ Bd hml0 hP hK
  obtain ⟨rfl, hZ, hh⟩ := hP
  have hx := Bd.exec
  have hby := Bd.bytes
  have hml : c.maxLocals = 3 := hml0
  have hown : s.vm.findClass "com/example/weftmap/weftmap/engine/place/IndexQueue" = some m.cls := findClass_of_methodNamed Bd.named
  have hnm := (name_of_methodNamed Bd.named Bd.method).1
  have X0 : Stand p l e ({ frames := 1, cells := 2, slots := 10, locals := 12 } : Room) s m #[(.ref a1), (.int (2 : Int32)), (.int p3)] below meth c s₁ [] 0 0 := Stand.of_body Bd
  have e0 : s₁.heap = h0 := by rw [← hh, Bd.state]; rfl
  have N0 := Fr.nil n0
  have pre0 : ∀ t, Steps p.tables e below (s₁.setTop (mkF m 0 #[.val (.ref a1), .val (.int (2 : Int32)), .val (.int p3)] [])) t → Steps p.tables e below (s₁.setTop (entryFrame m #[(.ref a1), (.int (2 : Int32)), (.int p3)] 3)) t := fun t k => castTop (ef_1 m a1 (2 : Int32) p3) k
  -- 3. LAWS
  obtain ⟨T4, X4, e4, st4⟩ := initO X0 hx hZ hown (hw _ (List.mem_of_getElem? (i := 7) rfl)) (hw _ (List.mem_of_getElem? (i := 8) rfl)) (hw _ (List.mem_of_getElem? (i := 9) rfl)) e0 (g := (mkF m 1 #[.val (.ref a1), .val (.int (2 : Int32)), .val (.int p3)] [(.ref a1)])) rfl (by rw [hml]; rfl) rfl (hb hby d1_1) (by decide) (W := 0) (by show 2 * 0 + _ ≤ _; exact Nat.le_of_eq rfl) (by decide)
  obtain ⟨T5, h5, k5, X5, e5, E5, A5, st5⟩ := newP X4 hx hZ (hw _ (List.mem_of_getElem? (i := 10) rfl)) e4 (g := (mkF m 6 #[.val (.ref a1), .val (.int (2 : Int32)), .val (.int p3)] [(.int (2 : Int32)), (.ref a1)])) rfl (hb hby d1_6) rfl (by decide) (cap := 2) (by decide) (by decide) (by decide) (by decide)
  obtain ⟨b5, g5⟩ : ∃ z, z = h0.size := ⟨_, rfl⟩      -- the fresh array's address
  rw [← g5] at A5 st5
  have g_b5 : n0 ≤ b5 := Nat.le_trans Z0 (Nat.le_of_eq g5.symm)
  have sz_b5 : h0.size ≤ b5 := (Nat.le_trans (Keep.refl h0 [a1]).1 (Nat.le_of_eq g5.symm))
  have K5 : Keep h0 h5 [a1] := (Keep.refl h0 [a1]).ext E5
  obtain ⟨T6, h6, X6, e6, W6, st6⟩ := putF X5 hx hZ hown (host := "") (Or.inl (hw _ (List.mem_of_getElem? (i := 11) rfl))) Via.refl e5 (F_items_a1.ext E5) (E_a1.ext E5) (Or.inr ⟨(hw _ (List.mem_of_getElem? (i := 12) rfl)), rfl, hnm⟩) (hw _ (List.mem_of_getElem? (i := 2) rfl)) (ty := (.array .int)) (by decide) rfl rfl (g := (mkF m 8 #[.val (.ref a1), .val (.int (2 : Int32)), .val (.int p3)] [(.ref b5), (.ref a1)])) rfl rfl (hb hby d1_8)
  have Fw6 := (F_items_a1.ext E5).same W6      -- the field now holds (.ref b5)
  have K6 : Keep h0 h6 [a1] := K5.wr W6 (Or.inl (List.mem_of_getElem? (i := 0) rfl))
  have N6 := Fr.snoc X6 N0 g_a1
  obtain ⟨T7, h7, k7, X7, e7, E7, A7, st7⟩ := newP X6 hx hZ (hw _ (List.mem_of_getElem? (i := 13) rfl)) e6 (g := (mkF m 13 #[.val (.ref a1), .val (.int (2 : Int32)), .val (.int p3)] [(.int p3), (.ref a1)])) rfl (hb hby d1_13) rfl hn3 (cap := 8) hcap3 (by decide) (by decide) (by decide)
  obtain ⟨b7, g7⟩ : ∃ z, z = h6.size := ⟨_, rfl⟩      -- the fresh array's address
  rw [← g7] at A7 st7
  have g_b7 : n0 ≤ b7 := Nat.le_trans (Nat.le_trans (Nat.le_trans Z0 E5.1) (Keep.of_wr W6).1) (Nat.le_of_eq g7.symm)
  have sz_b7 : h0.size ≤ b7 := (Nat.le_trans K6.1 (Nat.le_of_eq g7.symm))
  have K7 : Keep h0 h7 [a1] := K6.ext E7
  obtain ⟨T8, h8, X8, e8, W8, st8⟩ := putF X7 hx hZ hown (host := "") (Or.inl (hw _ (List.mem_of_getElem? (i := 14) rfl))) Via.refl e7 (((F_queued_a1.ext E5).other W6 (Or.inr (slot_ne (Or.inr (hw _ (List.mem_of_getElem? (i := 15) rfl))) (Or.inr (hw _ (List.mem_of_getElem? (i := 12) rfl))) (by decide) (t := (.array .boolean)) (t' := (.array .int)) (by decide) (by decide)))).ext E7) (((E_a1.ext E5).wr W6).ext E7) (Or.inr ⟨(hw _ (List.mem_of_getElem? (i := 15) rfl)), rfl, hnm⟩) (hw _ (List.mem_of_getElem? (i := 2) rfl)) (ty := (.array .boolean)) (by decide) rfl rfl (g := (mkF m 15 #[.val (.ref a1), .val (.int (2 : Int32)), .val (.int p3)] [(.ref b7), (.ref a1)])) rfl rfl (hb hby d1_15)
  have Fw8 := (((F_queued_a1.ext E5).other W6 (Or.inr (slot_ne (Or.inr (hw _ (List.mem_of_getElem? (i := 15) rfl))) (Or.inr (hw _ (List.mem_of_getElem? (i := 12) rfl))) (by decide) (t := (.array .boolean)) (t' := (.array .int)) (by decide) (by decide)))).ext E7).same W8      -- the field now holds (.ref b7)
  have K8 : Keep h0 h8 [a1] := K7.wr W8 (Or.inl (List.mem_of_getElem? (i := 0) rfl))
  have N8 := Fr.snoc X8 N6 g_a1
  obtain ⟨fs, hr, hrun, hended, hW, hsame⟩ := X8.leave (v := none) (fun _ => rfl)
  refine ⟨_, _, pre0 _ ?_, hrun, hended, _, _, rfl, ?_, ⟨_, rfl⟩, hW, hsame.mono (by decide) (by decide)⟩
  -- 4. STEPS
  · show Steps p.tables e below (s₁.setTop (mkF m 0 #[.val (.ref a1), .val (.int (2 : Int32)), .val (.int p3)] [])) _
    refine XS.aloadN X0.here hx rfl (hb hby d1_0) rfl rfl ?_
    show Steps p.tables e below (s₁.setTop (mkF m 1 #[.val (.ref a1), .val (.int (2 : Int32)), .val (.int p3)] [(.ref a1)])) _
    refine st4 _ ?_
    show Steps p.tables e below (T4.setTop (mkF m 4 #[.val (.ref a1), .val (.int (2 : Int32)), .val (.int p3)] [])) _
    refine XS.aloadN X4.here hx rfl (hb hby d1_4) rfl rfl ?_
    show Steps p.tables e below (T4.setTop (mkF m 5 #[.val (.ref a1), .val (.int (2 : Int32)), .val (.int p3)] [(.ref a1)])) _
    refine XS.iloadN X4.here hx rfl (hb hby d1_5) rfl ?_
    show Steps p.tables e below (T4.setTop (mkF m 6 #[.val (.ref a1), .val (.int (2 : Int32)), .val (.int p3)] [(.int (2 : Int32)), (.ref a1)])) _
    refine st5 _ ?_
    show Steps p.tables e below (T5.setTop (mkF m 8 #[.val (.ref a1), .val (.int (2 : Int32)), .val (.int p3)] [(.ref b5), (.ref a1)])) _
    refine st6 _ ?_
    show Steps p.tables e below (T6.setTop (mkF m 11 #[.val (.ref a1), .val (.int (2 : Int32)), .val (.int p3)] [])) _
    refine XS.aloadN X6.here hx rfl (hb hby d1_11) rfl rfl ?_
    show Steps p.tables e below (T6.setTop (mkF m 12 #[.val (.ref a1), .val (.int (2 : Int32)), .val (.int p3)] [(.ref a1)])) _
    refine XS.iloadN X6.here hx rfl (hb hby d1_12) rfl ?_
    show Steps p.tables e below (T6.setTop (mkF m 13 #[.val (.ref a1), .val (.int (2 : Int32)), .val (.int p3)] [(.int p3), (.ref a1)])) _
    refine st7 _ ?_
    show Steps p.tables e below (T7.setTop (mkF m 15 #[.val (.ref a1), .val (.int (2 : Int32)), .val (.int p3)] [(.ref b7), (.ref a1)])) _
    refine st8 _ ?_
    show Steps p.tables e below (T8.setTop (mkF m 18 #[.val (.ref a1), .val (.int (2 : Int32)), .val (.int p3)] [])) _
    exact X8.returnOut hx Bd.returns (hb hby d1_18) hr
  · show Q1 Z _ _ _ _ h0 n0 _ T8.heap _
    rw [e8]
    have nei : a1 ≠ b5 := Nat.ne_of_lt (Nat.lt_of_lt_of_le E_a1.lt (Nat.le_of_eq g5.symm))
    have neq : a1 ≠ b7 := Nat.ne_of_lt (Nat.lt_of_lt_of_le ((E_a1.ext E5).wr W6).lt (Nat.le_of_eq g7.symm))
    have Ai := A5.other W6 (Ne.symm nei)
    have niq : b5 ≠ b7 := Nat.ne_of_lt (Nat.lt_of_lt_of_le Ai.lt (Nat.le_of_eq g7.symm))
    refine ⟨rfl, N8, b5, b7, ((((E_a1.ext E5).wr W6).ext E7).wr W8), (Fw6.ext E7).other W8 (Or.inr (slot_ne (Or.inr (hw _ (List.mem_of_getElem? (i := 12) rfl))) (Or.inr (hw _ (List.mem_of_getElem? (i := 15) rfl))) (by decide) (t := (.array .int)) (t' := (.array .boolean)) (by decide) (by decide))), Fw8, (((F_head_a1.ext E5).other W6 (Or.inr (slot_ne (Or.inl (hw _ (List.mem_of_getElem? (i := 22) rfl))) (Or.inr (hw _ (List.mem_of_getElem? (i := 12) rfl))) (by decide) (t := .int) (t' := (.array .int)) (by decide) (by decide)))).ext E7).other W8 (Or.inr (slot_ne (Or.inl (hw _ (List.mem_of_getElem? (i := 22) rfl))) (Or.inr (hw _ (List.mem_of_getElem? (i := 15) rfl))) (by decide) (t := .int) (t' := (.array .boolean)) (by decide) (by decide))), (((F_size_a1.ext E5).other W6 (Or.inr (slot_ne (Or.inl (hw _ (List.mem_of_getElem? (i := 24) rfl))) (Or.inr (hw _ (List.mem_of_getElem? (i := 12) rfl))) (by decide) (t := .int) (t' := (.array .int)) (by decide) (by decide)))).ext E7).other W8 (Or.inr (slot_ne (Or.inl (hw _ (List.mem_of_getElem? (i := 24) rfl))) (Or.inr (hw _ (List.mem_of_getElem? (i := 15) rfl))) (by decide) (t := .int) (t' := (.array .boolean)) (by decide) (by decide))), ⟨_, (Ai.ext E7).other W8 (Ne.symm nei), own_AT_new rfl (by decide)⟩, ⟨_, A7.other W8 (Ne.symm neq), own_AT_new rfl hn3⟩, nei, neq, niq, g_a1, g_b5, g_b7⟩
theorem d3_0 : decode prog_59_method_4_code 0 = .ok (.aload_n 0, 1) := by decide +kernel
theorem d3_1 : decode prog_59_method_4_code 1 = .ok (.getfield 16, 3) := by decide +kernel
theorem d3_4 : decode prog_59_method_4_code 4 = .ok (.iload_n 1, 1) := by decide +kernel
theorem d3_5 : decode prog_59_method_4_code 5 = .ok (.baload, 1) := by decide +kernel
theorem d3_6 : decode prog_59_method_4_code 6 = .ok (.ifCond .ne 56, 3) := by decide +kernel
theorem d3_62 : decode prog_59_method_4_code 62 = .ok (.return_, 1) := by decide +kernel
theorem pn_3 : plainName "com/example/weftmap/weftmap/engine/place/IndexQueue" = true := by first | (simp [plainName, overriddenIn]; done) | decide +kernel
theorem ef_3 (m : MethodId) (x0 : Addr) (x1 : Int32) : entryFrame m #[(.ref x0), (.int x1)] 3 = mkF m 0 #[.val (.ref x0), .val (.int x1), .unset] [] := by first | (simp [entryFrame, mkF, argsToLocals, Value.category]; done) | rfl
def Q3q (Z : State) (a1 : Addr) (p2 : Int32) (it : Addr) (qu : Addr) (nb : Int32) (gi : Int32 → Int32) (fq : Int32 → Int32) (hd : Int32) (sz : Int32) (h0 : Heap) (n0 : Nat) (v : Option Value) (h : Heap) (L : List Loc) : Prop := v = none ∧ Fr n0 L ∧ h = h0
set_option maxRecDepth 65536 in
set_option maxHeartbeats 40000000 in
theorem rm3q (l : Launch) (Z : State) (a0 : Array Value) (hw : ∀ d ∈ tables_1, d.before a0 Z = true) (ws : List Jvm.Cond) (a1 : Addr) (p2 : Int32) (it : Addr) (qu : Addr) (nb : Int32) (gi : Int32 → Int32) (fq : Int32 → Int32) (hd : Int32) (sz : Int32) (h0 : Heap) (n0 : Nat) (Z0 : n0 ≤ h0.size) (I0 : own_IQ Z h0 n0 a1 it qu nb gi fq hd sz) (hp : ¬ p2 < 0 ∧ p2 < nb) (hc6 : ¬ ((fq p2) = (0 : Int32))) :
    MetFree l (⟨"com/example/weftmap/weftmap/engine/place/IndexQueue", "add", "(I)V"⟩ : MethodName) (head1 (Jvm.Cond.code (⟨"com/example/weftmap/weftmap/engine/place/IndexQueue", "add", "(I)V"⟩ : MethodName) prog_59_method_4_code 3 none :: ws) ({ frames := 0, cells := 0, slots := 0, locals := 0 } : Room)) (fun a U => a = #[(.ref a1), (.int p2)] ∧ Z.Warmed39 U.vm ∧ U.heap = h0) (fun _ _ _ _ _ => True) (fun _ U o U' => ∃ v L, o = .returned v ∧ Q3q Z a1 p2 it qu nb gi fq hd sz h0 n0 v U'.heap L ∧ FrameEnd U o U' L ({ frames := 0, cells := 0, slots := 0, locals := 0 } : Room).cells ({ frames := 0, cells := 0, slots := 0, locals := 0 } : Room).slots) := by
  refine MetFree.of_bodySF (plainFor_of_name pn_3) hisR ?_
  intro p e s m args below meth c s₁ Bd hml0 hP hK
  obtain ⟨rfl, hZ, hh⟩ := hP
  obtain ⟨E_a1, F_items_a1, F_queued_a1, F_head_a1, F_size_a1, ⟨cl_it, Ar_it, S_it, N_it, V_it⟩, ⟨cl_qu, Ar_qu, S_qu, N_qu, V_qu⟩, nei, neq, niq, g_a1, g_it, g_qu⟩ := I0
  have hin5 : ¬ (p2 < 0 ∨ cl_qu.slots.size ≤ (p2).toNatClampNeg) := inb_of S_qu hp
  have hat5 := V_qu p2 hin5
  have hx := Bd.exec
  have hby := Bd.bytes
  have hml : c.maxLocals = 3 := hml0
  have hown : s.vm.findClass "com/example/weftmap/weftmap/engine/place/IndexQueue" = some m.cls := findClass_of_methodNamed Bd.named
  have hnm := (name_of_methodNamed Bd.named Bd.method).1
  have X0 : Stand p l e ({ frames := 0, cells := 0, slots := 0, locals := 0 } : Room) s m #[(.ref a1), (.int p2)] below meth c s₁ [] 0 0 := Stand.of_body Bd
  have e0 : s₁.heap = h0 := by rw [← hh, Bd.state]; rfl
  have N0 := Fr.nil n0
  have pre0 : ∀ t, Steps p.tables e below (s₁.setTop (mkF m 0 #[.val (.ref a1), .val (.int p2), .unset] [])) t → Steps p.tables e below (s₁.setTop (entryFrame m #[(.ref a1), (.int p2)] 3)) t := fun t k => castTop (ef_3 m a1 p2) k
  -- 3. LAWS
  obtain ⟨T4, X4, e4, st4⟩ := getF X0 hx hZ hown (host := "") (Or.inl (hw _ (List.mem_of_getElem? (i := 14) rfl))) Via.refl e0 F_queued_a1 (g := (mkF m 1 #[.val (.ref a1), .val (.int p2), .unset] [(.ref a1)])) rfl rfl (hb hby d3_1)
  obtain ⟨fs, hr, hrun, hended, hW, hsame⟩ := X4.leave (v := none) (fun _ => rfl)
  refine ⟨_, _, pre0 _ ?_, hrun, hended, _, _, rfl, ?_, ⟨_, rfl⟩, hW, hsame.mono (by decide) (by decide)⟩
  -- 4. STEPS
  · show Steps p.tables e below (s₁.setTop (mkF m 0 #[.val (.ref a1), .val (.int p2), .unset] [])) _
    refine XS.aloadN X0.here hx rfl (hb hby d3_0) rfl rfl ?_
    show Steps p.tables e below (s₁.setTop (mkF m 1 #[.val (.ref a1), .val (.int p2), .unset] [(.ref a1)])) _
    refine st4 _ ?_
    show Steps p.tables e below (T4.setTop (mkF m 4 #[.val (.ref a1), .val (.int p2), .unset] [(.ref qu)])) _
    refine XS.iloadN X4.here hx rfl (hb hby d3_4) rfl ?_
    show Steps p.tables e below (T4.setTop (mkF m 5 #[.val (.ref a1), .val (.int p2), .unset] [(.int p2), (.ref qu)])) _
    refine X4.baloadBooleans hx (j := p2) (v := (.int (fq p2))) (by rw [e4]; exact Ar_qu.1) (State.isArrayOf_alike hZ.alike Ar_qu.2.1) Ar_qu.2.2 hin5 hat5 (g := (mkF m 5 #[.val (.ref a1), .val (.int p2), .unset] [(.int p2), (.ref qu)])) rfl rfl (hb hby d3_5) _ ?_
    show Steps p.tables e below (T4.setTop (mkF m 6 #[.val (.ref a1), .val (.int p2), .unset] [(.int (fq p2))])) _
    refine XS.ifYes X4.here hx rfl (pc0 := 6) (pc' := 62) rfl (hb hby d3_6) rfl ((if0 _ _).trans (feq hc6).2) (by decide) (by decide) ?_
    show Steps p.tables e below (T4.setTop (mkF m 62 #[.val (.ref a1), .val (.int p2), .unset] [])) _
    exact X4.returnOut hx Bd.returns (hb hby d3_62) hr
  · show Q3q Z _ _ _ _ _ _ _ _ _ h0 n0 _ T4.heap _
    rw [e4]
    exact ⟨rfl, N0, rfl⟩
theorem d3_9 : decode prog_59_method_4_code 9 = .ok (.aload_n 0, 1) := by decide +kernel
theorem d3_10 : decode prog_59_method_4_code 10 = .ok (.getfield 16, 3) := by decide +kernel
theorem d3_13 : decode prog_59_method_4_code 13 = .ok (.iload_n 1, 1) := by decide +kernel
theorem d3_14 : decode prog_59_method_4_code 14 = .ok (.iconst 1, 1) := by decide +kernel
theorem d3_15 : decode prog_59_method_4_code 15 = .ok (.bastore, 1) := by decide +kernel
theorem d3_16 : decode prog_59_method_4_code 16 = .ok (.aload_n 0, 1) := by decide +kernel
theorem d3_17 : decode prog_59_method_4_code 17 = .ok (.getfield 24, 3) := by decide +kernel
theorem d3_20 : decode prog_59_method_4_code 20 = .ok (.aload_n 0, 1) := by decide +kernel
theorem d3_21 : decode prog_59_method_4_code 21 = .ok (.getfield 20, 3) := by decide +kernel
theorem d3_24 : decode prog_59_method_4_code 24 = .ok (.iadd, 1) := by decide +kernel
theorem d3_25 : decode prog_59_method_4_code 25 = .ok (.istore_n 2, 1) := by decide +kernel
theorem d3_26 : decode prog_59_method_4_code 26 = .ok (.aload_n 0, 1) := by decide +kernel
theorem d3_27 : decode prog_59_method_4_code 27 = .ok (.getfield 12, 3) := by decide +kernel
theorem d3_30 : decode prog_59_method_4_code 30 = .ok (.iload_n 2, 1) := by decide +kernel
theorem d3_31 : decode prog_59_method_4_code 31 = .ok (.aload_n 0, 1) := by decide +kernel
theorem d3_32 : decode prog_59_method_4_code 32 = .ok (.getfield 12, 3) := by decide +kernel
theorem d3_35 : decode prog_59_method_4_code 35 = .ok (.arraylength, 1) := by decide +kernel
theorem d3_36 : decode prog_59_method_4_code 36 = .ok (.if_icmp .ge 7, 3) := by decide +kernel
theorem d3_39 : decode prog_59_method_4_code 39 = .ok (.iload_n 2, 1) := by decide +kernel
theorem d3_40 : decode prog_59_method_4_code 40 = .ok (.goto 10, 3) := by decide +kernel
theorem d3_50 : decode prog_59_method_4_code 50 = .ok (.iload_n 1, 1) := by decide +kernel
theorem d3_51 : decode prog_59_method_4_code 51 = .ok (.iastore, 1) := by decide +kernel
theorem d3_52 : decode prog_59_method_4_code 52 = .ok (.aload_n 0, 1) := by decide +kernel
theorem d3_53 : decode prog_59_method_4_code 53 = .ok (.dup, 1) := by decide +kernel
theorem d3_54 : decode prog_59_method_4_code 54 = .ok (.getfield 20, 3) := by decide +kernel
theorem d3_57 : decode prog_59_method_4_code 57 = .ok (.iconst 1, 1) := by decide +kernel
theorem d3_58 : decode prog_59_method_4_code 58 = .ok (.iadd, 1) := by decide +kernel
theorem d3_59 : decode prog_59_method_4_code 59 = .ok (.putfield 20, 3) := by decide +kernel
def Q3a (Z : State) (a1 : Addr) (p2 : Int32) (it : Addr) (qu : Addr) (nb : Int32) (gi : Int32 → Int32) (fq : Int32 → Int32) (hd : Int32) (sz : Int32) (ix : Int32) (sz' : Int32) (h0 : Heap) (n0 : Nat) (v : Option Value) (h : Heap) (L : List Loc) : Prop := v = none ∧ Fr n0 L ∧ own_IQ Z h n0 a1 it qu nb (own_upd gi ix p2) (own_upd fq p2 1) hd sz'
set_option maxRecDepth 65536 in
set_option maxHeartbeats 40000000 in
theorem rm3a (l : Launch) (Z : State) (a0 : Array Value) (hw : ∀ d ∈ tables_1, d.before a0 Z = true) (ws : List Jvm.Cond) (a1 : Addr) (p2 : Int32) (it : Addr) (qu : Addr) (nb : Int32) (gi : Int32 → Int32) (fq : Int32 → Int32) (hd : Int32) (sz : Int32) (ix : Int32) (sz' : Int32) (h0 : Heap) (n0 : Nat) (Z0 : n0 ≤ h0.size) (I0 : own_IQ Z h0 n0 a1 it qu nb gi fq hd sz) (hp : ¬ p2 < 0 ∧ p2 < nb) (hc6 : (fq p2) = (0 : Int32)) (hix : (hd + sz) = ix) (hsz : (sz + (1 : Int32)) = sz') (hidx : ¬ ix < 0 ∧ ix < 2) (hc36 : (hd + sz) < (2 : Int32)) :
    MetFree l (⟨"com/example/weftmap/weftmap/engine/place/IndexQueue", "add", "(I)V"⟩ : MethodName) (head1 (Jvm.Cond.code (⟨"com/example/weftmap/weftmap/engine/place/IndexQueue", "add", "(I)V"⟩ : MethodName) prog_59_method_4_code 3 none :: ws) ({ frames := 0, cells := 0, slots := 0, locals := 0 } : Room)) (fun a U => a = #[(.ref a1), (.int p2)] ∧ Z.Warmed39 U.vm ∧ U.heap = h0) (fun _ _ _ _ _ => True) (fun _ U o U' => ∃ v L, o = .returned v ∧ Q3a Z a1 p2 it qu nb gi fq hd sz ix sz' h0 n0 v U'.heap L ∧ FrameEnd U o U' L ({ frames := 0, cells := 0, slots := 0, locals := 0 } : Room).cells ({ frames := 0, cells := 0, slots := 0, locals := 0 } : Room).slots) := by
  refine MetFree.of_bodySF (plainFor_of_name pn_3) hisR ?_
  intro p e s m args below meth c s₁ Bd hml0 hP hK
  obtain ⟨rfl, hZ, hh⟩ := hP
  subst hix hsz
  obtain ⟨E_a1, F_items_a1, F_queued_a1, F_head_a1, F_size_a1, ⟨cl_it, Ar_it, S_it, N_it, V_it⟩, ⟨cl_qu, Ar_qu, S_qu, N_qu, V_qu⟩, nei, neq, niq, g_a1, g_it, g_qu⟩ := I0
  have hin5 : ¬ (p2 < 0 ∨ cl_qu.slots.size ≤ (p2).toNatClampNeg) := inb_of S_qu hp
  have hat5 := V_qu p2 hin5
  have hin15 := hin5
  have hin51 : ¬ ((hd + sz) < 0 ∨ cl_it.slots.size ≤ ((hd + sz)).toNatClampNeg) := inb_of S_it hidx
  have hx := Bd.exec
  have hby := Bd.bytes
  have hml : c.maxLocals = 3 := hml0
  have hown : s.vm.findClass "com/example/weftmap/weftmap/engine/place/IndexQueue" = some m.cls := findClass_of_methodNamed Bd.named
  have hnm := (name_of_methodNamed Bd.named Bd.method).1
  have X0 : Stand p l e ({ frames := 0, cells := 0, slots := 0, locals := 0 } : Room) s m #[(.ref a1), (.int p2)] below meth c s₁ [] 0 0 := Stand.of_body Bd
  have e0 : s₁.heap = h0 := by rw [← hh, Bd.state]; rfl
  have N0 := Fr.nil n0
  have pre0 : ∀ t, Steps p.tables e below (s₁.setTop (mkF m 0 #[.val (.ref a1), .val (.int p2), .unset] [])) t → Steps p.tables e below (s₁.setTop (entryFrame m #[(.ref a1), (.int p2)] 3)) t := fun t k => castTop (ef_3 m a1 p2) k
  -- 3. LAWS
  obtain ⟨T4, X4, e4, st4⟩ := getF X0 hx hZ hown (host := "") (Or.inl (hw _ (List.mem_of_getElem? (i := 14) rfl))) Via.refl e0 F_queued_a1 (g := (mkF m 1 #[.val (.ref a1), .val (.int p2), .unset] [(.ref a1)])) rfl rfl (hb hby d3_1)
  obtain ⟨T6, X6, e6, st6⟩ := getF X4 hx hZ hown (host := "") (Or.inl (hw _ (List.mem_of_getElem? (i := 14) rfl))) Via.refl e4 F_queued_a1 (g := (mkF m 10 #[.val (.ref a1), .val (.int p2), .unset] [(.ref a1)])) rfl rfl (hb hby d3_10)
  obtain ⟨T7, h7, X7, e7, W7, st7⟩ := stZ X6 hx hZ e6 Ar_qu (j := p2) hin15 (g := (mkF m 15 #[.val (.ref a1), .val (.int p2), .unset] [(.int (1 : Int32)), (.int p2), (.ref qu)])) rfl rfl (hb hby d3_15)
  rw [own_nar1] at W7
  have Ar_itb := Ar_it.other W7 niq
  have N7 := Fr.snoc X7 N0 g_qu
  -- Ar_qu.same W7 : the array with (.int (1 : Int32)) at the place p2
  have K7 : Keep h0 h7 [qu, it, a1] := (Keep.refl h0 [qu, it, a1]).wr W7 (Or.inl (List.mem_of_getElem? (i := 0) rfl))
  obtain ⟨T9, X9, e9, st9⟩ := getF X7 hx hZ hown (host := "") (Or.inl (hw _ (List.mem_of_getElem? (i := 21) rfl))) Via.refl e7 (F_head_a1.other W7 (Or.inl neq)) (g := (mkF m 17 #[.val (.ref a1), .val (.int p2), .unset] [(.ref a1)])) rfl rfl (hb hby d3_17)
  obtain ⟨T11, X11, e11, st11⟩ := getF X9 hx hZ hown (host := "") (Or.inl (hw _ (List.mem_of_getElem? (i := 23) rfl))) Via.refl e9 (F_size_a1.other W7 (Or.inl neq)) (g := (mkF m 21 #[.val (.ref a1), .val (.int p2), .unset] [(.ref a1), (.int hd)])) rfl rfl (hb hby d3_21)
  obtain ⟨T13, X13, e13, st13⟩ := getF X11 hx hZ hown (host := "") (Or.inl (hw _ (List.mem_of_getElem? (i := 11) rfl))) Via.refl e11 (F_items_a1.other W7 (Or.inl neq)) (g := (mkF m 27 #[.val (.ref a1), .val (.int p2), .val (.int (hd + sz))] [(.ref a1)])) rfl rfl (hb hby d3_27)
  obtain ⟨T14, X14, e14, st14⟩ := getF X13 hx hZ hown (host := "") (Or.inl (hw _ (List.mem_of_getElem? (i := 11) rfl))) Via.refl e13 (F_items_a1.other W7 (Or.inl neq)) (g := (mkF m 32 #[.val (.ref a1), .val (.int p2), .val (.int (hd + sz))] [(.ref a1), (.int (hd + sz)), (.ref it)])) rfl rfl (hb hby d3_32)
  obtain ⟨T15, h15, X15, e15, W15, st15⟩ := stI X14 hx hZ e14 Ar_itb (j := (hd + sz)) hin51 (g := (mkF m 51 #[.val (.ref a1), .val (.int p2), .val (.int (hd + sz))] [(.int p2), (.int (hd + sz)), (.ref it)])) rfl rfl (hb hby d3_51)
  have N15 := Fr.snoc X15 N7 g_it
  -- Ar_itb.same W15 : the array with (.int p2) at the place (hd + sz)
  have K15 : Keep h0 h15 [qu, it, a1] := K7.wr W15 (Or.inl (List.mem_of_getElem? (i := 1) rfl))
  obtain ⟨T16, X16, e16, st16⟩ := getF X15 hx hZ hown (host := "") (Or.inl (hw _ (List.mem_of_getElem? (i := 23) rfl))) Via.refl e15 ((F_size_a1.other W7 (Or.inl neq)).other W15 (Or.inl nei)) (g := (mkF m 54 #[.val (.ref a1), .val (.int p2), .val (.int (hd + sz))] [(.ref a1), (.ref a1)])) rfl rfl (hb hby d3_54)
  obtain ⟨T17, h17, X17, e17, W17, st17⟩ := putF X16 hx hZ hown (host := "") (Or.inl (hw _ (List.mem_of_getElem? (i := 23) rfl))) Via.refl e16 ((F_size_a1.other W7 (Or.inl neq)).other W15 (Or.inl nei)) ((E_a1.wr W7).wr W15) (Or.inl (hw _ (List.mem_of_getElem? (i := 24) rfl))) (hw _ (List.mem_of_getElem? (i := 2) rfl)) (ty := .int) (by decide) rfl rfl (g := (mkF m 59 #[.val (.ref a1), .val (.int p2), .val (.int (hd + sz))] [(.int (sz + (1 : Int32))), (.ref a1)])) rfl rfl (hb hby d3_59)
  have Fw17 := ((F_size_a1.other W7 (Or.inl neq)).other W15 (Or.inl nei)).same W17      -- the field now holds (.int (sz + (1 : Int32)))
  have K17 : Keep h0 h17 [qu, it, a1] := K15.wr W17 (Or.inl (List.mem_of_getElem? (i := 2) rfl))
  have N17 := Fr.snoc X17 N15 g_a1
  obtain ⟨fs, hr, hrun, hended, hW, hsame⟩ := X17.leave (v := none) (fun _ => rfl)
  refine ⟨_, _, pre0 _ ?_, hrun, hended, _, _, rfl, ?_, ⟨_, rfl⟩, hW, hsame.mono (by decide) (by decide)⟩
  -- 4. STEPS
  · show Steps p.tables e below (s₁.setTop (mkF m 0 #[.val (.ref a1), .val (.int p2), .unset] [])) _
    refine XS.aloadN X0.here hx rfl (hb hby d3_0) rfl rfl ?_
    show Steps p.tables e below (s₁.setTop (mkF m 1 #[.val (.ref a1), .val (.int p2), .unset] [(.ref a1)])) _
    refine st4 _ ?_
    show Steps p.tables e below (T4.setTop (mkF m 4 #[.val (.ref a1), .val (.int p2), .unset] [(.ref qu)])) _
    refine XS.iloadN X4.here hx rfl (hb hby d3_4) rfl ?_
    show Steps p.tables e below (T4.setTop (mkF m 5 #[.val (.ref a1), .val (.int p2), .unset] [(.int p2), (.ref qu)])) _
    refine X4.baloadBooleans hx (j := p2) (v := (.int (fq p2))) (by rw [e4]; exact Ar_qu.1) (State.isArrayOf_alike hZ.alike Ar_qu.2.1) Ar_qu.2.2 hin5 hat5 (g := (mkF m 5 #[.val (.ref a1), .val (.int p2), .unset] [(.int p2), (.ref qu)])) rfl rfl (hb hby d3_5) _ ?_
    show Steps p.tables e below (T4.setTop (mkF m 6 #[.val (.ref a1), .val (.int p2), .unset] [(.int (fq p2))])) _
    refine XS.ifNo X4.here hx rfl (hb hby d3_6) rfl ((if0 _ _).trans (teq hc6).2) ?_
    show Steps p.tables e below (T4.setTop (mkF m 9 #[.val (.ref a1), .val (.int p2), .unset] [])) _
    refine XS.aloadN X4.here hx rfl (hb hby d3_9) rfl rfl ?_
    show Steps p.tables e below (T4.setTop (mkF m 10 #[.val (.ref a1), .val (.int p2), .unset] [(.ref a1)])) _
    refine st6 _ ?_
    show Steps p.tables e below (T6.setTop (mkF m 13 #[.val (.ref a1), .val (.int p2), .unset] [(.ref qu)])) _
    refine XS.iloadN X6.here hx rfl (hb hby d3_13) rfl ?_
    show Steps p.tables e below (T6.setTop (mkF m 14 #[.val (.ref a1), .val (.int p2), .unset] [(.int p2), (.ref qu)])) _
    refine XS.iconst X6.here hx rfl (hb hby d3_14) ?_
    show Steps p.tables e below (T6.setTop (mkF m 15 #[.val (.ref a1), .val (.int p2), .unset] [(.int (1 : Int32)), (.int p2), (.ref qu)])) _
    refine st7 _ ?_
    show Steps p.tables e below (T7.setTop (mkF m 16 #[.val (.ref a1), .val (.int p2), .unset] [])) _
    refine XS.aloadN X7.here hx rfl (hb hby d3_16) rfl rfl ?_
    show Steps p.tables e below (T7.setTop (mkF m 17 #[.val (.ref a1), .val (.int p2), .unset] [(.ref a1)])) _
    refine st9 _ ?_
    show Steps p.tables e below (T9.setTop (mkF m 20 #[.val (.ref a1), .val (.int p2), .unset] [(.int hd)])) _
    refine XS.aloadN X9.here hx rfl (hb hby d3_20) rfl rfl ?_
    show Steps p.tables e below (T9.setTop (mkF m 21 #[.val (.ref a1), .val (.int p2), .unset] [(.ref a1), (.int hd)])) _
    refine st11 _ ?_
    show Steps p.tables e below (T11.setTop (mkF m 24 #[.val (.ref a1), .val (.int p2), .unset] [(.int sz), (.int hd)])) _
    refine XS.iadd X11.here hx rfl (hb hby d3_24) rfl ?_
    show Steps p.tables e below (T11.setTop (mkF m 25 #[.val (.ref a1), .val (.int p2), .unset] [(.int (hd + sz))])) _
    refine XS.istoreN X11.here hx rfl (hb hby d3_25) rfl (l' := #[.val (.ref a1), .val (.int p2), .val (.int (hd + sz))]) rfl ?_
    show Steps p.tables e below (T11.setTop (mkF m 26 #[.val (.ref a1), .val (.int p2), .val (.int (hd + sz))] [])) _
    refine XS.aloadN X11.here hx rfl (hb hby d3_26) rfl rfl ?_
    show Steps p.tables e below (T11.setTop (mkF m 27 #[.val (.ref a1), .val (.int p2), .val (.int (hd + sz))] [(.ref a1)])) _
    refine st13 _ ?_
    show Steps p.tables e below (T13.setTop (mkF m 30 #[.val (.ref a1), .val (.int p2), .val (.int (hd + sz))] [(.ref it)])) _
    refine XS.iloadN X13.here hx rfl (hb hby d3_30) rfl ?_
    show Steps p.tables e below (T13.setTop (mkF m 31 #[.val (.ref a1), .val (.int p2), .val (.int (hd + sz))] [(.int (hd + sz)), (.ref it)])) _
    refine XS.aloadN X13.here hx rfl (hb hby d3_31) rfl rfl ?_
    show Steps p.tables e below (T13.setTop (mkF m 32 #[.val (.ref a1), .val (.int p2), .val (.int (hd + sz))] [(.ref a1), (.int (hd + sz)), (.ref it)])) _
    refine st14 _ ?_
    show Steps p.tables e below (T14.setTop (mkF m 35 #[.val (.ref a1), .val (.int p2), .val (.int (hd + sz))] [(.ref it), (.int (hd + sz)), (.ref it)])) _
    refine X14.arraylength hx (by rw [e14]; exact Ar_itb.1) (State.isArrayOf_alike hZ.alike Ar_itb.2.1) (g := (mkF m 35 #[.val (.ref a1), .val (.int p2), .val (.int (hd + sz))] [(.ref it), (.int (hd + sz)), (.ref it)])) rfl rfl (hb hby d3_35) _ ?_
    rw [len_of S_it N_it]
    show Steps p.tables e below (T14.setTop (mkF m 36 #[.val (.ref a1), .val (.int p2), .val (.int (hd + sz))] [(.int (2 : Int32)), (.int (hd + sz)), (.ref it)])) _
    refine XS.icmpNo X14.here hx rfl (hb hby d3_36) rfl (tlt hc36).2.1 ?_
    show Steps p.tables e below (T14.setTop (mkF m 39 #[.val (.ref a1), .val (.int p2), .val (.int (hd + sz))] [(.ref it)])) _
    refine XS.iloadN X14.here hx rfl (hb hby d3_39) rfl ?_
    show Steps p.tables e below (T14.setTop (mkF m 40 #[.val (.ref a1), .val (.int p2), .val (.int (hd + sz))] [(.int (hd + sz)), (.ref it)])) _
    refine XS.goto X14.here hx rfl (pc0 := 40) (pc' := 50) rfl (hb hby d3_40) (by decide) (by decide) ?_
    show Steps p.tables e below (T14.setTop (mkF m 50 #[.val (.ref a1), .val (.int p2), .val (.int (hd + sz))] [(.int (hd + sz)), (.ref it)])) _
    refine XS.iloadN X14.here hx rfl (hb hby d3_50) rfl ?_
    show Steps p.tables e below (T14.setTop (mkF m 51 #[.val (.ref a1), .val (.int p2), .val (.int (hd + sz))] [(.int p2), (.int (hd + sz)), (.ref it)])) _
    refine st15 _ ?_
    show Steps p.tables e below (T15.setTop (mkF m 52 #[.val (.ref a1), .val (.int p2), .val (.int (hd + sz))] [])) _
    refine XS.aloadN X15.here hx rfl (hb hby d3_52) rfl rfl ?_
    show Steps p.tables e below (T15.setTop (mkF m 53 #[.val (.ref a1), .val (.int p2), .val (.int (hd + sz))] [(.ref a1)])) _
    refine XS.dup X15.here hx rfl (hb hby d3_53) rfl rfl ?_
    show Steps p.tables e below (T15.setTop (mkF m 54 #[.val (.ref a1), .val (.int p2), .val (.int (hd + sz))] [(.ref a1), (.ref a1)])) _
    refine st16 _ ?_
    show Steps p.tables e below (T16.setTop (mkF m 57 #[.val (.ref a1), .val (.int p2), .val (.int (hd + sz))] [(.int sz), (.ref a1)])) _
    refine XS.iconst X16.here hx rfl (hb hby d3_57) ?_
    show Steps p.tables e below (T16.setTop (mkF m 58 #[.val (.ref a1), .val (.int p2), .val (.int (hd + sz))] [(.int (1 : Int32)), (.int sz), (.ref a1)])) _
    refine XS.iadd X16.here hx rfl (hb hby d3_58) rfl ?_
    show Steps p.tables e below (T16.setTop (mkF m 59 #[.val (.ref a1), .val (.int p2), .val (.int (hd + sz))] [(.int (sz + (1 : Int32))), (.ref a1)])) _
    refine st17 _ ?_
    show Steps p.tables e below (T17.setTop (mkF m 62 #[.val (.ref a1), .val (.int p2), .val (.int (hd + sz))] [])) _
    exact X17.returnOut hx Bd.returns (hb hby d3_62) hr
  · show Q3a Z _ _ _ _ _ _ _ _ _ _ _ h0 n0 _ T17.heap _
    rw [e17]
    exact ⟨rfl, N17, ((E_a1.wr W7).wr W15).wr W17, ((F_items_a1.other W7 (Or.inl neq)).other W15 (Or.inl nei)).other W17 (Or.inr (slot_ne (Or.inr (hw _ (List.mem_of_getElem? (i := 12) rfl))) (Or.inl (hw _ (List.mem_of_getElem? (i := 24) rfl))) (by decide) (t := (.array .int)) (t' := .int) (by decide) (by decide))), ((F_queued_a1.other W7 (Or.inl neq)).other W15 (Or.inl nei)).other W17 (Or.inr (slot_ne (Or.inr (hw _ (List.mem_of_getElem? (i := 15) rfl))) (Or.inl (hw _ (List.mem_of_getElem? (i := 24) rfl))) (by decide) (t := (.array .boolean)) (t' := .int) (by decide) (by decide))), ((F_head_a1.other W7 (Or.inl neq)).other W15 (Or.inl nei)).other W17 (Or.inr (slot_ne (Or.inl (hw _ (List.mem_of_getElem? (i := 22) rfl))) (Or.inl (hw _ (List.mem_of_getElem? (i := 24) rfl))) (by decide) (t := .int) (t' := .int) (by decide) (by decide))), Fw17, ⟨_, (Ar_itb.same W15).other W17 (Ne.symm nei), own_AT_set ⟨S_it, N_it, V_it⟩ hin51⟩, ⟨_, ((Ar_qu.same W7).other W15 (Ne.symm niq)).other W17 (Ne.symm neq), own_AT_set ⟨S_qu, N_qu, V_qu⟩ hin5⟩, nei, neq, niq, g_a1, g_it, g_qu⟩
theorem d3_43 : decode prog_59_method_4_code 43 = .ok (.iload_n 2, 1) := by decide +kernel
theorem d3_44 : decode prog_59_method_4_code 44 = .ok (.aload_n 0, 1) := by decide +kernel
theorem d3_45 : decode prog_59_method_4_code 45 = .ok (.getfield 12, 3) := by decide +kernel
theorem d3_48 : decode prog_59_method_4_code 48 = .ok (.arraylength, 1) := by decide +kernel
theorem d3_49 : decode prog_59_method_4_code 49 = .ok (.isub, 1) := by decide +kernel
def Q3b (Z : State) (a1 : Addr) (p2 : Int32) (it : Addr) (qu : Addr) (nb : Int32) (gi : Int32 → Int32) (fq : Int32 → Int32) (hd : Int32) (sz : Int32) (ix : Int32) (sz' : Int32) (h0 : Heap) (n0 : Nat) (v : Option Value) (h : Heap) (L : List Loc) : Prop := v = none ∧ Fr n0 L ∧ own_IQ Z h n0 a1 it qu nb (own_upd gi ix p2) (own_upd fq p2 1) hd sz'
set_option maxRecDepth 65536 in
set_option maxHeartbeats 40000000 in
theorem rm3b (l : Launch) (Z : State) (a0 : Array Value) (hw : ∀ d ∈ tables_1, d.before a0 Z = true) (ws : List Jvm.Cond) (a1 : Addr) (p2 : Int32) (it : Addr) (qu : Addr) (nb : Int32) (gi : Int32 → Int32) (fq : Int32 → Int32) (hd : Int32) (sz : Int32) (ix : Int32) (sz' : Int32) (h0 : Heap) (n0 : Nat) (Z0 : n0 ≤ h0.size) (I0 : own_IQ Z h0 n0 a1 it qu nb gi fq hd sz) (hp : ¬ p2 < 0 ∧ p2 < nb) (hc6 : (fq p2) = (0 : Int32)) (hix : ((hd + sz) - (2 : Int32)) = ix) (hsz : (sz + (1 : Int32)) = sz') (hidx : ¬ ix < 0 ∧ ix < 2) (hc36 : ¬ ((hd + sz) < (2 : Int32))) :
    MetFree l (⟨"com/example/weftmap/weftmap/engine/place/IndexQueue", "add", "(I)V"⟩ : MethodName) (head1 (Jvm.Cond.code (⟨"com/example/weftmap/weftmap/engine/place/IndexQueue", "add", "(I)V"⟩ : MethodName) prog_59_method_4_code 3 none :: ws) ({ frames := 0, cells := 0, slots := 0, locals := 0 } : Room)) (fun a U => a = #[(.ref a1), (.int p2)] ∧ Z.Warmed39 U.vm ∧ U.heap = h0) (fun _ _ _ _ _ => True) (fun _ U o U' => ∃ v L, o = .returned v ∧ Q3b Z a1 p2 it qu nb gi fq hd sz ix sz' h0 n0 v U'.heap L ∧ FrameEnd U o U' L ({ frames := 0, cells := 0, slots := 0, locals := 0 } : Room).cells ({ frames := 0, cells := 0, slots := 0, locals := 0 } : Room).slots) := by
  refine MetFree.of_bodySF (plainFor_of_name pn_3) hisR ?_
  intro p e s m args below meth c s₁ Bd hml0 hP hK
  obtain ⟨rfl, hZ, hh⟩ := hP
  subst hix hsz
  obtain ⟨E_a1, F_items_a1, F_queued_a1, F_head_a1, F_size_a1, ⟨cl_it, Ar_it, S_it, N_it, V_it⟩, ⟨cl_qu, Ar_qu, S_qu, N_qu, V_qu⟩, nei, neq, niq, g_a1, g_it, g_qu⟩ := I0
  have hin5 : ¬ (p2 < 0 ∨ cl_qu.slots.size ≤ (p2).toNatClampNeg) := inb_of S_qu hp
  have hat5 := V_qu p2 hin5
  have hin15 := hin5
  have hin51 : ¬ (((hd + sz) - (2 : Int32)) < 0 ∨ cl_it.slots.size ≤ (((hd + sz) - (2 : Int32))).toNatClampNeg) := inb_of S_it hidx
  have hx := Bd.exec
  have hby := Bd.bytes
  have hml : c.maxLocals = 3 := hml0
  have hown : s.vm.findClass "com/example/weftmap/weftmap/engine/place/IndexQueue" = some m.cls := findClass_of_methodNamed Bd.named
  have hnm := (name_of_methodNamed Bd.named Bd.method).1
  have X0 : Stand p l e ({ frames := 0, cells := 0, slots := 0, locals := 0 } : Room) s m #[(.ref a1), (.int p2)] below meth c s₁ [] 0 0 := Stand.of_body Bd
  have e0 : s₁.heap = h0 := by rw [← hh, Bd.state]; rfl
  have N0 := Fr.nil n0
  have pre0 : ∀ t, Steps p.tables e below (s₁.setTop (mkF m 0 #[.val (.ref a1), .val (.int p2), .unset] [])) t → Steps p.tables e below (s₁.setTop (entryFrame m #[(.ref a1), (.int p2)] 3)) t := fun t k => castTop (ef_3 m a1 p2) k
  -- 3. LAWS
  obtain ⟨T4, X4, e4, st4⟩ := getF X0 hx hZ hown (host := "") (Or.inl (hw _ (List.mem_of_getElem? (i := 14) rfl))) Via.refl e0 F_queued_a1 (g := (mkF m 1 #[.val (.ref a1), .val (.int p2), .unset] [(.ref a1)])) rfl rfl (hb hby d3_1)
  obtain ⟨T6, X6, e6, st6⟩ := getF X4 hx hZ hown (host := "") (Or.inl (hw _ (List.mem_of_getElem? (i := 14) rfl))) Via.refl e4 F_queued_a1 (g := (mkF m 10 #[.val (.ref a1), .val (.int p2), .unset] [(.ref a1)])) rfl rfl (hb hby d3_10)
  obtain ⟨T7, h7, X7, e7, W7, st7⟩ := stZ X6 hx hZ e6 Ar_qu (j := p2) hin15 (g := (mkF m 15 #[.val (.ref a1), .val (.int p2), .unset] [(.int (1 : Int32)), (.int p2), (.ref qu)])) rfl rfl (hb hby d3_15)
  rw [own_nar1] at W7
  have Ar_itb := Ar_it.other W7 niq
  have N7 := Fr.snoc X7 N0 g_qu
  -- Ar_qu.same W7 : the array with (.int (1 : Int32)) at the place p2
  have K7 : Keep h0 h7 [qu, it, a1] := (Keep.refl h0 [qu, it, a1]).wr W7 (Or.inl (List.mem_of_getElem? (i := 0) rfl))
  obtain ⟨T9, X9, e9, st9⟩ := getF X7 hx hZ hown (host := "") (Or.inl (hw _ (List.mem_of_getElem? (i := 21) rfl))) Via.refl e7 (F_head_a1.other W7 (Or.inl neq)) (g := (mkF m 17 #[.val (.ref a1), .val (.int p2), .unset] [(.ref a1)])) rfl rfl (hb hby d3_17)
  obtain ⟨T11, X11, e11, st11⟩ := getF X9 hx hZ hown (host := "") (Or.inl (hw _ (List.mem_of_getElem? (i := 23) rfl))) Via.refl e9 (F_size_a1.other W7 (Or.inl neq)) (g := (mkF m 21 #[.val (.ref a1), .val (.int p2), .unset] [(.ref a1), (.int hd)])) rfl rfl (hb hby d3_21)
  obtain ⟨T13, X13, e13, st13⟩ := getF X11 hx hZ hown (host := "") (Or.inl (hw _ (List.mem_of_getElem? (i := 11) rfl))) Via.refl e11 (F_items_a1.other W7 (Or.inl neq)) (g := (mkF m 27 #[.val (.ref a1), .val (.int p2), .val (.int (hd + sz))] [(.ref a1)])) rfl rfl (hb hby d3_27)
  obtain ⟨T14, X14, e14, st14⟩ := getF X13 hx hZ hown (host := "") (Or.inl (hw _ (List.mem_of_getElem? (i := 11) rfl))) Via.refl e13 (F_items_a1.other W7 (Or.inl neq)) (g := (mkF m 32 #[.val (.ref a1), .val (.int p2), .val (.int (hd + sz))] [(.ref a1), (.int (hd + sz)), (.ref it)])) rfl rfl (hb hby d3_32)
  obtain ⟨T15, X15, e15, st15⟩ := getF X14 hx hZ hown (host := "") (Or.inl (hw _ (List.mem_of_getElem? (i := 11) rfl))) Via.refl e14 (F_items_a1.other W7 (Or.inl neq)) (g := (mkF m 45 #[.val (.ref a1), .val (.int p2), .val (.int (hd + sz))] [(.ref a1), (.int (hd + sz)), (.ref it)])) rfl rfl (hb hby d3_45)
  obtain ⟨T16, h16, X16, e16, W16, st16⟩ := stI X15 hx hZ e15 Ar_itb (j := ((hd + sz) - (2 : Int32))) hin51 (g := (mkF m 51 #[.val (.ref a1), .val (.int p2), .val (.int (hd + sz))] [(.int p2), (.int ((hd + sz) - (2 : Int32))), (.ref it)])) rfl rfl (hb hby d3_51)
  have N16 := Fr.snoc X16 N7 g_it
  -- Ar_itb.same W16 : the array with (.int p2) at the place ((hd + sz) - (2 : Int32))
  have K16 : Keep h0 h16 [qu, it, a1] := K7.wr W16 (Or.inl (List.mem_of_getElem? (i := 1) rfl))
  obtain ⟨T17, X17, e17, st17⟩ := getF X16 hx hZ hown (host := "") (Or.inl (hw _ (List.mem_of_getElem? (i := 23) rfl))) Via.refl e16 ((F_size_a1.other W7 (Or.inl neq)).other W16 (Or.inl nei)) (g := (mkF m 54 #[.val (.ref a1), .val (.int p2), .val (.int (hd + sz))] [(.ref a1), (.ref a1)])) rfl rfl (hb hby d3_54)
  obtain ⟨T18, h18, X18, e18, W18, st18⟩ := putF X17 hx hZ hown (host := "") (Or.inl (hw _ (List.mem_of_getElem? (i := 23) rfl))) Via.refl e17 ((F_size_a1.other W7 (Or.inl neq)).other W16 (Or.inl nei)) ((E_a1.wr W7).wr W16) (Or.inl (hw _ (List.mem_of_getElem? (i := 24) rfl))) (hw _ (List.mem_of_getElem? (i := 2) rfl)) (ty := .int) (by decide) rfl rfl (g := (mkF m 59 #[.val (.ref a1), .val (.int p2), .val (.int (hd + sz))] [(.int (sz + (1 : Int32))), (.ref a1)])) rfl rfl (hb hby d3_59)
  have Fw18 := ((F_size_a1.other W7 (Or.inl neq)).other W16 (Or.inl nei)).same W18      -- the field now holds (.int (sz + (1 : Int32)))
  have K18 : Keep h0 h18 [qu, it, a1] := K16.wr W18 (Or.inl (List.mem_of_getElem? (i := 2) rfl))
  have N18 := Fr.snoc X18 N16 g_a1
  obtain ⟨fs, hr, hrun, hended, hW, hsame⟩ := X18.leave (v := none) (fun _ => rfl)
  refine ⟨_, _, pre0 _ ?_, hrun, hended, _, _, rfl, ?_, ⟨_, rfl⟩, hW, hsame.mono (by decide) (by decide)⟩
  -- 4. STEPS
  · show Steps p.tables e below (s₁.setTop (mkF m 0 #[.val (.ref a1), .val (.int p2), .unset] [])) _
    refine XS.aloadN X0.here hx rfl (hb hby d3_0) rfl rfl ?_
    show Steps p.tables e below (s₁.setTop (mkF m 1 #[.val (.ref a1), .val (.int p2), .unset] [(.ref a1)])) _
    refine st4 _ ?_
    show Steps p.tables e below (T4.setTop (mkF m 4 #[.val (.ref a1), .val (.int p2), .unset] [(.ref qu)])) _
    refine XS.iloadN X4.here hx rfl (hb hby d3_4) rfl ?_
    show Steps p.tables e below (T4.setTop (mkF m 5 #[.val (.ref a1), .val (.int p2), .unset] [(.int p2), (.ref qu)])) _
    refine X4.baloadBooleans hx (j := p2) (v := (.int (fq p2))) (by rw [e4]; exact Ar_qu.1) (State.isArrayOf_alike hZ.alike Ar_qu.2.1) Ar_qu.2.2 hin5 hat5 (g := (mkF m 5 #[.val (.ref a1), .val (.int p2), .unset] [(.int p2), (.ref qu)])) rfl rfl (hb hby d3_5) _ ?_
    show Steps p.tables e below (T4.setTop (mkF m 6 #[.val (.ref a1), .val (.int p2), .unset] [(.int (fq p2))])) _
    refine XS.ifNo X4.here hx rfl (hb hby d3_6) rfl ((if0 _ _).trans (teq hc6).2) ?_
    show Steps p.tables e below (T4.setTop (mkF m 9 #[.val (.ref a1), .val (.int p2), .unset] [])) _
    refine XS.aloadN X4.here hx rfl (hb hby d3_9) rfl rfl ?_
    show Steps p.tables e below (T4.setTop (mkF m 10 #[.val (.ref a1), .val (.int p2), .unset] [(.ref a1)])) _
    refine st6 _ ?_
    show Steps p.tables e below (T6.setTop (mkF m 13 #[.val (.ref a1), .val (.int p2), .unset] [(.ref qu)])) _
    refine XS.iloadN X6.here hx rfl (hb hby d3_13) rfl ?_
    show Steps p.tables e below (T6.setTop (mkF m 14 #[.val (.ref a1), .val (.int p2), .unset] [(.int p2), (.ref qu)])) _
    refine XS.iconst X6.here hx rfl (hb hby d3_14) ?_
    show Steps p.tables e below (T6.setTop (mkF m 15 #[.val (.ref a1), .val (.int p2), .unset] [(.int (1 : Int32)), (.int p2), (.ref qu)])) _
    refine st7 _ ?_
    show Steps p.tables e below (T7.setTop (mkF m 16 #[.val (.ref a1), .val (.int p2), .unset] [])) _
    refine XS.aloadN X7.here hx rfl (hb hby d3_16) rfl rfl ?_
    show Steps p.tables e below (T7.setTop (mkF m 17 #[.val (.ref a1), .val (.int p2), .unset] [(.ref a1)])) _
    refine st9 _ ?_
    show Steps p.tables e below (T9.setTop (mkF m 20 #[.val (.ref a1), .val (.int p2), .unset] [(.int hd)])) _
    refine XS.aloadN X9.here hx rfl (hb hby d3_20) rfl rfl ?_
    show Steps p.tables e below (T9.setTop (mkF m 21 #[.val (.ref a1), .val (.int p2), .unset] [(.ref a1), (.int hd)])) _
    refine st11 _ ?_
    show Steps p.tables e below (T11.setTop (mkF m 24 #[.val (.ref a1), .val (.int p2), .unset] [(.int sz), (.int hd)])) _
    refine XS.iadd X11.here hx rfl (hb hby d3_24) rfl ?_
    show Steps p.tables e below (T11.setTop (mkF m 25 #[.val (.ref a1), .val (.int p2), .unset] [(.int (hd + sz))])) _
    refine XS.istoreN X11.here hx rfl (hb hby d3_25) rfl (l' := #[.val (.ref a1), .val (.int p2), .val (.int (hd + sz))]) rfl ?_
    show Steps p.tables e below (T11.setTop (mkF m 26 #[.val (.ref a1), .val (.int p2), .val (.int (hd + sz))] [])) _
    refine XS.aloadN X11.here hx rfl (hb hby d3_26) rfl rfl ?_
    show Steps p.tables e below (T11.setTop (mkF m 27 #[.val (.ref a1), .val (.int p2), .val (.int (hd + sz))] [(.ref a1)])) _
    refine st13 _ ?_
    show Steps p.tables e below (T13.setTop (mkF m 30 #[.val (.ref a1), .val (.int p2), .val (.int (hd + sz))] [(.ref it)])) _
    refine XS.iloadN X13.here hx rfl (hb hby d3_30) rfl ?_
    show Steps p.tables e below (T13.setTop (mkF m 31 #[.val (.ref a1), .val (.int p2), .val (.int (hd + sz))] [(.int (hd + sz)), (.ref it)])) _
    refine XS.aloadN X13.here hx rfl (hb hby d3_31) rfl rfl ?_
    show Steps p.tables e below (T13.setTop (mkF m 32 #[.val (.ref a1), .val (.int p2), .val (.int (hd + sz))] [(.ref a1), (.int (hd + sz)), (.ref it)])) _
    refine st14 _ ?_
    show Steps p.tables e below (T14.setTop (mkF m 35 #[.val (.ref a1), .val (.int p2), .val (.int (hd + sz))] [(.ref it), (.int (hd + sz)), (.ref it)])) _
    refine X14.arraylength hx (by rw [e14]; exact Ar_itb.1) (State.isArrayOf_alike hZ.alike Ar_itb.2.1) (g := (mkF m 35 #[.val (.ref a1), .val (.int p2), .val (.int (hd + sz))] [(.ref it), (.int (hd + sz)), (.ref it)])) rfl rfl (hb hby d3_35) _ ?_
    rw [len_of S_it N_it]
    show Steps p.tables e below (T14.setTop (mkF m 36 #[.val (.ref a1), .val (.int p2), .val (.int (hd + sz))] [(.int (2 : Int32)), (.int (hd + sz)), (.ref it)])) _
    refine XS.icmpYes X14.here hx rfl (pc0 := 36) (pc' := 43) rfl (hb hby d3_36) rfl (flt hc36).2.1 (by decide) (by decide) ?_
    show Steps p.tables e below (T14.setTop (mkF m 43 #[.val (.ref a1), .val (.int p2), .val (.int (hd + sz))] [(.ref it)])) _
    refine XS.iloadN X14.here hx rfl (hb hby d3_43) rfl ?_
    show Steps p.tables e below (T14.setTop (mkF m 44 #[.val (.ref a1), .val (.int p2), .val (.int (hd + sz))] [(.int (hd + sz)), (.ref it)])) _
    refine XS.aloadN X14.here hx rfl (hb hby d3_44) rfl rfl ?_
    show Steps p.tables e below (T14.setTop (mkF m 45 #[.val (.ref a1), .val (.int p2), .val (.int (hd + sz))] [(.ref a1), (.int (hd + sz)), (.ref it)])) _
    refine st15 _ ?_
    show Steps p.tables e below (T15.setTop (mkF m 48 #[.val (.ref a1), .val (.int p2), .val (.int (hd + sz))] [(.ref it), (.int (hd + sz)), (.ref it)])) _
    refine X15.arraylength hx (by rw [e15]; exact Ar_itb.1) (State.isArrayOf_alike hZ.alike Ar_itb.2.1) (g := (mkF m 48 #[.val (.ref a1), .val (.int p2), .val (.int (hd + sz))] [(.ref it), (.int (hd + sz)), (.ref it)])) rfl rfl (hb hby d3_48) _ ?_
    rw [len_of S_it N_it]
    show Steps p.tables e below (T15.setTop (mkF m 49 #[.val (.ref a1), .val (.int p2), .val (.int (hd + sz))] [(.int (2 : Int32)), (.int (hd + sz)), (.ref it)])) _
    refine XS.isub X15.here hx rfl (hb hby d3_49) rfl ?_
    show Steps p.tables e below (T15.setTop (mkF m 50 #[.val (.ref a1), .val (.int p2), .val (.int (hd + sz))] [(.int ((hd + sz) - (2 : Int32))), (.ref it)])) _
    refine XS.iloadN X15.here hx rfl (hb hby d3_50) rfl ?_
    show Steps p.tables e below (T15.setTop (mkF m 51 #[.val (.ref a1), .val (.int p2), .val (.int (hd + sz))] [(.int p2), (.int ((hd + sz) - (2 : Int32))), (.ref it)])) _
    refine st16 _ ?_
    show Steps p.tables e below (T16.setTop (mkF m 52 #[.val (.ref a1), .val (.int p2), .val (.int (hd + sz))] [])) _
    refine XS.aloadN X16.here hx rfl (hb hby d3_52) rfl rfl ?_
    show Steps p.tables e below (T16.setTop (mkF m 53 #[.val (.ref a1), .val (.int p2), .val (.int (hd + sz))] [(.ref a1)])) _
    refine XS.dup X16.here hx rfl (hb hby d3_53) rfl rfl ?_
    show Steps p.tables e below (T16.setTop (mkF m 54 #[.val (.ref a1), .val (.int p2), .val (.int (hd + sz))] [(.ref a1), (.ref a1)])) _
    refine st17 _ ?_
    show Steps p.tables e below (T17.setTop (mkF m 57 #[.val (.ref a1), .val (.int p2), .val (.int (hd + sz))] [(.int sz), (.ref a1)])) _
    refine XS.iconst X17.here hx rfl (hb hby d3_57) ?_
    show Steps p.tables e below (T17.setTop (mkF m 58 #[.val (.ref a1), .val (.int p2), .val (.int (hd + sz))] [(.int (1 : Int32)), (.int sz), (.ref a1)])) _
    refine XS.iadd X17.here hx rfl (hb hby d3_58) rfl ?_
    show Steps p.tables e below (T17.setTop (mkF m 59 #[.val (.ref a1), .val (.int p2), .val (.int (hd + sz))] [(.int (sz + (1 : Int32))), (.ref a1)])) _
    refine st18 _ ?_
    show Steps p.tables e below (T18.setTop (mkF m 62 #[.val (.ref a1), .val (.int p2), .val (.int (hd + sz))] [])) _
    exact X18.returnOut hx Bd.returns (hb hby d3_62) hr
  · show Q3b Z _ _ _ _ _ _ _ _ _ _ _ h0 n0 _ T18.heap _
    rw [e18]
    exact ⟨rfl, N18, ((E_a1.wr W7).wr W16).wr W18, ((F_items_a1.other W7 (Or.inl neq)).other W16 (Or.inl nei)).other W18 (Or.inr (slot_ne (Or.inr (hw _ (List.mem_of_getElem? (i := 12) rfl))) (Or.inl (hw _ (List.mem_of_getElem? (i := 24) rfl))) (by decide) (t := (.array .int)) (t' := .int) (by decide) (by decide))), ((F_queued_a1.other W7 (Or.inl neq)).other W16 (Or.inl nei)).other W18 (Or.inr (slot_ne (Or.inr (hw _ (List.mem_of_getElem? (i := 15) rfl))) (Or.inl (hw _ (List.mem_of_getElem? (i := 24) rfl))) (by decide) (t := (.array .boolean)) (t' := .int) (by decide) (by decide))), ((F_head_a1.other W7 (Or.inl neq)).other W16 (Or.inl nei)).other W18 (Or.inr (slot_ne (Or.inl (hw _ (List.mem_of_getElem? (i := 22) rfl))) (Or.inl (hw _ (List.mem_of_getElem? (i := 24) rfl))) (by decide) (t := .int) (t' := .int) (by decide) (by decide))), Fw18, ⟨_, (Ar_itb.same W16).other W18 (Ne.symm nei), own_AT_set ⟨S_it, N_it, V_it⟩ hin51⟩, ⟨_, ((Ar_qu.same W7).other W16 (Ne.symm niq)).other W18 (Ne.symm neq), own_AT_set ⟨S_qu, N_qu, V_qu⟩ hin5⟩, nei, neq, niq, g_a1, g_it, g_qu⟩
theorem d4_0 : decode prog_59_method_5_code 0 = .ok (.aload_n 0, 1) := by decide +kernel
theorem d4_1 : decode prog_59_method_5_code 1 = .ok (.getfield 12, 3) := by decide +kernel
theorem d4_4 : decode prog_59_method_5_code 4 = .ok (.aload_n 0, 1) := by decide +kernel
theorem d4_5 : decode prog_59_method_5_code 5 = .ok (.getfield 24, 3) := by decide +kernel
theorem d4_8 : decode prog_59_method_5_code 8 = .ok (.iaload, 1) := by decide +kernel
theorem d4_9 : decode prog_59_method_5_code 9 = .ok (.istore_n 1, 1) := by decide +kernel
theorem d4_10 : decode prog_59_method_5_code 10 = .ok (.aload_n 0, 1) := by decide +kernel
theorem d4_11 : decode prog_59_method_5_code 11 = .ok (.getfield 16, 3) := by decide +kernel
theorem d4_14 : decode prog_59_method_5_code 14 = .ok (.iload_n 1, 1) := by decide +kernel
theorem d4_15 : decode prog_59_method_5_code 15 = .ok (.iconst 0, 1) := by decide +kernel
theorem d4_16 : decode prog_59_method_5_code 16 = .ok (.bastore, 1) := by decide +kernel
theorem d4_17 : decode prog_59_method_5_code 17 = .ok (.aload_n 0, 1) := by decide +kernel
theorem d4_18 : decode prog_59_method_5_code 18 = .ok (.aload_n 0, 1) := by decide +kernel
theorem d4_19 : decode prog_59_method_5_code 19 = .ok (.getfield 24, 3) := by decide +kernel
theorem d4_22 : decode prog_59_method_5_code 22 = .ok (.iconst 1, 1) := by decide +kernel
theorem d4_23 : decode prog_59_method_5_code 23 = .ok (.iadd, 1) := by decide +kernel
theorem d4_24 : decode prog_59_method_5_code 24 = .ok (.aload_n 0, 1) := by decide +kernel
theorem d4_25 : decode prog_59_method_5_code 25 = .ok (.getfield 12, 3) := by decide +kernel
theorem d4_28 : decode prog_59_method_5_code 28 = .ok (.arraylength, 1) := by decide +kernel
theorem d4_29 : decode prog_59_method_5_code 29 = .ok (.if_icmp .ge 12, 3) := by decide +kernel
theorem d4_32 : decode prog_59_method_5_code 32 = .ok (.aload_n 0, 1) := by decide +kernel
theorem d4_33 : decode prog_59_method_5_code 33 = .ok (.getfield 24, 3) := by decide +kernel
theorem d4_36 : decode prog_59_method_5_code 36 = .ok (.iconst 1, 1) := by decide +kernel
theorem d4_37 : decode prog_59_method_5_code 37 = .ok (.iadd, 1) := by decide +kernel
theorem d4_38 : decode prog_59_method_5_code 38 = .ok (.goto 4, 3) := by decide +kernel
theorem d4_42 : decode prog_59_method_5_code 42 = .ok (.putfield 24, 3) := by decide +kernel
theorem d4_45 : decode prog_59_method_5_code 45 = .ok (.aload_n 0, 1) := by decide +kernel
theorem d4_46 : decode prog_59_method_5_code 46 = .ok (.dup, 1) := by decide +kernel
theorem d4_47 : decode prog_59_method_5_code 47 = .ok (.getfield 20, 3) := by decide +kernel
theorem d4_50 : decode prog_59_method_5_code 50 = .ok (.iconst 1, 1) := by decide +kernel
theorem d4_51 : decode prog_59_method_5_code 51 = .ok (.isub, 1) := by decide +kernel
theorem d4_52 : decode prog_59_method_5_code 52 = .ok (.putfield 20, 3) := by decide +kernel
theorem d4_55 : decode prog_59_method_5_code 55 = .ok (.iload_n 1, 1) := by decide +kernel
theorem d4_56 : decode prog_59_method_5_code 56 = .ok (.ireturn, 1) := by decide +kernel
theorem pn_4 : plainName "com/example/weftmap/weftmap/engine/place/IndexQueue" = true := by first | (simp [plainName, overriddenIn]; done) | decide +kernel
theorem ef_4 (m : MethodId) (x0 : Addr) : entryFrame m #[(.ref x0)] 2 = mkF m 0 #[.val (.ref x0), .unset] [] := by first | (simp [entryFrame, mkF, argsToLocals, Value.category]; done) | rfl
def Q4a (Z : State) (a1 : Addr) (it : Addr) (qu : Addr) (nb : Int32) (gi : Int32 → Int32) (fq : Int32 → Int32) (hd : Int32) (sz : Int32) (rv : Int32) (hd' : Int32) (sz' : Int32) (h0 : Heap) (n0 : Nat) (v : Option Value) (h : Heap) (L : List Loc) : Prop := v = some (.int rv) ∧ Fr n0 L ∧ own_IQ Z h n0 a1 it qu nb gi (own_upd fq rv 0) hd' sz'
set_option maxRecDepth 65536 in
set_option maxHeartbeats 40000000 in
theorem rm4a (l : Launch) (Z : State) (a0 : Array Value) (hw : ∀ d ∈ tables_1, d.before a0 Z = true) (ws : List Jvm.Cond) (a1 : Addr) (it : Addr) (qu : Addr) (nb : Int32) (gi : Int32 → Int32) (fq : Int32 → Int32) (hd : Int32) (sz : Int32) (rv : Int32) (hd' : Int32) (sz' : Int32) (h0 : Heap) (n0 : Nat) (Z0 : n0 ≤ h0.size) (I0 : own_IQ Z h0 n0 a1 it qu nb gi fq hd sz) (hr0 : gi hd = rv) (hp : ¬ rv < 0 ∧ rv < nb) (hhd : ¬ hd < 0 ∧ hd < 2) (hhd' : (hd + (1 : Int32)) = hd') (hsz : (sz - (1 : Int32)) = sz') (hc29 : (hd + (1 : Int32)) < (2 : Int32)) :
    MetFree l (⟨"com/example/weftmap/weftmap/engine/place/IndexQueue", "poll", "()I"⟩ : MethodName) (head1 (Jvm.Cond.code (⟨"com/example/weftmap/weftmap/engine/place/IndexQueue", "poll", "()I"⟩ : MethodName) prog_59_method_5_code 2 (some .int) :: ws) ({ frames := 0, cells := 0, slots := 0, locals := 0 } : Room)) (fun a U => a = #[(.ref a1)] ∧ Z.Warmed39 U.vm ∧ U.heap = h0) (fun _ _ _ _ _ => True) (fun _ U o U' => ∃ v L, o = .returned v ∧ Q4a Z a1 it qu nb gi fq hd sz rv hd' sz' h0 n0 v U'.heap L ∧ FrameEnd U o U' L ({ frames := 0, cells := 0, slots := 0, locals := 0 } : Room).cells ({ frames := 0, cells := 0, slots := 0, locals := 0 } : Room).slots) := by
  refine MetFree.of_bodySF (plainFor_of_name pn_4) hisR ?_
  intro p e s m args below meth c s₁ Bd hml0 hP hK
  obtain ⟨rfl, hZ, hh⟩ := hP
  subst hr0 hhd' hsz
  obtain ⟨E_a1, F_items_a1, F_queued_a1, F_head_a1, F_size_a1, ⟨cl_it, Ar_it, S_it, N_it, V_it⟩, ⟨cl_qu, Ar_qu, S_qu, N_qu, V_qu⟩, nei, neq, niq, g_a1, g_it, g_qu⟩ := I0
  have hin8 : ¬ (hd < 0 ∨ cl_it.slots.size ≤ (hd).toNatClampNeg) := inb_of S_it hhd
  have hat8 := V_it hd hin8
  have hin16 : ¬ ((gi hd) < 0 ∨ cl_qu.slots.size ≤ (gi hd).toNatClampNeg) := inb_of S_qu hp
  have hx := Bd.exec
  have hby := Bd.bytes
  have hml : c.maxLocals = 2 := hml0
  have hown : s.vm.findClass "com/example/weftmap/weftmap/engine/place/IndexQueue" = some m.cls := findClass_of_methodNamed Bd.named
  have hnm := (name_of_methodNamed Bd.named Bd.method).1
  have X0 : Stand p l e ({ frames := 0, cells := 0, slots := 0, locals := 0 } : Room) s m #[(.ref a1)] below meth c s₁ [] 0 0 := Stand.of_body Bd
  have e0 : s₁.heap = h0 := by rw [← hh, Bd.state]; rfl
  have N0 := Fr.nil n0
  have pre0 : ∀ t, Steps p.tables e below (s₁.setTop (mkF m 0 #[.val (.ref a1), .unset] [])) t → Steps p.tables e below (s₁.setTop (entryFrame m #[(.ref a1)] 2)) t := fun t k => castTop (ef_4 m a1) k
  -- 3. LAWS
  obtain ⟨T3, X3, e3, st3⟩ := getF X0 hx hZ hown (host := "") (Or.inl (hw _ (List.mem_of_getElem? (i := 11) rfl))) Via.refl e0 F_items_a1 (g := (mkF m 1 #[.val (.ref a1), .unset] [(.ref a1)])) rfl rfl (hb hby d4_1)
  obtain ⟨T5, X5, e5, st5⟩ := getF X3 hx hZ hown (host := "") (Or.inl (hw _ (List.mem_of_getElem? (i := 21) rfl))) Via.refl e3 F_head_a1 (g := (mkF m 5 #[.val (.ref a1), .unset] [(.ref a1), (.ref it)])) rfl rfl (hb hby d4_5)
  obtain ⟨T8, X8, e8, st8⟩ := getF X5 hx hZ hown (host := "") (Or.inl (hw _ (List.mem_of_getElem? (i := 14) rfl))) Via.refl e5 F_queued_a1 (g := (mkF m 11 #[.val (.ref a1), .val (.int (gi hd))] [(.ref a1)])) rfl rfl (hb hby d4_11)
  obtain ⟨T9, h9, X9, e9, W9, st9⟩ := stZ X8 hx hZ e8 Ar_qu (j := (gi hd)) hin16 (g := (mkF m 16 #[.val (.ref a1), .val (.int (gi hd))] [(.int (0 : Int32)), (.int (gi hd)), (.ref qu)])) rfl rfl (hb hby d4_16)
  rw [own_nar0] at W9
  have Ar_itb := Ar_it.other W9 niq
  have N9 := Fr.snoc X9 N0 g_qu
  -- Ar_qu.same W9 : the array with (.int (0 : Int32)) at the place (gi hd)
  have K9 : Keep h0 h9 [qu, a1] := (Keep.refl h0 [qu, a1]).wr W9 (Or.inl (List.mem_of_getElem? (i := 0) rfl))
  obtain ⟨T10, X10, e10, st10⟩ := getF X9 hx hZ hown (host := "") (Or.inl (hw _ (List.mem_of_getElem? (i := 21) rfl))) Via.refl e9 (F_head_a1.other W9 (Or.inl neq)) (g := (mkF m 19 #[.val (.ref a1), .val (.int (gi hd))] [(.ref a1), (.ref a1)])) rfl rfl (hb hby d4_19)
  obtain ⟨T11, X11, e11, st11⟩ := getF X10 hx hZ hown (host := "") (Or.inl (hw _ (List.mem_of_getElem? (i := 11) rfl))) Via.refl e10 (F_items_a1.other W9 (Or.inl neq)) (g := (mkF m 25 #[.val (.ref a1), .val (.int (gi hd))] [(.ref a1), (.int (hd + (1 : Int32))), (.ref a1)])) rfl rfl (hb hby d4_25)
  obtain ⟨T12, X12, e12, st12⟩ := getF X11 hx hZ hown (host := "") (Or.inl (hw _ (List.mem_of_getElem? (i := 21) rfl))) Via.refl e11 (F_head_a1.other W9 (Or.inl neq)) (g := (mkF m 33 #[.val (.ref a1), .val (.int (gi hd))] [(.ref a1), (.ref a1)])) rfl rfl (hb hby d4_33)
  obtain ⟨T13, h13, X13, e13, W13, st13⟩ := putF X12 hx hZ hown (host := "") (Or.inl (hw _ (List.mem_of_getElem? (i := 21) rfl))) Via.refl e12 (F_head_a1.other W9 (Or.inl neq)) (E_a1.wr W9) (Or.inl (hw _ (List.mem_of_getElem? (i := 22) rfl))) (hw _ (List.mem_of_getElem? (i := 2) rfl)) (ty := .int) (by decide) rfl rfl (g := (mkF m 42 #[.val (.ref a1), .val (.int (gi hd))] [(.int (hd + (1 : Int32))), (.ref a1)])) rfl rfl (hb hby d4_42)
  have Fw13 := (F_head_a1.other W9 (Or.inl neq)).same W13      -- the field now holds (.int (hd + (1 : Int32)))
  have K13 : Keep h0 h13 [qu, a1] := K9.wr W13 (Or.inl (List.mem_of_getElem? (i := 1) rfl))
  have N13 := Fr.snoc X13 N9 g_a1
  obtain ⟨T15, X15, e15, st15⟩ := getF X13 hx hZ hown (host := "") (Or.inl (hw _ (List.mem_of_getElem? (i := 23) rfl))) Via.refl e13 ((F_size_a1.other W9 (Or.inl neq)).other W13 (Or.inr (slot_ne (Or.inl (hw _ (List.mem_of_getElem? (i := 24) rfl))) (Or.inl (hw _ (List.mem_of_getElem? (i := 22) rfl))) (by decide) (t := .int) (t' := .int) (by decide) (by decide)))) (g := (mkF m 47 #[.val (.ref a1), .val (.int (gi hd))] [(.ref a1), (.ref a1)])) rfl rfl (hb hby d4_47)
  obtain ⟨T16, h16, X16, e16, W16, st16⟩ := putF X15 hx hZ hown (host := "") (Or.inl (hw _ (List.mem_of_getElem? (i := 23) rfl))) Via.refl e15 ((F_size_a1.other W9 (Or.inl neq)).other W13 (Or.inr (slot_ne (Or.inl (hw _ (List.mem_of_getElem? (i := 24) rfl))) (Or.inl (hw _ (List.mem_of_getElem? (i := 22) rfl))) (by decide) (t := .int) (t' := .int) (by decide) (by decide)))) ((E_a1.wr W9).wr W13) (Or.inl (hw _ (List.mem_of_getElem? (i := 24) rfl))) (hw _ (List.mem_of_getElem? (i := 2) rfl)) (ty := .int) (by decide) rfl rfl (g := (mkF m 52 #[.val (.ref a1), .val (.int (gi hd))] [(.int (sz - (1 : Int32))), (.ref a1)])) rfl rfl (hb hby d4_52)
  have Fw16 := ((F_size_a1.other W9 (Or.inl neq)).other W13 (Or.inr (slot_ne (Or.inl (hw _ (List.mem_of_getElem? (i := 24) rfl))) (Or.inl (hw _ (List.mem_of_getElem? (i := 22) rfl))) (by decide) (t := .int) (t' := .int) (by decide) (by decide)))).same W16      -- the field now holds (.int (sz - (1 : Int32)))
  have K16 : Keep h0 h16 [qu, a1] := K13.wr W16 (Or.inl (List.mem_of_getElem? (i := 1) rfl))
  have N16 := Fr.snoc X16 N13 g_a1
  obtain ⟨fs, hr, hrun, hended, hW, hsame⟩ := X16.leave (v := some (.int (gi hd))) (fun h => by rw [Bd.returns] at h; cases h)
  refine ⟨_, _, pre0 _ ?_, hrun, hended, _, _, rfl, ?_, ⟨_, rfl⟩, hW, hsame.mono (by decide) (by decide)⟩
  -- 4. STEPS
  · show Steps p.tables e below (s₁.setTop (mkF m 0 #[.val (.ref a1), .unset] [])) _
    refine XS.aloadN X0.here hx rfl (hb hby d4_0) rfl rfl ?_
    show Steps p.tables e below (s₁.setTop (mkF m 1 #[.val (.ref a1), .unset] [(.ref a1)])) _
    refine st3 _ ?_
    show Steps p.tables e below (T3.setTop (mkF m 4 #[.val (.ref a1), .unset] [(.ref it)])) _
    refine XS.aloadN X3.here hx rfl (hb hby d4_4) rfl rfl ?_
    show Steps p.tables e below (T3.setTop (mkF m 5 #[.val (.ref a1), .unset] [(.ref a1), (.ref it)])) _
    refine st5 _ ?_
    show Steps p.tables e below (T5.setTop (mkF m 8 #[.val (.ref a1), .unset] [(.int hd), (.ref it)])) _
    refine X5.iaload hx (j := hd) (v := (.int (gi hd))) (by rw [e5]; exact Ar_it.1) (State.isArrayOf_alike hZ.alike Ar_it.2.1) Ar_it.2.2 hin8 hat8 (g := (mkF m 8 #[.val (.ref a1), .unset] [(.int hd), (.ref it)])) rfl rfl (hb hby d4_8) _ ?_
    show Steps p.tables e below (T5.setTop (mkF m 9 #[.val (.ref a1), .unset] [(.int (gi hd))])) _
    refine XS.istoreN X5.here hx rfl (hb hby d4_9) rfl (l' := #[.val (.ref a1), .val (.int (gi hd))]) rfl ?_
    show Steps p.tables e below (T5.setTop (mkF m 10 #[.val (.ref a1), .val (.int (gi hd))] [])) _
    refine XS.aloadN X5.here hx rfl (hb hby d4_10) rfl rfl ?_
    show Steps p.tables e below (T5.setTop (mkF m 11 #[.val (.ref a1), .val (.int (gi hd))] [(.ref a1)])) _
    refine st8 _ ?_
    show Steps p.tables e below (T8.setTop (mkF m 14 #[.val (.ref a1), .val (.int (gi hd))] [(.ref qu)])) _
    refine XS.iloadN X8.here hx rfl (hb hby d4_14) rfl ?_
    show Steps p.tables e below (T8.setTop (mkF m 15 #[.val (.ref a1), .val (.int (gi hd))] [(.int (gi hd)), (.ref qu)])) _
    refine XS.iconst X8.here hx rfl (hb hby d4_15) ?_
    show Steps p.tables e below (T8.setTop (mkF m 16 #[.val (.ref a1), .val (.int (gi hd))] [(.int (0 : Int32)), (.int (gi hd)), (.ref qu)])) _
    refine st9 _ ?_
    show Steps p.tables e below (T9.setTop (mkF m 17 #[.val (.ref a1), .val (.int (gi hd))] [])) _
    refine XS.aloadN X9.here hx rfl (hb hby d4_17) rfl rfl ?_
    show Steps p.tables e below (T9.setTop (mkF m 18 #[.val (.ref a1), .val (.int (gi hd))] [(.ref a1)])) _
    refine XS.aloadN X9.here hx rfl (hb hby d4_18) rfl rfl ?_
    show Steps p.tables e below (T9.setTop (mkF m 19 #[.val (.ref a1), .val (.int (gi hd))] [(.ref a1), (.ref a1)])) _
    refine st10 _ ?_
    show Steps p.tables e below (T10.setTop (mkF m 22 #[.val (.ref a1), .val (.int (gi hd))] [(.int hd), (.ref a1)])) _
    refine XS.iconst X10.here hx rfl (hb hby d4_22) ?_
    show Steps p.tables e below (T10.setTop (mkF m 23 #[.val (.ref a1), .val (.int (gi hd))] [(.int (1 : Int32)), (.int hd), (.ref a1)])) _
    refine XS.iadd X10.here hx rfl (hb hby d4_23) rfl ?_
    show Steps p.tables e below (T10.setTop (mkF m 24 #[.val (.ref a1), .val (.int (gi hd))] [(.int (hd + (1 : Int32))), (.ref a1)])) _
    refine XS.aloadN X10.here hx rfl (hb hby d4_24) rfl rfl ?_
    show Steps p.tables e below (T10.setTop (mkF m 25 #[.val (.ref a1), .val (.int (gi hd))] [(.ref a1), (.int (hd + (1 : Int32))), (.ref a1)])) _
    refine st11 _ ?_
    show Steps p.tables e below (T11.setTop (mkF m 28 #[.val (.ref a1), .val (.int (gi hd))] [(.ref it), (.int (hd + (1 : Int32))), (.ref a1)])) _
    refine X11.arraylength hx (by rw [e11]; exact Ar_itb.1) (State.isArrayOf_alike hZ.alike Ar_itb.2.1) (g := (mkF m 28 #[.val (.ref a1), .val (.int (gi hd))] [(.ref it), (.int (hd + (1 : Int32))), (.ref a1)])) rfl rfl (hb hby d4_28) _ ?_
    rw [len_of S_it N_it]
    show Steps p.tables e below (T11.setTop (mkF m 29 #[.val (.ref a1), .val (.int (gi hd))] [(.int (2 : Int32)), (.int (hd + (1 : Int32))), (.ref a1)])) _
    refine XS.icmpNo X11.here hx rfl (hb hby d4_29) rfl (tlt hc29).2.1 ?_
    show Steps p.tables e below (T11.setTop (mkF m 32 #[.val (.ref a1), .val (.int (gi hd))] [(.ref a1)])) _
    refine XS.aloadN X11.here hx rfl (hb hby d4_32) rfl rfl ?_
    show Steps p.tables e below (T11.setTop (mkF m 33 #[.val (.ref a1), .val (.int (gi hd))] [(.ref a1), (.ref a1)])) _
    refine st12 _ ?_
    show Steps p.tables e below (T12.setTop (mkF m 36 #[.val (.ref a1), .val (.int (gi hd))] [(.int hd), (.ref a1)])) _
    refine XS.iconst X12.here hx rfl (hb hby d4_36) ?_
    show Steps p.tables e below (T12.setTop (mkF m 37 #[.val (.ref a1), .val (.int (gi hd))] [(.int (1 : Int32)), (.int hd), (.ref a1)])) _
    refine XS.iadd X12.here hx rfl (hb hby d4_37) rfl ?_
    show Steps p.tables e below (T12.setTop (mkF m 38 #[.val (.ref a1), .val (.int (gi hd))] [(.int (hd + (1 : Int32))), (.ref a1)])) _
    refine XS.goto X12.here hx rfl (pc0 := 38) (pc' := 42) rfl (hb hby d4_38) (by decide) (by decide) ?_
    show Steps p.tables e below (T12.setTop (mkF m 42 #[.val (.ref a1), .val (.int (gi hd))] [(.int (hd + (1 : Int32))), (.ref a1)])) _
    refine st13 _ ?_
    show Steps p.tables e below (T13.setTop (mkF m 45 #[.val (.ref a1), .val (.int (gi hd))] [])) _
    refine XS.aloadN X13.here hx rfl (hb hby d4_45) rfl rfl ?_
    show Steps p.tables e below (T13.setTop (mkF m 46 #[.val (.ref a1), .val (.int (gi hd))] [(.ref a1)])) _
    refine XS.dup X13.here hx rfl (hb hby d4_46) rfl rfl ?_
    show Steps p.tables e below (T13.setTop (mkF m 47 #[.val (.ref a1), .val (.int (gi hd))] [(.ref a1), (.ref a1)])) _
    refine st15 _ ?_
    show Steps p.tables e below (T15.setTop (mkF m 50 #[.val (.ref a1), .val (.int (gi hd))] [(.int sz), (.ref a1)])) _
    refine XS.iconst X15.here hx rfl (hb hby d4_50) ?_
    show Steps p.tables e below (T15.setTop (mkF m 51 #[.val (.ref a1), .val (.int (gi hd))] [(.int (1 : Int32)), (.int sz), (.ref a1)])) _
    refine XS.isub X15.here hx rfl (hb hby d4_51) rfl ?_
    show Steps p.tables e below (T15.setTop (mkF m 52 #[.val (.ref a1), .val (.int (gi hd))] [(.int (sz - (1 : Int32))), (.ref a1)])) _
    refine st16 _ ?_
    show Steps p.tables e below (T16.setTop (mkF m 55 #[.val (.ref a1), .val (.int (gi hd))] [])) _
    refine XS.iloadN X16.here hx rfl (hb hby d4_55) rfl ?_
    show Steps p.tables e below (T16.setTop (mkF m 56 #[.val (.ref a1), .val (.int (gi hd))] [(.int (gi hd))])) _
    exact retI X16 hx Bd.returns (hb hby d4_56) hr      -- retI stands in the head ('lawwalk <made dir>' prints it)
  · show Q4a Z _ _ _ _ _ _ _ _ _ _ _ h0 n0 _ T16.heap _
    rw [e16]
    exact ⟨rfl, N16, ((E_a1.wr W9).wr W13).wr W16, ((F_items_a1.other W9 (Or.inl neq)).other W13 (Or.inr (slot_ne (Or.inr (hw _ (List.mem_of_getElem? (i := 12) rfl))) (Or.inl (hw _ (List.mem_of_getElem? (i := 22) rfl))) (by decide) (t := (.array .int)) (t' := .int) (by decide) (by decide)))).other W16 (Or.inr (slot_ne (Or.inr (hw _ (List.mem_of_getElem? (i := 12) rfl))) (Or.inl (hw _ (List.mem_of_getElem? (i := 24) rfl))) (by decide) (t := (.array .int)) (t' := .int) (by decide) (by decide))), ((F_queued_a1.other W9 (Or.inl neq)).other W13 (Or.inr (slot_ne (Or.inr (hw _ (List.mem_of_getElem? (i := 15) rfl))) (Or.inl (hw _ (List.mem_of_getElem? (i := 22) rfl))) (by decide) (t := (.array .boolean)) (t' := .int) (by decide) (by decide)))).other W16 (Or.inr (slot_ne (Or.inr (hw _ (List.mem_of_getElem? (i := 15) rfl))) (Or.inl (hw _ (List.mem_of_getElem? (i := 24) rfl))) (by decide) (t := (.array .boolean)) (t' := .int) (by decide) (by decide))), Fw13.other W16 (Or.inr (slot_ne (Or.inl (hw _ (List.mem_of_getElem? (i := 22) rfl))) (Or.inl (hw _ (List.mem_of_getElem? (i := 24) rfl))) (by decide) (t := .int) (t' := .int) (by decide) (by decide))), Fw16, ⟨_, (Ar_itb.other W13 (Ne.symm nei)).other W16 (Ne.symm nei), ⟨S_it, N_it, V_it⟩⟩, ⟨_, ((Ar_qu.same W9).other W13 (Ne.symm neq)).other W16 (Ne.symm neq), own_AT_set ⟨S_qu, N_qu, V_qu⟩ hin16⟩, nei, neq, niq, g_a1, g_it, g_qu⟩
theorem d4_41 : decode prog_59_method_5_code 41 = .ok (.iconst 0, 1) := by decide +kernel
def Q4b (Z : State) (a1 : Addr) (it : Addr) (qu : Addr) (nb : Int32) (gi : Int32 → Int32) (fq : Int32 → Int32) (hd : Int32) (sz : Int32) (rv : Int32) (hd' : Int32) (sz' : Int32) (h0 : Heap) (n0 : Nat) (v : Option Value) (h : Heap) (L : List Loc) : Prop := v = some (.int rv) ∧ Fr n0 L ∧ own_IQ Z h n0 a1 it qu nb gi (own_upd fq rv 0) hd' sz'
set_option maxRecDepth 65536 in
set_option maxHeartbeats 40000000 in
theorem rm4b (l : Launch) (Z : State) (a0 : Array Value) (hw : ∀ d ∈ tables_1, d.before a0 Z = true) (ws : List Jvm.Cond) (a1 : Addr) (it : Addr) (qu : Addr) (nb : Int32) (gi : Int32 → Int32) (fq : Int32 → Int32) (hd : Int32) (sz : Int32) (rv : Int32) (hd' : Int32) (sz' : Int32) (h0 : Heap) (n0 : Nat) (Z0 : n0 ≤ h0.size) (I0 : own_IQ Z h0 n0 a1 it qu nb gi fq hd sz) (hr0 : gi hd = rv) (hp : ¬ rv < 0 ∧ rv < nb) (hhd : ¬ hd < 0 ∧ hd < 2) (hhd' : (0 : Int32) = hd') (hsz : (sz - (1 : Int32)) = sz') (hc29 : ¬ ((hd + (1 : Int32)) < (2 : Int32))) :
    MetFree l (⟨"com/example/weftmap/weftmap/engine/place/IndexQueue", "poll", "()I"⟩ : MethodName) (head1 (Jvm.Cond.code (⟨"com/example/weftmap/weftmap/engine/place/IndexQueue", "poll", "()I"⟩ : MethodName) prog_59_method_5_code 2 (some .int) :: ws) ({ frames := 0, cells := 0, slots := 0, locals := 0 } : Room)) (fun a U => a = #[(.ref a1)] ∧ Z.Warmed39 U.vm ∧ U.heap = h0) (fun _ _ _ _ _ => True) (fun _ U o U' => ∃ v L, o = .returned v ∧ Q4b Z a1 it qu nb gi fq hd sz rv hd' sz' h0 n0 v U'.heap L ∧ FrameEnd U o U' L ({ frames := 0, cells := 0, slots := 0, locals := 0 } : Room).cells ({ frames := 0, cells := 0, slots := 0, locals := 0 } : Room).slots) := by
  refine MetFree.of_bodySF (plainFor_of_name pn_4) hisR ?_
  intro p e s m args below meth c s₁ Bd hml0 hP hK
  obtain ⟨rfl, hZ, hh⟩ := hP
  subst hr0 hhd' hsz
  obtain ⟨E_a1, F_items_a1, F_queued_a1, F_head_a1, F_size_a1, ⟨cl_it, Ar_it, S_it, N_it, V_it⟩, ⟨cl_qu, Ar_qu, S_qu, N_qu, V_qu⟩, nei, neq, niq, g_a1, g_it, g_qu⟩ := I0
  have hin8 : ¬ (hd < 0 ∨ cl_it.slots.size ≤ (hd).toNatClampNeg) := inb_of S_it hhd
  have hat8 := V_it hd hin8
  have hin16 : ¬ ((gi hd) < 0 ∨ cl_qu.slots.size ≤ (gi hd).toNatClampNeg) := inb_of S_qu hp
  have hx := Bd.exec
  have hby := Bd.bytes
  have hml : c.maxLocals = 2 := hml0
  have hown : s.vm.findClass "com/example/weftmap/weftmap/engine/place/IndexQueue" = some m.cls := findClass_of_methodNamed Bd.named
  have hnm := (name_of_methodNamed Bd.named Bd.method).1
  have X0 : Stand p l e ({ frames := 0, cells := 0, slots := 0, locals := 0 } : Room) s m #[(.ref a1)] below meth c s₁ [] 0 0 := Stand.of_body Bd
  have e0 : s₁.heap = h0 := by rw [← hh, Bd.state]; rfl
  have N0 := Fr.nil n0
  have pre0 : ∀ t, Steps p.tables e below (s₁.setTop (mkF m 0 #[.val (.ref a1), .unset] [])) t → Steps p.tables e below (s₁.setTop (entryFrame m #[(.ref a1)] 2)) t := fun t k => castTop (ef_4 m a1) k
  -- 3. LAWS
  obtain ⟨T3, X3, e3, st3⟩ := getF X0 hx hZ hown (host := "") (Or.inl (hw _ (List.mem_of_getElem? (i := 11) rfl))) Via.refl e0 F_items_a1 (g := (mkF m 1 #[.val (.ref a1), .unset] [(.ref a1)])) rfl rfl (hb hby d4_1)
  obtain ⟨T5, X5, e5, st5⟩ := getF X3 hx hZ hown (host := "") (Or.inl (hw _ (List.mem_of_getElem? (i := 21) rfl))) Via.refl e3 F_head_a1 (g := (mkF m 5 #[.val (.ref a1), .unset] [(.ref a1), (.ref it)])) rfl rfl (hb hby d4_5)
  obtain ⟨T8, X8, e8, st8⟩ := getF X5 hx hZ hown (host := "") (Or.inl (hw _ (List.mem_of_getElem? (i := 14) rfl))) Via.refl e5 F_queued_a1 (g := (mkF m 11 #[.val (.ref a1), .val (.int (gi hd))] [(.ref a1)])) rfl rfl (hb hby d4_11)
  obtain ⟨T9, h9, X9, e9, W9, st9⟩ := stZ X8 hx hZ e8 Ar_qu (j := (gi hd)) hin16 (g := (mkF m 16 #[.val (.ref a1), .val (.int (gi hd))] [(.int (0 : Int32)), (.int (gi hd)), (.ref qu)])) rfl rfl (hb hby d4_16)
  rw [own_nar0] at W9
  have Ar_itb := Ar_it.other W9 niq
  have N9 := Fr.snoc X9 N0 g_qu
  -- Ar_qu.same W9 : the array with (.int (0 : Int32)) at the place (gi hd)
  have K9 : Keep h0 h9 [qu, a1] := (Keep.refl h0 [qu, a1]).wr W9 (Or.inl (List.mem_of_getElem? (i := 0) rfl))
  obtain ⟨T10, X10, e10, st10⟩ := getF X9 hx hZ hown (host := "") (Or.inl (hw _ (List.mem_of_getElem? (i := 21) rfl))) Via.refl e9 (F_head_a1.other W9 (Or.inl neq)) (g := (mkF m 19 #[.val (.ref a1), .val (.int (gi hd))] [(.ref a1), (.ref a1)])) rfl rfl (hb hby d4_19)
  obtain ⟨T11, X11, e11, st11⟩ := getF X10 hx hZ hown (host := "") (Or.inl (hw _ (List.mem_of_getElem? (i := 11) rfl))) Via.refl e10 (F_items_a1.other W9 (Or.inl neq)) (g := (mkF m 25 #[.val (.ref a1), .val (.int (gi hd))] [(.ref a1), (.int (hd + (1 : Int32))), (.ref a1)])) rfl rfl (hb hby d4_25)
  obtain ⟨T12, h12, X12, e12, W12, st12⟩ := putF X11 hx hZ hown (host := "") (Or.inl (hw _ (List.mem_of_getElem? (i := 21) rfl))) Via.refl e11 (F_head_a1.other W9 (Or.inl neq)) (E_a1.wr W9) (Or.inl (hw _ (List.mem_of_getElem? (i := 22) rfl))) (hw _ (List.mem_of_getElem? (i := 2) rfl)) (ty := .int) (by decide) rfl rfl (g := (mkF m 42 #[.val (.ref a1), .val (.int (gi hd))] [(.int (0 : Int32)), (.ref a1)])) rfl rfl (hb hby d4_42)
  have Fw12 := (F_head_a1.other W9 (Or.inl neq)).same W12      -- the field now holds (.int (0 : Int32))
  have K12 : Keep h0 h12 [qu, a1] := K9.wr W12 (Or.inl (List.mem_of_getElem? (i := 1) rfl))
  have N12 := Fr.snoc X12 N9 g_a1
  obtain ⟨T14, X14, e14, st14⟩ := getF X12 hx hZ hown (host := "") (Or.inl (hw _ (List.mem_of_getElem? (i := 23) rfl))) Via.refl e12 ((F_size_a1.other W9 (Or.inl neq)).other W12 (Or.inr (slot_ne (Or.inl (hw _ (List.mem_of_getElem? (i := 24) rfl))) (Or.inl (hw _ (List.mem_of_getElem? (i := 22) rfl))) (by decide) (t := .int) (t' := .int) (by decide) (by decide)))) (g := (mkF m 47 #[.val (.ref a1), .val (.int (gi hd))] [(.ref a1), (.ref a1)])) rfl rfl (hb hby d4_47)
  obtain ⟨T15, h15, X15, e15, W15, st15⟩ := putF X14 hx hZ hown (host := "") (Or.inl (hw _ (List.mem_of_getElem? (i := 23) rfl))) Via.refl e14 ((F_size_a1.other W9 (Or.inl neq)).other W12 (Or.inr (slot_ne (Or.inl (hw _ (List.mem_of_getElem? (i := 24) rfl))) (Or.inl (hw _ (List.mem_of_getElem? (i := 22) rfl))) (by decide) (t := .int) (t' := .int) (by decide) (by decide)))) ((E_a1.wr W9).wr W12) (Or.inl (hw _ (List.mem_of_getElem? (i := 24) rfl))) (hw _ (List.mem_of_getElem? (i := 2) rfl)) (ty := .int) (by decide) rfl rfl (g := (mkF m 52 #[.val (.ref a1), .val (.int (gi hd))] [(.int (sz - (1 : Int32))), (.ref a1)])) rfl rfl (hb hby d4_52)
  have Fw15 := ((F_size_a1.other W9 (Or.inl neq)).other W12 (Or.inr (slot_ne (Or.inl (hw _ (List.mem_of_getElem? (i := 24) rfl))) (Or.inl (hw _ (List.mem_of_getElem? (i := 22) rfl))) (by decide) (t := .int) (t' := .int) (by decide) (by decide)))).same W15      -- the field now holds (.int (sz - (1 : Int32)))
  have K15 : Keep h0 h15 [qu, a1] := K12.wr W15 (Or.inl (List.mem_of_getElem? (i := 1) rfl))
  have N15 := Fr.snoc X15 N12 g_a1
  obtain ⟨fs, hr, hrun, hended, hW, hsame⟩ := X15.leave (v := some (.int (gi hd))) (fun h => by rw [Bd.returns] at h; cases h)
  refine ⟨_, _, pre0 _ ?_, hrun, hended, _, _, rfl, ?_, ⟨_, rfl⟩, hW, hsame.mono (by decide) (by decide)⟩
  -- 4. STEPS
  · show Steps p.tables e below (s₁.setTop (mkF m 0 #[.val (.ref a1), .unset] [])) _
    refine XS.aloadN X0.here hx rfl (hb hby d4_0) rfl rfl ?_
    show Steps p.tables e below (s₁.setTop (mkF m 1 #[.val (.ref a1), .unset] [(.ref a1)])) _
    refine st3 _ ?_
    show Steps p.tables e below (T3.setTop (mkF m 4 #[.val (.ref a1), .unset] [(.ref it)])) _
    refine XS.aloadN X3.here hx rfl (hb hby d4_4) rfl rfl ?_
    show Steps p.tables e below (T3.setTop (mkF m 5 #[.val (.ref a1), .unset] [(.ref a1), (.ref it)])) _
    refine st5 _ ?_
    show Steps p.tables e below (T5.setTop (mkF m 8 #[.val (.ref a1), .unset] [(.int hd), (.ref it)])) _
    refine X5.iaload hx (j := hd) (v := (.int (gi hd))) (by rw [e5]; exact Ar_it.1) (State.isArrayOf_alike hZ.alike Ar_it.2.1) Ar_it.2.2 hin8 hat8 (g := (mkF m 8 #[.val (.ref a1), .unset] [(.int hd), (.ref it)])) rfl rfl (hb hby d4_8) _ ?_
    show Steps p.tables e below (T5.setTop (mkF m 9 #[.val (.ref a1), .unset] [(.int (gi hd))])) _
    refine XS.istoreN X5.here hx rfl (hb hby d4_9) rfl (l' := #[.val (.ref a1), .val (.int (gi hd))]) rfl ?_
    show Steps p.tables e below (T5.setTop (mkF m 10 #[.val (.ref a1), .val (.int (gi hd))] [])) _
    refine XS.aloadN X5.here hx rfl (hb hby d4_10) rfl rfl ?_
    show Steps p.tables e below (T5.setTop (mkF m 11 #[.val (.ref a1), .val (.int (gi hd))] [(.ref a1)])) _
    refine st8 _ ?_
    show Steps p.tables e below (T8.setTop (mkF m 14 #[.val (.ref a1), .val (.int (gi hd))] [(.ref qu)])) _
    refine XS.iloadN X8.here hx rfl (hb hby d4_14) rfl ?_
    show Steps p.tables e below (T8.setTop (mkF m 15 #[.val (.ref a1), .val (.int (gi hd))] [(.int (gi hd)), (.ref qu)])) _
    refine XS.iconst X8.here hx rfl (hb hby d4_15) ?_
    show Steps p.tables e below (T8.setTop (mkF m 16 #[.val (.ref a1), .val (.int (gi hd))] [(.int (0 : Int32)), (.int (gi hd)), (.ref qu)])) _
    refine st9 _ ?_
    show Steps p.tables e below (T9.setTop (mkF m 17 #[.val (.ref a1), .val (.int (gi hd))] [])) _
    refine XS.aloadN X9.here hx rfl (hb hby d4_17) rfl rfl ?_
    show Steps p.tables e below (T9.setTop (mkF m 18 #[.val (.ref a1), .val (.int (gi hd))] [(.ref a1)])) _
    refine XS.aloadN X9.here hx rfl (hb hby d4_18) rfl rfl ?_
    show Steps p.tables e below (T9.setTop (mkF m 19 #[.val (.ref a1), .val (.int (gi hd))] [(.ref a1), (.ref a1)])) _
    refine st10 _ ?_
    show Steps p.tables e below (T10.setTop (mkF m 22 #[.val (.ref a1), .val (.int (gi hd))] [(.int hd), (.ref a1)])) _
    refine XS.iconst X10.here hx rfl (hb hby d4_22) ?_
    show Steps p.tables e below (T10.setTop (mkF m 23 #[.val (.ref a1), .val (.int (gi hd))] [(.int (1 : Int32)), (.int hd), (.ref a1)])) _
    refine XS.iadd X10.here hx rfl (hb hby d4_23) rfl ?_
    show Steps p.tables e below (T10.setTop (mkF m 24 #[.val (.ref a1), .val (.int (gi hd))] [(.int (hd + (1 : Int32))), (.ref a1)])) _
    refine XS.aloadN X10.here hx rfl (hb hby d4_24) rfl rfl ?_
    show Steps p.tables e below (T10.setTop (mkF m 25 #[.val (.ref a1), .val (.int (gi hd))] [(.ref a1), (.int (hd + (1 : Int32))), (.ref a1)])) _
    refine st11 _ ?_
    show Steps p.tables e below (T11.setTop (mkF m 28 #[.val (.ref a1), .val (.int (gi hd))] [(.ref it), (.int (hd + (1 : Int32))), (.ref a1)])) _
    refine X11.arraylength hx (by rw [e11]; exact Ar_itb.1) (State.isArrayOf_alike hZ.alike Ar_itb.2.1) (g := (mkF m 28 #[.val (.ref a1), .val (.int (gi hd))] [(.ref it), (.int (hd + (1 : Int32))), (.ref a1)])) rfl rfl (hb hby d4_28) _ ?_
    rw [len_of S_it N_it]
    show Steps p.tables e below (T11.setTop (mkF m 29 #[.val (.ref a1), .val (.int (gi hd))] [(.int (2 : Int32)), (.int (hd + (1 : Int32))), (.ref a1)])) _
    refine XS.icmpYes X11.here hx rfl (pc0 := 29) (pc' := 41) rfl (hb hby d4_29) rfl (flt hc29).2.1 (by decide) (by decide) ?_
    show Steps p.tables e below (T11.setTop (mkF m 41 #[.val (.ref a1), .val (.int (gi hd))] [(.ref a1)])) _
    refine XS.iconst X11.here hx rfl (hb hby d4_41) ?_
    show Steps p.tables e below (T11.setTop (mkF m 42 #[.val (.ref a1), .val (.int (gi hd))] [(.int (0 : Int32)), (.ref a1)])) _
    refine st12 _ ?_
    show Steps p.tables e below (T12.setTop (mkF m 45 #[.val (.ref a1), .val (.int (gi hd))] [])) _
    refine XS.aloadN X12.here hx rfl (hb hby d4_45) rfl rfl ?_
    show Steps p.tables e below (T12.setTop (mkF m 46 #[.val (.ref a1), .val (.int (gi hd))] [(.ref a1)])) _
    refine XS.dup X12.here hx rfl (hb hby d4_46) rfl rfl ?_
    show Steps p.tables e below (T12.setTop (mkF m 47 #[.val (.ref a1), .val (.int (gi hd))] [(.ref a1), (.ref a1)])) _
    refine st14 _ ?_
    show Steps p.tables e below (T14.setTop (mkF m 50 #[.val (.ref a1), .val (.int (gi hd))] [(.int sz), (.ref a1)])) _
    refine XS.iconst X14.here hx rfl (hb hby d4_50) ?_
    show Steps p.tables e below (T14.setTop (mkF m 51 #[.val (.ref a1), .val (.int (gi hd))] [(.int (1 : Int32)), (.int sz), (.ref a1)])) _
    refine XS.isub X14.here hx rfl (hb hby d4_51) rfl ?_
    show Steps p.tables e below (T14.setTop (mkF m 52 #[.val (.ref a1), .val (.int (gi hd))] [(.int (sz - (1 : Int32))), (.ref a1)])) _
    refine st15 _ ?_
    show Steps p.tables e below (T15.setTop (mkF m 55 #[.val (.ref a1), .val (.int (gi hd))] [])) _
    refine XS.iloadN X15.here hx rfl (hb hby d4_55) rfl ?_
    show Steps p.tables e below (T15.setTop (mkF m 56 #[.val (.ref a1), .val (.int (gi hd))] [(.int (gi hd))])) _
    exact retI X15 hx Bd.returns (hb hby d4_56) hr      -- retI stands in the head ('lawwalk <made dir>' prints it)
  · show Q4b Z _ _ _ _ _ _ _ _ _ _ _ h0 n0 _ T15.heap _
    rw [e15]
    exact ⟨rfl, N15, ((E_a1.wr W9).wr W12).wr W15, ((F_items_a1.other W9 (Or.inl neq)).other W12 (Or.inr (slot_ne (Or.inr (hw _ (List.mem_of_getElem? (i := 12) rfl))) (Or.inl (hw _ (List.mem_of_getElem? (i := 22) rfl))) (by decide) (t := (.array .int)) (t' := .int) (by decide) (by decide)))).other W15 (Or.inr (slot_ne (Or.inr (hw _ (List.mem_of_getElem? (i := 12) rfl))) (Or.inl (hw _ (List.mem_of_getElem? (i := 24) rfl))) (by decide) (t := (.array .int)) (t' := .int) (by decide) (by decide))), ((F_queued_a1.other W9 (Or.inl neq)).other W12 (Or.inr (slot_ne (Or.inr (hw _ (List.mem_of_getElem? (i := 15) rfl))) (Or.inl (hw _ (List.mem_of_getElem? (i := 22) rfl))) (by decide) (t := (.array .boolean)) (t' := .int) (by decide) (by decide)))).other W15 (Or.inr (slot_ne (Or.inr (hw _ (List.mem_of_getElem? (i := 15) rfl))) (Or.inl (hw _ (List.mem_of_getElem? (i := 24) rfl))) (by decide) (t := (.array .boolean)) (t' := .int) (by decide) (by decide))), Fw12.other W15 (Or.inr (slot_ne (Or.inl (hw _ (List.mem_of_getElem? (i := 22) rfl))) (Or.inl (hw _ (List.mem_of_getElem? (i := 24) rfl))) (by decide) (t := .int) (t' := .int) (by decide) (by decide))), Fw15, ⟨_, (Ar_itb.other W12 (Ne.symm nei)).other W15 (Ne.symm nei), ⟨S_it, N_it, V_it⟩⟩, ⟨_, ((Ar_qu.same W9).other W12 (Ne.symm neq)).other W15 (Ne.symm neq), own_AT_set ⟨S_qu, N_qu, V_qu⟩ hin16⟩, nei, neq, niq, g_a1, g_it, g_qu⟩
theorem d5_0 : decode prog_59_method_3_code 0 = .ok (.aload_n 0, 1) := by decide +kernel
theorem d5_1 : decode prog_59_method_3_code 1 = .ok (.getfield 20, 3) := by decide +kernel
theorem d5_4 : decode prog_59_method_3_code 4 = .ok (.ifCond .ne 7, 3) := by decide +kernel
theorem d5_7 : decode prog_59_method_3_code 7 = .ok (.iconst 1, 1) := by decide +kernel
theorem d5_8 : decode prog_59_method_3_code 8 = .ok (.goto 4, 3) := by decide +kernel
theorem d5_12 : decode prog_59_method_3_code 12 = .ok (.ireturn, 1) := by decide +kernel
theorem pn_5 : plainName "com/example/weftmap/weftmap/engine/place/IndexQueue" = true := by first | (simp [plainName, overriddenIn]; done) | decide +kernel
theorem ef_5 (m : MethodId) (x0 : Addr) : entryFrame m #[(.ref x0)] 1 = mkF m 0 #[.val (.ref x0)] [] := by first | (simp [entryFrame, mkF, argsToLocals, Value.category]; done) | rfl
def Q5 (Z : State) (a1 : Addr) (w2 : Int32) (h0 : Heap) (n0 : Nat) (v : Option Value) (h : Heap) (L : List Loc) : Prop := v = some (.int (1 : Int32)) ∧ Fr n0 L ∧ h = h0
set_option maxRecDepth 65536 in
set_option maxHeartbeats 40000000 in
theorem rm5 (l : Launch) (Z : State) (a0 : Array Value) (hw : ∀ d ∈ tables_1, d.before a0 Z = true) (ws : List Jvm.Cond) (a1 : Addr) (w2 : Int32) (h0 : Heap) (n0 : Nat) (Z0 : n0 ≤ h0.size) (F_size_a1 : Fld Z h0 a1 "com/example/weftmap/weftmap/engine/place/IndexQueue" "size" "I" (.int w2)) (hc4 : w2 = (0 : Int32)) :
    MetFree l (⟨"com/example/weftmap/weftmap/engine/place/IndexQueue", "isEmpty", "()Z"⟩ : MethodName) (head1 (Jvm.Cond.code (⟨"com/example/weftmap/weftmap/engine/place/IndexQueue", "isEmpty", "()Z"⟩ : MethodName) prog_59_method_3_code 1 (some .boolean) :: ws) ({ frames := 0, cells := 0, slots := 0, locals := 0 } : Room)) (fun a U => a = #[(.ref a1)] ∧ Z.Warmed39 U.vm ∧ U.heap = h0) (fun _ _ _ _ _ => True) (fun _ U o U' => ∃ v L, o = .returned v ∧ Q5 Z a1 w2 h0 n0 v U'.heap L ∧ FrameEnd U o U' L ({ frames := 0, cells := 0, slots := 0, locals := 0 } : Room).cells ({ frames := 0, cells := 0, slots := 0, locals := 0 } : Room).slots) := by
  refine MetFree.of_bodySF (plainFor_of_name pn_5) hisR ?_
  intro p e s m args below meth c s₁ Bd hml0 hP hK
  obtain ⟨rfl, hZ, hh⟩ := hP
  have hx := Bd.exec
  have hby := Bd.bytes
  have hml : c.maxLocals = 1 := hml0
  have hown : s.vm.findClass "com/example/weftmap/weftmap/engine/place/IndexQueue" = some m.cls := findClass_of_methodNamed Bd.named
  have hnm := (name_of_methodNamed Bd.named Bd.method).1
  have X0 : Stand p l e ({ frames := 0, cells := 0, slots := 0, locals := 0 } : Room) s m #[(.ref a1)] below meth c s₁ [] 0 0 := Stand.of_body Bd
  have e0 : s₁.heap = h0 := by rw [← hh, Bd.state]; rfl
  have N0 := Fr.nil n0
  have pre0 : ∀ t, Steps p.tables e below (s₁.setTop (mkF m 0 #[.val (.ref a1)] [])) t → Steps p.tables e below (s₁.setTop (entryFrame m #[(.ref a1)] 1)) t := fun t k => castTop (ef_5 m a1) k
  -- 3. LAWS
  obtain ⟨T3, X3, e3, st3⟩ := getF X0 hx hZ hown (host := "") (Or.inl (hw _ (List.mem_of_getElem? (i := 23) rfl))) Via.refl e0 F_size_a1 (g := (mkF m 1 #[.val (.ref a1)] [(.ref a1)])) rfl rfl (hb hby d5_1)
  obtain ⟨fs, hr, hrun, hended, hW, hsame⟩ := X3.leave (v := some (.int (1 : Int32))) (fun h => by rw [Bd.returns] at h; cases h)
  refine ⟨_, _, pre0 _ ?_, hrun, hended, _, _, rfl, ?_, ⟨_, rfl⟩, hW, hsame.mono (by decide) (by decide)⟩
  -- 4. STEPS
  · show Steps p.tables e below (s₁.setTop (mkF m 0 #[.val (.ref a1)] [])) _
    refine XS.aloadN X0.here hx rfl (hb hby d5_0) rfl rfl ?_
    show Steps p.tables e below (s₁.setTop (mkF m 1 #[.val (.ref a1)] [(.ref a1)])) _
    refine st3 _ ?_
    show Steps p.tables e below (T3.setTop (mkF m 4 #[.val (.ref a1)] [(.int w2)])) _
    refine XS.ifNo X3.here hx rfl (hb hby d5_4) rfl ((if0 _ _).trans (teq hc4).2) ?_
    show Steps p.tables e below (T3.setTop (mkF m 7 #[.val (.ref a1)] [])) _
    refine XS.iconst X3.here hx rfl (hb hby d5_7) ?_
    show Steps p.tables e below (T3.setTop (mkF m 8 #[.val (.ref a1)] [(.int (1 : Int32))])) _
    refine XS.goto X3.here hx rfl (pc0 := 8) (pc' := 12) rfl (hb hby d5_8) (by decide) (by decide) ?_
    show Steps p.tables e below (T3.setTop (mkF m 12 #[.val (.ref a1)] [(.int (1 : Int32))])) _
    exact retN X3 hx (t := .boolean) Bd.returns (by simp) (hb hby d5_12) hr
  · show Q5 Z a1 w2 h0 n0 _ T3.heap _
    rw [e3]
    exact ⟨rfl, N0, rfl⟩
theorem d5_11 : decode prog_59_method_3_code 11 = .ok (.iconst 0, 1) := by decide +kernel
def Q5b (Z : State) (a1 : Addr) (w2 : Int32) (h0 : Heap) (n0 : Nat) (v : Option Value) (h : Heap) (L : List Loc) : Prop := v = some (.int (0 : Int32)) ∧ Fr n0 L ∧ h = h0
set_option maxRecDepth 65536 in
set_option maxHeartbeats 40000000 in
theorem rm5b (l : Launch) (Z : State) (a0 : Array Value) (hw : ∀ d ∈ tables_1, d.before a0 Z = true) (ws : List Jvm.Cond) (a1 : Addr) (w2 : Int32) (h0 : Heap) (n0 : Nat) (Z0 : n0 ≤ h0.size) (F_size_a1 : Fld Z h0 a1 "com/example/weftmap/weftmap/engine/place/IndexQueue" "size" "I" (.int w2)) (hc4 : ¬ (w2 = (0 : Int32))) :
    MetFree l (⟨"com/example/weftmap/weftmap/engine/place/IndexQueue", "isEmpty", "()Z"⟩ : MethodName) (head1 (Jvm.Cond.code (⟨"com/example/weftmap/weftmap/engine/place/IndexQueue", "isEmpty", "()Z"⟩ : MethodName) prog_59_method_3_code 1 (some .boolean) :: ws) ({ frames := 0, cells := 0, slots := 0, locals := 0 } : Room)) (fun a U => a = #[(.ref a1)] ∧ Z.Warmed39 U.vm ∧ U.heap = h0) (fun _ _ _ _ _ => True) (fun _ U o U' => ∃ v L, o = .returned v ∧ Q5b Z a1 w2 h0 n0 v U'.heap L ∧ FrameEnd U o U' L ({ frames := 0, cells := 0, slots := 0, locals := 0 } : Room).cells ({ frames := 0, cells := 0, slots := 0, locals := 0 } : Room).slots) := by
  refine MetFree.of_bodySF (plainFor_of_name pn_5) hisR ?_
  intro p e s m args below meth c s₁ Bd hml0 hP hK
  obtain ⟨rfl, hZ, hh⟩ := hP
  have hx := Bd.exec
  have hby := Bd.bytes
  have hml : c.maxLocals = 1 := hml0
  have hown : s.vm.findClass "com/example/weftmap/weftmap/engine/place/IndexQueue" = some m.cls := findClass_of_methodNamed Bd.named
  have hnm := (name_of_methodNamed Bd.named Bd.method).1
  have X0 : Stand p l e ({ frames := 0, cells := 0, slots := 0, locals := 0 } : Room) s m #[(.ref a1)] below meth c s₁ [] 0 0 := Stand.of_body Bd
  have e0 : s₁.heap = h0 := by rw [← hh, Bd.state]; rfl
  have N0 := Fr.nil n0
  have pre0 : ∀ t, Steps p.tables e below (s₁.setTop (mkF m 0 #[.val (.ref a1)] [])) t → Steps p.tables e below (s₁.setTop (entryFrame m #[(.ref a1)] 1)) t := fun t k => castTop (ef_5 m a1) k
  -- 3. LAWS
  obtain ⟨T3, X3, e3, st3⟩ := getF X0 hx hZ hown (host := "") (Or.inl (hw _ (List.mem_of_getElem? (i := 23) rfl))) Via.refl e0 F_size_a1 (g := (mkF m 1 #[.val (.ref a1)] [(.ref a1)])) rfl rfl (hb hby d5_1)
  obtain ⟨fs, hr, hrun, hended, hW, hsame⟩ := X3.leave (v := some (.int (0 : Int32))) (fun h => by rw [Bd.returns] at h; cases h)
  refine ⟨_, _, pre0 _ ?_, hrun, hended, _, _, rfl, ?_, ⟨_, rfl⟩, hW, hsame.mono (by decide) (by decide)⟩
  -- 4. STEPS
  · show Steps p.tables e below (s₁.setTop (mkF m 0 #[.val (.ref a1)] [])) _
    refine XS.aloadN X0.here hx rfl (hb hby d5_0) rfl rfl ?_
    show Steps p.tables e below (s₁.setTop (mkF m 1 #[.val (.ref a1)] [(.ref a1)])) _
    refine st3 _ ?_
    show Steps p.tables e below (T3.setTop (mkF m 4 #[.val (.ref a1)] [(.int w2)])) _
    refine XS.ifYes X3.here hx rfl (pc0 := 4) (pc' := 11) rfl (hb hby d5_4) rfl ((if0 _ _).trans (feq hc4).2) (by decide) (by decide) ?_
    show Steps p.tables e below (T3.setTop (mkF m 11 #[.val (.ref a1)] [])) _
    refine XS.iconst X3.here hx rfl (hb hby d5_11) ?_
    show Steps p.tables e below (T3.setTop (mkF m 12 #[.val (.ref a1)] [(.int (0 : Int32))])) _
    exact retN X3 hx (t := .boolean) Bd.returns (by simp) (hb hby d5_12) hr
  · show Q5b Z a1 w2 h0 n0 _ T3.heap _
    rw [e3]
    exact ⟨rfl, N0, rfl⟩
theorem pn_0 : plainName "com/example/weftmap/weftmap/engine/place/IndexQueueAddPinLaw" = true := by first | (simp [plainName, overriddenIn]; done) | decide +kernel
theorem pd_0_0 : parseMethodDescriptor "(II)V" = some ⟨[.int, .int], none⟩ := by decide +kernel
theorem pd_0_2 : parseMethodDescriptor "(I)V" = some ⟨[.int], none⟩ := by decide +kernel
theorem pd_0_3 : parseMethodDescriptor "()I" = some ⟨[], some .int⟩ := by decide +kernel
theorem pd_0_4 : parseMethodDescriptor "()Z" = some ⟨[], some .boolean⟩ := by decide +kernel
theorem ef_0 (m : MethodId) (x0 : Int32) (x1 : Int32) (x2 : Int32) (x3 : Int32) : entryFrame m #[(.int x0), (.int x1), (.int x2), (.int x3)] maxLocals = mkF m 0 #[.val (.int x0), .val (.int x1), .val (.int x2), .val (.int x3), .unset, .unset, .unset, .unset, .unset, .unset, .unset, .unset, .unset] [] := by first | (simp [entryFrame, mkF, argsToLocals, Value.category, maxLocals]; done) | rfl
def Q0 (Z : State) (p1 : Int32) (p2 : Int32) (p3 : Int32) (p4 : Int32) (h0 : Heap) (n0 : Nat) (v : Option Value) (h : Heap) (L : List Loc) : Prop := v = some (.int (1 : Int32)) ∧ Fr n0 L
set_option maxRecDepth 65536 in
set_option maxHeartbeats 40000000 in
theorem rm0_1 (l : Launch) (Z : State) (a0 : Array Value) (hw : ∀ d ∈ tables_1, d.before a0 Z = true) (ws : List Jvm.Cond) (p1 : Int32) (p2 : Int32) (p3 : Int32) (p4 : Int32) (nb : Int32) (va : Int32) (vb : Int32) (vc : Int32) (hnb : nb = ((1 : Int32) + (p1 &&& (7 : Int32)))) (hva : va = ((p2 &&& (2147483647 : Int32)) - ((p2 &&& (2147483647 : Int32)) / ((1 : Int32) + (p1 &&& (7 : Int32)))) * ((1 : Int32) + (p1 &&& (7 : Int32))))) (hvb : vb = ((p3 &&& (2147483647 : Int32)) - ((p3 &&& (2147483647 : Int32)) / ((1 : Int32) + (p1 &&& (7 : Int32)))) * ((1 : Int32) + (p1 &&& (7 : Int32))))) (hvc : vc = ((p4 &&& (2147483647 : Int32)) - ((p4 &&& (2147483647 : Int32)) / ((1 : Int32) + (p1 &&& (7 : Int32)))) * ((1 : Int32) + (p1 &&& (7 : Int32))))) (h0 : Heap) (n0 : Nat) (Z0 : n0 ≤ h0.size) (hnz14 : ¬ (nb = (0 : Int32))) (hnz23 : ¬ (nb = (0 : Int32))) (hnz32 : ¬ (nb = (0 : Int32))) (hc68 : va = va) (hc89 : vb = va) (hc134 : ¬ ((1 : Int32) = (0 : Int32))) (hc142 : (0 : Int32) = (0 : Int32)) (hc154 : ¬ ((1 : Int32) = (0 : Int32))) (hc164 : vc = vc) (hc177 : ¬ ((1 : Int32) = (2 : Int32))) (hc204 : ¬ ((1 : Int32) = (0 : Int32))) (hc212 : ¬ ((1 : Int32) = (0 : Int32))) (hn3 : ¬ nb < 0) (hcap3 : nb.toNatClampNeg ≤ 8) (ra : ¬ va < 0 ∧ va < nb) (rb : ¬ vb < 0 ∧ vb < nb) (rc : ¬ vc < 0 ∧ vc < nb) (hba : vb = va) :
    MetFree l x (head1 (Jvm.Cond.code x code maxLocals ret :: ws) room_1) (fun a U => a = #[(.int p1), (.int p2), (.int p3), (.int p4)] ∧ Z.Warmed39 U.vm ∧ U.heap = h0) (fun _ _ _ _ _ => True) (fun _ U o U' => ∃ v L, o = .returned v ∧ Q0 Z p1 p2 p3 p4 h0 n0 v U'.heap L ∧ FrameEnd U o U' L room_1.cells room_1.slots) := by
  refine MetFree.of_bodySF (plainFor_of_name pn_0) hisR ?_
  intro p e s m args below meth c s₁ Bd hml0 hP hK
  obtain ⟨rfl, hZ, hh⟩ := hP
  have hx := Bd.exec
  have hby := Bd.bytes
  have hml : c.maxLocals = 13 := hml0
  have hown : s.vm.findClass "com/example/weftmap/weftmap/engine/place/IndexQueueAddPinLaw" = some m.cls := findClass_of_methodNamed Bd.named
  have hnm := (name_of_methodNamed Bd.named Bd.method).1
  have X0 : Stand p l e room_1 s m #[(.int p1), (.int p2), (.int p3), (.int p4)] below meth c s₁ [] 0 0 := Stand.of_body Bd
  have e0 : s₁.heap = h0 := by rw [← hh, Bd.state]; rfl
  have N0 := Fr.nil n0
  have pre0 : ∀ t, Steps p.tables e below (s₁.setTop (mkF m 0 #[.val (.int p1), .val (.int p2), .val (.int p3), .val (.int p4), .unset, .unset, .unset, .unset, .unset, .unset, .unset, .unset, .unset] [])) t → Steps p.tables e below (s₁.setTop (entryFrame m #[(.int p1), (.int p2), (.int p3), (.int p4)] maxLocals)) t := fun t k => castTop (ef_0 m p1 p2 p3 p4) k
  have pre1 : ∀ t, Steps p.tables e below (s₁.setTop (mkF m 35 #[.val (.int p1), .val (.int p2), .val (.int p3), .val (.int p4), .val (.int nb), .val (.int va), .val (.int vb), .val (.int vc), .unset, .unset, .unset, .unset, .unset] [])) t → Steps p.tables e below (s₁.setTop (mkF m 0 #[.val (.int p1), .val (.int p2), .val (.int p3), .val (.int p4), .unset, .unset, .unset, .unset, .unset, .unset, .unset, .unset, .unset] [])) t := by
    intro t kt
    subst hva hvb hvc
    subst hnb
    show Steps p.tables e below (s₁.setTop (mkF m 0 #[.val (.int p1), .val (.int p2), .val (.int p3), .val (.int p4), .unset, .unset, .unset, .unset, .unset, .unset, .unset, .unset, .unset] [])) _
    refine XS.iconst X0.here hx rfl (hb hby at_0) ?_
    show Steps p.tables e below (s₁.setTop (mkF m 1 #[.val (.int p1), .val (.int p2), .val (.int p3), .val (.int p4), .unset, .unset, .unset, .unset, .unset, .unset, .unset, .unset, .unset] [(.int (1 : Int32))])) _
    refine XS.iloadN X0.here hx rfl (hb hby at_1) rfl ?_
    show Steps p.tables e below (s₁.setTop (mkF m 2 #[.val (.int p1), .val (.int p2), .val (.int p3), .val (.int p4), .unset, .unset, .unset, .unset, .unset, .unset, .unset, .unset, .unset] [(.int p1), (.int (1 : Int32))])) _
    refine XS.bipush X0.here hx rfl (hb hby at_2) ?_
    show Steps p.tables e below (s₁.setTop (mkF m 4 #[.val (.int p1), .val (.int p2), .val (.int p3), .val (.int p4), .unset, .unset, .unset, .unset, .unset, .unset, .unset, .unset, .unset] [(.int (7 : Int32)), (.int p1), (.int (1 : Int32))])) _
    refine XS.iand X0.here hx rfl (hb hby at_4) rfl ?_
    show Steps p.tables e below (s₁.setTop (mkF m 5 #[.val (.int p1), .val (.int p2), .val (.int p3), .val (.int p4), .unset, .unset, .unset, .unset, .unset, .unset, .unset, .unset, .unset] [(.int (p1 &&& (7 : Int32))), (.int (1 : Int32))])) _
    refine XS.iadd X0.here hx rfl (hb hby at_5) rfl ?_
    show Steps p.tables e below (s₁.setTop (mkF m 6 #[.val (.int p1), .val (.int p2), .val (.int p3), .val (.int p4), .unset, .unset, .unset, .unset, .unset, .unset, .unset, .unset, .unset] [(.int ((1 : Int32) + (p1 &&& (7 : Int32))))])) _
    refine XS.istore X0.here hx rfl (hb hby at_6) rfl (l' := #[.val (.int p1), .val (.int p2), .val (.int p3), .val (.int p4), .val (.int ((1 : Int32) + (p1 &&& (7 : Int32)))), .unset, .unset, .unset, .unset, .unset, .unset, .unset, .unset]) rfl ?_
    show Steps p.tables e below (s₁.setTop (mkF m 8 #[.val (.int p1), .val (.int p2), .val (.int p3), .val (.int p4), .val (.int ((1 : Int32) + (p1 &&& (7 : Int32)))), .unset, .unset, .unset, .unset, .unset, .unset, .unset, .unset] [])) _
    refine XS.iloadN X0.here hx rfl (hb hby at_8) rfl ?_
    show Steps p.tables e below (s₁.setTop (mkF m 9 #[.val (.int p1), .val (.int p2), .val (.int p3), .val (.int p4), .val (.int ((1 : Int32) + (p1 &&& (7 : Int32)))), .unset, .unset, .unset, .unset, .unset, .unset, .unset, .unset] [(.int p2)])) _
    refine X0.ldcInt hx hown (mvT hZ (hw _ (List.mem_of_getElem? (i := 0) rfl))) (g := (mkF m 9 #[.val (.int p1), .val (.int p2), .val (.int p3), .val (.int p4), .val (.int ((1 : Int32) + (p1 &&& (7 : Int32)))), .unset, .unset, .unset, .unset, .unset, .unset, .unset, .unset] [(.int p2)])) rfl (hb hby at_9) _ ?_
    show Steps p.tables e below (s₁.setTop (mkF m 11 #[.val (.int p1), .val (.int p2), .val (.int p3), .val (.int p4), .val (.int ((1 : Int32) + (p1 &&& (7 : Int32)))), .unset, .unset, .unset, .unset, .unset, .unset, .unset, .unset] [(.int (2147483647 : Int32)), (.int p2)])) _
    refine XS.iand X0.here hx rfl (hb hby at_11) rfl ?_
    show Steps p.tables e below (s₁.setTop (mkF m 12 #[.val (.int p1), .val (.int p2), .val (.int p3), .val (.int p4), .val (.int ((1 : Int32) + (p1 &&& (7 : Int32)))), .unset, .unset, .unset, .unset, .unset, .unset, .unset, .unset] [(.int (p2 &&& (2147483647 : Int32)))])) _
    refine XS.iload X0.here hx rfl (hb hby at_12) rfl ?_
    show Steps p.tables e below (s₁.setTop (mkF m 14 #[.val (.int p1), .val (.int p2), .val (.int p3), .val (.int p4), .val (.int ((1 : Int32) + (p1 &&& (7 : Int32)))), .unset, .unset, .unset, .unset, .unset, .unset, .unset, .unset] [(.int ((1 : Int32) + (p1 &&& (7 : Int32)))), (.int (p2 &&& (2147483647 : Int32)))])) _
    refine XS.irem X0.here hx rfl (hb hby at_14) rfl hnz14 ?_
    show Steps p.tables e below (s₁.setTop (mkF m 15 #[.val (.int p1), .val (.int p2), .val (.int p3), .val (.int p4), .val (.int ((1 : Int32) + (p1 &&& (7 : Int32)))), .unset, .unset, .unset, .unset, .unset, .unset, .unset, .unset] [(.int ((p2 &&& (2147483647 : Int32)) - ((p2 &&& (2147483647 : Int32)) / ((1 : Int32) + (p1 &&& (7 : Int32)))) * ((1 : Int32) + (p1 &&& (7 : Int32)))))])) _
    refine XS.istore X0.here hx rfl (hb hby at_15) rfl (l' := #[.val (.int p1), .val (.int p2), .val (.int p3), .val (.int p4), .val (.int ((1 : Int32) + (p1 &&& (7 : Int32)))), .val (.int ((p2 &&& (2147483647 : Int32)) - ((p2 &&& (2147483647 : Int32)) / ((1 : Int32) + (p1 &&& (7 : Int32)))) * ((1 : Int32) + (p1 &&& (7 : Int32))))), .unset, .unset, .unset, .unset, .unset, .unset, .unset]) rfl ?_
    show Steps p.tables e below (s₁.setTop (mkF m 17 #[.val (.int p1), .val (.int p2), .val (.int p3), .val (.int p4), .val (.int ((1 : Int32) + (p1 &&& (7 : Int32)))), .val (.int ((p2 &&& (2147483647 : Int32)) - ((p2 &&& (2147483647 : Int32)) / ((1 : Int32) + (p1 &&& (7 : Int32)))) * ((1 : Int32) + (p1 &&& (7 : Int32))))), .unset, .unset, .unset, .unset, .unset, .unset, .unset] [])) _
    refine XS.iloadN X0.here hx rfl (hb hby at_17) rfl ?_
    show Steps p.tables e below (s₁.setTop (mkF m 18 #[.val (.int p1), .val (.int p2), .val (.int p3), .val (.int p4), .val (.int ((1 : Int32) + (p1 &&& (7 : Int32)))), .val (.int ((p2 &&& (2147483647 : Int32)) - ((p2 &&& (2147483647 : Int32)) / ((1 : Int32) + (p1 &&& (7 : Int32)))) * ((1 : Int32) + (p1 &&& (7 : Int32))))), .unset, .unset, .unset, .unset, .unset, .unset, .unset] [(.int p3)])) _
    refine X0.ldcInt hx hown (mvT hZ (hw _ (List.mem_of_getElem? (i := 0) rfl))) (g := (mkF m 18 #[.val (.int p1), .val (.int p2), .val (.int p3), .val (.int p4), .val (.int ((1 : Int32) + (p1 &&& (7 : Int32)))), .val (.int ((p2 &&& (2147483647 : Int32)) - ((p2 &&& (2147483647 : Int32)) / ((1 : Int32) + (p1 &&& (7 : Int32)))) * ((1 : Int32) + (p1 &&& (7 : Int32))))), .unset, .unset, .unset, .unset, .unset, .unset, .unset] [(.int p3)])) rfl (hb hby at_18) _ ?_
    show Steps p.tables e below (s₁.setTop (mkF m 20 #[.val (.int p1), .val (.int p2), .val (.int p3), .val (.int p4), .val (.int ((1 : Int32) + (p1 &&& (7 : Int32)))), .val (.int ((p2 &&& (2147483647 : Int32)) - ((p2 &&& (2147483647 : Int32)) / ((1 : Int32) + (p1 &&& (7 : Int32)))) * ((1 : Int32) + (p1 &&& (7 : Int32))))), .unset, .unset, .unset, .unset, .unset, .unset, .unset] [(.int (2147483647 : Int32)), (.int p3)])) _
    refine XS.iand X0.here hx rfl (hb hby at_20) rfl ?_
    show Steps p.tables e below (s₁.setTop (mkF m 21 #[.val (.int p1), .val (.int p2), .val (.int p3), .val (.int p4), .val (.int ((1 : Int32) + (p1 &&& (7 : Int32)))), .val (.int ((p2 &&& (2147483647 : Int32)) - ((p2 &&& (2147483647 : Int32)) / ((1 : Int32) + (p1 &&& (7 : Int32)))) * ((1 : Int32) + (p1 &&& (7 : Int32))))), .unset, .unset, .unset, .unset, .unset, .unset, .unset] [(.int (p3 &&& (2147483647 : Int32)))])) _
    refine XS.iload X0.here hx rfl (hb hby at_21) rfl ?_
    show Steps p.tables e below (s₁.setTop (mkF m 23 #[.val (.int p1), .val (.int p2), .val (.int p3), .val (.int p4), .val (.int ((1 : Int32) + (p1 &&& (7 : Int32)))), .val (.int ((p2 &&& (2147483647 : Int32)) - ((p2 &&& (2147483647 : Int32)) / ((1 : Int32) + (p1 &&& (7 : Int32)))) * ((1 : Int32) + (p1 &&& (7 : Int32))))), .unset, .unset, .unset, .unset, .unset, .unset, .unset] [(.int ((1 : Int32) + (p1 &&& (7 : Int32)))), (.int (p3 &&& (2147483647 : Int32)))])) _
    refine XS.irem X0.here hx rfl (hb hby at_23) rfl hnz23 ?_
    show Steps p.tables e below (s₁.setTop (mkF m 24 #[.val (.int p1), .val (.int p2), .val (.int p3), .val (.int p4), .val (.int ((1 : Int32) + (p1 &&& (7 : Int32)))), .val (.int ((p2 &&& (2147483647 : Int32)) - ((p2 &&& (2147483647 : Int32)) / ((1 : Int32) + (p1 &&& (7 : Int32)))) * ((1 : Int32) + (p1 &&& (7 : Int32))))), .unset, .unset, .unset, .unset, .unset, .unset, .unset] [(.int ((p3 &&& (2147483647 : Int32)) - ((p3 &&& (2147483647 : Int32)) / ((1 : Int32) + (p1 &&& (7 : Int32)))) * ((1 : Int32) + (p1 &&& (7 : Int32)))))])) _
    refine XS.istore X0.here hx rfl (hb hby at_24) rfl (l' := #[.val (.int p1), .val (.int p2), .val (.int p3), .val (.int p4), .val (.int ((1 : Int32) + (p1 &&& (7 : Int32)))), .val (.int ((p2 &&& (2147483647 : Int32)) - ((p2 &&& (2147483647 : Int32)) / ((1 : Int32) + (p1 &&& (7 : Int32)))) * ((1 : Int32) + (p1 &&& (7 : Int32))))), .val (.int ((p3 &&& (2147483647 : Int32)) - ((p3 &&& (2147483647 : Int32)) / ((1 : Int32) + (p1 &&& (7 : Int32)))) * ((1 : Int32) + (p1 &&& (7 : Int32))))), .unset, .unset, .unset, .unset, .unset, .unset]) rfl ?_
    show Steps p.tables e below (s₁.setTop (mkF m 26 #[.val (.int p1), .val (.int p2), .val (.int p3), .val (.int p4), .val (.int ((1 : Int32) + (p1 &&& (7 : Int32)))), .val (.int ((p2 &&& (2147483647 : Int32)) - ((p2 &&& (2147483647 : Int32)) / ((1 : Int32) + (p1 &&& (7 : Int32)))) * ((1 : Int32) + (p1 &&& (7 : Int32))))), .val (.int ((p3 &&& (2147483647 : Int32)) - ((p3 &&& (2147483647 : Int32)) / ((1 : Int32) + (p1 &&& (7 : Int32)))) * ((1 : Int32) + (p1 &&& (7 : Int32))))), .unset, .unset, .unset, .unset, .unset, .unset] [])) _
    refine XS.iloadN X0.here hx rfl (hb hby at_26) rfl ?_
    show Steps p.tables e below (s₁.setTop (mkF m 27 #[.val (.int p1), .val (.int p2), .val (.int p3), .val (.int p4), .val (.int ((1 : Int32) + (p1 &&& (7 : Int32)))), .val (.int ((p2 &&& (2147483647 : Int32)) - ((p2 &&& (2147483647 : Int32)) / ((1 : Int32) + (p1 &&& (7 : Int32)))) * ((1 : Int32) + (p1 &&& (7 : Int32))))), .val (.int ((p3 &&& (2147483647 : Int32)) - ((p3 &&& (2147483647 : Int32)) / ((1 : Int32) + (p1 &&& (7 : Int32)))) * ((1 : Int32) + (p1 &&& (7 : Int32))))), .unset, .unset, .unset, .unset, .unset, .unset] [(.int p4)])) _
    refine X0.ldcInt hx hown (mvT hZ (hw _ (List.mem_of_getElem? (i := 0) rfl))) (g := (mkF m 27 #[.val (.int p1), .val (.int p2), .val (.int p3), .val (.int p4), .val (.int ((1 : Int32) + (p1 &&& (7 : Int32)))), .val (.int ((p2 &&& (2147483647 : Int32)) - ((p2 &&& (2147483647 : Int32)) / ((1 : Int32) + (p1 &&& (7 : Int32)))) * ((1 : Int32) + (p1 &&& (7 : Int32))))), .val (.int ((p3 &&& (2147483647 : Int32)) - ((p3 &&& (2147483647 : Int32)) / ((1 : Int32) + (p1 &&& (7 : Int32)))) * ((1 : Int32) + (p1 &&& (7 : Int32))))), .unset, .unset, .unset, .unset, .unset, .unset] [(.int p4)])) rfl (hb hby at_27) _ ?_
    show Steps p.tables e below (s₁.setTop (mkF m 29 #[.val (.int p1), .val (.int p2), .val (.int p3), .val (.int p4), .val (.int ((1 : Int32) + (p1 &&& (7 : Int32)))), .val (.int ((p2 &&& (2147483647 : Int32)) - ((p2 &&& (2147483647 : Int32)) / ((1 : Int32) + (p1 &&& (7 : Int32)))) * ((1 : Int32) + (p1 &&& (7 : Int32))))), .val (.int ((p3 &&& (2147483647 : Int32)) - ((p3 &&& (2147483647 : Int32)) / ((1 : Int32) + (p1 &&& (7 : Int32)))) * ((1 : Int32) + (p1 &&& (7 : Int32))))), .unset, .unset, .unset, .unset, .unset, .unset] [(.int (2147483647 : Int32)), (.int p4)])) _
    refine XS.iand X0.here hx rfl (hb hby at_29) rfl ?_
    show Steps p.tables e below (s₁.setTop (mkF m 30 #[.val (.int p1), .val (.int p2), .val (.int p3), .val (.int p4), .val (.int ((1 : Int32) + (p1 &&& (7 : Int32)))), .val (.int ((p2 &&& (2147483647 : Int32)) - ((p2 &&& (2147483647 : Int32)) / ((1 : Int32) + (p1 &&& (7 : Int32)))) * ((1 : Int32) + (p1 &&& (7 : Int32))))), .val (.int ((p3 &&& (2147483647 : Int32)) - ((p3 &&& (2147483647 : Int32)) / ((1 : Int32) + (p1 &&& (7 : Int32)))) * ((1 : Int32) + (p1 &&& (7 : Int32))))), .unset, .unset, .unset, .unset, .unset, .unset] [(.int (p4 &&& (2147483647 : Int32)))])) _
    refine XS.iload X0.here hx rfl (hb hby at_30) rfl ?_
    show Steps p.tables e below (s₁.setTop (mkF m 32 #[.val (.int p1), .val (.int p2), .val (.int p3), .val (.int p4), .val (.int ((1 : Int32) + (p1 &&& (7 : Int32)))), .val (.int ((p2 &&& (2147483647 : Int32)) - ((p2 &&& (2147483647 : Int32)) / ((1 : Int32) + (p1 &&& (7 : Int32)))) * ((1 : Int32) + (p1 &&& (7 : Int32))))), .val (.int ((p3 &&& (2147483647 : Int32)) - ((p3 &&& (2147483647 : Int32)) / ((1 : Int32) + (p1 &&& (7 : Int32)))) * ((1 : Int32) + (p1 &&& (7 : Int32))))), .unset, .unset, .unset, .unset, .unset, .unset] [(.int ((1 : Int32) + (p1 &&& (7 : Int32)))), (.int (p4 &&& (2147483647 : Int32)))])) _
    refine XS.irem X0.here hx rfl (hb hby at_32) rfl hnz32 ?_
    show Steps p.tables e below (s₁.setTop (mkF m 33 #[.val (.int p1), .val (.int p2), .val (.int p3), .val (.int p4), .val (.int ((1 : Int32) + (p1 &&& (7 : Int32)))), .val (.int ((p2 &&& (2147483647 : Int32)) - ((p2 &&& (2147483647 : Int32)) / ((1 : Int32) + (p1 &&& (7 : Int32)))) * ((1 : Int32) + (p1 &&& (7 : Int32))))), .val (.int ((p3 &&& (2147483647 : Int32)) - ((p3 &&& (2147483647 : Int32)) / ((1 : Int32) + (p1 &&& (7 : Int32)))) * ((1 : Int32) + (p1 &&& (7 : Int32))))), .unset, .unset, .unset, .unset, .unset, .unset] [(.int ((p4 &&& (2147483647 : Int32)) - ((p4 &&& (2147483647 : Int32)) / ((1 : Int32) + (p1 &&& (7 : Int32)))) * ((1 : Int32) + (p1 &&& (7 : Int32)))))])) _
    refine XS.istore X0.here hx rfl (hb hby at_33) rfl (l' := #[.val (.int p1), .val (.int p2), .val (.int p3), .val (.int p4), .val (.int ((1 : Int32) + (p1 &&& (7 : Int32)))), .val (.int ((p2 &&& (2147483647 : Int32)) - ((p2 &&& (2147483647 : Int32)) / ((1 : Int32) + (p1 &&& (7 : Int32)))) * ((1 : Int32) + (p1 &&& (7 : Int32))))), .val (.int ((p3 &&& (2147483647 : Int32)) - ((p3 &&& (2147483647 : Int32)) / ((1 : Int32) + (p1 &&& (7 : Int32)))) * ((1 : Int32) + (p1 &&& (7 : Int32))))), .val (.int ((p4 &&& (2147483647 : Int32)) - ((p4 &&& (2147483647 : Int32)) / ((1 : Int32) + (p1 &&& (7 : Int32)))) * ((1 : Int32) + (p1 &&& (7 : Int32))))), .unset, .unset, .unset, .unset, .unset]) rfl ?_
    exact kt
  -- 3. LAWS
  obtain ⟨T5, h5, X5, e5, E5, A5, D5, -, st5⟩ := newO X0 hx hZ hown (hw _ (List.mem_of_getElem? (i := 1) rfl)) (hw _ (List.mem_of_getElem? (i := 2) rfl)) (hw _ (List.mem_of_getElem? (i := 3) rfl)) e0 (g := (mkF m 35 #[.val (.int p1), .val (.int p2), .val (.int p3), .val (.int p4), .val (.int nb), .val (.int va), .val (.int vb), .val (.int vc), .unset, .unset, .unset, .unset, .unset] [])) rfl (hb hby at_35) (by decide) (by decide)
  obtain ⟨b5, g5⟩ : ∃ z, z = h0.size := ⟨_, rfl⟩      -- the fresh object's address
  rw [← g5] at A5 D5 st5      -- A5 : Exa Z h5 b5 "com/example/weftmap/weftmap/engine/place/IndexQueue"; E5 : Ext h0 h5 (carries every older fact: .ext E5)
  have F_items_b5 : Fld Z h5 b5 "com/example/weftmap/weftmap/engine/place/IndexQueue" "items" "[I" .null := D5 (Or.inr (hw _ (List.mem_of_getElem? (i := 12) rfl))) (ty := (.array .int)) (by decide)
  have F_queued_b5 : Fld Z h5 b5 "com/example/weftmap/weftmap/engine/place/IndexQueue" "queued" "[Z" .null := D5 (Or.inr (hw _ (List.mem_of_getElem? (i := 15) rfl))) (ty := (.array .boolean)) (by decide)
  have F_head_b5 : Fld Z h5 b5 "com/example/weftmap/weftmap/engine/place/IndexQueue" "head" "I" (.int (0 : Int32)) := D5 (Or.inl (hw _ (List.mem_of_getElem? (i := 22) rfl))) (ty := .int) (by decide)
  have F_size_b5 : Fld Z h5 b5 "com/example/weftmap/weftmap/engine/place/IndexQueue" "size" "I" (.int (0 : Int32)) := D5 (Or.inl (hw _ (List.mem_of_getElem? (i := 24) rfl))) (ty := .int) (by decide)
  have E_b5 := A5
  have g_b5 : n0 ≤ b5 := Nat.le_trans Z0 (Nat.le_of_eq g5.symm)
  have sz_b5 : h0.size ≤ b5 := (Nat.le_trans (Keep.refl h0 []).1 (Nat.le_of_eq g5.symm))
  have K5 : Keep h0 h5 [] := (Keep.refl h0 []).ext E5
  -- pc 42: the constructor of com/example/weftmap/weftmap/engine/place/IndexQueue by its contract rm1
  obtain ⟨_, _, ⟨T6, L6, k6, n6⟩, -, X6, ⟨Lc6, hQ6, l6, y6, z6⟩, st6⟩ := X5.specialBack hx (y := (⟨"com/example/weftmap/weftmap/engine/place/IndexQueue", "<init>", "(II)V"⟩ : MethodName)) rfl hown (mvT hZ (hw _ (List.mem_of_getElem? (i := 4) rfl))) (mvT hZ (hw _ (List.mem_of_getElem? (i := 5) rfl))) (mvT hZ (hw _ (List.mem_of_getElem? (i := 6) rfl))) (by decide) (backOf (W := 1) (rm1 l Z a0 hw [] b5 nb _ _ h5 n0 (Nat.le_trans Z0 E5.1) E_b5 F_items_b5 g_b5 F_queued_b5 F_head_b5 F_size_b5 hn3 hcap3) hZ (hw _ (List.mem_of_getElem? (i := 6) rfl)) (hw _ (List.mem_of_getElem? (i := 3) rfl)) (by decide) (by decide)) (g := (mkF m 42 #[.val (.int p1), .val (.int p2), .val (.int p3), .val (.int p4), .val (.int nb), .val (.int va), .val (.int vb), .val (.int vc), .unset, .unset, .unset, .unset, .unset] [(.int nb), (.int (2 : Int32)), (.ref b5), (.ref b5)])) rfl (by rw [hml]; rfl) (Steps.refl _) (a := b5) (argsL := [(.int (2 : Int32)), (.int nb)]) (rest := [(.ref b5)]) (lenOf pd_0_0 rfl) rfl (by show 2 * 0 + _ ≤ _; exact Nat.le_of_eq rfl) (hb hby at_42) (fun _ _ => ⟨rfl, e5, (by decide : 1 + 2 ≤ _), (by decide : 4 + 10 ≤ _)⟩)
  dsimp only [Pt.U, Pt.locs, Pt.cells, Pt.slots] at X6 l6 y6 z6 st6 hQ6
  subst l6 y6 z6
  obtain ⟨rfl, N6q, it, qu, I6⟩ := hQ6
  have N6 := Fr.app N0 N6q
  -- pc 51: com/example/weftmap/weftmap/engine/place/IndexQueue.add by the contract of the body that the receiver's class selects, rm3
  obtain ⟨cq7, kq7, q7a, q7b, q7c⟩ := isOf hZ rfl I6.1
  obtain ⟨_, _, ⟨T7, L7, k7, n7⟩, -, X7, ⟨Lc7, hQ7, l7, y7, z7⟩, st7⟩ := X6.virtualBack hx (y := (⟨"com/example/weftmap/weftmap/engine/place/IndexQueue", "add", "(I)V"⟩ : MethodName)) (z := (⟨"com/example/weftmap/weftmap/engine/place/IndexQueue", "add", "(I)V"⟩ : MethodName)) hown (mvT hZ (hw _ (List.mem_of_getElem? (i := 16) rfl))) (mvT hZ (hw _ (List.mem_of_getElem? (i := 17) rfl))) (notFace_of_selects (args := #[]) (mvT hZ (hw _ (List.mem_of_getElem? (i := 19) rfl)))) (mvT hZ (hw _ (List.mem_of_getElem? (i := 19) rfl))) (mvT hZ (hw _ (List.mem_of_getElem? (i := 18) rfl))) (by decide) (backOf (W := 0) (rm3a l Z a0 hw [] b5 va it qu nb (fun _ => 0) (fun _ => 0) 0 0 0 1 T6.heap n0 (own_n0 I6) I6 ra rfl (by decide) (by decide) (by decide) (by decide)) hZ (hw _ (List.mem_of_getElem? (i := 20) rfl)) (hw _ (List.mem_of_getElem? (i := 3) rfl)) (by decide) (by decide)) q7a q7c (g := (mkF m 51 #[.val (.int p1), .val (.int p2), .val (.int p3), .val (.int p4), .val (.int nb), .val (.int va), .val (.int vb), .val (.int vc), .val (.ref b5), .unset, .unset, .unset, .unset] [(.int va), (.ref b5)])) rfl (by rw [hml]; rfl) (Steps.refl _) (argsL := [(.int va)]) (rest := []) (lenOf pd_0_2 rfl) rfl (by show 2 * 0 + _ ≤ _; exact Nat.le_of_eq rfl) (hb hby at_51) (fun _ _ => ⟨rfl, rfl, (by decide : 3 + 0 ≤ _), (by decide : 14 + 0 ≤ _)⟩)
  dsimp only [Pt.U, Pt.locs, Pt.cells, Pt.slots] at X7 l7 y7 z7 st7 hQ7
  subst l7 y7 z7
  obtain ⟨rfl, N7q, I7⟩ := hQ7
  have N7 := Fr.app N6 N7q
  -- pc 58: com/example/weftmap/weftmap/engine/place/IndexQueue.add by the contract of the body that the receiver's class selects, rm3
  obtain ⟨cq8, kq8, q8a, q8b, q8c⟩ := isOf hZ rfl I7.1
  obtain ⟨_, _, ⟨T8, L8, k8, n8⟩, -, X8, ⟨Lc8, hQ8, l8, y8, z8⟩, st8⟩ := X7.virtualBack hx (y := (⟨"com/example/weftmap/weftmap/engine/place/IndexQueue", "add", "(I)V"⟩ : MethodName)) (z := (⟨"com/example/weftmap/weftmap/engine/place/IndexQueue", "add", "(I)V"⟩ : MethodName)) hown (mvT hZ (hw _ (List.mem_of_getElem? (i := 16) rfl))) (mvT hZ (hw _ (List.mem_of_getElem? (i := 17) rfl))) (notFace_of_selects (args := #[]) (mvT hZ (hw _ (List.mem_of_getElem? (i := 19) rfl)))) (mvT hZ (hw _ (List.mem_of_getElem? (i := 19) rfl))) (mvT hZ (hw _ (List.mem_of_getElem? (i := 18) rfl))) (by decide) (backOf (W := 0) (rm3q l Z a0 hw [] b5 vb it qu nb (own_upd (fun _ => 0) 0 va) (own_upd (fun _ => 0) va 1) 0 1 T7.heap n0 (own_n0 I7) I7 rb (by simp [own_upd, hba])) hZ (hw _ (List.mem_of_getElem? (i := 20) rfl)) (hw _ (List.mem_of_getElem? (i := 3) rfl)) (by decide) (by decide)) q8a q8c (g := (mkF m 58 #[.val (.int p1), .val (.int p2), .val (.int p3), .val (.int p4), .val (.int nb), .val (.int va), .val (.int vb), .val (.int vc), .val (.ref b5), .unset, .unset, .unset, .unset] [(.int vb), (.ref b5)])) rfl (by rw [hml]; rfl) (Steps.refl _) (argsL := [(.int vb)]) (rest := []) (lenOf pd_0_2 rfl) rfl (by show 2 * 0 + _ ≤ _; exact Nat.le_of_eq rfl) (hb hby at_58) (fun _ _ => ⟨rfl, rfl, (by decide : 3 + 0 ≤ _), (by decide : 14 + 0 ≤ _)⟩)
  dsimp only [Pt.U, Pt.locs, Pt.cells, Pt.slots] at X8 l8 y8 z8 st8 hQ8
  subst l8 y8 z8
  obtain ⟨rfl, N8q, e8q⟩ := hQ8
  have I8 : own_IQ Z T8.heap n0 b5 it qu nb (own_upd (fun _ => 0) 0 va) (own_upd (fun _ => 0) va 1) 0 1 := by rw [e8q]; exact I7
  have N8 := Fr.app N7 N8q
  -- pc 63: com/example/weftmap/weftmap/engine/place/IndexQueue.poll by the contract of the body that the receiver's class selects, rm4
  obtain ⟨cq9, kq9, q9a, q9b, q9c⟩ := isOf hZ rfl I8.1
  obtain ⟨_, _, ⟨T9, L9, k9, n9⟩, -, X9, ⟨Lc9, hQ9, l9, y9, z9⟩, st9⟩ := X8.virtualBack hx (y := (⟨"com/example/weftmap/weftmap/engine/place/IndexQueue", "poll", "()I"⟩ : MethodName)) (z := (⟨"com/example/weftmap/weftmap/engine/place/IndexQueue", "poll", "()I"⟩ : MethodName)) hown (mvT hZ (hw _ (List.mem_of_getElem? (i := 25) rfl))) (mvT hZ (hw _ (List.mem_of_getElem? (i := 26) rfl))) (notFace_of_selects (args := #[]) (mvT hZ (hw _ (List.mem_of_getElem? (i := 28) rfl)))) (mvT hZ (hw _ (List.mem_of_getElem? (i := 28) rfl))) (mvT hZ (hw _ (List.mem_of_getElem? (i := 27) rfl))) (by decide) (backOf (W := 0) (rm4a l Z a0 hw [] b5 it qu nb (own_upd (fun _ => 0) 0 va) (own_upd (fun _ => 0) va 1) 0 1 va 1 0 T8.heap n0 (own_n0 I8) I8 (by simp [own_upd]) ra (by decide) (by decide) (by decide) (by decide)) hZ (hw _ (List.mem_of_getElem? (i := 29) rfl)) (hw _ (List.mem_of_getElem? (i := 3) rfl)) (by decide) (by decide)) q9a q9c (g := (mkF m 63 #[.val (.int p1), .val (.int p2), .val (.int p3), .val (.int p4), .val (.int nb), .val (.int va), .val (.int vb), .val (.int vc), .val (.ref b5), .unset, .unset, .unset, .unset] [(.ref b5)])) rfl (by rw [hml]; rfl) (Steps.refl _) (argsL := []) (rest := []) (lenOf pd_0_3 rfl) rfl (by show 2 * 0 + _ ≤ _; exact Nat.le_of_eq rfl) (hb hby at_63) (fun _ _ => ⟨rfl, rfl, (by decide : 3 + 0 ≤ _), (by decide : 14 + 0 ≤ _)⟩)
  dsimp only [Pt.U, Pt.locs, Pt.cells, Pt.slots] at X9 l9 y9 z9 st9 hQ9
  subst l9 y9 z9
  obtain ⟨rfl, N9q, I9⟩ := hQ9
  have N9 := Fr.app N8 N9q
  -- pc 82: com/example/weftmap/weftmap/engine/place/IndexQueue.add by the contract of the body that the receiver's class selects, rm3
  obtain ⟨cq10, kq10, q10a, q10b, q10c⟩ := isOf hZ rfl I9.1
  obtain ⟨_, _, ⟨T10, L10, k10, n10⟩, -, X10, ⟨Lc10, hQ10, l10, y10, z10⟩, st10⟩ := X9.virtualBack hx (y := (⟨"com/example/weftmap/weftmap/engine/place/IndexQueue", "add", "(I)V"⟩ : MethodName)) (z := (⟨"com/example/weftmap/weftmap/engine/place/IndexQueue", "add", "(I)V"⟩ : MethodName)) hown (mvT hZ (hw _ (List.mem_of_getElem? (i := 16) rfl))) (mvT hZ (hw _ (List.mem_of_getElem? (i := 17) rfl))) (notFace_of_selects (args := #[]) (mvT hZ (hw _ (List.mem_of_getElem? (i := 19) rfl)))) (mvT hZ (hw _ (List.mem_of_getElem? (i := 19) rfl))) (mvT hZ (hw _ (List.mem_of_getElem? (i := 18) rfl))) (by decide) (backOf (W := 0) (rm3a l Z a0 hw [] b5 vc it qu nb (own_upd (fun _ => 0) 0 va) (own_upd (own_upd (fun _ => 0) va 1) va 0) 1 0 1 1 T9.heap n0 (own_n0 I9) I9 rc (by simp only [own_upd]; split <;> simp_all) (by decide) (by decide) (by decide) (by decide)) hZ (hw _ (List.mem_of_getElem? (i := 20) rfl)) (hw _ (List.mem_of_getElem? (i := 3) rfl)) (by decide) (by decide)) q10a q10c (g := (mkF m 82 #[.val (.int p1), .val (.int p2), .val (.int p3), .val (.int p4), .val (.int nb), .val (.int va), .val (.int vb), .val (.int vc), .val (.ref b5), .val (.int (1 : Int32)), .unset, .unset, .unset] [(.int vc), (.ref b5)])) rfl (by rw [hml]; rfl) (Steps.refl _) (argsL := [(.int vc)]) (rest := []) (lenOf pd_0_2 rfl) rfl (by show 2 * 0 + _ ≤ _; exact Nat.le_of_eq rfl) (hb hby at_82) (fun _ _ => ⟨rfl, rfl, (by decide : 3 + 0 ≤ _), (by decide : 14 + 0 ≤ _)⟩)
  dsimp only [Pt.U, Pt.locs, Pt.cells, Pt.slots] at X10 l10 y10 z10 st10 hQ10
  subst l10 y10 z10
  obtain ⟨rfl, N10q, I10⟩ := hQ10
  have N10 := Fr.app N9 N10q
  -- pc 139: com/example/weftmap/weftmap/engine/place/IndexQueue.isEmpty by the contract of the body that the receiver's class selects, rm5
  obtain ⟨cq11, kq11, q11a, q11b, q11c⟩ := isOf hZ rfl I10.1
  obtain ⟨_, _, ⟨T11, L11, k11, n11⟩, -, X11, ⟨Lc11, hQ11, l11, y11, z11⟩, st11⟩ := X10.virtualBack hx (y := (⟨"com/example/weftmap/weftmap/engine/place/IndexQueue", "isEmpty", "()Z"⟩ : MethodName)) (z := (⟨"com/example/weftmap/weftmap/engine/place/IndexQueue", "isEmpty", "()Z"⟩ : MethodName)) hown (mvT hZ (hw _ (List.mem_of_getElem? (i := 30) rfl))) (mvT hZ (hw _ (List.mem_of_getElem? (i := 31) rfl))) (notFace_of_selects (args := #[]) (mvT hZ (hw _ (List.mem_of_getElem? (i := 33) rfl)))) (mvT hZ (hw _ (List.mem_of_getElem? (i := 33) rfl))) (mvT hZ (hw _ (List.mem_of_getElem? (i := 32) rfl))) (by decide) (backOf (W := 0) (rm5b l Z a0 hw [] b5 _ T10.heap n0 (own_n0 I10) I10.2.2.2.2.1 (by decide)) hZ (hw _ (List.mem_of_getElem? (i := 34) rfl)) (hw _ (List.mem_of_getElem? (i := 3) rfl)) (by decide) (by decide)) q11a q11c (g := (mkF m 139 #[.val (.int p1), .val (.int p2), .val (.int p3), .val (.int p4), .val (.int nb), .val (.int va), .val (.int vb), .val (.int vc), .val (.ref b5), .val (.int (1 : Int32)), .val (.int (1 : Int32)), .val (.int vc), .val (.int (0 : Int32))] [(.ref b5)])) rfl (by rw [hml]; rfl) (Steps.refl _) (argsL := []) (rest := []) (lenOf pd_0_4 rfl) rfl (by show 2 * 0 + _ ≤ _; exact Nat.le_of_eq rfl) (hb hby at_139) (fun _ _ => ⟨rfl, rfl, (by decide : 3 + 0 ≤ _), (by decide : 14 + 0 ≤ _)⟩)
  dsimp only [Pt.U, Pt.locs, Pt.cells, Pt.slots] at X11 l11 y11 z11 st11 hQ11
  subst l11 y11 z11
  obtain ⟨rfl, N11q, e11q⟩ := hQ11
  have I11 : own_IQ Z T11.heap n0 b5 it qu nb (own_upd (own_upd (fun _ => 0) 0 va) 1 vc) (own_upd (own_upd (own_upd (fun _ => 0) va 1) va 0) vc 1) 1 1 := by rw [e11q]; exact I10
  have N11 := Fr.app N10 N11q
  -- pc 159: com/example/weftmap/weftmap/engine/place/IndexQueue.poll by the contract of the body that the receiver's class selects, rm4
  obtain ⟨cq12, kq12, q12a, q12b, q12c⟩ := isOf hZ rfl I11.1
  obtain ⟨_, _, ⟨T12, L12, k12, n12⟩, -, X12, ⟨Lc12, hQ12, l12, y12, z12⟩, st12⟩ := X11.virtualBack hx (y := (⟨"com/example/weftmap/weftmap/engine/place/IndexQueue", "poll", "()I"⟩ : MethodName)) (z := (⟨"com/example/weftmap/weftmap/engine/place/IndexQueue", "poll", "()I"⟩ : MethodName)) hown (mvT hZ (hw _ (List.mem_of_getElem? (i := 25) rfl))) (mvT hZ (hw _ (List.mem_of_getElem? (i := 26) rfl))) (notFace_of_selects (args := #[]) (mvT hZ (hw _ (List.mem_of_getElem? (i := 28) rfl)))) (mvT hZ (hw _ (List.mem_of_getElem? (i := 28) rfl))) (mvT hZ (hw _ (List.mem_of_getElem? (i := 27) rfl))) (by decide) (backOf (W := 0) (rm4b l Z a0 hw [] b5 it qu nb (own_upd (own_upd (fun _ => 0) 0 va) 1 vc) (own_upd (own_upd (own_upd (fun _ => 0) va 1) va 0) vc 1) 1 1 vc 0 0 T11.heap n0 (own_n0 I11) I11 (by simp [own_upd]) rc (by decide) (by decide) (by decide) (by decide)) hZ (hw _ (List.mem_of_getElem? (i := 29) rfl)) (hw _ (List.mem_of_getElem? (i := 3) rfl)) (by decide) (by decide)) q12a q12c (g := (mkF m 159 #[.val (.int p1), .val (.int p2), .val (.int p3), .val (.int p4), .val (.int nb), .val (.int va), .val (.int vb), .val (.int vc), .val (.ref b5), .val (.int (1 : Int32)), .val (.int (1 : Int32)), .val (.int vc), .val (.int (0 : Int32))] [(.ref b5)])) rfl (by rw [hml]; rfl) (Steps.refl _) (argsL := []) (rest := []) (lenOf pd_0_3 rfl) rfl (by show 2 * 0 + _ ≤ _; exact Nat.le_of_eq rfl) (hb hby at_159) (fun _ _ => ⟨rfl, rfl, (by decide : 3 + 0 ≤ _), (by decide : 14 + 0 ≤ _)⟩)
  dsimp only [Pt.U, Pt.locs, Pt.cells, Pt.slots] at X12 l12 y12 z12 st12 hQ12
  subst l12 y12 z12
  obtain ⟨rfl, N12q, I12⟩ := hQ12
  have N12 := Fr.app N11 N12q
  -- pc 209: com/example/weftmap/weftmap/engine/place/IndexQueue.isEmpty by the contract of the body that the receiver's class selects, rm5
  obtain ⟨cq13, kq13, q13a, q13b, q13c⟩ := isOf hZ rfl I12.1
  obtain ⟨_, _, ⟨T13, L13, k13, n13⟩, -, X13, ⟨Lc13, hQ13, l13, y13, z13⟩, st13⟩ := X12.virtualBack hx (y := (⟨"com/example/weftmap/weftmap/engine/place/IndexQueue", "isEmpty", "()Z"⟩ : MethodName)) (z := (⟨"com/example/weftmap/weftmap/engine/place/IndexQueue", "isEmpty", "()Z"⟩ : MethodName)) hown (mvT hZ (hw _ (List.mem_of_getElem? (i := 30) rfl))) (mvT hZ (hw _ (List.mem_of_getElem? (i := 31) rfl))) (notFace_of_selects (args := #[]) (mvT hZ (hw _ (List.mem_of_getElem? (i := 33) rfl)))) (mvT hZ (hw _ (List.mem_of_getElem? (i := 33) rfl))) (mvT hZ (hw _ (List.mem_of_getElem? (i := 32) rfl))) (by decide) (backOf (W := 0) (rm5 l Z a0 hw [] b5 _ T12.heap n0 (own_n0 I12) I12.2.2.2.2.1 (by decide)) hZ (hw _ (List.mem_of_getElem? (i := 34) rfl)) (hw _ (List.mem_of_getElem? (i := 3) rfl)) (by decide) (by decide)) q13a q13c (g := (mkF m 209 #[.val (.int p1), .val (.int p2), .val (.int p3), .val (.int p4), .val (.int nb), .val (.int va), .val (.int vb), .val (.int vc), .val (.ref b5), .val (.int (1 : Int32)), .val (.int (1 : Int32)), .val (.int vc), .val (.int (0 : Int32))] [(.ref b5)])) rfl (by rw [hml]; rfl) (Steps.refl _) (argsL := []) (rest := []) (lenOf pd_0_4 rfl) rfl (by show 2 * 0 + _ ≤ _; exact Nat.le_of_eq rfl) (hb hby at_209) (fun _ _ => ⟨rfl, rfl, (by decide : 3 + 0 ≤ _), (by decide : 14 + 0 ≤ _)⟩)
  dsimp only [Pt.U, Pt.locs, Pt.cells, Pt.slots] at X13 l13 y13 z13 st13 hQ13
  subst l13 y13 z13
  obtain ⟨rfl, N13q, e13q⟩ := hQ13
  have I13 : own_IQ Z T13.heap n0 b5 it qu nb (own_upd (own_upd (fun _ => 0) 0 va) 1 vc) (own_upd (own_upd (own_upd (own_upd (fun _ => 0) va 1) va 0) vc 1) vc 0) 0 0 := by rw [e13q]; exact I12
  have N13 := Fr.app N12 N13q
  obtain ⟨fs, hr, hrun, hended, hW, hsame⟩ := X13.leave (v := some (.int (1 : Int32))) (fun h => by rw [Bd.returns] at h; cases h)
  refine ⟨_, _, pre0 _ (pre1 _ ?_), hrun, hended, _, _, rfl, ?_, ⟨_, rfl⟩, hW, hsame.mono (by decide) (by decide)⟩
  -- 4. STEPS
  · show Steps p.tables e below (s₁.setTop (mkF m 35 #[.val (.int p1), .val (.int p2), .val (.int p3), .val (.int p4), .val (.int nb), .val (.int va), .val (.int vb), .val (.int vc), .unset, .unset, .unset, .unset, .unset] [])) _
    refine st5 _ ?_
    show Steps p.tables e below (T5.setTop (mkF m 38 #[.val (.int p1), .val (.int p2), .val (.int p3), .val (.int p4), .val (.int nb), .val (.int va), .val (.int vb), .val (.int vc), .unset, .unset, .unset, .unset, .unset] [(.ref b5)])) _
    refine XS.dup X5.here hx rfl (hb hby at_38) rfl rfl ?_
    show Steps p.tables e below (T5.setTop (mkF m 39 #[.val (.int p1), .val (.int p2), .val (.int p3), .val (.int p4), .val (.int nb), .val (.int va), .val (.int vb), .val (.int vc), .unset, .unset, .unset, .unset, .unset] [(.ref b5), (.ref b5)])) _
    refine XS.iconst X5.here hx rfl (hb hby at_39) ?_
    show Steps p.tables e below (T5.setTop (mkF m 40 #[.val (.int p1), .val (.int p2), .val (.int p3), .val (.int p4), .val (.int nb), .val (.int va), .val (.int vb), .val (.int vc), .unset, .unset, .unset, .unset, .unset] [(.int (2 : Int32)), (.ref b5), (.ref b5)])) _
    refine XS.iload X5.here hx rfl (hb hby at_40) rfl ?_
    show Steps p.tables e below (T5.setTop (mkF m 42 #[.val (.int p1), .val (.int p2), .val (.int p3), .val (.int p4), .val (.int nb), .val (.int va), .val (.int vb), .val (.int vc), .unset, .unset, .unset, .unset, .unset] [(.int nb), (.int (2 : Int32)), (.ref b5), (.ref b5)])) _
    refine st6.trans ?_
    show Steps p.tables e below (T6.setTop (mkF m 45 #[.val (.int p1), .val (.int p2), .val (.int p3), .val (.int p4), .val (.int nb), .val (.int va), .val (.int vb), .val (.int vc), .unset, .unset, .unset, .unset, .unset] [(.ref b5)])) _
    refine XS.astore X6.here hx rfl (hb hby at_45) rfl rfl (l' := #[.val (.int p1), .val (.int p2), .val (.int p3), .val (.int p4), .val (.int nb), .val (.int va), .val (.int vb), .val (.int vc), .val (.ref b5), .unset, .unset, .unset, .unset]) rfl ?_
    show Steps p.tables e below (T6.setTop (mkF m 47 #[.val (.int p1), .val (.int p2), .val (.int p3), .val (.int p4), .val (.int nb), .val (.int va), .val (.int vb), .val (.int vc), .val (.ref b5), .unset, .unset, .unset, .unset] [])) _
    refine XS.aload X6.here hx rfl (hb hby at_47) rfl rfl ?_
    show Steps p.tables e below (T6.setTop (mkF m 49 #[.val (.int p1), .val (.int p2), .val (.int p3), .val (.int p4), .val (.int nb), .val (.int va), .val (.int vb), .val (.int vc), .val (.ref b5), .unset, .unset, .unset, .unset] [(.ref b5)])) _
    refine XS.iload X6.here hx rfl (hb hby at_49) rfl ?_
    show Steps p.tables e below (T6.setTop (mkF m 51 #[.val (.int p1), .val (.int p2), .val (.int p3), .val (.int p4), .val (.int nb), .val (.int va), .val (.int vb), .val (.int vc), .val (.ref b5), .unset, .unset, .unset, .unset] [(.int va), (.ref b5)])) _
    refine st7.trans ?_
    show Steps p.tables e below (T7.setTop (mkF m 54 #[.val (.int p1), .val (.int p2), .val (.int p3), .val (.int p4), .val (.int nb), .val (.int va), .val (.int vb), .val (.int vc), .val (.ref b5), .unset, .unset, .unset, .unset] [])) _
    refine XS.aload X7.here hx rfl (hb hby at_54) rfl rfl ?_
    show Steps p.tables e below (T7.setTop (mkF m 56 #[.val (.int p1), .val (.int p2), .val (.int p3), .val (.int p4), .val (.int nb), .val (.int va), .val (.int vb), .val (.int vc), .val (.ref b5), .unset, .unset, .unset, .unset] [(.ref b5)])) _
    refine XS.iload X7.here hx rfl (hb hby at_56) rfl ?_
    show Steps p.tables e below (T7.setTop (mkF m 58 #[.val (.int p1), .val (.int p2), .val (.int p3), .val (.int p4), .val (.int nb), .val (.int va), .val (.int vb), .val (.int vc), .val (.ref b5), .unset, .unset, .unset, .unset] [(.int vb), (.ref b5)])) _
    refine st8.trans ?_
    show Steps p.tables e below (T8.setTop (mkF m 61 #[.val (.int p1), .val (.int p2), .val (.int p3), .val (.int p4), .val (.int nb), .val (.int va), .val (.int vb), .val (.int vc), .val (.ref b5), .unset, .unset, .unset, .unset] [])) _
    refine XS.aload X8.here hx rfl (hb hby at_61) rfl rfl ?_
    show Steps p.tables e below (T8.setTop (mkF m 63 #[.val (.int p1), .val (.int p2), .val (.int p3), .val (.int p4), .val (.int nb), .val (.int va), .val (.int vb), .val (.int vc), .val (.ref b5), .unset, .unset, .unset, .unset] [(.ref b5)])) _
    refine st9.trans ?_
    show Steps p.tables e below (T9.setTop (mkF m 66 #[.val (.int p1), .val (.int p2), .val (.int p3), .val (.int p4), .val (.int nb), .val (.int va), .val (.int vb), .val (.int vc), .val (.ref b5), .unset, .unset, .unset, .unset] [(.int va)])) _
    refine XS.iload X9.here hx rfl (hb hby at_66) rfl ?_
    show Steps p.tables e below (T9.setTop (mkF m 68 #[.val (.int p1), .val (.int p2), .val (.int p3), .val (.int p4), .val (.int nb), .val (.int va), .val (.int vb), .val (.int vc), .val (.ref b5), .unset, .unset, .unset, .unset] [(.int va), (.int va)])) _
    refine XS.icmpNo X9.here hx rfl (hb hby at_68) rfl (teq hc68).2 ?_
    show Steps p.tables e below (T9.setTop (mkF m 71 #[.val (.int p1), .val (.int p2), .val (.int p3), .val (.int p4), .val (.int nb), .val (.int va), .val (.int vb), .val (.int vc), .val (.ref b5), .unset, .unset, .unset, .unset] [])) _
    refine XS.iconst X9.here hx rfl (hb hby at_71) ?_
    show Steps p.tables e below (T9.setTop (mkF m 72 #[.val (.int p1), .val (.int p2), .val (.int p3), .val (.int p4), .val (.int nb), .val (.int va), .val (.int vb), .val (.int vc), .val (.ref b5), .unset, .unset, .unset, .unset] [(.int (1 : Int32))])) _
    refine XS.goto X9.here hx rfl (pc0 := 72) (pc' := 76) rfl (hb hby at_72) (by decide) (by decide) ?_
    show Steps p.tables e below (T9.setTop (mkF m 76 #[.val (.int p1), .val (.int p2), .val (.int p3), .val (.int p4), .val (.int nb), .val (.int va), .val (.int vb), .val (.int vc), .val (.ref b5), .unset, .unset, .unset, .unset] [(.int (1 : Int32))])) _
    refine XS.istore X9.here hx rfl (hb hby at_76) rfl (l' := #[.val (.int p1), .val (.int p2), .val (.int p3), .val (.int p4), .val (.int nb), .val (.int va), .val (.int vb), .val (.int vc), .val (.ref b5), .val (.int (1 : Int32)), .unset, .unset, .unset]) rfl ?_
    show Steps p.tables e below (T9.setTop (mkF m 78 #[.val (.int p1), .val (.int p2), .val (.int p3), .val (.int p4), .val (.int nb), .val (.int va), .val (.int vb), .val (.int vc), .val (.ref b5), .val (.int (1 : Int32)), .unset, .unset, .unset] [])) _
    refine XS.aload X9.here hx rfl (hb hby at_78) rfl rfl ?_
    show Steps p.tables e below (T9.setTop (mkF m 80 #[.val (.int p1), .val (.int p2), .val (.int p3), .val (.int p4), .val (.int nb), .val (.int va), .val (.int vb), .val (.int vc), .val (.ref b5), .val (.int (1 : Int32)), .unset, .unset, .unset] [(.ref b5)])) _
    refine XS.iload X9.here hx rfl (hb hby at_80) rfl ?_
    show Steps p.tables e below (T9.setTop (mkF m 82 #[.val (.int p1), .val (.int p2), .val (.int p3), .val (.int p4), .val (.int nb), .val (.int va), .val (.int vb), .val (.int vc), .val (.ref b5), .val (.int (1 : Int32)), .unset, .unset, .unset] [(.int vc), (.ref b5)])) _
    refine st10.trans ?_
    show Steps p.tables e below (T10.setTop (mkF m 85 #[.val (.int p1), .val (.int p2), .val (.int p3), .val (.int p4), .val (.int nb), .val (.int va), .val (.int vb), .val (.int vc), .val (.ref b5), .val (.int (1 : Int32)), .unset, .unset, .unset] [])) _
    refine XS.iload X10.here hx rfl (hb hby at_85) rfl ?_
    show Steps p.tables e below (T10.setTop (mkF m 87 #[.val (.int p1), .val (.int p2), .val (.int p3), .val (.int p4), .val (.int nb), .val (.int va), .val (.int vb), .val (.int vc), .val (.ref b5), .val (.int (1 : Int32)), .unset, .unset, .unset] [(.int vb)])) _
    refine XS.iload X10.here hx rfl (hb hby at_87) rfl ?_
    show Steps p.tables e below (T10.setTop (mkF m 89 #[.val (.int p1), .val (.int p2), .val (.int p3), .val (.int p4), .val (.int nb), .val (.int va), .val (.int vb), .val (.int vc), .val (.ref b5), .val (.int (1 : Int32)), .unset, .unset, .unset] [(.int va), (.int vb)])) _
    refine XS.icmpYes X10.here hx rfl (pc0 := 89) (pc' := 122) rfl (hb hby at_89) rfl (teq hc89).1 (by decide) (by decide) ?_
    show Steps p.tables e below (T10.setTop (mkF m 122 #[.val (.int p1), .val (.int p2), .val (.int p3), .val (.int p4), .val (.int nb), .val (.int va), .val (.int vb), .val (.int vc), .val (.ref b5), .val (.int (1 : Int32)), .unset, .unset, .unset] [])) _
    refine XS.iload X10.here hx rfl (hb hby at_122) rfl ?_
    show Steps p.tables e below (T10.setTop (mkF m 124 #[.val (.int p1), .val (.int p2), .val (.int p3), .val (.int p4), .val (.int nb), .val (.int va), .val (.int vb), .val (.int vc), .val (.ref b5), .val (.int (1 : Int32)), .unset, .unset, .unset] [(.int vc)])) _
    refine XS.istore X10.here hx rfl (hb hby at_124) rfl (l' := #[.val (.int p1), .val (.int p2), .val (.int p3), .val (.int p4), .val (.int nb), .val (.int va), .val (.int vb), .val (.int vc), .val (.ref b5), .val (.int (1 : Int32)), .unset, .val (.int vc), .unset]) rfl ?_
    show Steps p.tables e below (T10.setTop (mkF m 126 #[.val (.int p1), .val (.int p2), .val (.int p3), .val (.int p4), .val (.int nb), .val (.int va), .val (.int vb), .val (.int vc), .val (.ref b5), .val (.int (1 : Int32)), .unset, .val (.int vc), .unset] [])) _
    refine XS.iconst X10.here hx rfl (hb hby at_126) ?_
    show Steps p.tables e below (T10.setTop (mkF m 127 #[.val (.int p1), .val (.int p2), .val (.int p3), .val (.int p4), .val (.int nb), .val (.int va), .val (.int vb), .val (.int vc), .val (.ref b5), .val (.int (1 : Int32)), .unset, .val (.int vc), .unset] [(.int (1 : Int32))])) _
    refine XS.istore X10.here hx rfl (hb hby at_127) rfl (l' := #[.val (.int p1), .val (.int p2), .val (.int p3), .val (.int p4), .val (.int nb), .val (.int va), .val (.int vb), .val (.int vc), .val (.ref b5), .val (.int (1 : Int32)), .val (.int (1 : Int32)), .val (.int vc), .unset]) rfl ?_
    show Steps p.tables e below (T10.setTop (mkF m 129 #[.val (.int p1), .val (.int p2), .val (.int p3), .val (.int p4), .val (.int nb), .val (.int va), .val (.int vb), .val (.int vc), .val (.ref b5), .val (.int (1 : Int32)), .val (.int (1 : Int32)), .val (.int vc), .unset] [])) _
    refine XS.iconst X10.here hx rfl (hb hby at_129) ?_
    show Steps p.tables e below (T10.setTop (mkF m 130 #[.val (.int p1), .val (.int p2), .val (.int p3), .val (.int p4), .val (.int nb), .val (.int va), .val (.int vb), .val (.int vc), .val (.ref b5), .val (.int (1 : Int32)), .val (.int (1 : Int32)), .val (.int vc), .unset] [(.int (0 : Int32))])) _
    refine XS.istore X10.here hx rfl (hb hby at_130) rfl (l' := #[.val (.int p1), .val (.int p2), .val (.int p3), .val (.int p4), .val (.int nb), .val (.int va), .val (.int vb), .val (.int vc), .val (.ref b5), .val (.int (1 : Int32)), .val (.int (1 : Int32)), .val (.int vc), .val (.int (0 : Int32))]) rfl ?_
    show Steps p.tables e below (T10.setTop (mkF m 132 #[.val (.int p1), .val (.int p2), .val (.int p3), .val (.int p4), .val (.int nb), .val (.int va), .val (.int vb), .val (.int vc), .val (.ref b5), .val (.int (1 : Int32)), .val (.int (1 : Int32)), .val (.int vc), .val (.int (0 : Int32))] [])) _
    refine XS.iload X10.here hx rfl (hb hby at_132) rfl ?_
    show Steps p.tables e below (T10.setTop (mkF m 134 #[.val (.int p1), .val (.int p2), .val (.int p3), .val (.int p4), .val (.int nb), .val (.int va), .val (.int vb), .val (.int vc), .val (.ref b5), .val (.int (1 : Int32)), .val (.int (1 : Int32)), .val (.int vc), .val (.int (0 : Int32))] [(.int (1 : Int32))])) _
    refine XS.ifNo X10.here hx rfl (hb hby at_134) rfl ((if0 _ _).trans (feq hc134).1) ?_
    show Steps p.tables e below (T10.setTop (mkF m 137 #[.val (.int p1), .val (.int p2), .val (.int p3), .val (.int p4), .val (.int nb), .val (.int va), .val (.int vb), .val (.int vc), .val (.ref b5), .val (.int (1 : Int32)), .val (.int (1 : Int32)), .val (.int vc), .val (.int (0 : Int32))] [])) _
    refine XS.aload X10.here hx rfl (hb hby at_137) rfl rfl ?_
    show Steps p.tables e below (T10.setTop (mkF m 139 #[.val (.int p1), .val (.int p2), .val (.int p3), .val (.int p4), .val (.int nb), .val (.int va), .val (.int vb), .val (.int vc), .val (.ref b5), .val (.int (1 : Int32)), .val (.int (1 : Int32)), .val (.int vc), .val (.int (0 : Int32))] [(.ref b5)])) _
    refine st11.trans ?_
    show Steps p.tables e below (T11.setTop (mkF m 142 #[.val (.int p1), .val (.int p2), .val (.int p3), .val (.int p4), .val (.int nb), .val (.int va), .val (.int vb), .val (.int vc), .val (.ref b5), .val (.int (1 : Int32)), .val (.int (1 : Int32)), .val (.int vc), .val (.int (0 : Int32))] [(.int (0 : Int32))])) _
    refine XS.ifNo X11.here hx rfl (hb hby at_142) rfl ((if0 _ _).trans (teq hc142).2) ?_
    show Steps p.tables e below (T11.setTop (mkF m 145 #[.val (.int p1), .val (.int p2), .val (.int p3), .val (.int p4), .val (.int nb), .val (.int va), .val (.int vb), .val (.int vc), .val (.ref b5), .val (.int (1 : Int32)), .val (.int (1 : Int32)), .val (.int vc), .val (.int (0 : Int32))] [])) _
    refine XS.iconst X11.here hx rfl (hb hby at_145) ?_
    show Steps p.tables e below (T11.setTop (mkF m 146 #[.val (.int p1), .val (.int p2), .val (.int p3), .val (.int p4), .val (.int nb), .val (.int va), .val (.int vb), .val (.int vc), .val (.ref b5), .val (.int (1 : Int32)), .val (.int (1 : Int32)), .val (.int vc), .val (.int (0 : Int32))] [(.int (1 : Int32))])) _
    refine XS.goto X11.here hx rfl (pc0 := 146) (pc' := 150) rfl (hb hby at_146) (by decide) (by decide) ?_
    show Steps p.tables e below (T11.setTop (mkF m 150 #[.val (.int p1), .val (.int p2), .val (.int p3), .val (.int p4), .val (.int nb), .val (.int va), .val (.int vb), .val (.int vc), .val (.ref b5), .val (.int (1 : Int32)), .val (.int (1 : Int32)), .val (.int vc), .val (.int (0 : Int32))] [(.int (1 : Int32))])) _
    refine XS.istore X11.here hx rfl (hb hby at_150) rfl (l' := #[.val (.int p1), .val (.int p2), .val (.int p3), .val (.int p4), .val (.int nb), .val (.int va), .val (.int vb), .val (.int vc), .val (.ref b5), .val (.int (1 : Int32)), .val (.int (1 : Int32)), .val (.int vc), .val (.int (0 : Int32))]) rfl ?_
    show Steps p.tables e below (T11.setTop (mkF m 152 #[.val (.int p1), .val (.int p2), .val (.int p3), .val (.int p4), .val (.int nb), .val (.int va), .val (.int vb), .val (.int vc), .val (.ref b5), .val (.int (1 : Int32)), .val (.int (1 : Int32)), .val (.int vc), .val (.int (0 : Int32))] [])) _
    refine XS.iload X11.here hx rfl (hb hby at_152) rfl ?_
    show Steps p.tables e below (T11.setTop (mkF m 154 #[.val (.int p1), .val (.int p2), .val (.int p3), .val (.int p4), .val (.int nb), .val (.int va), .val (.int vb), .val (.int vc), .val (.ref b5), .val (.int (1 : Int32)), .val (.int (1 : Int32)), .val (.int vc), .val (.int (0 : Int32))] [(.int (1 : Int32))])) _
    refine XS.ifNo X11.here hx rfl (hb hby at_154) rfl ((if0 _ _).trans (feq hc154).1) ?_
    show Steps p.tables e below (T11.setTop (mkF m 157 #[.val (.int p1), .val (.int p2), .val (.int p3), .val (.int p4), .val (.int nb), .val (.int va), .val (.int vb), .val (.int vc), .val (.ref b5), .val (.int (1 : Int32)), .val (.int (1 : Int32)), .val (.int vc), .val (.int (0 : Int32))] [])) _
    refine XS.aload X11.here hx rfl (hb hby at_157) rfl rfl ?_
    show Steps p.tables e below (T11.setTop (mkF m 159 #[.val (.int p1), .val (.int p2), .val (.int p3), .val (.int p4), .val (.int nb), .val (.int va), .val (.int vb), .val (.int vc), .val (.ref b5), .val (.int (1 : Int32)), .val (.int (1 : Int32)), .val (.int vc), .val (.int (0 : Int32))] [(.ref b5)])) _
    refine st12.trans ?_
    show Steps p.tables e below (T12.setTop (mkF m 162 #[.val (.int p1), .val (.int p2), .val (.int p3), .val (.int p4), .val (.int nb), .val (.int va), .val (.int vb), .val (.int vc), .val (.ref b5), .val (.int (1 : Int32)), .val (.int (1 : Int32)), .val (.int vc), .val (.int (0 : Int32))] [(.int vc)])) _
    refine XS.iload X12.here hx rfl (hb hby at_162) rfl ?_
    show Steps p.tables e below (T12.setTop (mkF m 164 #[.val (.int p1), .val (.int p2), .val (.int p3), .val (.int p4), .val (.int nb), .val (.int va), .val (.int vb), .val (.int vc), .val (.ref b5), .val (.int (1 : Int32)), .val (.int (1 : Int32)), .val (.int vc), .val (.int (0 : Int32))] [(.int vc), (.int vc)])) _
    refine XS.icmpNo X12.here hx rfl (hb hby at_164) rfl (teq hc164).2 ?_
    show Steps p.tables e below (T12.setTop (mkF m 167 #[.val (.int p1), .val (.int p2), .val (.int p3), .val (.int p4), .val (.int nb), .val (.int va), .val (.int vb), .val (.int vc), .val (.ref b5), .val (.int (1 : Int32)), .val (.int (1 : Int32)), .val (.int vc), .val (.int (0 : Int32))] [])) _
    refine XS.iconst X12.here hx rfl (hb hby at_167) ?_
    show Steps p.tables e below (T12.setTop (mkF m 168 #[.val (.int p1), .val (.int p2), .val (.int p3), .val (.int p4), .val (.int nb), .val (.int va), .val (.int vb), .val (.int vc), .val (.ref b5), .val (.int (1 : Int32)), .val (.int (1 : Int32)), .val (.int vc), .val (.int (0 : Int32))] [(.int (1 : Int32))])) _
    refine XS.goto X12.here hx rfl (pc0 := 168) (pc' := 172) rfl (hb hby at_168) (by decide) (by decide) ?_
    show Steps p.tables e below (T12.setTop (mkF m 172 #[.val (.int p1), .val (.int p2), .val (.int p3), .val (.int p4), .val (.int nb), .val (.int va), .val (.int vb), .val (.int vc), .val (.ref b5), .val (.int (1 : Int32)), .val (.int (1 : Int32)), .val (.int vc), .val (.int (0 : Int32))] [(.int (1 : Int32))])) _
    refine XS.istore X12.here hx rfl (hb hby at_172) rfl (l' := #[.val (.int p1), .val (.int p2), .val (.int p3), .val (.int p4), .val (.int nb), .val (.int va), .val (.int vb), .val (.int vc), .val (.ref b5), .val (.int (1 : Int32)), .val (.int (1 : Int32)), .val (.int vc), .val (.int (0 : Int32))]) rfl ?_
    show Steps p.tables e below (T12.setTop (mkF m 174 #[.val (.int p1), .val (.int p2), .val (.int p3), .val (.int p4), .val (.int nb), .val (.int va), .val (.int vb), .val (.int vc), .val (.ref b5), .val (.int (1 : Int32)), .val (.int (1 : Int32)), .val (.int vc), .val (.int (0 : Int32))] [])) _
    refine XS.iload X12.here hx rfl (hb hby at_174) rfl ?_
    show Steps p.tables e below (T12.setTop (mkF m 176 #[.val (.int p1), .val (.int p2), .val (.int p3), .val (.int p4), .val (.int nb), .val (.int va), .val (.int vb), .val (.int vc), .val (.ref b5), .val (.int (1 : Int32)), .val (.int (1 : Int32)), .val (.int vc), .val (.int (0 : Int32))] [(.int (1 : Int32))])) _
    refine XS.iconst X12.here hx rfl (hb hby at_176) ?_
    show Steps p.tables e below (T12.setTop (mkF m 177 #[.val (.int p1), .val (.int p2), .val (.int p3), .val (.int p4), .val (.int nb), .val (.int va), .val (.int vb), .val (.int vc), .val (.ref b5), .val (.int (1 : Int32)), .val (.int (1 : Int32)), .val (.int vc), .val (.int (0 : Int32))] [(.int (2 : Int32)), (.int (1 : Int32))])) _
    refine XS.icmpYes X12.here hx rfl (pc0 := 177) (pc' := 202) rfl (hb hby at_177) rfl (feq hc177).2 (by decide) (by decide) ?_
    show Steps p.tables e below (T12.setTop (mkF m 202 #[.val (.int p1), .val (.int p2), .val (.int p3), .val (.int p4), .val (.int nb), .val (.int va), .val (.int vb), .val (.int vc), .val (.ref b5), .val (.int (1 : Int32)), .val (.int (1 : Int32)), .val (.int vc), .val (.int (0 : Int32))] [])) _
    refine XS.iload X12.here hx rfl (hb hby at_202) rfl ?_
    show Steps p.tables e below (T12.setTop (mkF m 204 #[.val (.int p1), .val (.int p2), .val (.int p3), .val (.int p4), .val (.int nb), .val (.int va), .val (.int vb), .val (.int vc), .val (.ref b5), .val (.int (1 : Int32)), .val (.int (1 : Int32)), .val (.int vc), .val (.int (0 : Int32))] [(.int (1 : Int32))])) _
    refine XS.ifNo X12.here hx rfl (hb hby at_204) rfl ((if0 _ _).trans (feq hc204).1) ?_
    show Steps p.tables e below (T12.setTop (mkF m 207 #[.val (.int p1), .val (.int p2), .val (.int p3), .val (.int p4), .val (.int nb), .val (.int va), .val (.int vb), .val (.int vc), .val (.ref b5), .val (.int (1 : Int32)), .val (.int (1 : Int32)), .val (.int vc), .val (.int (0 : Int32))] [])) _
    refine XS.aload X12.here hx rfl (hb hby at_207) rfl rfl ?_
    show Steps p.tables e below (T12.setTop (mkF m 209 #[.val (.int p1), .val (.int p2), .val (.int p3), .val (.int p4), .val (.int nb), .val (.int va), .val (.int vb), .val (.int vc), .val (.ref b5), .val (.int (1 : Int32)), .val (.int (1 : Int32)), .val (.int vc), .val (.int (0 : Int32))] [(.ref b5)])) _
    refine st13.trans ?_
    show Steps p.tables e below (T13.setTop (mkF m 212 #[.val (.int p1), .val (.int p2), .val (.int p3), .val (.int p4), .val (.int nb), .val (.int va), .val (.int vb), .val (.int vc), .val (.ref b5), .val (.int (1 : Int32)), .val (.int (1 : Int32)), .val (.int vc), .val (.int (0 : Int32))] [(.int (1 : Int32))])) _
    refine XS.ifNo X13.here hx rfl (hb hby at_212) rfl ((if0 _ _).trans (feq hc212).1) ?_
    show Steps p.tables e below (T13.setTop (mkF m 215 #[.val (.int p1), .val (.int p2), .val (.int p3), .val (.int p4), .val (.int nb), .val (.int va), .val (.int vb), .val (.int vc), .val (.ref b5), .val (.int (1 : Int32)), .val (.int (1 : Int32)), .val (.int vc), .val (.int (0 : Int32))] [])) _
    refine XS.iconst X13.here hx rfl (hb hby at_215) ?_
    show Steps p.tables e below (T13.setTop (mkF m 216 #[.val (.int p1), .val (.int p2), .val (.int p3), .val (.int p4), .val (.int nb), .val (.int va), .val (.int vb), .val (.int vc), .val (.ref b5), .val (.int (1 : Int32)), .val (.int (1 : Int32)), .val (.int vc), .val (.int (0 : Int32))] [(.int (1 : Int32))])) _
    refine XS.goto X13.here hx rfl (pc0 := 216) (pc' := 220) rfl (hb hby at_216) (by decide) (by decide) ?_
    show Steps p.tables e below (T13.setTop (mkF m 220 #[.val (.int p1), .val (.int p2), .val (.int p3), .val (.int p4), .val (.int nb), .val (.int va), .val (.int vb), .val (.int vc), .val (.ref b5), .val (.int (1 : Int32)), .val (.int (1 : Int32)), .val (.int vc), .val (.int (0 : Int32))] [(.int (1 : Int32))])) _
    refine XS.istore X13.here hx rfl (hb hby at_220) rfl (l' := #[.val (.int p1), .val (.int p2), .val (.int p3), .val (.int p4), .val (.int nb), .val (.int va), .val (.int vb), .val (.int vc), .val (.ref b5), .val (.int (1 : Int32)), .val (.int (1 : Int32)), .val (.int vc), .val (.int (0 : Int32))]) rfl ?_
    show Steps p.tables e below (T13.setTop (mkF m 222 #[.val (.int p1), .val (.int p2), .val (.int p3), .val (.int p4), .val (.int nb), .val (.int va), .val (.int vb), .val (.int vc), .val (.ref b5), .val (.int (1 : Int32)), .val (.int (1 : Int32)), .val (.int vc), .val (.int (0 : Int32))] [])) _
    refine XS.iload X13.here hx rfl (hb hby at_222) rfl ?_
    show Steps p.tables e below (T13.setTop (mkF m 224 #[.val (.int p1), .val (.int p2), .val (.int p3), .val (.int p4), .val (.int nb), .val (.int va), .val (.int vb), .val (.int vc), .val (.ref b5), .val (.int (1 : Int32)), .val (.int (1 : Int32)), .val (.int vc), .val (.int (0 : Int32))] [(.int (1 : Int32))])) _
    exact retN X13 hx (t := .boolean) Bd.returns (by simp) (hb hby at_224) hr
  · show Q0 Z p1 p2 p3 p4 h0 n0 _ T13.heap _
    exact ⟨rfl, N13⟩
set_option maxRecDepth 65536 in
set_option maxHeartbeats 40000000 in
theorem rm0_2 (l : Launch) (Z : State) (a0 : Array Value) (hw : ∀ d ∈ tables_1, d.before a0 Z = true) (ws : List Jvm.Cond) (p1 : Int32) (p2 : Int32) (p3 : Int32) (p4 : Int32) (nb : Int32) (va : Int32) (vb : Int32) (vc : Int32) (hnb : nb = ((1 : Int32) + (p1 &&& (7 : Int32)))) (hva : va = ((p2 &&& (2147483647 : Int32)) - ((p2 &&& (2147483647 : Int32)) / ((1 : Int32) + (p1 &&& (7 : Int32)))) * ((1 : Int32) + (p1 &&& (7 : Int32))))) (hvb : vb = ((p3 &&& (2147483647 : Int32)) - ((p3 &&& (2147483647 : Int32)) / ((1 : Int32) + (p1 &&& (7 : Int32)))) * ((1 : Int32) + (p1 &&& (7 : Int32))))) (hvc : vc = ((p4 &&& (2147483647 : Int32)) - ((p4 &&& (2147483647 : Int32)) / ((1 : Int32) + (p1 &&& (7 : Int32)))) * ((1 : Int32) + (p1 &&& (7 : Int32))))) (h0 : Heap) (n0 : Nat) (Z0 : n0 ≤ h0.size) (hnz14 : ¬ (nb = (0 : Int32))) (hnz23 : ¬ (nb = (0 : Int32))) (hnz32 : ¬ (nb = (0 : Int32))) (hc68 : va = va) (hc89 : ¬ (vb = va)) (hc100 : vc = vb) (hc134 : ¬ ((1 : Int32) = (0 : Int32))) (hc142 : (0 : Int32) = (0 : Int32)) (hc154 : ¬ ((1 : Int32) = (0 : Int32))) (hc164 : vb = vb) (hc177 : ¬ ((1 : Int32) = (2 : Int32))) (hc204 : ¬ ((1 : Int32) = (0 : Int32))) (hc212 : ¬ ((1 : Int32) = (0 : Int32))) (hn3 : ¬ nb < 0) (hcap3 : nb.toNatClampNeg ≤ 8) (ra : ¬ va < 0 ∧ va < nb) (rb : ¬ vb < 0 ∧ vb < nb) (rc : ¬ vc < 0 ∧ vc < nb) (hba : ¬ vb = va) (hcb : vc = vb) :
    MetFree l x (head1 (Jvm.Cond.code x code maxLocals ret :: ws) room_1) (fun a U => a = #[(.int p1), (.int p2), (.int p3), (.int p4)] ∧ Z.Warmed39 U.vm ∧ U.heap = h0) (fun _ _ _ _ _ => True) (fun _ U o U' => ∃ v L, o = .returned v ∧ Q0 Z p1 p2 p3 p4 h0 n0 v U'.heap L ∧ FrameEnd U o U' L room_1.cells room_1.slots) := by
  refine MetFree.of_bodySF (plainFor_of_name pn_0) hisR ?_
  intro p e s m args below meth c s₁ Bd hml0 hP hK
  obtain ⟨rfl, hZ, hh⟩ := hP
  have hx := Bd.exec
  have hby := Bd.bytes
  have hml : c.maxLocals = 13 := hml0
  have hown : s.vm.findClass "com/example/weftmap/weftmap/engine/place/IndexQueueAddPinLaw" = some m.cls := findClass_of_methodNamed Bd.named
  have hnm := (name_of_methodNamed Bd.named Bd.method).1
  have X0 : Stand p l e room_1 s m #[(.int p1), (.int p2), (.int p3), (.int p4)] below meth c s₁ [] 0 0 := Stand.of_body Bd
  have e0 : s₁.heap = h0 := by rw [← hh, Bd.state]; rfl
  have N0 := Fr.nil n0
  have pre0 : ∀ t, Steps p.tables e below (s₁.setTop (mkF m 0 #[.val (.int p1), .val (.int p2), .val (.int p3), .val (.int p4), .unset, .unset, .unset, .unset, .unset, .unset, .unset, .unset, .unset] [])) t → Steps p.tables e below (s₁.setTop (entryFrame m #[(.int p1), (.int p2), (.int p3), (.int p4)] maxLocals)) t := fun t k => castTop (ef_0 m p1 p2 p3 p4) k
  have pre1 : ∀ t, Steps p.tables e below (s₁.setTop (mkF m 35 #[.val (.int p1), .val (.int p2), .val (.int p3), .val (.int p4), .val (.int nb), .val (.int va), .val (.int vb), .val (.int vc), .unset, .unset, .unset, .unset, .unset] [])) t → Steps p.tables e below (s₁.setTop (mkF m 0 #[.val (.int p1), .val (.int p2), .val (.int p3), .val (.int p4), .unset, .unset, .unset, .unset, .unset, .unset, .unset, .unset, .unset] [])) t := by
    intro t kt
    subst hva hvb hvc
    subst hnb
    show Steps p.tables e below (s₁.setTop (mkF m 0 #[.val (.int p1), .val (.int p2), .val (.int p3), .val (.int p4), .unset, .unset, .unset, .unset, .unset, .unset, .unset, .unset, .unset] [])) _
    refine XS.iconst X0.here hx rfl (hb hby at_0) ?_
    show Steps p.tables e below (s₁.setTop (mkF m 1 #[.val (.int p1), .val (.int p2), .val (.int p3), .val (.int p4), .unset, .unset, .unset, .unset, .unset, .unset, .unset, .unset, .unset] [(.int (1 : Int32))])) _
    refine XS.iloadN X0.here hx rfl (hb hby at_1) rfl ?_
    show Steps p.tables e below (s₁.setTop (mkF m 2 #[.val (.int p1), .val (.int p2), .val (.int p3), .val (.int p4), .unset, .unset, .unset, .unset, .unset, .unset, .unset, .unset, .unset] [(.int p1), (.int (1 : Int32))])) _
    refine XS.bipush X0.here hx rfl (hb hby at_2) ?_
    show Steps p.tables e below (s₁.setTop (mkF m 4 #[.val (.int p1), .val (.int p2), .val (.int p3), .val (.int p4), .unset, .unset, .unset, .unset, .unset, .unset, .unset, .unset, .unset] [(.int (7 : Int32)), (.int p1), (.int (1 : Int32))])) _
    refine XS.iand X0.here hx rfl (hb hby at_4) rfl ?_
    show Steps p.tables e below (s₁.setTop (mkF m 5 #[.val (.int p1), .val (.int p2), .val (.int p3), .val (.int p4), .unset, .unset, .unset, .unset, .unset, .unset, .unset, .unset, .unset] [(.int (p1 &&& (7 : Int32))), (.int (1 : Int32))])) _
    refine XS.iadd X0.here hx rfl (hb hby at_5) rfl ?_
    show Steps p.tables e below (s₁.setTop (mkF m 6 #[.val (.int p1), .val (.int p2), .val (.int p3), .val (.int p4), .unset, .unset, .unset, .unset, .unset, .unset, .unset, .unset, .unset] [(.int ((1 : Int32) + (p1 &&& (7 : Int32))))])) _
    refine XS.istore X0.here hx rfl (hb hby at_6) rfl (l' := #[.val (.int p1), .val (.int p2), .val (.int p3), .val (.int p4), .val (.int ((1 : Int32) + (p1 &&& (7 : Int32)))), .unset, .unset, .unset, .unset, .unset, .unset, .unset, .unset]) rfl ?_
    show Steps p.tables e below (s₁.setTop (mkF m 8 #[.val (.int p1), .val (.int p2), .val (.int p3), .val (.int p4), .val (.int ((1 : Int32) + (p1 &&& (7 : Int32)))), .unset, .unset, .unset, .unset, .unset, .unset, .unset, .unset] [])) _
    refine XS.iloadN X0.here hx rfl (hb hby at_8) rfl ?_
    show Steps p.tables e below (s₁.setTop (mkF m 9 #[.val (.int p1), .val (.int p2), .val (.int p3), .val (.int p4), .val (.int ((1 : Int32) + (p1 &&& (7 : Int32)))), .unset, .unset, .unset, .unset, .unset, .unset, .unset, .unset] [(.int p2)])) _
    refine X0.ldcInt hx hown (mvT hZ (hw _ (List.mem_of_getElem? (i := 0) rfl))) (g := (mkF m 9 #[.val (.int p1), .val (.int p2), .val (.int p3), .val (.int p4), .val (.int ((1 : Int32) + (p1 &&& (7 : Int32)))), .unset, .unset, .unset, .unset, .unset, .unset, .unset, .unset] [(.int p2)])) rfl (hb hby at_9) _ ?_
    show Steps p.tables e below (s₁.setTop (mkF m 11 #[.val (.int p1), .val (.int p2), .val (.int p3), .val (.int p4), .val (.int ((1 : Int32) + (p1 &&& (7 : Int32)))), .unset, .unset, .unset, .unset, .unset, .unset, .unset, .unset] [(.int (2147483647 : Int32)), (.int p2)])) _
    refine XS.iand X0.here hx rfl (hb hby at_11) rfl ?_
    show Steps p.tables e below (s₁.setTop (mkF m 12 #[.val (.int p1), .val (.int p2), .val (.int p3), .val (.int p4), .val (.int ((1 : Int32) + (p1 &&& (7 : Int32)))), .unset, .unset, .unset, .unset, .unset, .unset, .unset, .unset] [(.int (p2 &&& (2147483647 : Int32)))])) _
    refine XS.iload X0.here hx rfl (hb hby at_12) rfl ?_
    show Steps p.tables e below (s₁.setTop (mkF m 14 #[.val (.int p1), .val (.int p2), .val (.int p3), .val (.int p4), .val (.int ((1 : Int32) + (p1 &&& (7 : Int32)))), .unset, .unset, .unset, .unset, .unset, .unset, .unset, .unset] [(.int ((1 : Int32) + (p1 &&& (7 : Int32)))), (.int (p2 &&& (2147483647 : Int32)))])) _
    refine XS.irem X0.here hx rfl (hb hby at_14) rfl hnz14 ?_
    show Steps p.tables e below (s₁.setTop (mkF m 15 #[.val (.int p1), .val (.int p2), .val (.int p3), .val (.int p4), .val (.int ((1 : Int32) + (p1 &&& (7 : Int32)))), .unset, .unset, .unset, .unset, .unset, .unset, .unset, .unset] [(.int ((p2 &&& (2147483647 : Int32)) - ((p2 &&& (2147483647 : Int32)) / ((1 : Int32) + (p1 &&& (7 : Int32)))) * ((1 : Int32) + (p1 &&& (7 : Int32)))))])) _
    refine XS.istore X0.here hx rfl (hb hby at_15) rfl (l' := #[.val (.int p1), .val (.int p2), .val (.int p3), .val (.int p4), .val (.int ((1 : Int32) + (p1 &&& (7 : Int32)))), .val (.int ((p2 &&& (2147483647 : Int32)) - ((p2 &&& (2147483647 : Int32)) / ((1 : Int32) + (p1 &&& (7 : Int32)))) * ((1 : Int32) + (p1 &&& (7 : Int32))))), .unset, .unset, .unset, .unset, .unset, .unset, .unset]) rfl ?_
    show Steps p.tables e below (s₁.setTop (mkF m 17 #[.val (.int p1), .val (.int p2), .val (.int p3), .val (.int p4), .val (.int ((1 : Int32) + (p1 &&& (7 : Int32)))), .val (.int ((p2 &&& (2147483647 : Int32)) - ((p2 &&& (2147483647 : Int32)) / ((1 : Int32) + (p1 &&& (7 : Int32)))) * ((1 : Int32) + (p1 &&& (7 : Int32))))), .unset, .unset, .unset, .unset, .unset, .unset, .unset] [])) _
    refine XS.iloadN X0.here hx rfl (hb hby at_17) rfl ?_
    show Steps p.tables e below (s₁.setTop (mkF m 18 #[.val (.int p1), .val (.int p2), .val (.int p3), .val (.int p4), .val (.int ((1 : Int32) + (p1 &&& (7 : Int32)))), .val (.int ((p2 &&& (2147483647 : Int32)) - ((p2 &&& (2147483647 : Int32)) / ((1 : Int32) + (p1 &&& (7 : Int32)))) * ((1 : Int32) + (p1 &&& (7 : Int32))))), .unset, .unset, .unset, .unset, .unset, .unset, .unset] [(.int p3)])) _
    refine X0.ldcInt hx hown (mvT hZ (hw _ (List.mem_of_getElem? (i := 0) rfl))) (g := (mkF m 18 #[.val (.int p1), .val (.int p2), .val (.int p3), .val (.int p4), .val (.int ((1 : Int32) + (p1 &&& (7 : Int32)))), .val (.int ((p2 &&& (2147483647 : Int32)) - ((p2 &&& (2147483647 : Int32)) / ((1 : Int32) + (p1 &&& (7 : Int32)))) * ((1 : Int32) + (p1 &&& (7 : Int32))))), .unset, .unset, .unset, .unset, .unset, .unset, .unset] [(.int p3)])) rfl (hb hby at_18) _ ?_
    show Steps p.tables e below (s₁.setTop (mkF m 20 #[.val (.int p1), .val (.int p2), .val (.int p3), .val (.int p4), .val (.int ((1 : Int32) + (p1 &&& (7 : Int32)))), .val (.int ((p2 &&& (2147483647 : Int32)) - ((p2 &&& (2147483647 : Int32)) / ((1 : Int32) + (p1 &&& (7 : Int32)))) * ((1 : Int32) + (p1 &&& (7 : Int32))))), .unset, .unset, .unset, .unset, .unset, .unset, .unset] [(.int (2147483647 : Int32)), (.int p3)])) _
    refine XS.iand X0.here hx rfl (hb hby at_20) rfl ?_
    show Steps p.tables e below (s₁.setTop (mkF m 21 #[.val (.int p1), .val (.int p2), .val (.int p3), .val (.int p4), .val (.int ((1 : Int32) + (p1 &&& (7 : Int32)))), .val (.int ((p2 &&& (2147483647 : Int32)) - ((p2 &&& (2147483647 : Int32)) / ((1 : Int32) + (p1 &&& (7 : Int32)))) * ((1 : Int32) + (p1 &&& (7 : Int32))))), .unset, .unset, .unset, .unset, .unset, .unset, .unset] [(.int (p3 &&& (2147483647 : Int32)))])) _
    refine XS.iload X0.here hx rfl (hb hby at_21) rfl ?_
    show Steps p.tables e below (s₁.setTop (mkF m 23 #[.val (.int p1), .val (.int p2), .val (.int p3), .val (.int p4), .val (.int ((1 : Int32) + (p1 &&& (7 : Int32)))), .val (.int ((p2 &&& (2147483647 : Int32)) - ((p2 &&& (2147483647 : Int32)) / ((1 : Int32) + (p1 &&& (7 : Int32)))) * ((1 : Int32) + (p1 &&& (7 : Int32))))), .unset, .unset, .unset, .unset, .unset, .unset, .unset] [(.int ((1 : Int32) + (p1 &&& (7 : Int32)))), (.int (p3 &&& (2147483647 : Int32)))])) _
    refine XS.irem X0.here hx rfl (hb hby at_23) rfl hnz23 ?_
    show Steps p.tables e below (s₁.setTop (mkF m 24 #[.val (.int p1), .val (.int p2), .val (.int p3), .val (.int p4), .val (.int ((1 : Int32) + (p1 &&& (7 : Int32)))), .val (.int ((p2 &&& (2147483647 : Int32)) - ((p2 &&& (2147483647 : Int32)) / ((1 : Int32) + (p1 &&& (7 : Int32)))) * ((1 : Int32) + (p1 &&& (7 : Int32))))), .unset, .unset, .unset, .unset, .unset, .unset, .unset] [(.int ((p3 &&& (2147483647 : Int32)) - ((p3 &&& (2147483647 : Int32)) / ((1 : Int32) + (p1 &&& (7 : Int32)))) * ((1 : Int32) + (p1 &&& (7 : Int32)))))])) _
    refine XS.istore X0.here hx rfl (hb hby at_24) rfl (l' := #[.val (.int p1), .val (.int p2), .val (.int p3), .val (.int p4), .val (.int ((1 : Int32) + (p1 &&& (7 : Int32)))), .val (.int ((p2 &&& (2147483647 : Int32)) - ((p2 &&& (2147483647 : Int32)) / ((1 : Int32) + (p1 &&& (7 : Int32)))) * ((1 : Int32) + (p1 &&& (7 : Int32))))), .val (.int ((p3 &&& (2147483647 : Int32)) - ((p3 &&& (2147483647 : Int32)) / ((1 : Int32) + (p1 &&& (7 : Int32)))) * ((1 : Int32) + (p1 &&& (7 : Int32))))), .unset, .unset, .unset, .unset, .unset, .unset]) rfl ?_
    show Steps p.tables e below (s₁.setTop (mkF m 26 #[.val (.int p1), .val (.int p2), .val (.int p3), .val (.int p4), .val (.int ((1 : Int32) + (p1 &&& (7 : Int32)))), .val (.int ((p2 &&& (2147483647 : Int32)) - ((p2 &&& (2147483647 : Int32)) / ((1 : Int32) + (p1 &&& (7 : Int32)))) * ((1 : Int32) + (p1 &&& (7 : Int32))))), .val (.int ((p3 &&& (2147483647 : Int32)) - ((p3 &&& (2147483647 : Int32)) / ((1 : Int32) + (p1 &&& (7 : Int32)))) * ((1 : Int32) + (p1 &&& (7 : Int32))))), .unset, .unset, .unset, .unset, .unset, .unset] [])) _
    refine XS.iloadN X0.here hx rfl (hb hby at_26) rfl ?_
    show Steps p.tables e below (s₁.setTop (mkF m 27 #[.val (.int p1), .val (.int p2), .val (.int p3), .val (.int p4), .val (.int ((1 : Int32) + (p1 &&& (7 : Int32)))), .val (.int ((p2 &&& (2147483647 : Int32)) - ((p2 &&& (2147483647 : Int32)) / ((1 : Int32) + (p1 &&& (7 : Int32)))) * ((1 : Int32) + (p1 &&& (7 : Int32))))), .val (.int ((p3 &&& (2147483647 : Int32)) - ((p3 &&& (2147483647 : Int32)) / ((1 : Int32) + (p1 &&& (7 : Int32)))) * ((1 : Int32) + (p1 &&& (7 : Int32))))), .unset, .unset, .unset, .unset, .unset, .unset] [(.int p4)])) _
    refine X0.ldcInt hx hown (mvT hZ (hw _ (List.mem_of_getElem? (i := 0) rfl))) (g := (mkF m 27 #[.val (.int p1), .val (.int p2), .val (.int p3), .val (.int p4), .val (.int ((1 : Int32) + (p1 &&& (7 : Int32)))), .val (.int ((p2 &&& (2147483647 : Int32)) - ((p2 &&& (2147483647 : Int32)) / ((1 : Int32) + (p1 &&& (7 : Int32)))) * ((1 : Int32) + (p1 &&& (7 : Int32))))), .val (.int ((p3 &&& (2147483647 : Int32)) - ((p3 &&& (2147483647 : Int32)) / ((1 : Int32) + (p1 &&& (7 : Int32)))) * ((1 : Int32) + (p1 &&& (7 : Int32))))), .unset, .unset, .unset, .unset, .unset, .unset] [(.int p4)])) rfl (hb hby at_27) _ ?_
    show Steps p.tables e below (s₁.setTop (mkF m 29 #[.val (.int p1), .val (.int p2), .val (.int p3), .val (.int p4), .val (.int ((1 : Int32) + (p1 &&& (7 : Int32)))), .val (.int ((p2 &&& (2147483647 : Int32)) - ((p2 &&& (2147483647 : Int32)) / ((1 : Int32) + (p1 &&& (7 : Int32)))) * ((1 : Int32) + (p1 &&& (7 : Int32))))), .val (.int ((p3 &&& (2147483647 : Int32)) - ((p3 &&& (2147483647 : Int32)) / ((1 : Int32) + (p1 &&& (7 : Int32)))) * ((1 : Int32) + (p1 &&& (7 : Int32))))), .unset, .unset, .unset, .unset, .unset, .unset] [(.int (2147483647 : Int32)), (.int p4)])) _
    refine XS.iand X0.here hx rfl (hb hby at_29) rfl ?_
    show Steps p.tables e below (s₁.setTop (mkF m 30 #[.val (.int p1), .val (.int p2), .val (.int p3), .val (.int p4), .val (.int ((1 : Int32) + (p1 &&& (7 : Int32)))), .val (.int ((p2 &&& (2147483647 : Int32)) - ((p2 &&& (2147483647 : Int32)) / ((1 : Int32) + (p1 &&& (7 : Int32)))) * ((1 : Int32) + (p1 &&& (7 : Int32))))), .val (.int ((p3 &&& (2147483647 : Int32)) - ((p3 &&& (2147483647 : Int32)) / ((1 : Int32) + (p1 &&& (7 : Int32)))) * ((1 : Int32) + (p1 &&& (7 : Int32))))), .unset, .unset, .unset, .unset, .unset, .unset] [(.int (p4 &&& (2147483647 : Int32)))])) _
    refine XS.iload X0.here hx rfl (hb hby at_30) rfl ?_
    show Steps p.tables e below (s₁.setTop (mkF m 32 #[.val (.int p1), .val (.int p2), .val (.int p3), .val (.int p4), .val (.int ((1 : Int32) + (p1 &&& (7 : Int32)))), .val (.int ((p2 &&& (2147483647 : Int32)) - ((p2 &&& (2147483647 : Int32)) / ((1 : Int32) + (p1 &&& (7 : Int32)))) * ((1 : Int32) + (p1 &&& (7 : Int32))))), .val (.int ((p3 &&& (2147483647 : Int32)) - ((p3 &&& (2147483647 : Int32)) / ((1 : Int32) + (p1 &&& (7 : Int32)))) * ((1 : Int32) + (p1 &&& (7 : Int32))))), .unset, .unset, .unset, .unset, .unset, .unset] [(.int ((1 : Int32) + (p1 &&& (7 : Int32)))), (.int (p4 &&& (2147483647 : Int32)))])) _
    refine XS.irem X0.here hx rfl (hb hby at_32) rfl hnz32 ?_
    show Steps p.tables e below (s₁.setTop (mkF m 33 #[.val (.int p1), .val (.int p2), .val (.int p3), .val (.int p4), .val (.int ((1 : Int32) + (p1 &&& (7 : Int32)))), .val (.int ((p2 &&& (2147483647 : Int32)) - ((p2 &&& (2147483647 : Int32)) / ((1 : Int32) + (p1 &&& (7 : Int32)))) * ((1 : Int32) + (p1 &&& (7 : Int32))))), .val (.int ((p3 &&& (2147483647 : Int32)) - ((p3 &&& (2147483647 : Int32)) / ((1 : Int32) + (p1 &&& (7 : Int32)))) * ((1 : Int32) + (p1 &&& (7 : Int32))))), .unset, .unset, .unset, .unset, .unset, .unset] [(.int ((p4 &&& (2147483647 : Int32)) - ((p4 &&& (2147483647 : Int32)) / ((1 : Int32) + (p1 &&& (7 : Int32)))) * ((1 : Int32) + (p1 &&& (7 : Int32)))))])) _
    refine XS.istore X0.here hx rfl (hb hby at_33) rfl (l' := #[.val (.int p1), .val (.int p2), .val (.int p3), .val (.int p4), .val (.int ((1 : Int32) + (p1 &&& (7 : Int32)))), .val (.int ((p2 &&& (2147483647 : Int32)) - ((p2 &&& (2147483647 : Int32)) / ((1 : Int32) + (p1 &&& (7 : Int32)))) * ((1 : Int32) + (p1 &&& (7 : Int32))))), .val (.int ((p3 &&& (2147483647 : Int32)) - ((p3 &&& (2147483647 : Int32)) / ((1 : Int32) + (p1 &&& (7 : Int32)))) * ((1 : Int32) + (p1 &&& (7 : Int32))))), .val (.int ((p4 &&& (2147483647 : Int32)) - ((p4 &&& (2147483647 : Int32)) / ((1 : Int32) + (p1 &&& (7 : Int32)))) * ((1 : Int32) + (p1 &&& (7 : Int32))))), .unset, .unset, .unset, .unset, .unset]) rfl ?_
    exact kt
  -- 3. LAWS
  obtain ⟨T5, h5, X5, e5, E5, A5, D5, -, st5⟩ := newO X0 hx hZ hown (hw _ (List.mem_of_getElem? (i := 1) rfl)) (hw _ (List.mem_of_getElem? (i := 2) rfl)) (hw _ (List.mem_of_getElem? (i := 3) rfl)) e0 (g := (mkF m 35 #[.val (.int p1), .val (.int p2), .val (.int p3), .val (.int p4), .val (.int nb), .val (.int va), .val (.int vb), .val (.int vc), .unset, .unset, .unset, .unset, .unset] [])) rfl (hb hby at_35) (by decide) (by decide)
  obtain ⟨b5, g5⟩ : ∃ z, z = h0.size := ⟨_, rfl⟩      -- the fresh object's address
  rw [← g5] at A5 D5 st5      -- A5 : Exa Z h5 b5 "com/example/weftmap/weftmap/engine/place/IndexQueue"; E5 : Ext h0 h5 (carries every older fact: .ext E5)
  have F_items_b5 : Fld Z h5 b5 "com/example/weftmap/weftmap/engine/place/IndexQueue" "items" "[I" .null := D5 (Or.inr (hw _ (List.mem_of_getElem? (i := 12) rfl))) (ty := (.array .int)) (by decide)
  have F_queued_b5 : Fld Z h5 b5 "com/example/weftmap/weftmap/engine/place/IndexQueue" "queued" "[Z" .null := D5 (Or.inr (hw _ (List.mem_of_getElem? (i := 15) rfl))) (ty := (.array .boolean)) (by decide)
  have F_head_b5 : Fld Z h5 b5 "com/example/weftmap/weftmap/engine/place/IndexQueue" "head" "I" (.int (0 : Int32)) := D5 (Or.inl (hw _ (List.mem_of_getElem? (i := 22) rfl))) (ty := .int) (by decide)
  have F_size_b5 : Fld Z h5 b5 "com/example/weftmap/weftmap/engine/place/IndexQueue" "size" "I" (.int (0 : Int32)) := D5 (Or.inl (hw _ (List.mem_of_getElem? (i := 24) rfl))) (ty := .int) (by decide)
  have E_b5 := A5
  have g_b5 : n0 ≤ b5 := Nat.le_trans Z0 (Nat.le_of_eq g5.symm)
  have sz_b5 : h0.size ≤ b5 := (Nat.le_trans (Keep.refl h0 []).1 (Nat.le_of_eq g5.symm))
  have K5 : Keep h0 h5 [] := (Keep.refl h0 []).ext E5
  -- pc 42: the constructor of com/example/weftmap/weftmap/engine/place/IndexQueue by its contract rm1
  obtain ⟨_, _, ⟨T6, L6, k6, n6⟩, -, X6, ⟨Lc6, hQ6, l6, y6, z6⟩, st6⟩ := X5.specialBack hx (y := (⟨"com/example/weftmap/weftmap/engine/place/IndexQueue", "<init>", "(II)V"⟩ : MethodName)) rfl hown (mvT hZ (hw _ (List.mem_of_getElem? (i := 4) rfl))) (mvT hZ (hw _ (List.mem_of_getElem? (i := 5) rfl))) (mvT hZ (hw _ (List.mem_of_getElem? (i := 6) rfl))) (by decide) (backOf (W := 1) (rm1 l Z a0 hw [] b5 nb _ _ h5 n0 (Nat.le_trans Z0 E5.1) E_b5 F_items_b5 g_b5 F_queued_b5 F_head_b5 F_size_b5 hn3 hcap3) hZ (hw _ (List.mem_of_getElem? (i := 6) rfl)) (hw _ (List.mem_of_getElem? (i := 3) rfl)) (by decide) (by decide)) (g := (mkF m 42 #[.val (.int p1), .val (.int p2), .val (.int p3), .val (.int p4), .val (.int nb), .val (.int va), .val (.int vb), .val (.int vc), .unset, .unset, .unset, .unset, .unset] [(.int nb), (.int (2 : Int32)), (.ref b5), (.ref b5)])) rfl (by rw [hml]; rfl) (Steps.refl _) (a := b5) (argsL := [(.int (2 : Int32)), (.int nb)]) (rest := [(.ref b5)]) (lenOf pd_0_0 rfl) rfl (by show 2 * 0 + _ ≤ _; exact Nat.le_of_eq rfl) (hb hby at_42) (fun _ _ => ⟨rfl, e5, (by decide : 1 + 2 ≤ _), (by decide : 4 + 10 ≤ _)⟩)
  dsimp only [Pt.U, Pt.locs, Pt.cells, Pt.slots] at X6 l6 y6 z6 st6 hQ6
  subst l6 y6 z6
  obtain ⟨rfl, N6q, it, qu, I6⟩ := hQ6
  have N6 := Fr.app N0 N6q
  -- pc 51: com/example/weftmap/weftmap/engine/place/IndexQueue.add by the contract of the body that the receiver's class selects, rm3
  obtain ⟨cq7, kq7, q7a, q7b, q7c⟩ := isOf hZ rfl I6.1
  obtain ⟨_, _, ⟨T7, L7, k7, n7⟩, -, X7, ⟨Lc7, hQ7, l7, y7, z7⟩, st7⟩ := X6.virtualBack hx (y := (⟨"com/example/weftmap/weftmap/engine/place/IndexQueue", "add", "(I)V"⟩ : MethodName)) (z := (⟨"com/example/weftmap/weftmap/engine/place/IndexQueue", "add", "(I)V"⟩ : MethodName)) hown (mvT hZ (hw _ (List.mem_of_getElem? (i := 16) rfl))) (mvT hZ (hw _ (List.mem_of_getElem? (i := 17) rfl))) (notFace_of_selects (args := #[]) (mvT hZ (hw _ (List.mem_of_getElem? (i := 19) rfl)))) (mvT hZ (hw _ (List.mem_of_getElem? (i := 19) rfl))) (mvT hZ (hw _ (List.mem_of_getElem? (i := 18) rfl))) (by decide) (backOf (W := 0) (rm3a l Z a0 hw [] b5 va it qu nb (fun _ => 0) (fun _ => 0) 0 0 0 1 T6.heap n0 (own_n0 I6) I6 ra rfl (by decide) (by decide) (by decide) (by decide)) hZ (hw _ (List.mem_of_getElem? (i := 20) rfl)) (hw _ (List.mem_of_getElem? (i := 3) rfl)) (by decide) (by decide)) q7a q7c (g := (mkF m 51 #[.val (.int p1), .val (.int p2), .val (.int p3), .val (.int p4), .val (.int nb), .val (.int va), .val (.int vb), .val (.int vc), .val (.ref b5), .unset, .unset, .unset, .unset] [(.int va), (.ref b5)])) rfl (by rw [hml]; rfl) (Steps.refl _) (argsL := [(.int va)]) (rest := []) (lenOf pd_0_2 rfl) rfl (by show 2 * 0 + _ ≤ _; exact Nat.le_of_eq rfl) (hb hby at_51) (fun _ _ => ⟨rfl, rfl, (by decide : 3 + 0 ≤ _), (by decide : 14 + 0 ≤ _)⟩)
  dsimp only [Pt.U, Pt.locs, Pt.cells, Pt.slots] at X7 l7 y7 z7 st7 hQ7
  subst l7 y7 z7
  obtain ⟨rfl, N7q, I7⟩ := hQ7
  have N7 := Fr.app N6 N7q
  -- pc 58: com/example/weftmap/weftmap/engine/place/IndexQueue.add by the contract of the body that the receiver's class selects, rm3
  obtain ⟨cq8, kq8, q8a, q8b, q8c⟩ := isOf hZ rfl I7.1
  obtain ⟨_, _, ⟨T8, L8, k8, n8⟩, -, X8, ⟨Lc8, hQ8, l8, y8, z8⟩, st8⟩ := X7.virtualBack hx (y := (⟨"com/example/weftmap/weftmap/engine/place/IndexQueue", "add", "(I)V"⟩ : MethodName)) (z := (⟨"com/example/weftmap/weftmap/engine/place/IndexQueue", "add", "(I)V"⟩ : MethodName)) hown (mvT hZ (hw _ (List.mem_of_getElem? (i := 16) rfl))) (mvT hZ (hw _ (List.mem_of_getElem? (i := 17) rfl))) (notFace_of_selects (args := #[]) (mvT hZ (hw _ (List.mem_of_getElem? (i := 19) rfl)))) (mvT hZ (hw _ (List.mem_of_getElem? (i := 19) rfl))) (mvT hZ (hw _ (List.mem_of_getElem? (i := 18) rfl))) (by decide) (backOf (W := 0) (rm3a l Z a0 hw [] b5 vb it qu nb (own_upd (fun _ => 0) 0 va) (own_upd (fun _ => 0) va 1) 0 1 1 2 T7.heap n0 (own_n0 I7) I7 rb (by simp [own_upd, hba]) (by decide) (by decide) (by decide) (by decide)) hZ (hw _ (List.mem_of_getElem? (i := 20) rfl)) (hw _ (List.mem_of_getElem? (i := 3) rfl)) (by decide) (by decide)) q8a q8c (g := (mkF m 58 #[.val (.int p1), .val (.int p2), .val (.int p3), .val (.int p4), .val (.int nb), .val (.int va), .val (.int vb), .val (.int vc), .val (.ref b5), .unset, .unset, .unset, .unset] [(.int vb), (.ref b5)])) rfl (by rw [hml]; rfl) (Steps.refl _) (argsL := [(.int vb)]) (rest := []) (lenOf pd_0_2 rfl) rfl (by show 2 * 0 + _ ≤ _; exact Nat.le_of_eq rfl) (hb hby at_58) (fun _ _ => ⟨rfl, rfl, (by decide : 3 + 0 ≤ _), (by decide : 14 + 0 ≤ _)⟩)
  dsimp only [Pt.U, Pt.locs, Pt.cells, Pt.slots] at X8 l8 y8 z8 st8 hQ8
  subst l8 y8 z8
  obtain ⟨rfl, N8q, I8⟩ := hQ8
  have N8 := Fr.app N7 N8q
  -- pc 63: com/example/weftmap/weftmap/engine/place/IndexQueue.poll by the contract of the body that the receiver's class selects, rm4
  obtain ⟨cq9, kq9, q9a, q9b, q9c⟩ := isOf hZ rfl I8.1
  obtain ⟨_, _, ⟨T9, L9, k9, n9⟩, -, X9, ⟨Lc9, hQ9, l9, y9, z9⟩, st9⟩ := X8.virtualBack hx (y := (⟨"com/example/weftmap/weftmap/engine/place/IndexQueue", "poll", "()I"⟩ : MethodName)) (z := (⟨"com/example/weftmap/weftmap/engine/place/IndexQueue", "poll", "()I"⟩ : MethodName)) hown (mvT hZ (hw _ (List.mem_of_getElem? (i := 25) rfl))) (mvT hZ (hw _ (List.mem_of_getElem? (i := 26) rfl))) (notFace_of_selects (args := #[]) (mvT hZ (hw _ (List.mem_of_getElem? (i := 28) rfl)))) (mvT hZ (hw _ (List.mem_of_getElem? (i := 28) rfl))) (mvT hZ (hw _ (List.mem_of_getElem? (i := 27) rfl))) (by decide) (backOf (W := 0) (rm4a l Z a0 hw [] b5 it qu nb (own_upd (own_upd (fun _ => 0) 0 va) 1 vb) (own_upd (own_upd (fun _ => 0) va 1) vb 1) 0 2 va 1 1 T8.heap n0 (own_n0 I8) I8 (by simp [own_upd]) ra (by decide) (by decide) (by decide) (by decide)) hZ (hw _ (List.mem_of_getElem? (i := 29) rfl)) (hw _ (List.mem_of_getElem? (i := 3) rfl)) (by decide) (by decide)) q9a q9c (g := (mkF m 63 #[.val (.int p1), .val (.int p2), .val (.int p3), .val (.int p4), .val (.int nb), .val (.int va), .val (.int vb), .val (.int vc), .val (.ref b5), .unset, .unset, .unset, .unset] [(.ref b5)])) rfl (by rw [hml]; rfl) (Steps.refl _) (argsL := []) (rest := []) (lenOf pd_0_3 rfl) rfl (by show 2 * 0 + _ ≤ _; exact Nat.le_of_eq rfl) (hb hby at_63) (fun _ _ => ⟨rfl, rfl, (by decide : 3 + 0 ≤ _), (by decide : 14 + 0 ≤ _)⟩)
  dsimp only [Pt.U, Pt.locs, Pt.cells, Pt.slots] at X9 l9 y9 z9 st9 hQ9
  subst l9 y9 z9
  obtain ⟨rfl, N9q, I9⟩ := hQ9
  have N9 := Fr.app N8 N9q
  -- pc 82: com/example/weftmap/weftmap/engine/place/IndexQueue.add by the contract of the body that the receiver's class selects, rm3
  obtain ⟨cq10, kq10, q10a, q10b, q10c⟩ := isOf hZ rfl I9.1
  obtain ⟨_, _, ⟨T10, L10, k10, n10⟩, -, X10, ⟨Lc10, hQ10, l10, y10, z10⟩, st10⟩ := X9.virtualBack hx (y := (⟨"com/example/weftmap/weftmap/engine/place/IndexQueue", "add", "(I)V"⟩ : MethodName)) (z := (⟨"com/example/weftmap/weftmap/engine/place/IndexQueue", "add", "(I)V"⟩ : MethodName)) hown (mvT hZ (hw _ (List.mem_of_getElem? (i := 16) rfl))) (mvT hZ (hw _ (List.mem_of_getElem? (i := 17) rfl))) (notFace_of_selects (args := #[]) (mvT hZ (hw _ (List.mem_of_getElem? (i := 19) rfl)))) (mvT hZ (hw _ (List.mem_of_getElem? (i := 19) rfl))) (mvT hZ (hw _ (List.mem_of_getElem? (i := 18) rfl))) (by decide) (backOf (W := 0) (rm3q l Z a0 hw [] b5 vc it qu nb (own_upd (own_upd (fun _ => 0) 0 va) 1 vb) (own_upd (own_upd (own_upd (fun _ => 0) va 1) vb 1) va 0) 1 1 T9.heap n0 (own_n0 I9) I9 rc (by simp [own_upd, hcb, hba])) hZ (hw _ (List.mem_of_getElem? (i := 20) rfl)) (hw _ (List.mem_of_getElem? (i := 3) rfl)) (by decide) (by decide)) q10a q10c (g := (mkF m 82 #[.val (.int p1), .val (.int p2), .val (.int p3), .val (.int p4), .val (.int nb), .val (.int va), .val (.int vb), .val (.int vc), .val (.ref b5), .val (.int (1 : Int32)), .unset, .unset, .unset] [(.int vc), (.ref b5)])) rfl (by rw [hml]; rfl) (Steps.refl _) (argsL := [(.int vc)]) (rest := []) (lenOf pd_0_2 rfl) rfl (by show 2 * 0 + _ ≤ _; exact Nat.le_of_eq rfl) (hb hby at_82) (fun _ _ => ⟨rfl, rfl, (by decide : 3 + 0 ≤ _), (by decide : 14 + 0 ≤ _)⟩)
  dsimp only [Pt.U, Pt.locs, Pt.cells, Pt.slots] at X10 l10 y10 z10 st10 hQ10
  subst l10 y10 z10
  obtain ⟨rfl, N10q, e10q⟩ := hQ10
  have I10 : own_IQ Z T10.heap n0 b5 it qu nb (own_upd (own_upd (fun _ => 0) 0 va) 1 vb) (own_upd (own_upd (own_upd (fun _ => 0) va 1) vb 1) va 0) 1 1 := by rw [e10q]; exact I9
  have N10 := Fr.app N9 N10q
  -- pc 139: com/example/weftmap/weftmap/engine/place/IndexQueue.isEmpty by the contract of the body that the receiver's class selects, rm5
  obtain ⟨cq11, kq11, q11a, q11b, q11c⟩ := isOf hZ rfl I10.1
  obtain ⟨_, _, ⟨T11, L11, k11, n11⟩, -, X11, ⟨Lc11, hQ11, l11, y11, z11⟩, st11⟩ := X10.virtualBack hx (y := (⟨"com/example/weftmap/weftmap/engine/place/IndexQueue", "isEmpty", "()Z"⟩ : MethodName)) (z := (⟨"com/example/weftmap/weftmap/engine/place/IndexQueue", "isEmpty", "()Z"⟩ : MethodName)) hown (mvT hZ (hw _ (List.mem_of_getElem? (i := 30) rfl))) (mvT hZ (hw _ (List.mem_of_getElem? (i := 31) rfl))) (notFace_of_selects (args := #[]) (mvT hZ (hw _ (List.mem_of_getElem? (i := 33) rfl)))) (mvT hZ (hw _ (List.mem_of_getElem? (i := 33) rfl))) (mvT hZ (hw _ (List.mem_of_getElem? (i := 32) rfl))) (by decide) (backOf (W := 0) (rm5b l Z a0 hw [] b5 _ T10.heap n0 (own_n0 I10) I10.2.2.2.2.1 (by decide)) hZ (hw _ (List.mem_of_getElem? (i := 34) rfl)) (hw _ (List.mem_of_getElem? (i := 3) rfl)) (by decide) (by decide)) q11a q11c (g := (mkF m 139 #[.val (.int p1), .val (.int p2), .val (.int p3), .val (.int p4), .val (.int nb), .val (.int va), .val (.int vb), .val (.int vc), .val (.ref b5), .val (.int (1 : Int32)), .val (.int (1 : Int32)), .val (.int vb), .val (.int (0 : Int32))] [(.ref b5)])) rfl (by rw [hml]; rfl) (Steps.refl _) (argsL := []) (rest := []) (lenOf pd_0_4 rfl) rfl (by show 2 * 0 + _ ≤ _; exact Nat.le_of_eq rfl) (hb hby at_139) (fun _ _ => ⟨rfl, rfl, (by decide : 3 + 0 ≤ _), (by decide : 14 + 0 ≤ _)⟩)
  dsimp only [Pt.U, Pt.locs, Pt.cells, Pt.slots] at X11 l11 y11 z11 st11 hQ11
  subst l11 y11 z11
  obtain ⟨rfl, N11q, e11q⟩ := hQ11
  have I11 : own_IQ Z T11.heap n0 b5 it qu nb (own_upd (own_upd (fun _ => 0) 0 va) 1 vb) (own_upd (own_upd (own_upd (fun _ => 0) va 1) vb 1) va 0) 1 1 := by rw [e11q]; exact I10
  have N11 := Fr.app N10 N11q
  -- pc 159: com/example/weftmap/weftmap/engine/place/IndexQueue.poll by the contract of the body that the receiver's class selects, rm4
  obtain ⟨cq12, kq12, q12a, q12b, q12c⟩ := isOf hZ rfl I11.1
  obtain ⟨_, _, ⟨T12, L12, k12, n12⟩, -, X12, ⟨Lc12, hQ12, l12, y12, z12⟩, st12⟩ := X11.virtualBack hx (y := (⟨"com/example/weftmap/weftmap/engine/place/IndexQueue", "poll", "()I"⟩ : MethodName)) (z := (⟨"com/example/weftmap/weftmap/engine/place/IndexQueue", "poll", "()I"⟩ : MethodName)) hown (mvT hZ (hw _ (List.mem_of_getElem? (i := 25) rfl))) (mvT hZ (hw _ (List.mem_of_getElem? (i := 26) rfl))) (notFace_of_selects (args := #[]) (mvT hZ (hw _ (List.mem_of_getElem? (i := 28) rfl)))) (mvT hZ (hw _ (List.mem_of_getElem? (i := 28) rfl))) (mvT hZ (hw _ (List.mem_of_getElem? (i := 27) rfl))) (by decide) (backOf (W := 0) (rm4b l Z a0 hw [] b5 it qu nb (own_upd (own_upd (fun _ => 0) 0 va) 1 vb) (own_upd (own_upd (own_upd (fun _ => 0) va 1) vb 1) va 0) 1 1 vb 0 0 T11.heap n0 (own_n0 I11) I11 (by simp [own_upd]) rb (by decide) (by decide) (by decide) (by decide)) hZ (hw _ (List.mem_of_getElem? (i := 29) rfl)) (hw _ (List.mem_of_getElem? (i := 3) rfl)) (by decide) (by decide)) q12a q12c (g := (mkF m 159 #[.val (.int p1), .val (.int p2), .val (.int p3), .val (.int p4), .val (.int nb), .val (.int va), .val (.int vb), .val (.int vc), .val (.ref b5), .val (.int (1 : Int32)), .val (.int (1 : Int32)), .val (.int vb), .val (.int (0 : Int32))] [(.ref b5)])) rfl (by rw [hml]; rfl) (Steps.refl _) (argsL := []) (rest := []) (lenOf pd_0_3 rfl) rfl (by show 2 * 0 + _ ≤ _; exact Nat.le_of_eq rfl) (hb hby at_159) (fun _ _ => ⟨rfl, rfl, (by decide : 3 + 0 ≤ _), (by decide : 14 + 0 ≤ _)⟩)
  dsimp only [Pt.U, Pt.locs, Pt.cells, Pt.slots] at X12 l12 y12 z12 st12 hQ12
  subst l12 y12 z12
  obtain ⟨rfl, N12q, I12⟩ := hQ12
  have N12 := Fr.app N11 N12q
  -- pc 209: com/example/weftmap/weftmap/engine/place/IndexQueue.isEmpty by the contract of the body that the receiver's class selects, rm5
  obtain ⟨cq13, kq13, q13a, q13b, q13c⟩ := isOf hZ rfl I12.1
  obtain ⟨_, _, ⟨T13, L13, k13, n13⟩, -, X13, ⟨Lc13, hQ13, l13, y13, z13⟩, st13⟩ := X12.virtualBack hx (y := (⟨"com/example/weftmap/weftmap/engine/place/IndexQueue", "isEmpty", "()Z"⟩ : MethodName)) (z := (⟨"com/example/weftmap/weftmap/engine/place/IndexQueue", "isEmpty", "()Z"⟩ : MethodName)) hown (mvT hZ (hw _ (List.mem_of_getElem? (i := 30) rfl))) (mvT hZ (hw _ (List.mem_of_getElem? (i := 31) rfl))) (notFace_of_selects (args := #[]) (mvT hZ (hw _ (List.mem_of_getElem? (i := 33) rfl)))) (mvT hZ (hw _ (List.mem_of_getElem? (i := 33) rfl))) (mvT hZ (hw _ (List.mem_of_getElem? (i := 32) rfl))) (by decide) (backOf (W := 0) (rm5 l Z a0 hw [] b5 _ T12.heap n0 (own_n0 I12) I12.2.2.2.2.1 (by decide)) hZ (hw _ (List.mem_of_getElem? (i := 34) rfl)) (hw _ (List.mem_of_getElem? (i := 3) rfl)) (by decide) (by decide)) q13a q13c (g := (mkF m 209 #[.val (.int p1), .val (.int p2), .val (.int p3), .val (.int p4), .val (.int nb), .val (.int va), .val (.int vb), .val (.int vc), .val (.ref b5), .val (.int (1 : Int32)), .val (.int (1 : Int32)), .val (.int vb), .val (.int (0 : Int32))] [(.ref b5)])) rfl (by rw [hml]; rfl) (Steps.refl _) (argsL := []) (rest := []) (lenOf pd_0_4 rfl) rfl (by show 2 * 0 + _ ≤ _; exact Nat.le_of_eq rfl) (hb hby at_209) (fun _ _ => ⟨rfl, rfl, (by decide : 3 + 0 ≤ _), (by decide : 14 + 0 ≤ _)⟩)
  dsimp only [Pt.U, Pt.locs, Pt.cells, Pt.slots] at X13 l13 y13 z13 st13 hQ13
  subst l13 y13 z13
  obtain ⟨rfl, N13q, e13q⟩ := hQ13
  have I13 : own_IQ Z T13.heap n0 b5 it qu nb (own_upd (own_upd (fun _ => 0) 0 va) 1 vb) (own_upd (own_upd (own_upd (own_upd (fun _ => 0) va 1) vb 1) va 0) vb 0) 0 0 := by rw [e13q]; exact I12
  have N13 := Fr.app N12 N13q
  obtain ⟨fs, hr, hrun, hended, hW, hsame⟩ := X13.leave (v := some (.int (1 : Int32))) (fun h => by rw [Bd.returns] at h; cases h)
  refine ⟨_, _, pre0 _ (pre1 _ ?_), hrun, hended, _, _, rfl, ?_, ⟨_, rfl⟩, hW, hsame.mono (by decide) (by decide)⟩
  -- 4. STEPS
  · show Steps p.tables e below (s₁.setTop (mkF m 35 #[.val (.int p1), .val (.int p2), .val (.int p3), .val (.int p4), .val (.int nb), .val (.int va), .val (.int vb), .val (.int vc), .unset, .unset, .unset, .unset, .unset] [])) _
    refine st5 _ ?_
    show Steps p.tables e below (T5.setTop (mkF m 38 #[.val (.int p1), .val (.int p2), .val (.int p3), .val (.int p4), .val (.int nb), .val (.int va), .val (.int vb), .val (.int vc), .unset, .unset, .unset, .unset, .unset] [(.ref b5)])) _
    refine XS.dup X5.here hx rfl (hb hby at_38) rfl rfl ?_
    show Steps p.tables e below (T5.setTop (mkF m 39 #[.val (.int p1), .val (.int p2), .val (.int p3), .val (.int p4), .val (.int nb), .val (.int va), .val (.int vb), .val (.int vc), .unset, .unset, .unset, .unset, .unset] [(.ref b5), (.ref b5)])) _
    refine XS.iconst X5.here hx rfl (hb hby at_39) ?_
    show Steps p.tables e below (T5.setTop (mkF m 40 #[.val (.int p1), .val (.int p2), .val (.int p3), .val (.int p4), .val (.int nb), .val (.int va), .val (.int vb), .val (.int vc), .unset, .unset, .unset, .unset, .unset] [(.int (2 : Int32)), (.ref b5), (.ref b5)])) _
    refine XS.iload X5.here hx rfl (hb hby at_40) rfl ?_
    show Steps p.tables e below (T5.setTop (mkF m 42 #[.val (.int p1), .val (.int p2), .val (.int p3), .val (.int p4), .val (.int nb), .val (.int va), .val (.int vb), .val (.int vc), .unset, .unset, .unset, .unset, .unset] [(.int nb), (.int (2 : Int32)), (.ref b5), (.ref b5)])) _
    refine st6.trans ?_
    show Steps p.tables e below (T6.setTop (mkF m 45 #[.val (.int p1), .val (.int p2), .val (.int p3), .val (.int p4), .val (.int nb), .val (.int va), .val (.int vb), .val (.int vc), .unset, .unset, .unset, .unset, .unset] [(.ref b5)])) _
    refine XS.astore X6.here hx rfl (hb hby at_45) rfl rfl (l' := #[.val (.int p1), .val (.int p2), .val (.int p3), .val (.int p4), .val (.int nb), .val (.int va), .val (.int vb), .val (.int vc), .val (.ref b5), .unset, .unset, .unset, .unset]) rfl ?_
    show Steps p.tables e below (T6.setTop (mkF m 47 #[.val (.int p1), .val (.int p2), .val (.int p3), .val (.int p4), .val (.int nb), .val (.int va), .val (.int vb), .val (.int vc), .val (.ref b5), .unset, .unset, .unset, .unset] [])) _
    refine XS.aload X6.here hx rfl (hb hby at_47) rfl rfl ?_
    show Steps p.tables e below (T6.setTop (mkF m 49 #[.val (.int p1), .val (.int p2), .val (.int p3), .val (.int p4), .val (.int nb), .val (.int va), .val (.int vb), .val (.int vc), .val (.ref b5), .unset, .unset, .unset, .unset] [(.ref b5)])) _
    refine XS.iload X6.here hx rfl (hb hby at_49) rfl ?_
    show Steps p.tables e below (T6.setTop (mkF m 51 #[.val (.int p1), .val (.int p2), .val (.int p3), .val (.int p4), .val (.int nb), .val (.int va), .val (.int vb), .val (.int vc), .val (.ref b5), .unset, .unset, .unset, .unset] [(.int va), (.ref b5)])) _
    refine st7.trans ?_
    show Steps p.tables e below (T7.setTop (mkF m 54 #[.val (.int p1), .val (.int p2), .val (.int p3), .val (.int p4), .val (.int nb), .val (.int va), .val (.int vb), .val (.int vc), .val (.ref b5), .unset, .unset, .unset, .unset] [])) _
    refine XS.aload X7.here hx rfl (hb hby at_54) rfl rfl ?_
    show Steps p.tables e below (T7.setTop (mkF m 56 #[.val (.int p1), .val (.int p2), .val (.int p3), .val (.int p4), .val (.int nb), .val (.int va), .val (.int vb), .val (.int vc), .val (.ref b5), .unset, .unset, .unset, .unset] [(.ref b5)])) _
    refine XS.iload X7.here hx rfl (hb hby at_56) rfl ?_
    show Steps p.tables e below (T7.setTop (mkF m 58 #[.val (.int p1), .val (.int p2), .val (.int p3), .val (.int p4), .val (.int nb), .val (.int va), .val (.int vb), .val (.int vc), .val (.ref b5), .unset, .unset, .unset, .unset] [(.int vb), (.ref b5)])) _
    refine st8.trans ?_
    show Steps p.tables e below (T8.setTop (mkF m 61 #[.val (.int p1), .val (.int p2), .val (.int p3), .val (.int p4), .val (.int nb), .val (.int va), .val (.int vb), .val (.int vc), .val (.ref b5), .unset, .unset, .unset, .unset] [])) _
    refine XS.aload X8.here hx rfl (hb hby at_61) rfl rfl ?_
    show Steps p.tables e below (T8.setTop (mkF m 63 #[.val (.int p1), .val (.int p2), .val (.int p3), .val (.int p4), .val (.int nb), .val (.int va), .val (.int vb), .val (.int vc), .val (.ref b5), .unset, .unset, .unset, .unset] [(.ref b5)])) _
    refine st9.trans ?_
    show Steps p.tables e below (T9.setTop (mkF m 66 #[.val (.int p1), .val (.int p2), .val (.int p3), .val (.int p4), .val (.int nb), .val (.int va), .val (.int vb), .val (.int vc), .val (.ref b5), .unset, .unset, .unset, .unset] [(.int va)])) _
    refine XS.iload X9.here hx rfl (hb hby at_66) rfl ?_
    show Steps p.tables e below (T9.setTop (mkF m 68 #[.val (.int p1), .val (.int p2), .val (.int p3), .val (.int p4), .val (.int nb), .val (.int va), .val (.int vb), .val (.int vc), .val (.ref b5), .unset, .unset, .unset, .unset] [(.int va), (.int va)])) _
    refine XS.icmpNo X9.here hx rfl (hb hby at_68) rfl (teq hc68).2 ?_
    show Steps p.tables e below (T9.setTop (mkF m 71 #[.val (.int p1), .val (.int p2), .val (.int p3), .val (.int p4), .val (.int nb), .val (.int va), .val (.int vb), .val (.int vc), .val (.ref b5), .unset, .unset, .unset, .unset] [])) _
    refine XS.iconst X9.here hx rfl (hb hby at_71) ?_
    show Steps p.tables e below (T9.setTop (mkF m 72 #[.val (.int p1), .val (.int p2), .val (.int p3), .val (.int p4), .val (.int nb), .val (.int va), .val (.int vb), .val (.int vc), .val (.ref b5), .unset, .unset, .unset, .unset] [(.int (1 : Int32))])) _
    refine XS.goto X9.here hx rfl (pc0 := 72) (pc' := 76) rfl (hb hby at_72) (by decide) (by decide) ?_
    show Steps p.tables e below (T9.setTop (mkF m 76 #[.val (.int p1), .val (.int p2), .val (.int p3), .val (.int p4), .val (.int nb), .val (.int va), .val (.int vb), .val (.int vc), .val (.ref b5), .unset, .unset, .unset, .unset] [(.int (1 : Int32))])) _
    refine XS.istore X9.here hx rfl (hb hby at_76) rfl (l' := #[.val (.int p1), .val (.int p2), .val (.int p3), .val (.int p4), .val (.int nb), .val (.int va), .val (.int vb), .val (.int vc), .val (.ref b5), .val (.int (1 : Int32)), .unset, .unset, .unset]) rfl ?_
    show Steps p.tables e below (T9.setTop (mkF m 78 #[.val (.int p1), .val (.int p2), .val (.int p3), .val (.int p4), .val (.int nb), .val (.int va), .val (.int vb), .val (.int vc), .val (.ref b5), .val (.int (1 : Int32)), .unset, .unset, .unset] [])) _
    refine XS.aload X9.here hx rfl (hb hby at_78) rfl rfl ?_
    show Steps p.tables e below (T9.setTop (mkF m 80 #[.val (.int p1), .val (.int p2), .val (.int p3), .val (.int p4), .val (.int nb), .val (.int va), .val (.int vb), .val (.int vc), .val (.ref b5), .val (.int (1 : Int32)), .unset, .unset, .unset] [(.ref b5)])) _
    refine XS.iload X9.here hx rfl (hb hby at_80) rfl ?_
    show Steps p.tables e below (T9.setTop (mkF m 82 #[.val (.int p1), .val (.int p2), .val (.int p3), .val (.int p4), .val (.int nb), .val (.int va), .val (.int vb), .val (.int vc), .val (.ref b5), .val (.int (1 : Int32)), .unset, .unset, .unset] [(.int vc), (.ref b5)])) _
    refine st10.trans ?_
    show Steps p.tables e below (T10.setTop (mkF m 85 #[.val (.int p1), .val (.int p2), .val (.int p3), .val (.int p4), .val (.int nb), .val (.int va), .val (.int vb), .val (.int vc), .val (.ref b5), .val (.int (1 : Int32)), .unset, .unset, .unset] [])) _
    refine XS.iload X10.here hx rfl (hb hby at_85) rfl ?_
    show Steps p.tables e below (T10.setTop (mkF m 87 #[.val (.int p1), .val (.int p2), .val (.int p3), .val (.int p4), .val (.int nb), .val (.int va), .val (.int vb), .val (.int vc), .val (.ref b5), .val (.int (1 : Int32)), .unset, .unset, .unset] [(.int vb)])) _
    refine XS.iload X10.here hx rfl (hb hby at_87) rfl ?_
    show Steps p.tables e below (T10.setTop (mkF m 89 #[.val (.int p1), .val (.int p2), .val (.int p3), .val (.int p4), .val (.int nb), .val (.int va), .val (.int vb), .val (.int vc), .val (.ref b5), .val (.int (1 : Int32)), .unset, .unset, .unset] [(.int va), (.int vb)])) _
    refine XS.icmpNo X10.here hx rfl (hb hby at_89) rfl (feq hc89).1 ?_
    show Steps p.tables e below (T10.setTop (mkF m 92 #[.val (.int p1), .val (.int p2), .val (.int p3), .val (.int p4), .val (.int nb), .val (.int va), .val (.int vb), .val (.int vc), .val (.ref b5), .val (.int (1 : Int32)), .unset, .unset, .unset] [])) _
    refine XS.iload X10.here hx rfl (hb hby at_92) rfl ?_
    show Steps p.tables e below (T10.setTop (mkF m 94 #[.val (.int p1), .val (.int p2), .val (.int p3), .val (.int p4), .val (.int nb), .val (.int va), .val (.int vb), .val (.int vc), .val (.ref b5), .val (.int (1 : Int32)), .unset, .unset, .unset] [(.int vb)])) _
    refine XS.istore X10.here hx rfl (hb hby at_94) rfl (l' := #[.val (.int p1), .val (.int p2), .val (.int p3), .val (.int p4), .val (.int nb), .val (.int va), .val (.int vb), .val (.int vc), .val (.ref b5), .val (.int (1 : Int32)), .unset, .val (.int vb), .unset]) rfl ?_
    show Steps p.tables e below (T10.setTop (mkF m 96 #[.val (.int p1), .val (.int p2), .val (.int p3), .val (.int p4), .val (.int nb), .val (.int va), .val (.int vb), .val (.int vc), .val (.ref b5), .val (.int (1 : Int32)), .unset, .val (.int vb), .unset] [])) _
    refine XS.iload X10.here hx rfl (hb hby at_96) rfl ?_
    show Steps p.tables e below (T10.setTop (mkF m 98 #[.val (.int p1), .val (.int p2), .val (.int p3), .val (.int p4), .val (.int nb), .val (.int va), .val (.int vb), .val (.int vc), .val (.ref b5), .val (.int (1 : Int32)), .unset, .val (.int vb), .unset] [(.int vc)])) _
    refine XS.iload X10.here hx rfl (hb hby at_98) rfl ?_
    show Steps p.tables e below (T10.setTop (mkF m 100 #[.val (.int p1), .val (.int p2), .val (.int p3), .val (.int p4), .val (.int nb), .val (.int va), .val (.int vb), .val (.int vc), .val (.ref b5), .val (.int (1 : Int32)), .unset, .val (.int vb), .unset] [(.int vb), (.int vc)])) _
    refine XS.icmpYes X10.here hx rfl (pc0 := 100) (pc' := 113) rfl (hb hby at_100) rfl (teq hc100).1 (by decide) (by decide) ?_
    show Steps p.tables e below (T10.setTop (mkF m 113 #[.val (.int p1), .val (.int p2), .val (.int p3), .val (.int p4), .val (.int nb), .val (.int va), .val (.int vb), .val (.int vc), .val (.ref b5), .val (.int (1 : Int32)), .unset, .val (.int vb), .unset] [])) _
    refine XS.iconst X10.here hx rfl (hb hby at_113) ?_
    show Steps p.tables e below (T10.setTop (mkF m 114 #[.val (.int p1), .val (.int p2), .val (.int p3), .val (.int p4), .val (.int nb), .val (.int va), .val (.int vb), .val (.int vc), .val (.ref b5), .val (.int (1 : Int32)), .unset, .val (.int vb), .unset] [(.int (1 : Int32))])) _
    refine XS.istore X10.here hx rfl (hb hby at_114) rfl (l' := #[.val (.int p1), .val (.int p2), .val (.int p3), .val (.int p4), .val (.int nb), .val (.int va), .val (.int vb), .val (.int vc), .val (.ref b5), .val (.int (1 : Int32)), .val (.int (1 : Int32)), .val (.int vb), .unset]) rfl ?_
    show Steps p.tables e below (T10.setTop (mkF m 116 #[.val (.int p1), .val (.int p2), .val (.int p3), .val (.int p4), .val (.int nb), .val (.int va), .val (.int vb), .val (.int vc), .val (.ref b5), .val (.int (1 : Int32)), .val (.int (1 : Int32)), .val (.int vb), .unset] [])) _
    refine XS.iconst X10.here hx rfl (hb hby at_116) ?_
    show Steps p.tables e below (T10.setTop (mkF m 117 #[.val (.int p1), .val (.int p2), .val (.int p3), .val (.int p4), .val (.int nb), .val (.int va), .val (.int vb), .val (.int vc), .val (.ref b5), .val (.int (1 : Int32)), .val (.int (1 : Int32)), .val (.int vb), .unset] [(.int (0 : Int32))])) _
    refine XS.istore X10.here hx rfl (hb hby at_117) rfl (l' := #[.val (.int p1), .val (.int p2), .val (.int p3), .val (.int p4), .val (.int nb), .val (.int va), .val (.int vb), .val (.int vc), .val (.ref b5), .val (.int (1 : Int32)), .val (.int (1 : Int32)), .val (.int vb), .val (.int (0 : Int32))]) rfl ?_
    show Steps p.tables e below (T10.setTop (mkF m 119 #[.val (.int p1), .val (.int p2), .val (.int p3), .val (.int p4), .val (.int nb), .val (.int va), .val (.int vb), .val (.int vc), .val (.ref b5), .val (.int (1 : Int32)), .val (.int (1 : Int32)), .val (.int vb), .val (.int (0 : Int32))] [])) _
    refine XS.goto X10.here hx rfl (pc0 := 119) (pc' := 132) rfl (hb hby at_119) (by decide) (by decide) ?_
    show Steps p.tables e below (T10.setTop (mkF m 132 #[.val (.int p1), .val (.int p2), .val (.int p3), .val (.int p4), .val (.int nb), .val (.int va), .val (.int vb), .val (.int vc), .val (.ref b5), .val (.int (1 : Int32)), .val (.int (1 : Int32)), .val (.int vb), .val (.int (0 : Int32))] [])) _
    refine XS.iload X10.here hx rfl (hb hby at_132) rfl ?_
    show Steps p.tables e below (T10.setTop (mkF m 134 #[.val (.int p1), .val (.int p2), .val (.int p3), .val (.int p4), .val (.int nb), .val (.int va), .val (.int vb), .val (.int vc), .val (.ref b5), .val (.int (1 : Int32)), .val (.int (1 : Int32)), .val (.int vb), .val (.int (0 : Int32))] [(.int (1 : Int32))])) _
    refine XS.ifNo X10.here hx rfl (hb hby at_134) rfl ((if0 _ _).trans (feq hc134).1) ?_
    show Steps p.tables e below (T10.setTop (mkF m 137 #[.val (.int p1), .val (.int p2), .val (.int p3), .val (.int p4), .val (.int nb), .val (.int va), .val (.int vb), .val (.int vc), .val (.ref b5), .val (.int (1 : Int32)), .val (.int (1 : Int32)), .val (.int vb), .val (.int (0 : Int32))] [])) _
    refine XS.aload X10.here hx rfl (hb hby at_137) rfl rfl ?_
    show Steps p.tables e below (T10.setTop (mkF m 139 #[.val (.int p1), .val (.int p2), .val (.int p3), .val (.int p4), .val (.int nb), .val (.int va), .val (.int vb), .val (.int vc), .val (.ref b5), .val (.int (1 : Int32)), .val (.int (1 : Int32)), .val (.int vb), .val (.int (0 : Int32))] [(.ref b5)])) _
    refine st11.trans ?_
    show Steps p.tables e below (T11.setTop (mkF m 142 #[.val (.int p1), .val (.int p2), .val (.int p3), .val (.int p4), .val (.int nb), .val (.int va), .val (.int vb), .val (.int vc), .val (.ref b5), .val (.int (1 : Int32)), .val (.int (1 : Int32)), .val (.int vb), .val (.int (0 : Int32))] [(.int (0 : Int32))])) _
    refine XS.ifNo X11.here hx rfl (hb hby at_142) rfl ((if0 _ _).trans (teq hc142).2) ?_
    show Steps p.tables e below (T11.setTop (mkF m 145 #[.val (.int p1), .val (.int p2), .val (.int p3), .val (.int p4), .val (.int nb), .val (.int va), .val (.int vb), .val (.int vc), .val (.ref b5), .val (.int (1 : Int32)), .val (.int (1 : Int32)), .val (.int vb), .val (.int (0 : Int32))] [])) _
    refine XS.iconst X11.here hx rfl (hb hby at_145) ?_
    show Steps p.tables e below (T11.setTop (mkF m 146 #[.val (.int p1), .val (.int p2), .val (.int p3), .val (.int p4), .val (.int nb), .val (.int va), .val (.int vb), .val (.int vc), .val (.ref b5), .val (.int (1 : Int32)), .val (.int (1 : Int32)), .val (.int vb), .val (.int (0 : Int32))] [(.int (1 : Int32))])) _
    refine XS.goto X11.here hx rfl (pc0 := 146) (pc' := 150) rfl (hb hby at_146) (by decide) (by decide) ?_
    show Steps p.tables e below (T11.setTop (mkF m 150 #[.val (.int p1), .val (.int p2), .val (.int p3), .val (.int p4), .val (.int nb), .val (.int va), .val (.int vb), .val (.int vc), .val (.ref b5), .val (.int (1 : Int32)), .val (.int (1 : Int32)), .val (.int vb), .val (.int (0 : Int32))] [(.int (1 : Int32))])) _
    refine XS.istore X11.here hx rfl (hb hby at_150) rfl (l' := #[.val (.int p1), .val (.int p2), .val (.int p3), .val (.int p4), .val (.int nb), .val (.int va), .val (.int vb), .val (.int vc), .val (.ref b5), .val (.int (1 : Int32)), .val (.int (1 : Int32)), .val (.int vb), .val (.int (0 : Int32))]) rfl ?_
    show Steps p.tables e below (T11.setTop (mkF m 152 #[.val (.int p1), .val (.int p2), .val (.int p3), .val (.int p4), .val (.int nb), .val (.int va), .val (.int vb), .val (.int vc), .val (.ref b5), .val (.int (1 : Int32)), .val (.int (1 : Int32)), .val (.int vb), .val (.int (0 : Int32))] [])) _
    refine XS.iload X11.here hx rfl (hb hby at_152) rfl ?_
    show Steps p.tables e below (T11.setTop (mkF m 154 #[.val (.int p1), .val (.int p2), .val (.int p3), .val (.int p4), .val (.int nb), .val (.int va), .val (.int vb), .val (.int vc), .val (.ref b5), .val (.int (1 : Int32)), .val (.int (1 : Int32)), .val (.int vb), .val (.int (0 : Int32))] [(.int (1 : Int32))])) _
    refine XS.ifNo X11.here hx rfl (hb hby at_154) rfl ((if0 _ _).trans (feq hc154).1) ?_
    show Steps p.tables e below (T11.setTop (mkF m 157 #[.val (.int p1), .val (.int p2), .val (.int p3), .val (.int p4), .val (.int nb), .val (.int va), .val (.int vb), .val (.int vc), .val (.ref b5), .val (.int (1 : Int32)), .val (.int (1 : Int32)), .val (.int vb), .val (.int (0 : Int32))] [])) _
    refine XS.aload X11.here hx rfl (hb hby at_157) rfl rfl ?_
    show Steps p.tables e below (T11.setTop (mkF m 159 #[.val (.int p1), .val (.int p2), .val (.int p3), .val (.int p4), .val (.int nb), .val (.int va), .val (.int vb), .val (.int vc), .val (.ref b5), .val (.int (1 : Int32)), .val (.int (1 : Int32)), .val (.int vb), .val (.int (0 : Int32))] [(.ref b5)])) _
    refine st12.trans ?_
    show Steps p.tables e below (T12.setTop (mkF m 162 #[.val (.int p1), .val (.int p2), .val (.int p3), .val (.int p4), .val (.int nb), .val (.int va), .val (.int vb), .val (.int vc), .val (.ref b5), .val (.int (1 : Int32)), .val (.int (1 : Int32)), .val (.int vb), .val (.int (0 : Int32))] [(.int vb)])) _
    refine XS.iload X12.here hx rfl (hb hby at_162) rfl ?_
    show Steps p.tables e below (T12.setTop (mkF m 164 #[.val (.int p1), .val (.int p2), .val (.int p3), .val (.int p4), .val (.int nb), .val (.int va), .val (.int vb), .val (.int vc), .val (.ref b5), .val (.int (1 : Int32)), .val (.int (1 : Int32)), .val (.int vb), .val (.int (0 : Int32))] [(.int vb), (.int vb)])) _
    refine XS.icmpNo X12.here hx rfl (hb hby at_164) rfl (teq hc164).2 ?_
    show Steps p.tables e below (T12.setTop (mkF m 167 #[.val (.int p1), .val (.int p2), .val (.int p3), .val (.int p4), .val (.int nb), .val (.int va), .val (.int vb), .val (.int vc), .val (.ref b5), .val (.int (1 : Int32)), .val (.int (1 : Int32)), .val (.int vb), .val (.int (0 : Int32))] [])) _
    refine XS.iconst X12.here hx rfl (hb hby at_167) ?_
    show Steps p.tables e below (T12.setTop (mkF m 168 #[.val (.int p1), .val (.int p2), .val (.int p3), .val (.int p4), .val (.int nb), .val (.int va), .val (.int vb), .val (.int vc), .val (.ref b5), .val (.int (1 : Int32)), .val (.int (1 : Int32)), .val (.int vb), .val (.int (0 : Int32))] [(.int (1 : Int32))])) _
    refine XS.goto X12.here hx rfl (pc0 := 168) (pc' := 172) rfl (hb hby at_168) (by decide) (by decide) ?_
    show Steps p.tables e below (T12.setTop (mkF m 172 #[.val (.int p1), .val (.int p2), .val (.int p3), .val (.int p4), .val (.int nb), .val (.int va), .val (.int vb), .val (.int vc), .val (.ref b5), .val (.int (1 : Int32)), .val (.int (1 : Int32)), .val (.int vb), .val (.int (0 : Int32))] [(.int (1 : Int32))])) _
    refine XS.istore X12.here hx rfl (hb hby at_172) rfl (l' := #[.val (.int p1), .val (.int p2), .val (.int p3), .val (.int p4), .val (.int nb), .val (.int va), .val (.int vb), .val (.int vc), .val (.ref b5), .val (.int (1 : Int32)), .val (.int (1 : Int32)), .val (.int vb), .val (.int (0 : Int32))]) rfl ?_
    show Steps p.tables e below (T12.setTop (mkF m 174 #[.val (.int p1), .val (.int p2), .val (.int p3), .val (.int p4), .val (.int nb), .val (.int va), .val (.int vb), .val (.int vc), .val (.ref b5), .val (.int (1 : Int32)), .val (.int (1 : Int32)), .val (.int vb), .val (.int (0 : Int32))] [])) _
    refine XS.iload X12.here hx rfl (hb hby at_174) rfl ?_
    show Steps p.tables e below (T12.setTop (mkF m 176 #[.val (.int p1), .val (.int p2), .val (.int p3), .val (.int p4), .val (.int nb), .val (.int va), .val (.int vb), .val (.int vc), .val (.ref b5), .val (.int (1 : Int32)), .val (.int (1 : Int32)), .val (.int vb), .val (.int (0 : Int32))] [(.int (1 : Int32))])) _
    refine XS.iconst X12.here hx rfl (hb hby at_176) ?_
    show Steps p.tables e below (T12.setTop (mkF m 177 #[.val (.int p1), .val (.int p2), .val (.int p3), .val (.int p4), .val (.int nb), .val (.int va), .val (.int vb), .val (.int vc), .val (.ref b5), .val (.int (1 : Int32)), .val (.int (1 : Int32)), .val (.int vb), .val (.int (0 : Int32))] [(.int (2 : Int32)), (.int (1 : Int32))])) _
    refine XS.icmpYes X12.here hx rfl (pc0 := 177) (pc' := 202) rfl (hb hby at_177) rfl (feq hc177).2 (by decide) (by decide) ?_
    show Steps p.tables e below (T12.setTop (mkF m 202 #[.val (.int p1), .val (.int p2), .val (.int p3), .val (.int p4), .val (.int nb), .val (.int va), .val (.int vb), .val (.int vc), .val (.ref b5), .val (.int (1 : Int32)), .val (.int (1 : Int32)), .val (.int vb), .val (.int (0 : Int32))] [])) _
    refine XS.iload X12.here hx rfl (hb hby at_202) rfl ?_
    show Steps p.tables e below (T12.setTop (mkF m 204 #[.val (.int p1), .val (.int p2), .val (.int p3), .val (.int p4), .val (.int nb), .val (.int va), .val (.int vb), .val (.int vc), .val (.ref b5), .val (.int (1 : Int32)), .val (.int (1 : Int32)), .val (.int vb), .val (.int (0 : Int32))] [(.int (1 : Int32))])) _
    refine XS.ifNo X12.here hx rfl (hb hby at_204) rfl ((if0 _ _).trans (feq hc204).1) ?_
    show Steps p.tables e below (T12.setTop (mkF m 207 #[.val (.int p1), .val (.int p2), .val (.int p3), .val (.int p4), .val (.int nb), .val (.int va), .val (.int vb), .val (.int vc), .val (.ref b5), .val (.int (1 : Int32)), .val (.int (1 : Int32)), .val (.int vb), .val (.int (0 : Int32))] [])) _
    refine XS.aload X12.here hx rfl (hb hby at_207) rfl rfl ?_
    show Steps p.tables e below (T12.setTop (mkF m 209 #[.val (.int p1), .val (.int p2), .val (.int p3), .val (.int p4), .val (.int nb), .val (.int va), .val (.int vb), .val (.int vc), .val (.ref b5), .val (.int (1 : Int32)), .val (.int (1 : Int32)), .val (.int vb), .val (.int (0 : Int32))] [(.ref b5)])) _
    refine st13.trans ?_
    show Steps p.tables e below (T13.setTop (mkF m 212 #[.val (.int p1), .val (.int p2), .val (.int p3), .val (.int p4), .val (.int nb), .val (.int va), .val (.int vb), .val (.int vc), .val (.ref b5), .val (.int (1 : Int32)), .val (.int (1 : Int32)), .val (.int vb), .val (.int (0 : Int32))] [(.int (1 : Int32))])) _
    refine XS.ifNo X13.here hx rfl (hb hby at_212) rfl ((if0 _ _).trans (feq hc212).1) ?_
    show Steps p.tables e below (T13.setTop (mkF m 215 #[.val (.int p1), .val (.int p2), .val (.int p3), .val (.int p4), .val (.int nb), .val (.int va), .val (.int vb), .val (.int vc), .val (.ref b5), .val (.int (1 : Int32)), .val (.int (1 : Int32)), .val (.int vb), .val (.int (0 : Int32))] [])) _
    refine XS.iconst X13.here hx rfl (hb hby at_215) ?_
    show Steps p.tables e below (T13.setTop (mkF m 216 #[.val (.int p1), .val (.int p2), .val (.int p3), .val (.int p4), .val (.int nb), .val (.int va), .val (.int vb), .val (.int vc), .val (.ref b5), .val (.int (1 : Int32)), .val (.int (1 : Int32)), .val (.int vb), .val (.int (0 : Int32))] [(.int (1 : Int32))])) _
    refine XS.goto X13.here hx rfl (pc0 := 216) (pc' := 220) rfl (hb hby at_216) (by decide) (by decide) ?_
    show Steps p.tables e below (T13.setTop (mkF m 220 #[.val (.int p1), .val (.int p2), .val (.int p3), .val (.int p4), .val (.int nb), .val (.int va), .val (.int vb), .val (.int vc), .val (.ref b5), .val (.int (1 : Int32)), .val (.int (1 : Int32)), .val (.int vb), .val (.int (0 : Int32))] [(.int (1 : Int32))])) _
    refine XS.istore X13.here hx rfl (hb hby at_220) rfl (l' := #[.val (.int p1), .val (.int p2), .val (.int p3), .val (.int p4), .val (.int nb), .val (.int va), .val (.int vb), .val (.int vc), .val (.ref b5), .val (.int (1 : Int32)), .val (.int (1 : Int32)), .val (.int vb), .val (.int (0 : Int32))]) rfl ?_
    show Steps p.tables e below (T13.setTop (mkF m 222 #[.val (.int p1), .val (.int p2), .val (.int p3), .val (.int p4), .val (.int nb), .val (.int va), .val (.int vb), .val (.int vc), .val (.ref b5), .val (.int (1 : Int32)), .val (.int (1 : Int32)), .val (.int vb), .val (.int (0 : Int32))] [])) _
    refine XS.iload X13.here hx rfl (hb hby at_222) rfl ?_
    show Steps p.tables e below (T13.setTop (mkF m 224 #[.val (.int p1), .val (.int p2), .val (.int p3), .val (.int p4), .val (.int nb), .val (.int va), .val (.int vb), .val (.int vc), .val (.ref b5), .val (.int (1 : Int32)), .val (.int (1 : Int32)), .val (.int vb), .val (.int (0 : Int32))] [(.int (1 : Int32))])) _
    exact retN X13 hx (t := .boolean) Bd.returns (by simp) (hb hby at_224) hr
  · show Q0 Z p1 p2 p3 p4 h0 n0 _ T13.heap _
    exact ⟨rfl, N13⟩
set_option maxRecDepth 65536 in
set_option maxHeartbeats 40000000 in
theorem rm0_3 (l : Launch) (Z : State) (a0 : Array Value) (hw : ∀ d ∈ tables_1, d.before a0 Z = true) (ws : List Jvm.Cond) (p1 : Int32) (p2 : Int32) (p3 : Int32) (p4 : Int32) (nb : Int32) (va : Int32) (vb : Int32) (vc : Int32) (hnb : nb = ((1 : Int32) + (p1 &&& (7 : Int32)))) (hva : va = ((p2 &&& (2147483647 : Int32)) - ((p2 &&& (2147483647 : Int32)) / ((1 : Int32) + (p1 &&& (7 : Int32)))) * ((1 : Int32) + (p1 &&& (7 : Int32))))) (hvb : vb = ((p3 &&& (2147483647 : Int32)) - ((p3 &&& (2147483647 : Int32)) / ((1 : Int32) + (p1 &&& (7 : Int32)))) * ((1 : Int32) + (p1 &&& (7 : Int32))))) (hvc : vc = ((p4 &&& (2147483647 : Int32)) - ((p4 &&& (2147483647 : Int32)) / ((1 : Int32) + (p1 &&& (7 : Int32)))) * ((1 : Int32) + (p1 &&& (7 : Int32))))) (h0 : Heap) (n0 : Nat) (Z0 : n0 ≤ h0.size) (hnz14 : ¬ (nb = (0 : Int32))) (hnz23 : ¬ (nb = (0 : Int32))) (hnz32 : ¬ (nb = (0 : Int32))) (hc68 : va = va) (hc89 : ¬ (vb = va)) (hc100 : ¬ (vc = vb)) (hc134 : ¬ ((1 : Int32) = (0 : Int32))) (hc142 : (0 : Int32) = (0 : Int32)) (hc154 : ¬ ((1 : Int32) = (0 : Int32))) (hc164 : vb = vb) (hc182 : ¬ ((1 : Int32) = (0 : Int32))) (hc192 : vc = vc) (hc204 : ¬ ((1 : Int32) = (0 : Int32))) (hc212 : ¬ ((1 : Int32) = (0 : Int32))) (hn3 : ¬ nb < 0) (hcap3 : nb.toNatClampNeg ≤ 8) (ra : ¬ va < 0 ∧ va < nb) (rb : ¬ vb < 0 ∧ vb < nb) (rc : ¬ vc < 0 ∧ vc < nb) (hba : ¬ vb = va) (hcb : ¬ vc = vb) :
    MetFree l x (head1 (Jvm.Cond.code x code maxLocals ret :: ws) room_1) (fun a U => a = #[(.int p1), (.int p2), (.int p3), (.int p4)] ∧ Z.Warmed39 U.vm ∧ U.heap = h0) (fun _ _ _ _ _ => True) (fun _ U o U' => ∃ v L, o = .returned v ∧ Q0 Z p1 p2 p3 p4 h0 n0 v U'.heap L ∧ FrameEnd U o U' L room_1.cells room_1.slots) := by
  refine MetFree.of_bodySF (plainFor_of_name pn_0) hisR ?_
  intro p e s m args below meth c s₁ Bd hml0 hP hK
  obtain ⟨rfl, hZ, hh⟩ := hP
  have hx := Bd.exec
  have hby := Bd.bytes
  have hml : c.maxLocals = 13 := hml0
  have hown : s.vm.findClass "com/example/weftmap/weftmap/engine/place/IndexQueueAddPinLaw" = some m.cls := findClass_of_methodNamed Bd.named
  have hnm := (name_of_methodNamed Bd.named Bd.method).1
  have X0 : Stand p l e room_1 s m #[(.int p1), (.int p2), (.int p3), (.int p4)] below meth c s₁ [] 0 0 := Stand.of_body Bd
  have e0 : s₁.heap = h0 := by rw [← hh, Bd.state]; rfl
  have N0 := Fr.nil n0
  have pre0 : ∀ t, Steps p.tables e below (s₁.setTop (mkF m 0 #[.val (.int p1), .val (.int p2), .val (.int p3), .val (.int p4), .unset, .unset, .unset, .unset, .unset, .unset, .unset, .unset, .unset] [])) t → Steps p.tables e below (s₁.setTop (entryFrame m #[(.int p1), (.int p2), (.int p3), (.int p4)] maxLocals)) t := fun t k => castTop (ef_0 m p1 p2 p3 p4) k
  have pre1 : ∀ t, Steps p.tables e below (s₁.setTop (mkF m 35 #[.val (.int p1), .val (.int p2), .val (.int p3), .val (.int p4), .val (.int nb), .val (.int va), .val (.int vb), .val (.int vc), .unset, .unset, .unset, .unset, .unset] [])) t → Steps p.tables e below (s₁.setTop (mkF m 0 #[.val (.int p1), .val (.int p2), .val (.int p3), .val (.int p4), .unset, .unset, .unset, .unset, .unset, .unset, .unset, .unset, .unset] [])) t := by
    intro t kt
    subst hva hvb hvc
    subst hnb
    show Steps p.tables e below (s₁.setTop (mkF m 0 #[.val (.int p1), .val (.int p2), .val (.int p3), .val (.int p4), .unset, .unset, .unset, .unset, .unset, .unset, .unset, .unset, .unset] [])) _
    refine XS.iconst X0.here hx rfl (hb hby at_0) ?_
    show Steps p.tables e below (s₁.setTop (mkF m 1 #[.val (.int p1), .val (.int p2), .val (.int p3), .val (.int p4), .unset, .unset, .unset, .unset, .unset, .unset, .unset, .unset, .unset] [(.int (1 : Int32))])) _
    refine XS.iloadN X0.here hx rfl (hb hby at_1) rfl ?_
    show Steps p.tables e below (s₁.setTop (mkF m 2 #[.val (.int p1), .val (.int p2), .val (.int p3), .val (.int p4), .unset, .unset, .unset, .unset, .unset, .unset, .unset, .unset, .unset] [(.int p1), (.int (1 : Int32))])) _
    refine XS.bipush X0.here hx rfl (hb hby at_2) ?_
    show Steps p.tables e below (s₁.setTop (mkF m 4 #[.val (.int p1), .val (.int p2), .val (.int p3), .val (.int p4), .unset, .unset, .unset, .unset, .unset, .unset, .unset, .unset, .unset] [(.int (7 : Int32)), (.int p1), (.int (1 : Int32))])) _
    refine XS.iand X0.here hx rfl (hb hby at_4) rfl ?_
    show Steps p.tables e below (s₁.setTop (mkF m 5 #[.val (.int p1), .val (.int p2), .val (.int p3), .val (.int p4), .unset, .unset, .unset, .unset, .unset, .unset, .unset, .unset, .unset] [(.int (p1 &&& (7 : Int32))), (.int (1 : Int32))])) _
    refine XS.iadd X0.here hx rfl (hb hby at_5) rfl ?_
    show Steps p.tables e below (s₁.setTop (mkF m 6 #[.val (.int p1), .val (.int p2), .val (.int p3), .val (.int p4), .unset, .unset, .unset, .unset, .unset, .unset, .unset, .unset, .unset] [(.int ((1 : Int32) + (p1 &&& (7 : Int32))))])) _
    refine XS.istore X0.here hx rfl (hb hby at_6) rfl (l' := #[.val (.int p1), .val (.int p2), .val (.int p3), .val (.int p4), .val (.int ((1 : Int32) + (p1 &&& (7 : Int32)))), .unset, .unset, .unset, .unset, .unset, .unset, .unset, .unset]) rfl ?_
    show Steps p.tables e below (s₁.setTop (mkF m 8 #[.val (.int p1), .val (.int p2), .val (.int p3), .val (.int p4), .val (.int ((1 : Int32) + (p1 &&& (7 : Int32)))), .unset, .unset, .unset, .unset, .unset, .unset, .unset, .unset] [])) _
    refine XS.iloadN X0.here hx rfl (hb hby at_8) rfl ?_
    show Steps p.tables e below (s₁.setTop (mkF m 9 #[.val (.int p1), .val (.int p2), .val (.int p3), .val (.int p4), .val (.int ((1 : Int32) + (p1 &&& (7 : Int32)))), .unset, .unset, .unset, .unset, .unset, .unset, .unset, .unset] [(.int p2)])) _
    refine X0.ldcInt hx hown (mvT hZ (hw _ (List.mem_of_getElem? (i := 0) rfl))) (g := (mkF m 9 #[.val (.int p1), .val (.int p2), .val (.int p3), .val (.int p4), .val (.int ((1 : Int32) + (p1 &&& (7 : Int32)))), .unset, .unset, .unset, .unset, .unset, .unset, .unset, .unset] [(.int p2)])) rfl (hb hby at_9) _ ?_
    show Steps p.tables e below (s₁.setTop (mkF m 11 #[.val (.int p1), .val (.int p2), .val (.int p3), .val (.int p4), .val (.int ((1 : Int32) + (p1 &&& (7 : Int32)))), .unset, .unset, .unset, .unset, .unset, .unset, .unset, .unset] [(.int (2147483647 : Int32)), (.int p2)])) _
    refine XS.iand X0.here hx rfl (hb hby at_11) rfl ?_
    show Steps p.tables e below (s₁.setTop (mkF m 12 #[.val (.int p1), .val (.int p2), .val (.int p3), .val (.int p4), .val (.int ((1 : Int32) + (p1 &&& (7 : Int32)))), .unset, .unset, .unset, .unset, .unset, .unset, .unset, .unset] [(.int (p2 &&& (2147483647 : Int32)))])) _
    refine XS.iload X0.here hx rfl (hb hby at_12) rfl ?_
    show Steps p.tables e below (s₁.setTop (mkF m 14 #[.val (.int p1), .val (.int p2), .val (.int p3), .val (.int p4), .val (.int ((1 : Int32) + (p1 &&& (7 : Int32)))), .unset, .unset, .unset, .unset, .unset, .unset, .unset, .unset] [(.int ((1 : Int32) + (p1 &&& (7 : Int32)))), (.int (p2 &&& (2147483647 : Int32)))])) _
    refine XS.irem X0.here hx rfl (hb hby at_14) rfl hnz14 ?_
    show Steps p.tables e below (s₁.setTop (mkF m 15 #[.val (.int p1), .val (.int p2), .val (.int p3), .val (.int p4), .val (.int ((1 : Int32) + (p1 &&& (7 : Int32)))), .unset, .unset, .unset, .unset, .unset, .unset, .unset, .unset] [(.int ((p2 &&& (2147483647 : Int32)) - ((p2 &&& (2147483647 : Int32)) / ((1 : Int32) + (p1 &&& (7 : Int32)))) * ((1 : Int32) + (p1 &&& (7 : Int32)))))])) _
    refine XS.istore X0.here hx rfl (hb hby at_15) rfl (l' := #[.val (.int p1), .val (.int p2), .val (.int p3), .val (.int p4), .val (.int ((1 : Int32) + (p1 &&& (7 : Int32)))), .val (.int ((p2 &&& (2147483647 : Int32)) - ((p2 &&& (2147483647 : Int32)) / ((1 : Int32) + (p1 &&& (7 : Int32)))) * ((1 : Int32) + (p1 &&& (7 : Int32))))), .unset, .unset, .unset, .unset, .unset, .unset, .unset]) rfl ?_
    show Steps p.tables e below (s₁.setTop (mkF m 17 #[.val (.int p1), .val (.int p2), .val (.int p3), .val (.int p4), .val (.int ((1 : Int32) + (p1 &&& (7 : Int32)))), .val (.int ((p2 &&& (2147483647 : Int32)) - ((p2 &&& (2147483647 : Int32)) / ((1 : Int32) + (p1 &&& (7 : Int32)))) * ((1 : Int32) + (p1 &&& (7 : Int32))))), .unset, .unset, .unset, .unset, .unset, .unset, .unset] [])) _
    refine XS.iloadN X0.here hx rfl (hb hby at_17) rfl ?_
    show Steps p.tables e below (s₁.setTop (mkF m 18 #[.val (.int p1), .val (.int p2), .val (.int p3), .val (.int p4), .val (.int ((1 : Int32) + (p1 &&& (7 : Int32)))), .val (.int ((p2 &&& (2147483647 : Int32)) - ((p2 &&& (2147483647 : Int32)) / ((1 : Int32) + (p1 &&& (7 : Int32)))) * ((1 : Int32) + (p1 &&& (7 : Int32))))), .unset, .unset, .unset, .unset, .unset, .unset, .unset] [(.int p3)])) _
    refine X0.ldcInt hx hown (mvT hZ (hw _ (List.mem_of_getElem? (i := 0) rfl))) (g := (mkF m 18 #[.val (.int p1), .val (.int p2), .val (.int p3), .val (.int p4), .val (.int ((1 : Int32) + (p1 &&& (7 : Int32)))), .val (.int ((p2 &&& (2147483647 : Int32)) - ((p2 &&& (2147483647 : Int32)) / ((1 : Int32) + (p1 &&& (7 : Int32)))) * ((1 : Int32) + (p1 &&& (7 : Int32))))), .unset, .unset, .unset, .unset, .unset, .unset, .unset] [(.int p3)])) rfl (hb hby at_18) _ ?_
    show Steps p.tables e below (s₁.setTop (mkF m 20 #[.val (.int p1), .val (.int p2), .val (.int p3), .val (.int p4), .val (.int ((1 : Int32) + (p1 &&& (7 : Int32)))), .val (.int ((p2 &&& (2147483647 : Int32)) - ((p2 &&& (2147483647 : Int32)) / ((1 : Int32) + (p1 &&& (7 : Int32)))) * ((1 : Int32) + (p1 &&& (7 : Int32))))), .unset, .unset, .unset, .unset, .unset, .unset, .unset] [(.int (2147483647 : Int32)), (.int p3)])) _
    refine XS.iand X0.here hx rfl (hb hby at_20) rfl ?_
    show Steps p.tables e below (s₁.setTop (mkF m 21 #[.val (.int p1), .val (.int p2), .val (.int p3), .val (.int p4), .val (.int ((1 : Int32) + (p1 &&& (7 : Int32)))), .val (.int ((p2 &&& (2147483647 : Int32)) - ((p2 &&& (2147483647 : Int32)) / ((1 : Int32) + (p1 &&& (7 : Int32)))) * ((1 : Int32) + (p1 &&& (7 : Int32))))), .unset, .unset, .unset, .unset, .unset, .unset, .unset] [(.int (p3 &&& (2147483647 : Int32)))])) _
    refine XS.iload X0.here hx rfl (hb hby at_21) rfl ?_
    show Steps p.tables e below (s₁.setTop (mkF m 23 #[.val (.int p1), .val (.int p2), .val (.int p3), .val (.int p4), .val (.int ((1 : Int32) + (p1 &&& (7 : Int32)))), .val (.int ((p2 &&& (2147483647 : Int32)) - ((p2 &&& (2147483647 : Int32)) / ((1 : Int32) + (p1 &&& (7 : Int32)))) * ((1 : Int32) + (p1 &&& (7 : Int32))))), .unset, .unset, .unset, .unset, .unset, .unset, .unset] [(.int ((1 : Int32) + (p1 &&& (7 : Int32)))), (.int (p3 &&& (2147483647 : Int32)))])) _
    refine XS.irem X0.here hx rfl (hb hby at_23) rfl hnz23 ?_
    show Steps p.tables e below (s₁.setTop (mkF m 24 #[.val (.int p1), .val (.int p2), .val (.int p3), .val (.int p4), .val (.int ((1 : Int32) + (p1 &&& (7 : Int32)))), .val (.int ((p2 &&& (2147483647 : Int32)) - ((p2 &&& (2147483647 : Int32)) / ((1 : Int32) + (p1 &&& (7 : Int32)))) * ((1 : Int32) + (p1 &&& (7 : Int32))))), .unset, .unset, .unset, .unset, .unset, .unset, .unset] [(.int ((p3 &&& (2147483647 : Int32)) - ((p3 &&& (2147483647 : Int32)) / ((1 : Int32) + (p1 &&& (7 : Int32)))) * ((1 : Int32) + (p1 &&& (7 : Int32)))))])) _
    refine XS.istore X0.here hx rfl (hb hby at_24) rfl (l' := #[.val (.int p1), .val (.int p2), .val (.int p3), .val (.int p4), .val (.int ((1 : Int32) + (p1 &&& (7 : Int32)))), .val (.int ((p2 &&& (2147483647 : Int32)) - ((p2 &&& (2147483647 : Int32)) / ((1 : Int32) + (p1 &&& (7 : Int32)))) * ((1 : Int32) + (p1 &&& (7 : Int32))))), .val (.int ((p3 &&& (2147483647 : Int32)) - ((p3 &&& (2147483647 : Int32)) / ((1 : Int32) + (p1 &&& (7 : Int32)))) * ((1 : Int32) + (p1 &&& (7 : Int32))))), .unset, .unset, .unset, .unset, .unset, .unset]) rfl ?_
    show Steps p.tables e below (s₁.setTop (mkF m 26 #[.val (.int p1), .val (.int p2), .val (.int p3), .val (.int p4), .val (.int ((1 : Int32) + (p1 &&& (7 : Int32)))), .val (.int ((p2 &&& (2147483647 : Int32)) - ((p2 &&& (2147483647 : Int32)) / ((1 : Int32) + (p1 &&& (7 : Int32)))) * ((1 : Int32) + (p1 &&& (7 : Int32))))), .val (.int ((p3 &&& (2147483647 : Int32)) - ((p3 &&& (2147483647 : Int32)) / ((1 : Int32) + (p1 &&& (7 : Int32)))) * ((1 : Int32) + (p1 &&& (7 : Int32))))), .unset, .unset, .unset, .unset, .unset, .unset] [])) _
    refine XS.iloadN X0.here hx rfl (hb hby at_26) rfl ?_
    show Steps p.tables e below (s₁.setTop (mkF m 27 #[.val (.int p1), .val (.int p2), .val (.int p3), .val (.int p4), .val (.int ((1 : Int32) + (p1 &&& (7 : Int32)))), .val (.int ((p2 &&& (2147483647 : Int32)) - ((p2 &&& (2147483647 : Int32)) / ((1 : Int32) + (p1 &&& (7 : Int32)))) * ((1 : Int32) + (p1 &&& (7 : Int32))))), .val (.int ((p3 &&& (2147483647 : Int32)) - ((p3 &&& (2147483647 : Int32)) / ((1 : Int32) + (p1 &&& (7 : Int32)))) * ((1 : Int32) + (p1 &&& (7 : Int32))))), .unset, .unset, .unset, .unset, .unset, .unset] [(.int p4)])) _
    refine X0.ldcInt hx hown (mvT hZ (hw _ (List.mem_of_getElem? (i := 0) rfl))) (g := (mkF m 27 #[.val (.int p1), .val (.int p2), .val (.int p3), .val (.int p4), .val (.int ((1 : Int32) + (p1 &&& (7 : Int32)))), .val (.int ((p2 &&& (2147483647 : Int32)) - ((p2 &&& (2147483647 : Int32)) / ((1 : Int32) + (p1 &&& (7 : Int32)))) * ((1 : Int32) + (p1 &&& (7 : Int32))))), .val (.int ((p3 &&& (2147483647 : Int32)) - ((p3 &&& (2147483647 : Int32)) / ((1 : Int32) + (p1 &&& (7 : Int32)))) * ((1 : Int32) + (p1 &&& (7 : Int32))))), .unset, .unset, .unset, .unset, .unset, .unset] [(.int p4)])) rfl (hb hby at_27) _ ?_
    show Steps p.tables e below (s₁.setTop (mkF m 29 #[.val (.int p1), .val (.int p2), .val (.int p3), .val (.int p4), .val (.int ((1 : Int32) + (p1 &&& (7 : Int32)))), .val (.int ((p2 &&& (2147483647 : Int32)) - ((p2 &&& (2147483647 : Int32)) / ((1 : Int32) + (p1 &&& (7 : Int32)))) * ((1 : Int32) + (p1 &&& (7 : Int32))))), .val (.int ((p3 &&& (2147483647 : Int32)) - ((p3 &&& (2147483647 : Int32)) / ((1 : Int32) + (p1 &&& (7 : Int32)))) * ((1 : Int32) + (p1 &&& (7 : Int32))))), .unset, .unset, .unset, .unset, .unset, .unset] [(.int (2147483647 : Int32)), (.int p4)])) _
    refine XS.iand X0.here hx rfl (hb hby at_29) rfl ?_
    show Steps p.tables e below (s₁.setTop (mkF m 30 #[.val (.int p1), .val (.int p2), .val (.int p3), .val (.int p4), .val (.int ((1 : Int32) + (p1 &&& (7 : Int32)))), .val (.int ((p2 &&& (2147483647 : Int32)) - ((p2 &&& (2147483647 : Int32)) / ((1 : Int32) + (p1 &&& (7 : Int32)))) * ((1 : Int32) + (p1 &&& (7 : Int32))))), .val (.int ((p3 &&& (2147483647 : Int32)) - ((p3 &&& (2147483647 : Int32)) / ((1 : Int32) + (p1 &&& (7 : Int32)))) * ((1 : Int32) + (p1 &&& (7 : Int32))))), .unset, .unset, .unset, .unset, .unset, .unset] [(.int (p4 &&& (2147483647 : Int32)))])) _
    refine XS.iload X0.here hx rfl (hb hby at_30) rfl ?_
    show Steps p.tables e below (s₁.setTop (mkF m 32 #[.val (.int p1), .val (.int p2), .val (.int p3), .val (.int p4), .val (.int ((1 : Int32) + (p1 &&& (7 : Int32)))), .val (.int ((p2 &&& (2147483647 : Int32)) - ((p2 &&& (2147483647 : Int32)) / ((1 : Int32) + (p1 &&& (7 : Int32)))) * ((1 : Int32) + (p1 &&& (7 : Int32))))), .val (.int ((p3 &&& (2147483647 : Int32)) - ((p3 &&& (2147483647 : Int32)) / ((1 : Int32) + (p1 &&& (7 : Int32)))) * ((1 : Int32) + (p1 &&& (7 : Int32))))), .unset, .unset, .unset, .unset, .unset, .unset] [(.int ((1 : Int32) + (p1 &&& (7 : Int32)))), (.int (p4 &&& (2147483647 : Int32)))])) _
    refine XS.irem X0.here hx rfl (hb hby at_32) rfl hnz32 ?_
    show Steps p.tables e below (s₁.setTop (mkF m 33 #[.val (.int p1), .val (.int p2), .val (.int p3), .val (.int p4), .val (.int ((1 : Int32) + (p1 &&& (7 : Int32)))), .val (.int ((p2 &&& (2147483647 : Int32)) - ((p2 &&& (2147483647 : Int32)) / ((1 : Int32) + (p1 &&& (7 : Int32)))) * ((1 : Int32) + (p1 &&& (7 : Int32))))), .val (.int ((p3 &&& (2147483647 : Int32)) - ((p3 &&& (2147483647 : Int32)) / ((1 : Int32) + (p1 &&& (7 : Int32)))) * ((1 : Int32) + (p1 &&& (7 : Int32))))), .unset, .unset, .unset, .unset, .unset, .unset] [(.int ((p4 &&& (2147483647 : Int32)) - ((p4 &&& (2147483647 : Int32)) / ((1 : Int32) + (p1 &&& (7 : Int32)))) * ((1 : Int32) + (p1 &&& (7 : Int32)))))])) _
    refine XS.istore X0.here hx rfl (hb hby at_33) rfl (l' := #[.val (.int p1), .val (.int p2), .val (.int p3), .val (.int p4), .val (.int ((1 : Int32) + (p1 &&& (7 : Int32)))), .val (.int ((p2 &&& (2147483647 : Int32)) - ((p2 &&& (2147483647 : Int32)) / ((1 : Int32) + (p1 &&& (7 : Int32)))) * ((1 : Int32) + (p1 &&& (7 : Int32))))), .val (.int ((p3 &&& (2147483647 : Int32)) - ((p3 &&& (2147483647 : Int32)) / ((1 : Int32) + (p1 &&& (7 : Int32)))) * ((1 : Int32) + (p1 &&& (7 : Int32))))), .val (.int ((p4 &&& (2147483647 : Int32)) - ((p4 &&& (2147483647 : Int32)) / ((1 : Int32) + (p1 &&& (7 : Int32)))) * ((1 : Int32) + (p1 &&& (7 : Int32))))), .unset, .unset, .unset, .unset, .unset]) rfl ?_
    exact kt
  -- 3. LAWS
  obtain ⟨T5, h5, X5, e5, E5, A5, D5, -, st5⟩ := newO X0 hx hZ hown (hw _ (List.mem_of_getElem? (i := 1) rfl)) (hw _ (List.mem_of_getElem? (i := 2) rfl)) (hw _ (List.mem_of_getElem? (i := 3) rfl)) e0 (g := (mkF m 35 #[.val (.int p1), .val (.int p2), .val (.int p3), .val (.int p4), .val (.int nb), .val (.int va), .val (.int vb), .val (.int vc), .unset, .unset, .unset, .unset, .unset] [])) rfl (hb hby at_35) (by decide) (by decide)
  obtain ⟨b5, g5⟩ : ∃ z, z = h0.size := ⟨_, rfl⟩      -- the fresh object's address
  rw [← g5] at A5 D5 st5      -- A5 : Exa Z h5 b5 "com/example/weftmap/weftmap/engine/place/IndexQueue"; E5 : Ext h0 h5 (carries every older fact: .ext E5)
  have F_items_b5 : Fld Z h5 b5 "com/example/weftmap/weftmap/engine/place/IndexQueue" "items" "[I" .null := D5 (Or.inr (hw _ (List.mem_of_getElem? (i := 12) rfl))) (ty := (.array .int)) (by decide)
  have F_queued_b5 : Fld Z h5 b5 "com/example/weftmap/weftmap/engine/place/IndexQueue" "queued" "[Z" .null := D5 (Or.inr (hw _ (List.mem_of_getElem? (i := 15) rfl))) (ty := (.array .boolean)) (by decide)
  have F_head_b5 : Fld Z h5 b5 "com/example/weftmap/weftmap/engine/place/IndexQueue" "head" "I" (.int (0 : Int32)) := D5 (Or.inl (hw _ (List.mem_of_getElem? (i := 22) rfl))) (ty := .int) (by decide)
  have F_size_b5 : Fld Z h5 b5 "com/example/weftmap/weftmap/engine/place/IndexQueue" "size" "I" (.int (0 : Int32)) := D5 (Or.inl (hw _ (List.mem_of_getElem? (i := 24) rfl))) (ty := .int) (by decide)
  have E_b5 := A5
  have g_b5 : n0 ≤ b5 := Nat.le_trans Z0 (Nat.le_of_eq g5.symm)
  have sz_b5 : h0.size ≤ b5 := (Nat.le_trans (Keep.refl h0 []).1 (Nat.le_of_eq g5.symm))
  have K5 : Keep h0 h5 [] := (Keep.refl h0 []).ext E5
  -- pc 42: the constructor of com/example/weftmap/weftmap/engine/place/IndexQueue by its contract rm1
  obtain ⟨_, _, ⟨T6, L6, k6, n6⟩, -, X6, ⟨Lc6, hQ6, l6, y6, z6⟩, st6⟩ := X5.specialBack hx (y := (⟨"com/example/weftmap/weftmap/engine/place/IndexQueue", "<init>", "(II)V"⟩ : MethodName)) rfl hown (mvT hZ (hw _ (List.mem_of_getElem? (i := 4) rfl))) (mvT hZ (hw _ (List.mem_of_getElem? (i := 5) rfl))) (mvT hZ (hw _ (List.mem_of_getElem? (i := 6) rfl))) (by decide) (backOf (W := 1) (rm1 l Z a0 hw [] b5 nb _ _ h5 n0 (Nat.le_trans Z0 E5.1) E_b5 F_items_b5 g_b5 F_queued_b5 F_head_b5 F_size_b5 hn3 hcap3) hZ (hw _ (List.mem_of_getElem? (i := 6) rfl)) (hw _ (List.mem_of_getElem? (i := 3) rfl)) (by decide) (by decide)) (g := (mkF m 42 #[.val (.int p1), .val (.int p2), .val (.int p3), .val (.int p4), .val (.int nb), .val (.int va), .val (.int vb), .val (.int vc), .unset, .unset, .unset, .unset, .unset] [(.int nb), (.int (2 : Int32)), (.ref b5), (.ref b5)])) rfl (by rw [hml]; rfl) (Steps.refl _) (a := b5) (argsL := [(.int (2 : Int32)), (.int nb)]) (rest := [(.ref b5)]) (lenOf pd_0_0 rfl) rfl (by show 2 * 0 + _ ≤ _; exact Nat.le_of_eq rfl) (hb hby at_42) (fun _ _ => ⟨rfl, e5, (by decide : 1 + 2 ≤ _), (by decide : 4 + 10 ≤ _)⟩)
  dsimp only [Pt.U, Pt.locs, Pt.cells, Pt.slots] at X6 l6 y6 z6 st6 hQ6
  subst l6 y6 z6
  obtain ⟨rfl, N6q, it, qu, I6⟩ := hQ6
  have N6 := Fr.app N0 N6q
  -- pc 51: com/example/weftmap/weftmap/engine/place/IndexQueue.add by the contract of the body that the receiver's class selects, rm3
  obtain ⟨cq7, kq7, q7a, q7b, q7c⟩ := isOf hZ rfl I6.1
  obtain ⟨_, _, ⟨T7, L7, k7, n7⟩, -, X7, ⟨Lc7, hQ7, l7, y7, z7⟩, st7⟩ := X6.virtualBack hx (y := (⟨"com/example/weftmap/weftmap/engine/place/IndexQueue", "add", "(I)V"⟩ : MethodName)) (z := (⟨"com/example/weftmap/weftmap/engine/place/IndexQueue", "add", "(I)V"⟩ : MethodName)) hown (mvT hZ (hw _ (List.mem_of_getElem? (i := 16) rfl))) (mvT hZ (hw _ (List.mem_of_getElem? (i := 17) rfl))) (notFace_of_selects (args := #[]) (mvT hZ (hw _ (List.mem_of_getElem? (i := 19) rfl)))) (mvT hZ (hw _ (List.mem_of_getElem? (i := 19) rfl))) (mvT hZ (hw _ (List.mem_of_getElem? (i := 18) rfl))) (by decide) (backOf (W := 0) (rm3a l Z a0 hw [] b5 va it qu nb (fun _ => 0) (fun _ => 0) 0 0 0 1 T6.heap n0 (own_n0 I6) I6 ra rfl (by decide) (by decide) (by decide) (by decide)) hZ (hw _ (List.mem_of_getElem? (i := 20) rfl)) (hw _ (List.mem_of_getElem? (i := 3) rfl)) (by decide) (by decide)) q7a q7c (g := (mkF m 51 #[.val (.int p1), .val (.int p2), .val (.int p3), .val (.int p4), .val (.int nb), .val (.int va), .val (.int vb), .val (.int vc), .val (.ref b5), .unset, .unset, .unset, .unset] [(.int va), (.ref b5)])) rfl (by rw [hml]; rfl) (Steps.refl _) (argsL := [(.int va)]) (rest := []) (lenOf pd_0_2 rfl) rfl (by show 2 * 0 + _ ≤ _; exact Nat.le_of_eq rfl) (hb hby at_51) (fun _ _ => ⟨rfl, rfl, (by decide : 3 + 0 ≤ _), (by decide : 14 + 0 ≤ _)⟩)
  dsimp only [Pt.U, Pt.locs, Pt.cells, Pt.slots] at X7 l7 y7 z7 st7 hQ7
  subst l7 y7 z7
  obtain ⟨rfl, N7q, I7⟩ := hQ7
  have N7 := Fr.app N6 N7q
  -- pc 58: com/example/weftmap/weftmap/engine/place/IndexQueue.add by the contract of the body that the receiver's class selects, rm3
  obtain ⟨cq8, kq8, q8a, q8b, q8c⟩ := isOf hZ rfl I7.1
  obtain ⟨_, _, ⟨T8, L8, k8, n8⟩, -, X8, ⟨Lc8, hQ8, l8, y8, z8⟩, st8⟩ := X7.virtualBack hx (y := (⟨"com/example/weftmap/weftmap/engine/place/IndexQueue", "add", "(I)V"⟩ : MethodName)) (z := (⟨"com/example/weftmap/weftmap/engine/place/IndexQueue", "add", "(I)V"⟩ : MethodName)) hown (mvT hZ (hw _ (List.mem_of_getElem? (i := 16) rfl))) (mvT hZ (hw _ (List.mem_of_getElem? (i := 17) rfl))) (notFace_of_selects (args := #[]) (mvT hZ (hw _ (List.mem_of_getElem? (i := 19) rfl)))) (mvT hZ (hw _ (List.mem_of_getElem? (i := 19) rfl))) (mvT hZ (hw _ (List.mem_of_getElem? (i := 18) rfl))) (by decide) (backOf (W := 0) (rm3a l Z a0 hw [] b5 vb it qu nb (own_upd (fun _ => 0) 0 va) (own_upd (fun _ => 0) va 1) 0 1 1 2 T7.heap n0 (own_n0 I7) I7 rb (by simp [own_upd, hba]) (by decide) (by decide) (by decide) (by decide)) hZ (hw _ (List.mem_of_getElem? (i := 20) rfl)) (hw _ (List.mem_of_getElem? (i := 3) rfl)) (by decide) (by decide)) q8a q8c (g := (mkF m 58 #[.val (.int p1), .val (.int p2), .val (.int p3), .val (.int p4), .val (.int nb), .val (.int va), .val (.int vb), .val (.int vc), .val (.ref b5), .unset, .unset, .unset, .unset] [(.int vb), (.ref b5)])) rfl (by rw [hml]; rfl) (Steps.refl _) (argsL := [(.int vb)]) (rest := []) (lenOf pd_0_2 rfl) rfl (by show 2 * 0 + _ ≤ _; exact Nat.le_of_eq rfl) (hb hby at_58) (fun _ _ => ⟨rfl, rfl, (by decide : 3 + 0 ≤ _), (by decide : 14 + 0 ≤ _)⟩)
  dsimp only [Pt.U, Pt.locs, Pt.cells, Pt.slots] at X8 l8 y8 z8 st8 hQ8
  subst l8 y8 z8
  obtain ⟨rfl, N8q, I8⟩ := hQ8
  have N8 := Fr.app N7 N8q
  -- pc 63: com/example/weftmap/weftmap/engine/place/IndexQueue.poll by the contract of the body that the receiver's class selects, rm4
  obtain ⟨cq9, kq9, q9a, q9b, q9c⟩ := isOf hZ rfl I8.1
  obtain ⟨_, _, ⟨T9, L9, k9, n9⟩, -, X9, ⟨Lc9, hQ9, l9, y9, z9⟩, st9⟩ := X8.virtualBack hx (y := (⟨"com/example/weftmap/weftmap/engine/place/IndexQueue", "poll", "()I"⟩ : MethodName)) (z := (⟨"com/example/weftmap/weftmap/engine/place/IndexQueue", "poll", "()I"⟩ : MethodName)) hown (mvT hZ (hw _ (List.mem_of_getElem? (i := 25) rfl))) (mvT hZ (hw _ (List.mem_of_getElem? (i := 26) rfl))) (notFace_of_selects (args := #[]) (mvT hZ (hw _ (List.mem_of_getElem? (i := 28) rfl)))) (mvT hZ (hw _ (List.mem_of_getElem? (i := 28) rfl))) (mvT hZ (hw _ (List.mem_of_getElem? (i := 27) rfl))) (by decide) (backOf (W := 0) (rm4a l Z a0 hw [] b5 it qu nb (own_upd (own_upd (fun _ => 0) 0 va) 1 vb) (own_upd (own_upd (fun _ => 0) va 1) vb 1) 0 2 va 1 1 T8.heap n0 (own_n0 I8) I8 (by simp [own_upd]) ra (by decide) (by decide) (by decide) (by decide)) hZ (hw _ (List.mem_of_getElem? (i := 29) rfl)) (hw _ (List.mem_of_getElem? (i := 3) rfl)) (by decide) (by decide)) q9a q9c (g := (mkF m 63 #[.val (.int p1), .val (.int p2), .val (.int p3), .val (.int p4), .val (.int nb), .val (.int va), .val (.int vb), .val (.int vc), .val (.ref b5), .unset, .unset, .unset, .unset] [(.ref b5)])) rfl (by rw [hml]; rfl) (Steps.refl _) (argsL := []) (rest := []) (lenOf pd_0_3 rfl) rfl (by show 2 * 0 + _ ≤ _; exact Nat.le_of_eq rfl) (hb hby at_63) (fun _ _ => ⟨rfl, rfl, (by decide : 3 + 0 ≤ _), (by decide : 14 + 0 ≤ _)⟩)
  dsimp only [Pt.U, Pt.locs, Pt.cells, Pt.slots] at X9 l9 y9 z9 st9 hQ9
  subst l9 y9 z9
  obtain ⟨rfl, N9q, I9⟩ := hQ9
  have N9 := Fr.app N8 N9q
  -- pc 82: com/example/weftmap/weftmap/engine/place/IndexQueue.add by the contract of the body that the receiver's class selects, rm3
  obtain ⟨cq10, kq10, q10a, q10b, q10c⟩ := isOf hZ rfl I9.1
  obtain ⟨_, _, ⟨T10, L10, k10, n10⟩, -, X10, ⟨Lc10, hQ10, l10, y10, z10⟩, st10⟩ := X9.virtualBack hx (y := (⟨"com/example/weftmap/weftmap/engine/place/IndexQueue", "add", "(I)V"⟩ : MethodName)) (z := (⟨"com/example/weftmap/weftmap/engine/place/IndexQueue", "add", "(I)V"⟩ : MethodName)) hown (mvT hZ (hw _ (List.mem_of_getElem? (i := 16) rfl))) (mvT hZ (hw _ (List.mem_of_getElem? (i := 17) rfl))) (notFace_of_selects (args := #[]) (mvT hZ (hw _ (List.mem_of_getElem? (i := 19) rfl)))) (mvT hZ (hw _ (List.mem_of_getElem? (i := 19) rfl))) (mvT hZ (hw _ (List.mem_of_getElem? (i := 18) rfl))) (by decide) (backOf (W := 0) (rm3b l Z a0 hw [] b5 vc it qu nb (own_upd (own_upd (fun _ => 0) 0 va) 1 vb) (own_upd (own_upd (own_upd (fun _ => 0) va 1) vb 1) va 0) 1 1 0 2 T9.heap n0 (own_n0 I9) I9 rc (by simp only [own_upd]; split <;> simp_all) (by decide) (by decide) (by decide) (by decide)) hZ (hw _ (List.mem_of_getElem? (i := 20) rfl)) (hw _ (List.mem_of_getElem? (i := 3) rfl)) (by decide) (by decide)) q10a q10c (g := (mkF m 82 #[.val (.int p1), .val (.int p2), .val (.int p3), .val (.int p4), .val (.int nb), .val (.int va), .val (.int vb), .val (.int vc), .val (.ref b5), .val (.int (1 : Int32)), .unset, .unset, .unset] [(.int vc), (.ref b5)])) rfl (by rw [hml]; rfl) (Steps.refl _) (argsL := [(.int vc)]) (rest := []) (lenOf pd_0_2 rfl) rfl (by show 2 * 0 + _ ≤ _; exact Nat.le_of_eq rfl) (hb hby at_82) (fun _ _ => ⟨rfl, rfl, (by decide : 3 + 0 ≤ _), (by decide : 14 + 0 ≤ _)⟩)
  dsimp only [Pt.U, Pt.locs, Pt.cells, Pt.slots] at X10 l10 y10 z10 st10 hQ10
  subst l10 y10 z10
  obtain ⟨rfl, N10q, I10⟩ := hQ10
  have N10 := Fr.app N9 N10q
  -- pc 139: com/example/weftmap/weftmap/engine/place/IndexQueue.isEmpty by the contract of the body that the receiver's class selects, rm5
  obtain ⟨cq11, kq11, q11a, q11b, q11c⟩ := isOf hZ rfl I10.1
  obtain ⟨_, _, ⟨T11, L11, k11, n11⟩, -, X11, ⟨Lc11, hQ11, l11, y11, z11⟩, st11⟩ := X10.virtualBack hx (y := (⟨"com/example/weftmap/weftmap/engine/place/IndexQueue", "isEmpty", "()Z"⟩ : MethodName)) (z := (⟨"com/example/weftmap/weftmap/engine/place/IndexQueue", "isEmpty", "()Z"⟩ : MethodName)) hown (mvT hZ (hw _ (List.mem_of_getElem? (i := 30) rfl))) (mvT hZ (hw _ (List.mem_of_getElem? (i := 31) rfl))) (notFace_of_selects (args := #[]) (mvT hZ (hw _ (List.mem_of_getElem? (i := 33) rfl)))) (mvT hZ (hw _ (List.mem_of_getElem? (i := 33) rfl))) (mvT hZ (hw _ (List.mem_of_getElem? (i := 32) rfl))) (by decide) (backOf (W := 0) (rm5b l Z a0 hw [] b5 _ T10.heap n0 (own_n0 I10) I10.2.2.2.2.1 (by decide)) hZ (hw _ (List.mem_of_getElem? (i := 34) rfl)) (hw _ (List.mem_of_getElem? (i := 3) rfl)) (by decide) (by decide)) q11a q11c (g := (mkF m 139 #[.val (.int p1), .val (.int p2), .val (.int p3), .val (.int p4), .val (.int nb), .val (.int va), .val (.int vb), .val (.int vc), .val (.ref b5), .val (.int (1 : Int32)), .val (.int (2 : Int32)), .val (.int vb), .val (.int vc)] [(.ref b5)])) rfl (by rw [hml]; rfl) (Steps.refl _) (argsL := []) (rest := []) (lenOf pd_0_4 rfl) rfl (by show 2 * 0 + _ ≤ _; exact Nat.le_of_eq rfl) (hb hby at_139) (fun _ _ => ⟨rfl, rfl, (by decide : 3 + 0 ≤ _), (by decide : 14 + 0 ≤ _)⟩)
  dsimp only [Pt.U, Pt.locs, Pt.cells, Pt.slots] at X11 l11 y11 z11 st11 hQ11
  subst l11 y11 z11
  obtain ⟨rfl, N11q, e11q⟩ := hQ11
  have I11 : own_IQ Z T11.heap n0 b5 it qu nb (own_upd (own_upd (own_upd (fun _ => 0) 0 va) 1 vb) 0 vc) (own_upd (own_upd (own_upd (own_upd (fun _ => 0) va 1) vb 1) va 0) vc 1) 1 2 := by rw [e11q]; exact I10
  have N11 := Fr.app N10 N11q
  -- pc 159: com/example/weftmap/weftmap/engine/place/IndexQueue.poll by the contract of the body that the receiver's class selects, rm4
  obtain ⟨cq12, kq12, q12a, q12b, q12c⟩ := isOf hZ rfl I11.1
  obtain ⟨_, _, ⟨T12, L12, k12, n12⟩, -, X12, ⟨Lc12, hQ12, l12, y12, z12⟩, st12⟩ := X11.virtualBack hx (y := (⟨"com/example/weftmap/weftmap/engine/place/IndexQueue", "poll", "()I"⟩ : MethodName)) (z := (⟨"com/example/weftmap/weftmap/engine/place/IndexQueue", "poll", "()I"⟩ : MethodName)) hown (mvT hZ (hw _ (List.mem_of_getElem? (i := 25) rfl))) (mvT hZ (hw _ (List.mem_of_getElem? (i := 26) rfl))) (notFace_of_selects (args := #[]) (mvT hZ (hw _ (List.mem_of_getElem? (i := 28) rfl)))) (mvT hZ (hw _ (List.mem_of_getElem? (i := 28) rfl))) (mvT hZ (hw _ (List.mem_of_getElem? (i := 27) rfl))) (by decide) (backOf (W := 0) (rm4b l Z a0 hw [] b5 it qu nb (own_upd (own_upd (own_upd (fun _ => 0) 0 va) 1 vb) 0 vc) (own_upd (own_upd (own_upd (own_upd (fun _ => 0) va 1) vb 1) va 0) vc 1) 1 2 vb 0 1 T11.heap n0 (own_n0 I11) I11 (by simp [own_upd]) rb (by decide) (by decide) (by decide) (by decide)) hZ (hw _ (List.mem_of_getElem? (i := 29) rfl)) (hw _ (List.mem_of_getElem? (i := 3) rfl)) (by decide) (by decide)) q12a q12c (g := (mkF m 159 #[.val (.int p1), .val (.int p2), .val (.int p3), .val (.int p4), .val (.int nb), .val (.int va), .val (.int vb), .val (.int vc), .val (.ref b5), .val (.int (1 : Int32)), .val (.int (2 : Int32)), .val (.int vb), .val (.int vc)] [(.ref b5)])) rfl (by rw [hml]; rfl) (Steps.refl _) (argsL := []) (rest := []) (lenOf pd_0_3 rfl) rfl (by show 2 * 0 + _ ≤ _; exact Nat.le_of_eq rfl) (hb hby at_159) (fun _ _ => ⟨rfl, rfl, (by decide : 3 + 0 ≤ _), (by decide : 14 + 0 ≤ _)⟩)
  dsimp only [Pt.U, Pt.locs, Pt.cells, Pt.slots] at X12 l12 y12 z12 st12 hQ12
  subst l12 y12 z12
  obtain ⟨rfl, N12q, I12⟩ := hQ12
  have N12 := Fr.app N11 N12q
  -- pc 187: com/example/weftmap/weftmap/engine/place/IndexQueue.poll by the contract of the body that the receiver's class selects, rm4
  obtain ⟨cq13, kq13, q13a, q13b, q13c⟩ := isOf hZ rfl I12.1
  obtain ⟨_, _, ⟨T13, L13, k13, n13⟩, -, X13, ⟨Lc13, hQ13, l13, y13, z13⟩, st13⟩ := X12.virtualBack hx (y := (⟨"com/example/weftmap/weftmap/engine/place/IndexQueue", "poll", "()I"⟩ : MethodName)) (z := (⟨"com/example/weftmap/weftmap/engine/place/IndexQueue", "poll", "()I"⟩ : MethodName)) hown (mvT hZ (hw _ (List.mem_of_getElem? (i := 25) rfl))) (mvT hZ (hw _ (List.mem_of_getElem? (i := 26) rfl))) (notFace_of_selects (args := #[]) (mvT hZ (hw _ (List.mem_of_getElem? (i := 28) rfl)))) (mvT hZ (hw _ (List.mem_of_getElem? (i := 28) rfl))) (mvT hZ (hw _ (List.mem_of_getElem? (i := 27) rfl))) (by decide) (backOf (W := 0) (rm4a l Z a0 hw [] b5 it qu nb (own_upd (own_upd (own_upd (fun _ => 0) 0 va) 1 vb) 0 vc) (own_upd (own_upd (own_upd (own_upd (own_upd (fun _ => 0) va 1) vb 1) va 0) vc 1) vb 0) 0 1 vc 1 0 T12.heap n0 (own_n0 I12) I12 (by simp [own_upd]) rc (by decide) (by decide) (by decide) (by decide)) hZ (hw _ (List.mem_of_getElem? (i := 29) rfl)) (hw _ (List.mem_of_getElem? (i := 3) rfl)) (by decide) (by decide)) q13a q13c (g := (mkF m 187 #[.val (.int p1), .val (.int p2), .val (.int p3), .val (.int p4), .val (.int nb), .val (.int va), .val (.int vb), .val (.int vc), .val (.ref b5), .val (.int (1 : Int32)), .val (.int (2 : Int32)), .val (.int vb), .val (.int vc)] [(.ref b5)])) rfl (by rw [hml]; rfl) (Steps.refl _) (argsL := []) (rest := []) (lenOf pd_0_3 rfl) rfl (by show 2 * 0 + _ ≤ _; exact Nat.le_of_eq rfl) (hb hby at_187) (fun _ _ => ⟨rfl, rfl, (by decide : 3 + 0 ≤ _), (by decide : 14 + 0 ≤ _)⟩)
  dsimp only [Pt.U, Pt.locs, Pt.cells, Pt.slots] at X13 l13 y13 z13 st13 hQ13
  subst l13 y13 z13
  obtain ⟨rfl, N13q, I13⟩ := hQ13
  have N13 := Fr.app N12 N13q
  -- pc 209: com/example/weftmap/weftmap/engine/place/IndexQueue.isEmpty by the contract of the body that the receiver's class selects, rm5
  obtain ⟨cq14, kq14, q14a, q14b, q14c⟩ := isOf hZ rfl I13.1
  obtain ⟨_, _, ⟨T14, L14, k14, n14⟩, -, X14, ⟨Lc14, hQ14, l14, y14, z14⟩, st14⟩ := X13.virtualBack hx (y := (⟨"com/example/weftmap/weftmap/engine/place/IndexQueue", "isEmpty", "()Z"⟩ : MethodName)) (z := (⟨"com/example/weftmap/weftmap/engine/place/IndexQueue", "isEmpty", "()Z"⟩ : MethodName)) hown (mvT hZ (hw _ (List.mem_of_getElem? (i := 30) rfl))) (mvT hZ (hw _ (List.mem_of_getElem? (i := 31) rfl))) (notFace_of_selects (args := #[]) (mvT hZ (hw _ (List.mem_of_getElem? (i := 33) rfl)))) (mvT hZ (hw _ (List.mem_of_getElem? (i := 33) rfl))) (mvT hZ (hw _ (List.mem_of_getElem? (i := 32) rfl))) (by decide) (backOf (W := 0) (rm5 l Z a0 hw [] b5 _ T13.heap n0 (own_n0 I13) I13.2.2.2.2.1 (by decide)) hZ (hw _ (List.mem_of_getElem? (i := 34) rfl)) (hw _ (List.mem_of_getElem? (i := 3) rfl)) (by decide) (by decide)) q14a q14c (g := (mkF m 209 #[.val (.int p1), .val (.int p2), .val (.int p3), .val (.int p4), .val (.int nb), .val (.int va), .val (.int vb), .val (.int vc), .val (.ref b5), .val (.int (1 : Int32)), .val (.int (2 : Int32)), .val (.int vb), .val (.int vc)] [(.ref b5)])) rfl (by rw [hml]; rfl) (Steps.refl _) (argsL := []) (rest := []) (lenOf pd_0_4 rfl) rfl (by show 2 * 0 + _ ≤ _; exact Nat.le_of_eq rfl) (hb hby at_209) (fun _ _ => ⟨rfl, rfl, (by decide : 3 + 0 ≤ _), (by decide : 14 + 0 ≤ _)⟩)
  dsimp only [Pt.U, Pt.locs, Pt.cells, Pt.slots] at X14 l14 y14 z14 st14 hQ14
  subst l14 y14 z14
  obtain ⟨rfl, N14q, e14q⟩ := hQ14
  have I14 : own_IQ Z T14.heap n0 b5 it qu nb (own_upd (own_upd (own_upd (fun _ => 0) 0 va) 1 vb) 0 vc) (own_upd (own_upd (own_upd (own_upd (own_upd (own_upd (fun _ => 0) va 1) vb 1) va 0) vc 1) vb 0) vc 0) 1 0 := by rw [e14q]; exact I13
  have N14 := Fr.app N13 N14q
  obtain ⟨fs, hr, hrun, hended, hW, hsame⟩ := X14.leave (v := some (.int (1 : Int32))) (fun h => by rw [Bd.returns] at h; cases h)
  refine ⟨_, _, pre0 _ (pre1 _ ?_), hrun, hended, _, _, rfl, ?_, ⟨_, rfl⟩, hW, hsame.mono (by decide) (by decide)⟩
  -- 4. STEPS
  · show Steps p.tables e below (s₁.setTop (mkF m 35 #[.val (.int p1), .val (.int p2), .val (.int p3), .val (.int p4), .val (.int nb), .val (.int va), .val (.int vb), .val (.int vc), .unset, .unset, .unset, .unset, .unset] [])) _
    refine st5 _ ?_
    show Steps p.tables e below (T5.setTop (mkF m 38 #[.val (.int p1), .val (.int p2), .val (.int p3), .val (.int p4), .val (.int nb), .val (.int va), .val (.int vb), .val (.int vc), .unset, .unset, .unset, .unset, .unset] [(.ref b5)])) _
    refine XS.dup X5.here hx rfl (hb hby at_38) rfl rfl ?_
    show Steps p.tables e below (T5.setTop (mkF m 39 #[.val (.int p1), .val (.int p2), .val (.int p3), .val (.int p4), .val (.int nb), .val (.int va), .val (.int vb), .val (.int vc), .unset, .unset, .unset, .unset, .unset] [(.ref b5), (.ref b5)])) _
    refine XS.iconst X5.here hx rfl (hb hby at_39) ?_
    show Steps p.tables e below (T5.setTop (mkF m 40 #[.val (.int p1), .val (.int p2), .val (.int p3), .val (.int p4), .val (.int nb), .val (.int va), .val (.int vb), .val (.int vc), .unset, .unset, .unset, .unset, .unset] [(.int (2 : Int32)), (.ref b5), (.ref b5)])) _
    refine XS.iload X5.here hx rfl (hb hby at_40) rfl ?_
    show Steps p.tables e below (T5.setTop (mkF m 42 #[.val (.int p1), .val (.int p2), .val (.int p3), .val (.int p4), .val (.int nb), .val (.int va), .val (.int vb), .val (.int vc), .unset, .unset, .unset, .unset, .unset] [(.int nb), (.int (2 : Int32)), (.ref b5), (.ref b5)])) _
    refine st6.trans ?_
    show Steps p.tables e below (T6.setTop (mkF m 45 #[.val (.int p1), .val (.int p2), .val (.int p3), .val (.int p4), .val (.int nb), .val (.int va), .val (.int vb), .val (.int vc), .unset, .unset, .unset, .unset, .unset] [(.ref b5)])) _
    refine XS.astore X6.here hx rfl (hb hby at_45) rfl rfl (l' := #[.val (.int p1), .val (.int p2), .val (.int p3), .val (.int p4), .val (.int nb), .val (.int va), .val (.int vb), .val (.int vc), .val (.ref b5), .unset, .unset, .unset, .unset]) rfl ?_
    show Steps p.tables e below (T6.setTop (mkF m 47 #[.val (.int p1), .val (.int p2), .val (.int p3), .val (.int p4), .val (.int nb), .val (.int va), .val (.int vb), .val (.int vc), .val (.ref b5), .unset, .unset, .unset, .unset] [])) _
    refine XS.aload X6.here hx rfl (hb hby at_47) rfl rfl ?_
    show Steps p.tables e below (T6.setTop (mkF m 49 #[.val (.int p1), .val (.int p2), .val (.int p3), .val (.int p4), .val (.int nb), .val (.int va), .val (.int vb), .val (.int vc), .val (.ref b5), .unset, .unset, .unset, .unset] [(.ref b5)])) _
    refine XS.iload X6.here hx rfl (hb hby at_49) rfl ?_
    show Steps p.tables e below (T6.setTop (mkF m 51 #[.val (.int p1), .val (.int p2), .val (.int p3), .val (.int p4), .val (.int nb), .val (.int va), .val (.int vb), .val (.int vc), .val (.ref b5), .unset, .unset, .unset, .unset] [(.int va), (.ref b5)])) _
    refine st7.trans ?_
    show Steps p.tables e below (T7.setTop (mkF m 54 #[.val (.int p1), .val (.int p2), .val (.int p3), .val (.int p4), .val (.int nb), .val (.int va), .val (.int vb), .val (.int vc), .val (.ref b5), .unset, .unset, .unset, .unset] [])) _
    refine XS.aload X7.here hx rfl (hb hby at_54) rfl rfl ?_
    show Steps p.tables e below (T7.setTop (mkF m 56 #[.val (.int p1), .val (.int p2), .val (.int p3), .val (.int p4), .val (.int nb), .val (.int va), .val (.int vb), .val (.int vc), .val (.ref b5), .unset, .unset, .unset, .unset] [(.ref b5)])) _
    refine XS.iload X7.here hx rfl (hb hby at_56) rfl ?_
    show Steps p.tables e below (T7.setTop (mkF m 58 #[.val (.int p1), .val (.int p2), .val (.int p3), .val (.int p4), .val (.int nb), .val (.int va), .val (.int vb), .val (.int vc), .val (.ref b5), .unset, .unset, .unset, .unset] [(.int vb), (.ref b5)])) _
    refine st8.trans ?_
    show Steps p.tables e below (T8.setTop (mkF m 61 #[.val (.int p1), .val (.int p2), .val (.int p3), .val (.int p4), .val (.int nb), .val (.int va), .val (.int vb), .val (.int vc), .val (.ref b5), .unset, .unset, .unset, .unset] [])) _
    refine XS.aload X8.here hx rfl (hb hby at_61) rfl rfl ?_
    show Steps p.tables e below (T8.setTop (mkF m 63 #[.val (.int p1), .val (.int p2), .val (.int p3), .val (.int p4), .val (.int nb), .val (.int va), .val (.int vb), .val (.int vc), .val (.ref b5), .unset, .unset, .unset, .unset] [(.ref b5)])) _
    refine st9.trans ?_
    show Steps p.tables e below (T9.setTop (mkF m 66 #[.val (.int p1), .val (.int p2), .val (.int p3), .val (.int p4), .val (.int nb), .val (.int va), .val (.int vb), .val (.int vc), .val (.ref b5), .unset, .unset, .unset, .unset] [(.int va)])) _
    refine XS.iload X9.here hx rfl (hb hby at_66) rfl ?_
    show Steps p.tables e below (T9.setTop (mkF m 68 #[.val (.int p1), .val (.int p2), .val (.int p3), .val (.int p4), .val (.int nb), .val (.int va), .val (.int vb), .val (.int vc), .val (.ref b5), .unset, .unset, .unset, .unset] [(.int va), (.int va)])) _
    refine XS.icmpNo X9.here hx rfl (hb hby at_68) rfl (teq hc68).2 ?_
    show Steps p.tables e below (T9.setTop (mkF m 71 #[.val (.int p1), .val (.int p2), .val (.int p3), .val (.int p4), .val (.int nb), .val (.int va), .val (.int vb), .val (.int vc), .val (.ref b5), .unset, .unset, .unset, .unset] [])) _
    refine XS.iconst X9.here hx rfl (hb hby at_71) ?_
    show Steps p.tables e below (T9.setTop (mkF m 72 #[.val (.int p1), .val (.int p2), .val (.int p3), .val (.int p4), .val (.int nb), .val (.int va), .val (.int vb), .val (.int vc), .val (.ref b5), .unset, .unset, .unset, .unset] [(.int (1 : Int32))])) _
    refine XS.goto X9.here hx rfl (pc0 := 72) (pc' := 76) rfl (hb hby at_72) (by decide) (by decide) ?_
    show Steps p.tables e below (T9.setTop (mkF m 76 #[.val (.int p1), .val (.int p2), .val (.int p3), .val (.int p4), .val (.int nb), .val (.int va), .val (.int vb), .val (.int vc), .val (.ref b5), .unset, .unset, .unset, .unset] [(.int (1 : Int32))])) _
    refine XS.istore X9.here hx rfl (hb hby at_76) rfl (l' := #[.val (.int p1), .val (.int p2), .val (.int p3), .val (.int p4), .val (.int nb), .val (.int va), .val (.int vb), .val (.int vc), .val (.ref b5), .val (.int (1 : Int32)), .unset, .unset, .unset]) rfl ?_
    show Steps p.tables e below (T9.setTop (mkF m 78 #[.val (.int p1), .val (.int p2), .val (.int p3), .val (.int p4), .val (.int nb), .val (.int va), .val (.int vb), .val (.int vc), .val (.ref b5), .val (.int (1 : Int32)), .unset, .unset, .unset] [])) _
    refine XS.aload X9.here hx rfl (hb hby at_78) rfl rfl ?_
    show Steps p.tables e below (T9.setTop (mkF m 80 #[.val (.int p1), .val (.int p2), .val (.int p3), .val (.int p4), .val (.int nb), .val (.int va), .val (.int vb), .val (.int vc), .val (.ref b5), .val (.int (1 : Int32)), .unset, .unset, .unset] [(.ref b5)])) _
    refine XS.iload X9.here hx rfl (hb hby at_80) rfl ?_
    show Steps p.tables e below (T9.setTop (mkF m 82 #[.val (.int p1), .val (.int p2), .val (.int p3), .val (.int p4), .val (.int nb), .val (.int va), .val (.int vb), .val (.int vc), .val (.ref b5), .val (.int (1 : Int32)), .unset, .unset, .unset] [(.int vc), (.ref b5)])) _
    refine st10.trans ?_
    show Steps p.tables e below (T10.setTop (mkF m 85 #[.val (.int p1), .val (.int p2), .val (.int p3), .val (.int p4), .val (.int nb), .val (.int va), .val (.int vb), .val (.int vc), .val (.ref b5), .val (.int (1 : Int32)), .unset, .unset, .unset] [])) _
    refine XS.iload X10.here hx rfl (hb hby at_85) rfl ?_
    show Steps p.tables e below (T10.setTop (mkF m 87 #[.val (.int p1), .val (.int p2), .val (.int p3), .val (.int p4), .val (.int nb), .val (.int va), .val (.int vb), .val (.int vc), .val (.ref b5), .val (.int (1 : Int32)), .unset, .unset, .unset] [(.int vb)])) _
    refine XS.iload X10.here hx rfl (hb hby at_87) rfl ?_
    show Steps p.tables e below (T10.setTop (mkF m 89 #[.val (.int p1), .val (.int p2), .val (.int p3), .val (.int p4), .val (.int nb), .val (.int va), .val (.int vb), .val (.int vc), .val (.ref b5), .val (.int (1 : Int32)), .unset, .unset, .unset] [(.int va), (.int vb)])) _
    refine XS.icmpNo X10.here hx rfl (hb hby at_89) rfl (feq hc89).1 ?_
    show Steps p.tables e below (T10.setTop (mkF m 92 #[.val (.int p1), .val (.int p2), .val (.int p3), .val (.int p4), .val (.int nb), .val (.int va), .val (.int vb), .val (.int vc), .val (.ref b5), .val (.int (1 : Int32)), .unset, .unset, .unset] [])) _
    refine XS.iload X10.here hx rfl (hb hby at_92) rfl ?_
    show Steps p.tables e below (T10.setTop (mkF m 94 #[.val (.int p1), .val (.int p2), .val (.int p3), .val (.int p4), .val (.int nb), .val (.int va), .val (.int vb), .val (.int vc), .val (.ref b5), .val (.int (1 : Int32)), .unset, .unset, .unset] [(.int vb)])) _
    refine XS.istore X10.here hx rfl (hb hby at_94) rfl (l' := #[.val (.int p1), .val (.int p2), .val (.int p3), .val (.int p4), .val (.int nb), .val (.int va), .val (.int vb), .val (.int vc), .val (.ref b5), .val (.int (1 : Int32)), .unset, .val (.int vb), .unset]) rfl ?_
    show Steps p.tables e below (T10.setTop (mkF m 96 #[.val (.int p1), .val (.int p2), .val (.int p3), .val (.int p4), .val (.int nb), .val (.int va), .val (.int vb), .val (.int vc), .val (.ref b5), .val (.int (1 : Int32)), .unset, .val (.int vb), .unset] [])) _
    refine XS.iload X10.here hx rfl (hb hby at_96) rfl ?_
    show Steps p.tables e below (T10.setTop (mkF m 98 #[.val (.int p1), .val (.int p2), .val (.int p3), .val (.int p4), .val (.int nb), .val (.int va), .val (.int vb), .val (.int vc), .val (.ref b5), .val (.int (1 : Int32)), .unset, .val (.int vb), .unset] [(.int vc)])) _
    refine XS.iload X10.here hx rfl (hb hby at_98) rfl ?_
    show Steps p.tables e below (T10.setTop (mkF m 100 #[.val (.int p1), .val (.int p2), .val (.int p3), .val (.int p4), .val (.int nb), .val (.int va), .val (.int vb), .val (.int vc), .val (.ref b5), .val (.int (1 : Int32)), .unset, .val (.int vb), .unset] [(.int vb), (.int vc)])) _
    refine XS.icmpNo X10.here hx rfl (hb hby at_100) rfl (feq hc100).1 ?_
    show Steps p.tables e below (T10.setTop (mkF m 103 #[.val (.int p1), .val (.int p2), .val (.int p3), .val (.int p4), .val (.int nb), .val (.int va), .val (.int vb), .val (.int vc), .val (.ref b5), .val (.int (1 : Int32)), .unset, .val (.int vb), .unset] [])) _
    refine XS.iconst X10.here hx rfl (hb hby at_103) ?_
    show Steps p.tables e below (T10.setTop (mkF m 104 #[.val (.int p1), .val (.int p2), .val (.int p3), .val (.int p4), .val (.int nb), .val (.int va), .val (.int vb), .val (.int vc), .val (.ref b5), .val (.int (1 : Int32)), .unset, .val (.int vb), .unset] [(.int (2 : Int32))])) _
    refine XS.istore X10.here hx rfl (hb hby at_104) rfl (l' := #[.val (.int p1), .val (.int p2), .val (.int p3), .val (.int p4), .val (.int nb), .val (.int va), .val (.int vb), .val (.int vc), .val (.ref b5), .val (.int (1 : Int32)), .val (.int (2 : Int32)), .val (.int vb), .unset]) rfl ?_
    show Steps p.tables e below (T10.setTop (mkF m 106 #[.val (.int p1), .val (.int p2), .val (.int p3), .val (.int p4), .val (.int nb), .val (.int va), .val (.int vb), .val (.int vc), .val (.ref b5), .val (.int (1 : Int32)), .val (.int (2 : Int32)), .val (.int vb), .unset] [])) _
    refine XS.iload X10.here hx rfl (hb hby at_106) rfl ?_
    show Steps p.tables e below (T10.setTop (mkF m 108 #[.val (.int p1), .val (.int p2), .val (.int p3), .val (.int p4), .val (.int nb), .val (.int va), .val (.int vb), .val (.int vc), .val (.ref b5), .val (.int (1 : Int32)), .val (.int (2 : Int32)), .val (.int vb), .unset] [(.int vc)])) _
    refine XS.istore X10.here hx rfl (hb hby at_108) rfl (l' := #[.val (.int p1), .val (.int p2), .val (.int p3), .val (.int p4), .val (.int nb), .val (.int va), .val (.int vb), .val (.int vc), .val (.ref b5), .val (.int (1 : Int32)), .val (.int (2 : Int32)), .val (.int vb), .val (.int vc)]) rfl ?_
    show Steps p.tables e below (T10.setTop (mkF m 110 #[.val (.int p1), .val (.int p2), .val (.int p3), .val (.int p4), .val (.int nb), .val (.int va), .val (.int vb), .val (.int vc), .val (.ref b5), .val (.int (1 : Int32)), .val (.int (2 : Int32)), .val (.int vb), .val (.int vc)] [])) _
    refine XS.goto X10.here hx rfl (pc0 := 110) (pc' := 132) rfl (hb hby at_110) (by decide) (by decide) ?_
    show Steps p.tables e below (T10.setTop (mkF m 132 #[.val (.int p1), .val (.int p2), .val (.int p3), .val (.int p4), .val (.int nb), .val (.int va), .val (.int vb), .val (.int vc), .val (.ref b5), .val (.int (1 : Int32)), .val (.int (2 : Int32)), .val (.int vb), .val (.int vc)] [])) _
    refine XS.iload X10.here hx rfl (hb hby at_132) rfl ?_
    show Steps p.tables e below (T10.setTop (mkF m 134 #[.val (.int p1), .val (.int p2), .val (.int p3), .val (.int p4), .val (.int nb), .val (.int va), .val (.int vb), .val (.int vc), .val (.ref b5), .val (.int (1 : Int32)), .val (.int (2 : Int32)), .val (.int vb), .val (.int vc)] [(.int (1 : Int32))])) _
    refine XS.ifNo X10.here hx rfl (hb hby at_134) rfl ((if0 _ _).trans (feq hc134).1) ?_
    show Steps p.tables e below (T10.setTop (mkF m 137 #[.val (.int p1), .val (.int p2), .val (.int p3), .val (.int p4), .val (.int nb), .val (.int va), .val (.int vb), .val (.int vc), .val (.ref b5), .val (.int (1 : Int32)), .val (.int (2 : Int32)), .val (.int vb), .val (.int vc)] [])) _
    refine XS.aload X10.here hx rfl (hb hby at_137) rfl rfl ?_
    show Steps p.tables e below (T10.setTop (mkF m 139 #[.val (.int p1), .val (.int p2), .val (.int p3), .val (.int p4), .val (.int nb), .val (.int va), .val (.int vb), .val (.int vc), .val (.ref b5), .val (.int (1 : Int32)), .val (.int (2 : Int32)), .val (.int vb), .val (.int vc)] [(.ref b5)])) _
    refine st11.trans ?_
    show Steps p.tables e below (T11.setTop (mkF m 142 #[.val (.int p1), .val (.int p2), .val (.int p3), .val (.int p4), .val (.int nb), .val (.int va), .val (.int vb), .val (.int vc), .val (.ref b5), .val (.int (1 : Int32)), .val (.int (2 : Int32)), .val (.int vb), .val (.int vc)] [(.int (0 : Int32))])) _
    refine XS.ifNo X11.here hx rfl (hb hby at_142) rfl ((if0 _ _).trans (teq hc142).2) ?_
    show Steps p.tables e below (T11.setTop (mkF m 145 #[.val (.int p1), .val (.int p2), .val (.int p3), .val (.int p4), .val (.int nb), .val (.int va), .val (.int vb), .val (.int vc), .val (.ref b5), .val (.int (1 : Int32)), .val (.int (2 : Int32)), .val (.int vb), .val (.int vc)] [])) _
    refine XS.iconst X11.here hx rfl (hb hby at_145) ?_
    show Steps p.tables e below (T11.setTop (mkF m 146 #[.val (.int p1), .val (.int p2), .val (.int p3), .val (.int p4), .val (.int nb), .val (.int va), .val (.int vb), .val (.int vc), .val (.ref b5), .val (.int (1 : Int32)), .val (.int (2 : Int32)), .val (.int vb), .val (.int vc)] [(.int (1 : Int32))])) _
    refine XS.goto X11.here hx rfl (pc0 := 146) (pc' := 150) rfl (hb hby at_146) (by decide) (by decide) ?_
    show Steps p.tables e below (T11.setTop (mkF m 150 #[.val (.int p1), .val (.int p2), .val (.int p3), .val (.int p4), .val (.int nb), .val (.int va), .val (.int vb), .val (.int vc), .val (.ref b5), .val (.int (1 : Int32)), .val (.int (2 : Int32)), .val (.int vb), .val (.int vc)] [(.int (1 : Int32))])) _
    refine XS.istore X11.here hx rfl (hb hby at_150) rfl (l' := #[.val (.int p1), .val (.int p2), .val (.int p3), .val (.int p4), .val (.int nb), .val (.int va), .val (.int vb), .val (.int vc), .val (.ref b5), .val (.int (1 : Int32)), .val (.int (2 : Int32)), .val (.int vb), .val (.int vc)]) rfl ?_
    show Steps p.tables e below (T11.setTop (mkF m 152 #[.val (.int p1), .val (.int p2), .val (.int p3), .val (.int p4), .val (.int nb), .val (.int va), .val (.int vb), .val (.int vc), .val (.ref b5), .val (.int (1 : Int32)), .val (.int (2 : Int32)), .val (.int vb), .val (.int vc)] [])) _
    refine XS.iload X11.here hx rfl (hb hby at_152) rfl ?_
    show Steps p.tables e below (T11.setTop (mkF m 154 #[.val (.int p1), .val (.int p2), .val (.int p3), .val (.int p4), .val (.int nb), .val (.int va), .val (.int vb), .val (.int vc), .val (.ref b5), .val (.int (1 : Int32)), .val (.int (2 : Int32)), .val (.int vb), .val (.int vc)] [(.int (1 : Int32))])) _
    refine XS.ifNo X11.here hx rfl (hb hby at_154) rfl ((if0 _ _).trans (feq hc154).1) ?_
    show Steps p.tables e below (T11.setTop (mkF m 157 #[.val (.int p1), .val (.int p2), .val (.int p3), .val (.int p4), .val (.int nb), .val (.int va), .val (.int vb), .val (.int vc), .val (.ref b5), .val (.int (1 : Int32)), .val (.int (2 : Int32)), .val (.int vb), .val (.int vc)] [])) _
    refine XS.aload X11.here hx rfl (hb hby at_157) rfl rfl ?_
    show Steps p.tables e below (T11.setTop (mkF m 159 #[.val (.int p1), .val (.int p2), .val (.int p3), .val (.int p4), .val (.int nb), .val (.int va), .val (.int vb), .val (.int vc), .val (.ref b5), .val (.int (1 : Int32)), .val (.int (2 : Int32)), .val (.int vb), .val (.int vc)] [(.ref b5)])) _
    refine st12.trans ?_
    show Steps p.tables e below (T12.setTop (mkF m 162 #[.val (.int p1), .val (.int p2), .val (.int p3), .val (.int p4), .val (.int nb), .val (.int va), .val (.int vb), .val (.int vc), .val (.ref b5), .val (.int (1 : Int32)), .val (.int (2 : Int32)), .val (.int vb), .val (.int vc)] [(.int vb)])) _
    refine XS.iload X12.here hx rfl (hb hby at_162) rfl ?_
    show Steps p.tables e below (T12.setTop (mkF m 164 #[.val (.int p1), .val (.int p2), .val (.int p3), .val (.int p4), .val (.int nb), .val (.int va), .val (.int vb), .val (.int vc), .val (.ref b5), .val (.int (1 : Int32)), .val (.int (2 : Int32)), .val (.int vb), .val (.int vc)] [(.int vb), (.int vb)])) _
    refine XS.icmpNo X12.here hx rfl (hb hby at_164) rfl (teq hc164).2 ?_
    show Steps p.tables e below (T12.setTop (mkF m 167 #[.val (.int p1), .val (.int p2), .val (.int p3), .val (.int p4), .val (.int nb), .val (.int va), .val (.int vb), .val (.int vc), .val (.ref b5), .val (.int (1 : Int32)), .val (.int (2 : Int32)), .val (.int vb), .val (.int vc)] [])) _
    refine XS.iconst X12.here hx rfl (hb hby at_167) ?_
    show Steps p.tables e below (T12.setTop (mkF m 168 #[.val (.int p1), .val (.int p2), .val (.int p3), .val (.int p4), .val (.int nb), .val (.int va), .val (.int vb), .val (.int vc), .val (.ref b5), .val (.int (1 : Int32)), .val (.int (2 : Int32)), .val (.int vb), .val (.int vc)] [(.int (1 : Int32))])) _
    refine XS.goto X12.here hx rfl (pc0 := 168) (pc' := 172) rfl (hb hby at_168) (by decide) (by decide) ?_
    show Steps p.tables e below (T12.setTop (mkF m 172 #[.val (.int p1), .val (.int p2), .val (.int p3), .val (.int p4), .val (.int nb), .val (.int va), .val (.int vb), .val (.int vc), .val (.ref b5), .val (.int (1 : Int32)), .val (.int (2 : Int32)), .val (.int vb), .val (.int vc)] [(.int (1 : Int32))])) _
    refine XS.istore X12.here hx rfl (hb hby at_172) rfl (l' := #[.val (.int p1), .val (.int p2), .val (.int p3), .val (.int p4), .val (.int nb), .val (.int va), .val (.int vb), .val (.int vc), .val (.ref b5), .val (.int (1 : Int32)), .val (.int (2 : Int32)), .val (.int vb), .val (.int vc)]) rfl ?_
    show Steps p.tables e below (T12.setTop (mkF m 174 #[.val (.int p1), .val (.int p2), .val (.int p3), .val (.int p4), .val (.int nb), .val (.int va), .val (.int vb), .val (.int vc), .val (.ref b5), .val (.int (1 : Int32)), .val (.int (2 : Int32)), .val (.int vb), .val (.int vc)] [])) _
    refine XS.iload X12.here hx rfl (hb hby at_174) rfl ?_
    show Steps p.tables e below (T12.setTop (mkF m 176 #[.val (.int p1), .val (.int p2), .val (.int p3), .val (.int p4), .val (.int nb), .val (.int va), .val (.int vb), .val (.int vc), .val (.ref b5), .val (.int (1 : Int32)), .val (.int (2 : Int32)), .val (.int vb), .val (.int vc)] [(.int (2 : Int32))])) _
    refine XS.iconst X12.here hx rfl (hb hby at_176) ?_
    show Steps p.tables e below (T12.setTop (mkF m 177 #[.val (.int p1), .val (.int p2), .val (.int p3), .val (.int p4), .val (.int nb), .val (.int va), .val (.int vb), .val (.int vc), .val (.ref b5), .val (.int (1 : Int32)), .val (.int (2 : Int32)), .val (.int vb), .val (.int vc)] [(.int (2 : Int32)), (.int (2 : Int32))])) _
    refine XS.icmpNo X12.here hx rfl (hb hby at_177) rfl (teq (rfl : (2 : Int32) = (2 : Int32))).2 ?_
    show Steps p.tables e below (T12.setTop (mkF m 180 #[.val (.int p1), .val (.int p2), .val (.int p3), .val (.int p4), .val (.int nb), .val (.int va), .val (.int vb), .val (.int vc), .val (.ref b5), .val (.int (1 : Int32)), .val (.int (2 : Int32)), .val (.int vb), .val (.int vc)] [])) _
    refine XS.iload X12.here hx rfl (hb hby at_180) rfl ?_
    show Steps p.tables e below (T12.setTop (mkF m 182 #[.val (.int p1), .val (.int p2), .val (.int p3), .val (.int p4), .val (.int nb), .val (.int va), .val (.int vb), .val (.int vc), .val (.ref b5), .val (.int (1 : Int32)), .val (.int (2 : Int32)), .val (.int vb), .val (.int vc)] [(.int (1 : Int32))])) _
    refine XS.ifNo X12.here hx rfl (hb hby at_182) rfl ((if0 _ _).trans (feq hc182).1) ?_
    show Steps p.tables e below (T12.setTop (mkF m 185 #[.val (.int p1), .val (.int p2), .val (.int p3), .val (.int p4), .val (.int nb), .val (.int va), .val (.int vb), .val (.int vc), .val (.ref b5), .val (.int (1 : Int32)), .val (.int (2 : Int32)), .val (.int vb), .val (.int vc)] [])) _
    refine XS.aload X12.here hx rfl (hb hby at_185) rfl rfl ?_
    show Steps p.tables e below (T12.setTop (mkF m 187 #[.val (.int p1), .val (.int p2), .val (.int p3), .val (.int p4), .val (.int nb), .val (.int va), .val (.int vb), .val (.int vc), .val (.ref b5), .val (.int (1 : Int32)), .val (.int (2 : Int32)), .val (.int vb), .val (.int vc)] [(.ref b5)])) _
    refine st13.trans ?_
    show Steps p.tables e below (T13.setTop (mkF m 190 #[.val (.int p1), .val (.int p2), .val (.int p3), .val (.int p4), .val (.int nb), .val (.int va), .val (.int vb), .val (.int vc), .val (.ref b5), .val (.int (1 : Int32)), .val (.int (2 : Int32)), .val (.int vb), .val (.int vc)] [(.int vc)])) _
    refine XS.iload X13.here hx rfl (hb hby at_190) rfl ?_
    show Steps p.tables e below (T13.setTop (mkF m 192 #[.val (.int p1), .val (.int p2), .val (.int p3), .val (.int p4), .val (.int nb), .val (.int va), .val (.int vb), .val (.int vc), .val (.ref b5), .val (.int (1 : Int32)), .val (.int (2 : Int32)), .val (.int vb), .val (.int vc)] [(.int vc), (.int vc)])) _
    refine XS.icmpNo X13.here hx rfl (hb hby at_192) rfl (teq hc192).2 ?_
    show Steps p.tables e below (T13.setTop (mkF m 195 #[.val (.int p1), .val (.int p2), .val (.int p3), .val (.int p4), .val (.int nb), .val (.int va), .val (.int vb), .val (.int vc), .val (.ref b5), .val (.int (1 : Int32)), .val (.int (2 : Int32)), .val (.int vb), .val (.int vc)] [])) _
    refine XS.iconst X13.here hx rfl (hb hby at_195) ?_
    show Steps p.tables e below (T13.setTop (mkF m 196 #[.val (.int p1), .val (.int p2), .val (.int p3), .val (.int p4), .val (.int nb), .val (.int va), .val (.int vb), .val (.int vc), .val (.ref b5), .val (.int (1 : Int32)), .val (.int (2 : Int32)), .val (.int vb), .val (.int vc)] [(.int (1 : Int32))])) _
    refine XS.goto X13.here hx rfl (pc0 := 196) (pc' := 200) rfl (hb hby at_196) (by decide) (by decide) ?_
    show Steps p.tables e below (T13.setTop (mkF m 200 #[.val (.int p1), .val (.int p2), .val (.int p3), .val (.int p4), .val (.int nb), .val (.int va), .val (.int vb), .val (.int vc), .val (.ref b5), .val (.int (1 : Int32)), .val (.int (2 : Int32)), .val (.int vb), .val (.int vc)] [(.int (1 : Int32))])) _
    refine XS.istore X13.here hx rfl (hb hby at_200) rfl (l' := #[.val (.int p1), .val (.int p2), .val (.int p3), .val (.int p4), .val (.int nb), .val (.int va), .val (.int vb), .val (.int vc), .val (.ref b5), .val (.int (1 : Int32)), .val (.int (2 : Int32)), .val (.int vb), .val (.int vc)]) rfl ?_
    show Steps p.tables e below (T13.setTop (mkF m 202 #[.val (.int p1), .val (.int p2), .val (.int p3), .val (.int p4), .val (.int nb), .val (.int va), .val (.int vb), .val (.int vc), .val (.ref b5), .val (.int (1 : Int32)), .val (.int (2 : Int32)), .val (.int vb), .val (.int vc)] [])) _
    refine XS.iload X13.here hx rfl (hb hby at_202) rfl ?_
    show Steps p.tables e below (T13.setTop (mkF m 204 #[.val (.int p1), .val (.int p2), .val (.int p3), .val (.int p4), .val (.int nb), .val (.int va), .val (.int vb), .val (.int vc), .val (.ref b5), .val (.int (1 : Int32)), .val (.int (2 : Int32)), .val (.int vb), .val (.int vc)] [(.int (1 : Int32))])) _
    refine XS.ifNo X13.here hx rfl (hb hby at_204) rfl ((if0 _ _).trans (feq hc204).1) ?_
    show Steps p.tables e below (T13.setTop (mkF m 207 #[.val (.int p1), .val (.int p2), .val (.int p3), .val (.int p4), .val (.int nb), .val (.int va), .val (.int vb), .val (.int vc), .val (.ref b5), .val (.int (1 : Int32)), .val (.int (2 : Int32)), .val (.int vb), .val (.int vc)] [])) _
    refine XS.aload X13.here hx rfl (hb hby at_207) rfl rfl ?_
    show Steps p.tables e below (T13.setTop (mkF m 209 #[.val (.int p1), .val (.int p2), .val (.int p3), .val (.int p4), .val (.int nb), .val (.int va), .val (.int vb), .val (.int vc), .val (.ref b5), .val (.int (1 : Int32)), .val (.int (2 : Int32)), .val (.int vb), .val (.int vc)] [(.ref b5)])) _
    refine st14.trans ?_
    show Steps p.tables e below (T14.setTop (mkF m 212 #[.val (.int p1), .val (.int p2), .val (.int p3), .val (.int p4), .val (.int nb), .val (.int va), .val (.int vb), .val (.int vc), .val (.ref b5), .val (.int (1 : Int32)), .val (.int (2 : Int32)), .val (.int vb), .val (.int vc)] [(.int (1 : Int32))])) _
    refine XS.ifNo X14.here hx rfl (hb hby at_212) rfl ((if0 _ _).trans (feq hc212).1) ?_
    show Steps p.tables e below (T14.setTop (mkF m 215 #[.val (.int p1), .val (.int p2), .val (.int p3), .val (.int p4), .val (.int nb), .val (.int va), .val (.int vb), .val (.int vc), .val (.ref b5), .val (.int (1 : Int32)), .val (.int (2 : Int32)), .val (.int vb), .val (.int vc)] [])) _
    refine XS.iconst X14.here hx rfl (hb hby at_215) ?_
    show Steps p.tables e below (T14.setTop (mkF m 216 #[.val (.int p1), .val (.int p2), .val (.int p3), .val (.int p4), .val (.int nb), .val (.int va), .val (.int vb), .val (.int vc), .val (.ref b5), .val (.int (1 : Int32)), .val (.int (2 : Int32)), .val (.int vb), .val (.int vc)] [(.int (1 : Int32))])) _
    refine XS.goto X14.here hx rfl (pc0 := 216) (pc' := 220) rfl (hb hby at_216) (by decide) (by decide) ?_
    show Steps p.tables e below (T14.setTop (mkF m 220 #[.val (.int p1), .val (.int p2), .val (.int p3), .val (.int p4), .val (.int nb), .val (.int va), .val (.int vb), .val (.int vc), .val (.ref b5), .val (.int (1 : Int32)), .val (.int (2 : Int32)), .val (.int vb), .val (.int vc)] [(.int (1 : Int32))])) _
    refine XS.istore X14.here hx rfl (hb hby at_220) rfl (l' := #[.val (.int p1), .val (.int p2), .val (.int p3), .val (.int p4), .val (.int nb), .val (.int va), .val (.int vb), .val (.int vc), .val (.ref b5), .val (.int (1 : Int32)), .val (.int (2 : Int32)), .val (.int vb), .val (.int vc)]) rfl ?_
    show Steps p.tables e below (T14.setTop (mkF m 222 #[.val (.int p1), .val (.int p2), .val (.int p3), .val (.int p4), .val (.int nb), .val (.int va), .val (.int vb), .val (.int vc), .val (.ref b5), .val (.int (1 : Int32)), .val (.int (2 : Int32)), .val (.int vb), .val (.int vc)] [])) _
    refine XS.iload X14.here hx rfl (hb hby at_222) rfl ?_
    show Steps p.tables e below (T14.setTop (mkF m 224 #[.val (.int p1), .val (.int p2), .val (.int p3), .val (.int p4), .val (.int nb), .val (.int va), .val (.int vb), .val (.int vc), .val (.ref b5), .val (.int (1 : Int32)), .val (.int (2 : Int32)), .val (.int vb), .val (.int vc)] [(.int (1 : Int32))])) _
    exact retN X14 hx (t := .boolean) Bd.returns (by simp) (hb hby at_224) hr
  · show Q0 Z p1 p2 p3 p4 h0 n0 _ T14.heap _
    exact ⟨rfl, N14⟩
-- 5. FROM THE CASE'S WORDS TO rm0, AND THE OWED THEOREMS
set_option maxRecDepth 65536 in
set_option maxHeartbeats 40000000 in
theorem comes_1 {Post : Tables → Env → Array Value → State → Outcome → State → Prop} (hpost : ∀ tb e args s v u, (limb_1_1.after args s (.returned v) u = true ∧ limb_1_2.after args s (.returned v) u = true ∧ True) → FrameEnd s (.returned v) u (Jvm.fieldLocs frame_1_writes args s ++ Jvm.arrayLocs frame_1_arrays args s ++ Jvm.staticLocs frame_1_statics s) 16 128 → Post tb e args s (.returned v) u) :
    ArmFor flags0 classFile x code maxLocals ret World_1 tables_1 room_1 Calls_1 rest_1 Pre_1 Post := by
  intro l hfl _ _ p e ha hc hk s m args below hf hA hF happ hP
  obtain ⟨hcalls, hrest, hpre⟩ := hP
  obtain ⟨-, -, -, hnamed, -, -, -, hat⟩ := (Spec.applies_iff hf).mp happ
  obtain ⟨hg, hn⟩ := and_e (Cond.before_iff.mp (show (Jvm.Cond.and given_1 narrow_1).before args s = true from hpre))
  obtain ⟨g14, g15⟩ := and_e hg
  obtain ⟨g16, g17⟩ := and_e g15
  obtain ⟨g18, g19⟩ := and_e g17
  obtain ⟨g20, g21⟩ := and_e g19
  obtain ⟨w0, w1, w2, w3, rfl⟩ : ∃ w0 w1 w2 w3 : Value, args = #[w0, w1, w2, w3] := by
    have hs : args.size = 4 := by simpa [Cond.value, given_1] using g14
    obtain ⟨L⟩ := args
    match L, hs with
    | [w0, w1, w2, w3], _ => exact ⟨w0, w1, w2, w3, rfl⟩
  have hw := fun d (hd : d ∈ tables_1) => atoms_spec (ws := Jvm.Cond.code x code maxLocals ret :: tables_1) hat d (List.mem_cons_of_mem _ hd)
  have hfit : Fit s := fun {y c} hc i hi => by
    obtain ⟨ha, rfl⟩ := Array.getElem?_eq_some_iff.mp hc
    have q := List.all_eq_true.mp ((Array.all_eq_true_iff_forall_mem.mp hF) _ (Array.getElem_mem ha)) i (List.mem_range.mpr hi)
    simpa [Array.getElem?_eq_getElem hi] using q
  obtain ⟨i0, ei0⟩ := is_v g16
  obtain rfl : w0 = (.int i0) := Option.some.inj ei0
  obtain ⟨i1, ei1⟩ := is_v g18
  obtain rfl : w1 = (.int i1) := Option.some.inj ei1
  obtain ⟨i2, ei2⟩ := is_v g20
  obtain rfl : w2 = (.int i2) := Option.some.inj ei2
  obtain ⟨i3, ei3⟩ := is_v g21
  obtain rfl : w3 = (.int i3) := Option.some.inj ei3
  have nbr := own_nb i0
  have hz : ¬ (((1 : Int32) + (i0 &&& (7 : Int32))) = (0 : Int32)) := fun q => by rw [q, show (0 : Int32).toInt = 0 from rfl] at nbr; omega
  have hn3 : ¬ (((1 : Int32) + (i0 &&& (7 : Int32))) < 0) := by rw [Int32.lt_iff_toInt_lt, show (0 : Int32).toInt = 0 from rfl]; omega
  have hcap3 : (((1 : Int32) + (i0 &&& (7 : Int32)))).toNatClampNeg ≤ 8 := by show (((1 : Int32) + (i0 &&& (7 : Int32)))).toInt.toNat ≤ 8; omega
  have ra := own_in i1 _ nbr.1
  have rb := own_in i2 _ nbr.1
  have rc := own_in i3 _ nbr.1
  have d1 : ¬ ((1 : Int32) = (0 : Int32)) := by decide
  have d2 : ¬ ((1 : Int32) = (2 : Int32)) := by decide
  by_cases hba : ((i2 &&& (2147483647 : Int32)) - ((i2 &&& (2147483647 : Int32)) / ((1 : Int32) + (i0 &&& (7 : Int32)))) * ((1 : Int32) + (i0 &&& (7 : Int32)))) = ((i1 &&& (2147483647 : Int32)) - ((i1 &&& (2147483647 : Int32)) / ((1 : Int32) + (i0 &&& (7 : Int32)))) * ((1 : Int32) + (i0 &&& (7 : Int32))))
  · obtain ⟨n, o, h1, h2, h3, _, L, rfl, ⟨rfl, N⟩, hq⟩ := rm0_1 l s _ hw tables_1 i0 i1 i2 i3 _ _ _ _ rfl rfl rfl rfl s.heap s.heap.size (Nat.le_refl _) hz hz hz rfl hba d1 rfl d1 rfl d2 d1 d1 hn3 hcap3 ra rb rc hba p e ha hc hk s m _ below hf ((Spec.applies_iff_loose hf).mp happ).1 ⟨rfl, State.Warmed39.refl s, rfl⟩ trivial
    refine ⟨n, _, h1, h2, h3, hpost _ _ _ _ _ _ ⟨Cond.after_iff.mpr rfl, Cond.after_iff.mpr (eq_i res_at (Term.int_eval (1)) rfl), trivial⟩ ⟨hq.1, hq.2.1, (hq.2.2.sift fun y hy => Or.inr (N y hy)).mono (by decide) (by decide)⟩⟩
  · by_cases hcb : ((i3 &&& (2147483647 : Int32)) - ((i3 &&& (2147483647 : Int32)) / ((1 : Int32) + (i0 &&& (7 : Int32)))) * ((1 : Int32) + (i0 &&& (7 : Int32)))) = ((i2 &&& (2147483647 : Int32)) - ((i2 &&& (2147483647 : Int32)) / ((1 : Int32) + (i0 &&& (7 : Int32)))) * ((1 : Int32) + (i0 &&& (7 : Int32))))
    · obtain ⟨n, o, h1, h2, h3, _, L, rfl, ⟨rfl, N⟩, hq⟩ := rm0_2 l s _ hw tables_1 i0 i1 i2 i3 _ _ _ _ rfl rfl rfl rfl s.heap s.heap.size (Nat.le_refl _) hz hz hz rfl hba hcb d1 rfl d1 rfl d2 d1 d1 hn3 hcap3 ra rb rc hba hcb p e ha hc hk s m _ below hf ((Spec.applies_iff_loose hf).mp happ).1 ⟨rfl, State.Warmed39.refl s, rfl⟩ trivial
      refine ⟨n, _, h1, h2, h3, hpost _ _ _ _ _ _ ⟨Cond.after_iff.mpr rfl, Cond.after_iff.mpr (eq_i res_at (Term.int_eval (1)) rfl), trivial⟩ ⟨hq.1, hq.2.1, (hq.2.2.sift fun y hy => Or.inr (N y hy)).mono (by decide) (by decide)⟩⟩
    · obtain ⟨n, o, h1, h2, h3, _, L, rfl, ⟨rfl, N⟩, hq⟩ := rm0_3 l s _ hw tables_1 i0 i1 i2 i3 _ _ _ _ rfl rfl rfl rfl s.heap s.heap.size (Nat.le_refl _) hz hz hz rfl hba hcb d1 rfl d1 rfl d1 rfl d1 d1 hn3 hcap3 ra rb rc hba hcb p e ha hc hk s m _ below hf ((Spec.applies_iff_loose hf).mp happ).1 ⟨rfl, State.Warmed39.refl s, rfl⟩ trivial
      refine ⟨n, _, h1, h2, h3, hpost _ _ _ _ _ _ ⟨Cond.after_iff.mpr rfl, Cond.after_iff.mpr (eq_i res_at (Term.int_eval (1)) rfl), trivial⟩ ⟨hq.1, hq.2.1, (hq.2.2.sift fun y hy => Or.inr (N y hy)).mono (by decide) (by decide)⟩⟩
theorem main_1_1 : Claimed_1_1 := comes_1 fun _ _ _ _ _ _ h hF => ⟨h.1, hF⟩
theorem main_1_2 : Claimed_1_2 := comes_1 fun _ _ _ _ _ _ h hF => ⟨h.2.1, hF⟩
end Jvm.Pilot.@@N@@
namespace Jvm.Pilot.@@N@@
open Jvm Jvm.ClassFile Sem Op Lib Jvm.Free Jvm.Stand Jvm.Pilot.@@N@@.Jvm.D
/-! MADE BY PROGRAM (witnessworld.py) out of the Statement's table words and the real class files: 11 classes; the members and pool entries that the words name. The judged class is class 1, her method 1. -/
namespace start1
open Jvm.ClassFile
def u (s : String) : CpInfo := .utf8 (stringToUtf16 s)
/-- a pool by its gaps: so many unusable entries, then the entry; so many at the end -/
def gap : Nat → List CpInfo → List CpInfo
  | 0, r => r
  | n + 1, r => .unusable :: gap n r
def poolList (es : List (Nat × CpInfo)) (last : Nat) : List CpInfo := es.foldr (fun e r => gap e.1 (e.2 :: r)) (gap last [])
def pool (es : List (Nat × CpInfo)) (last : Nat) : Array CpInfo := ⟨poolList es last⟩
def fileOf (pool : Array CpInfo) (this : Nat) (attrs : Array Attribute := #[]) (ms : Array MethodInfo := #[]) (fl : Nat := 33) (sup : Nat := 0) (ifs : Array Nat := #[]) (fds : Array FieldInfo := #[]) : ClassFile where
  minorVersion := 0
  majorVersion := 65
  constantPool := pool
  accessFlags := fl
  thisClass := this
  superClass := sup
  interfaces := ifs
  fields := fds
  methods := ms
  attributes := attrs
def plain (name : String) (sup : Option ClassId) : Class where
  name := name
  kind := .ordinary
  loader := none
  accessFlags := 33
  super := sup
  interfaces := #[]
  cf := none
  fields := #[]
  methods := #[]
  instanceTypes := #[]
  staticTypes := #[]
  resolved := #[]
  callSites := []
  init := .initialized
  statics := none
  mirror := none

def pool0 : Array CpInfo := pool [(5, u "<init>"), (0, u "()V"), (1, .class_ 10), (1, u "java/lang/Object")] 113

def k0c0 : Code := { maxStack := 0, maxLocals := 1, code := object_method_1_code, exceptionTable := #[], attributes := #[] }
def k0m0 : Method := { name := "<init>", desc := "()V", sig := { parameters := [], returnType := none }, accessFlags := 1, code := some k0c0 }
/-- java/lang/Object -/
def k0 : Class := { plain "java/lang/Object" none with
  accessFlags := 33
  interfaces := #[]
  cf := some (fileOf pool0 8 #[] #[{ accessFlags := 1, nameIndex := 5, descriptorIndex := 6, attributes := #[] }] 33 0 #[] #[])
  fields := #[]
  methods := #[k0m0]
  instanceTypes := #[]
  staticTypes := #[]
  resolved := Array.replicate 124 none
  statics := none }

def pool1 : Array CpInfo := pool [(2, .class_ 4), (1, u "java/lang/Object"), (0, u "<init>"), (0, u "()V"), (0, .integer 2147483647), (0, .class_ 9), (0, u "com/example/weftmap/weftmap/engine/place/IndexQueue"), (0, .methodref 8 11), (0, .nameAndType 5 12), (0, u "(II)V"), (0, .methodref 8 14), (0, .nameAndType 15 16), (0, u "add"), (0, u "(I)V"), (0, .methodref 8 18), (0, .nameAndType 19 20), (0, u "poll"), (0, u "()I"), (0, .methodref 8 22), (0, .nameAndType 23 24), (0, u "isEmpty"), (0, u "()Z"), (0, .class_ 26), (0, u "com/example/weftmap/weftmap/engine/place/IndexQueueAddPinLaw"), (2, u "law"), (0, u "(IIII)Z")] 3

def k1m0 : Method := { name := "<init>", desc := "()V", sig := { parameters := [], returnType := none }, accessFlags := 1, code := none }
def k1c1 : Code := { maxStack := 4, maxLocals := 13, code := code, exceptionTable := #[], attributes := #[] }
def k1m1 : Method := { name := "law", desc := "(IIII)Z", sig := { parameters := [.int, .int, .int, .int], returnType := some .boolean }, accessFlags := 9, code := some k1c1 }
/-- com/example/weftmap/weftmap/engine/place/IndexQueueAddPinLaw -/
def k1 : Class := { plain "com/example/weftmap/weftmap/engine/place/IndexQueueAddPinLaw" (some 0) with
  accessFlags := 49
  interfaces := #[]
  cf := some (fileOf pool1 25 #[] #[{ accessFlags := 1, nameIndex := 5, descriptorIndex := 6, attributes := #[] }, { accessFlags := 9, nameIndex := 29, descriptorIndex := 30, attributes := #[] }] 49 2 #[] #[])
  fields := #[]
  methods := #[k1m0, k1m1]
  instanceTypes := #[]
  staticTypes := #[]
  resolved := Array.replicate 34 none
  statics := none }

def pool2 : Array CpInfo := pool [(2, .class_ 4), (1, u "com/example/weftmap/weftmap/engine/place/IndexQueue"), (0, u "<init>"), (0, u "(II)V"), (0, .methodref 8 9), (0, .class_ 10), (0, .nameAndType 5 11), (0, u "java/lang/Object"), (0, u "()V"), (0, .fieldref 2 13), (0, .nameAndType 14 15), (0, u "items"), (0, u "[I"), (0, .fieldref 2 17), (0, .nameAndType 18 19), (0, u "queued"), (0, u "[Z"), (0, .fieldref 2 21), (0, .nameAndType 22 23), (0, u "size"), (0, u "I"), (0, .fieldref 2 25), (0, .nameAndType 26 23), (0, u "head"), (2, u "poll"), (0, u "()I"), (0, u "(I)V"), (2, u "isEmpty"), (0, u "()Z"), (1, u "add")] 4

def k2c0 : Code := { maxStack := 2, maxLocals := 3, code := prog_59_method_2_code, exceptionTable := #[], attributes := #[] }
def k2m0 : Method := { name := "<init>", desc := "(II)V", sig := { parameters := [.int, .int], returnType := none }, accessFlags := 0, code := some k2c0 }
def k2c1 : Code := { maxStack := 1, maxLocals := 1, code := prog_59_method_3_code, exceptionTable := #[], attributes := #[] }
def k2m1 : Method := { name := "isEmpty", desc := "()Z", sig := { parameters := [], returnType := some .boolean }, accessFlags := 0, code := some k2c1 }
def k2c2 : Code := { maxStack := 3, maxLocals := 3, code := prog_59_method_4_code, exceptionTable := #[], attributes := #[] }
def k2m2 : Method := { name := "add", desc := "(I)V", sig := { parameters := [.int], returnType := none }, accessFlags := 0, code := some k2c2 }
def k2c3 : Code := { maxStack := 3, maxLocals := 2, code := prog_59_method_5_code, exceptionTable := #[], attributes := #[] }
def k2m3 : Method := { name := "poll", desc := "()I", sig := { parameters := [], returnType := some .int }, accessFlags := 0, code := some k2c3 }
/-- com/example/weftmap/weftmap/engine/place/IndexQueue -/
def k2 : Class := { plain "com/example/weftmap/weftmap/engine/place/IndexQueue" (some 0) with
  accessFlags := 48
  interfaces := #[]
  cf := some (fileOf pool2 2 #[] #[{ accessFlags := 0, nameIndex := 5, descriptorIndex := 6, attributes := #[] }, { accessFlags := 0, nameIndex := 34, descriptorIndex := 35, attributes := #[] }, { accessFlags := 0, nameIndex := 37, descriptorIndex := 31, attributes := #[] }, { accessFlags := 0, nameIndex := 29, descriptorIndex := 30, attributes := #[] }] 48 8 #[] #[{ accessFlags := 18, nameIndex := 14, descriptorIndex := 15, attributes := #[] }, { accessFlags := 18, nameIndex := 18, descriptorIndex := 19, attributes := #[] }, { accessFlags := 2, nameIndex := 26, descriptorIndex := 23, attributes := #[] }, { accessFlags := 2, nameIndex := 22, descriptorIndex := 23, attributes := #[] }])
  fields := #[{ name := "items", type := (.array .int), accessFlags := 18, slot := 0, constantValue := 0 }, { name := "queued", type := (.array .boolean), accessFlags := 18, slot := 1, constantValue := 0 }, { name := "head", type := .int, accessFlags := 2, slot := 2, constantValue := 0 }, { name := "size", type := .int, accessFlags := 2, slot := 3, constantValue := 0 }]
  methods := #[k2m0, k2m1, k2m2, k2m3]
  instanceTypes := #[(.array .int), (.array .boolean), .int, .int]
  staticTypes := #[]
  resolved := Array.replicate 42 none
  statics := none }

def pool3 : Array CpInfo := pool [(1, u "java/lang/Cloneable"), (0, .class_ 1), (0, u "java/lang/Object"), (0, .class_ 3)] 3

/-- java/lang/Cloneable -/
def k3 : Class := { plain "java/lang/Cloneable" (some 0) with
  accessFlags := 1537
  interfaces := #[]
  cf := some (fileOf pool3 2 #[] #[] 1537 4 #[] #[])
  fields := #[]
  methods := #[]
  instanceTypes := #[]
  staticTypes := #[]
  resolved := Array.replicate 8 none
  statics := none }

def pool4 : Array CpInfo := pool [(1, u "java/io/Serializable"), (0, .class_ 1), (0, u "java/lang/Object"), (0, .class_ 3)] 3

/-- java/io/Serializable -/
def k4 : Class := { plain "java/io/Serializable" (some 0) with
  accessFlags := 1537
  interfaces := #[]
  cf := some (fileOf pool4 2 #[] #[] 1537 4 #[] #[])
  fields := #[]
  methods := #[]
  instanceTypes := #[]
  staticTypes := #[]
  resolved := Array.replicate 8 none
  statics := none }

/-- the primitive boolean -/
def k5 : Class := { plain "boolean" none with kind := .primitive 'Z', accessFlags := 0x411 }
/-- [Z -/
def k6 : Class := { plain "[Z" (some 0) with kind := .array 5 .boolean, interfaces := #[3, 4], accessFlags := 1041 }

/-- the primitive byte -/
def k7 : Class := { plain "byte" none with kind := .primitive 'B', accessFlags := 0x411 }
/-- [B -/
def k8 : Class := { plain "[B" (some 0) with kind := .array 7 .byte, interfaces := #[3, 4], accessFlags := 1041 }

/-- the primitive int -/
def k9 : Class := { plain "int" none with kind := .primitive 'I', accessFlags := 0x411 }
/-- [I -/
def k10 : Class := { plain "[I" (some 0) with kind := .array 9 .int, interfaces := #[3, 4], accessFlags := 1041 }

def heap : Heap := #[]
def classes : Array Class := #[k0, k1, k2, k3, k4, k5, k6, k7, k8, k9, k10]
def interned : List (Array UInt16 × Addr) := []
def slotsUsed : Nat := 0
def theMethod : MethodId := ⟨1, 1⟩
def args0 : Array Value := #[.int 5, .int 300, .int 7, .int 9]
def aboutOver (below : List Frame) : State where
  vm := { classes := classes, interned := interned.toArray }
  heap := heap
  slotsUsed := slotsUsed
  threads := #[{ frames := .invoking theMethod args0 :: below }]
def below0 : List Frame := [.native { method := ⟨0, 0⟩, args := #[] }]
def about1 : State := aboutOver below0
def p0 : Program := .bare "" "" ""
def e0 : Env := launch0.env 0 0 0
theorem w_frames : about1.frames = Frame.invoking theMethod args0 :: below0 := rfl
set_option maxRecDepth 65536 in
theorem w_args : argsFit about1.vm theMethod args0 = true := by decide +kernel
set_option maxRecDepth 65536 in
theorem w_heap : heapFits about1 = true := by decide +kernel
set_option maxRecDepth 65536 in
theorem w_runnable : about1.curStatus? = some .runnable := by decide +kernel
set_option maxRecDepth 65536 in
theorem w_alone : about1.alone = true := by decide +kernel
set_option maxRecDepth 65536 in
theorem w_named : about1.methodNamed? x = some theMethod := by decide +kernel
set_option maxRecDepth 65536 in
theorem w_hears : about1.hears theMethod below0 = true := by decide +kernel
set_option maxRecDepth 65536 in
theorem w_ripe : about1.ripe theMethod args0 below0 = true := by decide +kernel
theorem w_running : about1.status = .running := rfl
set_option maxRecDepth 65536 in
theorem w_room : about1.hasRoom e0.platform room_1 = true :=
  launch0.hasRoom_least _ room_1 (by decide +kernel) (by decide +kernel) (by decide +kernel) (by decide +kernel) (by decide +kernel) (by decide +kernel)
theorem allAtoms_all (ts : List Jvm.Cond) (a : Array Jvm.Value) (st : Jvm.State) : (allAtoms ts).before a st = ts.all (fun c => c.before a st) := by
  induction ts with
  | nil => rfl
  | cons c t ih =>
    show (Jvm.Cond.and c (allAtoms t)).before a st = _
    rw [Jvm.Cond.before_and, ih, List.all_cons]
def words1 : List Jvm.Cond := Jvm.Cond.code x code maxLocals ret :: tables_1
/-- a 'code' word, met by the world's own term for the bytes: nothing is compared byte by byte -/
theorem code_word {y : MethodName} {bytes : ByteArray} {mx : Nat} {rt : Option FieldType} {a : Array Value} {s : State} {m : MethodId} {meth : Method} {c : Code} (h1 : s.methodNamed? y = some m) (h2 : s.vm.method? m = some meth) (h3 : meth.code = some c) (h4 : c.code = bytes)
    (h5 : (c.maxLocals == mx && c.exceptionTable.isEmpty && decide (c.maxStack ≤ mostOperands) && decide (meth.sig.returnType = rt) && !meth.locks && decide (parseMethodDescriptor y.desc = some meth.sig)) = true) : (Jvm.Cond.code y bytes mx rt).before a s = true := by
  simp only [Bool.and_eq_true, beq_iff_eq, Bool.not_eq_true', decide_eq_true_eq] at h5
  obtain ⟨⟨⟨⟨⟨g1, g2⟩, g3⟩, g4⟩, g5⟩, g6⟩ := h5
  simp [Cond.before, Cond.holds, Cond.value, h1, h2, h3, h4, g1, g2, g3, g4, g5, g6]
def isCode : Jvm.Cond → Bool
  | .code _ _ _ _ => true
  | _ => false
theorem all_split {L : List Jvm.Cond} {P : Jvm.Cond → Bool} (h1 : L.all (fun c => isCode c || P c) = true) (h2 : ∀ c ∈ L.filter isCode, P c = true) : L.all P = true := by
  refine List.all_eq_true.mpr fun c hc => ?_
  have h := List.all_eq_true.mp h1 c hc
  rcases Bool.eq_false_or_eq_true (isCode c) with hi | hi
  · exact h2 c (List.mem_filter.mpr ⟨hc, hi⟩)
  · simpa [hi] using h
set_option maxRecDepth 65536 in
theorem w_c0 : (Jvm.Cond.code x code maxLocals ret).before args0 about1 = true := code_word (m := ⟨1, 1⟩) (meth := k1m1) (c := k1c1) (by decide +kernel) rfl rfl rfl (by decide +kernel)
set_option maxRecDepth 65536 in
theorem w_c1 : (Jvm.Cond.code ({ cls := "com/example/weftmap/weftmap/engine/place/IndexQueue", name := "<init>", desc := "(II)V" } : Jvm.MethodName) prog_59_method_2_code (3 : Nat) (Option.none : Option Jvm.ClassFile.FieldType)).before args0 about1 = true := code_word (m := ⟨2, 0⟩) (meth := k2m0) (c := k2c0) (by decide +kernel) rfl rfl rfl (by decide +kernel)
set_option maxRecDepth 65536 in
theorem w_c2 : (Jvm.Cond.code ({ cls := "java/lang/Object", name := "<init>", desc := "()V" } : Jvm.MethodName) object_method_1_code (1 : Nat) (Option.none : Option Jvm.ClassFile.FieldType)).before args0 about1 = true := code_word (m := ⟨0, 0⟩) (meth := k0m0) (c := k0c0) (by decide +kernel) rfl rfl rfl (by decide +kernel)
set_option maxRecDepth 65536 in
theorem w_c3 : (Jvm.Cond.code ({ cls := "com/example/weftmap/weftmap/engine/place/IndexQueue", name := "add", desc := "(I)V" } : Jvm.MethodName) prog_59_method_4_code (3 : Nat) (Option.none : Option Jvm.ClassFile.FieldType)).before args0 about1 = true := code_word (m := ⟨2, 2⟩) (meth := k2m2) (c := k2c2) (by decide +kernel) rfl rfl rfl (by decide +kernel)
set_option maxRecDepth 65536 in
theorem w_c4 : (Jvm.Cond.code ({ cls := "com/example/weftmap/weftmap/engine/place/IndexQueue", name := "poll", desc := "()I" } : Jvm.MethodName) prog_59_method_5_code (2 : Nat) (Option.some Jvm.ClassFile.FieldType.int)).before args0 about1 = true := code_word (m := ⟨2, 3⟩) (meth := k2m3) (c := k2c3) (by decide +kernel) rfl rfl rfl (by decide +kernel)
set_option maxRecDepth 65536 in
theorem w_c5 : (Jvm.Cond.code ({ cls := "com/example/weftmap/weftmap/engine/place/IndexQueue", name := "isEmpty", desc := "()Z" } : Jvm.MethodName) prog_59_method_3_code (1 : Nat) (Option.some Jvm.ClassFile.FieldType.boolean)).before args0 about1 = true := code_word (m := ⟨2, 1⟩) (meth := k2m1) (c := k2c1) (by decide +kernel) rfl rfl rfl (by decide +kernel)
def codes1 : List Jvm.Cond := [Jvm.Cond.code x code maxLocals ret, Jvm.Cond.code ({ cls := "com/example/weftmap/weftmap/engine/place/IndexQueue", name := "<init>", desc := "(II)V" } : Jvm.MethodName) prog_59_method_2_code (3 : Nat) (Option.none : Option Jvm.ClassFile.FieldType), Jvm.Cond.code ({ cls := "java/lang/Object", name := "<init>", desc := "()V" } : Jvm.MethodName) object_method_1_code (1 : Nat) (Option.none : Option Jvm.ClassFile.FieldType), Jvm.Cond.code ({ cls := "com/example/weftmap/weftmap/engine/place/IndexQueue", name := "add", desc := "(I)V" } : Jvm.MethodName) prog_59_method_4_code (3 : Nat) (Option.none : Option Jvm.ClassFile.FieldType), Jvm.Cond.code ({ cls := "com/example/weftmap/weftmap/engine/place/IndexQueue", name := "poll", desc := "()I" } : Jvm.MethodName) prog_59_method_5_code (2 : Nat) (Option.some Jvm.ClassFile.FieldType.int), Jvm.Cond.code ({ cls := "com/example/weftmap/weftmap/engine/place/IndexQueue", name := "isEmpty", desc := "()Z" } : Jvm.MethodName) prog_59_method_3_code (1 : Nat) (Option.some Jvm.ClassFile.FieldType.boolean)]
set_option maxRecDepth 65536 in
theorem codes_eq : words1.filter isCode = codes1 := rfl
theorem w_codes : ∀ c ∈ words1.filter isCode, c.before args0 about1 = true := by
  rw [codes_eq]
  intro c hc
  simp only [codes1, List.mem_cons, List.not_mem_nil, or_false] at hc
  rcases hc with rfl | rfl | rfl | rfl | rfl | rfl
  · exact w_c0
  · exact w_c1
  · exact w_c2
  · exact w_c3
  · exact w_c4
  · exact w_c5
set_option maxRecDepth 65536 in
theorem w_t1 : (words1.take 24).all (fun c => isCode c || c.before args0 about1) = true := by decide +kernel
set_option maxRecDepth 65536 in
theorem w_t2 : (words1.drop 24).all (fun c => isCode c || c.before args0 about1) = true := by decide +kernel
theorem w_tables : (allAtoms (Jvm.Cond.code x code maxLocals ret :: tables_1)).before args0 about1 = true := by
  rw [allAtoms_all]
  show words1.all (fun c => c.before args0 about1) = true
  refine all_split ?_ w_codes
  rw [← List.take_append_drop 24 words1, List.all_append, w_t1, w_t2]
  rfl
set_option maxRecDepth 65536 in
theorem w_case : (Jvm.Cond.and given_1 narrow_1).before args0 about1 = true := by decide +kernel
theorem w_applies : (headSpec (Jvm.Cond.code x code maxLocals ret :: tables_1) room_1).applies x e0.platform about1 = true :=
  (Spec.applies_iff w_frames).mpr ⟨w_running, w_runnable, w_alone, w_named, w_hears, w_ripe, w_room, w_tables⟩
theorem atStart : AtStart classFile x code maxLocals ret World_1 tables_1 room_1 Calls_1 rest_1 Pre_1 launch0 p0 e0 about1 theMethod args0 below0 :=
  ⟨lists_1, trivial, launch0.admits_env _ _ _, launch0.least_env, fairChoices_fair.cas, fairChoices_fair.clock, w_frames, w_args, w_heap, w_applies, trivial, trivial, w_case⟩
end start1
theorem witness_1 : WitnessClaimed_1 := ⟨start1.p0, start1.e0, start1.about1, start1.theMethod, start1.args0, start1.below0, start1.atStart⟩
end Jvm.Pilot.@@N@@
