import JvmDerived
import JvmDerived.Pilot.@@N@@Statement
import JvmDerived.Pilot.@@N@@Code
set_option linter.unusedVariables false
set_option linter.unusedSimpArgs false
namespace Jvm.RoadKit
open Sem ClassFile Op Lib Jvm.Stand Jvm.Free Jvm.LawKit
section New
variable {p : Program} {l : Launch} {e : Env} {R : Room} {s : State} {m : MethodId} {args : Array Value} {below : List Frame} {meth : Method} {c : Code} {T : State} {locs : List Loc} {cells slots : Nat}
theorem retI (X : Stand p l e R s m args below meth c T locs cells slots) (hx : p.tables.exec = Jvm.exec) {pc : Nat} {Ls : Array Slot} {z : Int32} {rest : List Value} (hret : meth.sig.returnType = some .int) (hd : decode c.code pc = .ok (.ireturn, 1)) {fs : List Frame}
    (hl : ∀ (f : JFrame) (acts : List Action), f.method = m → f.locked = none → f.entered = [] → (doReturn e (T.setTop f) acts (some (.int z))).1 = T.setFrames fs) : Steps p.tables e below (T.setTop (mkF m pc Ls (.int z :: rest))) (T.setFrames fs) := by
  have hm' : T.vm.method? m = some meth := X.method'
  have hn : narrow .int (.int z) = .int z := rfl
  show Steps p.tables e below (T.setTop { method := m, pc := pc, locals := Ls, stack := _ :: rest, locked := none }) _
  jvm_step X.here [X.here.top, hx, hd, hm', hret, hn]
  first | (intro acts; rw [hl _ acts rfl rfl rfl]) | rw [hl _ _ rfl rfl rfl]
  exact Steps.refl _
end New
end Jvm.RoadKit
namespace Jvm.Pilot.@@N@@
open Jvm Jvm.ClassFile Sem Op Lib Jvm.Free Jvm.Stand Jvm.LawKit Jvm.RoadKit Bundle Jvm.Pilot.@@N@@.Jvm.D

/-! the plain law: parity -/
def own_fl (w : Int32) : Int32 := if w &&& 1 = 0 then 0 else 1
theorem own_low (w : Int32) : (w &&& 1).toInt = w.toInt % 2 := c_mask w 1 1 (by decide) (by decide)
theorem own_zero (w : Int32) : w &&& 1 = 0 ↔ w.toInt % 2 = 0 := by
  rw [← own_low, ← Int32.toInt_inj, Int32.toInt_zero]
theorem own_fl1 (w : Int32) : own_fl w = 1 ↔ w.toInt % 2 = 1 := by
  unfold own_fl
  by_cases h : w &&& 1 = 0
  · have := (own_zero w).mp h
    simp only [h, if_true]
    constructor
    · intro h'; exact absurd h' (by decide)
    · intro h'; omega
  · have := mt (own_zero w).mpr h
    simp only [h, if_false]
    constructor
    · intro _; omega
    · intro _; first | rfl | trivial
theorem own_fl0 (w : Int32) : own_fl w = 0 ↔ w.toInt % 2 = 0 := by
  unfold own_fl
  by_cases h : w &&& 1 = 0
  · have := (own_zero w).mp h
    simp only [h, if_true, this]
  · have := mt (own_zero w).mpr h
    simp only [h, if_false]
    constructor
    · intro h'; exact absurd h' (by decide)
    · intro h'; exact absurd h' this
theorem own_even (q : Int32) : (q &&& 254).toInt % 2 = 0 := by
  rw [← own_low, Int32.and_assoc]
  have h : (254 : Int32) &&& 1 = 0 := by decide
  rw [h, Int32.and_zero, Int32.toInt_zero]
theorem own_par (a : Int32) : ((a &&& 255) - (2 * ((a &&& 255) / 2)) = 1) ↔ (a &&& 255).toInt % 2 = 1 := by
  have e : (a &&& 255).toInt = a.toInt % (2 ^ 8 : Nat) := c_mask a 255 8 (by decide) (by decide)
  have h0 : 0 ≤ (a &&& 255).toInt := by omega
  have h1 : (a &&& 255).toInt < 256 := by omega
  generalize (a &&& 255) = f at *
  have d : (f / 2).toInt = f.toInt / 2 := (c_idiv f 2 2 (by decide) (by decide)).1 h0
  have m := c_imul 2 (f / 2)
  have c2 : (2 : Int32).toInt = 2 := by decide
  have c1 : (1 : Int32).toInt = 1 := by decide
  rw [c2, d] at m
  have r1 := rng32 (2 * (f / 2))
  have m2 : (2 * (f / 2)).toInt = 2 * (f.toInt / 2) := by omega
  have sb := c_isub f (2 * (f / 2))
  have r2 := rng32 (f - 2 * (f / 2))
  rw [← Int32.toInt_inj, c1]
  omega
theorem own_o (a b : Int32) : ((a &&& 255) ^^^ (b &&& 254)).toInt % 2 = (a &&& 255).toInt % 2 := by
  rw [c_xor2]
  have := own_even b
  omega
theorem own_t (a : Int32) : ((a &&& 255) ^^^ 1).toInt % 2 = ((a &&& 255).toInt + 1) % 2 := by
  rw [c_xor2]
  have c1 : (1 : Int32).toInt = 1 := by decide
  rw [c1]
theorem d2_0 : decode jdk_30_method_1_code 0 = .ok (.aload_n 0, 1) := by decide +kernel
theorem d2_1 : decode jdk_30_method_1_code 1 = .ok (.invokespecial 1, 3) := by decide +kernel
theorem d2_4 : decode jdk_30_method_1_code 4 = .ok (.return_, 1) := by decide +kernel
theorem pn_2 : plainName "java/lang/Record" = true := by first | (simp [plainName, overriddenIn]; done) | decide +kernel
theorem ef_2 (m : MethodId) (x0 : Addr) : entryFrame m #[(.ref x0)] 1 = mkF m 0 #[.val (.ref x0)] [] := by first | (simp [entryFrame, mkF, argsToLocals, Value.category]; done) | rfl
def Q2 (Z : State) (a1 : Addr) (h0 : Heap) (n0 : Nat) (v : Option Value) (h : Heap) (L : List Loc) : Prop := v = none ∧ Fr n0 L ∧ h = h0
set_option maxRecDepth 65536 in
set_option maxHeartbeats 40000000 in
theorem rm2 (l : Launch) (Z : State) (a0 : Array Value) (hw : ∀ d ∈ tables_1, d.before a0 Z = true) (ws : List Jvm.Cond) (a1 : Addr) (h0 : Heap) (n0 : Nat) (Z0 : n0 ≤ h0.size) :
    MetFree l (⟨"java/lang/Record", "<init>", "()V"⟩ : MethodName) (head1 (Jvm.Cond.code (⟨"java/lang/Record", "<init>", "()V"⟩ : MethodName) jdk_30_method_1_code 1 none :: ws) ({ frames := 1, cells := 0, slots := 0, locals := 12 } : Room)) (fun a U => a = #[(.ref a1)] ∧ Z.Warmed39 U.vm ∧ U.heap = h0) (fun _ _ _ _ _ => True) (fun _ U o U' => ∃ v L, o = .returned v ∧ Q2 Z a1 h0 n0 v U'.heap L ∧ FrameEnd U o U' L ({ frames := 1, cells := 0, slots := 0, locals := 12 } : Room).cells ({ frames := 1, cells := 0, slots := 0, locals := 12 } : Room).slots) := by
  refine MetFree.of_bodySF (plainFor_of_name pn_2) hisR ?_
  intro p e s m args below meth c s₁ Bd hml0 hP hK
  obtain ⟨rfl, hZ, hh⟩ := hP
  have hx := Bd.exec
  have hby := Bd.bytes
  have hml : c.maxLocals = 1 := hml0
  have hown : s.vm.findClass "java/lang/Record" = some m.cls := findClass_of_methodNamed Bd.named
  have hnm := (name_of_methodNamed Bd.named Bd.method).1
  have X0 : Stand p l e ({ frames := 1, cells := 0, slots := 0, locals := 12 } : Room) s m #[(.ref a1)] below meth c s₁ [] 0 0 := Stand.of_body Bd
  have e0 : s₁.heap = h0 := by rw [← hh, Bd.state]; rfl
  have N0 := Fr.nil n0
  have pre0 : ∀ t, Steps p.tables e below (s₁.setTop (mkF m 0 #[.val (.ref a1)] [])) t → Steps p.tables e below (s₁.setTop (entryFrame m #[(.ref a1)] 1)) t := fun t k => castTop (ef_2 m a1) k
  obtain ⟨T2, X2, e2, st2⟩ := initO X0 hx hZ hown (hw _ (List.mem_of_getElem? (i := 12) rfl)) (hw _ (List.mem_of_getElem? (i := 13) rfl)) (hw _ (List.mem_of_getElem? (i := 14) rfl)) e0 (g := (mkF m 1 #[.val (.ref a1)] [(.ref a1)])) rfl (by rw [hml]; rfl) rfl (hb hby d2_1) (by decide) (W := 0) (by show 2 * 0 + _ ≤ _; exact Nat.le_of_eq rfl) (by decide)
  obtain ⟨fs, hr, hrun, hended, hW, hsame⟩ := X2.leave (v := none) (fun _ => rfl)
  refine ⟨_, _, pre0 _ ?_, hrun, hended, _, _, rfl, ?_, ⟨_, rfl⟩, hW, hsame.mono (by decide) (by decide)⟩
  · show Steps p.tables e below (s₁.setTop (mkF m 0 #[.val (.ref a1)] [])) _
    refine XS.aloadN X0.here hx rfl (hb hby d2_0) rfl rfl ?_
    show Steps p.tables e below (s₁.setTop (mkF m 1 #[.val (.ref a1)] [(.ref a1)])) _
    refine st2 _ ?_
    show Steps p.tables e below (T2.setTop (mkF m 4 #[.val (.ref a1)] [])) _
    exact X2.returnOut hx Bd.returns (hb hby d2_4) hr
  · show Q2 Z a1 h0 n0 _ T2.heap _
    rw [e2]
    exact ⟨rfl, N0, rfl⟩
theorem d1_0 : decode prog_6_method_1_code 0 = .ok (.aload_n 0, 1) := by decide +kernel
theorem d1_1 : decode prog_6_method_1_code 1 = .ok (.invokespecial 1, 3) := by decide +kernel
theorem d1_4 : decode prog_6_method_1_code 4 = .ok (.aload_n 0, 1) := by decide +kernel
theorem d1_5 : decode prog_6_method_1_code 5 = .ok (.iload_n 1, 1) := by decide +kernel
theorem d1_6 : decode prog_6_method_1_code 6 = .ok (.putfield 7, 3) := by decide +kernel
theorem d1_9 : decode prog_6_method_1_code 9 = .ok (.aload_n 0, 1) := by decide +kernel
theorem d1_10 : decode prog_6_method_1_code 10 = .ok (.aload_n 2, 1) := by decide +kernel
theorem d1_11 : decode prog_6_method_1_code 11 = .ok (.putfield 13, 3) := by decide +kernel
theorem d1_14 : decode prog_6_method_1_code 14 = .ok (.return_, 1) := by decide +kernel
theorem pn_1 : plainName "com/example/hushwire/hushwire/BlockContent$RouterInfoBlock" = true := by first | (simp [plainName, overriddenIn]; done) | decide +kernel
theorem pd_1_1 : parseMethodDescriptor "()V" = some ⟨[], none⟩ := by decide +kernel
theorem ef_1 (m : MethodId) (x0 : Addr) (x1 : Int32) (x2 : Addr) : entryFrame m #[(.ref x0), (.int x1), (.ref x2)] 3 = mkF m 0 #[.val (.ref x0), .val (.int x1), .val (.ref x2)] [] := by first | (simp [entryFrame, mkF, argsToLocals, Value.category]; done) | rfl
def Q1 (Z : State) (a1 : Addr) (p2 : Int32) (a3 : Addr) (u_flag_a1 : Value) (u_routerInfo_a1 : Value) (h0 : Heap) (n0 : Nat) (v : Option Value) (h : Heap) (L : List Loc) : Prop := v = none ∧ Fr n0 L ∧ Keep h0 h [a1] ∧ Exa Z h a1 "com/example/hushwire/hushwire/BlockContent$RouterInfoBlock" ∧ Fld Z h a1 "com/example/hushwire/hushwire/BlockContent$RouterInfoBlock" "flag" "I" (.int p2)
set_option maxRecDepth 65536 in
set_option maxHeartbeats 40000000 in
theorem rm1 (l : Launch) (Z : State) (a0 : Array Value) (hw : ∀ d ∈ tables_1, d.before a0 Z = true) (ws : List Jvm.Cond) (a1 : Addr) (p2 : Int32) (a3 : Addr) (u_flag_a1 : Value) (u_routerInfo_a1 : Value) (h0 : Heap) (n0 : Nat) (Z0 : n0 ≤ h0.size) (E_a1 : Exa Z h0 a1 "com/example/hushwire/hushwire/BlockContent$RouterInfoBlock") (F_flag_a1 : Fld Z h0 a1 "com/example/hushwire/hushwire/BlockContent$RouterInfoBlock" "flag" "I" u_flag_a1) (g_a1 : n0 ≤ a1) (F_routerInfo_a1 : Fld Z h0 a1 "com/example/hushwire/hushwire/BlockContent$RouterInfoBlock" "routerInfo" "[B" u_routerInfo_a1) :
    MetFree l (⟨"com/example/hushwire/hushwire/BlockContent$RouterInfoBlock", "<init>", "(I[B)V"⟩ : MethodName) (head1 (Jvm.Cond.code (⟨"com/example/hushwire/hushwire/BlockContent$RouterInfoBlock", "<init>", "(I[B)V"⟩ : MethodName) prog_6_method_1_code 3 none :: ws) ({ frames := 2, cells := 0, slots := 0, locals := 24 } : Room)) (fun a U => a = #[(.ref a1), (.int p2), (.ref a3)] ∧ Z.Warmed39 U.vm ∧ U.heap = h0) (fun _ _ _ _ _ => True) (fun _ U o U' => ∃ v L, o = .returned v ∧ Q1 Z a1 p2 a3 u_flag_a1 u_routerInfo_a1 h0 n0 v U'.heap L ∧ FrameEnd U o U' L ({ frames := 2, cells := 0, slots := 0, locals := 24 } : Room).cells ({ frames := 2, cells := 0, slots := 0, locals := 24 } : Room).slots) := by
  refine MetFree.of_bodySF (plainFor_of_name pn_1) hisR ?_
  intro p e s m args below meth c s₁ Bd hml0 hP hK
  obtain ⟨rfl, hZ, hh⟩ := hP
  have hx := Bd.exec
  have hby := Bd.bytes
  have hml : c.maxLocals = 3 := hml0
  have hown : s.vm.findClass "com/example/hushwire/hushwire/BlockContent$RouterInfoBlock" = some m.cls := findClass_of_methodNamed Bd.named
  have hnm := (name_of_methodNamed Bd.named Bd.method).1
  have X0 : Stand p l e ({ frames := 2, cells := 0, slots := 0, locals := 24 } : Room) s m #[(.ref a1), (.int p2), (.ref a3)] below meth c s₁ [] 0 0 := Stand.of_body Bd
  have e0 : s₁.heap = h0 := by rw [← hh, Bd.state]; rfl
  have N0 := Fr.nil n0
  have pre0 : ∀ t, Steps p.tables e below (s₁.setTop (mkF m 0 #[.val (.ref a1), .val (.int p2), .val (.ref a3)] [])) t → Steps p.tables e below (s₁.setTop (entryFrame m #[(.ref a1), (.int p2), (.ref a3)] 3)) t := fun t k => castTop (ef_1 m a1 p2 a3) k
  obtain ⟨_, _, ⟨T4, L4, k4, n4⟩, -, X4, ⟨Lc4, hQ4, l4, y4, z4⟩, st4⟩ := X0.specialBack hx (y := (⟨"java/lang/Record", "<init>", "()V"⟩ : MethodName)) rfl hown (mvT hZ (hw _ (List.mem_of_getElem? (i := 7) rfl))) (mvT hZ (hw _ (List.mem_of_getElem? (i := 8) rfl))) (mvT hZ (hw _ (List.mem_of_getElem? (i := 11) rfl))) (by decide) (backOf (W := 0) (rm2 l Z a0 hw [] a1 h0 n0 Z0) hZ (hw _ (List.mem_of_getElem? (i := 11) rfl)) (hw _ (List.mem_of_getElem? (i := 10) rfl)) (by decide) (by decide)) (g := (mkF m 1 #[.val (.ref a1), .val (.int p2), .val (.ref a3)] [(.ref a1)])) rfl (by rw [hml]; rfl) (Steps.refl _) (a := a1) (argsL := []) (rest := []) (lenOf pd_1_1 rfl) rfl (by show 2 * 0 + _ ≤ _; exact Nat.le_of_eq rfl) (hb hby d1_1) (fun _ _ => ⟨rfl, e0, (by decide : 0 + 0 ≤ _), (by decide : 0 + 0 ≤ _)⟩)
  dsimp only [Pt.U, Pt.locs, Pt.cells, Pt.slots] at X4 l4 y4 z4 st4 hQ4
  subst l4 y4 z4
  obtain ⟨rfl, N4q, e4⟩ := hQ4
  have N4 := Fr.app N0 N4q
  obtain ⟨T5, h5, X5, e5, W5, st5⟩ := putF X4 hx hZ hown (host := "") (Or.inl (hw _ (List.mem_of_getElem? (i := 15) rfl))) Via.refl e4 F_flag_a1 E_a1 (Or.inr ⟨(hw _ (List.mem_of_getElem? (i := 16) rfl)), rfl, hnm⟩) (hw _ (List.mem_of_getElem? (i := 1) rfl)) (ty := .int) (by decide) rfl rfl (g := (mkF m 6 #[.val (.ref a1), .val (.int p2), .val (.ref a3)] [(.int p2), (.ref a1)])) rfl rfl (hb hby d1_6)
  have Fw5 := F_flag_a1.same W5
  have K5 : Keep h0 h5 [a1] := (Keep.refl h0 [a1]).wr W5 (Or.inl (List.mem_of_getElem? (i := 0) rfl))
  have N5 := Fr.snoc X5 N4 g_a1
  obtain ⟨T6, h6, X6, e6, W6, st6⟩ := putF X5 hx hZ hown (host := "") (Or.inl (hw _ (List.mem_of_getElem? (i := 17) rfl))) Via.refl e5 (F_routerInfo_a1.other W5 (Or.inr (slot_ne (Or.inr (hw _ (List.mem_of_getElem? (i := 18) rfl))) (Or.inr (hw _ (List.mem_of_getElem? (i := 16) rfl))) (by decide) (t := (.array .byte)) (t' := .int) (by decide) (by decide)))) (E_a1.wr W5) (Or.inr ⟨(hw _ (List.mem_of_getElem? (i := 18) rfl)), rfl, hnm⟩) (hw _ (List.mem_of_getElem? (i := 1) rfl)) (ty := (.array .byte)) (by decide) rfl rfl (g := (mkF m 11 #[.val (.ref a1), .val (.int p2), .val (.ref a3)] [(.ref a3), (.ref a1)])) rfl rfl (hb hby d1_11)
  have Fw6 := (F_routerInfo_a1.other W5 (Or.inr (slot_ne (Or.inr (hw _ (List.mem_of_getElem? (i := 18) rfl))) (Or.inr (hw _ (List.mem_of_getElem? (i := 16) rfl))) (by decide) (t := (.array .byte)) (t' := .int) (by decide) (by decide)))).same W6
  have K6 : Keep h0 h6 [a1] := K5.wr W6 (Or.inl (List.mem_of_getElem? (i := 0) rfl))
  have N6 := Fr.snoc X6 N5 g_a1
  obtain ⟨fs, hr, hrun, hended, hW, hsame⟩ := X6.leave (v := none) (fun _ => rfl)
  refine ⟨_, _, pre0 _ ?_, hrun, hended, _, _, rfl, ?_, ⟨_, rfl⟩, hW, hsame.mono (by decide) (by decide)⟩
  · show Steps p.tables e below (s₁.setTop (mkF m 0 #[.val (.ref a1), .val (.int p2), .val (.ref a3)] [])) _
    refine XS.aloadN X0.here hx rfl (hb hby d1_0) rfl rfl ?_
    show Steps p.tables e below (s₁.setTop (mkF m 1 #[.val (.ref a1), .val (.int p2), .val (.ref a3)] [(.ref a1)])) _
    refine st4.trans ?_
    show Steps p.tables e below (T4.setTop (mkF m 4 #[.val (.ref a1), .val (.int p2), .val (.ref a3)] [])) _
    refine XS.aloadN X4.here hx rfl (hb hby d1_4) rfl rfl ?_
    show Steps p.tables e below (T4.setTop (mkF m 5 #[.val (.ref a1), .val (.int p2), .val (.ref a3)] [(.ref a1)])) _
    refine XS.iloadN X4.here hx rfl (hb hby d1_5) rfl ?_
    show Steps p.tables e below (T4.setTop (mkF m 6 #[.val (.ref a1), .val (.int p2), .val (.ref a3)] [(.int p2), (.ref a1)])) _
    refine st5 _ ?_
    show Steps p.tables e below (T5.setTop (mkF m 9 #[.val (.ref a1), .val (.int p2), .val (.ref a3)] [])) _
    refine XS.aloadN X5.here hx rfl (hb hby d1_9) rfl rfl ?_
    show Steps p.tables e below (T5.setTop (mkF m 10 #[.val (.ref a1), .val (.int p2), .val (.ref a3)] [(.ref a1)])) _
    refine XS.aloadN X5.here hx rfl (hb hby d1_10) rfl rfl ?_
    show Steps p.tables e below (T5.setTop (mkF m 11 #[.val (.ref a1), .val (.int p2), .val (.ref a3)] [(.ref a3), (.ref a1)])) _
    refine st6 _ ?_
    show Steps p.tables e below (T6.setTop (mkF m 14 #[.val (.ref a1), .val (.int p2), .val (.ref a3)] [])) _
    exact X6.returnOut hx Bd.returns (hb hby d1_14) hr
  · show Q1 Z a1 p2 a3 u_flag_a1 u_routerInfo_a1 h0 n0 _ T6.heap _
    rw [e6]
    exact ⟨rfl, N6, K6, (E_a1.wr W5).wr W6, Fw5.other W6 (Or.inr (slot_ne (Or.inr (hw _ (List.mem_of_getElem? (i := 16) rfl))) (Or.inr (hw _ (List.mem_of_getElem? (i := 18) rfl))) (by decide) (t := .int) (t' := (.array .byte)) (by decide) (by decide)))⟩
theorem d4_0 : decode prog_6_method_2_code 0 = .ok (.aload_n 0, 1) := by decide +kernel
theorem d4_1 : decode prog_6_method_2_code 1 = .ok (.getfield 7, 3) := by decide +kernel
theorem d4_4 : decode prog_6_method_2_code 4 = .ok (.iconst 1, 1) := by decide +kernel
theorem d4_5 : decode prog_6_method_2_code 5 = .ok (.iand, 1) := by decide +kernel
theorem d4_6 : decode prog_6_method_2_code 6 = .ok (.ifCond .eq 7, 3) := by decide +kernel
theorem d4_13 : decode prog_6_method_2_code 13 = .ok (.iconst 0, 1) := by decide +kernel
theorem d4_14 : decode prog_6_method_2_code 14 = .ok (.ireturn, 1) := by decide +kernel
theorem pn_4 : plainName "com/example/hushwire/hushwire/BlockContent$RouterInfoBlock" = true := by first | (simp [plainName, overriddenIn]; done) | decide +kernel
theorem ef_4 (m : MethodId) (x0 : Addr) : entryFrame m #[(.ref x0)] 1 = mkF m 0 #[.val (.ref x0)] [] := by first | (simp [entryFrame, mkF, argsToLocals, Value.category]; done) | rfl
theorem d4_9 : decode prog_6_method_2_code 9 = .ok (.iconst 1, 1) := by decide +kernel
theorem d4_10 : decode prog_6_method_2_code 10 = .ok (.goto 4, 3) := by decide +kernel
def Q4 (Z : State) (a1 : Addr) (w2 : Int32) (z : Int32) (h0 : Heap) (n0 : Nat) (v : Option Value) (h : Heap) (L : List Loc) : Prop := v = some (.int z) ∧ Fr n0 L ∧ h = h0
set_option maxRecDepth 65536 in
set_option maxHeartbeats 40000000 in
theorem rm4t (l : Launch) (Z : State) (a0 : Array Value) (hw : ∀ d ∈ tables_1, d.before a0 Z = true) (ws : List Jvm.Cond) (a1 : Addr) (w2 : Int32) (h0 : Heap) (n0 : Nat) (Z0 : n0 ≤ h0.size) (F_flag_a1 : Fld Z h0 a1 "com/example/hushwire/hushwire/BlockContent$RouterInfoBlock" "flag" "I" (.int w2)) (hc6 : (w2 &&& (1 : Int32)) = (0 : Int32)) :
    MetFree l (⟨"com/example/hushwire/hushwire/BlockContent$RouterInfoBlock", "flood", "()Z"⟩ : MethodName) (head1 (Jvm.Cond.code (⟨"com/example/hushwire/hushwire/BlockContent$RouterInfoBlock", "flood", "()Z"⟩ : MethodName) prog_6_method_2_code 1 (some .boolean) :: ws) ({ frames := 0, cells := 0, slots := 0, locals := 0 } : Room)) (fun a U => a = #[(.ref a1)] ∧ Z.Warmed39 U.vm ∧ U.heap = h0) (fun _ _ _ _ _ => True) (fun _ U o U' => ∃ v L, o = .returned v ∧ Q4 Z a1 w2 (0 : Int32) h0 n0 v U'.heap L ∧ FrameEnd U o U' L ({ frames := 0, cells := 0, slots := 0, locals := 0 } : Room).cells ({ frames := 0, cells := 0, slots := 0, locals := 0 } : Room).slots) := by
  refine MetFree.of_bodySF (plainFor_of_name pn_4) hisR ?_
  intro p e s m args below meth c s₁ Bd hml0 hP hK
  obtain ⟨rfl, hZ, hh⟩ := hP
  have hx := Bd.exec
  have hby := Bd.bytes
  have hml : c.maxLocals = 1 := hml0
  have hown : s.vm.findClass "com/example/hushwire/hushwire/BlockContent$RouterInfoBlock" = some m.cls := findClass_of_methodNamed Bd.named
  have hnm := (name_of_methodNamed Bd.named Bd.method).1
  have X0 : Stand p l e ({ frames := 0, cells := 0, slots := 0, locals := 0 } : Room) s m #[(.ref a1)] below meth c s₁ [] 0 0 := Stand.of_body Bd
  have e0 : s₁.heap = h0 := by rw [← hh, Bd.state]; rfl
  have N0 := Fr.nil n0
  have pre0 : ∀ t, Steps p.tables e below (s₁.setTop (mkF m 0 #[.val (.ref a1)] [])) t → Steps p.tables e below (s₁.setTop (entryFrame m #[(.ref a1)] 1)) t := fun t k => castTop (ef_4 m a1) k
  obtain ⟨T3, X3, e3, st3⟩ := getF X0 hx hZ hown (host := "") (Or.inl (hw _ (List.mem_of_getElem? (i := 15) rfl))) Via.refl e0 F_flag_a1 (g := (mkF m 1 #[.val (.ref a1)] [(.ref a1)])) rfl rfl (hb hby d4_1)
  obtain ⟨fs, hr, hrun, hended, hW, hsame⟩ := X3.leave (v := some (.int (0 : Int32))) (fun h => by rw [Bd.returns] at h; cases h)
  refine ⟨_, _, pre0 _ ?_, hrun, hended, _, _, rfl, ?_, ⟨_, rfl⟩, hW, hsame.mono (by decide) (by decide)⟩
  · show Steps p.tables e below (s₁.setTop (mkF m 0 #[.val (.ref a1)] [])) _
    refine XS.aloadN X0.here hx rfl (hb hby d4_0) rfl rfl ?_
    show Steps p.tables e below (s₁.setTop (mkF m 1 #[.val (.ref a1)] [(.ref a1)])) _
    refine st3 _ ?_
    show Steps p.tables e below (T3.setTop (mkF m 4 #[.val (.ref a1)] [(.int w2)])) _
    refine XS.iconst X3.here hx rfl (hb hby d4_4) ?_
    show Steps p.tables e below (T3.setTop (mkF m 5 #[.val (.ref a1)] [(.int (1 : Int32)), (.int w2)])) _
    refine XS.iand X3.here hx rfl (hb hby d4_5) rfl ?_
    show Steps p.tables e below (T3.setTop (mkF m 6 #[.val (.ref a1)] [(.int (w2 &&& (1 : Int32)))])) _
    refine XS.ifYes X3.here hx rfl (pc0 := 6) (pc' := 13) rfl (hb hby d4_6) rfl ((if0 _ _).trans (teq hc6).1) (by decide) (by decide) ?_
    show Steps p.tables e below (T3.setTop (mkF m 13 #[.val (.ref a1)] [])) _
    refine XS.iconst X3.here hx rfl (hb hby d4_13) ?_
    show Steps p.tables e below (T3.setTop (mkF m 14 #[.val (.ref a1)] [(.int (0 : Int32))])) _
    exact retN X3 hx (t := .boolean) Bd.returns (by simp) (hb hby d4_14) hr
  · show Q4 Z a1 w2 (0 : Int32) h0 n0 _ T3.heap _
    rw [e3]
    exact ⟨rfl, N0, rfl⟩

set_option maxRecDepth 65536 in
set_option maxHeartbeats 40000000 in
theorem rm4f (l : Launch) (Z : State) (a0 : Array Value) (hw : ∀ d ∈ tables_1, d.before a0 Z = true) (ws : List Jvm.Cond) (a1 : Addr) (w2 : Int32) (h0 : Heap) (n0 : Nat) (Z0 : n0 ≤ h0.size) (F_flag_a1 : Fld Z h0 a1 "com/example/hushwire/hushwire/BlockContent$RouterInfoBlock" "flag" "I" (.int w2)) (hc6 : ¬ ((w2 &&& (1 : Int32)) = (0 : Int32))) :
    MetFree l (⟨"com/example/hushwire/hushwire/BlockContent$RouterInfoBlock", "flood", "()Z"⟩ : MethodName) (head1 (Jvm.Cond.code (⟨"com/example/hushwire/hushwire/BlockContent$RouterInfoBlock", "flood", "()Z"⟩ : MethodName) prog_6_method_2_code 1 (some .boolean) :: ws) ({ frames := 0, cells := 0, slots := 0, locals := 0 } : Room)) (fun a U => a = #[(.ref a1)] ∧ Z.Warmed39 U.vm ∧ U.heap = h0) (fun _ _ _ _ _ => True) (fun _ U o U' => ∃ v L, o = .returned v ∧ Q4 Z a1 w2 (1 : Int32) h0 n0 v U'.heap L ∧ FrameEnd U o U' L ({ frames := 0, cells := 0, slots := 0, locals := 0 } : Room).cells ({ frames := 0, cells := 0, slots := 0, locals := 0 } : Room).slots) := by
  refine MetFree.of_bodySF (plainFor_of_name pn_4) hisR ?_
  intro p e s m args below meth c s₁ Bd hml0 hP hK
  obtain ⟨rfl, hZ, hh⟩ := hP
  have hx := Bd.exec
  have hby := Bd.bytes
  have hml : c.maxLocals = 1 := hml0
  have hown : s.vm.findClass "com/example/hushwire/hushwire/BlockContent$RouterInfoBlock" = some m.cls := findClass_of_methodNamed Bd.named
  have hnm := (name_of_methodNamed Bd.named Bd.method).1
  have X0 : Stand p l e ({ frames := 0, cells := 0, slots := 0, locals := 0 } : Room) s m #[(.ref a1)] below meth c s₁ [] 0 0 := Stand.of_body Bd
  have e0 : s₁.heap = h0 := by rw [← hh, Bd.state]; rfl
  have N0 := Fr.nil n0
  have pre0 : ∀ t, Steps p.tables e below (s₁.setTop (mkF m 0 #[.val (.ref a1)] [])) t → Steps p.tables e below (s₁.setTop (entryFrame m #[(.ref a1)] 1)) t := fun t k => castTop (ef_4 m a1) k
  obtain ⟨T3, X3, e3, st3⟩ := getF X0 hx hZ hown (host := "") (Or.inl (hw _ (List.mem_of_getElem? (i := 15) rfl))) Via.refl e0 F_flag_a1 (g := (mkF m 1 #[.val (.ref a1)] [(.ref a1)])) rfl rfl (hb hby d4_1)
  obtain ⟨fs, hr, hrun, hended, hW, hsame⟩ := X3.leave (v := some (.int (1 : Int32))) (fun h => by rw [Bd.returns] at h; cases h)
  refine ⟨_, _, pre0 _ ?_, hrun, hended, _, _, rfl, ?_, ⟨_, rfl⟩, hW, hsame.mono (by decide) (by decide)⟩
  · show Steps p.tables e below (s₁.setTop (mkF m 0 #[.val (.ref a1)] [])) _
    refine XS.aloadN X0.here hx rfl (hb hby d4_0) rfl rfl ?_
    show Steps p.tables e below (s₁.setTop (mkF m 1 #[.val (.ref a1)] [(.ref a1)])) _
    refine st3 _ ?_
    show Steps p.tables e below (T3.setTop (mkF m 4 #[.val (.ref a1)] [(.int w2)])) _
    refine XS.iconst X3.here hx rfl (hb hby d4_4) ?_
    show Steps p.tables e below (T3.setTop (mkF m 5 #[.val (.ref a1)] [(.int (1 : Int32)), (.int w2)])) _
    refine XS.iand X3.here hx rfl (hb hby d4_5) rfl ?_
    show Steps p.tables e below (T3.setTop (mkF m 6 #[.val (.ref a1)] [(.int (w2 &&& (1 : Int32)))])) _
    refine XS.ifNo X3.here hx rfl (hb hby d4_6) rfl ((if0 _ _).trans (feq hc6).1) ?_
    show Steps p.tables e below (T3.setTop (mkF m 9 #[.val (.ref a1)] [])) _
    refine XS.iconst X3.here hx rfl (hb hby d4_9) ?_
    show Steps p.tables e below (T3.setTop (mkF m 10 #[.val (.ref a1)] [(.int (1 : Int32))])) _
    refine XS.goto X3.here hx rfl (pc0 := 10) (pc' := 14) rfl (hb hby d4_10) (by decide) (by decide) ?_
    show Steps p.tables e below (T3.setTop (mkF m 14 #[.val (.ref a1)] [(.int (1 : Int32))])) _
    exact retN X3 hx (t := .boolean) Bd.returns (by simp) (hb hby d4_14) hr
  · show Q4 Z a1 w2 (1 : Int32) h0 n0 _ T3.heap _
    rw [e3]
    exact ⟨rfl, N0, rfl⟩

theorem rm4 (l : Launch) (Z : State) (a0 : Array Value) (hw : ∀ d ∈ tables_1, d.before a0 Z = true) (ws : List Jvm.Cond) (a1 : Addr) (w2 : Int32) (h0 : Heap) (n0 : Nat) (Z0 : n0 ≤ h0.size) (F_flag_a1 : Fld Z h0 a1 "com/example/hushwire/hushwire/BlockContent$RouterInfoBlock" "flag" "I" (.int w2)) :
    MetFree l (⟨"com/example/hushwire/hushwire/BlockContent$RouterInfoBlock", "flood", "()Z"⟩ : MethodName) (head1 (Jvm.Cond.code (⟨"com/example/hushwire/hushwire/BlockContent$RouterInfoBlock", "flood", "()Z"⟩ : MethodName) prog_6_method_2_code 1 (some .boolean) :: ws) ({ frames := 0, cells := 0, slots := 0, locals := 0 } : Room)) (fun a U => a = #[(.ref a1)] ∧ Z.Warmed39 U.vm ∧ U.heap = h0) (fun _ _ _ _ _ => True) (fun _ U o U' => ∃ v L, o = .returned v ∧ Q4 Z a1 w2 (own_fl w2) h0 n0 v U'.heap L ∧ FrameEnd U o U' L ({ frames := 0, cells := 0, slots := 0, locals := 0 } : Room).cells ({ frames := 0, cells := 0, slots := 0, locals := 0 } : Room).slots) := by
  by_cases h : w2 &&& 1 = 0
  · have e : own_fl w2 = 0 := if_pos h
    rw [e]
    exact rm4t l Z a0 hw ws a1 w2 h0 n0 Z0 F_flag_a1 h
  · have e : own_fl w2 = 1 := if_neg h
    rw [e]
    exact rm4f l Z a0 hw ws a1 w2 h0 n0 Z0 F_flag_a1 h
theorem pn_0 : plainName "com/example/hushwire/hushwire/RouterInfoBlockFloodPinLaw" = true := by first | (simp [plainName, overriddenIn]; done) | decide +kernel
theorem pd_0_0 : parseMethodDescriptor "(I[B)V" = some ⟨[.int, (.array .byte)], none⟩ := by decide +kernel
theorem pd_0_2 : parseMethodDescriptor "()Z" = some ⟨[], some .boolean⟩ := by decide +kernel
theorem ef_0 (m : MethodId) (x0 : Int32) (x1 : Int32) : entryFrame m #[(.int x0), (.int x1)] maxLocals = mkF m 0 #[.val (.int x0), .val (.int x1), .unset, .unset, .unset, .unset, .unset, .unset, .unset] [] := by first | (simp [entryFrame, mkF, argsToLocals, Value.category, maxLocals]; done) | rfl
def Q0 (Z : State) (p1 : Int32) (p2 : Int32) (h0 : Heap) (n0 : Nat) (v : Option Value) (h : Heap) (L : List Loc) : Prop := v = some (.int (1 : Int32)) ∧ Fr n0 L
set_option maxRecDepth 65536 in
set_option maxHeartbeats 40000000 in
theorem rm0 (l : Launch) (Z : State) (a0 : Array Value) (hw : ∀ d ∈ tables_1, d.before a0 Z = true) (ws : List Jvm.Cond) (p1 : Int32) (p2 : Int32) (h0 : Heap) (n0 : Nat) (Z0 : n0 ≤ h0.size) (hnz63 : ¬ ((2 : Int32) = (0 : Int32))) (hc67 : ((p1 &&& (255 : Int32)) - ((2 : Int32) * ((p1 &&& (255 : Int32)) / (2 : Int32)))) = (1 : Int32)) (h12 : own_fl (p1 &&& (255 : Int32)) = (1 : Int32)) (h13 : own_fl ((p1 &&& (255 : Int32)) ^^^ (p2 &&& (254 : Int32))) = (1 : Int32)) (h14 : ¬ own_fl ((p1 &&& (255 : Int32)) ^^^ (1 : Int32)) = (1 : Int32)) :
    MetFree l x (head1 (Jvm.Cond.code x code maxLocals ret :: ws) room_1) (fun a U => a = #[(.int p1), (.int p2)] ∧ Z.Warmed39 U.vm ∧ U.heap = h0) (fun _ _ _ _ _ => True) (fun _ U o U' => ∃ v L, o = .returned v ∧ Q0 Z p1 p2 h0 n0 v U'.heap L ∧ FrameEnd U o U' L room_1.cells room_1.slots) := by
  refine MetFree.of_bodySF (plainFor_of_name pn_0) hisR ?_
  intro p e s m args below meth c s₁ Bd hml0 hP hK
  obtain ⟨rfl, hZ, hh⟩ := hP
  have hx := Bd.exec
  have hby := Bd.bytes
  have hml : c.maxLocals = 9 := hml0
  have hown : s.vm.findClass "com/example/hushwire/hushwire/RouterInfoBlockFloodPinLaw" = some m.cls := findClass_of_methodNamed Bd.named
  have hnm := (name_of_methodNamed Bd.named Bd.method).1
  have X0 : Stand p l e room_1 s m #[(.int p1), (.int p2)] below meth c s₁ [] 0 0 := Stand.of_body Bd
  have e0 : s₁.heap = h0 := by rw [← hh, Bd.state]; rfl
  have N0 := Fr.nil n0
  have pre0 : ∀ t, Steps p.tables e below (s₁.setTop (mkF m 0 #[.val (.int p1), .val (.int p2), .unset, .unset, .unset, .unset, .unset, .unset, .unset] [])) t → Steps p.tables e below (s₁.setTop (entryFrame m #[(.int p1), (.int p2)] maxLocals)) t := fun t k => castTop (ef_0 m p1 p2) k
  obtain ⟨T3, h3, X3, e3, E3, A3, D3, -, st3⟩ := newO X0 hx hZ hown (hw _ (List.mem_of_getElem? (i := 0) rfl)) (hw _ (List.mem_of_getElem? (i := 1) rfl)) (hw _ (List.mem_of_getElem? (i := 2) rfl)) e0 (g := (mkF m 19 #[.val (.int p1), .val (.int p2), .val (.int (p1 &&& (255 : Int32))), .val (.int ((p1 &&& (255 : Int32)) ^^^ (p2 &&& (254 : Int32)))), .val (.int ((p1 &&& (255 : Int32)) ^^^ (1 : Int32))), .unset, .unset, .unset, .unset] [])) rfl (hb hby at_19) (by decide) (by decide)
  obtain ⟨b3, g3⟩ : ∃ z, z = h0.size := ⟨_, rfl⟩
  rw [← g3] at A3 D3 st3
  have F_flag_b3 : Fld Z h3 b3 "com/example/hushwire/hushwire/BlockContent$RouterInfoBlock" "flag" "I" (.int (0 : Int32)) := D3 (Or.inr (hw _ (List.mem_of_getElem? (i := 16) rfl))) (ty := .int) (by decide)
  have F_routerInfo_b3 : Fld Z h3 b3 "com/example/hushwire/hushwire/BlockContent$RouterInfoBlock" "routerInfo" "[B" .null := D3 (Or.inr (hw _ (List.mem_of_getElem? (i := 18) rfl))) (ty := (.array .byte)) (by decide)
  have E_b3 := A3
  have g_b3 : n0 ≤ b3 := Nat.le_trans Z0 (Nat.le_of_eq g3.symm)
  have sz_b3 : h0.size ≤ b3 := (Nat.le_trans (Keep.refl h0 []).1 (Nat.le_of_eq g3.symm))
  have K3 : Keep h0 h3 [] := (Keep.refl h0 []).ext E3
  obtain ⟨T4, h4, k4, X4, e4, E4, A4, st4⟩ := newP X3 hx hZ (hw _ (List.mem_of_getElem? (i := 3) rfl)) e3 (g := (mkF m 25 #[.val (.int p1), .val (.int p2), .val (.int (p1 &&& (255 : Int32))), .val (.int ((p1 &&& (255 : Int32)) ^^^ (p2 &&& (254 : Int32)))), .val (.int ((p1 &&& (255 : Int32)) ^^^ (1 : Int32))), .unset, .unset, .unset, .unset] [(.int (0 : Int32)), (.int (p1 &&& (255 : Int32))), (.ref b3), (.ref b3)])) rfl (hb hby at_25) rfl (by decide) (cap := 0) (by decide) (by decide) (by decide) (by decide)
  obtain ⟨b4, g4⟩ : ∃ z, z = h3.size := ⟨_, rfl⟩
  rw [← g4] at A4 st4
  have V_b4 := Arv.new A4 (by decide)
  have g_b4 : n0 ≤ b4 := Nat.le_trans (Nat.le_trans Z0 E3.1) (Nat.le_of_eq g4.symm)
  have sz_b4 : h0.size ≤ b4 := (Nat.le_trans K3.1 (Nat.le_of_eq g4.symm))
  have K4 : Keep h0 h4 [] := K3.ext E4
  obtain ⟨_, _, ⟨T5, L5, k5, n5⟩, -, X5, ⟨Lc5, hQ5, l5, y5, z5⟩, st5⟩ := X4.specialBack hx (y := (⟨"com/example/hushwire/hushwire/BlockContent$RouterInfoBlock", "<init>", "(I[B)V"⟩ : MethodName)) rfl hown (mvT hZ (hw _ (List.mem_of_getElem? (i := 4) rfl))) (mvT hZ (hw _ (List.mem_of_getElem? (i := 5) rfl))) (mvT hZ (hw _ (List.mem_of_getElem? (i := 6) rfl))) (by decide) (backOf (W := 1) (rm1 l Z a0 hw [] b3 (p1 &&& (255 : Int32)) b4 (.int (0 : Int32)) .null h4 n0 (Nat.le_trans Z0 K4.1) (E_b3.ext E4) (F_flag_b3.ext E4) g_b3 (F_routerInfo_b3.ext E4)) hZ (hw _ (List.mem_of_getElem? (i := 6) rfl)) (hw _ (List.mem_of_getElem? (i := 2) rfl)) (by decide) (by decide)) (g := (mkF m 27 #[.val (.int p1), .val (.int p2), .val (.int (p1 &&& (255 : Int32))), .val (.int ((p1 &&& (255 : Int32)) ^^^ (p2 &&& (254 : Int32)))), .val (.int ((p1 &&& (255 : Int32)) ^^^ (1 : Int32))), .unset, .unset, .unset, .unset] [(.ref b4), (.int (p1 &&& (255 : Int32))), (.ref b3), (.ref b3)])) rfl (by rw [hml]; rfl) (Steps.refl _) (a := b3) (argsL := [(.int (p1 &&& (255 : Int32))), (.ref b4)]) (rest := [(.ref b3)]) (lenOf pd_0_0 rfl) rfl (by show 2 * 0 + _ ≤ _; exact Nat.le_of_eq rfl) (hb hby at_27) (fun _ _ => ⟨rfl, e4, (by decide : 2 + 0 ≤ _), (by decide : 2 + 0 ≤ _)⟩)
  dsimp only [Pt.U, Pt.locs, Pt.cells, Pt.slots] at X5 l5 y5 z5 st5 hQ5
  subst l5 y5 z5
  obtain ⟨rfl, N5q, Kc5, Ec5, Fc5⟩ := hQ5
  have K5 : Keep h0 T5.heap [] := K4.trans Kc5 (fun x hx => Or.inr (by cases List.mem_singleton.mp hx; exact sz_b3))
  have N5 := Fr.app N0 N5q
  obtain ⟨T6, h6, X6, e6, E6, A6, D6, -, st6⟩ := newO X5 hx hZ hown (hw _ (List.mem_of_getElem? (i := 0) rfl)) (hw _ (List.mem_of_getElem? (i := 1) rfl)) (hw _ (List.mem_of_getElem? (i := 2) rfl)) rfl (g := (mkF m 32 #[.val (.int p1), .val (.int p2), .val (.int (p1 &&& (255 : Int32))), .val (.int ((p1 &&& (255 : Int32)) ^^^ (p2 &&& (254 : Int32)))), .val (.int ((p1 &&& (255 : Int32)) ^^^ (1 : Int32))), .val (.ref b3), .unset, .unset, .unset] [])) rfl (hb hby at_32) (by decide) (by decide)
  obtain ⟨b6, g6⟩ : ∃ z, z = T5.heap.size := ⟨_, rfl⟩
  rw [← g6] at A6 D6 st6
  have F_flag_b6 : Fld Z h6 b6 "com/example/hushwire/hushwire/BlockContent$RouterInfoBlock" "flag" "I" (.int (0 : Int32)) := D6 (Or.inr (hw _ (List.mem_of_getElem? (i := 16) rfl))) (ty := .int) (by decide)
  have F_routerInfo_b6 : Fld Z h6 b6 "com/example/hushwire/hushwire/BlockContent$RouterInfoBlock" "routerInfo" "[B" .null := D6 (Or.inr (hw _ (List.mem_of_getElem? (i := 18) rfl))) (ty := (.array .byte)) (by decide)
  have E_b6 := A6
  have g_b6 : n0 ≤ b6 := Nat.le_trans (Nat.le_trans (Nat.le_trans (Nat.le_trans Z0 E3.1) E4.1) Kc5.1) (Nat.le_of_eq g6.symm)
  have sz_b6 : h0.size ≤ b6 := (Nat.le_trans K5.1 (Nat.le_of_eq g6.symm))
  have K6 : Keep h0 h6 [] := K5.ext E6
  obtain ⟨T7, h7, k7, X7, e7, E7, A7, st7⟩ := newP X6 hx hZ (hw _ (List.mem_of_getElem? (i := 3) rfl)) e6 (g := (mkF m 38 #[.val (.int p1), .val (.int p2), .val (.int (p1 &&& (255 : Int32))), .val (.int ((p1 &&& (255 : Int32)) ^^^ (p2 &&& (254 : Int32)))), .val (.int ((p1 &&& (255 : Int32)) ^^^ (1 : Int32))), .val (.ref b3), .unset, .unset, .unset] [(.int (0 : Int32)), (.int ((p1 &&& (255 : Int32)) ^^^ (p2 &&& (254 : Int32)))), (.ref b6), (.ref b6)])) rfl (hb hby at_38) rfl (by decide) (cap := 0) (by decide) (by decide) (by decide) (by decide)
  obtain ⟨b7, g7⟩ : ∃ z, z = h6.size := ⟨_, rfl⟩
  rw [← g7] at A7 st7
  have V_b7 := Arv.new A7 (by decide)
  have g_b7 : n0 ≤ b7 := Nat.le_trans (Nat.le_trans (Nat.le_trans (Nat.le_trans (Nat.le_trans Z0 E3.1) E4.1) Kc5.1) E6.1) (Nat.le_of_eq g7.symm)
  have sz_b7 : h0.size ≤ b7 := (Nat.le_trans K6.1 (Nat.le_of_eq g7.symm))
  have K7 : Keep h0 h7 [] := K6.ext E7
  obtain ⟨_, _, ⟨T8, L8, k8, n8⟩, -, X8, ⟨Lc8, hQ8, l8, y8, z8⟩, st8⟩ := X7.specialBack hx (y := (⟨"com/example/hushwire/hushwire/BlockContent$RouterInfoBlock", "<init>", "(I[B)V"⟩ : MethodName)) rfl hown (mvT hZ (hw _ (List.mem_of_getElem? (i := 4) rfl))) (mvT hZ (hw _ (List.mem_of_getElem? (i := 5) rfl))) (mvT hZ (hw _ (List.mem_of_getElem? (i := 6) rfl))) (by decide) (backOf (W := 1) (rm1 l Z a0 hw [] b6 ((p1 &&& (255 : Int32)) ^^^ (p2 &&& (254 : Int32))) b7 (.int (0 : Int32)) .null h7 n0 (Nat.le_trans Z0 K7.1) (E_b6.ext E7) (F_flag_b6.ext E7) g_b6 (F_routerInfo_b6.ext E7)) hZ (hw _ (List.mem_of_getElem? (i := 6) rfl)) (hw _ (List.mem_of_getElem? (i := 2) rfl)) (by decide) (by decide)) (g := (mkF m 40 #[.val (.int p1), .val (.int p2), .val (.int (p1 &&& (255 : Int32))), .val (.int ((p1 &&& (255 : Int32)) ^^^ (p2 &&& (254 : Int32)))), .val (.int ((p1 &&& (255 : Int32)) ^^^ (1 : Int32))), .val (.ref b3), .unset, .unset, .unset] [(.ref b7), (.int ((p1 &&& (255 : Int32)) ^^^ (p2 &&& (254 : Int32)))), (.ref b6), (.ref b6)])) rfl (by rw [hml]; rfl) (Steps.refl _) (a := b6) (argsL := [(.int ((p1 &&& (255 : Int32)) ^^^ (p2 &&& (254 : Int32)))), (.ref b7)]) (rest := [(.ref b6)]) (lenOf pd_0_0 rfl) rfl (by show 2 * 0 + _ ≤ _; exact Nat.le_of_eq rfl) (hb hby at_40) (fun _ _ => ⟨rfl, e7, (by decide : 4 + 0 ≤ _), (by decide : 4 + 0 ≤ _)⟩)
  dsimp only [Pt.U, Pt.locs, Pt.cells, Pt.slots] at X8 l8 y8 z8 st8 hQ8
  subst l8 y8 z8
  obtain ⟨rfl, N8q, Kc8, Ec8, Fc8⟩ := hQ8
  have K8 : Keep h0 T8.heap [] := K7.trans Kc8 (fun x hx => Or.inr (by cases List.mem_singleton.mp hx; exact sz_b6))
  have N8 := Fr.app N5 N8q
  obtain ⟨T9, h9, X9, e9, E9, A9, D9, -, st9⟩ := newO X8 hx hZ hown (hw _ (List.mem_of_getElem? (i := 0) rfl)) (hw _ (List.mem_of_getElem? (i := 1) rfl)) (hw _ (List.mem_of_getElem? (i := 2) rfl)) rfl (g := (mkF m 45 #[.val (.int p1), .val (.int p2), .val (.int (p1 &&& (255 : Int32))), .val (.int ((p1 &&& (255 : Int32)) ^^^ (p2 &&& (254 : Int32)))), .val (.int ((p1 &&& (255 : Int32)) ^^^ (1 : Int32))), .val (.ref b3), .val (.ref b6), .unset, .unset] [])) rfl (hb hby at_45) (by decide) (by decide)
  obtain ⟨b9, g9⟩ : ∃ z, z = T8.heap.size := ⟨_, rfl⟩
  rw [← g9] at A9 D9 st9
  have F_flag_b9 : Fld Z h9 b9 "com/example/hushwire/hushwire/BlockContent$RouterInfoBlock" "flag" "I" (.int (0 : Int32)) := D9 (Or.inr (hw _ (List.mem_of_getElem? (i := 16) rfl))) (ty := .int) (by decide)
  have F_routerInfo_b9 : Fld Z h9 b9 "com/example/hushwire/hushwire/BlockContent$RouterInfoBlock" "routerInfo" "[B" .null := D9 (Or.inr (hw _ (List.mem_of_getElem? (i := 18) rfl))) (ty := (.array .byte)) (by decide)
  have E_b9 := A9
  have g_b9 : n0 ≤ b9 := Nat.le_trans (Nat.le_trans (Nat.le_trans (Nat.le_trans (Nat.le_trans (Nat.le_trans (Nat.le_trans Z0 E3.1) E4.1) Kc5.1) E6.1) E7.1) Kc8.1) (Nat.le_of_eq g9.symm)
  have sz_b9 : h0.size ≤ b9 := (Nat.le_trans K8.1 (Nat.le_of_eq g9.symm))
  have K9 : Keep h0 h9 [] := K8.ext E9
  obtain ⟨T10, h10, k10, X10, e10, E10, A10, st10⟩ := newP X9 hx hZ (hw _ (List.mem_of_getElem? (i := 3) rfl)) e9 (g := (mkF m 52 #[.val (.int p1), .val (.int p2), .val (.int (p1 &&& (255 : Int32))), .val (.int ((p1 &&& (255 : Int32)) ^^^ (p2 &&& (254 : Int32)))), .val (.int ((p1 &&& (255 : Int32)) ^^^ (1 : Int32))), .val (.ref b3), .val (.ref b6), .unset, .unset] [(.int (0 : Int32)), (.int ((p1 &&& (255 : Int32)) ^^^ (1 : Int32))), (.ref b9), (.ref b9)])) rfl (hb hby at_52) rfl (by decide) (cap := 0) (by decide) (by decide) (by decide) (by decide)
  obtain ⟨b10, g10⟩ : ∃ z, z = h9.size := ⟨_, rfl⟩
  rw [← g10] at A10 st10
  have V_b10 := Arv.new A10 (by decide)
  have g_b10 : n0 ≤ b10 := Nat.le_trans (Nat.le_trans (Nat.le_trans (Nat.le_trans (Nat.le_trans (Nat.le_trans (Nat.le_trans (Nat.le_trans Z0 E3.1) E4.1) Kc5.1) E6.1) E7.1) Kc8.1) E9.1) (Nat.le_of_eq g10.symm)
  have sz_b10 : h0.size ≤ b10 := (Nat.le_trans K9.1 (Nat.le_of_eq g10.symm))
  have K10 : Keep h0 h10 [] := K9.ext E10
  obtain ⟨_, _, ⟨T11, L11, k11, n11⟩, -, X11, ⟨Lc11, hQ11, l11, y11, z11⟩, st11⟩ := X10.specialBack hx (y := (⟨"com/example/hushwire/hushwire/BlockContent$RouterInfoBlock", "<init>", "(I[B)V"⟩ : MethodName)) rfl hown (mvT hZ (hw _ (List.mem_of_getElem? (i := 4) rfl))) (mvT hZ (hw _ (List.mem_of_getElem? (i := 5) rfl))) (mvT hZ (hw _ (List.mem_of_getElem? (i := 6) rfl))) (by decide) (backOf (W := 1) (rm1 l Z a0 hw [] b9 ((p1 &&& (255 : Int32)) ^^^ (1 : Int32)) b10 (.int (0 : Int32)) .null h10 n0 (Nat.le_trans Z0 K10.1) (E_b9.ext E10) (F_flag_b9.ext E10) g_b9 (F_routerInfo_b9.ext E10)) hZ (hw _ (List.mem_of_getElem? (i := 6) rfl)) (hw _ (List.mem_of_getElem? (i := 2) rfl)) (by decide) (by decide)) (g := (mkF m 54 #[.val (.int p1), .val (.int p2), .val (.int (p1 &&& (255 : Int32))), .val (.int ((p1 &&& (255 : Int32)) ^^^ (p2 &&& (254 : Int32)))), .val (.int ((p1 &&& (255 : Int32)) ^^^ (1 : Int32))), .val (.ref b3), .val (.ref b6), .unset, .unset] [(.ref b10), (.int ((p1 &&& (255 : Int32)) ^^^ (1 : Int32))), (.ref b9), (.ref b9)])) rfl (by rw [hml]; rfl) (Steps.refl _) (a := b9) (argsL := [(.int ((p1 &&& (255 : Int32)) ^^^ (1 : Int32))), (.ref b10)]) (rest := [(.ref b9)]) (lenOf pd_0_0 rfl) rfl (by show 2 * 0 + _ ≤ _; exact Nat.le_of_eq rfl) (hb hby at_54) (fun _ _ => ⟨rfl, e10, (by decide : 6 + 0 ≤ _), (by decide : 6 + 0 ≤ _)⟩)
  dsimp only [Pt.U, Pt.locs, Pt.cells, Pt.slots] at X11 l11 y11 z11 st11 hQ11
  subst l11 y11 z11
  obtain ⟨rfl, N11q, Kc11, Ec11, Fc11⟩ := hQ11
  have K11 : Keep h0 T11.heap [] := K10.trans Kc11 (fun x hx => Or.inr (by cases List.mem_singleton.mp hx; exact sz_b9))
  have N11 := Fr.app N8 N11q
  have n36 : b3 ∉ [b6] := fun hx => by have h1 := List.mem_singleton.mp hx; have h2 := Fc5.lt; rw [h1, g6] at h2; exact Nat.lt_irrefl _ h2
  have Fa3 := ((Fc5.ext E6).ext E7).keep Kc8 n36
  have n39 : b3 ∉ [b9] := fun hx => by have h1 := List.mem_singleton.mp hx; have h2 := Fa3.lt; rw [h1, g9] at h2; exact Nat.lt_irrefl _ h2
  have Fb3 := ((Fa3.ext E9).ext E10).keep Kc11 n39
  have n69 : b6 ∉ [b9] := fun hx => by have h1 := List.mem_singleton.mp hx; have h2 := Fc8.lt; rw [h1, g9] at h2; exact Nat.lt_irrefl _ h2
  have Fb6 := ((Fc8.ext E9).ext E10).keep Kc11 n69
  have Z11 : n0 ≤ T11.heap.size := Nat.le_trans Z0 K11.1
  obtain ⟨cq12, kq12, q12a, q12b, q12c⟩ := isOf hZ rfl ((((((((E_b3.ext E4).keep Kc5).ext E6).ext E7).keep Kc8).ext E9).ext E10).keep Kc11)
  obtain ⟨_, _, ⟨T12, L12, k12, n12⟩, -, X12, ⟨Lc12, hQ12, l12, y12, z12⟩, st12⟩ := X11.virtualBack hx (y := (⟨"com/example/hushwire/hushwire/BlockContent$RouterInfoBlock", "flood", "()Z"⟩ : MethodName)) (z := (⟨"com/example/hushwire/hushwire/BlockContent$RouterInfoBlock", "flood", "()Z"⟩ : MethodName)) hown (mvT hZ (hw _ (List.mem_of_getElem? (i := 19) rfl))) (mvT hZ (hw _ (List.mem_of_getElem? (i := 20) rfl))) (notFace_of_selects (args := #[]) (mvT hZ (hw _ (List.mem_of_getElem? (i := 22) rfl)))) (mvT hZ (hw _ (List.mem_of_getElem? (i := 22) rfl))) (mvT hZ (hw _ (List.mem_of_getElem? (i := 21) rfl))) (by decide) (backOf (W := 0) (rm4 l Z a0 hw [] b3 (p1 &&& (255 : Int32)) T11.heap n0 Z11 Fb3) hZ (hw _ (List.mem_of_getElem? (i := 23) rfl)) (hw _ (List.mem_of_getElem? (i := 2) rfl)) (by decide) (by decide)) q12a q12c (g := (mkF m 79 #[.val (.int p1), .val (.int p2), .val (.int (p1 &&& (255 : Int32))), .val (.int ((p1 &&& (255 : Int32)) ^^^ (p2 &&& (254 : Int32)))), .val (.int ((p1 &&& (255 : Int32)) ^^^ (1 : Int32))), .val (.ref b3), .val (.ref b6), .val (.ref b9), .val (.int (1 : Int32))] [(.ref b3)])) rfl (by rw [hml]; rfl) (Steps.refl _) (argsL := []) (rest := []) (lenOf pd_0_2 rfl) rfl (by show 2 * 0 + _ ≤ _; exact Nat.le_of_eq rfl) (hb hby at_79) (fun _ _ => ⟨rfl, rfl, (by decide : 6 + 0 ≤ _), (by decide : 6 + 0 ≤ _)⟩)
  dsimp only [Pt.U, Pt.locs, Pt.cells, Pt.slots] at X12 l12 y12 z12 st12 hQ12
  subst l12 y12 z12
  obtain ⟨rfl, N12q, e12⟩ := hQ12
  have Kc12 : Keep T11.heap T12.heap [] := by rw [e12]; exact Keep.refl _ _
  have N12 := Fr.app N11 N12q
  obtain ⟨cq13, kq13, q13a, q13b, q13c⟩ := isOf hZ rfl ((((((E_b6.ext E7).keep Kc8).ext E9).ext E10).keep Kc11).keep Kc12)
  obtain ⟨_, _, ⟨T13, L13, k13, n13⟩, -, X13, ⟨Lc13, hQ13, l13, y13, z13⟩, st13⟩ := X12.virtualBack hx (y := (⟨"com/example/hushwire/hushwire/BlockContent$RouterInfoBlock", "flood", "()Z"⟩ : MethodName)) (z := (⟨"com/example/hushwire/hushwire/BlockContent$RouterInfoBlock", "flood", "()Z"⟩ : MethodName)) hown (mvT hZ (hw _ (List.mem_of_getElem? (i := 19) rfl))) (mvT hZ (hw _ (List.mem_of_getElem? (i := 20) rfl))) (notFace_of_selects (args := #[]) (mvT hZ (hw _ (List.mem_of_getElem? (i := 22) rfl)))) (mvT hZ (hw _ (List.mem_of_getElem? (i := 22) rfl))) (mvT hZ (hw _ (List.mem_of_getElem? (i := 21) rfl))) (by decide) (backOf (W := 0) (rm4 l Z a0 hw [] b6 ((p1 &&& (255 : Int32)) ^^^ (p2 &&& (254 : Int32))) T12.heap n0 (Nat.le_trans Z11 Kc12.1) (Fb6.keep Kc12 List.not_mem_nil)) hZ (hw _ (List.mem_of_getElem? (i := 23) rfl)) (hw _ (List.mem_of_getElem? (i := 2) rfl)) (by decide) (by decide)) q13a q13c (g := (mkF m 89 #[.val (.int p1), .val (.int p2), .val (.int (p1 &&& (255 : Int32))), .val (.int ((p1 &&& (255 : Int32)) ^^^ (p2 &&& (254 : Int32)))), .val (.int ((p1 &&& (255 : Int32)) ^^^ (1 : Int32))), .val (.ref b3), .val (.ref b6), .val (.ref b9), .val (.int (1 : Int32))] [(.ref b6)])) rfl (by rw [hml]; rfl) (Steps.refl _) (argsL := []) (rest := []) (lenOf pd_0_2 rfl) rfl (by show 2 * 0 + _ ≤ _; exact Nat.le_of_eq rfl) (hb hby at_89) (fun _ _ => ⟨rfl, rfl, (by decide : 6 + 0 ≤ _), (by decide : 6 + 0 ≤ _)⟩)
  dsimp only [Pt.U, Pt.locs, Pt.cells, Pt.slots] at X13 l13 y13 z13 st13 hQ13
  subst l13 y13 z13
  obtain ⟨rfl, N13q, e13⟩ := hQ13
  have Kc13 : Keep T12.heap T13.heap [] := by rw [e13]; exact Keep.refl _ _
  have N13 := Fr.app N12 N13q
  obtain ⟨cq14, kq14, q14a, q14b, q14c⟩ := isOf hZ rfl ((((E_b9.ext E10).keep Kc11).keep Kc12).keep Kc13)
  obtain ⟨_, _, ⟨T14, L14, k14, n14⟩, -, X14, ⟨Lc14, hQ14, l14, y14, z14⟩, st14⟩ := X13.virtualBack hx (y := (⟨"com/example/hushwire/hushwire/BlockContent$RouterInfoBlock", "flood", "()Z"⟩ : MethodName)) (z := (⟨"com/example/hushwire/hushwire/BlockContent$RouterInfoBlock", "flood", "()Z"⟩ : MethodName)) hown (mvT hZ (hw _ (List.mem_of_getElem? (i := 19) rfl))) (mvT hZ (hw _ (List.mem_of_getElem? (i := 20) rfl))) (notFace_of_selects (args := #[]) (mvT hZ (hw _ (List.mem_of_getElem? (i := 22) rfl)))) (mvT hZ (hw _ (List.mem_of_getElem? (i := 22) rfl))) (mvT hZ (hw _ (List.mem_of_getElem? (i := 21) rfl))) (by decide) (backOf (W := 0) (rm4 l Z a0 hw [] b9 ((p1 &&& (255 : Int32)) ^^^ (1 : Int32)) T13.heap n0 (Nat.le_trans (Nat.le_trans Z11 Kc12.1) Kc13.1) ((Fc11.keep Kc12 List.not_mem_nil).keep Kc13 List.not_mem_nil)) hZ (hw _ (List.mem_of_getElem? (i := 23) rfl)) (hw _ (List.mem_of_getElem? (i := 2) rfl)) (by decide) (by decide)) q14a q14c (g := (mkF m 99 #[.val (.int p1), .val (.int p2), .val (.int (p1 &&& (255 : Int32))), .val (.int ((p1 &&& (255 : Int32)) ^^^ (p2 &&& (254 : Int32)))), .val (.int ((p1 &&& (255 : Int32)) ^^^ (1 : Int32))), .val (.ref b3), .val (.ref b6), .val (.ref b9), .val (.int (1 : Int32))] [(.ref b9)])) rfl (by rw [hml]; rfl) (Steps.refl _) (argsL := []) (rest := []) (lenOf pd_0_2 rfl) rfl (by show 2 * 0 + _ ≤ _; exact Nat.le_of_eq rfl) (hb hby at_99) (fun _ _ => ⟨rfl, rfl, (by decide : 6 + 0 ≤ _), (by decide : 6 + 0 ≤ _)⟩)
  dsimp only [Pt.U, Pt.locs, Pt.cells, Pt.slots] at X14 l14 y14 z14 st14 hQ14
  subst l14 y14 z14
  obtain ⟨rfl, N14q, e14⟩ := hQ14
  have Kc14 : Keep T13.heap T14.heap [] := by rw [e14]; exact Keep.refl _ _
  have N14 := Fr.app N13 N14q
  obtain ⟨fs, hr, hrun, hended, hW, hsame⟩ := X14.leave (v := some (.int (1 : Int32))) (fun h => by rw [Bd.returns] at h; cases h)
  refine ⟨_, _, pre0 _ ?_, hrun, hended, _, _, rfl, ?_, ⟨_, rfl⟩, hW, hsame.mono (by decide) (by decide)⟩
  · show Steps p.tables e below (s₁.setTop (mkF m 0 #[.val (.int p1), .val (.int p2), .unset, .unset, .unset, .unset, .unset, .unset, .unset] [])) _
    refine XS.iloadN X0.here hx rfl (hb hby at_0) rfl ?_
    show Steps p.tables e below (s₁.setTop (mkF m 1 #[.val (.int p1), .val (.int p2), .unset, .unset, .unset, .unset, .unset, .unset, .unset] [(.int p1)])) _
    refine XS.sipush X0.here hx rfl (hb hby at_1) ?_
    show Steps p.tables e below (s₁.setTop (mkF m 4 #[.val (.int p1), .val (.int p2), .unset, .unset, .unset, .unset, .unset, .unset, .unset] [(.int (255 : Int32)), (.int p1)])) _
    refine XS.iand X0.here hx rfl (hb hby at_4) rfl ?_
    show Steps p.tables e below (s₁.setTop (mkF m 5 #[.val (.int p1), .val (.int p2), .unset, .unset, .unset, .unset, .unset, .unset, .unset] [(.int (p1 &&& (255 : Int32)))])) _
    refine XS.istoreN X0.here hx rfl (hb hby at_5) rfl (l' := #[.val (.int p1), .val (.int p2), .val (.int (p1 &&& (255 : Int32))), .unset, .unset, .unset, .unset, .unset, .unset]) rfl ?_
    show Steps p.tables e below (s₁.setTop (mkF m 6 #[.val (.int p1), .val (.int p2), .val (.int (p1 &&& (255 : Int32))), .unset, .unset, .unset, .unset, .unset, .unset] [])) _
    refine XS.iloadN X0.here hx rfl (hb hby at_6) rfl ?_
    show Steps p.tables e below (s₁.setTop (mkF m 7 #[.val (.int p1), .val (.int p2), .val (.int (p1 &&& (255 : Int32))), .unset, .unset, .unset, .unset, .unset, .unset] [(.int (p1 &&& (255 : Int32)))])) _
    refine XS.iloadN X0.here hx rfl (hb hby at_7) rfl ?_
    show Steps p.tables e below (s₁.setTop (mkF m 8 #[.val (.int p1), .val (.int p2), .val (.int (p1 &&& (255 : Int32))), .unset, .unset, .unset, .unset, .unset, .unset] [(.int p2), (.int (p1 &&& (255 : Int32)))])) _
    refine XS.sipush X0.here hx rfl (hb hby at_8) ?_
    show Steps p.tables e below (s₁.setTop (mkF m 11 #[.val (.int p1), .val (.int p2), .val (.int (p1 &&& (255 : Int32))), .unset, .unset, .unset, .unset, .unset, .unset] [(.int (254 : Int32)), (.int p2), (.int (p1 &&& (255 : Int32)))])) _
    refine XS.iand X0.here hx rfl (hb hby at_11) rfl ?_
    show Steps p.tables e below (s₁.setTop (mkF m 12 #[.val (.int p1), .val (.int p2), .val (.int (p1 &&& (255 : Int32))), .unset, .unset, .unset, .unset, .unset, .unset] [(.int (p2 &&& (254 : Int32))), (.int (p1 &&& (255 : Int32)))])) _
    refine XS.ixor X0.here hx rfl (hb hby at_12) rfl ?_
    show Steps p.tables e below (s₁.setTop (mkF m 13 #[.val (.int p1), .val (.int p2), .val (.int (p1 &&& (255 : Int32))), .unset, .unset, .unset, .unset, .unset, .unset] [(.int ((p1 &&& (255 : Int32)) ^^^ (p2 &&& (254 : Int32))))])) _
    refine XS.istoreN X0.here hx rfl (hb hby at_13) rfl (l' := #[.val (.int p1), .val (.int p2), .val (.int (p1 &&& (255 : Int32))), .val (.int ((p1 &&& (255 : Int32)) ^^^ (p2 &&& (254 : Int32)))), .unset, .unset, .unset, .unset, .unset]) rfl ?_
    show Steps p.tables e below (s₁.setTop (mkF m 14 #[.val (.int p1), .val (.int p2), .val (.int (p1 &&& (255 : Int32))), .val (.int ((p1 &&& (255 : Int32)) ^^^ (p2 &&& (254 : Int32)))), .unset, .unset, .unset, .unset, .unset] [])) _
    refine XS.iloadN X0.here hx rfl (hb hby at_14) rfl ?_
    show Steps p.tables e below (s₁.setTop (mkF m 15 #[.val (.int p1), .val (.int p2), .val (.int (p1 &&& (255 : Int32))), .val (.int ((p1 &&& (255 : Int32)) ^^^ (p2 &&& (254 : Int32)))), .unset, .unset, .unset, .unset, .unset] [(.int (p1 &&& (255 : Int32)))])) _
    refine XS.iconst X0.here hx rfl (hb hby at_15) ?_
    show Steps p.tables e below (s₁.setTop (mkF m 16 #[.val (.int p1), .val (.int p2), .val (.int (p1 &&& (255 : Int32))), .val (.int ((p1 &&& (255 : Int32)) ^^^ (p2 &&& (254 : Int32)))), .unset, .unset, .unset, .unset, .unset] [(.int (1 : Int32)), (.int (p1 &&& (255 : Int32)))])) _
    refine XS.ixor X0.here hx rfl (hb hby at_16) rfl ?_
    show Steps p.tables e below (s₁.setTop (mkF m 17 #[.val (.int p1), .val (.int p2), .val (.int (p1 &&& (255 : Int32))), .val (.int ((p1 &&& (255 : Int32)) ^^^ (p2 &&& (254 : Int32)))), .unset, .unset, .unset, .unset, .unset] [(.int ((p1 &&& (255 : Int32)) ^^^ (1 : Int32)))])) _
    refine XS.istore X0.here hx rfl (hb hby at_17) rfl (l' := #[.val (.int p1), .val (.int p2), .val (.int (p1 &&& (255 : Int32))), .val (.int ((p1 &&& (255 : Int32)) ^^^ (p2 &&& (254 : Int32)))), .val (.int ((p1 &&& (255 : Int32)) ^^^ (1 : Int32))), .unset, .unset, .unset, .unset]) rfl ?_
    show Steps p.tables e below (s₁.setTop (mkF m 19 #[.val (.int p1), .val (.int p2), .val (.int (p1 &&& (255 : Int32))), .val (.int ((p1 &&& (255 : Int32)) ^^^ (p2 &&& (254 : Int32)))), .val (.int ((p1 &&& (255 : Int32)) ^^^ (1 : Int32))), .unset, .unset, .unset, .unset] [])) _
    refine st3 _ ?_
    show Steps p.tables e below (T3.setTop (mkF m 22 #[.val (.int p1), .val (.int p2), .val (.int (p1 &&& (255 : Int32))), .val (.int ((p1 &&& (255 : Int32)) ^^^ (p2 &&& (254 : Int32)))), .val (.int ((p1 &&& (255 : Int32)) ^^^ (1 : Int32))), .unset, .unset, .unset, .unset] [(.ref b3)])) _
    refine XS.dup X3.here hx rfl (hb hby at_22) rfl rfl ?_
    show Steps p.tables e below (T3.setTop (mkF m 23 #[.val (.int p1), .val (.int p2), .val (.int (p1 &&& (255 : Int32))), .val (.int ((p1 &&& (255 : Int32)) ^^^ (p2 &&& (254 : Int32)))), .val (.int ((p1 &&& (255 : Int32)) ^^^ (1 : Int32))), .unset, .unset, .unset, .unset] [(.ref b3), (.ref b3)])) _
    refine XS.iloadN X3.here hx rfl (hb hby at_23) rfl ?_
    show Steps p.tables e below (T3.setTop (mkF m 24 #[.val (.int p1), .val (.int p2), .val (.int (p1 &&& (255 : Int32))), .val (.int ((p1 &&& (255 : Int32)) ^^^ (p2 &&& (254 : Int32)))), .val (.int ((p1 &&& (255 : Int32)) ^^^ (1 : Int32))), .unset, .unset, .unset, .unset] [(.int (p1 &&& (255 : Int32))), (.ref b3), (.ref b3)])) _
    refine XS.iconst X3.here hx rfl (hb hby at_24) ?_
    show Steps p.tables e below (T3.setTop (mkF m 25 #[.val (.int p1), .val (.int p2), .val (.int (p1 &&& (255 : Int32))), .val (.int ((p1 &&& (255 : Int32)) ^^^ (p2 &&& (254 : Int32)))), .val (.int ((p1 &&& (255 : Int32)) ^^^ (1 : Int32))), .unset, .unset, .unset, .unset] [(.int (0 : Int32)), (.int (p1 &&& (255 : Int32))), (.ref b3), (.ref b3)])) _
    refine st4 _ ?_
    show Steps p.tables e below (T4.setTop (mkF m 27 #[.val (.int p1), .val (.int p2), .val (.int (p1 &&& (255 : Int32))), .val (.int ((p1 &&& (255 : Int32)) ^^^ (p2 &&& (254 : Int32)))), .val (.int ((p1 &&& (255 : Int32)) ^^^ (1 : Int32))), .unset, .unset, .unset, .unset] [(.ref b4), (.int (p1 &&& (255 : Int32))), (.ref b3), (.ref b3)])) _
    refine st5.trans ?_
    show Steps p.tables e below (T5.setTop (mkF m 30 #[.val (.int p1), .val (.int p2), .val (.int (p1 &&& (255 : Int32))), .val (.int ((p1 &&& (255 : Int32)) ^^^ (p2 &&& (254 : Int32)))), .val (.int ((p1 &&& (255 : Int32)) ^^^ (1 : Int32))), .unset, .unset, .unset, .unset] [(.ref b3)])) _
    refine XS.astore X5.here hx rfl (hb hby at_30) rfl rfl (l' := #[.val (.int p1), .val (.int p2), .val (.int (p1 &&& (255 : Int32))), .val (.int ((p1 &&& (255 : Int32)) ^^^ (p2 &&& (254 : Int32)))), .val (.int ((p1 &&& (255 : Int32)) ^^^ (1 : Int32))), .val (.ref b3), .unset, .unset, .unset]) rfl ?_
    show Steps p.tables e below (T5.setTop (mkF m 32 #[.val (.int p1), .val (.int p2), .val (.int (p1 &&& (255 : Int32))), .val (.int ((p1 &&& (255 : Int32)) ^^^ (p2 &&& (254 : Int32)))), .val (.int ((p1 &&& (255 : Int32)) ^^^ (1 : Int32))), .val (.ref b3), .unset, .unset, .unset] [])) _
    refine st6 _ ?_
    show Steps p.tables e below (T6.setTop (mkF m 35 #[.val (.int p1), .val (.int p2), .val (.int (p1 &&& (255 : Int32))), .val (.int ((p1 &&& (255 : Int32)) ^^^ (p2 &&& (254 : Int32)))), .val (.int ((p1 &&& (255 : Int32)) ^^^ (1 : Int32))), .val (.ref b3), .unset, .unset, .unset] [(.ref b6)])) _
    refine XS.dup X6.here hx rfl (hb hby at_35) rfl rfl ?_
    show Steps p.tables e below (T6.setTop (mkF m 36 #[.val (.int p1), .val (.int p2), .val (.int (p1 &&& (255 : Int32))), .val (.int ((p1 &&& (255 : Int32)) ^^^ (p2 &&& (254 : Int32)))), .val (.int ((p1 &&& (255 : Int32)) ^^^ (1 : Int32))), .val (.ref b3), .unset, .unset, .unset] [(.ref b6), (.ref b6)])) _
    refine XS.iloadN X6.here hx rfl (hb hby at_36) rfl ?_
    show Steps p.tables e below (T6.setTop (mkF m 37 #[.val (.int p1), .val (.int p2), .val (.int (p1 &&& (255 : Int32))), .val (.int ((p1 &&& (255 : Int32)) ^^^ (p2 &&& (254 : Int32)))), .val (.int ((p1 &&& (255 : Int32)) ^^^ (1 : Int32))), .val (.ref b3), .unset, .unset, .unset] [(.int ((p1 &&& (255 : Int32)) ^^^ (p2 &&& (254 : Int32)))), (.ref b6), (.ref b6)])) _
    refine XS.iconst X6.here hx rfl (hb hby at_37) ?_
    show Steps p.tables e below (T6.setTop (mkF m 38 #[.val (.int p1), .val (.int p2), .val (.int (p1 &&& (255 : Int32))), .val (.int ((p1 &&& (255 : Int32)) ^^^ (p2 &&& (254 : Int32)))), .val (.int ((p1 &&& (255 : Int32)) ^^^ (1 : Int32))), .val (.ref b3), .unset, .unset, .unset] [(.int (0 : Int32)), (.int ((p1 &&& (255 : Int32)) ^^^ (p2 &&& (254 : Int32)))), (.ref b6), (.ref b6)])) _
    refine st7 _ ?_
    show Steps p.tables e below (T7.setTop (mkF m 40 #[.val (.int p1), .val (.int p2), .val (.int (p1 &&& (255 : Int32))), .val (.int ((p1 &&& (255 : Int32)) ^^^ (p2 &&& (254 : Int32)))), .val (.int ((p1 &&& (255 : Int32)) ^^^ (1 : Int32))), .val (.ref b3), .unset, .unset, .unset] [(.ref b7), (.int ((p1 &&& (255 : Int32)) ^^^ (p2 &&& (254 : Int32)))), (.ref b6), (.ref b6)])) _
    refine st8.trans ?_
    show Steps p.tables e below (T8.setTop (mkF m 43 #[.val (.int p1), .val (.int p2), .val (.int (p1 &&& (255 : Int32))), .val (.int ((p1 &&& (255 : Int32)) ^^^ (p2 &&& (254 : Int32)))), .val (.int ((p1 &&& (255 : Int32)) ^^^ (1 : Int32))), .val (.ref b3), .unset, .unset, .unset] [(.ref b6)])) _
    refine XS.astore X8.here hx rfl (hb hby at_43) rfl rfl (l' := #[.val (.int p1), .val (.int p2), .val (.int (p1 &&& (255 : Int32))), .val (.int ((p1 &&& (255 : Int32)) ^^^ (p2 &&& (254 : Int32)))), .val (.int ((p1 &&& (255 : Int32)) ^^^ (1 : Int32))), .val (.ref b3), .val (.ref b6), .unset, .unset]) rfl ?_
    show Steps p.tables e below (T8.setTop (mkF m 45 #[.val (.int p1), .val (.int p2), .val (.int (p1 &&& (255 : Int32))), .val (.int ((p1 &&& (255 : Int32)) ^^^ (p2 &&& (254 : Int32)))), .val (.int ((p1 &&& (255 : Int32)) ^^^ (1 : Int32))), .val (.ref b3), .val (.ref b6), .unset, .unset] [])) _
    refine st9 _ ?_
    show Steps p.tables e below (T9.setTop (mkF m 48 #[.val (.int p1), .val (.int p2), .val (.int (p1 &&& (255 : Int32))), .val (.int ((p1 &&& (255 : Int32)) ^^^ (p2 &&& (254 : Int32)))), .val (.int ((p1 &&& (255 : Int32)) ^^^ (1 : Int32))), .val (.ref b3), .val (.ref b6), .unset, .unset] [(.ref b9)])) _
    refine XS.dup X9.here hx rfl (hb hby at_48) rfl rfl ?_
    show Steps p.tables e below (T9.setTop (mkF m 49 #[.val (.int p1), .val (.int p2), .val (.int (p1 &&& (255 : Int32))), .val (.int ((p1 &&& (255 : Int32)) ^^^ (p2 &&& (254 : Int32)))), .val (.int ((p1 &&& (255 : Int32)) ^^^ (1 : Int32))), .val (.ref b3), .val (.ref b6), .unset, .unset] [(.ref b9), (.ref b9)])) _
    refine XS.iload X9.here hx rfl (hb hby at_49) rfl ?_
    show Steps p.tables e below (T9.setTop (mkF m 51 #[.val (.int p1), .val (.int p2), .val (.int (p1 &&& (255 : Int32))), .val (.int ((p1 &&& (255 : Int32)) ^^^ (p2 &&& (254 : Int32)))), .val (.int ((p1 &&& (255 : Int32)) ^^^ (1 : Int32))), .val (.ref b3), .val (.ref b6), .unset, .unset] [(.int ((p1 &&& (255 : Int32)) ^^^ (1 : Int32))), (.ref b9), (.ref b9)])) _
    refine XS.iconst X9.here hx rfl (hb hby at_51) ?_
    show Steps p.tables e below (T9.setTop (mkF m 52 #[.val (.int p1), .val (.int p2), .val (.int (p1 &&& (255 : Int32))), .val (.int ((p1 &&& (255 : Int32)) ^^^ (p2 &&& (254 : Int32)))), .val (.int ((p1 &&& (255 : Int32)) ^^^ (1 : Int32))), .val (.ref b3), .val (.ref b6), .unset, .unset] [(.int (0 : Int32)), (.int ((p1 &&& (255 : Int32)) ^^^ (1 : Int32))), (.ref b9), (.ref b9)])) _
    refine st10 _ ?_
    show Steps p.tables e below (T10.setTop (mkF m 54 #[.val (.int p1), .val (.int p2), .val (.int (p1 &&& (255 : Int32))), .val (.int ((p1 &&& (255 : Int32)) ^^^ (p2 &&& (254 : Int32)))), .val (.int ((p1 &&& (255 : Int32)) ^^^ (1 : Int32))), .val (.ref b3), .val (.ref b6), .unset, .unset] [(.ref b10), (.int ((p1 &&& (255 : Int32)) ^^^ (1 : Int32))), (.ref b9), (.ref b9)])) _
    refine st11.trans ?_
    show Steps p.tables e below (T11.setTop (mkF m 57 #[.val (.int p1), .val (.int p2), .val (.int (p1 &&& (255 : Int32))), .val (.int ((p1 &&& (255 : Int32)) ^^^ (p2 &&& (254 : Int32)))), .val (.int ((p1 &&& (255 : Int32)) ^^^ (1 : Int32))), .val (.ref b3), .val (.ref b6), .unset, .unset] [(.ref b9)])) _
    refine XS.astore X11.here hx rfl (hb hby at_57) rfl rfl (l' := #[.val (.int p1), .val (.int p2), .val (.int (p1 &&& (255 : Int32))), .val (.int ((p1 &&& (255 : Int32)) ^^^ (p2 &&& (254 : Int32)))), .val (.int ((p1 &&& (255 : Int32)) ^^^ (1 : Int32))), .val (.ref b3), .val (.ref b6), .val (.ref b9), .unset]) rfl ?_
    show Steps p.tables e below (T11.setTop (mkF m 59 #[.val (.int p1), .val (.int p2), .val (.int (p1 &&& (255 : Int32))), .val (.int ((p1 &&& (255 : Int32)) ^^^ (p2 &&& (254 : Int32)))), .val (.int ((p1 &&& (255 : Int32)) ^^^ (1 : Int32))), .val (.ref b3), .val (.ref b6), .val (.ref b9), .unset] [])) _
    refine XS.iloadN X11.here hx rfl (hb hby at_59) rfl ?_
    show Steps p.tables e below (T11.setTop (mkF m 60 #[.val (.int p1), .val (.int p2), .val (.int (p1 &&& (255 : Int32))), .val (.int ((p1 &&& (255 : Int32)) ^^^ (p2 &&& (254 : Int32)))), .val (.int ((p1 &&& (255 : Int32)) ^^^ (1 : Int32))), .val (.ref b3), .val (.ref b6), .val (.ref b9), .unset] [(.int (p1 &&& (255 : Int32)))])) _
    refine XS.iconst X11.here hx rfl (hb hby at_60) ?_
    show Steps p.tables e below (T11.setTop (mkF m 61 #[.val (.int p1), .val (.int p2), .val (.int (p1 &&& (255 : Int32))), .val (.int ((p1 &&& (255 : Int32)) ^^^ (p2 &&& (254 : Int32)))), .val (.int ((p1 &&& (255 : Int32)) ^^^ (1 : Int32))), .val (.ref b3), .val (.ref b6), .val (.ref b9), .unset] [(.int (2 : Int32)), (.int (p1 &&& (255 : Int32)))])) _
    refine XS.iloadN X11.here hx rfl (hb hby at_61) rfl ?_
    show Steps p.tables e below (T11.setTop (mkF m 62 #[.val (.int p1), .val (.int p2), .val (.int (p1 &&& (255 : Int32))), .val (.int ((p1 &&& (255 : Int32)) ^^^ (p2 &&& (254 : Int32)))), .val (.int ((p1 &&& (255 : Int32)) ^^^ (1 : Int32))), .val (.ref b3), .val (.ref b6), .val (.ref b9), .unset] [(.int (p1 &&& (255 : Int32))), (.int (2 : Int32)), (.int (p1 &&& (255 : Int32)))])) _
    refine XS.iconst X11.here hx rfl (hb hby at_62) ?_
    show Steps p.tables e below (T11.setTop (mkF m 63 #[.val (.int p1), .val (.int p2), .val (.int (p1 &&& (255 : Int32))), .val (.int ((p1 &&& (255 : Int32)) ^^^ (p2 &&& (254 : Int32)))), .val (.int ((p1 &&& (255 : Int32)) ^^^ (1 : Int32))), .val (.ref b3), .val (.ref b6), .val (.ref b9), .unset] [(.int (2 : Int32)), (.int (p1 &&& (255 : Int32))), (.int (2 : Int32)), (.int (p1 &&& (255 : Int32)))])) _
    refine XS.idiv X11.here hx rfl (hb hby at_63) rfl hnz63 ?_
    show Steps p.tables e below (T11.setTop (mkF m 64 #[.val (.int p1), .val (.int p2), .val (.int (p1 &&& (255 : Int32))), .val (.int ((p1 &&& (255 : Int32)) ^^^ (p2 &&& (254 : Int32)))), .val (.int ((p1 &&& (255 : Int32)) ^^^ (1 : Int32))), .val (.ref b3), .val (.ref b6), .val (.ref b9), .unset] [(.int ((p1 &&& (255 : Int32)) / (2 : Int32))), (.int (2 : Int32)), (.int (p1 &&& (255 : Int32)))])) _
    refine XS.imul X11.here hx rfl (hb hby at_64) rfl ?_
    show Steps p.tables e below (T11.setTop (mkF m 65 #[.val (.int p1), .val (.int p2), .val (.int (p1 &&& (255 : Int32))), .val (.int ((p1 &&& (255 : Int32)) ^^^ (p2 &&& (254 : Int32)))), .val (.int ((p1 &&& (255 : Int32)) ^^^ (1 : Int32))), .val (.ref b3), .val (.ref b6), .val (.ref b9), .unset] [(.int ((2 : Int32) * ((p1 &&& (255 : Int32)) / (2 : Int32)))), (.int (p1 &&& (255 : Int32)))])) _
    refine XS.isub X11.here hx rfl (hb hby at_65) rfl ?_
    show Steps p.tables e below (T11.setTop (mkF m 66 #[.val (.int p1), .val (.int p2), .val (.int (p1 &&& (255 : Int32))), .val (.int ((p1 &&& (255 : Int32)) ^^^ (p2 &&& (254 : Int32)))), .val (.int ((p1 &&& (255 : Int32)) ^^^ (1 : Int32))), .val (.ref b3), .val (.ref b6), .val (.ref b9), .unset] [(.int ((p1 &&& (255 : Int32)) - ((2 : Int32) * ((p1 &&& (255 : Int32)) / (2 : Int32)))))])) _
    refine XS.iconst X11.here hx rfl (hb hby at_66) ?_
    show Steps p.tables e below (T11.setTop (mkF m 67 #[.val (.int p1), .val (.int p2), .val (.int (p1 &&& (255 : Int32))), .val (.int ((p1 &&& (255 : Int32)) ^^^ (p2 &&& (254 : Int32)))), .val (.int ((p1 &&& (255 : Int32)) ^^^ (1 : Int32))), .val (.ref b3), .val (.ref b6), .val (.ref b9), .unset] [(.int (1 : Int32)), (.int ((p1 &&& (255 : Int32)) - ((2 : Int32) * ((p1 &&& (255 : Int32)) / (2 : Int32)))))])) _
    refine XS.icmpNo X11.here hx rfl (hb hby at_67) rfl (teq hc67).2 ?_
    show Steps p.tables e below (T11.setTop (mkF m 70 #[.val (.int p1), .val (.int p2), .val (.int (p1 &&& (255 : Int32))), .val (.int ((p1 &&& (255 : Int32)) ^^^ (p2 &&& (254 : Int32)))), .val (.int ((p1 &&& (255 : Int32)) ^^^ (1 : Int32))), .val (.ref b3), .val (.ref b6), .val (.ref b9), .unset] [])) _
    refine XS.iconst X11.here hx rfl (hb hby at_70) ?_
    show Steps p.tables e below (T11.setTop (mkF m 71 #[.val (.int p1), .val (.int p2), .val (.int (p1 &&& (255 : Int32))), .val (.int ((p1 &&& (255 : Int32)) ^^^ (p2 &&& (254 : Int32)))), .val (.int ((p1 &&& (255 : Int32)) ^^^ (1 : Int32))), .val (.ref b3), .val (.ref b6), .val (.ref b9), .unset] [(.int (1 : Int32))])) _
    refine XS.goto X11.here hx rfl (pc0 := 71) (pc' := 75) rfl (hb hby at_71) (by decide) (by decide) ?_
    show Steps p.tables e below (T11.setTop (mkF m 75 #[.val (.int p1), .val (.int p2), .val (.int (p1 &&& (255 : Int32))), .val (.int ((p1 &&& (255 : Int32)) ^^^ (p2 &&& (254 : Int32)))), .val (.int ((p1 &&& (255 : Int32)) ^^^ (1 : Int32))), .val (.ref b3), .val (.ref b6), .val (.ref b9), .unset] [(.int (1 : Int32))])) _
    refine XS.istore X11.here hx rfl (hb hby at_75) rfl (l' := #[.val (.int p1), .val (.int p2), .val (.int (p1 &&& (255 : Int32))), .val (.int ((p1 &&& (255 : Int32)) ^^^ (p2 &&& (254 : Int32)))), .val (.int ((p1 &&& (255 : Int32)) ^^^ (1 : Int32))), .val (.ref b3), .val (.ref b6), .val (.ref b9), .val (.int (1 : Int32))]) rfl ?_
    show Steps p.tables e below (T11.setTop (mkF m 77 #[.val (.int p1), .val (.int p2), .val (.int (p1 &&& (255 : Int32))), .val (.int ((p1 &&& (255 : Int32)) ^^^ (p2 &&& (254 : Int32)))), .val (.int ((p1 &&& (255 : Int32)) ^^^ (1 : Int32))), .val (.ref b3), .val (.ref b6), .val (.ref b9), .val (.int (1 : Int32))] [])) _
    refine XS.aload X11.here hx rfl (hb hby at_77) rfl rfl ?_
    show Steps p.tables e below (T11.setTop (mkF m 79 #[.val (.int p1), .val (.int p2), .val (.int (p1 &&& (255 : Int32))), .val (.int ((p1 &&& (255 : Int32)) ^^^ (p2 &&& (254 : Int32)))), .val (.int ((p1 &&& (255 : Int32)) ^^^ (1 : Int32))), .val (.ref b3), .val (.ref b6), .val (.ref b9), .val (.int (1 : Int32))] [(.ref b3)])) _
    refine st12.trans ?_
    show Steps p.tables e below (T12.setTop (mkF m 82 #[.val (.int p1), .val (.int p2), .val (.int (p1 &&& (255 : Int32))), .val (.int ((p1 &&& (255 : Int32)) ^^^ (p2 &&& (254 : Int32)))), .val (.int ((p1 &&& (255 : Int32)) ^^^ (1 : Int32))), .val (.ref b3), .val (.ref b6), .val (.ref b9), .val (.int (1 : Int32))] [(.int (own_fl (p1 &&& (255 : Int32))))])) _
    refine XS.iload X12.here hx rfl (hb hby at_82) rfl ?_
    show Steps p.tables e below (T12.setTop (mkF m 84 #[.val (.int p1), .val (.int p2), .val (.int (p1 &&& (255 : Int32))), .val (.int ((p1 &&& (255 : Int32)) ^^^ (p2 &&& (254 : Int32)))), .val (.int ((p1 &&& (255 : Int32)) ^^^ (1 : Int32))), .val (.ref b3), .val (.ref b6), .val (.ref b9), .val (.int (1 : Int32))] [(.int (1 : Int32)), (.int (own_fl (p1 &&& (255 : Int32))))])) _
    refine XS.icmpNo X12.here hx rfl (hb hby at_84) rfl (teq (h12 : (own_fl (p1 &&& (255 : Int32))) = (1 : Int32))).2 ?_
    show Steps p.tables e below (T12.setTop (mkF m 87 #[.val (.int p1), .val (.int p2), .val (.int (p1 &&& (255 : Int32))), .val (.int ((p1 &&& (255 : Int32)) ^^^ (p2 &&& (254 : Int32)))), .val (.int ((p1 &&& (255 : Int32)) ^^^ (1 : Int32))), .val (.ref b3), .val (.ref b6), .val (.ref b9), .val (.int (1 : Int32))] [])) _
    refine XS.aload X12.here hx rfl (hb hby at_87) rfl rfl ?_
    show Steps p.tables e below (T12.setTop (mkF m 89 #[.val (.int p1), .val (.int p2), .val (.int (p1 &&& (255 : Int32))), .val (.int ((p1 &&& (255 : Int32)) ^^^ (p2 &&& (254 : Int32)))), .val (.int ((p1 &&& (255 : Int32)) ^^^ (1 : Int32))), .val (.ref b3), .val (.ref b6), .val (.ref b9), .val (.int (1 : Int32))] [(.ref b6)])) _
    refine st13.trans ?_
    show Steps p.tables e below (T13.setTop (mkF m 92 #[.val (.int p1), .val (.int p2), .val (.int (p1 &&& (255 : Int32))), .val (.int ((p1 &&& (255 : Int32)) ^^^ (p2 &&& (254 : Int32)))), .val (.int ((p1 &&& (255 : Int32)) ^^^ (1 : Int32))), .val (.ref b3), .val (.ref b6), .val (.ref b9), .val (.int (1 : Int32))] [(.int (own_fl ((p1 &&& (255 : Int32)) ^^^ (p2 &&& (254 : Int32)))))])) _
    refine XS.iload X13.here hx rfl (hb hby at_92) rfl ?_
    show Steps p.tables e below (T13.setTop (mkF m 94 #[.val (.int p1), .val (.int p2), .val (.int (p1 &&& (255 : Int32))), .val (.int ((p1 &&& (255 : Int32)) ^^^ (p2 &&& (254 : Int32)))), .val (.int ((p1 &&& (255 : Int32)) ^^^ (1 : Int32))), .val (.ref b3), .val (.ref b6), .val (.ref b9), .val (.int (1 : Int32))] [(.int (1 : Int32)), (.int (own_fl ((p1 &&& (255 : Int32)) ^^^ (p2 &&& (254 : Int32)))))])) _
    refine XS.icmpNo X13.here hx rfl (hb hby at_94) rfl (teq (h13 : (own_fl ((p1 &&& (255 : Int32)) ^^^ (p2 &&& (254 : Int32)))) = (1 : Int32))).2 ?_
    show Steps p.tables e below (T13.setTop (mkF m 97 #[.val (.int p1), .val (.int p2), .val (.int (p1 &&& (255 : Int32))), .val (.int ((p1 &&& (255 : Int32)) ^^^ (p2 &&& (254 : Int32)))), .val (.int ((p1 &&& (255 : Int32)) ^^^ (1 : Int32))), .val (.ref b3), .val (.ref b6), .val (.ref b9), .val (.int (1 : Int32))] [])) _
    refine XS.aload X13.here hx rfl (hb hby at_97) rfl rfl ?_
    show Steps p.tables e below (T13.setTop (mkF m 99 #[.val (.int p1), .val (.int p2), .val (.int (p1 &&& (255 : Int32))), .val (.int ((p1 &&& (255 : Int32)) ^^^ (p2 &&& (254 : Int32)))), .val (.int ((p1 &&& (255 : Int32)) ^^^ (1 : Int32))), .val (.ref b3), .val (.ref b6), .val (.ref b9), .val (.int (1 : Int32))] [(.ref b9)])) _
    refine st14.trans ?_
    show Steps p.tables e below (T14.setTop (mkF m 102 #[.val (.int p1), .val (.int p2), .val (.int (p1 &&& (255 : Int32))), .val (.int ((p1 &&& (255 : Int32)) ^^^ (p2 &&& (254 : Int32)))), .val (.int ((p1 &&& (255 : Int32)) ^^^ (1 : Int32))), .val (.ref b3), .val (.ref b6), .val (.ref b9), .val (.int (1 : Int32))] [(.int (own_fl ((p1 &&& (255 : Int32)) ^^^ (1 : Int32))))])) _
    refine XS.iload X14.here hx rfl (hb hby at_102) rfl ?_
    show Steps p.tables e below (T14.setTop (mkF m 104 #[.val (.int p1), .val (.int p2), .val (.int (p1 &&& (255 : Int32))), .val (.int ((p1 &&& (255 : Int32)) ^^^ (p2 &&& (254 : Int32)))), .val (.int ((p1 &&& (255 : Int32)) ^^^ (1 : Int32))), .val (.ref b3), .val (.ref b6), .val (.ref b9), .val (.int (1 : Int32))] [(.int (1 : Int32)), (.int (own_fl ((p1 &&& (255 : Int32)) ^^^ (1 : Int32))))])) _
    refine XS.icmpNo X14.here hx rfl (hb hby at_104) rfl (feq (h14 : ¬ ((own_fl ((p1 &&& (255 : Int32)) ^^^ (1 : Int32))) = (1 : Int32)))).1 ?_
    show Steps p.tables e below (T14.setTop (mkF m 107 #[.val (.int p1), .val (.int p2), .val (.int (p1 &&& (255 : Int32))), .val (.int ((p1 &&& (255 : Int32)) ^^^ (p2 &&& (254 : Int32)))), .val (.int ((p1 &&& (255 : Int32)) ^^^ (1 : Int32))), .val (.ref b3), .val (.ref b6), .val (.ref b9), .val (.int (1 : Int32))] [])) _
    refine XS.iconst X14.here hx rfl (hb hby at_107) ?_
    show Steps p.tables e below (T14.setTop (mkF m 108 #[.val (.int p1), .val (.int p2), .val (.int (p1 &&& (255 : Int32))), .val (.int ((p1 &&& (255 : Int32)) ^^^ (p2 &&& (254 : Int32)))), .val (.int ((p1 &&& (255 : Int32)) ^^^ (1 : Int32))), .val (.ref b3), .val (.ref b6), .val (.ref b9), .val (.int (1 : Int32))] [(.int (1 : Int32))])) _
    refine XS.goto X14.here hx rfl (pc0 := 108) (pc' := 112) rfl (hb hby at_108) (by decide) (by decide) ?_
    show Steps p.tables e below (T14.setTop (mkF m 112 #[.val (.int p1), .val (.int p2), .val (.int (p1 &&& (255 : Int32))), .val (.int ((p1 &&& (255 : Int32)) ^^^ (p2 &&& (254 : Int32)))), .val (.int ((p1 &&& (255 : Int32)) ^^^ (1 : Int32))), .val (.ref b3), .val (.ref b6), .val (.ref b9), .val (.int (1 : Int32))] [(.int (1 : Int32))])) _
    exact retN X14 hx (t := .boolean) Bd.returns (by simp) (hb hby at_112) hr
  · show Q0 Z p1 p2 h0 n0 _ T14.heap _
    exact ⟨rfl, N14⟩
set_option maxRecDepth 65536 in
set_option maxHeartbeats 40000000 in
theorem rm0e (l : Launch) (Z : State) (a0 : Array Value) (hw : ∀ d ∈ tables_1, d.before a0 Z = true) (ws : List Jvm.Cond) (p1 : Int32) (p2 : Int32) (h0 : Heap) (n0 : Nat) (Z0 : n0 ≤ h0.size) (hnz63 : ¬ ((2 : Int32) = (0 : Int32))) (hc67 : ¬ (((p1 &&& (255 : Int32)) - ((2 : Int32) * ((p1 &&& (255 : Int32)) / (2 : Int32)))) = (1 : Int32))) (h12 : own_fl (p1 &&& (255 : Int32)) = (0 : Int32)) (h13 : own_fl ((p1 &&& (255 : Int32)) ^^^ (p2 &&& (254 : Int32))) = (0 : Int32)) (h14 : ¬ own_fl ((p1 &&& (255 : Int32)) ^^^ (1 : Int32)) = (0 : Int32)) :
    MetFree l x (head1 (Jvm.Cond.code x code maxLocals ret :: ws) room_1) (fun a U => a = #[(.int p1), (.int p2)] ∧ Z.Warmed39 U.vm ∧ U.heap = h0) (fun _ _ _ _ _ => True) (fun _ U o U' => ∃ v L, o = .returned v ∧ Q0 Z p1 p2 h0 n0 v U'.heap L ∧ FrameEnd U o U' L room_1.cells room_1.slots) := by
  refine MetFree.of_bodySF (plainFor_of_name pn_0) hisR ?_
  intro p e s m args below meth c s₁ Bd hml0 hP hK
  obtain ⟨rfl, hZ, hh⟩ := hP
  have hx := Bd.exec
  have hby := Bd.bytes
  have hml : c.maxLocals = 9 := hml0
  have hown : s.vm.findClass "com/example/hushwire/hushwire/RouterInfoBlockFloodPinLaw" = some m.cls := findClass_of_methodNamed Bd.named
  have hnm := (name_of_methodNamed Bd.named Bd.method).1
  have X0 : Stand p l e room_1 s m #[(.int p1), (.int p2)] below meth c s₁ [] 0 0 := Stand.of_body Bd
  have e0 : s₁.heap = h0 := by rw [← hh, Bd.state]; rfl
  have N0 := Fr.nil n0
  have pre0 : ∀ t, Steps p.tables e below (s₁.setTop (mkF m 0 #[.val (.int p1), .val (.int p2), .unset, .unset, .unset, .unset, .unset, .unset, .unset] [])) t → Steps p.tables e below (s₁.setTop (entryFrame m #[(.int p1), (.int p2)] maxLocals)) t := fun t k => castTop (ef_0 m p1 p2) k
  obtain ⟨T3, h3, X3, e3, E3, A3, D3, -, st3⟩ := newO X0 hx hZ hown (hw _ (List.mem_of_getElem? (i := 0) rfl)) (hw _ (List.mem_of_getElem? (i := 1) rfl)) (hw _ (List.mem_of_getElem? (i := 2) rfl)) e0 (g := (mkF m 19 #[.val (.int p1), .val (.int p2), .val (.int (p1 &&& (255 : Int32))), .val (.int ((p1 &&& (255 : Int32)) ^^^ (p2 &&& (254 : Int32)))), .val (.int ((p1 &&& (255 : Int32)) ^^^ (1 : Int32))), .unset, .unset, .unset, .unset] [])) rfl (hb hby at_19) (by decide) (by decide)
  obtain ⟨b3, g3⟩ : ∃ z, z = h0.size := ⟨_, rfl⟩
  rw [← g3] at A3 D3 st3
  have F_flag_b3 : Fld Z h3 b3 "com/example/hushwire/hushwire/BlockContent$RouterInfoBlock" "flag" "I" (.int (0 : Int32)) := D3 (Or.inr (hw _ (List.mem_of_getElem? (i := 16) rfl))) (ty := .int) (by decide)
  have F_routerInfo_b3 : Fld Z h3 b3 "com/example/hushwire/hushwire/BlockContent$RouterInfoBlock" "routerInfo" "[B" .null := D3 (Or.inr (hw _ (List.mem_of_getElem? (i := 18) rfl))) (ty := (.array .byte)) (by decide)
  have E_b3 := A3
  have g_b3 : n0 ≤ b3 := Nat.le_trans Z0 (Nat.le_of_eq g3.symm)
  have sz_b3 : h0.size ≤ b3 := (Nat.le_trans (Keep.refl h0 []).1 (Nat.le_of_eq g3.symm))
  have K3 : Keep h0 h3 [] := (Keep.refl h0 []).ext E3
  obtain ⟨T4, h4, k4, X4, e4, E4, A4, st4⟩ := newP X3 hx hZ (hw _ (List.mem_of_getElem? (i := 3) rfl)) e3 (g := (mkF m 25 #[.val (.int p1), .val (.int p2), .val (.int (p1 &&& (255 : Int32))), .val (.int ((p1 &&& (255 : Int32)) ^^^ (p2 &&& (254 : Int32)))), .val (.int ((p1 &&& (255 : Int32)) ^^^ (1 : Int32))), .unset, .unset, .unset, .unset] [(.int (0 : Int32)), (.int (p1 &&& (255 : Int32))), (.ref b3), (.ref b3)])) rfl (hb hby at_25) rfl (by decide) (cap := 0) (by decide) (by decide) (by decide) (by decide)
  obtain ⟨b4, g4⟩ : ∃ z, z = h3.size := ⟨_, rfl⟩
  rw [← g4] at A4 st4
  have V_b4 := Arv.new A4 (by decide)
  have g_b4 : n0 ≤ b4 := Nat.le_trans (Nat.le_trans Z0 E3.1) (Nat.le_of_eq g4.symm)
  have sz_b4 : h0.size ≤ b4 := (Nat.le_trans K3.1 (Nat.le_of_eq g4.symm))
  have K4 : Keep h0 h4 [] := K3.ext E4
  obtain ⟨_, _, ⟨T5, L5, k5, n5⟩, -, X5, ⟨Lc5, hQ5, l5, y5, z5⟩, st5⟩ := X4.specialBack hx (y := (⟨"com/example/hushwire/hushwire/BlockContent$RouterInfoBlock", "<init>", "(I[B)V"⟩ : MethodName)) rfl hown (mvT hZ (hw _ (List.mem_of_getElem? (i := 4) rfl))) (mvT hZ (hw _ (List.mem_of_getElem? (i := 5) rfl))) (mvT hZ (hw _ (List.mem_of_getElem? (i := 6) rfl))) (by decide) (backOf (W := 1) (rm1 l Z a0 hw [] b3 (p1 &&& (255 : Int32)) b4 (.int (0 : Int32)) .null h4 n0 (Nat.le_trans Z0 K4.1) (E_b3.ext E4) (F_flag_b3.ext E4) g_b3 (F_routerInfo_b3.ext E4)) hZ (hw _ (List.mem_of_getElem? (i := 6) rfl)) (hw _ (List.mem_of_getElem? (i := 2) rfl)) (by decide) (by decide)) (g := (mkF m 27 #[.val (.int p1), .val (.int p2), .val (.int (p1 &&& (255 : Int32))), .val (.int ((p1 &&& (255 : Int32)) ^^^ (p2 &&& (254 : Int32)))), .val (.int ((p1 &&& (255 : Int32)) ^^^ (1 : Int32))), .unset, .unset, .unset, .unset] [(.ref b4), (.int (p1 &&& (255 : Int32))), (.ref b3), (.ref b3)])) rfl (by rw [hml]; rfl) (Steps.refl _) (a := b3) (argsL := [(.int (p1 &&& (255 : Int32))), (.ref b4)]) (rest := [(.ref b3)]) (lenOf pd_0_0 rfl) rfl (by show 2 * 0 + _ ≤ _; exact Nat.le_of_eq rfl) (hb hby at_27) (fun _ _ => ⟨rfl, e4, (by decide : 2 + 0 ≤ _), (by decide : 2 + 0 ≤ _)⟩)
  dsimp only [Pt.U, Pt.locs, Pt.cells, Pt.slots] at X5 l5 y5 z5 st5 hQ5
  subst l5 y5 z5
  obtain ⟨rfl, N5q, Kc5, Ec5, Fc5⟩ := hQ5
  have K5 : Keep h0 T5.heap [] := K4.trans Kc5 (fun x hx => Or.inr (by cases List.mem_singleton.mp hx; exact sz_b3))
  have N5 := Fr.app N0 N5q
  obtain ⟨T6, h6, X6, e6, E6, A6, D6, -, st6⟩ := newO X5 hx hZ hown (hw _ (List.mem_of_getElem? (i := 0) rfl)) (hw _ (List.mem_of_getElem? (i := 1) rfl)) (hw _ (List.mem_of_getElem? (i := 2) rfl)) rfl (g := (mkF m 32 #[.val (.int p1), .val (.int p2), .val (.int (p1 &&& (255 : Int32))), .val (.int ((p1 &&& (255 : Int32)) ^^^ (p2 &&& (254 : Int32)))), .val (.int ((p1 &&& (255 : Int32)) ^^^ (1 : Int32))), .val (.ref b3), .unset, .unset, .unset] [])) rfl (hb hby at_32) (by decide) (by decide)
  obtain ⟨b6, g6⟩ : ∃ z, z = T5.heap.size := ⟨_, rfl⟩
  rw [← g6] at A6 D6 st6
  have F_flag_b6 : Fld Z h6 b6 "com/example/hushwire/hushwire/BlockContent$RouterInfoBlock" "flag" "I" (.int (0 : Int32)) := D6 (Or.inr (hw _ (List.mem_of_getElem? (i := 16) rfl))) (ty := .int) (by decide)
  have F_routerInfo_b6 : Fld Z h6 b6 "com/example/hushwire/hushwire/BlockContent$RouterInfoBlock" "routerInfo" "[B" .null := D6 (Or.inr (hw _ (List.mem_of_getElem? (i := 18) rfl))) (ty := (.array .byte)) (by decide)
  have E_b6 := A6
  have g_b6 : n0 ≤ b6 := Nat.le_trans (Nat.le_trans (Nat.le_trans (Nat.le_trans Z0 E3.1) E4.1) Kc5.1) (Nat.le_of_eq g6.symm)
  have sz_b6 : h0.size ≤ b6 := (Nat.le_trans K5.1 (Nat.le_of_eq g6.symm))
  have K6 : Keep h0 h6 [] := K5.ext E6
  obtain ⟨T7, h7, k7, X7, e7, E7, A7, st7⟩ := newP X6 hx hZ (hw _ (List.mem_of_getElem? (i := 3) rfl)) e6 (g := (mkF m 38 #[.val (.int p1), .val (.int p2), .val (.int (p1 &&& (255 : Int32))), .val (.int ((p1 &&& (255 : Int32)) ^^^ (p2 &&& (254 : Int32)))), .val (.int ((p1 &&& (255 : Int32)) ^^^ (1 : Int32))), .val (.ref b3), .unset, .unset, .unset] [(.int (0 : Int32)), (.int ((p1 &&& (255 : Int32)) ^^^ (p2 &&& (254 : Int32)))), (.ref b6), (.ref b6)])) rfl (hb hby at_38) rfl (by decide) (cap := 0) (by decide) (by decide) (by decide) (by decide)
  obtain ⟨b7, g7⟩ : ∃ z, z = h6.size := ⟨_, rfl⟩
  rw [← g7] at A7 st7
  have V_b7 := Arv.new A7 (by decide)
  have g_b7 : n0 ≤ b7 := Nat.le_trans (Nat.le_trans (Nat.le_trans (Nat.le_trans (Nat.le_trans Z0 E3.1) E4.1) Kc5.1) E6.1) (Nat.le_of_eq g7.symm)
  have sz_b7 : h0.size ≤ b7 := (Nat.le_trans K6.1 (Nat.le_of_eq g7.symm))
  have K7 : Keep h0 h7 [] := K6.ext E7
  obtain ⟨_, _, ⟨T8, L8, k8, n8⟩, -, X8, ⟨Lc8, hQ8, l8, y8, z8⟩, st8⟩ := X7.specialBack hx (y := (⟨"com/example/hushwire/hushwire/BlockContent$RouterInfoBlock", "<init>", "(I[B)V"⟩ : MethodName)) rfl hown (mvT hZ (hw _ (List.mem_of_getElem? (i := 4) rfl))) (mvT hZ (hw _ (List.mem_of_getElem? (i := 5) rfl))) (mvT hZ (hw _ (List.mem_of_getElem? (i := 6) rfl))) (by decide) (backOf (W := 1) (rm1 l Z a0 hw [] b6 ((p1 &&& (255 : Int32)) ^^^ (p2 &&& (254 : Int32))) b7 (.int (0 : Int32)) .null h7 n0 (Nat.le_trans Z0 K7.1) (E_b6.ext E7) (F_flag_b6.ext E7) g_b6 (F_routerInfo_b6.ext E7)) hZ (hw _ (List.mem_of_getElem? (i := 6) rfl)) (hw _ (List.mem_of_getElem? (i := 2) rfl)) (by decide) (by decide)) (g := (mkF m 40 #[.val (.int p1), .val (.int p2), .val (.int (p1 &&& (255 : Int32))), .val (.int ((p1 &&& (255 : Int32)) ^^^ (p2 &&& (254 : Int32)))), .val (.int ((p1 &&& (255 : Int32)) ^^^ (1 : Int32))), .val (.ref b3), .unset, .unset, .unset] [(.ref b7), (.int ((p1 &&& (255 : Int32)) ^^^ (p2 &&& (254 : Int32)))), (.ref b6), (.ref b6)])) rfl (by rw [hml]; rfl) (Steps.refl _) (a := b6) (argsL := [(.int ((p1 &&& (255 : Int32)) ^^^ (p2 &&& (254 : Int32)))), (.ref b7)]) (rest := [(.ref b6)]) (lenOf pd_0_0 rfl) rfl (by show 2 * 0 + _ ≤ _; exact Nat.le_of_eq rfl) (hb hby at_40) (fun _ _ => ⟨rfl, e7, (by decide : 4 + 0 ≤ _), (by decide : 4 + 0 ≤ _)⟩)
  dsimp only [Pt.U, Pt.locs, Pt.cells, Pt.slots] at X8 l8 y8 z8 st8 hQ8
  subst l8 y8 z8
  obtain ⟨rfl, N8q, Kc8, Ec8, Fc8⟩ := hQ8
  have K8 : Keep h0 T8.heap [] := K7.trans Kc8 (fun x hx => Or.inr (by cases List.mem_singleton.mp hx; exact sz_b6))
  have N8 := Fr.app N5 N8q
  obtain ⟨T9, h9, X9, e9, E9, A9, D9, -, st9⟩ := newO X8 hx hZ hown (hw _ (List.mem_of_getElem? (i := 0) rfl)) (hw _ (List.mem_of_getElem? (i := 1) rfl)) (hw _ (List.mem_of_getElem? (i := 2) rfl)) rfl (g := (mkF m 45 #[.val (.int p1), .val (.int p2), .val (.int (p1 &&& (255 : Int32))), .val (.int ((p1 &&& (255 : Int32)) ^^^ (p2 &&& (254 : Int32)))), .val (.int ((p1 &&& (255 : Int32)) ^^^ (1 : Int32))), .val (.ref b3), .val (.ref b6), .unset, .unset] [])) rfl (hb hby at_45) (by decide) (by decide)
  obtain ⟨b9, g9⟩ : ∃ z, z = T8.heap.size := ⟨_, rfl⟩
  rw [← g9] at A9 D9 st9
  have F_flag_b9 : Fld Z h9 b9 "com/example/hushwire/hushwire/BlockContent$RouterInfoBlock" "flag" "I" (.int (0 : Int32)) := D9 (Or.inr (hw _ (List.mem_of_getElem? (i := 16) rfl))) (ty := .int) (by decide)
  have F_routerInfo_b9 : Fld Z h9 b9 "com/example/hushwire/hushwire/BlockContent$RouterInfoBlock" "routerInfo" "[B" .null := D9 (Or.inr (hw _ (List.mem_of_getElem? (i := 18) rfl))) (ty := (.array .byte)) (by decide)
  have E_b9 := A9
  have g_b9 : n0 ≤ b9 := Nat.le_trans (Nat.le_trans (Nat.le_trans (Nat.le_trans (Nat.le_trans (Nat.le_trans (Nat.le_trans Z0 E3.1) E4.1) Kc5.1) E6.1) E7.1) Kc8.1) (Nat.le_of_eq g9.symm)
  have sz_b9 : h0.size ≤ b9 := (Nat.le_trans K8.1 (Nat.le_of_eq g9.symm))
  have K9 : Keep h0 h9 [] := K8.ext E9
  obtain ⟨T10, h10, k10, X10, e10, E10, A10, st10⟩ := newP X9 hx hZ (hw _ (List.mem_of_getElem? (i := 3) rfl)) e9 (g := (mkF m 52 #[.val (.int p1), .val (.int p2), .val (.int (p1 &&& (255 : Int32))), .val (.int ((p1 &&& (255 : Int32)) ^^^ (p2 &&& (254 : Int32)))), .val (.int ((p1 &&& (255 : Int32)) ^^^ (1 : Int32))), .val (.ref b3), .val (.ref b6), .unset, .unset] [(.int (0 : Int32)), (.int ((p1 &&& (255 : Int32)) ^^^ (1 : Int32))), (.ref b9), (.ref b9)])) rfl (hb hby at_52) rfl (by decide) (cap := 0) (by decide) (by decide) (by decide) (by decide)
  obtain ⟨b10, g10⟩ : ∃ z, z = h9.size := ⟨_, rfl⟩
  rw [← g10] at A10 st10
  have V_b10 := Arv.new A10 (by decide)
  have g_b10 : n0 ≤ b10 := Nat.le_trans (Nat.le_trans (Nat.le_trans (Nat.le_trans (Nat.le_trans (Nat.le_trans (Nat.le_trans (Nat.le_trans Z0 E3.1) E4.1) Kc5.1) E6.1) E7.1) Kc8.1) E9.1) (Nat.le_of_eq g10.symm)
  have sz_b10 : h0.size ≤ b10 := (Nat.le_trans K9.1 (Nat.le_of_eq g10.symm))
  have K10 : Keep h0 h10 [] := K9.ext E10
  obtain ⟨_, _, ⟨T11, L11, k11, n11⟩, -, X11, ⟨Lc11, hQ11, l11, y11, z11⟩, st11⟩ := X10.specialBack hx (y := (⟨"com/example/hushwire/hushwire/BlockContent$RouterInfoBlock", "<init>", "(I[B)V"⟩ : MethodName)) rfl hown (mvT hZ (hw _ (List.mem_of_getElem? (i := 4) rfl))) (mvT hZ (hw _ (List.mem_of_getElem? (i := 5) rfl))) (mvT hZ (hw _ (List.mem_of_getElem? (i := 6) rfl))) (by decide) (backOf (W := 1) (rm1 l Z a0 hw [] b9 ((p1 &&& (255 : Int32)) ^^^ (1 : Int32)) b10 (.int (0 : Int32)) .null h10 n0 (Nat.le_trans Z0 K10.1) (E_b9.ext E10) (F_flag_b9.ext E10) g_b9 (F_routerInfo_b9.ext E10)) hZ (hw _ (List.mem_of_getElem? (i := 6) rfl)) (hw _ (List.mem_of_getElem? (i := 2) rfl)) (by decide) (by decide)) (g := (mkF m 54 #[.val (.int p1), .val (.int p2), .val (.int (p1 &&& (255 : Int32))), .val (.int ((p1 &&& (255 : Int32)) ^^^ (p2 &&& (254 : Int32)))), .val (.int ((p1 &&& (255 : Int32)) ^^^ (1 : Int32))), .val (.ref b3), .val (.ref b6), .unset, .unset] [(.ref b10), (.int ((p1 &&& (255 : Int32)) ^^^ (1 : Int32))), (.ref b9), (.ref b9)])) rfl (by rw [hml]; rfl) (Steps.refl _) (a := b9) (argsL := [(.int ((p1 &&& (255 : Int32)) ^^^ (1 : Int32))), (.ref b10)]) (rest := [(.ref b9)]) (lenOf pd_0_0 rfl) rfl (by show 2 * 0 + _ ≤ _; exact Nat.le_of_eq rfl) (hb hby at_54) (fun _ _ => ⟨rfl, e10, (by decide : 6 + 0 ≤ _), (by decide : 6 + 0 ≤ _)⟩)
  dsimp only [Pt.U, Pt.locs, Pt.cells, Pt.slots] at X11 l11 y11 z11 st11 hQ11
  subst l11 y11 z11
  obtain ⟨rfl, N11q, Kc11, Ec11, Fc11⟩ := hQ11
  have K11 : Keep h0 T11.heap [] := K10.trans Kc11 (fun x hx => Or.inr (by cases List.mem_singleton.mp hx; exact sz_b9))
  have N11 := Fr.app N8 N11q
  have n36 : b3 ∉ [b6] := fun hx => by have h1 := List.mem_singleton.mp hx; have h2 := Fc5.lt; rw [h1, g6] at h2; exact Nat.lt_irrefl _ h2
  have Fa3 := ((Fc5.ext E6).ext E7).keep Kc8 n36
  have n39 : b3 ∉ [b9] := fun hx => by have h1 := List.mem_singleton.mp hx; have h2 := Fa3.lt; rw [h1, g9] at h2; exact Nat.lt_irrefl _ h2
  have Fb3 := ((Fa3.ext E9).ext E10).keep Kc11 n39
  have n69 : b6 ∉ [b9] := fun hx => by have h1 := List.mem_singleton.mp hx; have h2 := Fc8.lt; rw [h1, g9] at h2; exact Nat.lt_irrefl _ h2
  have Fb6 := ((Fc8.ext E9).ext E10).keep Kc11 n69
  have Z11 : n0 ≤ T11.heap.size := Nat.le_trans Z0 K11.1
  obtain ⟨cq12, kq12, q12a, q12b, q12c⟩ := isOf hZ rfl ((((((((E_b3.ext E4).keep Kc5).ext E6).ext E7).keep Kc8).ext E9).ext E10).keep Kc11)
  obtain ⟨_, _, ⟨T12, L12, k12, n12⟩, -, X12, ⟨Lc12, hQ12, l12, y12, z12⟩, st12⟩ := X11.virtualBack hx (y := (⟨"com/example/hushwire/hushwire/BlockContent$RouterInfoBlock", "flood", "()Z"⟩ : MethodName)) (z := (⟨"com/example/hushwire/hushwire/BlockContent$RouterInfoBlock", "flood", "()Z"⟩ : MethodName)) hown (mvT hZ (hw _ (List.mem_of_getElem? (i := 19) rfl))) (mvT hZ (hw _ (List.mem_of_getElem? (i := 20) rfl))) (notFace_of_selects (args := #[]) (mvT hZ (hw _ (List.mem_of_getElem? (i := 22) rfl)))) (mvT hZ (hw _ (List.mem_of_getElem? (i := 22) rfl))) (mvT hZ (hw _ (List.mem_of_getElem? (i := 21) rfl))) (by decide) (backOf (W := 0) (rm4 l Z a0 hw [] b3 (p1 &&& (255 : Int32)) T11.heap n0 Z11 Fb3) hZ (hw _ (List.mem_of_getElem? (i := 23) rfl)) (hw _ (List.mem_of_getElem? (i := 2) rfl)) (by decide) (by decide)) q12a q12c (g := (mkF m 79 #[.val (.int p1), .val (.int p2), .val (.int (p1 &&& (255 : Int32))), .val (.int ((p1 &&& (255 : Int32)) ^^^ (p2 &&& (254 : Int32)))), .val (.int ((p1 &&& (255 : Int32)) ^^^ (1 : Int32))), .val (.ref b3), .val (.ref b6), .val (.ref b9), .val (.int (0 : Int32))] [(.ref b3)])) rfl (by rw [hml]; rfl) (Steps.refl _) (argsL := []) (rest := []) (lenOf pd_0_2 rfl) rfl (by show 2 * 0 + _ ≤ _; exact Nat.le_of_eq rfl) (hb hby at_79) (fun _ _ => ⟨rfl, rfl, (by decide : 6 + 0 ≤ _), (by decide : 6 + 0 ≤ _)⟩)
  dsimp only [Pt.U, Pt.locs, Pt.cells, Pt.slots] at X12 l12 y12 z12 st12 hQ12
  subst l12 y12 z12
  obtain ⟨rfl, N12q, e12⟩ := hQ12
  have Kc12 : Keep T11.heap T12.heap [] := by rw [e12]; exact Keep.refl _ _
  have N12 := Fr.app N11 N12q
  obtain ⟨cq13, kq13, q13a, q13b, q13c⟩ := isOf hZ rfl ((((((E_b6.ext E7).keep Kc8).ext E9).ext E10).keep Kc11).keep Kc12)
  obtain ⟨_, _, ⟨T13, L13, k13, n13⟩, -, X13, ⟨Lc13, hQ13, l13, y13, z13⟩, st13⟩ := X12.virtualBack hx (y := (⟨"com/example/hushwire/hushwire/BlockContent$RouterInfoBlock", "flood", "()Z"⟩ : MethodName)) (z := (⟨"com/example/hushwire/hushwire/BlockContent$RouterInfoBlock", "flood", "()Z"⟩ : MethodName)) hown (mvT hZ (hw _ (List.mem_of_getElem? (i := 19) rfl))) (mvT hZ (hw _ (List.mem_of_getElem? (i := 20) rfl))) (notFace_of_selects (args := #[]) (mvT hZ (hw _ (List.mem_of_getElem? (i := 22) rfl)))) (mvT hZ (hw _ (List.mem_of_getElem? (i := 22) rfl))) (mvT hZ (hw _ (List.mem_of_getElem? (i := 21) rfl))) (by decide) (backOf (W := 0) (rm4 l Z a0 hw [] b6 ((p1 &&& (255 : Int32)) ^^^ (p2 &&& (254 : Int32))) T12.heap n0 (Nat.le_trans Z11 Kc12.1) (Fb6.keep Kc12 List.not_mem_nil)) hZ (hw _ (List.mem_of_getElem? (i := 23) rfl)) (hw _ (List.mem_of_getElem? (i := 2) rfl)) (by decide) (by decide)) q13a q13c (g := (mkF m 89 #[.val (.int p1), .val (.int p2), .val (.int (p1 &&& (255 : Int32))), .val (.int ((p1 &&& (255 : Int32)) ^^^ (p2 &&& (254 : Int32)))), .val (.int ((p1 &&& (255 : Int32)) ^^^ (1 : Int32))), .val (.ref b3), .val (.ref b6), .val (.ref b9), .val (.int (0 : Int32))] [(.ref b6)])) rfl (by rw [hml]; rfl) (Steps.refl _) (argsL := []) (rest := []) (lenOf pd_0_2 rfl) rfl (by show 2 * 0 + _ ≤ _; exact Nat.le_of_eq rfl) (hb hby at_89) (fun _ _ => ⟨rfl, rfl, (by decide : 6 + 0 ≤ _), (by decide : 6 + 0 ≤ _)⟩)
  dsimp only [Pt.U, Pt.locs, Pt.cells, Pt.slots] at X13 l13 y13 z13 st13 hQ13
  subst l13 y13 z13
  obtain ⟨rfl, N13q, e13⟩ := hQ13
  have Kc13 : Keep T12.heap T13.heap [] := by rw [e13]; exact Keep.refl _ _
  have N13 := Fr.app N12 N13q
  obtain ⟨cq14, kq14, q14a, q14b, q14c⟩ := isOf hZ rfl ((((E_b9.ext E10).keep Kc11).keep Kc12).keep Kc13)
  obtain ⟨_, _, ⟨T14, L14, k14, n14⟩, -, X14, ⟨Lc14, hQ14, l14, y14, z14⟩, st14⟩ := X13.virtualBack hx (y := (⟨"com/example/hushwire/hushwire/BlockContent$RouterInfoBlock", "flood", "()Z"⟩ : MethodName)) (z := (⟨"com/example/hushwire/hushwire/BlockContent$RouterInfoBlock", "flood", "()Z"⟩ : MethodName)) hown (mvT hZ (hw _ (List.mem_of_getElem? (i := 19) rfl))) (mvT hZ (hw _ (List.mem_of_getElem? (i := 20) rfl))) (notFace_of_selects (args := #[]) (mvT hZ (hw _ (List.mem_of_getElem? (i := 22) rfl)))) (mvT hZ (hw _ (List.mem_of_getElem? (i := 22) rfl))) (mvT hZ (hw _ (List.mem_of_getElem? (i := 21) rfl))) (by decide) (backOf (W := 0) (rm4 l Z a0 hw [] b9 ((p1 &&& (255 : Int32)) ^^^ (1 : Int32)) T13.heap n0 (Nat.le_trans (Nat.le_trans Z11 Kc12.1) Kc13.1) ((Fc11.keep Kc12 List.not_mem_nil).keep Kc13 List.not_mem_nil)) hZ (hw _ (List.mem_of_getElem? (i := 23) rfl)) (hw _ (List.mem_of_getElem? (i := 2) rfl)) (by decide) (by decide)) q14a q14c (g := (mkF m 99 #[.val (.int p1), .val (.int p2), .val (.int (p1 &&& (255 : Int32))), .val (.int ((p1 &&& (255 : Int32)) ^^^ (p2 &&& (254 : Int32)))), .val (.int ((p1 &&& (255 : Int32)) ^^^ (1 : Int32))), .val (.ref b3), .val (.ref b6), .val (.ref b9), .val (.int (0 : Int32))] [(.ref b9)])) rfl (by rw [hml]; rfl) (Steps.refl _) (argsL := []) (rest := []) (lenOf pd_0_2 rfl) rfl (by show 2 * 0 + _ ≤ _; exact Nat.le_of_eq rfl) (hb hby at_99) (fun _ _ => ⟨rfl, rfl, (by decide : 6 + 0 ≤ _), (by decide : 6 + 0 ≤ _)⟩)
  dsimp only [Pt.U, Pt.locs, Pt.cells, Pt.slots] at X14 l14 y14 z14 st14 hQ14
  subst l14 y14 z14
  obtain ⟨rfl, N14q, e14⟩ := hQ14
  have Kc14 : Keep T13.heap T14.heap [] := by rw [e14]; exact Keep.refl _ _
  have N14 := Fr.app N13 N14q
  obtain ⟨fs, hr, hrun, hended, hW, hsame⟩ := X14.leave (v := some (.int (1 : Int32))) (fun h => by rw [Bd.returns] at h; cases h)
  refine ⟨_, _, pre0 _ ?_, hrun, hended, _, _, rfl, ?_, ⟨_, rfl⟩, hW, hsame.mono (by decide) (by decide)⟩
  · show Steps p.tables e below (s₁.setTop (mkF m 0 #[.val (.int p1), .val (.int p2), .unset, .unset, .unset, .unset, .unset, .unset, .unset] [])) _
    refine XS.iloadN X0.here hx rfl (hb hby at_0) rfl ?_
    show Steps p.tables e below (s₁.setTop (mkF m 1 #[.val (.int p1), .val (.int p2), .unset, .unset, .unset, .unset, .unset, .unset, .unset] [(.int p1)])) _
    refine XS.sipush X0.here hx rfl (hb hby at_1) ?_
    show Steps p.tables e below (s₁.setTop (mkF m 4 #[.val (.int p1), .val (.int p2), .unset, .unset, .unset, .unset, .unset, .unset, .unset] [(.int (255 : Int32)), (.int p1)])) _
    refine XS.iand X0.here hx rfl (hb hby at_4) rfl ?_
    show Steps p.tables e below (s₁.setTop (mkF m 5 #[.val (.int p1), .val (.int p2), .unset, .unset, .unset, .unset, .unset, .unset, .unset] [(.int (p1 &&& (255 : Int32)))])) _
    refine XS.istoreN X0.here hx rfl (hb hby at_5) rfl (l' := #[.val (.int p1), .val (.int p2), .val (.int (p1 &&& (255 : Int32))), .unset, .unset, .unset, .unset, .unset, .unset]) rfl ?_
    show Steps p.tables e below (s₁.setTop (mkF m 6 #[.val (.int p1), .val (.int p2), .val (.int (p1 &&& (255 : Int32))), .unset, .unset, .unset, .unset, .unset, .unset] [])) _
    refine XS.iloadN X0.here hx rfl (hb hby at_6) rfl ?_
    show Steps p.tables e below (s₁.setTop (mkF m 7 #[.val (.int p1), .val (.int p2), .val (.int (p1 &&& (255 : Int32))), .unset, .unset, .unset, .unset, .unset, .unset] [(.int (p1 &&& (255 : Int32)))])) _
    refine XS.iloadN X0.here hx rfl (hb hby at_7) rfl ?_
    show Steps p.tables e below (s₁.setTop (mkF m 8 #[.val (.int p1), .val (.int p2), .val (.int (p1 &&& (255 : Int32))), .unset, .unset, .unset, .unset, .unset, .unset] [(.int p2), (.int (p1 &&& (255 : Int32)))])) _
    refine XS.sipush X0.here hx rfl (hb hby at_8) ?_
    show Steps p.tables e below (s₁.setTop (mkF m 11 #[.val (.int p1), .val (.int p2), .val (.int (p1 &&& (255 : Int32))), .unset, .unset, .unset, .unset, .unset, .unset] [(.int (254 : Int32)), (.int p2), (.int (p1 &&& (255 : Int32)))])) _
    refine XS.iand X0.here hx rfl (hb hby at_11) rfl ?_
    show Steps p.tables e below (s₁.setTop (mkF m 12 #[.val (.int p1), .val (.int p2), .val (.int (p1 &&& (255 : Int32))), .unset, .unset, .unset, .unset, .unset, .unset] [(.int (p2 &&& (254 : Int32))), (.int (p1 &&& (255 : Int32)))])) _
    refine XS.ixor X0.here hx rfl (hb hby at_12) rfl ?_
    show Steps p.tables e below (s₁.setTop (mkF m 13 #[.val (.int p1), .val (.int p2), .val (.int (p1 &&& (255 : Int32))), .unset, .unset, .unset, .unset, .unset, .unset] [(.int ((p1 &&& (255 : Int32)) ^^^ (p2 &&& (254 : Int32))))])) _
    refine XS.istoreN X0.here hx rfl (hb hby at_13) rfl (l' := #[.val (.int p1), .val (.int p2), .val (.int (p1 &&& (255 : Int32))), .val (.int ((p1 &&& (255 : Int32)) ^^^ (p2 &&& (254 : Int32)))), .unset, .unset, .unset, .unset, .unset]) rfl ?_
    show Steps p.tables e below (s₁.setTop (mkF m 14 #[.val (.int p1), .val (.int p2), .val (.int (p1 &&& (255 : Int32))), .val (.int ((p1 &&& (255 : Int32)) ^^^ (p2 &&& (254 : Int32)))), .unset, .unset, .unset, .unset, .unset] [])) _
    refine XS.iloadN X0.here hx rfl (hb hby at_14) rfl ?_
    show Steps p.tables e below (s₁.setTop (mkF m 15 #[.val (.int p1), .val (.int p2), .val (.int (p1 &&& (255 : Int32))), .val (.int ((p1 &&& (255 : Int32)) ^^^ (p2 &&& (254 : Int32)))), .unset, .unset, .unset, .unset, .unset] [(.int (p1 &&& (255 : Int32)))])) _
    refine XS.iconst X0.here hx rfl (hb hby at_15) ?_
    show Steps p.tables e below (s₁.setTop (mkF m 16 #[.val (.int p1), .val (.int p2), .val (.int (p1 &&& (255 : Int32))), .val (.int ((p1 &&& (255 : Int32)) ^^^ (p2 &&& (254 : Int32)))), .unset, .unset, .unset, .unset, .unset] [(.int (1 : Int32)), (.int (p1 &&& (255 : Int32)))])) _
    refine XS.ixor X0.here hx rfl (hb hby at_16) rfl ?_
    show Steps p.tables e below (s₁.setTop (mkF m 17 #[.val (.int p1), .val (.int p2), .val (.int (p1 &&& (255 : Int32))), .val (.int ((p1 &&& (255 : Int32)) ^^^ (p2 &&& (254 : Int32)))), .unset, .unset, .unset, .unset, .unset] [(.int ((p1 &&& (255 : Int32)) ^^^ (1 : Int32)))])) _
    refine XS.istore X0.here hx rfl (hb hby at_17) rfl (l' := #[.val (.int p1), .val (.int p2), .val (.int (p1 &&& (255 : Int32))), .val (.int ((p1 &&& (255 : Int32)) ^^^ (p2 &&& (254 : Int32)))), .val (.int ((p1 &&& (255 : Int32)) ^^^ (1 : Int32))), .unset, .unset, .unset, .unset]) rfl ?_
    show Steps p.tables e below (s₁.setTop (mkF m 19 #[.val (.int p1), .val (.int p2), .val (.int (p1 &&& (255 : Int32))), .val (.int ((p1 &&& (255 : Int32)) ^^^ (p2 &&& (254 : Int32)))), .val (.int ((p1 &&& (255 : Int32)) ^^^ (1 : Int32))), .unset, .unset, .unset, .unset] [])) _
    refine st3 _ ?_
    show Steps p.tables e below (T3.setTop (mkF m 22 #[.val (.int p1), .val (.int p2), .val (.int (p1 &&& (255 : Int32))), .val (.int ((p1 &&& (255 : Int32)) ^^^ (p2 &&& (254 : Int32)))), .val (.int ((p1 &&& (255 : Int32)) ^^^ (1 : Int32))), .unset, .unset, .unset, .unset] [(.ref b3)])) _
    refine XS.dup X3.here hx rfl (hb hby at_22) rfl rfl ?_
    show Steps p.tables e below (T3.setTop (mkF m 23 #[.val (.int p1), .val (.int p2), .val (.int (p1 &&& (255 : Int32))), .val (.int ((p1 &&& (255 : Int32)) ^^^ (p2 &&& (254 : Int32)))), .val (.int ((p1 &&& (255 : Int32)) ^^^ (1 : Int32))), .unset, .unset, .unset, .unset] [(.ref b3), (.ref b3)])) _
    refine XS.iloadN X3.here hx rfl (hb hby at_23) rfl ?_
    show Steps p.tables e below (T3.setTop (mkF m 24 #[.val (.int p1), .val (.int p2), .val (.int (p1 &&& (255 : Int32))), .val (.int ((p1 &&& (255 : Int32)) ^^^ (p2 &&& (254 : Int32)))), .val (.int ((p1 &&& (255 : Int32)) ^^^ (1 : Int32))), .unset, .unset, .unset, .unset] [(.int (p1 &&& (255 : Int32))), (.ref b3), (.ref b3)])) _
    refine XS.iconst X3.here hx rfl (hb hby at_24) ?_
    show Steps p.tables e below (T3.setTop (mkF m 25 #[.val (.int p1), .val (.int p2), .val (.int (p1 &&& (255 : Int32))), .val (.int ((p1 &&& (255 : Int32)) ^^^ (p2 &&& (254 : Int32)))), .val (.int ((p1 &&& (255 : Int32)) ^^^ (1 : Int32))), .unset, .unset, .unset, .unset] [(.int (0 : Int32)), (.int (p1 &&& (255 : Int32))), (.ref b3), (.ref b3)])) _
    refine st4 _ ?_
    show Steps p.tables e below (T4.setTop (mkF m 27 #[.val (.int p1), .val (.int p2), .val (.int (p1 &&& (255 : Int32))), .val (.int ((p1 &&& (255 : Int32)) ^^^ (p2 &&& (254 : Int32)))), .val (.int ((p1 &&& (255 : Int32)) ^^^ (1 : Int32))), .unset, .unset, .unset, .unset] [(.ref b4), (.int (p1 &&& (255 : Int32))), (.ref b3), (.ref b3)])) _
    refine st5.trans ?_
    show Steps p.tables e below (T5.setTop (mkF m 30 #[.val (.int p1), .val (.int p2), .val (.int (p1 &&& (255 : Int32))), .val (.int ((p1 &&& (255 : Int32)) ^^^ (p2 &&& (254 : Int32)))), .val (.int ((p1 &&& (255 : Int32)) ^^^ (1 : Int32))), .unset, .unset, .unset, .unset] [(.ref b3)])) _
    refine XS.astore X5.here hx rfl (hb hby at_30) rfl rfl (l' := #[.val (.int p1), .val (.int p2), .val (.int (p1 &&& (255 : Int32))), .val (.int ((p1 &&& (255 : Int32)) ^^^ (p2 &&& (254 : Int32)))), .val (.int ((p1 &&& (255 : Int32)) ^^^ (1 : Int32))), .val (.ref b3), .unset, .unset, .unset]) rfl ?_
    show Steps p.tables e below (T5.setTop (mkF m 32 #[.val (.int p1), .val (.int p2), .val (.int (p1 &&& (255 : Int32))), .val (.int ((p1 &&& (255 : Int32)) ^^^ (p2 &&& (254 : Int32)))), .val (.int ((p1 &&& (255 : Int32)) ^^^ (1 : Int32))), .val (.ref b3), .unset, .unset, .unset] [])) _
    refine st6 _ ?_
    show Steps p.tables e below (T6.setTop (mkF m 35 #[.val (.int p1), .val (.int p2), .val (.int (p1 &&& (255 : Int32))), .val (.int ((p1 &&& (255 : Int32)) ^^^ (p2 &&& (254 : Int32)))), .val (.int ((p1 &&& (255 : Int32)) ^^^ (1 : Int32))), .val (.ref b3), .unset, .unset, .unset] [(.ref b6)])) _
    refine XS.dup X6.here hx rfl (hb hby at_35) rfl rfl ?_
    show Steps p.tables e below (T6.setTop (mkF m 36 #[.val (.int p1), .val (.int p2), .val (.int (p1 &&& (255 : Int32))), .val (.int ((p1 &&& (255 : Int32)) ^^^ (p2 &&& (254 : Int32)))), .val (.int ((p1 &&& (255 : Int32)) ^^^ (1 : Int32))), .val (.ref b3), .unset, .unset, .unset] [(.ref b6), (.ref b6)])) _
    refine XS.iloadN X6.here hx rfl (hb hby at_36) rfl ?_
    show Steps p.tables e below (T6.setTop (mkF m 37 #[.val (.int p1), .val (.int p2), .val (.int (p1 &&& (255 : Int32))), .val (.int ((p1 &&& (255 : Int32)) ^^^ (p2 &&& (254 : Int32)))), .val (.int ((p1 &&& (255 : Int32)) ^^^ (1 : Int32))), .val (.ref b3), .unset, .unset, .unset] [(.int ((p1 &&& (255 : Int32)) ^^^ (p2 &&& (254 : Int32)))), (.ref b6), (.ref b6)])) _
    refine XS.iconst X6.here hx rfl (hb hby at_37) ?_
    show Steps p.tables e below (T6.setTop (mkF m 38 #[.val (.int p1), .val (.int p2), .val (.int (p1 &&& (255 : Int32))), .val (.int ((p1 &&& (255 : Int32)) ^^^ (p2 &&& (254 : Int32)))), .val (.int ((p1 &&& (255 : Int32)) ^^^ (1 : Int32))), .val (.ref b3), .unset, .unset, .unset] [(.int (0 : Int32)), (.int ((p1 &&& (255 : Int32)) ^^^ (p2 &&& (254 : Int32)))), (.ref b6), (.ref b6)])) _
    refine st7 _ ?_
    show Steps p.tables e below (T7.setTop (mkF m 40 #[.val (.int p1), .val (.int p2), .val (.int (p1 &&& (255 : Int32))), .val (.int ((p1 &&& (255 : Int32)) ^^^ (p2 &&& (254 : Int32)))), .val (.int ((p1 &&& (255 : Int32)) ^^^ (1 : Int32))), .val (.ref b3), .unset, .unset, .unset] [(.ref b7), (.int ((p1 &&& (255 : Int32)) ^^^ (p2 &&& (254 : Int32)))), (.ref b6), (.ref b6)])) _
    refine st8.trans ?_
    show Steps p.tables e below (T8.setTop (mkF m 43 #[.val (.int p1), .val (.int p2), .val (.int (p1 &&& (255 : Int32))), .val (.int ((p1 &&& (255 : Int32)) ^^^ (p2 &&& (254 : Int32)))), .val (.int ((p1 &&& (255 : Int32)) ^^^ (1 : Int32))), .val (.ref b3), .unset, .unset, .unset] [(.ref b6)])) _
    refine XS.astore X8.here hx rfl (hb hby at_43) rfl rfl (l' := #[.val (.int p1), .val (.int p2), .val (.int (p1 &&& (255 : Int32))), .val (.int ((p1 &&& (255 : Int32)) ^^^ (p2 &&& (254 : Int32)))), .val (.int ((p1 &&& (255 : Int32)) ^^^ (1 : Int32))), .val (.ref b3), .val (.ref b6), .unset, .unset]) rfl ?_
    show Steps p.tables e below (T8.setTop (mkF m 45 #[.val (.int p1), .val (.int p2), .val (.int (p1 &&& (255 : Int32))), .val (.int ((p1 &&& (255 : Int32)) ^^^ (p2 &&& (254 : Int32)))), .val (.int ((p1 &&& (255 : Int32)) ^^^ (1 : Int32))), .val (.ref b3), .val (.ref b6), .unset, .unset] [])) _
    refine st9 _ ?_
    show Steps p.tables e below (T9.setTop (mkF m 48 #[.val (.int p1), .val (.int p2), .val (.int (p1 &&& (255 : Int32))), .val (.int ((p1 &&& (255 : Int32)) ^^^ (p2 &&& (254 : Int32)))), .val (.int ((p1 &&& (255 : Int32)) ^^^ (1 : Int32))), .val (.ref b3), .val (.ref b6), .unset, .unset] [(.ref b9)])) _
    refine XS.dup X9.here hx rfl (hb hby at_48) rfl rfl ?_
    show Steps p.tables e below (T9.setTop (mkF m 49 #[.val (.int p1), .val (.int p2), .val (.int (p1 &&& (255 : Int32))), .val (.int ((p1 &&& (255 : Int32)) ^^^ (p2 &&& (254 : Int32)))), .val (.int ((p1 &&& (255 : Int32)) ^^^ (1 : Int32))), .val (.ref b3), .val (.ref b6), .unset, .unset] [(.ref b9), (.ref b9)])) _
    refine XS.iload X9.here hx rfl (hb hby at_49) rfl ?_
    show Steps p.tables e below (T9.setTop (mkF m 51 #[.val (.int p1), .val (.int p2), .val (.int (p1 &&& (255 : Int32))), .val (.int ((p1 &&& (255 : Int32)) ^^^ (p2 &&& (254 : Int32)))), .val (.int ((p1 &&& (255 : Int32)) ^^^ (1 : Int32))), .val (.ref b3), .val (.ref b6), .unset, .unset] [(.int ((p1 &&& (255 : Int32)) ^^^ (1 : Int32))), (.ref b9), (.ref b9)])) _
    refine XS.iconst X9.here hx rfl (hb hby at_51) ?_
    show Steps p.tables e below (T9.setTop (mkF m 52 #[.val (.int p1), .val (.int p2), .val (.int (p1 &&& (255 : Int32))), .val (.int ((p1 &&& (255 : Int32)) ^^^ (p2 &&& (254 : Int32)))), .val (.int ((p1 &&& (255 : Int32)) ^^^ (1 : Int32))), .val (.ref b3), .val (.ref b6), .unset, .unset] [(.int (0 : Int32)), (.int ((p1 &&& (255 : Int32)) ^^^ (1 : Int32))), (.ref b9), (.ref b9)])) _
    refine st10 _ ?_
    show Steps p.tables e below (T10.setTop (mkF m 54 #[.val (.int p1), .val (.int p2), .val (.int (p1 &&& (255 : Int32))), .val (.int ((p1 &&& (255 : Int32)) ^^^ (p2 &&& (254 : Int32)))), .val (.int ((p1 &&& (255 : Int32)) ^^^ (1 : Int32))), .val (.ref b3), .val (.ref b6), .unset, .unset] [(.ref b10), (.int ((p1 &&& (255 : Int32)) ^^^ (1 : Int32))), (.ref b9), (.ref b9)])) _
    refine st11.trans ?_
    show Steps p.tables e below (T11.setTop (mkF m 57 #[.val (.int p1), .val (.int p2), .val (.int (p1 &&& (255 : Int32))), .val (.int ((p1 &&& (255 : Int32)) ^^^ (p2 &&& (254 : Int32)))), .val (.int ((p1 &&& (255 : Int32)) ^^^ (1 : Int32))), .val (.ref b3), .val (.ref b6), .unset, .unset] [(.ref b9)])) _
    refine XS.astore X11.here hx rfl (hb hby at_57) rfl rfl (l' := #[.val (.int p1), .val (.int p2), .val (.int (p1 &&& (255 : Int32))), .val (.int ((p1 &&& (255 : Int32)) ^^^ (p2 &&& (254 : Int32)))), .val (.int ((p1 &&& (255 : Int32)) ^^^ (1 : Int32))), .val (.ref b3), .val (.ref b6), .val (.ref b9), .unset]) rfl ?_
    show Steps p.tables e below (T11.setTop (mkF m 59 #[.val (.int p1), .val (.int p2), .val (.int (p1 &&& (255 : Int32))), .val (.int ((p1 &&& (255 : Int32)) ^^^ (p2 &&& (254 : Int32)))), .val (.int ((p1 &&& (255 : Int32)) ^^^ (1 : Int32))), .val (.ref b3), .val (.ref b6), .val (.ref b9), .unset] [])) _
    refine XS.iloadN X11.here hx rfl (hb hby at_59) rfl ?_
    show Steps p.tables e below (T11.setTop (mkF m 60 #[.val (.int p1), .val (.int p2), .val (.int (p1 &&& (255 : Int32))), .val (.int ((p1 &&& (255 : Int32)) ^^^ (p2 &&& (254 : Int32)))), .val (.int ((p1 &&& (255 : Int32)) ^^^ (1 : Int32))), .val (.ref b3), .val (.ref b6), .val (.ref b9), .unset] [(.int (p1 &&& (255 : Int32)))])) _
    refine XS.iconst X11.here hx rfl (hb hby at_60) ?_
    show Steps p.tables e below (T11.setTop (mkF m 61 #[.val (.int p1), .val (.int p2), .val (.int (p1 &&& (255 : Int32))), .val (.int ((p1 &&& (255 : Int32)) ^^^ (p2 &&& (254 : Int32)))), .val (.int ((p1 &&& (255 : Int32)) ^^^ (1 : Int32))), .val (.ref b3), .val (.ref b6), .val (.ref b9), .unset] [(.int (2 : Int32)), (.int (p1 &&& (255 : Int32)))])) _
    refine XS.iloadN X11.here hx rfl (hb hby at_61) rfl ?_
    show Steps p.tables e below (T11.setTop (mkF m 62 #[.val (.int p1), .val (.int p2), .val (.int (p1 &&& (255 : Int32))), .val (.int ((p1 &&& (255 : Int32)) ^^^ (p2 &&& (254 : Int32)))), .val (.int ((p1 &&& (255 : Int32)) ^^^ (1 : Int32))), .val (.ref b3), .val (.ref b6), .val (.ref b9), .unset] [(.int (p1 &&& (255 : Int32))), (.int (2 : Int32)), (.int (p1 &&& (255 : Int32)))])) _
    refine XS.iconst X11.here hx rfl (hb hby at_62) ?_
    show Steps p.tables e below (T11.setTop (mkF m 63 #[.val (.int p1), .val (.int p2), .val (.int (p1 &&& (255 : Int32))), .val (.int ((p1 &&& (255 : Int32)) ^^^ (p2 &&& (254 : Int32)))), .val (.int ((p1 &&& (255 : Int32)) ^^^ (1 : Int32))), .val (.ref b3), .val (.ref b6), .val (.ref b9), .unset] [(.int (2 : Int32)), (.int (p1 &&& (255 : Int32))), (.int (2 : Int32)), (.int (p1 &&& (255 : Int32)))])) _
    refine XS.idiv X11.here hx rfl (hb hby at_63) rfl hnz63 ?_
    show Steps p.tables e below (T11.setTop (mkF m 64 #[.val (.int p1), .val (.int p2), .val (.int (p1 &&& (255 : Int32))), .val (.int ((p1 &&& (255 : Int32)) ^^^ (p2 &&& (254 : Int32)))), .val (.int ((p1 &&& (255 : Int32)) ^^^ (1 : Int32))), .val (.ref b3), .val (.ref b6), .val (.ref b9), .unset] [(.int ((p1 &&& (255 : Int32)) / (2 : Int32))), (.int (2 : Int32)), (.int (p1 &&& (255 : Int32)))])) _
    refine XS.imul X11.here hx rfl (hb hby at_64) rfl ?_
    show Steps p.tables e below (T11.setTop (mkF m 65 #[.val (.int p1), .val (.int p2), .val (.int (p1 &&& (255 : Int32))), .val (.int ((p1 &&& (255 : Int32)) ^^^ (p2 &&& (254 : Int32)))), .val (.int ((p1 &&& (255 : Int32)) ^^^ (1 : Int32))), .val (.ref b3), .val (.ref b6), .val (.ref b9), .unset] [(.int ((2 : Int32) * ((p1 &&& (255 : Int32)) / (2 : Int32)))), (.int (p1 &&& (255 : Int32)))])) _
    refine XS.isub X11.here hx rfl (hb hby at_65) rfl ?_
    show Steps p.tables e below (T11.setTop (mkF m 66 #[.val (.int p1), .val (.int p2), .val (.int (p1 &&& (255 : Int32))), .val (.int ((p1 &&& (255 : Int32)) ^^^ (p2 &&& (254 : Int32)))), .val (.int ((p1 &&& (255 : Int32)) ^^^ (1 : Int32))), .val (.ref b3), .val (.ref b6), .val (.ref b9), .unset] [(.int ((p1 &&& (255 : Int32)) - ((2 : Int32) * ((p1 &&& (255 : Int32)) / (2 : Int32)))))])) _
    refine XS.iconst X11.here hx rfl (hb hby at_66) ?_
    show Steps p.tables e below (T11.setTop (mkF m 67 #[.val (.int p1), .val (.int p2), .val (.int (p1 &&& (255 : Int32))), .val (.int ((p1 &&& (255 : Int32)) ^^^ (p2 &&& (254 : Int32)))), .val (.int ((p1 &&& (255 : Int32)) ^^^ (1 : Int32))), .val (.ref b3), .val (.ref b6), .val (.ref b9), .unset] [(.int (1 : Int32)), (.int ((p1 &&& (255 : Int32)) - ((2 : Int32) * ((p1 &&& (255 : Int32)) / (2 : Int32)))))])) _
    refine XS.icmpYes X11.here hx rfl (pc0 := 67) (pc' := 74) rfl (hb hby at_67) rfl (feq hc67).2 (by decide) (by decide) ?_
    show Steps p.tables e below (T11.setTop (mkF m 74 #[.val (.int p1), .val (.int p2), .val (.int (p1 &&& (255 : Int32))), .val (.int ((p1 &&& (255 : Int32)) ^^^ (p2 &&& (254 : Int32)))), .val (.int ((p1 &&& (255 : Int32)) ^^^ (1 : Int32))), .val (.ref b3), .val (.ref b6), .val (.ref b9), .unset] [])) _
    refine XS.iconst X11.here hx rfl (hb hby at_74) ?_
    show Steps p.tables e below (T11.setTop (mkF m 75 #[.val (.int p1), .val (.int p2), .val (.int (p1 &&& (255 : Int32))), .val (.int ((p1 &&& (255 : Int32)) ^^^ (p2 &&& (254 : Int32)))), .val (.int ((p1 &&& (255 : Int32)) ^^^ (1 : Int32))), .val (.ref b3), .val (.ref b6), .val (.ref b9), .unset] [(.int (0 : Int32))])) _
    refine XS.istore X11.here hx rfl (hb hby at_75) rfl (l' := #[.val (.int p1), .val (.int p2), .val (.int (p1 &&& (255 : Int32))), .val (.int ((p1 &&& (255 : Int32)) ^^^ (p2 &&& (254 : Int32)))), .val (.int ((p1 &&& (255 : Int32)) ^^^ (1 : Int32))), .val (.ref b3), .val (.ref b6), .val (.ref b9), .val (.int (0 : Int32))]) rfl ?_
    show Steps p.tables e below (T11.setTop (mkF m 77 #[.val (.int p1), .val (.int p2), .val (.int (p1 &&& (255 : Int32))), .val (.int ((p1 &&& (255 : Int32)) ^^^ (p2 &&& (254 : Int32)))), .val (.int ((p1 &&& (255 : Int32)) ^^^ (1 : Int32))), .val (.ref b3), .val (.ref b6), .val (.ref b9), .val (.int (0 : Int32))] [])) _
    refine XS.aload X11.here hx rfl (hb hby at_77) rfl rfl ?_
    show Steps p.tables e below (T11.setTop (mkF m 79 #[.val (.int p1), .val (.int p2), .val (.int (p1 &&& (255 : Int32))), .val (.int ((p1 &&& (255 : Int32)) ^^^ (p2 &&& (254 : Int32)))), .val (.int ((p1 &&& (255 : Int32)) ^^^ (1 : Int32))), .val (.ref b3), .val (.ref b6), .val (.ref b9), .val (.int (0 : Int32))] [(.ref b3)])) _
    refine st12.trans ?_
    show Steps p.tables e below (T12.setTop (mkF m 82 #[.val (.int p1), .val (.int p2), .val (.int (p1 &&& (255 : Int32))), .val (.int ((p1 &&& (255 : Int32)) ^^^ (p2 &&& (254 : Int32)))), .val (.int ((p1 &&& (255 : Int32)) ^^^ (1 : Int32))), .val (.ref b3), .val (.ref b6), .val (.ref b9), .val (.int (0 : Int32))] [(.int (own_fl (p1 &&& (255 : Int32))))])) _
    refine XS.iload X12.here hx rfl (hb hby at_82) rfl ?_
    show Steps p.tables e below (T12.setTop (mkF m 84 #[.val (.int p1), .val (.int p2), .val (.int (p1 &&& (255 : Int32))), .val (.int ((p1 &&& (255 : Int32)) ^^^ (p2 &&& (254 : Int32)))), .val (.int ((p1 &&& (255 : Int32)) ^^^ (1 : Int32))), .val (.ref b3), .val (.ref b6), .val (.ref b9), .val (.int (0 : Int32))] [(.int (0 : Int32)), (.int (own_fl (p1 &&& (255 : Int32))))])) _
    refine XS.icmpNo X12.here hx rfl (hb hby at_84) rfl (teq (h12 : (own_fl (p1 &&& (255 : Int32))) = (0 : Int32))).2 ?_
    show Steps p.tables e below (T12.setTop (mkF m 87 #[.val (.int p1), .val (.int p2), .val (.int (p1 &&& (255 : Int32))), .val (.int ((p1 &&& (255 : Int32)) ^^^ (p2 &&& (254 : Int32)))), .val (.int ((p1 &&& (255 : Int32)) ^^^ (1 : Int32))), .val (.ref b3), .val (.ref b6), .val (.ref b9), .val (.int (0 : Int32))] [])) _
    refine XS.aload X12.here hx rfl (hb hby at_87) rfl rfl ?_
    show Steps p.tables e below (T12.setTop (mkF m 89 #[.val (.int p1), .val (.int p2), .val (.int (p1 &&& (255 : Int32))), .val (.int ((p1 &&& (255 : Int32)) ^^^ (p2 &&& (254 : Int32)))), .val (.int ((p1 &&& (255 : Int32)) ^^^ (1 : Int32))), .val (.ref b3), .val (.ref b6), .val (.ref b9), .val (.int (0 : Int32))] [(.ref b6)])) _
    refine st13.trans ?_
    show Steps p.tables e below (T13.setTop (mkF m 92 #[.val (.int p1), .val (.int p2), .val (.int (p1 &&& (255 : Int32))), .val (.int ((p1 &&& (255 : Int32)) ^^^ (p2 &&& (254 : Int32)))), .val (.int ((p1 &&& (255 : Int32)) ^^^ (1 : Int32))), .val (.ref b3), .val (.ref b6), .val (.ref b9), .val (.int (0 : Int32))] [(.int (own_fl ((p1 &&& (255 : Int32)) ^^^ (p2 &&& (254 : Int32)))))])) _
    refine XS.iload X13.here hx rfl (hb hby at_92) rfl ?_
    show Steps p.tables e below (T13.setTop (mkF m 94 #[.val (.int p1), .val (.int p2), .val (.int (p1 &&& (255 : Int32))), .val (.int ((p1 &&& (255 : Int32)) ^^^ (p2 &&& (254 : Int32)))), .val (.int ((p1 &&& (255 : Int32)) ^^^ (1 : Int32))), .val (.ref b3), .val (.ref b6), .val (.ref b9), .val (.int (0 : Int32))] [(.int (0 : Int32)), (.int (own_fl ((p1 &&& (255 : Int32)) ^^^ (p2 &&& (254 : Int32)))))])) _
    refine XS.icmpNo X13.here hx rfl (hb hby at_94) rfl (teq (h13 : (own_fl ((p1 &&& (255 : Int32)) ^^^ (p2 &&& (254 : Int32)))) = (0 : Int32))).2 ?_
    show Steps p.tables e below (T13.setTop (mkF m 97 #[.val (.int p1), .val (.int p2), .val (.int (p1 &&& (255 : Int32))), .val (.int ((p1 &&& (255 : Int32)) ^^^ (p2 &&& (254 : Int32)))), .val (.int ((p1 &&& (255 : Int32)) ^^^ (1 : Int32))), .val (.ref b3), .val (.ref b6), .val (.ref b9), .val (.int (0 : Int32))] [])) _
    refine XS.aload X13.here hx rfl (hb hby at_97) rfl rfl ?_
    show Steps p.tables e below (T13.setTop (mkF m 99 #[.val (.int p1), .val (.int p2), .val (.int (p1 &&& (255 : Int32))), .val (.int ((p1 &&& (255 : Int32)) ^^^ (p2 &&& (254 : Int32)))), .val (.int ((p1 &&& (255 : Int32)) ^^^ (1 : Int32))), .val (.ref b3), .val (.ref b6), .val (.ref b9), .val (.int (0 : Int32))] [(.ref b9)])) _
    refine st14.trans ?_
    show Steps p.tables e below (T14.setTop (mkF m 102 #[.val (.int p1), .val (.int p2), .val (.int (p1 &&& (255 : Int32))), .val (.int ((p1 &&& (255 : Int32)) ^^^ (p2 &&& (254 : Int32)))), .val (.int ((p1 &&& (255 : Int32)) ^^^ (1 : Int32))), .val (.ref b3), .val (.ref b6), .val (.ref b9), .val (.int (0 : Int32))] [(.int (own_fl ((p1 &&& (255 : Int32)) ^^^ (1 : Int32))))])) _
    refine XS.iload X14.here hx rfl (hb hby at_102) rfl ?_
    show Steps p.tables e below (T14.setTop (mkF m 104 #[.val (.int p1), .val (.int p2), .val (.int (p1 &&& (255 : Int32))), .val (.int ((p1 &&& (255 : Int32)) ^^^ (p2 &&& (254 : Int32)))), .val (.int ((p1 &&& (255 : Int32)) ^^^ (1 : Int32))), .val (.ref b3), .val (.ref b6), .val (.ref b9), .val (.int (0 : Int32))] [(.int (0 : Int32)), (.int (own_fl ((p1 &&& (255 : Int32)) ^^^ (1 : Int32))))])) _
    refine XS.icmpNo X14.here hx rfl (hb hby at_104) rfl (feq (h14 : ¬ ((own_fl ((p1 &&& (255 : Int32)) ^^^ (1 : Int32))) = (0 : Int32)))).1 ?_
    show Steps p.tables e below (T14.setTop (mkF m 107 #[.val (.int p1), .val (.int p2), .val (.int (p1 &&& (255 : Int32))), .val (.int ((p1 &&& (255 : Int32)) ^^^ (p2 &&& (254 : Int32)))), .val (.int ((p1 &&& (255 : Int32)) ^^^ (1 : Int32))), .val (.ref b3), .val (.ref b6), .val (.ref b9), .val (.int (0 : Int32))] [])) _
    refine XS.iconst X14.here hx rfl (hb hby at_107) ?_
    show Steps p.tables e below (T14.setTop (mkF m 108 #[.val (.int p1), .val (.int p2), .val (.int (p1 &&& (255 : Int32))), .val (.int ((p1 &&& (255 : Int32)) ^^^ (p2 &&& (254 : Int32)))), .val (.int ((p1 &&& (255 : Int32)) ^^^ (1 : Int32))), .val (.ref b3), .val (.ref b6), .val (.ref b9), .val (.int (0 : Int32))] [(.int (1 : Int32))])) _
    refine XS.goto X14.here hx rfl (pc0 := 108) (pc' := 112) rfl (hb hby at_108) (by decide) (by decide) ?_
    show Steps p.tables e below (T14.setTop (mkF m 112 #[.val (.int p1), .val (.int p2), .val (.int (p1 &&& (255 : Int32))), .val (.int ((p1 &&& (255 : Int32)) ^^^ (p2 &&& (254 : Int32)))), .val (.int ((p1 &&& (255 : Int32)) ^^^ (1 : Int32))), .val (.ref b3), .val (.ref b6), .val (.ref b9), .val (.int (0 : Int32))] [(.int (1 : Int32))])) _
    exact retN X14 hx (t := .boolean) Bd.returns (by simp) (hb hby at_112) hr
  · show Q0 Z p1 p2 h0 n0 _ T14.heap _
    exact ⟨rfl, N14⟩
theorem rmL (l : Launch) (Z : State) (a0 : Array Value) (hw : ∀ d ∈ tables_1, d.before a0 Z = true) (ws : List Jvm.Cond) (p1 : Int32) (p2 : Int32) (h0 : Heap) (n0 : Nat) (Z0 : n0 ≤ h0.size) :
    MetFree l x (head1 (Jvm.Cond.code x code maxLocals ret :: ws) room_1) (fun a U => a = #[(.int p1), (.int p2)] ∧ Z.Warmed39 U.vm ∧ U.heap = h0) (fun _ _ _ _ _ => True) (fun _ U o U' => ∃ v L, o = .returned v ∧ Q0 Z p1 p2 h0 n0 v U'.heap L ∧ FrameEnd U o U' L room_1.cells room_1.slots) := by
  have nz : ¬ ((2 : Int32) = (0 : Int32)) := by decide
  have hp := own_par p1
  have ho := own_o p1 p2
  have ht := own_t p1
  by_cases h : ((p1 &&& (255 : Int32)) - ((2 : Int32) * ((p1 &&& (255 : Int32)) / (2 : Int32)))) = (1 : Int32)
  · have h1 := hp.mp h
    exact rm0 l Z a0 hw ws p1 p2 h0 n0 Z0 nz h ((own_fl1 _).mpr h1) ((own_fl1 _).mpr (ho.trans h1)) (fun h' => by have := (own_fl1 _).mp h'; omega)
  · have h1 : (p1 &&& 255).toInt % 2 = 0 := by have := mt hp.mpr h; omega
    exact rm0e l Z a0 hw ws p1 p2 h0 n0 Z0 nz h ((own_fl0 _).mpr h1) ((own_fl0 _).mpr (ho.trans h1)) (fun h' => by have := (own_fl0 _).mp h'; omega)
set_option maxRecDepth 65536 in
set_option maxHeartbeats 40000000 in
theorem comes_1 {Post : Tables → Env → Array Value → State → Outcome → State → Prop} (hpost : ∀ tb e args s v u, (limb_1_1.after args s (.returned v) u = true ∧ limb_1_2.after args s (.returned v) u = true ∧ True) → FrameEnd s (.returned v) u (Jvm.fieldLocs frame_1_writes args s ++ Jvm.arrayLocs frame_1_arrays args s ++ Jvm.staticLocs frame_1_statics s) 24 128 → Post tb e args s (.returned v) u) :
    ArmFor flags0 classFile x code maxLocals ret World_1 tables_1 room_1 Calls_1 rest_1 Pre_1 Post := by
  intro l hfl _ _ p e ha hc hk s m args below hf hA hF happ hP
  obtain ⟨hcalls, hrest, hpre⟩ := hP
  obtain ⟨-, -, -, hnamed, -, -, -, hat⟩ := (Spec.applies_iff hf).mp happ
  obtain ⟨hg, hn⟩ := and_e (Cond.before_iff.mp (show (Jvm.Cond.and given_1 narrow_1).before args s = true from hpre))
  obtain ⟨g15, g16⟩ := and_e hg
  obtain ⟨g17, g18⟩ := and_e g16
  obtain ⟨w0, w1, rfl⟩ : ∃ w0 w1 : Value, args = #[w0, w1] := by
    have hs : args.size = 2 := by simpa [Cond.value, given_1] using g15
    obtain ⟨L⟩ := args
    match L, hs with
    | [w0, w1], _ => exact ⟨w0, w1, rfl⟩
  have hw := fun d (hd : d ∈ tables_1) => atoms_spec (ws := Jvm.Cond.code x code maxLocals ret :: tables_1) hat d (List.mem_cons_of_mem _ hd)
  have hfit : Fit s := fun {y c} hc i hi => by
    obtain ⟨ha, rfl⟩ := Array.getElem?_eq_some_iff.mp hc
    have q := List.all_eq_true.mp ((Array.all_eq_true_iff_forall_mem.mp hF) _ (Array.getElem_mem ha)) i (List.mem_range.mpr hi)
    simpa [Array.getElem?_eq_getElem hi] using q
  obtain ⟨i0, ei0⟩ := is_v g17
  obtain rfl : w0 = (.int i0) := Option.some.inj ei0
  obtain ⟨i1, ei1⟩ := is_v g18
  obtain rfl : w1 = (.int i1) := Option.some.inj ei1
  obtain ⟨n, o, h1, h2, h3, _, L, rfl, ⟨rfl, N⟩, hq⟩ := rmL l s _ hw tables_1 i0 i1 s.heap s.heap.size (Nat.le_refl _) p e ha hc hk s m _ below hf ((Spec.applies_iff_loose hf).mp happ).1 ⟨rfl, State.Warmed39.refl s, rfl⟩ trivial
  refine ⟨n, _, h1, h2, h3, hpost _ _ _ _ _ _ ⟨Cond.after_iff.mpr rfl, Cond.after_iff.mpr (eq_i res_at (Term.int_eval (1)) rfl), trivial⟩ ⟨hq.1, hq.2.1, (hq.2.2.sift fun y hy => Or.inr (N y hy)).mono (by decide) (by decide)⟩⟩
theorem main_1_1 : Claimed_1_1 := comes_1 fun _ _ _ _ _ _ h hF => ⟨h.1, hF⟩
theorem main_1_2 : Claimed_1_2 := comes_1 fun _ _ _ _ _ _ h hF => ⟨h.2.1, hF⟩
end Jvm.Pilot.@@N@@
namespace Jvm.Pilot.@@N@@
open Jvm Jvm.ClassFile Sem Op Lib Jvm.Free Jvm.Stand Jvm.Pilot.@@N@@.Jvm.D
/-! MADE BY PROGRAM (witnessworld.py) out of the Statement's table words and the real class files: 11 classes; the members and pool entries that the words name. The judged class is class 1, her method 1. -/
namespace start1
open Jvm.ClassFile
def u (s : String) : CpInfo := .utf8 (stringToUtf16 s)
/-- a pool by its gaps: so many unusable entries, then the entry; so many at the end -/
def gap : Nat → List CpInfo → List CpInfo
  | 0, r => r
  | n + 1, r => .unusable :: gap n r
def poolList (es : List (Nat × CpInfo)) (last : Nat) : List CpInfo := es.foldr (fun e r => gap e.1 (e.2 :: r)) (gap last [])
def pool (es : List (Nat × CpInfo)) (last : Nat) : Array CpInfo := ⟨poolList es last⟩
def fileOf (pool : Array CpInfo) (this : Nat) (attrs : Array Attribute := #[]) (ms : Array MethodInfo := #[]) (fl : Nat := 33) (sup : Nat := 0) (ifs : Array Nat := #[]) (fds : Array FieldInfo := #[]) : ClassFile where
  minorVersion := 0
  majorVersion := 65
  constantPool := pool
  accessFlags := fl
  thisClass := this
  superClass := sup
  interfaces := ifs
  fields := fds
  methods := ms
  attributes := attrs
def plain (name : String) (sup : Option ClassId) : Class where
  name := name
  kind := .ordinary
  loader := none
  accessFlags := 33
  super := sup
  interfaces := #[]
  cf := none
  fields := #[]
  methods := #[]
  instanceTypes := #[]
  staticTypes := #[]
  resolved := #[]
  callSites := []
  init := .initialized
  statics := none
  mirror := none

def pool0 : Array CpInfo := pool [(5, u "<init>"), (0, u "()V"), (1, .class_ 10), (1, u "java/lang/Object")] 113

def k0c0 : Code := { maxStack := 0, maxLocals := 1, code := object_method_1_code, exceptionTable := #[], attributes := #[] }
def k0m0 : Method := { name := "<init>", desc := "()V", sig := { parameters := [], returnType := none }, accessFlags := 1, code := some k0c0 }
/-- java/lang/Object -/
def k0 : Class := { plain "java/lang/Object" none with
  accessFlags := 33
  interfaces := #[]
  cf := some (fileOf pool0 8 #[] #[{ accessFlags := 1, nameIndex := 5, descriptorIndex := 6, attributes := #[] }] 33 0 #[] #[])
  fields := #[]
  methods := #[k0m0]
  instanceTypes := #[]
  staticTypes := #[]
  resolved := Array.replicate 124 none
  statics := none }

def pool1 : Array CpInfo := pool [(2, .class_ 4), (1, u "java/lang/Object"), (0, u "<init>"), (0, u "()V"), (0, .class_ 8), (0, u "com/example/hushwire/hushwire/BlockContent$RouterInfoBlock"), (0, .methodref 7 10), (0, .nameAndType 5 11), (0, u "(I[B)V"), (0, .methodref 7 13), (0, .nameAndType 14 15), (0, u "flood"), (0, u "()Z"), (0, .class_ 17), (0, u "com/example/hushwire/hushwire/RouterInfoBlockFloodPinLaw"), (2, u "law"), (0, u "(II)Z")] 7

def k1m0 : Method := { name := "<init>", desc := "()V", sig := { parameters := [], returnType := none }, accessFlags := 1, code := none }
def k1c1 : Code := { maxStack := 4, maxLocals := 9, code := code, exceptionTable := #[], attributes := #[] }
def k1m1 : Method := { name := "law", desc := "(II)Z", sig := { parameters := [.int, .int], returnType := some .boolean }, accessFlags := 9, code := some k1c1 }
/-- com/example/hushwire/hushwire/RouterInfoBlockFloodPinLaw -/
def k1 : Class := { plain "com/example/hushwire/hushwire/RouterInfoBlockFloodPinLaw" (some 0) with
  accessFlags := 49
  interfaces := #[]
  cf := some (fileOf pool1 16 #[] #[{ accessFlags := 1, nameIndex := 5, descriptorIndex := 6, attributes := #[] }, { accessFlags := 9, nameIndex := 20, descriptorIndex := 21, attributes := #[] }] 49 2 #[] #[])
  fields := #[]
  methods := #[k1m0, k1m1]
  instanceTypes := #[]
  staticTypes := #[]
  resolved := Array.replicate 29 none
  statics := none }

def pool2 : Array CpInfo := pool [(1, .methodref 2 3), (0, .class_ 4), (0, .nameAndType 5 6), (0, u "java/lang/Object"), (0, u "<init>"), (0, u "()V"), (0, .class_ 8), (0, u "java/lang/Record")] 13

def k2c0 : Code := { maxStack := 1, maxLocals := 1, code := jdk_30_method_1_code, exceptionTable := #[], attributes := #[] }
def k2m0 : Method := { name := "<init>", desc := "()V", sig := { parameters := [], returnType := none }, accessFlags := 4, code := some k2c0 }
/-- java/lang/Record -/
def k2 : Class := { plain "java/lang/Record" (some 0) with
  accessFlags := 1057
  interfaces := #[]
  cf := some (fileOf pool2 7 #[] #[{ accessFlags := 4, nameIndex := 5, descriptorIndex := 6, attributes := #[] }] 1057 2 #[] #[])
  fields := #[]
  methods := #[k2m0]
  instanceTypes := #[]
  staticTypes := #[]
  resolved := Array.replicate 22 none
  statics := none }

def pool3 : Array CpInfo := pool [(1, .class_ 2), (0, u "com/example/hushwire/hushwire/BlockContent"), (0, .class_ 4), (0, u "java/lang/Object"), (3, .class_ 9), (0, u "com/example/hushwire/hushwire/BlockContent$RouterInfoBlock"), (0, .class_ 11), (0, u "com/example/hushwire/hushwire/BlockContent$Options"), (0, .class_ 13), (0, u "com/example/hushwire/hushwire/BlockContent$DateTime")] 9

/-- com/example/hushwire/hushwire/BlockContent -/
def k3 : Class := { plain "com/example/hushwire/hushwire/BlockContent" (some 0) with
  accessFlags := 1536
  interfaces := #[]
  cf := some (fileOf pool3 1 #[.nestMembers #[8, 10, 12]] #[] 1536 3 #[] #[])
  fields := #[]
  methods := #[]
  instanceTypes := #[]
  staticTypes := #[]
  resolved := Array.replicate 23 none
  statics := none }

def pool4 : Array CpInfo := pool [(1, .methodref 2 3), (0, .class_ 4), (0, .nameAndType 5 6), (0, u "java/lang/Record"), (0, u "<init>"), (0, u "()V"), (0, .fieldref 8 9), (0, .class_ 10), (0, .nameAndType 11 12), (0, u "com/example/hushwire/hushwire/BlockContent$RouterInfoBlock"), (0, u "flag"), (0, u "I"), (0, .fieldref 8 14), (0, .nameAndType 15 16), (0, u "routerInfo"), (0, u "[B"), (37, u "(I[B)V"), (29, .class_ 85), (0, u "com/example/hushwire/hushwire/BlockContent"), (0, u "FLOOD"), (5, u "flood"), (0, u "()Z")] 48

def k4c0 : Code := { maxStack := 2, maxLocals := 3, code := prog_6_method_1_code, exceptionTable := #[], attributes := #[] }
def k4m0 : Method := { name := "<init>", desc := "(I[B)V", sig := { parameters := [.int, (.array .byte)], returnType := none }, accessFlags := 1, code := some k4c0 }
def k4c1 : Code := { maxStack := 2, maxLocals := 1, code := prog_6_method_2_code, exceptionTable := #[], attributes := #[] }
def k4m1 : Method := { name := "flood", desc := "()Z", sig := { parameters := [], returnType := some .boolean }, accessFlags := 0, code := some k4c1 }
/-- com/example/hushwire/hushwire/BlockContent$RouterInfoBlock -/
def k4 : Class := { plain "com/example/hushwire/hushwire/BlockContent$RouterInfoBlock" (some 2) with
  accessFlags := 49
  interfaces := #[3]
  cf := some (fileOf pool4 8 #[.nestHost 84] #[{ accessFlags := 1, nameIndex := 5, descriptorIndex := 54, attributes := #[] }, { accessFlags := 0, nameIndex := 92, descriptorIndex := 93, attributes := #[] }] 49 2 #[84] #[{ accessFlags := 18, nameIndex := 11, descriptorIndex := 12, attributes := #[] }, { accessFlags := 18, nameIndex := 15, descriptorIndex := 16, attributes := #[] }, { accessFlags := 24, nameIndex := 86, descriptorIndex := 12, attributes := #[] }])
  fields := #[{ name := "flag", type := .int, accessFlags := 18, slot := 0, constantValue := 0 }, { name := "routerInfo", type := (.array .byte), accessFlags := 18, slot := 1, constantValue := 0 }, { name := "FLOOD", type := .int, accessFlags := 24, slot := 0, constantValue := 0 }]
  methods := #[k4m0, k4m1]
  instanceTypes := #[.int, (.array .byte)]
  staticTypes := #[.int]
  resolved := Array.replicate 142 none
  statics := none }

def pool5 : Array CpInfo := pool [(1, u "java/lang/Cloneable"), (0, .class_ 1), (0, u "java/lang/Object"), (0, .class_ 3)] 3

/-- java/lang/Cloneable -/
def k5 : Class := { plain "java/lang/Cloneable" (some 0) with
  accessFlags := 1537
  interfaces := #[]
  cf := some (fileOf pool5 2 #[] #[] 1537 4 #[] #[])
  fields := #[]
  methods := #[]
  instanceTypes := #[]
  staticTypes := #[]
  resolved := Array.replicate 8 none
  statics := none }

def pool6 : Array CpInfo := pool [(1, u "java/io/Serializable"), (0, .class_ 1), (0, u "java/lang/Object"), (0, .class_ 3)] 3

/-- java/io/Serializable -/
def k6 : Class := { plain "java/io/Serializable" (some 0) with
  accessFlags := 1537
  interfaces := #[]
  cf := some (fileOf pool6 2 #[] #[] 1537 4 #[] #[])
  fields := #[]
  methods := #[]
  instanceTypes := #[]
  staticTypes := #[]
  resolved := Array.replicate 8 none
  statics := none }

/-- the primitive byte -/
def k7 : Class := { plain "byte" none with kind := .primitive 'B', accessFlags := 0x411 }
/-- [B -/
def k8 : Class := { plain "[B" (some 0) with kind := .array 7 .byte, interfaces := #[5, 6], accessFlags := 1041 }

/-- the primitive int -/
def k9 : Class := { plain "int" none with kind := .primitive 'I', accessFlags := 0x411 }
/-- [I -/
def k10 : Class := { plain "[I" (some 0) with kind := .array 9 .int, interfaces := #[5, 6], accessFlags := 1041 }

def heap : Heap := #[]
def classes : Array Class := #[k0, k1, k2, k3, k4, k5, k6, k7, k8, k9, k10]
def interned : List (Array UInt16 × Addr) := []
def slotsUsed : Nat := 0
def theMethod : MethodId := ⟨1, 1⟩
def args0 : Array Value := #[.int 5, .int 7]
def aboutOver (below : List Frame) : State where
  vm := { classes := classes, interned := interned.toArray }
  heap := heap
  slotsUsed := slotsUsed
  threads := #[{ frames := .invoking theMethod args0 :: below }]
def below0 : List Frame := [.native { method := ⟨0, 0⟩, args := #[] }]
def about1 : State := aboutOver below0
def p0 : Program := .bare "" "" ""
def e0 : Env := launch0.env 0 0 0
theorem w_frames : about1.frames = Frame.invoking theMethod args0 :: below0 := rfl
set_option maxRecDepth 65536 in
theorem w_args : argsFit about1.vm theMethod args0 = true := by decide +kernel
set_option maxRecDepth 65536 in
theorem w_heap : heapFits about1 = true := by decide +kernel
set_option maxRecDepth 65536 in
theorem w_runnable : about1.curStatus? = some .runnable := by decide +kernel
set_option maxRecDepth 65536 in
theorem w_alone : about1.alone = true := by decide +kernel
set_option maxRecDepth 65536 in
theorem w_named : about1.methodNamed? x = some theMethod := by decide +kernel
set_option maxRecDepth 65536 in
theorem w_hears : about1.hears theMethod below0 = true := by decide +kernel
set_option maxRecDepth 65536 in
theorem w_ripe : about1.ripe theMethod args0 below0 = true := by decide +kernel
theorem w_running : about1.status = .running := rfl
set_option maxRecDepth 65536 in
theorem w_room : about1.hasRoom e0.platform room_1 = true :=
  launch0.hasRoom_least _ room_1 (by decide +kernel) (by decide +kernel) (by decide +kernel) (by decide +kernel) (by decide +kernel) (by decide +kernel)
theorem allAtoms_all (ts : List Jvm.Cond) (a : Array Jvm.Value) (st : Jvm.State) : (allAtoms ts).before a st = ts.all (fun c => c.before a st) := by
  induction ts with
  | nil => rfl
  | cons c t ih =>
    show (Jvm.Cond.and c (allAtoms t)).before a st = _
    rw [Jvm.Cond.before_and, ih, List.all_cons]
def words1 : List Jvm.Cond := Jvm.Cond.code x code maxLocals ret :: tables_1
/-- a 'code' word, met by the world's own term for the bytes: nothing is compared byte by byte -/
theorem code_word {y : MethodName} {bytes : ByteArray} {mx : Nat} {rt : Option FieldType} {a : Array Value} {s : State} {m : MethodId} {meth : Method} {c : Code} (h1 : s.methodNamed? y = some m) (h2 : s.vm.method? m = some meth) (h3 : meth.code = some c) (h4 : c.code = bytes)
    (h5 : (c.maxLocals == mx && c.exceptionTable.isEmpty && decide (c.maxStack ≤ mostOperands) && decide (meth.sig.returnType = rt) && !meth.locks && decide (parseMethodDescriptor y.desc = some meth.sig)) = true) : (Jvm.Cond.code y bytes mx rt).before a s = true := by
  simp only [Bool.and_eq_true, beq_iff_eq, Bool.not_eq_true', decide_eq_true_eq] at h5
  obtain ⟨⟨⟨⟨⟨g1, g2⟩, g3⟩, g4⟩, g5⟩, g6⟩ := h5
  simp [Cond.before, Cond.holds, Cond.value, h1, h2, h3, h4, g1, g2, g3, g4, g5, g6]
def isCode : Jvm.Cond → Bool
  | .code _ _ _ _ => true
  | _ => false
theorem all_split {L : List Jvm.Cond} {P : Jvm.Cond → Bool} (h1 : L.all (fun c => isCode c || P c) = true) (h2 : ∀ c ∈ L.filter isCode, P c = true) : L.all P = true := by
  refine List.all_eq_true.mpr fun c hc => ?_
  have h := List.all_eq_true.mp h1 c hc
  rcases Bool.eq_false_or_eq_true (isCode c) with hi | hi
  · exact h2 c (List.mem_filter.mpr ⟨hc, hi⟩)
  · simpa [hi] using h
set_option maxRecDepth 65536 in
theorem w_c0 : (Jvm.Cond.code x code maxLocals ret).before args0 about1 = true := code_word (m := ⟨1, 1⟩) (meth := k1m1) (c := k1c1) (by decide +kernel) rfl rfl rfl (by decide +kernel)
set_option maxRecDepth 65536 in
theorem w_c1 : (Jvm.Cond.code ({ cls := "com/example/hushwire/hushwire/BlockContent$RouterInfoBlock", name := "<init>", desc := "(I[B)V" } : Jvm.MethodName) prog_6_method_1_code (3 : Nat) (Option.none : Option Jvm.ClassFile.FieldType)).before args0 about1 = true := code_word (m := ⟨4, 0⟩) (meth := k4m0) (c := k4c0) (by decide +kernel) rfl rfl rfl (by decide +kernel)
set_option maxRecDepth 65536 in
theorem w_c2 : (Jvm.Cond.code ({ cls := "java/lang/Record", name := "<init>", desc := "()V" } : Jvm.MethodName) jdk_30_method_1_code (1 : Nat) (Option.none : Option Jvm.ClassFile.FieldType)).before args0 about1 = true := code_word (m := ⟨2, 0⟩) (meth := k2m0) (c := k2c0) (by decide +kernel) rfl rfl rfl (by decide +kernel)
set_option maxRecDepth 65536 in
theorem w_c3 : (Jvm.Cond.code ({ cls := "java/lang/Object", name := "<init>", desc := "()V" } : Jvm.MethodName) object_method_1_code (1 : Nat) (Option.none : Option Jvm.ClassFile.FieldType)).before args0 about1 = true := code_word (m := ⟨0, 0⟩) (meth := k0m0) (c := k0c0) (by decide +kernel) rfl rfl rfl (by decide +kernel)
set_option maxRecDepth 65536 in
theorem w_c4 : (Jvm.Cond.code ({ cls := "com/example/hushwire/hushwire/BlockContent$RouterInfoBlock", name := "flood", desc := "()Z" } : Jvm.MethodName) prog_6_method_2_code (1 : Nat) (Option.some Jvm.ClassFile.FieldType.boolean)).before args0 about1 = true := code_word (m := ⟨4, 1⟩) (meth := k4m1) (c := k4c1) (by decide +kernel) rfl rfl rfl (by decide +kernel)
def codes1 : List Jvm.Cond := [Jvm.Cond.code x code maxLocals ret, Jvm.Cond.code ({ cls := "com/example/hushwire/hushwire/BlockContent$RouterInfoBlock", name := "<init>", desc := "(I[B)V" } : Jvm.MethodName) prog_6_method_1_code (3 : Nat) (Option.none : Option Jvm.ClassFile.FieldType), Jvm.Cond.code ({ cls := "java/lang/Record", name := "<init>", desc := "()V" } : Jvm.MethodName) jdk_30_method_1_code (1 : Nat) (Option.none : Option Jvm.ClassFile.FieldType), Jvm.Cond.code ({ cls := "java/lang/Object", name := "<init>", desc := "()V" } : Jvm.MethodName) object_method_1_code (1 : Nat) (Option.none : Option Jvm.ClassFile.FieldType), Jvm.Cond.code ({ cls := "com/example/hushwire/hushwire/BlockContent$RouterInfoBlock", name := "flood", desc := "()Z" } : Jvm.MethodName) prog_6_method_2_code (1 : Nat) (Option.some Jvm.ClassFile.FieldType.boolean)]
set_option maxRecDepth 65536 in
theorem codes_eq : words1.filter isCode = codes1 := rfl
theorem w_codes : ∀ c ∈ words1.filter isCode, c.before args0 about1 = true := by
  rw [codes_eq]
  intro c hc
  simp only [codes1, List.mem_cons, List.not_mem_nil, or_false] at hc
  rcases hc with rfl | rfl | rfl | rfl | rfl
  · exact w_c0
  · exact w_c1
  · exact w_c2
  · exact w_c3
  · exact w_c4
set_option maxRecDepth 65536 in
theorem w_t1 : (words1.take 24).all (fun c => isCode c || c.before args0 about1) = true := by decide +kernel
set_option maxRecDepth 65536 in
theorem w_t2 : (words1.drop 24).all (fun c => isCode c || c.before args0 about1) = true := by decide +kernel
theorem w_tables : (allAtoms (Jvm.Cond.code x code maxLocals ret :: tables_1)).before args0 about1 = true := by
  rw [allAtoms_all]
  show words1.all (fun c => c.before args0 about1) = true
  refine all_split ?_ w_codes
  rw [← List.take_append_drop 24 words1, List.all_append, w_t1, w_t2]
  rfl
set_option maxRecDepth 65536 in
theorem w_case : (Jvm.Cond.and given_1 narrow_1).before args0 about1 = true := by decide +kernel
theorem w_applies : (headSpec (Jvm.Cond.code x code maxLocals ret :: tables_1) room_1).applies x e0.platform about1 = true :=
  (Spec.applies_iff w_frames).mpr ⟨w_running, w_runnable, w_alone, w_named, w_hears, w_ripe, w_room, w_tables⟩
theorem atStart : AtStart classFile x code maxLocals ret World_1 tables_1 room_1 Calls_1 rest_1 Pre_1 launch0 p0 e0 about1 theMethod args0 below0 :=
  ⟨lists_1, trivial, launch0.admits_env _ _ _, launch0.least_env, fairChoices_fair.cas, fairChoices_fair.clock, w_frames, w_args, w_heap, w_applies, trivial, trivial, w_case⟩
end start1
theorem witness_1 : WitnessClaimed_1 := ⟨start1.p0, start1.e0, start1.about1, start1.theMethod, start1.args0, start1.below0, start1.atStart⟩
end Jvm.Pilot.@@N@@
