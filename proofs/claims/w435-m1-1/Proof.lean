import JvmDerived
import JvmDerived.Pilot.@@N@@Statement
import JvmDerived.Pilot.@@N@@Code
set_option linter.unusedVariables false
set_option linter.unusedSimpArgs false
namespace Jvm.RoadKit
open Sem ClassFile Op Lib Jvm.Stand Jvm.Free Jvm.LawKit
section New
variable {p : Program} {l : Launch} {e : Env} {R : Room} {s : State} {m : MethodId} {args : Array Value} {below : List Frame} {meth : Method} {c : Code} {T : State} {locs : List Loc} {cells slots : Nat}
theorem retI (X : Stand p l e R s m args below meth c T locs cells slots) (hx : p.tables.exec = Jvm.exec) {pc : Nat} {Ls : Array Slot} {z : Int32} {rest : List Value} (hret : meth.sig.returnType = some .int) (hd : decode c.code pc = .ok (.ireturn, 1)) {fs : List Frame}
    (hl : ∀ (f : JFrame) (acts : List Action), f.method = m → f.locked = none → f.entered = [] → (doReturn e (T.setTop f) acts (some (.int z))).1 = T.setFrames fs) : Steps p.tables e below (T.setTop (mkF m pc Ls (.int z :: rest))) (T.setFrames fs) := by
  have hm' : T.vm.method? m = some meth := X.method'
  have hn : narrow .int (.int z) = .int z := rfl
  show Steps p.tables e below (T.setTop { method := m, pc := pc, locals := Ls, stack := _ :: rest, locked := none }) _
  jvm_step X.here [X.here.top, hx, hd, hm', hret, hn]
  first | (intro acts; rw [hl _ acts rfl rfl rfl]) | rw [hl _ _ rfl rfl rfl]
  exact Steps.refl _
end New
end Jvm.RoadKit
namespace Jvm.Pilot.@@N@@
open Jvm Jvm.ClassFile Sem Op Lib Jvm.Free Jvm.Stand Jvm.LawKit Jvm.RoadKit Bundle Jvm.Pilot.@@N@@.Jvm.D
theorem own_lw_lt (x y : Int64) : lcmpW x y < 0 ↔ x < y := by rw [lcW]; exact lc_lt x y
theorem own_lw_gt (x y : Int64) : 0 < lcmpW x y ↔ y < x := by rw [lcW]; exact lc_gt x y
theorem own_lw_eq (x y : Int64) : lcmpW x y = 0 ↔ x = y := by rw [lcW]; exact lc_eq x y
theorem own_ne32 {k n : Int32} (h : ¬ k = n) : n.toInt ≠ k.toInt := fun e => h (Int32.toInt_inj.mp e.symm)
theorem own_d2_0 : decode jdk_30_method_1_code 0 = .ok (.aload_n 0, 1) := by decide +kernel
theorem own_d2_1 : decode jdk_30_method_1_code 1 = .ok (.invokespecial 1, 3) := by decide +kernel
theorem own_d2_4 : decode jdk_30_method_1_code 4 = .ok (.return_, 1) := by decide +kernel
theorem own_pn2 : plainName "java/lang/Record" = true := by first | (simp [plainName, overriddenIn]; done) | decide +kernel
theorem own_ef2 (m : MethodId) (x0 : Addr) : entryFrame m #[(.ref x0)] 1 = (mkF m 0 #[.val (.ref x0)] []) := by first | (simp [entryFrame, mkF, argsToLocals, Value.category]; done) | rfl
def own_Q2 (Z : State) (o0 : Addr) (h0 : Heap) (n0 : Nat) (v : Option Value) (h : Heap) (L : List Loc) : Prop := v = none ∧ Fr n0 L ∧ h = h0
set_option maxRecDepth 65536 in
set_option maxHeartbeats 40000000 in
theorem own_rm2 (l : Launch) (Z : State) (a0 : Array Value) (hw : ∀ d ∈ tables_1, d.before a0 Z = true) (ws : List Jvm.Cond) (o0 : Addr) (h0 : Heap) (n0 : Nat) (Z0 : n0 ≤ h0.size) :
    MetFree l (⟨"java/lang/Record", "<init>", "()V"⟩ : MethodName) (head1 (Jvm.Cond.code (⟨"java/lang/Record", "<init>", "()V"⟩ : MethodName) jdk_30_method_1_code 1 none :: ws) ({ frames := 1, cells := 0, slots := 0, locals := 12 } : Room)) (fun a U => a = #[(.ref o0)] ∧ Z.Warmed39 U.vm ∧ U.heap = h0) (fun _ _ _ _ _ => True) (fun _ U o U' => ∃ v L, o = .returned v ∧ own_Q2 Z o0 h0 n0 v U'.heap L ∧ FrameEnd U o U' L ({ frames := 1, cells := 0, slots := 0, locals := 12 } : Room).cells ({ frames := 1, cells := 0, slots := 0, locals := 12 } : Room).slots) := by
  refine MetFree.of_bodySF (plainFor_of_name own_pn2) hisR ?_
  intro p e s m args below meth c s₁ Bd hml0 hP hK
  obtain ⟨rfl, hZ, hh⟩ := hP
  have hx := Bd.exec
  have hby := Bd.bytes
  have hml : c.maxLocals = 1 := hml0
  have hown : s.vm.findClass "java/lang/Record" = some m.cls := findClass_of_methodNamed Bd.named
  have hnm := (name_of_methodNamed Bd.named Bd.method).1
  have X0 : Stand p l e ({ frames := 1, cells := 0, slots := 0, locals := 12 } : Room) s m #[(.ref o0)] below meth c s₁ [] 0 0 := Stand.of_body Bd
  have e0 : s₁.heap = h0 := by rw [← hh, Bd.state]; rfl
  have N0 := Fr.nil n0
  have pre0 : ∀ t, Steps p.tables e below (s₁.setTop (mkF m 0 #[.val (.ref o0)] [])) t → Steps p.tables e below (s₁.setTop (entryFrame m #[(.ref o0)] 1)) t := fun t k => castTop (own_ef2 m o0) k
  obtain ⟨T1, X1, e1, st1⟩ := initO X0 hx hZ hown (hw _ (List.mem_of_getElem? (i := 12) rfl)) (hw _ (List.mem_of_getElem? (i := 13) rfl)) (hw _ (List.mem_of_getElem? (i := 14) rfl)) e0 (g := (mkF m 1 #[.val (.ref o0)] [(.ref o0)])) rfl (by rw [hml]; rfl) rfl (hb hby own_d2_1) (by decide) (W := 0) (by show 2 * 0 + _ ≤ _; exact Nat.le_of_eq rfl) (by decide)
  have pre2 : ∀ t, Steps p.tables e below (T1.setTop (mkF m 4 #[.val (.ref o0)] [])) t → Steps p.tables e below (s₁.setTop (entryFrame m #[(.ref o0)] 1)) t := fun t k => pre0 t (by
      refine XS.aloadN X0.here hx rfl (hb hby own_d2_0) rfl rfl ?_
      show Steps p.tables e below (s₁.setTop (mkF m 1 #[.val (.ref o0)] [(.ref o0)])) _
      refine st1 _ ?_
      show Steps p.tables e below (T1.setTop (mkF m 4 #[.val (.ref o0)] [])) _
      exact k)
  obtain ⟨fs, hr, hrun, hended, hW, hsame⟩ := X1.leave (v := none) (fun _ => rfl)
  refine ⟨_, _, pre2 _ ?_, hrun, hended, _, _, rfl, ?_, ⟨_, rfl⟩, hW, hsame.mono (by decide) (by decide)⟩
  · show Steps p.tables e below (T1.setTop (mkF m 4 #[.val (.ref o0)] [])) _
    exact X1.returnOut hx Bd.returns (hb hby own_d2_4) hr
  · show own_Q2 Z o0 h0 n0 _ T1.heap _; rw [e1]; exact ⟨rfl, N0, rfl⟩
theorem own_pd0 : parseMethodDescriptor "()V" = some ⟨[], none⟩ := by decide +kernel
theorem own_d1_0 : decode prog_4_method_1_code 0 = .ok (.aload_n 0, 1) := by decide +kernel
theorem own_d1_1 : decode prog_4_method_1_code 1 = .ok (.invokespecial 1, 3) := by decide +kernel
theorem own_d1_4 : decode prog_4_method_1_code 4 = .ok (.aload_n 0, 1) := by decide +kernel
theorem own_d1_5 : decode prog_4_method_1_code 5 = .ok (.lload_n 1, 1) := by decide +kernel
theorem own_d1_6 : decode prog_4_method_1_code 6 = .ok (.putfield 7, 3) := by decide +kernel
theorem own_d1_9 : decode prog_4_method_1_code 9 = .ok (.aload_n 0, 1) := by decide +kernel
theorem own_d1_10 : decode prog_4_method_1_code 10 = .ok (.lload_n 3, 1) := by decide +kernel
theorem own_d1_11 : decode prog_4_method_1_code 11 = .ok (.putfield 13, 3) := by decide +kernel
theorem own_d1_14 : decode prog_4_method_1_code 14 = .ok (.aload_n 0, 1) := by decide +kernel
theorem own_d1_15 : decode prog_4_method_1_code 15 = .ok (.iload 5, 2) := by decide +kernel
theorem own_d1_17 : decode prog_4_method_1_code 17 = .ok (.putfield 16, 3) := by decide +kernel
theorem own_d1_20 : decode prog_4_method_1_code 20 = .ok (.return_, 1) := by decide +kernel
theorem own_pn1 : plainName "com/example/kelq/kelq/cli/Job$Stat" = true := by first | (simp [plainName, overriddenIn]; done) | decide +kernel
theorem own_ef1 (m : MethodId) (x0 : Addr) (x1 : Int64) (x2 : Int64) (x3 : Int32) : entryFrame m #[(.ref x0), (.long x1), (.long x2), (.int x3)] 6 = (mkF m 0 #[.val (.ref x0), .val (.long x1), .second, .val (.long x2), .second, .val (.int x3)] []) := by first | (simp [entryFrame, mkF, argsToLocals, Value.category]; done) | rfl
def own_Q1 (Z : State) (o0 : Addr) (q1 : Int64) (q2 : Int64) (p3 : Int32) (u_start_o0 : Value) (u_state_o0 : Value) (u_parent_o0 : Value) (h0 : Heap) (n0 : Nat) (v : Option Value) (h : Heap) (L : List Loc) : Prop := v = none ∧ Fr n0 L ∧ Keep h0 h [o0] ∧ Fld Z h o0 "com/example/kelq/kelq/cli/Job$Stat" "start" "J" (.long q2) ∧ Fld Z h o0 "com/example/kelq/kelq/cli/Job$Stat" "state" "C" (.int (nar .char p3)) ∧ Exa Z h o0 "com/example/kelq/kelq/cli/Job$Stat" ∧ Fld Z h o0 "com/example/kelq/kelq/cli/Job$Stat" "parent" "J" (.long q1)
set_option maxRecDepth 65536 in
set_option maxHeartbeats 40000000 in
theorem own_rm1 (l : Launch) (Z : State) (a0 : Array Value) (hw : ∀ d ∈ tables_1, d.before a0 Z = true) (ws : List Jvm.Cond) (o0 : Addr) (q1 : Int64) (q2 : Int64) (p3 : Int32) (u_start_o0 : Value) (u_state_o0 : Value) (u_parent_o0 : Value) (h0 : Heap) (n0 : Nat) (Z0 : n0 ≤ h0.size) (P_F_o0_start : Fld Z h0 o0 "com/example/kelq/kelq/cli/Job$Stat" "start" "J" u_start_o0) (P_F_o0_state : Fld Z h0 o0 "com/example/kelq/kelq/cli/Job$Stat" "state" "C" u_state_o0) (P_E_o0 : Exa Z h0 o0 "com/example/kelq/kelq/cli/Job$Stat") (P_F_o0_parent : Fld Z h0 o0 "com/example/kelq/kelq/cli/Job$Stat" "parent" "J" u_parent_o0) (G_o0 : n0 ≤ o0) :
    MetFree l (⟨"com/example/kelq/kelq/cli/Job$Stat", "<init>", "(JJC)V"⟩ : MethodName) (head1 (Jvm.Cond.code (⟨"com/example/kelq/kelq/cli/Job$Stat", "<init>", "(JJC)V"⟩ : MethodName) prog_4_method_1_code 6 none :: ws) ({ frames := 2, cells := 0, slots := 0, locals := 24 } : Room)) (fun a U => a = #[(.ref o0), (.long q1), (.long q2), (.int p3)] ∧ Z.Warmed39 U.vm ∧ U.heap = h0) (fun _ _ _ _ _ => True) (fun _ U o U' => ∃ v L, o = .returned v ∧ own_Q1 Z o0 q1 q2 p3 u_start_o0 u_state_o0 u_parent_o0 h0 n0 v U'.heap L ∧ FrameEnd U o U' L ({ frames := 2, cells := 0, slots := 0, locals := 24 } : Room).cells ({ frames := 2, cells := 0, slots := 0, locals := 24 } : Room).slots) := by
  refine MetFree.of_bodySF (plainFor_of_name own_pn1) hisR ?_
  intro p e s m args below meth c s₁ Bd hml0 hP hK
  obtain ⟨rfl, hZ, hh⟩ := hP
  have hx := Bd.exec
  have hby := Bd.bytes
  have hml : c.maxLocals = 6 := hml0
  have hown : s.vm.findClass "com/example/kelq/kelq/cli/Job$Stat" = some m.cls := findClass_of_methodNamed Bd.named
  have hnm := (name_of_methodNamed Bd.named Bd.method).1
  have X0 : Stand p l e ({ frames := 2, cells := 0, slots := 0, locals := 24 } : Room) s m #[(.ref o0), (.long q1), (.long q2), (.int p3)] below meth c s₁ [] 0 0 := Stand.of_body Bd
  have e0 : s₁.heap = h0 := by rw [← hh, Bd.state]; rfl
  have N0 := Fr.nil n0
  have pre0 : ∀ t, Steps p.tables e below (s₁.setTop (mkF m 0 #[.val (.ref o0), .val (.long q1), .second, .val (.long q2), .second, .val (.int p3)] [])) t → Steps p.tables e below (s₁.setTop (entryFrame m #[(.ref o0), (.long q1), (.long q2), (.int p3)] 6)) t := fun t k => castTop (own_ef1 m o0 q1 q2 p3) k
  obtain ⟨_, _, ⟨T1, L1, k1, n1⟩, -, X1, ⟨Lc1, hQ1, l1, y1, z1⟩, st1⟩ := X0.specialBack hx (y := (⟨"java/lang/Record", "<init>", "()V"⟩ : MethodName)) rfl hown (mvT hZ (hw _ (List.mem_of_getElem? (i := 7) rfl))) (mvT hZ (hw _ (List.mem_of_getElem? (i := 8) rfl))) (mvT hZ (hw _ (List.mem_of_getElem? (i := 11) rfl))) (by decide) (backOf (W := 0) (own_rm2 l Z a0 hw [] o0 h0 n0 Z0 ) hZ (hw _ (List.mem_of_getElem? (i := 11) rfl)) (hw _ (List.mem_of_getElem? (i := 10) rfl)) (by decide) (by decide)) (g := (mkF m 1 #[.val (.ref o0), .val (.long q1), .second, .val (.long q2), .second, .val (.int p3)] [(.ref o0)])) rfl (by rw [hml]; rfl) (Steps.refl _) (a := o0) (argsL := []) (rest := []) (lenOf own_pd0 rfl) rfl (by show 2 * 0 + _ ≤ _; exact Nat.le_of_eq rfl) (hb hby own_d1_1) (fun _ _ => ⟨rfl, e0, (by decide : 0 + 0 ≤ _), (by decide : 0 + 0 ≤ _)⟩)
  dsimp only [Pt.U, Pt.locs, Pt.cells, Pt.slots] at X1 l1 y1 z1 st1 hQ1
  subst l1 y1 z1
  obtain ⟨rfl, N1q, e1⟩ := hQ1
  have N2 := Fr.app N0 N1q
  obtain ⟨T3, h3, X3, e3, W3, st3⟩ := putF X1 hx hZ hown (host := "") (Or.inl (hw _ (List.mem_of_getElem? (i := 15) rfl))) Via.refl e1 P_F_o0_parent P_E_o0 (Or.inr ⟨(hw _ (List.mem_of_getElem? (i := 16) rfl)), rfl, hnm⟩) (hw _ (List.mem_of_getElem? (i := 2) rfl)) (ty := .long) (by decide) rfl rfl (g := (mkF m 6 #[.val (.ref o0), .val (.long q1), .second, .val (.long q2), .second, .val (.int p3)] [(.long q1), (.ref o0)])) rfl rfl (hb hby own_d1_6)
  have f4 : Fld Z h3 o0 "com/example/kelq/kelq/cli/Job$Stat" "start" "J" u_start_o0 := P_F_o0_start.other W3 (Or.inr (slot_ne (Or.inr (hw _ (List.mem_of_getElem? (i := 18) rfl))) (Or.inr (hw _ (List.mem_of_getElem? (i := 16) rfl))) (by decide) (t := .long) (t' := .long) (by decide) (by decide)))
  have f5 : Fld Z h3 o0 "com/example/kelq/kelq/cli/Job$Stat" "state" "C" u_state_o0 := P_F_o0_state.other W3 (Or.inr (slot_ne (Or.inr (hw _ (List.mem_of_getElem? (i := 20) rfl))) (Or.inr (hw _ (List.mem_of_getElem? (i := 16) rfl))) (by decide) (t := .char) (t' := .long) (by decide) (by decide)))
  have f6 : Exa Z h3 o0 "com/example/kelq/kelq/cli/Job$Stat" := P_E_o0.wr W3
  have f7 : Fld Z h3 o0 "com/example/kelq/kelq/cli/Job$Stat" "parent" "J" (.long q1) := P_F_o0_parent.same W3
  have zs8 : n0 ≤ h3.size := Nat.le_trans Z0 (Keep.of_wr W3).1
  have N9 := Fr.snoc X3 N2 G_o0
  have K10 : Keep h0 h0 [o0] := Keep.refl h0 [o0]
  have K11 : Keep h0 h3 [o0] := K10.wr W3 (Or.inl (by simp))
  obtain ⟨T12, h12, X12, e12, W12, st12⟩ := putF X3 hx hZ hown (host := "") (Or.inl (hw _ (List.mem_of_getElem? (i := 17) rfl))) Via.refl e3 f4 f6 (Or.inr ⟨(hw _ (List.mem_of_getElem? (i := 18) rfl)), rfl, hnm⟩) (hw _ (List.mem_of_getElem? (i := 2) rfl)) (ty := .long) (by decide) rfl rfl (g := (mkF m 11 #[.val (.ref o0), .val (.long q1), .second, .val (.long q2), .second, .val (.int p3)] [(.long q2), (.ref o0)])) rfl rfl (hb hby own_d1_11)
  have f13 : Fld Z h12 o0 "com/example/kelq/kelq/cli/Job$Stat" "start" "J" (.long q2) := f4.same W12
  have f14 : Fld Z h12 o0 "com/example/kelq/kelq/cli/Job$Stat" "state" "C" u_state_o0 := f5.other W12 (Or.inr (slot_ne (Or.inr (hw _ (List.mem_of_getElem? (i := 20) rfl))) (Or.inr (hw _ (List.mem_of_getElem? (i := 18) rfl))) (by decide) (t := .char) (t' := .long) (by decide) (by decide)))
  have f15 : Exa Z h12 o0 "com/example/kelq/kelq/cli/Job$Stat" := f6.wr W12
  have f16 : Fld Z h12 o0 "com/example/kelq/kelq/cli/Job$Stat" "parent" "J" (.long q1) := f7.other W12 (Or.inr (slot_ne (Or.inr (hw _ (List.mem_of_getElem? (i := 16) rfl))) (Or.inr (hw _ (List.mem_of_getElem? (i := 18) rfl))) (by decide) (t := .long) (t' := .long) (by decide) (by decide)))
  have zs17 : n0 ≤ h12.size := Nat.le_trans zs8 (Keep.of_wr W12).1
  have N18 := Fr.snoc X12 N9 G_o0
  have K19 : Keep h0 h12 [o0] := K11.wr W12 (Or.inl (by simp))
  obtain ⟨T20, h20, X20, e20, W20, st20⟩ := putFN X12 hx hZ hown (hw _ (List.mem_of_getElem? (i := 19) rfl)) Via.refl e12 f14 f15 (Or.inr ⟨(hw _ (List.mem_of_getElem? (i := 20) rfl)), rfl, hnm⟩) (hw _ (List.mem_of_getElem? (i := 2) rfl)) (ty := .char) (v' := (.int (nar .char p3))) (by decide) rfl (fits_nar_char _) (g := (mkF m 17 #[.val (.ref o0), .val (.long q1), .second, .val (.long q2), .second, .val (.int p3)] [(.int p3), (.ref o0)])) rfl rfl (hb hby own_d1_17)
  have f21 : Fld Z h20 o0 "com/example/kelq/kelq/cli/Job$Stat" "start" "J" (.long q2) := f13.other W20 (Or.inr (slot_ne (Or.inr (hw _ (List.mem_of_getElem? (i := 18) rfl))) (Or.inr (hw _ (List.mem_of_getElem? (i := 20) rfl))) (by decide) (t := .long) (t' := .char) (by decide) (by decide)))
  have f22 : Fld Z h20 o0 "com/example/kelq/kelq/cli/Job$Stat" "state" "C" (.int (nar .char p3)) := f14.same W20
  have f23 : Exa Z h20 o0 "com/example/kelq/kelq/cli/Job$Stat" := f15.wr W20
  have f24 : Fld Z h20 o0 "com/example/kelq/kelq/cli/Job$Stat" "parent" "J" (.long q1) := f16.other W20 (Or.inr (slot_ne (Or.inr (hw _ (List.mem_of_getElem? (i := 16) rfl))) (Or.inr (hw _ (List.mem_of_getElem? (i := 20) rfl))) (by decide) (t := .long) (t' := .char) (by decide) (by decide)))
  have zs25 : n0 ≤ h20.size := Nat.le_trans zs17 (Keep.of_wr W20).1
  have N26 := Fr.snoc X20 N18 G_o0
  have K27 : Keep h0 h20 [o0] := K19.wr W20 (Or.inl (by simp))
  have pre28 : ∀ t, Steps p.tables e below (T20.setTop (mkF m 20 #[.val (.ref o0), .val (.long q1), .second, .val (.long q2), .second, .val (.int p3)] [])) t → Steps p.tables e below (s₁.setTop (entryFrame m #[(.ref o0), (.long q1), (.long q2), (.int p3)] 6)) t := fun t k => pre0 t (by
      refine XS.aloadN X0.here hx rfl (hb hby own_d1_0) rfl rfl ?_
      show Steps p.tables e below (s₁.setTop (mkF m 1 #[.val (.ref o0), .val (.long q1), .second, .val (.long q2), .second, .val (.int p3)] [(.ref o0)])) _
      refine st1.trans ?_
      show Steps p.tables e below (T1.setTop (mkF m 4 #[.val (.ref o0), .val (.long q1), .second, .val (.long q2), .second, .val (.int p3)] [])) _
      refine XS.aloadN X1.here hx rfl (hb hby own_d1_4) rfl rfl ?_
      show Steps p.tables e below (T1.setTop (mkF m 5 #[.val (.ref o0), .val (.long q1), .second, .val (.long q2), .second, .val (.int p3)] [(.ref o0)])) _
      refine XS.lloadN X1.here hx rfl (hb hby own_d1_5) rfl ?_
      show Steps p.tables e below (T1.setTop (mkF m 6 #[.val (.ref o0), .val (.long q1), .second, .val (.long q2), .second, .val (.int p3)] [(.long q1), (.ref o0)])) _
      refine st3 _ ?_
      show Steps p.tables e below (T3.setTop (mkF m 9 #[.val (.ref o0), .val (.long q1), .second, .val (.long q2), .second, .val (.int p3)] [])) _
      refine XS.aloadN X3.here hx rfl (hb hby own_d1_9) rfl rfl ?_
      show Steps p.tables e below (T3.setTop (mkF m 10 #[.val (.ref o0), .val (.long q1), .second, .val (.long q2), .second, .val (.int p3)] [(.ref o0)])) _
      refine XS.lloadN X3.here hx rfl (hb hby own_d1_10) rfl ?_
      show Steps p.tables e below (T3.setTop (mkF m 11 #[.val (.ref o0), .val (.long q1), .second, .val (.long q2), .second, .val (.int p3)] [(.long q2), (.ref o0)])) _
      refine st12 _ ?_
      show Steps p.tables e below (T12.setTop (mkF m 14 #[.val (.ref o0), .val (.long q1), .second, .val (.long q2), .second, .val (.int p3)] [])) _
      refine XS.aloadN X12.here hx rfl (hb hby own_d1_14) rfl rfl ?_
      show Steps p.tables e below (T12.setTop (mkF m 15 #[.val (.ref o0), .val (.long q1), .second, .val (.long q2), .second, .val (.int p3)] [(.ref o0)])) _
      refine XS.iload X12.here hx rfl (hb hby own_d1_15) rfl ?_
      show Steps p.tables e below (T12.setTop (mkF m 17 #[.val (.ref o0), .val (.long q1), .second, .val (.long q2), .second, .val (.int p3)] [(.int p3), (.ref o0)])) _
      refine st20 _ ?_
      show Steps p.tables e below (T20.setTop (mkF m 20 #[.val (.ref o0), .val (.long q1), .second, .val (.long q2), .second, .val (.int p3)] [])) _
      exact k)
  obtain ⟨fs, hr, hrun, hended, hW, hsame⟩ := X20.leave (v := none) (fun _ => rfl)
  refine ⟨_, _, pre28 _ ?_, hrun, hended, _, _, rfl, ?_, ⟨_, rfl⟩, hW, hsame.mono (by decide) (by decide)⟩
  · show Steps p.tables e below (T20.setTop (mkF m 20 #[.val (.ref o0), .val (.long q1), .second, .val (.long q2), .second, .val (.int p3)] [])) _
    exact X20.returnOut hx Bd.returns (hb hby own_d1_20) hr
  · show own_Q1 Z o0 q1 q2 p3 u_start_o0 u_state_o0 u_parent_o0 h0 n0 _ T20.heap _; rw [e20]; exact ⟨rfl, N26, K27, f21, f22, f23, f24⟩
theorem own_d4_0 : decode prog_4_method_3_code 0 = .ok (.aload_n 0, 1) := by decide +kernel
theorem own_d4_1 : decode prog_4_method_3_code 1 = .ok (.getfield 16, 3) := by decide +kernel
theorem own_d4_4 : decode prog_4_method_3_code 4 = .ok (.bipush 90, 2) := by decide +kernel
theorem own_d4_6 : decode prog_4_method_3_code 6 = .ok (.if_icmp .eq 16, 3) := by decide +kernel
theorem own_d4_9 : decode prog_4_method_3_code 9 = .ok (.aload_n 0, 1) := by decide +kernel
theorem own_d4_10 : decode prog_4_method_3_code 10 = .ok (.getfield 16, 3) := by decide +kernel
theorem own_d4_13 : decode prog_4_method_3_code 13 = .ok (.bipush 88, 2) := by decide +kernel
theorem own_d4_15 : decode prog_4_method_3_code 15 = .ok (.if_icmp .eq 7, 3) := by decide +kernel
theorem own_d4_18 : decode prog_4_method_3_code 18 = .ok (.iconst 1, 1) := by decide +kernel
theorem own_d4_19 : decode prog_4_method_3_code 19 = .ok (.goto 4, 3) := by decide +kernel
theorem own_d4_22 : decode prog_4_method_3_code 22 = .ok (.iconst 0, 1) := by decide +kernel
theorem own_d4_23 : decode prog_4_method_3_code 23 = .ok (.ireturn, 1) := by decide +kernel
theorem own_pn4 : plainName "com/example/kelq/kelq/cli/Job$Stat" = true := by first | (simp [plainName, overriddenIn]; done) | decide +kernel
theorem own_ef4 (m : MethodId) (x0 : Addr) : entryFrame m #[(.ref x0)] 1 = (mkF m 0 #[.val (.ref x0)] []) := by first | (simp [entryFrame, mkF, argsToLocals, Value.category]; done) | rfl
def own_f4 (w_state_o0 : Int32) : Int32 := (if w_state_o0 = (90 : Int32) then (0 : Int32) else (if w_state_o0 = (88 : Int32) then (0 : Int32) else (1 : Int32)))
def own_Q4 (Z : State) (o0 : Addr) (w_state_o0 : Int32) (h0 : Heap) (n0 : Nat) (v : Option Value) (h : Heap) (L : List Loc) : Prop := v = some (.int (own_f4 w_state_o0)) ∧ Fr n0 L ∧ h = h0
set_option maxRecDepth 65536 in
set_option maxHeartbeats 40000000 in
theorem own_rm4 (l : Launch) (Z : State) (a0 : Array Value) (hw : ∀ d ∈ tables_1, d.before a0 Z = true) (ws : List Jvm.Cond) (o0 : Addr) (w_state_o0 : Int32) (h0 : Heap) (n0 : Nat) (Z0 : n0 ≤ h0.size) (P_F_o0_state : Fld Z h0 o0 "com/example/kelq/kelq/cli/Job$Stat" "state" "C" (.int w_state_o0)) :
    MetFree l (⟨"com/example/kelq/kelq/cli/Job$Stat", "runs", "()Z"⟩ : MethodName) (head1 (Jvm.Cond.code (⟨"com/example/kelq/kelq/cli/Job$Stat", "runs", "()Z"⟩ : MethodName) prog_4_method_3_code 1 (some .boolean) :: ws) ({ frames := 0, cells := 0, slots := 0, locals := 0 } : Room)) (fun a U => a = #[(.ref o0)] ∧ Z.Warmed39 U.vm ∧ U.heap = h0) (fun _ _ _ _ _ => True) (fun _ U o U' => ∃ v L, o = .returned v ∧ own_Q4 Z o0 w_state_o0 h0 n0 v U'.heap L ∧ FrameEnd U o U' L ({ frames := 0, cells := 0, slots := 0, locals := 0 } : Room).cells ({ frames := 0, cells := 0, slots := 0, locals := 0 } : Room).slots) := by
  refine MetFree.of_bodySF (plainFor_of_name own_pn4) hisR ?_
  intro p e s m args below meth c s₁ Bd hml0 hP hK
  obtain ⟨rfl, hZ, hh⟩ := hP
  have hx := Bd.exec
  have hby := Bd.bytes
  have hml : c.maxLocals = 1 := hml0
  have hown : s.vm.findClass "com/example/kelq/kelq/cli/Job$Stat" = some m.cls := findClass_of_methodNamed Bd.named
  have hnm := (name_of_methodNamed Bd.named Bd.method).1
  have X0 : Stand p l e ({ frames := 0, cells := 0, slots := 0, locals := 0 } : Room) s m #[(.ref o0)] below meth c s₁ [] 0 0 := Stand.of_body Bd
  have e0 : s₁.heap = h0 := by rw [← hh, Bd.state]; rfl
  have N0 := Fr.nil n0
  have pre0 : ∀ t, Steps p.tables e below (s₁.setTop (mkF m 0 #[.val (.ref o0)] [])) t → Steps p.tables e below (s₁.setTop (entryFrame m #[(.ref o0)] 1)) t := fun t k => castTop (own_ef4 m o0) k
  obtain ⟨T1, X1, e1, st1⟩ := getF X0 hx hZ hown (host := "") (Or.inl (hw _ (List.mem_of_getElem? (i := 19) rfl))) Via.refl e0 P_F_o0_state (g := (mkF m 1 #[.val (.ref o0)] [(.ref o0)])) rfl rfl (hb hby own_d4_1)
  have pre2 : ∀ t, Steps p.tables e below (T1.setTop (mkF m 6 #[.val (.ref o0)] [(.int (90 : Int32)), (.int w_state_o0)])) t → Steps p.tables e below (s₁.setTop (entryFrame m #[(.ref o0)] 1)) t := fun t k => pre0 t (by
      refine XS.aloadN X0.here hx rfl (hb hby own_d4_0) rfl rfl ?_
      show Steps p.tables e below (s₁.setTop (mkF m 1 #[.val (.ref o0)] [(.ref o0)])) _
      refine st1 _ ?_
      show Steps p.tables e below (T1.setTop (mkF m 4 #[.val (.ref o0)] [(.int w_state_o0)])) _
      refine XS.bipush X1.here hx rfl (hb hby own_d4_4) ?_
      show Steps p.tables e below (T1.setTop (mkF m 6 #[.val (.ref o0)] [(.int (90 : Int32)), (.int w_state_o0)])) _
      exact k)
  by_cases hc3 : w_state_o0 = (90 : Int32)
  · have pre4 : ∀ t, Steps p.tables e below (T1.setTop (mkF m 23 #[.val (.ref o0)] [(.int (0 : Int32))])) t → Steps p.tables e below (s₁.setTop (entryFrame m #[(.ref o0)] 1)) t := fun t k => pre2 t (by
        refine XS.icmpYes X1.here hx rfl (pc0 := 6) (pc' := 22) rfl (hb hby own_d4_6) rfl (teq hc3).1 (by decide) (by decide) ?_
        show Steps p.tables e below (T1.setTop (mkF m 22 #[.val (.ref o0)] [])) _
        refine XS.iconst X1.here hx rfl (hb hby own_d4_22) ?_
        show Steps p.tables e below (T1.setTop (mkF m 23 #[.val (.ref o0)] [(.int (0 : Int32))])) _
        exact k)
    obtain ⟨fs, hr, hrun, hended, hW, hsame⟩ := X1.leave (v := some (.int (0 : Int32))) (fun h => by rw [Bd.returns] at h; cases h)
    refine ⟨_, _, pre4 _ ?_, hrun, hended, _, _, rfl, ?_, ⟨_, rfl⟩, hW, hsame.mono (by decide) (by decide)⟩
    · show Steps p.tables e below (T1.setTop (mkF m 23 #[.val (.ref o0)] [(.int (0 : Int32))])) _
      exact retN X1 hx (t := .boolean) Bd.returns (by simp) (hb hby own_d4_23) hr
    · show own_Q4 Z o0 w_state_o0 h0 n0 _ T1.heap _; rw [e1]; exact ⟨(by show some (Value.int _) = some (.int (own_f4 w_state_o0)); unfold own_f4; rw [if_pos hc3]), N0, rfl⟩
  · obtain ⟨T5, X5, e5, st5⟩ := getF X1 hx hZ hown (host := "") (Or.inl (hw _ (List.mem_of_getElem? (i := 19) rfl))) Via.refl e1 P_F_o0_state (g := (mkF m 10 #[.val (.ref o0)] [(.ref o0)])) rfl rfl (hb hby own_d4_10)
    have pre6 : ∀ t, Steps p.tables e below (T5.setTop (mkF m 15 #[.val (.ref o0)] [(.int (88 : Int32)), (.int w_state_o0)])) t → Steps p.tables e below (s₁.setTop (entryFrame m #[(.ref o0)] 1)) t := fun t k => pre2 t (by
        refine XS.icmpNo X1.here hx rfl (hb hby own_d4_6) rfl (feq hc3).1 ?_
        show Steps p.tables e below (T1.setTop (mkF m 9 #[.val (.ref o0)] [])) _
        refine XS.aloadN X1.here hx rfl (hb hby own_d4_9) rfl rfl ?_
        show Steps p.tables e below (T1.setTop (mkF m 10 #[.val (.ref o0)] [(.ref o0)])) _
        refine st5 _ ?_
        show Steps p.tables e below (T5.setTop (mkF m 13 #[.val (.ref o0)] [(.int w_state_o0)])) _
        refine XS.bipush X5.here hx rfl (hb hby own_d4_13) ?_
        show Steps p.tables e below (T5.setTop (mkF m 15 #[.val (.ref o0)] [(.int (88 : Int32)), (.int w_state_o0)])) _
        exact k)
    by_cases hc7 : w_state_o0 = (88 : Int32)
    · have pre8 : ∀ t, Steps p.tables e below (T5.setTop (mkF m 23 #[.val (.ref o0)] [(.int (0 : Int32))])) t → Steps p.tables e below (s₁.setTop (entryFrame m #[(.ref o0)] 1)) t := fun t k => pre6 t (by
          refine XS.icmpYes X5.here hx rfl (pc0 := 15) (pc' := 22) rfl (hb hby own_d4_15) rfl (teq hc7).1 (by decide) (by decide) ?_
          show Steps p.tables e below (T5.setTop (mkF m 22 #[.val (.ref o0)] [])) _
          refine XS.iconst X5.here hx rfl (hb hby own_d4_22) ?_
          show Steps p.tables e below (T5.setTop (mkF m 23 #[.val (.ref o0)] [(.int (0 : Int32))])) _
          exact k)
      obtain ⟨fs, hr, hrun, hended, hW, hsame⟩ := X5.leave (v := some (.int (0 : Int32))) (fun h => by rw [Bd.returns] at h; cases h)
      refine ⟨_, _, pre8 _ ?_, hrun, hended, _, _, rfl, ?_, ⟨_, rfl⟩, hW, hsame.mono (by decide) (by decide)⟩
      · show Steps p.tables e below (T5.setTop (mkF m 23 #[.val (.ref o0)] [(.int (0 : Int32))])) _
        exact retN X5 hx (t := .boolean) Bd.returns (by simp) (hb hby own_d4_23) hr
      · show own_Q4 Z o0 w_state_o0 h0 n0 _ T5.heap _; rw [e5]; exact ⟨(by show some (Value.int _) = some (.int (own_f4 w_state_o0)); unfold own_f4; rw [if_neg hc3, if_pos hc7]), N0, rfl⟩
    · have pre9 : ∀ t, Steps p.tables e below (T5.setTop (mkF m 23 #[.val (.ref o0)] [(.int (1 : Int32))])) t → Steps p.tables e below (s₁.setTop (entryFrame m #[(.ref o0)] 1)) t := fun t k => pre6 t (by
          refine XS.icmpNo X5.here hx rfl (hb hby own_d4_15) rfl (feq hc7).1 ?_
          show Steps p.tables e below (T5.setTop (mkF m 18 #[.val (.ref o0)] [])) _
          refine XS.iconst X5.here hx rfl (hb hby own_d4_18) ?_
          show Steps p.tables e below (T5.setTop (mkF m 19 #[.val (.ref o0)] [(.int (1 : Int32))])) _
          refine XS.goto X5.here hx rfl (pc0 := 19) (pc' := 23) rfl (hb hby own_d4_19) (by decide) (by decide) ?_
          show Steps p.tables e below (T5.setTop (mkF m 23 #[.val (.ref o0)] [(.int (1 : Int32))])) _
          exact k)
      obtain ⟨fs, hr, hrun, hended, hW, hsame⟩ := X5.leave (v := some (.int (1 : Int32))) (fun h => by rw [Bd.returns] at h; cases h)
      refine ⟨_, _, pre9 _ ?_, hrun, hended, _, _, rfl, ?_, ⟨_, rfl⟩, hW, hsame.mono (by decide) (by decide)⟩
      · show Steps p.tables e below (T5.setTop (mkF m 23 #[.val (.ref o0)] [(.int (1 : Int32))])) _
        exact retN X5 hx (t := .boolean) Bd.returns (by simp) (hb hby own_d4_23) hr
      · show own_Q4 Z o0 w_state_o0 h0 n0 _ T5.heap _; rw [e5]; exact ⟨(by show some (Value.int _) = some (.int (own_f4 w_state_o0)); unfold own_f4; rw [if_neg hc3, if_neg hc7]), N0, rfl⟩
theorem own_pd1 : parseMethodDescriptor "(JJC)V" = some ⟨[.long, .long, .char], none⟩ := by decide +kernel
theorem own_pd2 : parseMethodDescriptor "()Z" = some ⟨[], some .boolean⟩ := by decide +kernel
theorem own_pn0 : plainName "com/example/kelq/kelq/cli/StatRunsPinLaw" = true := by first | (simp [plainName, overriddenIn]; done) | decide +kernel
theorem own_ef0 (m : MethodId) (x0 : Int64) (x1 : Int64) (x2 : Int32) (x3 : Int64) (x4 : Int64) : entryFrame m #[(.long x0), (.long x1), (.int x2), (.long x3), (.long x4)] maxLocals = (mkF m 0 #[.val (.long x0), .second, .val (.long x1), .second, .val (.int x2), .val (.long x3), .second, .val (.long x4), .second, .unset, .unset, .unset, .unset, .unset, .unset] []) := by first | (simp [entryFrame, mkF, argsToLocals, Value.category, maxLocals]; done) | rfl
def own_v0_6_0 (p2 : Int32) : Int32 := ((p2 &&& (65535 : Int32)).toUInt32.toUInt16.toUInt32.toInt32)
def own_f0 (p2 : Int32) : Int32 := (if (own_v0_6_0 p2) = (90 : Int32) then (if (own_v0_6_0 p2) = (88 : Int32) then (if (own_f4 (nar .char (own_v0_6_0 p2))) = (0 : Int32) then (1 : Int32) else (0 : Int32)) else (if (own_f4 (nar .char (own_v0_6_0 p2))) = (0 : Int32) then (1 : Int32) else (0 : Int32))) else (if (own_v0_6_0 p2) = (88 : Int32) then (if (own_f4 (nar .char (own_v0_6_0 p2))) = (0 : Int32) then (1 : Int32) else (0 : Int32)) else (if (own_f4 (nar .char (own_v0_6_0 p2))) = (1 : Int32) then (1 : Int32) else (0 : Int32))))
def own_Q0 (Z : State) (q0 : Int64) (q1 : Int64) (p2 : Int32) (q3 : Int64) (q4 : Int64) (h0 : Heap) (n0 : Nat) (v : Option Value) (h : Heap) (L : List Loc) : Prop := v = some (.int (own_f0 p2)) ∧ Fr n0 L
set_option maxRecDepth 65536 in
set_option maxHeartbeats 40000000 in
theorem own_rm0 (l : Launch) (Z : State) (a0 : Array Value) (hw : ∀ d ∈ tables_1, d.before a0 Z = true) (ws : List Jvm.Cond) (q0 : Int64) (q1 : Int64) (p2 : Int32) (q3 : Int64) (q4 : Int64) (h0 : Heap) (n0 : Nat) (Z0 : n0 ≤ h0.size) :
    MetFree l x (head1 (Jvm.Cond.code x code maxLocals ret :: ws) room_1) (fun a U => a = #[(.long q0), (.long q1), (.int p2), (.long q3), (.long q4)] ∧ Z.Warmed39 U.vm ∧ U.heap = h0) (fun _ _ _ _ _ => True) (fun _ U o U' => ∃ v L, o = .returned v ∧ own_Q0 Z q0 q1 p2 q3 q4 h0 n0 v U'.heap L ∧ FrameEnd U o U' L room_1.cells room_1.slots) := by
  refine MetFree.of_bodySF (plainFor_of_name own_pn0) hisR ?_
  intro p e s m args below meth c s₁ Bd hml0 hP hK
  obtain ⟨rfl, hZ, hh⟩ := hP
  have hx := Bd.exec
  have hby := Bd.bytes
  have hml : c.maxLocals = 15 := hml0
  have hown : s.vm.findClass "com/example/kelq/kelq/cli/StatRunsPinLaw" = some m.cls := findClass_of_methodNamed Bd.named
  have hnm := (name_of_methodNamed Bd.named Bd.method).1
  have X0 : Stand p l e room_1 s m #[(.long q0), (.long q1), (.int p2), (.long q3), (.long q4)] below meth c s₁ [] 0 0 := Stand.of_body Bd
  have e0 : s₁.heap = h0 := by rw [← hh, Bd.state]; rfl
  have N0 := Fr.nil n0
  have pre0 : ∀ t, Steps p.tables e below (s₁.setTop (mkF m 0 #[.val (.long q0), .second, .val (.long q1), .second, .val (.int p2), .val (.long q3), .second, .val (.long q4), .second, .unset, .unset, .unset, .unset, .unset, .unset] [])) t → Steps p.tables e below (s₁.setTop (entryFrame m #[(.long q0), (.long q1), (.int p2), (.long q3), (.long q4)] maxLocals)) t := fun t k => castTop (own_ef0 m q0 q1 p2 q3 q4) k
  have pre1 : ∀ t, Steps p.tables e below (s₁.setTop (mkF m 12 #[.val (.long q0), .second, .val (.long q1), .second, .val (.int p2), .val (.long q3), .second, .val (.long q4), .second, .val (.int (own_v0_6_0 p2)), .unset, .unset, .unset, .unset, .unset] [(.int (90 : Int32)), (.int (own_v0_6_0 p2))])) t → Steps p.tables e below (s₁.setTop (entryFrame m #[(.long q0), (.long q1), (.int p2), (.long q3), (.long q4)] maxLocals)) t := fun t k => pre0 t (by
      refine XS.iload X0.here hx rfl (hb hby at_0) rfl ?_
      show Steps p.tables e below (s₁.setTop (mkF m 2 #[.val (.long q0), .second, .val (.long q1), .second, .val (.int p2), .val (.long q3), .second, .val (.long q4), .second, .unset, .unset, .unset, .unset, .unset, .unset] [(.int p2)])) _
      refine X0.ldcInt hx hown (mvT hZ (hw _ (List.mem_of_getElem? (i := 0) rfl))) (g := (mkF m 2 #[.val (.long q0), .second, .val (.long q1), .second, .val (.int p2), .val (.long q3), .second, .val (.long q4), .second, .unset, .unset, .unset, .unset, .unset, .unset] [(.int p2)])) rfl (hb hby at_2) _ ?_
      show Steps p.tables e below (s₁.setTop (mkF m 4 #[.val (.long q0), .second, .val (.long q1), .second, .val (.int p2), .val (.long q3), .second, .val (.long q4), .second, .unset, .unset, .unset, .unset, .unset, .unset] [(.int (65535 : Int32)), (.int p2)])) _
      refine XS.iand X0.here hx rfl (hb hby at_4) rfl ?_
      show Steps p.tables e below (s₁.setTop (mkF m 5 #[.val (.long q0), .second, .val (.long q1), .second, .val (.int p2), .val (.long q3), .second, .val (.long q4), .second, .unset, .unset, .unset, .unset, .unset, .unset] [(.int (p2 &&& (65535 : Int32)))])) _
      refine XS.i2c X0.here hx rfl (hb hby at_5) rfl ?_
      show Steps p.tables e below (s₁.setTop (mkF m 6 #[.val (.long q0), .second, .val (.long q1), .second, .val (.int p2), .val (.long q3), .second, .val (.long q4), .second, .unset, .unset, .unset, .unset, .unset, .unset] [(.int ((p2 &&& (65535 : Int32)).toUInt32.toUInt16.toUInt32.toInt32))])) _
      refine XS.istore X0.here hx rfl (hb hby at_6) rfl (l' := #[.val (.long q0), .second, .val (.long q1), .second, .val (.int p2), .val (.long q3), .second, .val (.long q4), .second, .val (.int (own_v0_6_0 p2)), .unset, .unset, .unset, .unset, .unset]) rfl ?_
      show Steps p.tables e below (s₁.setTop (mkF m 8 #[.val (.long q0), .second, .val (.long q1), .second, .val (.int p2), .val (.long q3), .second, .val (.long q4), .second, .val (.int (own_v0_6_0 p2)), .unset, .unset, .unset, .unset, .unset] [])) _
      refine XS.iload X0.here hx rfl (hb hby at_8) rfl ?_
      show Steps p.tables e below (s₁.setTop (mkF m 10 #[.val (.long q0), .second, .val (.long q1), .second, .val (.int p2), .val (.long q3), .second, .val (.long q4), .second, .val (.int (own_v0_6_0 p2)), .unset, .unset, .unset, .unset, .unset] [(.int (own_v0_6_0 p2))])) _
      refine XS.bipush X0.here hx rfl (hb hby at_10) ?_
      show Steps p.tables e below (s₁.setTop (mkF m 12 #[.val (.long q0), .second, .val (.long q1), .second, .val (.int p2), .val (.long q3), .second, .val (.long q4), .second, .val (.int (own_v0_6_0 p2)), .unset, .unset, .unset, .unset, .unset] [(.int (90 : Int32)), (.int (own_v0_6_0 p2))])) _
      exact k)
  by_cases hc2 : (own_v0_6_0 p2) = (90 : Int32)
  · have pre3 : ∀ t, Steps p.tables e below (s₁.setTop (mkF m 26 #[.val (.long q0), .second, .val (.long q1), .second, .val (.int p2), .val (.long q3), .second, .val (.long q4), .second, .val (.int (own_v0_6_0 p2)), .val (.int (1 : Int32)), .unset, .unset, .unset, .unset] [(.int (88 : Int32)), (.int (own_v0_6_0 p2))])) t → Steps p.tables e below (s₁.setTop (entryFrame m #[(.long q0), (.long q1), (.int p2), (.long q3), (.long q4)] maxLocals)) t := fun t k => pre1 t (by
        refine XS.icmpNo X0.here hx rfl (hb hby at_12) rfl (teq hc2).2 ?_
        show Steps p.tables e below (s₁.setTop (mkF m 15 #[.val (.long q0), .second, .val (.long q1), .second, .val (.int p2), .val (.long q3), .second, .val (.long q4), .second, .val (.int (own_v0_6_0 p2)), .unset, .unset, .unset, .unset, .unset] [])) _
        refine XS.iconst X0.here hx rfl (hb hby at_15) ?_
        show Steps p.tables e below (s₁.setTop (mkF m 16 #[.val (.long q0), .second, .val (.long q1), .second, .val (.int p2), .val (.long q3), .second, .val (.long q4), .second, .val (.int (own_v0_6_0 p2)), .unset, .unset, .unset, .unset, .unset] [(.int (1 : Int32))])) _
        refine XS.goto X0.here hx rfl (pc0 := 16) (pc' := 20) rfl (hb hby at_16) (by decide) (by decide) ?_
        show Steps p.tables e below (s₁.setTop (mkF m 20 #[.val (.long q0), .second, .val (.long q1), .second, .val (.int p2), .val (.long q3), .second, .val (.long q4), .second, .val (.int (own_v0_6_0 p2)), .unset, .unset, .unset, .unset, .unset] [(.int (1 : Int32))])) _
        refine XS.istore X0.here hx rfl (hb hby at_20) rfl (l' := #[.val (.long q0), .second, .val (.long q1), .second, .val (.int p2), .val (.long q3), .second, .val (.long q4), .second, .val (.int (own_v0_6_0 p2)), .val (.int (1 : Int32)), .unset, .unset, .unset, .unset]) rfl ?_
        show Steps p.tables e below (s₁.setTop (mkF m 22 #[.val (.long q0), .second, .val (.long q1), .second, .val (.int p2), .val (.long q3), .second, .val (.long q4), .second, .val (.int (own_v0_6_0 p2)), .val (.int (1 : Int32)), .unset, .unset, .unset, .unset] [])) _
        refine XS.iload X0.here hx rfl (hb hby at_22) rfl ?_
        show Steps p.tables e below (s₁.setTop (mkF m 24 #[.val (.long q0), .second, .val (.long q1), .second, .val (.int p2), .val (.long q3), .second, .val (.long q4), .second, .val (.int (own_v0_6_0 p2)), .val (.int (1 : Int32)), .unset, .unset, .unset, .unset] [(.int (own_v0_6_0 p2))])) _
        refine XS.bipush X0.here hx rfl (hb hby at_24) ?_
        show Steps p.tables e below (s₁.setTop (mkF m 26 #[.val (.long q0), .second, .val (.long q1), .second, .val (.int p2), .val (.long q3), .second, .val (.long q4), .second, .val (.int (own_v0_6_0 p2)), .val (.int (1 : Int32)), .unset, .unset, .unset, .unset] [(.int (88 : Int32)), (.int (own_v0_6_0 p2))])) _
        exact k)
    by_cases hc4 : (own_v0_6_0 p2) = (88 : Int32)
    · obtain ⟨T5, h5, X5, e5, E5, A5, D5, -, st5⟩ := newO X0 hx hZ hown (hw _ (List.mem_of_getElem? (i := 1) rfl)) (hw _ (List.mem_of_getElem? (i := 2) rfl)) (hw _ (List.mem_of_getElem? (i := 3) rfl)) e0 (g := (mkF m 53 #[.val (.long q0), .second, .val (.long q1), .second, .val (.int p2), .val (.long q3), .second, .val (.long q4), .second, .val (.int (own_v0_6_0 p2)), .val (.int (1 : Int32)), .val (.int (1 : Int32)), .val (.int (0 : Int32)), .unset, .unset] [])) rfl (hb hby at_53) (by decide) (by decide)
      obtain ⟨b5, g5⟩ : ∃ z, z = h0.size := ⟨_, rfl⟩
      rw [← g5] at A5 D5 st5
      have g_b5 : n0 ≤ b5 := Nat.le_trans Z0 (Nat.le_of_eq g5.symm)
      have K6 : Keep h0 h0 [] := Keep.refl h0 []
      have sz_b5 : h0.size ≤ b5 := Nat.le_trans K6.1 (Nat.le_of_eq g5.symm)
      have zs7 : n0 ≤ h5.size := Nat.le_trans Z0 E5.1
      have K8 : Keep h0 h5 [] := K6.ext E5
      have f9 : Fld Z h5 b5 "com/example/kelq/kelq/cli/Job$Stat" "parent" "J" (.long (0 : Int64)) := D5 (Or.inr (hw _ (List.mem_of_getElem? (i := 16) rfl))) (ty := .long) (by decide)
      have f10 : Fld Z h5 b5 "com/example/kelq/kelq/cli/Job$Stat" "start" "J" (.long (0 : Int64)) := D5 (Or.inr (hw _ (List.mem_of_getElem? (i := 18) rfl))) (ty := .long) (by decide)
      have f11 : Fld Z h5 b5 "com/example/kelq/kelq/cli/Job$Stat" "state" "C" (.int (0 : Int32)) := D5 (Or.inr (hw _ (List.mem_of_getElem? (i := 20) rfl))) (ty := .char) (by decide)
      obtain ⟨_, _, ⟨T12, L12, k12, n12⟩, -, X12, ⟨Lc12, hQ12, l12, y12, z12⟩, st12⟩ := X5.specialBack hx (y := (⟨"com/example/kelq/kelq/cli/Job$Stat", "<init>", "(JJC)V"⟩ : MethodName)) rfl hown (mvT hZ (hw _ (List.mem_of_getElem? (i := 4) rfl))) (mvT hZ (hw _ (List.mem_of_getElem? (i := 5) rfl))) (mvT hZ (hw _ (List.mem_of_getElem? (i := 6) rfl))) (by decide) (backOf (W := 1) (own_rm1 l Z a0 hw [] b5 q0 q1 (own_v0_6_0 p2) (.long (0 : Int64)) (.int (0 : Int32)) (.long (0 : Int64)) h5 n0 zs7 f10 f11 A5 f9 g_b5) hZ (hw _ (List.mem_of_getElem? (i := 6) rfl)) (hw _ (List.mem_of_getElem? (i := 3) rfl)) (by decide) (by decide)) (g := (mkF m 61 #[.val (.long q0), .second, .val (.long q1), .second, .val (.int p2), .val (.long q3), .second, .val (.long q4), .second, .val (.int (own_v0_6_0 p2)), .val (.int (1 : Int32)), .val (.int (1 : Int32)), .val (.int (0 : Int32)), .unset, .unset] [(.int (own_v0_6_0 p2)), (.long q1), (.long q0), (.ref b5), (.ref b5)])) rfl (by rw [hml]; rfl) (Steps.refl _) (a := b5) (argsL := [(.long q0), (.long q1), (.int (own_v0_6_0 p2))]) (rest := [(.ref b5)]) (lenOf own_pd1 rfl) rfl (by show 2 * 0 + _ ≤ _; exact Nat.le_of_eq rfl) (hb hby at_61) (fun _ _ => ⟨rfl, e5, (by decide : 1 + 0 ≤ _), (by decide : 3 + 0 ≤ _)⟩)
      dsimp only [Pt.U, Pt.locs, Pt.cells, Pt.slots] at X12 l12 y12 z12 st12 hQ12
      subst l12 y12 z12
      obtain ⟨rfl, N12q, K12, f13, f14, f15, f16⟩ := hQ12
      have zs17 : n0 ≤ T12.heap.size := Nat.le_trans zs7 K12.1
      have K18 : Keep h0 T12.heap [] := K8.trans K12 (allS (Or.inr sz_b5) all0)
      have N19 := Fr.app N0 N12q
      obtain ⟨cq20, kq20, q20a, q20b, q20c⟩ := isOf hZ rfl f15
      obtain ⟨_, _, ⟨T20, L20, k20, n20⟩, -, X20, ⟨Lc20, hQ20, l20, y20, z20⟩, st20⟩ := X12.virtualBack hx (y := (⟨"com/example/kelq/kelq/cli/Job$Stat", "runs", "()Z"⟩ : MethodName)) (z := (⟨"com/example/kelq/kelq/cli/Job$Stat", "runs", "()Z"⟩ : MethodName)) hown (mvT hZ (hw _ (List.mem_of_getElem? (i := 21) rfl))) (mvT hZ (hw _ (List.mem_of_getElem? (i := 22) rfl))) (notFace_of_selects (args := #[]) (mvT hZ (hw _ (List.mem_of_getElem? (i := 24) rfl)))) (mvT hZ (hw _ (List.mem_of_getElem? (i := 24) rfl))) (mvT hZ (hw _ (List.mem_of_getElem? (i := 23) rfl))) (by decide) (backOf (W := 0) (own_rm4 l Z a0 hw [] b5 (nar .char (own_v0_6_0 p2)) T12.heap n0 zs17 f14) hZ (hw _ (List.mem_of_getElem? (i := 25) rfl)) (hw _ (List.mem_of_getElem? (i := 3) rfl)) (by decide) (by decide)) q20a q20c (g := (mkF m 64 #[.val (.long q0), .second, .val (.long q1), .second, .val (.int p2), .val (.long q3), .second, .val (.long q4), .second, .val (.int (own_v0_6_0 p2)), .val (.int (1 : Int32)), .val (.int (1 : Int32)), .val (.int (0 : Int32)), .unset, .unset] [(.ref b5)])) rfl (by rw [hml]; rfl) (Steps.refl _) (argsL := []) (rest := []) (lenOf own_pd2 rfl) rfl (by show 2 * 0 + _ ≤ _; exact Nat.le_of_eq rfl) (hb hby at_64) (fun _ _ => ⟨rfl, rfl, (by decide : 1 + 0 ≤ _), (by decide : 3 + 0 ≤ _)⟩)
      dsimp only [Pt.U, Pt.locs, Pt.cells, Pt.slots] at X20 l20 y20 z20 st20 hQ20
      subst l20 y20 z20
      obtain ⟨rfl, N20q, e20⟩ := hQ20
      have N21 := Fr.app N19 N20q
      obtain ⟨T22, h22, X22, e22, E22, A22, D22, -, st22⟩ := newO X20 hx hZ hown (hw _ (List.mem_of_getElem? (i := 1) rfl)) (hw _ (List.mem_of_getElem? (i := 2) rfl)) (hw _ (List.mem_of_getElem? (i := 3) rfl)) e20 (g := (mkF m 69 #[.val (.long q0), .second, .val (.long q1), .second, .val (.int p2), .val (.long q3), .second, .val (.long q4), .second, .val (.int (own_v0_6_0 p2)), .val (.int (1 : Int32)), .val (.int (1 : Int32)), .val (.int (0 : Int32)), .val (.int (own_f4 (nar .char (own_v0_6_0 p2)))), .unset] [])) rfl (hb hby at_69) (by decide) (by decide)
      obtain ⟨b22, g22⟩ : ∃ z, z = T12.heap.size := ⟨_, rfl⟩
      rw [← g22] at A22 D22 st22
      have g_b22 : n0 ≤ b22 := Nat.le_trans zs17 (Nat.le_of_eq g22.symm)
      have sz_b22 : h0.size ≤ b22 := Nat.le_trans K18.1 (Nat.le_of_eq g22.symm)
      have lt23 : b5 < b22 := Nat.lt_of_lt_of_le f14.lt (Nat.le_of_eq g22.symm)
      have f24 : Exa Z h22 b5 "com/example/kelq/kelq/cli/Job$Stat" := f15.ext E22
      have f25 : Fld Z h22 b5 "com/example/kelq/kelq/cli/Job$Stat" "parent" "J" (.long q0) := f16.ext E22
      have f26 : Fld Z h22 b5 "com/example/kelq/kelq/cli/Job$Stat" "start" "J" (.long q1) := f13.ext E22
      have f27 : Fld Z h22 b5 "com/example/kelq/kelq/cli/Job$Stat" "state" "C" (.int (nar .char (own_v0_6_0 p2))) := f14.ext E22
      have zs28 : n0 ≤ h22.size := Nat.le_trans zs17 E22.1
      have K29 : Keep h0 h22 [] := K18.ext E22
      have f30 : Fld Z h22 b22 "com/example/kelq/kelq/cli/Job$Stat" "parent" "J" (.long (0 : Int64)) := D22 (Or.inr (hw _ (List.mem_of_getElem? (i := 16) rfl))) (ty := .long) (by decide)
      have f31 : Fld Z h22 b22 "com/example/kelq/kelq/cli/Job$Stat" "start" "J" (.long (0 : Int64)) := D22 (Or.inr (hw _ (List.mem_of_getElem? (i := 18) rfl))) (ty := .long) (by decide)
      have f32 : Fld Z h22 b22 "com/example/kelq/kelq/cli/Job$Stat" "state" "C" (.int (0 : Int32)) := D22 (Or.inr (hw _ (List.mem_of_getElem? (i := 20) rfl))) (ty := .char) (by decide)
      obtain ⟨_, _, ⟨T33, L33, k33, n33⟩, -, X33, ⟨Lc33, hQ33, l33, y33, z33⟩, st33⟩ := X22.specialBack hx (y := (⟨"com/example/kelq/kelq/cli/Job$Stat", "<init>", "(JJC)V"⟩ : MethodName)) rfl hown (mvT hZ (hw _ (List.mem_of_getElem? (i := 4) rfl))) (mvT hZ (hw _ (List.mem_of_getElem? (i := 5) rfl))) (mvT hZ (hw _ (List.mem_of_getElem? (i := 6) rfl))) (by decide) (backOf (W := 1) (own_rm1 l Z a0 hw [] b22 q3 q4 (own_v0_6_0 p2) (.long (0 : Int64)) (.int (0 : Int32)) (.long (0 : Int64)) h22 n0 zs28 f31 f32 A22 f30 g_b22) hZ (hw _ (List.mem_of_getElem? (i := 6) rfl)) (hw _ (List.mem_of_getElem? (i := 3) rfl)) (by decide) (by decide)) (g := (mkF m 79 #[.val (.long q0), .second, .val (.long q1), .second, .val (.int p2), .val (.long q3), .second, .val (.long q4), .second, .val (.int (own_v0_6_0 p2)), .val (.int (1 : Int32)), .val (.int (1 : Int32)), .val (.int (0 : Int32)), .val (.int (own_f4 (nar .char (own_v0_6_0 p2)))), .unset] [(.int (own_v0_6_0 p2)), (.long q4), (.long q3), (.ref b22), (.ref b22)])) rfl (by rw [hml]; rfl) (Steps.refl _) (a := b22) (argsL := [(.long q3), (.long q4), (.int (own_v0_6_0 p2))]) (rest := [(.ref b22)]) (lenOf own_pd1 rfl) rfl (by show 2 * 0 + _ ≤ _; exact Nat.le_of_eq rfl) (hb hby at_79) (fun _ _ => ⟨rfl, e22, (by decide : 2 + 0 ≤ _), (by decide : 6 + 0 ≤ _)⟩)
      dsimp only [Pt.U, Pt.locs, Pt.cells, Pt.slots] at X33 l33 y33 z33 st33 hQ33
      subst l33 y33 z33
      obtain ⟨rfl, N33q, K33, f34, f35, f36, f37⟩ := hQ33
      have f38 : Exa Z T33.heap b5 "com/example/kelq/kelq/cli/Job$Stat" := f24.keep K33
      have f39 : Fld Z T33.heap b5 "com/example/kelq/kelq/cli/Job$Stat" "parent" "J" (.long q0) := f25.keep K33 (ninS (Nat.ne_of_lt lt23) nin0)
      have f40 : Fld Z T33.heap b5 "com/example/kelq/kelq/cli/Job$Stat" "start" "J" (.long q1) := f26.keep K33 (ninS (Nat.ne_of_lt lt23) nin0)
      have f41 : Fld Z T33.heap b5 "com/example/kelq/kelq/cli/Job$Stat" "state" "C" (.int (nar .char (own_v0_6_0 p2))) := f27.keep K33 (ninS (Nat.ne_of_lt lt23) nin0)
      have zs42 : n0 ≤ T33.heap.size := Nat.le_trans zs28 K33.1
      have K43 : Keep h0 T33.heap [] := K29.trans K33 (allS (Or.inr sz_b22) all0)
      have N44 := Fr.app N21 N33q
      obtain ⟨cq45, kq45, q45a, q45b, q45c⟩ := isOf hZ rfl f36
      obtain ⟨_, _, ⟨T45, L45, k45, n45⟩, -, X45, ⟨Lc45, hQ45, l45, y45, z45⟩, st45⟩ := X33.virtualBack hx (y := (⟨"com/example/kelq/kelq/cli/Job$Stat", "runs", "()Z"⟩ : MethodName)) (z := (⟨"com/example/kelq/kelq/cli/Job$Stat", "runs", "()Z"⟩ : MethodName)) hown (mvT hZ (hw _ (List.mem_of_getElem? (i := 21) rfl))) (mvT hZ (hw _ (List.mem_of_getElem? (i := 22) rfl))) (notFace_of_selects (args := #[]) (mvT hZ (hw _ (List.mem_of_getElem? (i := 24) rfl)))) (mvT hZ (hw _ (List.mem_of_getElem? (i := 24) rfl))) (mvT hZ (hw _ (List.mem_of_getElem? (i := 23) rfl))) (by decide) (backOf (W := 0) (own_rm4 l Z a0 hw [] b22 (nar .char (own_v0_6_0 p2)) T33.heap n0 zs42 f35) hZ (hw _ (List.mem_of_getElem? (i := 25) rfl)) (hw _ (List.mem_of_getElem? (i := 3) rfl)) (by decide) (by decide)) q45a q45c (g := (mkF m 82 #[.val (.long q0), .second, .val (.long q1), .second, .val (.int p2), .val (.long q3), .second, .val (.long q4), .second, .val (.int (own_v0_6_0 p2)), .val (.int (1 : Int32)), .val (.int (1 : Int32)), .val (.int (0 : Int32)), .val (.int (own_f4 (nar .char (own_v0_6_0 p2)))), .unset] [(.ref b22)])) rfl (by rw [hml]; rfl) (Steps.refl _) (argsL := []) (rest := []) (lenOf own_pd2 rfl) rfl (by show 2 * 0 + _ ≤ _; exact Nat.le_of_eq rfl) (hb hby at_82) (fun _ _ => ⟨rfl, rfl, (by decide : 2 + 0 ≤ _), (by decide : 6 + 0 ≤ _)⟩)
      dsimp only [Pt.U, Pt.locs, Pt.cells, Pt.slots] at X45 l45 y45 z45 st45 hQ45
      subst l45 y45 z45
      obtain ⟨rfl, N45q, e45⟩ := hQ45
      have N46 := Fr.app N44 N45q
      have pre47 : ∀ t, Steps p.tables e below (T45.setTop (mkF m 91 #[.val (.long q0), .second, .val (.long q1), .second, .val (.int p2), .val (.long q3), .second, .val (.long q4), .second, .val (.int (own_v0_6_0 p2)), .val (.int (1 : Int32)), .val (.int (1 : Int32)), .val (.int (0 : Int32)), .val (.int (own_f4 (nar .char (own_v0_6_0 p2)))), .val (.int (own_f4 (nar .char (own_v0_6_0 p2))))] [(.int (0 : Int32)), (.int (own_f4 (nar .char (own_v0_6_0 p2))))])) t → Steps p.tables e below (s₁.setTop (entryFrame m #[(.long q0), (.long q1), (.int p2), (.long q3), (.long q4)] maxLocals)) t := fun t k => pre3 t (by
          refine XS.icmpNo X0.here hx rfl (hb hby at_26) rfl (teq hc4).2 ?_
          show Steps p.tables e below (s₁.setTop (mkF m 29 #[.val (.long q0), .second, .val (.long q1), .second, .val (.int p2), .val (.long q3), .second, .val (.long q4), .second, .val (.int (own_v0_6_0 p2)), .val (.int (1 : Int32)), .unset, .unset, .unset, .unset] [])) _
          refine XS.iconst X0.here hx rfl (hb hby at_29) ?_
          show Steps p.tables e below (s₁.setTop (mkF m 30 #[.val (.long q0), .second, .val (.long q1), .second, .val (.int p2), .val (.long q3), .second, .val (.long q4), .second, .val (.int (own_v0_6_0 p2)), .val (.int (1 : Int32)), .unset, .unset, .unset, .unset] [(.int (1 : Int32))])) _
          refine XS.goto X0.here hx rfl (pc0 := 30) (pc' := 34) rfl (hb hby at_30) (by decide) (by decide) ?_
          show Steps p.tables e below (s₁.setTop (mkF m 34 #[.val (.long q0), .second, .val (.long q1), .second, .val (.int p2), .val (.long q3), .second, .val (.long q4), .second, .val (.int (own_v0_6_0 p2)), .val (.int (1 : Int32)), .unset, .unset, .unset, .unset] [(.int (1 : Int32))])) _
          refine XS.istore X0.here hx rfl (hb hby at_34) rfl (l' := #[.val (.long q0), .second, .val (.long q1), .second, .val (.int p2), .val (.long q3), .second, .val (.long q4), .second, .val (.int (own_v0_6_0 p2)), .val (.int (1 : Int32)), .val (.int (1 : Int32)), .unset, .unset, .unset]) rfl ?_
          show Steps p.tables e below (s₁.setTop (mkF m 36 #[.val (.long q0), .second, .val (.long q1), .second, .val (.int p2), .val (.long q3), .second, .val (.long q4), .second, .val (.int (own_v0_6_0 p2)), .val (.int (1 : Int32)), .val (.int (1 : Int32)), .unset, .unset, .unset] [])) _
          refine XS.iload X0.here hx rfl (hb hby at_36) rfl ?_
          show Steps p.tables e below (s₁.setTop (mkF m 38 #[.val (.long q0), .second, .val (.long q1), .second, .val (.int p2), .val (.long q3), .second, .val (.long q4), .second, .val (.int (own_v0_6_0 p2)), .val (.int (1 : Int32)), .val (.int (1 : Int32)), .unset, .unset, .unset] [(.int (1 : Int32))])) _
          refine XS.ifYes X0.here hx rfl (pc0 := 38) (pc' := 50) rfl (hb hby at_38) rfl ((if0 _ _).trans (feq (by decide : ¬ ((1 : Int32) = (0 : Int32)))).2) (by decide) (by decide) ?_
          show Steps p.tables e below (s₁.setTop (mkF m 50 #[.val (.long q0), .second, .val (.long q1), .second, .val (.int p2), .val (.long q3), .second, .val (.long q4), .second, .val (.int (own_v0_6_0 p2)), .val (.int (1 : Int32)), .val (.int (1 : Int32)), .unset, .unset, .unset] [])) _
          refine XS.iconst X0.here hx rfl (hb hby at_50) ?_
          show Steps p.tables e below (s₁.setTop (mkF m 51 #[.val (.long q0), .second, .val (.long q1), .second, .val (.int p2), .val (.long q3), .second, .val (.long q4), .second, .val (.int (own_v0_6_0 p2)), .val (.int (1 : Int32)), .val (.int (1 : Int32)), .unset, .unset, .unset] [(.int (0 : Int32))])) _
          refine XS.istore X0.here hx rfl (hb hby at_51) rfl (l' := #[.val (.long q0), .second, .val (.long q1), .second, .val (.int p2), .val (.long q3), .second, .val (.long q4), .second, .val (.int (own_v0_6_0 p2)), .val (.int (1 : Int32)), .val (.int (1 : Int32)), .val (.int (0 : Int32)), .unset, .unset]) rfl ?_
          show Steps p.tables e below (s₁.setTop (mkF m 53 #[.val (.long q0), .second, .val (.long q1), .second, .val (.int p2), .val (.long q3), .second, .val (.long q4), .second, .val (.int (own_v0_6_0 p2)), .val (.int (1 : Int32)), .val (.int (1 : Int32)), .val (.int (0 : Int32)), .unset, .unset] [])) _
          refine st5 _ ?_
          show Steps p.tables e below (T5.setTop (mkF m 56 #[.val (.long q0), .second, .val (.long q1), .second, .val (.int p2), .val (.long q3), .second, .val (.long q4), .second, .val (.int (own_v0_6_0 p2)), .val (.int (1 : Int32)), .val (.int (1 : Int32)), .val (.int (0 : Int32)), .unset, .unset] [(.ref b5)])) _
          refine XS.dup X5.here hx rfl (hb hby at_56) rfl rfl ?_
          show Steps p.tables e below (T5.setTop (mkF m 57 #[.val (.long q0), .second, .val (.long q1), .second, .val (.int p2), .val (.long q3), .second, .val (.long q4), .second, .val (.int (own_v0_6_0 p2)), .val (.int (1 : Int32)), .val (.int (1 : Int32)), .val (.int (0 : Int32)), .unset, .unset] [(.ref b5), (.ref b5)])) _
          refine XS.lloadN X5.here hx rfl (hb hby at_57) rfl ?_
          show Steps p.tables e below (T5.setTop (mkF m 58 #[.val (.long q0), .second, .val (.long q1), .second, .val (.int p2), .val (.long q3), .second, .val (.long q4), .second, .val (.int (own_v0_6_0 p2)), .val (.int (1 : Int32)), .val (.int (1 : Int32)), .val (.int (0 : Int32)), .unset, .unset] [(.long q0), (.ref b5), (.ref b5)])) _
          refine XS.lloadN X5.here hx rfl (hb hby at_58) rfl ?_
          show Steps p.tables e below (T5.setTop (mkF m 59 #[.val (.long q0), .second, .val (.long q1), .second, .val (.int p2), .val (.long q3), .second, .val (.long q4), .second, .val (.int (own_v0_6_0 p2)), .val (.int (1 : Int32)), .val (.int (1 : Int32)), .val (.int (0 : Int32)), .unset, .unset] [(.long q1), (.long q0), (.ref b5), (.ref b5)])) _
          refine XS.iload X5.here hx rfl (hb hby at_59) rfl ?_
          show Steps p.tables e below (T5.setTop (mkF m 61 #[.val (.long q0), .second, .val (.long q1), .second, .val (.int p2), .val (.long q3), .second, .val (.long q4), .second, .val (.int (own_v0_6_0 p2)), .val (.int (1 : Int32)), .val (.int (1 : Int32)), .val (.int (0 : Int32)), .unset, .unset] [(.int (own_v0_6_0 p2)), (.long q1), (.long q0), (.ref b5), (.ref b5)])) _
          refine st12.trans ?_
          show Steps p.tables e below (T12.setTop (mkF m 64 #[.val (.long q0), .second, .val (.long q1), .second, .val (.int p2), .val (.long q3), .second, .val (.long q4), .second, .val (.int (own_v0_6_0 p2)), .val (.int (1 : Int32)), .val (.int (1 : Int32)), .val (.int (0 : Int32)), .unset, .unset] [(.ref b5)])) _
          refine st20.trans ?_
          show Steps p.tables e below (T20.setTop (mkF m 67 #[.val (.long q0), .second, .val (.long q1), .second, .val (.int p2), .val (.long q3), .second, .val (.long q4), .second, .val (.int (own_v0_6_0 p2)), .val (.int (1 : Int32)), .val (.int (1 : Int32)), .val (.int (0 : Int32)), .unset, .unset] [(.int (own_f4 (nar .char (own_v0_6_0 p2))))])) _
          refine XS.istore X20.here hx rfl (hb hby at_67) rfl (l' := #[.val (.long q0), .second, .val (.long q1), .second, .val (.int p2), .val (.long q3), .second, .val (.long q4), .second, .val (.int (own_v0_6_0 p2)), .val (.int (1 : Int32)), .val (.int (1 : Int32)), .val (.int (0 : Int32)), .val (.int (own_f4 (nar .char (own_v0_6_0 p2)))), .unset]) rfl ?_
          show Steps p.tables e below (T20.setTop (mkF m 69 #[.val (.long q0), .second, .val (.long q1), .second, .val (.int p2), .val (.long q3), .second, .val (.long q4), .second, .val (.int (own_v0_6_0 p2)), .val (.int (1 : Int32)), .val (.int (1 : Int32)), .val (.int (0 : Int32)), .val (.int (own_f4 (nar .char (own_v0_6_0 p2)))), .unset] [])) _
          refine st22 _ ?_
          show Steps p.tables e below (T22.setTop (mkF m 72 #[.val (.long q0), .second, .val (.long q1), .second, .val (.int p2), .val (.long q3), .second, .val (.long q4), .second, .val (.int (own_v0_6_0 p2)), .val (.int (1 : Int32)), .val (.int (1 : Int32)), .val (.int (0 : Int32)), .val (.int (own_f4 (nar .char (own_v0_6_0 p2)))), .unset] [(.ref b22)])) _
          refine XS.dup X22.here hx rfl (hb hby at_72) rfl rfl ?_
          show Steps p.tables e below (T22.setTop (mkF m 73 #[.val (.long q0), .second, .val (.long q1), .second, .val (.int p2), .val (.long q3), .second, .val (.long q4), .second, .val (.int (own_v0_6_0 p2)), .val (.int (1 : Int32)), .val (.int (1 : Int32)), .val (.int (0 : Int32)), .val (.int (own_f4 (nar .char (own_v0_6_0 p2)))), .unset] [(.ref b22), (.ref b22)])) _
          refine XS.lload X22.here hx rfl (hb hby at_73) rfl ?_
          show Steps p.tables e below (T22.setTop (mkF m 75 #[.val (.long q0), .second, .val (.long q1), .second, .val (.int p2), .val (.long q3), .second, .val (.long q4), .second, .val (.int (own_v0_6_0 p2)), .val (.int (1 : Int32)), .val (.int (1 : Int32)), .val (.int (0 : Int32)), .val (.int (own_f4 (nar .char (own_v0_6_0 p2)))), .unset] [(.long q3), (.ref b22), (.ref b22)])) _
          refine XS.lload X22.here hx rfl (hb hby at_75) rfl ?_
          show Steps p.tables e below (T22.setTop (mkF m 77 #[.val (.long q0), .second, .val (.long q1), .second, .val (.int p2), .val (.long q3), .second, .val (.long q4), .second, .val (.int (own_v0_6_0 p2)), .val (.int (1 : Int32)), .val (.int (1 : Int32)), .val (.int (0 : Int32)), .val (.int (own_f4 (nar .char (own_v0_6_0 p2)))), .unset] [(.long q4), (.long q3), (.ref b22), (.ref b22)])) _
          refine XS.iload X22.here hx rfl (hb hby at_77) rfl ?_
          show Steps p.tables e below (T22.setTop (mkF m 79 #[.val (.long q0), .second, .val (.long q1), .second, .val (.int p2), .val (.long q3), .second, .val (.long q4), .second, .val (.int (own_v0_6_0 p2)), .val (.int (1 : Int32)), .val (.int (1 : Int32)), .val (.int (0 : Int32)), .val (.int (own_f4 (nar .char (own_v0_6_0 p2)))), .unset] [(.int (own_v0_6_0 p2)), (.long q4), (.long q3), (.ref b22), (.ref b22)])) _
          refine st33.trans ?_
          show Steps p.tables e below (T33.setTop (mkF m 82 #[.val (.long q0), .second, .val (.long q1), .second, .val (.int p2), .val (.long q3), .second, .val (.long q4), .second, .val (.int (own_v0_6_0 p2)), .val (.int (1 : Int32)), .val (.int (1 : Int32)), .val (.int (0 : Int32)), .val (.int (own_f4 (nar .char (own_v0_6_0 p2)))), .unset] [(.ref b22)])) _
          refine st45.trans ?_
          show Steps p.tables e below (T45.setTop (mkF m 85 #[.val (.long q0), .second, .val (.long q1), .second, .val (.int p2), .val (.long q3), .second, .val (.long q4), .second, .val (.int (own_v0_6_0 p2)), .val (.int (1 : Int32)), .val (.int (1 : Int32)), .val (.int (0 : Int32)), .val (.int (own_f4 (nar .char (own_v0_6_0 p2)))), .unset] [(.int (own_f4 (nar .char (own_v0_6_0 p2))))])) _
          refine XS.istore X45.here hx rfl (hb hby at_85) rfl (l' := #[.val (.long q0), .second, .val (.long q1), .second, .val (.int p2), .val (.long q3), .second, .val (.long q4), .second, .val (.int (own_v0_6_0 p2)), .val (.int (1 : Int32)), .val (.int (1 : Int32)), .val (.int (0 : Int32)), .val (.int (own_f4 (nar .char (own_v0_6_0 p2)))), .val (.int (own_f4 (nar .char (own_v0_6_0 p2))))]) rfl ?_
          show Steps p.tables e below (T45.setTop (mkF m 87 #[.val (.long q0), .second, .val (.long q1), .second, .val (.int p2), .val (.long q3), .second, .val (.long q4), .second, .val (.int (own_v0_6_0 p2)), .val (.int (1 : Int32)), .val (.int (1 : Int32)), .val (.int (0 : Int32)), .val (.int (own_f4 (nar .char (own_v0_6_0 p2)))), .val (.int (own_f4 (nar .char (own_v0_6_0 p2))))] [])) _
          refine XS.iload X45.here hx rfl (hb hby at_87) rfl ?_
          show Steps p.tables e below (T45.setTop (mkF m 89 #[.val (.long q0), .second, .val (.long q1), .second, .val (.int p2), .val (.long q3), .second, .val (.long q4), .second, .val (.int (own_v0_6_0 p2)), .val (.int (1 : Int32)), .val (.int (1 : Int32)), .val (.int (0 : Int32)), .val (.int (own_f4 (nar .char (own_v0_6_0 p2)))), .val (.int (own_f4 (nar .char (own_v0_6_0 p2))))] [(.int (own_f4 (nar .char (own_v0_6_0 p2))))])) _
          refine XS.iload X45.here hx rfl (hb hby at_89) rfl ?_
          show Steps p.tables e below (T45.setTop (mkF m 91 #[.val (.long q0), .second, .val (.long q1), .second, .val (.int p2), .val (.long q3), .second, .val (.long q4), .second, .val (.int (own_v0_6_0 p2)), .val (.int (1 : Int32)), .val (.int (1 : Int32)), .val (.int (0 : Int32)), .val (.int (own_f4 (nar .char (own_v0_6_0 p2)))), .val (.int (own_f4 (nar .char (own_v0_6_0 p2))))] [(.int (0 : Int32)), (.int (own_f4 (nar .char (own_v0_6_0 p2))))])) _
          exact k)
      by_cases hc48 : (own_f4 (nar .char (own_v0_6_0 p2))) = (0 : Int32)
      · have pre49 : ∀ t, Steps p.tables e below (T45.setTop (mkF m 106 #[.val (.long q0), .second, .val (.long q1), .second, .val (.int p2), .val (.long q3), .second, .val (.long q4), .second, .val (.int (own_v0_6_0 p2)), .val (.int (1 : Int32)), .val (.int (1 : Int32)), .val (.int (0 : Int32)), .val (.int (own_f4 (nar .char (own_v0_6_0 p2)))), .val (.int (own_f4 (nar .char (own_v0_6_0 p2))))] [(.int (1 : Int32))])) t → Steps p.tables e below (s₁.setTop (entryFrame m #[(.long q0), (.long q1), (.int p2), (.long q3), (.long q4)] maxLocals)) t := fun t k => pre47 t (by
            refine XS.icmpNo X45.here hx rfl (hb hby at_91) rfl (teq hc48).2 ?_
            show Steps p.tables e below (T45.setTop (mkF m 94 #[.val (.long q0), .second, .val (.long q1), .second, .val (.int p2), .val (.long q3), .second, .val (.long q4), .second, .val (.int (own_v0_6_0 p2)), .val (.int (1 : Int32)), .val (.int (1 : Int32)), .val (.int (0 : Int32)), .val (.int (own_f4 (nar .char (own_v0_6_0 p2)))), .val (.int (own_f4 (nar .char (own_v0_6_0 p2))))] [])) _
            refine XS.iload X45.here hx rfl (hb hby at_94) rfl ?_
            show Steps p.tables e below (T45.setTop (mkF m 96 #[.val (.long q0), .second, .val (.long q1), .second, .val (.int p2), .val (.long q3), .second, .val (.long q4), .second, .val (.int (own_v0_6_0 p2)), .val (.int (1 : Int32)), .val (.int (1 : Int32)), .val (.int (0 : Int32)), .val (.int (own_f4 (nar .char (own_v0_6_0 p2)))), .val (.int (own_f4 (nar .char (own_v0_6_0 p2))))] [(.int (own_f4 (nar .char (own_v0_6_0 p2))))])) _
            refine XS.iload X45.here hx rfl (hb hby at_96) rfl ?_
            show Steps p.tables e below (T45.setTop (mkF m 98 #[.val (.long q0), .second, .val (.long q1), .second, .val (.int p2), .val (.long q3), .second, .val (.long q4), .second, .val (.int (own_v0_6_0 p2)), .val (.int (1 : Int32)), .val (.int (1 : Int32)), .val (.int (0 : Int32)), .val (.int (own_f4 (nar .char (own_v0_6_0 p2)))), .val (.int (own_f4 (nar .char (own_v0_6_0 p2))))] [(.int (0 : Int32)), (.int (own_f4 (nar .char (own_v0_6_0 p2))))])) _
            refine XS.icmpNo X45.here hx rfl (hb hby at_98) rfl (teq hc48).2 ?_
            show Steps p.tables e below (T45.setTop (mkF m 101 #[.val (.long q0), .second, .val (.long q1), .second, .val (.int p2), .val (.long q3), .second, .val (.long q4), .second, .val (.int (own_v0_6_0 p2)), .val (.int (1 : Int32)), .val (.int (1 : Int32)), .val (.int (0 : Int32)), .val (.int (own_f4 (nar .char (own_v0_6_0 p2)))), .val (.int (own_f4 (nar .char (own_v0_6_0 p2))))] [])) _
            refine XS.iconst X45.here hx rfl (hb hby at_101) ?_
            show Steps p.tables e below (T45.setTop (mkF m 102 #[.val (.long q0), .second, .val (.long q1), .second, .val (.int p2), .val (.long q3), .second, .val (.long q4), .second, .val (.int (own_v0_6_0 p2)), .val (.int (1 : Int32)), .val (.int (1 : Int32)), .val (.int (0 : Int32)), .val (.int (own_f4 (nar .char (own_v0_6_0 p2)))), .val (.int (own_f4 (nar .char (own_v0_6_0 p2))))] [(.int (1 : Int32))])) _
            refine XS.goto X45.here hx rfl (pc0 := 102) (pc' := 106) rfl (hb hby at_102) (by decide) (by decide) ?_
            show Steps p.tables e below (T45.setTop (mkF m 106 #[.val (.long q0), .second, .val (.long q1), .second, .val (.int p2), .val (.long q3), .second, .val (.long q4), .second, .val (.int (own_v0_6_0 p2)), .val (.int (1 : Int32)), .val (.int (1 : Int32)), .val (.int (0 : Int32)), .val (.int (own_f4 (nar .char (own_v0_6_0 p2)))), .val (.int (own_f4 (nar .char (own_v0_6_0 p2))))] [(.int (1 : Int32))])) _
            exact k)
        obtain ⟨fs, hr, hrun, hended, hW, hsame⟩ := X45.leave (v := some (.int (1 : Int32))) (fun h => by rw [Bd.returns] at h; cases h)
        refine ⟨_, _, pre49 _ ?_, hrun, hended, _, _, rfl, ?_, ⟨_, rfl⟩, hW, hsame.mono (by decide) (by decide)⟩
        · show Steps p.tables e below (T45.setTop (mkF m 106 #[.val (.long q0), .second, .val (.long q1), .second, .val (.int p2), .val (.long q3), .second, .val (.long q4), .second, .val (.int (own_v0_6_0 p2)), .val (.int (1 : Int32)), .val (.int (1 : Int32)), .val (.int (0 : Int32)), .val (.int (own_f4 (nar .char (own_v0_6_0 p2)))), .val (.int (own_f4 (nar .char (own_v0_6_0 p2))))] [(.int (1 : Int32))])) _
          exact retN X45 hx (t := .boolean) Bd.returns (by simp) (hb hby at_106) hr
        · show own_Q0 Z q0 q1 p2 q3 q4 h0 n0 _ T45.heap _; exact ⟨(by show some (Value.int _) = some (.int (own_f0 p2)); unfold own_f0; rw [if_pos hc2, if_pos hc4, if_pos hc48]), N46⟩
      · have pre50 : ∀ t, Steps p.tables e below (T45.setTop (mkF m 106 #[.val (.long q0), .second, .val (.long q1), .second, .val (.int p2), .val (.long q3), .second, .val (.long q4), .second, .val (.int (own_v0_6_0 p2)), .val (.int (1 : Int32)), .val (.int (1 : Int32)), .val (.int (0 : Int32)), .val (.int (own_f4 (nar .char (own_v0_6_0 p2)))), .val (.int (own_f4 (nar .char (own_v0_6_0 p2))))] [(.int (0 : Int32))])) t → Steps p.tables e below (s₁.setTop (entryFrame m #[(.long q0), (.long q1), (.int p2), (.long q3), (.long q4)] maxLocals)) t := fun t k => pre47 t (by
            refine XS.icmpYes X45.here hx rfl (pc0 := 91) (pc' := 105) rfl (hb hby at_91) rfl (feq hc48).2 (by decide) (by decide) ?_
            show Steps p.tables e below (T45.setTop (mkF m 105 #[.val (.long q0), .second, .val (.long q1), .second, .val (.int p2), .val (.long q3), .second, .val (.long q4), .second, .val (.int (own_v0_6_0 p2)), .val (.int (1 : Int32)), .val (.int (1 : Int32)), .val (.int (0 : Int32)), .val (.int (own_f4 (nar .char (own_v0_6_0 p2)))), .val (.int (own_f4 (nar .char (own_v0_6_0 p2))))] [])) _
            refine XS.iconst X45.here hx rfl (hb hby at_105) ?_
            show Steps p.tables e below (T45.setTop (mkF m 106 #[.val (.long q0), .second, .val (.long q1), .second, .val (.int p2), .val (.long q3), .second, .val (.long q4), .second, .val (.int (own_v0_6_0 p2)), .val (.int (1 : Int32)), .val (.int (1 : Int32)), .val (.int (0 : Int32)), .val (.int (own_f4 (nar .char (own_v0_6_0 p2)))), .val (.int (own_f4 (nar .char (own_v0_6_0 p2))))] [(.int (0 : Int32))])) _
            exact k)
        obtain ⟨fs, hr, hrun, hended, hW, hsame⟩ := X45.leave (v := some (.int (0 : Int32))) (fun h => by rw [Bd.returns] at h; cases h)
        refine ⟨_, _, pre50 _ ?_, hrun, hended, _, _, rfl, ?_, ⟨_, rfl⟩, hW, hsame.mono (by decide) (by decide)⟩
        · show Steps p.tables e below (T45.setTop (mkF m 106 #[.val (.long q0), .second, .val (.long q1), .second, .val (.int p2), .val (.long q3), .second, .val (.long q4), .second, .val (.int (own_v0_6_0 p2)), .val (.int (1 : Int32)), .val (.int (1 : Int32)), .val (.int (0 : Int32)), .val (.int (own_f4 (nar .char (own_v0_6_0 p2)))), .val (.int (own_f4 (nar .char (own_v0_6_0 p2))))] [(.int (0 : Int32))])) _
          exact retN X45 hx (t := .boolean) Bd.returns (by simp) (hb hby at_106) hr
        · show own_Q0 Z q0 q1 p2 q3 q4 h0 n0 _ T45.heap _; exact ⟨(by show some (Value.int _) = some (.int (own_f0 p2)); unfold own_f0; rw [if_pos hc2, if_pos hc4, if_neg hc48]), N46⟩
    · obtain ⟨T51, h51, X51, e51, E51, A51, D51, -, st51⟩ := newO X0 hx hZ hown (hw _ (List.mem_of_getElem? (i := 1) rfl)) (hw _ (List.mem_of_getElem? (i := 2) rfl)) (hw _ (List.mem_of_getElem? (i := 3) rfl)) e0 (g := (mkF m 53 #[.val (.long q0), .second, .val (.long q1), .second, .val (.int p2), .val (.long q3), .second, .val (.long q4), .second, .val (.int (own_v0_6_0 p2)), .val (.int (1 : Int32)), .val (.int (0 : Int32)), .val (.int (0 : Int32)), .unset, .unset] [])) rfl (hb hby at_53) (by decide) (by decide)
      obtain ⟨b51, g51⟩ : ∃ z, z = h0.size := ⟨_, rfl⟩
      rw [← g51] at A51 D51 st51
      have g_b51 : n0 ≤ b51 := Nat.le_trans Z0 (Nat.le_of_eq g51.symm)
      have K52 : Keep h0 h0 [] := Keep.refl h0 []
      have sz_b51 : h0.size ≤ b51 := Nat.le_trans K52.1 (Nat.le_of_eq g51.symm)
      have zs53 : n0 ≤ h51.size := Nat.le_trans Z0 E51.1
      have K54 : Keep h0 h51 [] := K52.ext E51
      have f55 : Fld Z h51 b51 "com/example/kelq/kelq/cli/Job$Stat" "parent" "J" (.long (0 : Int64)) := D51 (Or.inr (hw _ (List.mem_of_getElem? (i := 16) rfl))) (ty := .long) (by decide)
      have f56 : Fld Z h51 b51 "com/example/kelq/kelq/cli/Job$Stat" "start" "J" (.long (0 : Int64)) := D51 (Or.inr (hw _ (List.mem_of_getElem? (i := 18) rfl))) (ty := .long) (by decide)
      have f57 : Fld Z h51 b51 "com/example/kelq/kelq/cli/Job$Stat" "state" "C" (.int (0 : Int32)) := D51 (Or.inr (hw _ (List.mem_of_getElem? (i := 20) rfl))) (ty := .char) (by decide)
      obtain ⟨_, _, ⟨T58, L58, k58, n58⟩, -, X58, ⟨Lc58, hQ58, l58, y58, z58⟩, st58⟩ := X51.specialBack hx (y := (⟨"com/example/kelq/kelq/cli/Job$Stat", "<init>", "(JJC)V"⟩ : MethodName)) rfl hown (mvT hZ (hw _ (List.mem_of_getElem? (i := 4) rfl))) (mvT hZ (hw _ (List.mem_of_getElem? (i := 5) rfl))) (mvT hZ (hw _ (List.mem_of_getElem? (i := 6) rfl))) (by decide) (backOf (W := 1) (own_rm1 l Z a0 hw [] b51 q0 q1 (own_v0_6_0 p2) (.long (0 : Int64)) (.int (0 : Int32)) (.long (0 : Int64)) h51 n0 zs53 f56 f57 A51 f55 g_b51) hZ (hw _ (List.mem_of_getElem? (i := 6) rfl)) (hw _ (List.mem_of_getElem? (i := 3) rfl)) (by decide) (by decide)) (g := (mkF m 61 #[.val (.long q0), .second, .val (.long q1), .second, .val (.int p2), .val (.long q3), .second, .val (.long q4), .second, .val (.int (own_v0_6_0 p2)), .val (.int (1 : Int32)), .val (.int (0 : Int32)), .val (.int (0 : Int32)), .unset, .unset] [(.int (own_v0_6_0 p2)), (.long q1), (.long q0), (.ref b51), (.ref b51)])) rfl (by rw [hml]; rfl) (Steps.refl _) (a := b51) (argsL := [(.long q0), (.long q1), (.int (own_v0_6_0 p2))]) (rest := [(.ref b51)]) (lenOf own_pd1 rfl) rfl (by show 2 * 0 + _ ≤ _; exact Nat.le_of_eq rfl) (hb hby at_61) (fun _ _ => ⟨rfl, e51, (by decide : 1 + 0 ≤ _), (by decide : 3 + 0 ≤ _)⟩)
      dsimp only [Pt.U, Pt.locs, Pt.cells, Pt.slots] at X58 l58 y58 z58 st58 hQ58
      subst l58 y58 z58
      obtain ⟨rfl, N58q, K58, f59, f60, f61, f62⟩ := hQ58
      have zs63 : n0 ≤ T58.heap.size := Nat.le_trans zs53 K58.1
      have K64 : Keep h0 T58.heap [] := K54.trans K58 (allS (Or.inr sz_b51) all0)
      have N65 := Fr.app N0 N58q
      obtain ⟨cq66, kq66, q66a, q66b, q66c⟩ := isOf hZ rfl f61
      obtain ⟨_, _, ⟨T66, L66, k66, n66⟩, -, X66, ⟨Lc66, hQ66, l66, y66, z66⟩, st66⟩ := X58.virtualBack hx (y := (⟨"com/example/kelq/kelq/cli/Job$Stat", "runs", "()Z"⟩ : MethodName)) (z := (⟨"com/example/kelq/kelq/cli/Job$Stat", "runs", "()Z"⟩ : MethodName)) hown (mvT hZ (hw _ (List.mem_of_getElem? (i := 21) rfl))) (mvT hZ (hw _ (List.mem_of_getElem? (i := 22) rfl))) (notFace_of_selects (args := #[]) (mvT hZ (hw _ (List.mem_of_getElem? (i := 24) rfl)))) (mvT hZ (hw _ (List.mem_of_getElem? (i := 24) rfl))) (mvT hZ (hw _ (List.mem_of_getElem? (i := 23) rfl))) (by decide) (backOf (W := 0) (own_rm4 l Z a0 hw [] b51 (nar .char (own_v0_6_0 p2)) T58.heap n0 zs63 f60) hZ (hw _ (List.mem_of_getElem? (i := 25) rfl)) (hw _ (List.mem_of_getElem? (i := 3) rfl)) (by decide) (by decide)) q66a q66c (g := (mkF m 64 #[.val (.long q0), .second, .val (.long q1), .second, .val (.int p2), .val (.long q3), .second, .val (.long q4), .second, .val (.int (own_v0_6_0 p2)), .val (.int (1 : Int32)), .val (.int (0 : Int32)), .val (.int (0 : Int32)), .unset, .unset] [(.ref b51)])) rfl (by rw [hml]; rfl) (Steps.refl _) (argsL := []) (rest := []) (lenOf own_pd2 rfl) rfl (by show 2 * 0 + _ ≤ _; exact Nat.le_of_eq rfl) (hb hby at_64) (fun _ _ => ⟨rfl, rfl, (by decide : 1 + 0 ≤ _), (by decide : 3 + 0 ≤ _)⟩)
      dsimp only [Pt.U, Pt.locs, Pt.cells, Pt.slots] at X66 l66 y66 z66 st66 hQ66
      subst l66 y66 z66
      obtain ⟨rfl, N66q, e66⟩ := hQ66
      have N67 := Fr.app N65 N66q
      obtain ⟨T68, h68, X68, e68, E68, A68, D68, -, st68⟩ := newO X66 hx hZ hown (hw _ (List.mem_of_getElem? (i := 1) rfl)) (hw _ (List.mem_of_getElem? (i := 2) rfl)) (hw _ (List.mem_of_getElem? (i := 3) rfl)) e66 (g := (mkF m 69 #[.val (.long q0), .second, .val (.long q1), .second, .val (.int p2), .val (.long q3), .second, .val (.long q4), .second, .val (.int (own_v0_6_0 p2)), .val (.int (1 : Int32)), .val (.int (0 : Int32)), .val (.int (0 : Int32)), .val (.int (own_f4 (nar .char (own_v0_6_0 p2)))), .unset] [])) rfl (hb hby at_69) (by decide) (by decide)
      obtain ⟨b68, g68⟩ : ∃ z, z = T58.heap.size := ⟨_, rfl⟩
      rw [← g68] at A68 D68 st68
      have g_b68 : n0 ≤ b68 := Nat.le_trans zs63 (Nat.le_of_eq g68.symm)
      have sz_b68 : h0.size ≤ b68 := Nat.le_trans K64.1 (Nat.le_of_eq g68.symm)
      have lt69 : b51 < b68 := Nat.lt_of_lt_of_le f60.lt (Nat.le_of_eq g68.symm)
      have f70 : Exa Z h68 b51 "com/example/kelq/kelq/cli/Job$Stat" := f61.ext E68
      have f71 : Fld Z h68 b51 "com/example/kelq/kelq/cli/Job$Stat" "parent" "J" (.long q0) := f62.ext E68
      have f72 : Fld Z h68 b51 "com/example/kelq/kelq/cli/Job$Stat" "start" "J" (.long q1) := f59.ext E68
      have f73 : Fld Z h68 b51 "com/example/kelq/kelq/cli/Job$Stat" "state" "C" (.int (nar .char (own_v0_6_0 p2))) := f60.ext E68
      have zs74 : n0 ≤ h68.size := Nat.le_trans zs63 E68.1
      have K75 : Keep h0 h68 [] := K64.ext E68
      have f76 : Fld Z h68 b68 "com/example/kelq/kelq/cli/Job$Stat" "parent" "J" (.long (0 : Int64)) := D68 (Or.inr (hw _ (List.mem_of_getElem? (i := 16) rfl))) (ty := .long) (by decide)
      have f77 : Fld Z h68 b68 "com/example/kelq/kelq/cli/Job$Stat" "start" "J" (.long (0 : Int64)) := D68 (Or.inr (hw _ (List.mem_of_getElem? (i := 18) rfl))) (ty := .long) (by decide)
      have f78 : Fld Z h68 b68 "com/example/kelq/kelq/cli/Job$Stat" "state" "C" (.int (0 : Int32)) := D68 (Or.inr (hw _ (List.mem_of_getElem? (i := 20) rfl))) (ty := .char) (by decide)
      obtain ⟨_, _, ⟨T79, L79, k79, n79⟩, -, X79, ⟨Lc79, hQ79, l79, y79, z79⟩, st79⟩ := X68.specialBack hx (y := (⟨"com/example/kelq/kelq/cli/Job$Stat", "<init>", "(JJC)V"⟩ : MethodName)) rfl hown (mvT hZ (hw _ (List.mem_of_getElem? (i := 4) rfl))) (mvT hZ (hw _ (List.mem_of_getElem? (i := 5) rfl))) (mvT hZ (hw _ (List.mem_of_getElem? (i := 6) rfl))) (by decide) (backOf (W := 1) (own_rm1 l Z a0 hw [] b68 q3 q4 (own_v0_6_0 p2) (.long (0 : Int64)) (.int (0 : Int32)) (.long (0 : Int64)) h68 n0 zs74 f77 f78 A68 f76 g_b68) hZ (hw _ (List.mem_of_getElem? (i := 6) rfl)) (hw _ (List.mem_of_getElem? (i := 3) rfl)) (by decide) (by decide)) (g := (mkF m 79 #[.val (.long q0), .second, .val (.long q1), .second, .val (.int p2), .val (.long q3), .second, .val (.long q4), .second, .val (.int (own_v0_6_0 p2)), .val (.int (1 : Int32)), .val (.int (0 : Int32)), .val (.int (0 : Int32)), .val (.int (own_f4 (nar .char (own_v0_6_0 p2)))), .unset] [(.int (own_v0_6_0 p2)), (.long q4), (.long q3), (.ref b68), (.ref b68)])) rfl (by rw [hml]; rfl) (Steps.refl _) (a := b68) (argsL := [(.long q3), (.long q4), (.int (own_v0_6_0 p2))]) (rest := [(.ref b68)]) (lenOf own_pd1 rfl) rfl (by show 2 * 0 + _ ≤ _; exact Nat.le_of_eq rfl) (hb hby at_79) (fun _ _ => ⟨rfl, e68, (by decide : 2 + 0 ≤ _), (by decide : 6 + 0 ≤ _)⟩)
      dsimp only [Pt.U, Pt.locs, Pt.cells, Pt.slots] at X79 l79 y79 z79 st79 hQ79
      subst l79 y79 z79
      obtain ⟨rfl, N79q, K79, f80, f81, f82, f83⟩ := hQ79
      have f84 : Exa Z T79.heap b51 "com/example/kelq/kelq/cli/Job$Stat" := f70.keep K79
      have f85 : Fld Z T79.heap b51 "com/example/kelq/kelq/cli/Job$Stat" "parent" "J" (.long q0) := f71.keep K79 (ninS (Nat.ne_of_lt lt69) nin0)
      have f86 : Fld Z T79.heap b51 "com/example/kelq/kelq/cli/Job$Stat" "start" "J" (.long q1) := f72.keep K79 (ninS (Nat.ne_of_lt lt69) nin0)
      have f87 : Fld Z T79.heap b51 "com/example/kelq/kelq/cli/Job$Stat" "state" "C" (.int (nar .char (own_v0_6_0 p2))) := f73.keep K79 (ninS (Nat.ne_of_lt lt69) nin0)
      have zs88 : n0 ≤ T79.heap.size := Nat.le_trans zs74 K79.1
      have K89 : Keep h0 T79.heap [] := K75.trans K79 (allS (Or.inr sz_b68) all0)
      have N90 := Fr.app N67 N79q
      obtain ⟨cq91, kq91, q91a, q91b, q91c⟩ := isOf hZ rfl f82
      obtain ⟨_, _, ⟨T91, L91, k91, n91⟩, -, X91, ⟨Lc91, hQ91, l91, y91, z91⟩, st91⟩ := X79.virtualBack hx (y := (⟨"com/example/kelq/kelq/cli/Job$Stat", "runs", "()Z"⟩ : MethodName)) (z := (⟨"com/example/kelq/kelq/cli/Job$Stat", "runs", "()Z"⟩ : MethodName)) hown (mvT hZ (hw _ (List.mem_of_getElem? (i := 21) rfl))) (mvT hZ (hw _ (List.mem_of_getElem? (i := 22) rfl))) (notFace_of_selects (args := #[]) (mvT hZ (hw _ (List.mem_of_getElem? (i := 24) rfl)))) (mvT hZ (hw _ (List.mem_of_getElem? (i := 24) rfl))) (mvT hZ (hw _ (List.mem_of_getElem? (i := 23) rfl))) (by decide) (backOf (W := 0) (own_rm4 l Z a0 hw [] b68 (nar .char (own_v0_6_0 p2)) T79.heap n0 zs88 f81) hZ (hw _ (List.mem_of_getElem? (i := 25) rfl)) (hw _ (List.mem_of_getElem? (i := 3) rfl)) (by decide) (by decide)) q91a q91c (g := (mkF m 82 #[.val (.long q0), .second, .val (.long q1), .second, .val (.int p2), .val (.long q3), .second, .val (.long q4), .second, .val (.int (own_v0_6_0 p2)), .val (.int (1 : Int32)), .val (.int (0 : Int32)), .val (.int (0 : Int32)), .val (.int (own_f4 (nar .char (own_v0_6_0 p2)))), .unset] [(.ref b68)])) rfl (by rw [hml]; rfl) (Steps.refl _) (argsL := []) (rest := []) (lenOf own_pd2 rfl) rfl (by show 2 * 0 + _ ≤ _; exact Nat.le_of_eq rfl) (hb hby at_82) (fun _ _ => ⟨rfl, rfl, (by decide : 2 + 0 ≤ _), (by decide : 6 + 0 ≤ _)⟩)
      dsimp only [Pt.U, Pt.locs, Pt.cells, Pt.slots] at X91 l91 y91 z91 st91 hQ91
      subst l91 y91 z91
      obtain ⟨rfl, N91q, e91⟩ := hQ91
      have N92 := Fr.app N90 N91q
      have pre93 : ∀ t, Steps p.tables e below (T91.setTop (mkF m 91 #[.val (.long q0), .second, .val (.long q1), .second, .val (.int p2), .val (.long q3), .second, .val (.long q4), .second, .val (.int (own_v0_6_0 p2)), .val (.int (1 : Int32)), .val (.int (0 : Int32)), .val (.int (0 : Int32)), .val (.int (own_f4 (nar .char (own_v0_6_0 p2)))), .val (.int (own_f4 (nar .char (own_v0_6_0 p2))))] [(.int (0 : Int32)), (.int (own_f4 (nar .char (own_v0_6_0 p2))))])) t → Steps p.tables e below (s₁.setTop (entryFrame m #[(.long q0), (.long q1), (.int p2), (.long q3), (.long q4)] maxLocals)) t := fun t k => pre3 t (by
          refine XS.icmpYes X0.here hx rfl (pc0 := 26) (pc' := 33) rfl (hb hby at_26) rfl (feq hc4).2 (by decide) (by decide) ?_
          show Steps p.tables e below (s₁.setTop (mkF m 33 #[.val (.long q0), .second, .val (.long q1), .second, .val (.int p2), .val (.long q3), .second, .val (.long q4), .second, .val (.int (own_v0_6_0 p2)), .val (.int (1 : Int32)), .unset, .unset, .unset, .unset] [])) _
          refine XS.iconst X0.here hx rfl (hb hby at_33) ?_
          show Steps p.tables e below (s₁.setTop (mkF m 34 #[.val (.long q0), .second, .val (.long q1), .second, .val (.int p2), .val (.long q3), .second, .val (.long q4), .second, .val (.int (own_v0_6_0 p2)), .val (.int (1 : Int32)), .unset, .unset, .unset, .unset] [(.int (0 : Int32))])) _
          refine XS.istore X0.here hx rfl (hb hby at_34) rfl (l' := #[.val (.long q0), .second, .val (.long q1), .second, .val (.int p2), .val (.long q3), .second, .val (.long q4), .second, .val (.int (own_v0_6_0 p2)), .val (.int (1 : Int32)), .val (.int (0 : Int32)), .unset, .unset, .unset]) rfl ?_
          show Steps p.tables e below (s₁.setTop (mkF m 36 #[.val (.long q0), .second, .val (.long q1), .second, .val (.int p2), .val (.long q3), .second, .val (.long q4), .second, .val (.int (own_v0_6_0 p2)), .val (.int (1 : Int32)), .val (.int (0 : Int32)), .unset, .unset, .unset] [])) _
          refine XS.iload X0.here hx rfl (hb hby at_36) rfl ?_
          show Steps p.tables e below (s₁.setTop (mkF m 38 #[.val (.long q0), .second, .val (.long q1), .second, .val (.int p2), .val (.long q3), .second, .val (.long q4), .second, .val (.int (own_v0_6_0 p2)), .val (.int (1 : Int32)), .val (.int (0 : Int32)), .unset, .unset, .unset] [(.int (1 : Int32))])) _
          refine XS.ifYes X0.here hx rfl (pc0 := 38) (pc' := 50) rfl (hb hby at_38) rfl ((if0 _ _).trans (feq (by decide : ¬ ((1 : Int32) = (0 : Int32)))).2) (by decide) (by decide) ?_
          show Steps p.tables e below (s₁.setTop (mkF m 50 #[.val (.long q0), .second, .val (.long q1), .second, .val (.int p2), .val (.long q3), .second, .val (.long q4), .second, .val (.int (own_v0_6_0 p2)), .val (.int (1 : Int32)), .val (.int (0 : Int32)), .unset, .unset, .unset] [])) _
          refine XS.iconst X0.here hx rfl (hb hby at_50) ?_
          show Steps p.tables e below (s₁.setTop (mkF m 51 #[.val (.long q0), .second, .val (.long q1), .second, .val (.int p2), .val (.long q3), .second, .val (.long q4), .second, .val (.int (own_v0_6_0 p2)), .val (.int (1 : Int32)), .val (.int (0 : Int32)), .unset, .unset, .unset] [(.int (0 : Int32))])) _
          refine XS.istore X0.here hx rfl (hb hby at_51) rfl (l' := #[.val (.long q0), .second, .val (.long q1), .second, .val (.int p2), .val (.long q3), .second, .val (.long q4), .second, .val (.int (own_v0_6_0 p2)), .val (.int (1 : Int32)), .val (.int (0 : Int32)), .val (.int (0 : Int32)), .unset, .unset]) rfl ?_
          show Steps p.tables e below (s₁.setTop (mkF m 53 #[.val (.long q0), .second, .val (.long q1), .second, .val (.int p2), .val (.long q3), .second, .val (.long q4), .second, .val (.int (own_v0_6_0 p2)), .val (.int (1 : Int32)), .val (.int (0 : Int32)), .val (.int (0 : Int32)), .unset, .unset] [])) _
          refine st51 _ ?_
          show Steps p.tables e below (T51.setTop (mkF m 56 #[.val (.long q0), .second, .val (.long q1), .second, .val (.int p2), .val (.long q3), .second, .val (.long q4), .second, .val (.int (own_v0_6_0 p2)), .val (.int (1 : Int32)), .val (.int (0 : Int32)), .val (.int (0 : Int32)), .unset, .unset] [(.ref b51)])) _
          refine XS.dup X51.here hx rfl (hb hby at_56) rfl rfl ?_
          show Steps p.tables e below (T51.setTop (mkF m 57 #[.val (.long q0), .second, .val (.long q1), .second, .val (.int p2), .val (.long q3), .second, .val (.long q4), .second, .val (.int (own_v0_6_0 p2)), .val (.int (1 : Int32)), .val (.int (0 : Int32)), .val (.int (0 : Int32)), .unset, .unset] [(.ref b51), (.ref b51)])) _
          refine XS.lloadN X51.here hx rfl (hb hby at_57) rfl ?_
          show Steps p.tables e below (T51.setTop (mkF m 58 #[.val (.long q0), .second, .val (.long q1), .second, .val (.int p2), .val (.long q3), .second, .val (.long q4), .second, .val (.int (own_v0_6_0 p2)), .val (.int (1 : Int32)), .val (.int (0 : Int32)), .val (.int (0 : Int32)), .unset, .unset] [(.long q0), (.ref b51), (.ref b51)])) _
          refine XS.lloadN X51.here hx rfl (hb hby at_58) rfl ?_
          show Steps p.tables e below (T51.setTop (mkF m 59 #[.val (.long q0), .second, .val (.long q1), .second, .val (.int p2), .val (.long q3), .second, .val (.long q4), .second, .val (.int (own_v0_6_0 p2)), .val (.int (1 : Int32)), .val (.int (0 : Int32)), .val (.int (0 : Int32)), .unset, .unset] [(.long q1), (.long q0), (.ref b51), (.ref b51)])) _
          refine XS.iload X51.here hx rfl (hb hby at_59) rfl ?_
          show Steps p.tables e below (T51.setTop (mkF m 61 #[.val (.long q0), .second, .val (.long q1), .second, .val (.int p2), .val (.long q3), .second, .val (.long q4), .second, .val (.int (own_v0_6_0 p2)), .val (.int (1 : Int32)), .val (.int (0 : Int32)), .val (.int (0 : Int32)), .unset, .unset] [(.int (own_v0_6_0 p2)), (.long q1), (.long q0), (.ref b51), (.ref b51)])) _
          refine st58.trans ?_
          show Steps p.tables e below (T58.setTop (mkF m 64 #[.val (.long q0), .second, .val (.long q1), .second, .val (.int p2), .val (.long q3), .second, .val (.long q4), .second, .val (.int (own_v0_6_0 p2)), .val (.int (1 : Int32)), .val (.int (0 : Int32)), .val (.int (0 : Int32)), .unset, .unset] [(.ref b51)])) _
          refine st66.trans ?_
          show Steps p.tables e below (T66.setTop (mkF m 67 #[.val (.long q0), .second, .val (.long q1), .second, .val (.int p2), .val (.long q3), .second, .val (.long q4), .second, .val (.int (own_v0_6_0 p2)), .val (.int (1 : Int32)), .val (.int (0 : Int32)), .val (.int (0 : Int32)), .unset, .unset] [(.int (own_f4 (nar .char (own_v0_6_0 p2))))])) _
          refine XS.istore X66.here hx rfl (hb hby at_67) rfl (l' := #[.val (.long q0), .second, .val (.long q1), .second, .val (.int p2), .val (.long q3), .second, .val (.long q4), .second, .val (.int (own_v0_6_0 p2)), .val (.int (1 : Int32)), .val (.int (0 : Int32)), .val (.int (0 : Int32)), .val (.int (own_f4 (nar .char (own_v0_6_0 p2)))), .unset]) rfl ?_
          show Steps p.tables e below (T66.setTop (mkF m 69 #[.val (.long q0), .second, .val (.long q1), .second, .val (.int p2), .val (.long q3), .second, .val (.long q4), .second, .val (.int (own_v0_6_0 p2)), .val (.int (1 : Int32)), .val (.int (0 : Int32)), .val (.int (0 : Int32)), .val (.int (own_f4 (nar .char (own_v0_6_0 p2)))), .unset] [])) _
          refine st68 _ ?_
          show Steps p.tables e below (T68.setTop (mkF m 72 #[.val (.long q0), .second, .val (.long q1), .second, .val (.int p2), .val (.long q3), .second, .val (.long q4), .second, .val (.int (own_v0_6_0 p2)), .val (.int (1 : Int32)), .val (.int (0 : Int32)), .val (.int (0 : Int32)), .val (.int (own_f4 (nar .char (own_v0_6_0 p2)))), .unset] [(.ref b68)])) _
          refine XS.dup X68.here hx rfl (hb hby at_72) rfl rfl ?_
          show Steps p.tables e below (T68.setTop (mkF m 73 #[.val (.long q0), .second, .val (.long q1), .second, .val (.int p2), .val (.long q3), .second, .val (.long q4), .second, .val (.int (own_v0_6_0 p2)), .val (.int (1 : Int32)), .val (.int (0 : Int32)), .val (.int (0 : Int32)), .val (.int (own_f4 (nar .char (own_v0_6_0 p2)))), .unset] [(.ref b68), (.ref b68)])) _
          refine XS.lload X68.here hx rfl (hb hby at_73) rfl ?_
          show Steps p.tables e below (T68.setTop (mkF m 75 #[.val (.long q0), .second, .val (.long q1), .second, .val (.int p2), .val (.long q3), .second, .val (.long q4), .second, .val (.int (own_v0_6_0 p2)), .val (.int (1 : Int32)), .val (.int (0 : Int32)), .val (.int (0 : Int32)), .val (.int (own_f4 (nar .char (own_v0_6_0 p2)))), .unset] [(.long q3), (.ref b68), (.ref b68)])) _
          refine XS.lload X68.here hx rfl (hb hby at_75) rfl ?_
          show Steps p.tables e below (T68.setTop (mkF m 77 #[.val (.long q0), .second, .val (.long q1), .second, .val (.int p2), .val (.long q3), .second, .val (.long q4), .second, .val (.int (own_v0_6_0 p2)), .val (.int (1 : Int32)), .val (.int (0 : Int32)), .val (.int (0 : Int32)), .val (.int (own_f4 (nar .char (own_v0_6_0 p2)))), .unset] [(.long q4), (.long q3), (.ref b68), (.ref b68)])) _
          refine XS.iload X68.here hx rfl (hb hby at_77) rfl ?_
          show Steps p.tables e below (T68.setTop (mkF m 79 #[.val (.long q0), .second, .val (.long q1), .second, .val (.int p2), .val (.long q3), .second, .val (.long q4), .second, .val (.int (own_v0_6_0 p2)), .val (.int (1 : Int32)), .val (.int (0 : Int32)), .val (.int (0 : Int32)), .val (.int (own_f4 (nar .char (own_v0_6_0 p2)))), .unset] [(.int (own_v0_6_0 p2)), (.long q4), (.long q3), (.ref b68), (.ref b68)])) _
          refine st79.trans ?_
          show Steps p.tables e below (T79.setTop (mkF m 82 #[.val (.long q0), .second, .val (.long q1), .second, .val (.int p2), .val (.long q3), .second, .val (.long q4), .second, .val (.int (own_v0_6_0 p2)), .val (.int (1 : Int32)), .val (.int (0 : Int32)), .val (.int (0 : Int32)), .val (.int (own_f4 (nar .char (own_v0_6_0 p2)))), .unset] [(.ref b68)])) _
          refine st91.trans ?_
          show Steps p.tables e below (T91.setTop (mkF m 85 #[.val (.long q0), .second, .val (.long q1), .second, .val (.int p2), .val (.long q3), .second, .val (.long q4), .second, .val (.int (own_v0_6_0 p2)), .val (.int (1 : Int32)), .val (.int (0 : Int32)), .val (.int (0 : Int32)), .val (.int (own_f4 (nar .char (own_v0_6_0 p2)))), .unset] [(.int (own_f4 (nar .char (own_v0_6_0 p2))))])) _
          refine XS.istore X91.here hx rfl (hb hby at_85) rfl (l' := #[.val (.long q0), .second, .val (.long q1), .second, .val (.int p2), .val (.long q3), .second, .val (.long q4), .second, .val (.int (own_v0_6_0 p2)), .val (.int (1 : Int32)), .val (.int (0 : Int32)), .val (.int (0 : Int32)), .val (.int (own_f4 (nar .char (own_v0_6_0 p2)))), .val (.int (own_f4 (nar .char (own_v0_6_0 p2))))]) rfl ?_
          show Steps p.tables e below (T91.setTop (mkF m 87 #[.val (.long q0), .second, .val (.long q1), .second, .val (.int p2), .val (.long q3), .second, .val (.long q4), .second, .val (.int (own_v0_6_0 p2)), .val (.int (1 : Int32)), .val (.int (0 : Int32)), .val (.int (0 : Int32)), .val (.int (own_f4 (nar .char (own_v0_6_0 p2)))), .val (.int (own_f4 (nar .char (own_v0_6_0 p2))))] [])) _
          refine XS.iload X91.here hx rfl (hb hby at_87) rfl ?_
          show Steps p.tables e below (T91.setTop (mkF m 89 #[.val (.long q0), .second, .val (.long q1), .second, .val (.int p2), .val (.long q3), .second, .val (.long q4), .second, .val (.int (own_v0_6_0 p2)), .val (.int (1 : Int32)), .val (.int (0 : Int32)), .val (.int (0 : Int32)), .val (.int (own_f4 (nar .char (own_v0_6_0 p2)))), .val (.int (own_f4 (nar .char (own_v0_6_0 p2))))] [(.int (own_f4 (nar .char (own_v0_6_0 p2))))])) _
          refine XS.iload X91.here hx rfl (hb hby at_89) rfl ?_
          show Steps p.tables e below (T91.setTop (mkF m 91 #[.val (.long q0), .second, .val (.long q1), .second, .val (.int p2), .val (.long q3), .second, .val (.long q4), .second, .val (.int (own_v0_6_0 p2)), .val (.int (1 : Int32)), .val (.int (0 : Int32)), .val (.int (0 : Int32)), .val (.int (own_f4 (nar .char (own_v0_6_0 p2)))), .val (.int (own_f4 (nar .char (own_v0_6_0 p2))))] [(.int (0 : Int32)), (.int (own_f4 (nar .char (own_v0_6_0 p2))))])) _
          exact k)
      by_cases hc94 : (own_f4 (nar .char (own_v0_6_0 p2))) = (0 : Int32)
      · have pre95 : ∀ t, Steps p.tables e below (T91.setTop (mkF m 106 #[.val (.long q0), .second, .val (.long q1), .second, .val (.int p2), .val (.long q3), .second, .val (.long q4), .second, .val (.int (own_v0_6_0 p2)), .val (.int (1 : Int32)), .val (.int (0 : Int32)), .val (.int (0 : Int32)), .val (.int (own_f4 (nar .char (own_v0_6_0 p2)))), .val (.int (own_f4 (nar .char (own_v0_6_0 p2))))] [(.int (1 : Int32))])) t → Steps p.tables e below (s₁.setTop (entryFrame m #[(.long q0), (.long q1), (.int p2), (.long q3), (.long q4)] maxLocals)) t := fun t k => pre93 t (by
            refine XS.icmpNo X91.here hx rfl (hb hby at_91) rfl (teq hc94).2 ?_
            show Steps p.tables e below (T91.setTop (mkF m 94 #[.val (.long q0), .second, .val (.long q1), .second, .val (.int p2), .val (.long q3), .second, .val (.long q4), .second, .val (.int (own_v0_6_0 p2)), .val (.int (1 : Int32)), .val (.int (0 : Int32)), .val (.int (0 : Int32)), .val (.int (own_f4 (nar .char (own_v0_6_0 p2)))), .val (.int (own_f4 (nar .char (own_v0_6_0 p2))))] [])) _
            refine XS.iload X91.here hx rfl (hb hby at_94) rfl ?_
            show Steps p.tables e below (T91.setTop (mkF m 96 #[.val (.long q0), .second, .val (.long q1), .second, .val (.int p2), .val (.long q3), .second, .val (.long q4), .second, .val (.int (own_v0_6_0 p2)), .val (.int (1 : Int32)), .val (.int (0 : Int32)), .val (.int (0 : Int32)), .val (.int (own_f4 (nar .char (own_v0_6_0 p2)))), .val (.int (own_f4 (nar .char (own_v0_6_0 p2))))] [(.int (own_f4 (nar .char (own_v0_6_0 p2))))])) _
            refine XS.iload X91.here hx rfl (hb hby at_96) rfl ?_
            show Steps p.tables e below (T91.setTop (mkF m 98 #[.val (.long q0), .second, .val (.long q1), .second, .val (.int p2), .val (.long q3), .second, .val (.long q4), .second, .val (.int (own_v0_6_0 p2)), .val (.int (1 : Int32)), .val (.int (0 : Int32)), .val (.int (0 : Int32)), .val (.int (own_f4 (nar .char (own_v0_6_0 p2)))), .val (.int (own_f4 (nar .char (own_v0_6_0 p2))))] [(.int (0 : Int32)), (.int (own_f4 (nar .char (own_v0_6_0 p2))))])) _
            refine XS.icmpNo X91.here hx rfl (hb hby at_98) rfl (teq hc94).2 ?_
            show Steps p.tables e below (T91.setTop (mkF m 101 #[.val (.long q0), .second, .val (.long q1), .second, .val (.int p2), .val (.long q3), .second, .val (.long q4), .second, .val (.int (own_v0_6_0 p2)), .val (.int (1 : Int32)), .val (.int (0 : Int32)), .val (.int (0 : Int32)), .val (.int (own_f4 (nar .char (own_v0_6_0 p2)))), .val (.int (own_f4 (nar .char (own_v0_6_0 p2))))] [])) _
            refine XS.iconst X91.here hx rfl (hb hby at_101) ?_
            show Steps p.tables e below (T91.setTop (mkF m 102 #[.val (.long q0), .second, .val (.long q1), .second, .val (.int p2), .val (.long q3), .second, .val (.long q4), .second, .val (.int (own_v0_6_0 p2)), .val (.int (1 : Int32)), .val (.int (0 : Int32)), .val (.int (0 : Int32)), .val (.int (own_f4 (nar .char (own_v0_6_0 p2)))), .val (.int (own_f4 (nar .char (own_v0_6_0 p2))))] [(.int (1 : Int32))])) _
            refine XS.goto X91.here hx rfl (pc0 := 102) (pc' := 106) rfl (hb hby at_102) (by decide) (by decide) ?_
            show Steps p.tables e below (T91.setTop (mkF m 106 #[.val (.long q0), .second, .val (.long q1), .second, .val (.int p2), .val (.long q3), .second, .val (.long q4), .second, .val (.int (own_v0_6_0 p2)), .val (.int (1 : Int32)), .val (.int (0 : Int32)), .val (.int (0 : Int32)), .val (.int (own_f4 (nar .char (own_v0_6_0 p2)))), .val (.int (own_f4 (nar .char (own_v0_6_0 p2))))] [(.int (1 : Int32))])) _
            exact k)
        obtain ⟨fs, hr, hrun, hended, hW, hsame⟩ := X91.leave (v := some (.int (1 : Int32))) (fun h => by rw [Bd.returns] at h; cases h)
        refine ⟨_, _, pre95 _ ?_, hrun, hended, _, _, rfl, ?_, ⟨_, rfl⟩, hW, hsame.mono (by decide) (by decide)⟩
        · show Steps p.tables e below (T91.setTop (mkF m 106 #[.val (.long q0), .second, .val (.long q1), .second, .val (.int p2), .val (.long q3), .second, .val (.long q4), .second, .val (.int (own_v0_6_0 p2)), .val (.int (1 : Int32)), .val (.int (0 : Int32)), .val (.int (0 : Int32)), .val (.int (own_f4 (nar .char (own_v0_6_0 p2)))), .val (.int (own_f4 (nar .char (own_v0_6_0 p2))))] [(.int (1 : Int32))])) _
          exact retN X91 hx (t := .boolean) Bd.returns (by simp) (hb hby at_106) hr
        · show own_Q0 Z q0 q1 p2 q3 q4 h0 n0 _ T91.heap _; exact ⟨(by show some (Value.int _) = some (.int (own_f0 p2)); unfold own_f0; rw [if_pos hc2, if_neg hc4, if_pos hc94]), N92⟩
      · have pre96 : ∀ t, Steps p.tables e below (T91.setTop (mkF m 106 #[.val (.long q0), .second, .val (.long q1), .second, .val (.int p2), .val (.long q3), .second, .val (.long q4), .second, .val (.int (own_v0_6_0 p2)), .val (.int (1 : Int32)), .val (.int (0 : Int32)), .val (.int (0 : Int32)), .val (.int (own_f4 (nar .char (own_v0_6_0 p2)))), .val (.int (own_f4 (nar .char (own_v0_6_0 p2))))] [(.int (0 : Int32))])) t → Steps p.tables e below (s₁.setTop (entryFrame m #[(.long q0), (.long q1), (.int p2), (.long q3), (.long q4)] maxLocals)) t := fun t k => pre93 t (by
            refine XS.icmpYes X91.here hx rfl (pc0 := 91) (pc' := 105) rfl (hb hby at_91) rfl (feq hc94).2 (by decide) (by decide) ?_
            show Steps p.tables e below (T91.setTop (mkF m 105 #[.val (.long q0), .second, .val (.long q1), .second, .val (.int p2), .val (.long q3), .second, .val (.long q4), .second, .val (.int (own_v0_6_0 p2)), .val (.int (1 : Int32)), .val (.int (0 : Int32)), .val (.int (0 : Int32)), .val (.int (own_f4 (nar .char (own_v0_6_0 p2)))), .val (.int (own_f4 (nar .char (own_v0_6_0 p2))))] [])) _
            refine XS.iconst X91.here hx rfl (hb hby at_105) ?_
            show Steps p.tables e below (T91.setTop (mkF m 106 #[.val (.long q0), .second, .val (.long q1), .second, .val (.int p2), .val (.long q3), .second, .val (.long q4), .second, .val (.int (own_v0_6_0 p2)), .val (.int (1 : Int32)), .val (.int (0 : Int32)), .val (.int (0 : Int32)), .val (.int (own_f4 (nar .char (own_v0_6_0 p2)))), .val (.int (own_f4 (nar .char (own_v0_6_0 p2))))] [(.int (0 : Int32))])) _
            exact k)
        obtain ⟨fs, hr, hrun, hended, hW, hsame⟩ := X91.leave (v := some (.int (0 : Int32))) (fun h => by rw [Bd.returns] at h; cases h)
        refine ⟨_, _, pre96 _ ?_, hrun, hended, _, _, rfl, ?_, ⟨_, rfl⟩, hW, hsame.mono (by decide) (by decide)⟩
        · show Steps p.tables e below (T91.setTop (mkF m 106 #[.val (.long q0), .second, .val (.long q1), .second, .val (.int p2), .val (.long q3), .second, .val (.long q4), .second, .val (.int (own_v0_6_0 p2)), .val (.int (1 : Int32)), .val (.int (0 : Int32)), .val (.int (0 : Int32)), .val (.int (own_f4 (nar .char (own_v0_6_0 p2)))), .val (.int (own_f4 (nar .char (own_v0_6_0 p2))))] [(.int (0 : Int32))])) _
          exact retN X91 hx (t := .boolean) Bd.returns (by simp) (hb hby at_106) hr
        · show own_Q0 Z q0 q1 p2 q3 q4 h0 n0 _ T91.heap _; exact ⟨(by show some (Value.int _) = some (.int (own_f0 p2)); unfold own_f0; rw [if_pos hc2, if_neg hc4, if_neg hc94]), N92⟩
  · have pre97 : ∀ t, Steps p.tables e below (s₁.setTop (mkF m 26 #[.val (.long q0), .second, .val (.long q1), .second, .val (.int p2), .val (.long q3), .second, .val (.long q4), .second, .val (.int (own_v0_6_0 p2)), .val (.int (0 : Int32)), .unset, .unset, .unset, .unset] [(.int (88 : Int32)), (.int (own_v0_6_0 p2))])) t → Steps p.tables e below (s₁.setTop (entryFrame m #[(.long q0), (.long q1), (.int p2), (.long q3), (.long q4)] maxLocals)) t := fun t k => pre1 t (by
        refine XS.icmpYes X0.here hx rfl (pc0 := 12) (pc' := 19) rfl (hb hby at_12) rfl (feq hc2).2 (by decide) (by decide) ?_
        show Steps p.tables e below (s₁.setTop (mkF m 19 #[.val (.long q0), .second, .val (.long q1), .second, .val (.int p2), .val (.long q3), .second, .val (.long q4), .second, .val (.int (own_v0_6_0 p2)), .unset, .unset, .unset, .unset, .unset] [])) _
        refine XS.iconst X0.here hx rfl (hb hby at_19) ?_
        show Steps p.tables e below (s₁.setTop (mkF m 20 #[.val (.long q0), .second, .val (.long q1), .second, .val (.int p2), .val (.long q3), .second, .val (.long q4), .second, .val (.int (own_v0_6_0 p2)), .unset, .unset, .unset, .unset, .unset] [(.int (0 : Int32))])) _
        refine XS.istore X0.here hx rfl (hb hby at_20) rfl (l' := #[.val (.long q0), .second, .val (.long q1), .second, .val (.int p2), .val (.long q3), .second, .val (.long q4), .second, .val (.int (own_v0_6_0 p2)), .val (.int (0 : Int32)), .unset, .unset, .unset, .unset]) rfl ?_
        show Steps p.tables e below (s₁.setTop (mkF m 22 #[.val (.long q0), .second, .val (.long q1), .second, .val (.int p2), .val (.long q3), .second, .val (.long q4), .second, .val (.int (own_v0_6_0 p2)), .val (.int (0 : Int32)), .unset, .unset, .unset, .unset] [])) _
        refine XS.iload X0.here hx rfl (hb hby at_22) rfl ?_
        show Steps p.tables e below (s₁.setTop (mkF m 24 #[.val (.long q0), .second, .val (.long q1), .second, .val (.int p2), .val (.long q3), .second, .val (.long q4), .second, .val (.int (own_v0_6_0 p2)), .val (.int (0 : Int32)), .unset, .unset, .unset, .unset] [(.int (own_v0_6_0 p2))])) _
        refine XS.bipush X0.here hx rfl (hb hby at_24) ?_
        show Steps p.tables e below (s₁.setTop (mkF m 26 #[.val (.long q0), .second, .val (.long q1), .second, .val (.int p2), .val (.long q3), .second, .val (.long q4), .second, .val (.int (own_v0_6_0 p2)), .val (.int (0 : Int32)), .unset, .unset, .unset, .unset] [(.int (88 : Int32)), (.int (own_v0_6_0 p2))])) _
        exact k)
    by_cases hc98 : (own_v0_6_0 p2) = (88 : Int32)
    · obtain ⟨T99, h99, X99, e99, E99, A99, D99, -, st99⟩ := newO X0 hx hZ hown (hw _ (List.mem_of_getElem? (i := 1) rfl)) (hw _ (List.mem_of_getElem? (i := 2) rfl)) (hw _ (List.mem_of_getElem? (i := 3) rfl)) e0 (g := (mkF m 53 #[.val (.long q0), .second, .val (.long q1), .second, .val (.int p2), .val (.long q3), .second, .val (.long q4), .second, .val (.int (own_v0_6_0 p2)), .val (.int (0 : Int32)), .val (.int (1 : Int32)), .val (.int (0 : Int32)), .unset, .unset] [])) rfl (hb hby at_53) (by decide) (by decide)
      obtain ⟨b99, g99⟩ : ∃ z, z = h0.size := ⟨_, rfl⟩
      rw [← g99] at A99 D99 st99
      have g_b99 : n0 ≤ b99 := Nat.le_trans Z0 (Nat.le_of_eq g99.symm)
      have K100 : Keep h0 h0 [] := Keep.refl h0 []
      have sz_b99 : h0.size ≤ b99 := Nat.le_trans K100.1 (Nat.le_of_eq g99.symm)
      have zs101 : n0 ≤ h99.size := Nat.le_trans Z0 E99.1
      have K102 : Keep h0 h99 [] := K100.ext E99
      have f103 : Fld Z h99 b99 "com/example/kelq/kelq/cli/Job$Stat" "parent" "J" (.long (0 : Int64)) := D99 (Or.inr (hw _ (List.mem_of_getElem? (i := 16) rfl))) (ty := .long) (by decide)
      have f104 : Fld Z h99 b99 "com/example/kelq/kelq/cli/Job$Stat" "start" "J" (.long (0 : Int64)) := D99 (Or.inr (hw _ (List.mem_of_getElem? (i := 18) rfl))) (ty := .long) (by decide)
      have f105 : Fld Z h99 b99 "com/example/kelq/kelq/cli/Job$Stat" "state" "C" (.int (0 : Int32)) := D99 (Or.inr (hw _ (List.mem_of_getElem? (i := 20) rfl))) (ty := .char) (by decide)
      obtain ⟨_, _, ⟨T106, L106, k106, n106⟩, -, X106, ⟨Lc106, hQ106, l106, y106, z106⟩, st106⟩ := X99.specialBack hx (y := (⟨"com/example/kelq/kelq/cli/Job$Stat", "<init>", "(JJC)V"⟩ : MethodName)) rfl hown (mvT hZ (hw _ (List.mem_of_getElem? (i := 4) rfl))) (mvT hZ (hw _ (List.mem_of_getElem? (i := 5) rfl))) (mvT hZ (hw _ (List.mem_of_getElem? (i := 6) rfl))) (by decide) (backOf (W := 1) (own_rm1 l Z a0 hw [] b99 q0 q1 (own_v0_6_0 p2) (.long (0 : Int64)) (.int (0 : Int32)) (.long (0 : Int64)) h99 n0 zs101 f104 f105 A99 f103 g_b99) hZ (hw _ (List.mem_of_getElem? (i := 6) rfl)) (hw _ (List.mem_of_getElem? (i := 3) rfl)) (by decide) (by decide)) (g := (mkF m 61 #[.val (.long q0), .second, .val (.long q1), .second, .val (.int p2), .val (.long q3), .second, .val (.long q4), .second, .val (.int (own_v0_6_0 p2)), .val (.int (0 : Int32)), .val (.int (1 : Int32)), .val (.int (0 : Int32)), .unset, .unset] [(.int (own_v0_6_0 p2)), (.long q1), (.long q0), (.ref b99), (.ref b99)])) rfl (by rw [hml]; rfl) (Steps.refl _) (a := b99) (argsL := [(.long q0), (.long q1), (.int (own_v0_6_0 p2))]) (rest := [(.ref b99)]) (lenOf own_pd1 rfl) rfl (by show 2 * 0 + _ ≤ _; exact Nat.le_of_eq rfl) (hb hby at_61) (fun _ _ => ⟨rfl, e99, (by decide : 1 + 0 ≤ _), (by decide : 3 + 0 ≤ _)⟩)
      dsimp only [Pt.U, Pt.locs, Pt.cells, Pt.slots] at X106 l106 y106 z106 st106 hQ106
      subst l106 y106 z106
      obtain ⟨rfl, N106q, K106, f107, f108, f109, f110⟩ := hQ106
      have zs111 : n0 ≤ T106.heap.size := Nat.le_trans zs101 K106.1
      have K112 : Keep h0 T106.heap [] := K102.trans K106 (allS (Or.inr sz_b99) all0)
      have N113 := Fr.app N0 N106q
      obtain ⟨cq114, kq114, q114a, q114b, q114c⟩ := isOf hZ rfl f109
      obtain ⟨_, _, ⟨T114, L114, k114, n114⟩, -, X114, ⟨Lc114, hQ114, l114, y114, z114⟩, st114⟩ := X106.virtualBack hx (y := (⟨"com/example/kelq/kelq/cli/Job$Stat", "runs", "()Z"⟩ : MethodName)) (z := (⟨"com/example/kelq/kelq/cli/Job$Stat", "runs", "()Z"⟩ : MethodName)) hown (mvT hZ (hw _ (List.mem_of_getElem? (i := 21) rfl))) (mvT hZ (hw _ (List.mem_of_getElem? (i := 22) rfl))) (notFace_of_selects (args := #[]) (mvT hZ (hw _ (List.mem_of_getElem? (i := 24) rfl)))) (mvT hZ (hw _ (List.mem_of_getElem? (i := 24) rfl))) (mvT hZ (hw _ (List.mem_of_getElem? (i := 23) rfl))) (by decide) (backOf (W := 0) (own_rm4 l Z a0 hw [] b99 (nar .char (own_v0_6_0 p2)) T106.heap n0 zs111 f108) hZ (hw _ (List.mem_of_getElem? (i := 25) rfl)) (hw _ (List.mem_of_getElem? (i := 3) rfl)) (by decide) (by decide)) q114a q114c (g := (mkF m 64 #[.val (.long q0), .second, .val (.long q1), .second, .val (.int p2), .val (.long q3), .second, .val (.long q4), .second, .val (.int (own_v0_6_0 p2)), .val (.int (0 : Int32)), .val (.int (1 : Int32)), .val (.int (0 : Int32)), .unset, .unset] [(.ref b99)])) rfl (by rw [hml]; rfl) (Steps.refl _) (argsL := []) (rest := []) (lenOf own_pd2 rfl) rfl (by show 2 * 0 + _ ≤ _; exact Nat.le_of_eq rfl) (hb hby at_64) (fun _ _ => ⟨rfl, rfl, (by decide : 1 + 0 ≤ _), (by decide : 3 + 0 ≤ _)⟩)
      dsimp only [Pt.U, Pt.locs, Pt.cells, Pt.slots] at X114 l114 y114 z114 st114 hQ114
      subst l114 y114 z114
      obtain ⟨rfl, N114q, e114⟩ := hQ114
      have N115 := Fr.app N113 N114q
      obtain ⟨T116, h116, X116, e116, E116, A116, D116, -, st116⟩ := newO X114 hx hZ hown (hw _ (List.mem_of_getElem? (i := 1) rfl)) (hw _ (List.mem_of_getElem? (i := 2) rfl)) (hw _ (List.mem_of_getElem? (i := 3) rfl)) e114 (g := (mkF m 69 #[.val (.long q0), .second, .val (.long q1), .second, .val (.int p2), .val (.long q3), .second, .val (.long q4), .second, .val (.int (own_v0_6_0 p2)), .val (.int (0 : Int32)), .val (.int (1 : Int32)), .val (.int (0 : Int32)), .val (.int (own_f4 (nar .char (own_v0_6_0 p2)))), .unset] [])) rfl (hb hby at_69) (by decide) (by decide)
      obtain ⟨b116, g116⟩ : ∃ z, z = T106.heap.size := ⟨_, rfl⟩
      rw [← g116] at A116 D116 st116
      have g_b116 : n0 ≤ b116 := Nat.le_trans zs111 (Nat.le_of_eq g116.symm)
      have sz_b116 : h0.size ≤ b116 := Nat.le_trans K112.1 (Nat.le_of_eq g116.symm)
      have lt117 : b99 < b116 := Nat.lt_of_lt_of_le f108.lt (Nat.le_of_eq g116.symm)
      have f118 : Exa Z h116 b99 "com/example/kelq/kelq/cli/Job$Stat" := f109.ext E116
      have f119 : Fld Z h116 b99 "com/example/kelq/kelq/cli/Job$Stat" "parent" "J" (.long q0) := f110.ext E116
      have f120 : Fld Z h116 b99 "com/example/kelq/kelq/cli/Job$Stat" "start" "J" (.long q1) := f107.ext E116
      have f121 : Fld Z h116 b99 "com/example/kelq/kelq/cli/Job$Stat" "state" "C" (.int (nar .char (own_v0_6_0 p2))) := f108.ext E116
      have zs122 : n0 ≤ h116.size := Nat.le_trans zs111 E116.1
      have K123 : Keep h0 h116 [] := K112.ext E116
      have f124 : Fld Z h116 b116 "com/example/kelq/kelq/cli/Job$Stat" "parent" "J" (.long (0 : Int64)) := D116 (Or.inr (hw _ (List.mem_of_getElem? (i := 16) rfl))) (ty := .long) (by decide)
      have f125 : Fld Z h116 b116 "com/example/kelq/kelq/cli/Job$Stat" "start" "J" (.long (0 : Int64)) := D116 (Or.inr (hw _ (List.mem_of_getElem? (i := 18) rfl))) (ty := .long) (by decide)
      have f126 : Fld Z h116 b116 "com/example/kelq/kelq/cli/Job$Stat" "state" "C" (.int (0 : Int32)) := D116 (Or.inr (hw _ (List.mem_of_getElem? (i := 20) rfl))) (ty := .char) (by decide)
      obtain ⟨_, _, ⟨T127, L127, k127, n127⟩, -, X127, ⟨Lc127, hQ127, l127, y127, z127⟩, st127⟩ := X116.specialBack hx (y := (⟨"com/example/kelq/kelq/cli/Job$Stat", "<init>", "(JJC)V"⟩ : MethodName)) rfl hown (mvT hZ (hw _ (List.mem_of_getElem? (i := 4) rfl))) (mvT hZ (hw _ (List.mem_of_getElem? (i := 5) rfl))) (mvT hZ (hw _ (List.mem_of_getElem? (i := 6) rfl))) (by decide) (backOf (W := 1) (own_rm1 l Z a0 hw [] b116 q3 q4 (own_v0_6_0 p2) (.long (0 : Int64)) (.int (0 : Int32)) (.long (0 : Int64)) h116 n0 zs122 f125 f126 A116 f124 g_b116) hZ (hw _ (List.mem_of_getElem? (i := 6) rfl)) (hw _ (List.mem_of_getElem? (i := 3) rfl)) (by decide) (by decide)) (g := (mkF m 79 #[.val (.long q0), .second, .val (.long q1), .second, .val (.int p2), .val (.long q3), .second, .val (.long q4), .second, .val (.int (own_v0_6_0 p2)), .val (.int (0 : Int32)), .val (.int (1 : Int32)), .val (.int (0 : Int32)), .val (.int (own_f4 (nar .char (own_v0_6_0 p2)))), .unset] [(.int (own_v0_6_0 p2)), (.long q4), (.long q3), (.ref b116), (.ref b116)])) rfl (by rw [hml]; rfl) (Steps.refl _) (a := b116) (argsL := [(.long q3), (.long q4), (.int (own_v0_6_0 p2))]) (rest := [(.ref b116)]) (lenOf own_pd1 rfl) rfl (by show 2 * 0 + _ ≤ _; exact Nat.le_of_eq rfl) (hb hby at_79) (fun _ _ => ⟨rfl, e116, (by decide : 2 + 0 ≤ _), (by decide : 6 + 0 ≤ _)⟩)
      dsimp only [Pt.U, Pt.locs, Pt.cells, Pt.slots] at X127 l127 y127 z127 st127 hQ127
      subst l127 y127 z127
      obtain ⟨rfl, N127q, K127, f128, f129, f130, f131⟩ := hQ127
      have f132 : Exa Z T127.heap b99 "com/example/kelq/kelq/cli/Job$Stat" := f118.keep K127
      have f133 : Fld Z T127.heap b99 "com/example/kelq/kelq/cli/Job$Stat" "parent" "J" (.long q0) := f119.keep K127 (ninS (Nat.ne_of_lt lt117) nin0)
      have f134 : Fld Z T127.heap b99 "com/example/kelq/kelq/cli/Job$Stat" "start" "J" (.long q1) := f120.keep K127 (ninS (Nat.ne_of_lt lt117) nin0)
      have f135 : Fld Z T127.heap b99 "com/example/kelq/kelq/cli/Job$Stat" "state" "C" (.int (nar .char (own_v0_6_0 p2))) := f121.keep K127 (ninS (Nat.ne_of_lt lt117) nin0)
      have zs136 : n0 ≤ T127.heap.size := Nat.le_trans zs122 K127.1
      have K137 : Keep h0 T127.heap [] := K123.trans K127 (allS (Or.inr sz_b116) all0)
      have N138 := Fr.app N115 N127q
      obtain ⟨cq139, kq139, q139a, q139b, q139c⟩ := isOf hZ rfl f130
      obtain ⟨_, _, ⟨T139, L139, k139, n139⟩, -, X139, ⟨Lc139, hQ139, l139, y139, z139⟩, st139⟩ := X127.virtualBack hx (y := (⟨"com/example/kelq/kelq/cli/Job$Stat", "runs", "()Z"⟩ : MethodName)) (z := (⟨"com/example/kelq/kelq/cli/Job$Stat", "runs", "()Z"⟩ : MethodName)) hown (mvT hZ (hw _ (List.mem_of_getElem? (i := 21) rfl))) (mvT hZ (hw _ (List.mem_of_getElem? (i := 22) rfl))) (notFace_of_selects (args := #[]) (mvT hZ (hw _ (List.mem_of_getElem? (i := 24) rfl)))) (mvT hZ (hw _ (List.mem_of_getElem? (i := 24) rfl))) (mvT hZ (hw _ (List.mem_of_getElem? (i := 23) rfl))) (by decide) (backOf (W := 0) (own_rm4 l Z a0 hw [] b116 (nar .char (own_v0_6_0 p2)) T127.heap n0 zs136 f129) hZ (hw _ (List.mem_of_getElem? (i := 25) rfl)) (hw _ (List.mem_of_getElem? (i := 3) rfl)) (by decide) (by decide)) q139a q139c (g := (mkF m 82 #[.val (.long q0), .second, .val (.long q1), .second, .val (.int p2), .val (.long q3), .second, .val (.long q4), .second, .val (.int (own_v0_6_0 p2)), .val (.int (0 : Int32)), .val (.int (1 : Int32)), .val (.int (0 : Int32)), .val (.int (own_f4 (nar .char (own_v0_6_0 p2)))), .unset] [(.ref b116)])) rfl (by rw [hml]; rfl) (Steps.refl _) (argsL := []) (rest := []) (lenOf own_pd2 rfl) rfl (by show 2 * 0 + _ ≤ _; exact Nat.le_of_eq rfl) (hb hby at_82) (fun _ _ => ⟨rfl, rfl, (by decide : 2 + 0 ≤ _), (by decide : 6 + 0 ≤ _)⟩)
      dsimp only [Pt.U, Pt.locs, Pt.cells, Pt.slots] at X139 l139 y139 z139 st139 hQ139
      subst l139 y139 z139
      obtain ⟨rfl, N139q, e139⟩ := hQ139
      have N140 := Fr.app N138 N139q
      have pre141 : ∀ t, Steps p.tables e below (T139.setTop (mkF m 91 #[.val (.long q0), .second, .val (.long q1), .second, .val (.int p2), .val (.long q3), .second, .val (.long q4), .second, .val (.int (own_v0_6_0 p2)), .val (.int (0 : Int32)), .val (.int (1 : Int32)), .val (.int (0 : Int32)), .val (.int (own_f4 (nar .char (own_v0_6_0 p2)))), .val (.int (own_f4 (nar .char (own_v0_6_0 p2))))] [(.int (0 : Int32)), (.int (own_f4 (nar .char (own_v0_6_0 p2))))])) t → Steps p.tables e below (s₁.setTop (entryFrame m #[(.long q0), (.long q1), (.int p2), (.long q3), (.long q4)] maxLocals)) t := fun t k => pre97 t (by
          refine XS.icmpNo X0.here hx rfl (hb hby at_26) rfl (teq hc98).2 ?_
          show Steps p.tables e below (s₁.setTop (mkF m 29 #[.val (.long q0), .second, .val (.long q1), .second, .val (.int p2), .val (.long q3), .second, .val (.long q4), .second, .val (.int (own_v0_6_0 p2)), .val (.int (0 : Int32)), .unset, .unset, .unset, .unset] [])) _
          refine XS.iconst X0.here hx rfl (hb hby at_29) ?_
          show Steps p.tables e below (s₁.setTop (mkF m 30 #[.val (.long q0), .second, .val (.long q1), .second, .val (.int p2), .val (.long q3), .second, .val (.long q4), .second, .val (.int (own_v0_6_0 p2)), .val (.int (0 : Int32)), .unset, .unset, .unset, .unset] [(.int (1 : Int32))])) _
          refine XS.goto X0.here hx rfl (pc0 := 30) (pc' := 34) rfl (hb hby at_30) (by decide) (by decide) ?_
          show Steps p.tables e below (s₁.setTop (mkF m 34 #[.val (.long q0), .second, .val (.long q1), .second, .val (.int p2), .val (.long q3), .second, .val (.long q4), .second, .val (.int (own_v0_6_0 p2)), .val (.int (0 : Int32)), .unset, .unset, .unset, .unset] [(.int (1 : Int32))])) _
          refine XS.istore X0.here hx rfl (hb hby at_34) rfl (l' := #[.val (.long q0), .second, .val (.long q1), .second, .val (.int p2), .val (.long q3), .second, .val (.long q4), .second, .val (.int (own_v0_6_0 p2)), .val (.int (0 : Int32)), .val (.int (1 : Int32)), .unset, .unset, .unset]) rfl ?_
          show Steps p.tables e below (s₁.setTop (mkF m 36 #[.val (.long q0), .second, .val (.long q1), .second, .val (.int p2), .val (.long q3), .second, .val (.long q4), .second, .val (.int (own_v0_6_0 p2)), .val (.int (0 : Int32)), .val (.int (1 : Int32)), .unset, .unset, .unset] [])) _
          refine XS.iload X0.here hx rfl (hb hby at_36) rfl ?_
          show Steps p.tables e below (s₁.setTop (mkF m 38 #[.val (.long q0), .second, .val (.long q1), .second, .val (.int p2), .val (.long q3), .second, .val (.long q4), .second, .val (.int (own_v0_6_0 p2)), .val (.int (0 : Int32)), .val (.int (1 : Int32)), .unset, .unset, .unset] [(.int (0 : Int32))])) _
          refine XS.ifNo X0.here hx rfl (hb hby at_38) rfl ((if0 _ _).trans (teq (by decide : (0 : Int32) = (0 : Int32))).2) ?_
          show Steps p.tables e below (s₁.setTop (mkF m 41 #[.val (.long q0), .second, .val (.long q1), .second, .val (.int p2), .val (.long q3), .second, .val (.long q4), .second, .val (.int (own_v0_6_0 p2)), .val (.int (0 : Int32)), .val (.int (1 : Int32)), .unset, .unset, .unset] [])) _
          refine XS.iload X0.here hx rfl (hb hby at_41) rfl ?_
          show Steps p.tables e below (s₁.setTop (mkF m 43 #[.val (.long q0), .second, .val (.long q1), .second, .val (.int p2), .val (.long q3), .second, .val (.long q4), .second, .val (.int (own_v0_6_0 p2)), .val (.int (0 : Int32)), .val (.int (1 : Int32)), .unset, .unset, .unset] [(.int (1 : Int32))])) _
          refine XS.ifYes X0.here hx rfl (pc0 := 43) (pc' := 50) rfl (hb hby at_43) rfl ((if0 _ _).trans (feq (by decide : ¬ ((1 : Int32) = (0 : Int32)))).2) (by decide) (by decide) ?_
          show Steps p.tables e below (s₁.setTop (mkF m 50 #[.val (.long q0), .second, .val (.long q1), .second, .val (.int p2), .val (.long q3), .second, .val (.long q4), .second, .val (.int (own_v0_6_0 p2)), .val (.int (0 : Int32)), .val (.int (1 : Int32)), .unset, .unset, .unset] [])) _
          refine XS.iconst X0.here hx rfl (hb hby at_50) ?_
          show Steps p.tables e below (s₁.setTop (mkF m 51 #[.val (.long q0), .second, .val (.long q1), .second, .val (.int p2), .val (.long q3), .second, .val (.long q4), .second, .val (.int (own_v0_6_0 p2)), .val (.int (0 : Int32)), .val (.int (1 : Int32)), .unset, .unset, .unset] [(.int (0 : Int32))])) _
          refine XS.istore X0.here hx rfl (hb hby at_51) rfl (l' := #[.val (.long q0), .second, .val (.long q1), .second, .val (.int p2), .val (.long q3), .second, .val (.long q4), .second, .val (.int (own_v0_6_0 p2)), .val (.int (0 : Int32)), .val (.int (1 : Int32)), .val (.int (0 : Int32)), .unset, .unset]) rfl ?_
          show Steps p.tables e below (s₁.setTop (mkF m 53 #[.val (.long q0), .second, .val (.long q1), .second, .val (.int p2), .val (.long q3), .second, .val (.long q4), .second, .val (.int (own_v0_6_0 p2)), .val (.int (0 : Int32)), .val (.int (1 : Int32)), .val (.int (0 : Int32)), .unset, .unset] [])) _
          refine st99 _ ?_
          show Steps p.tables e below (T99.setTop (mkF m 56 #[.val (.long q0), .second, .val (.long q1), .second, .val (.int p2), .val (.long q3), .second, .val (.long q4), .second, .val (.int (own_v0_6_0 p2)), .val (.int (0 : Int32)), .val (.int (1 : Int32)), .val (.int (0 : Int32)), .unset, .unset] [(.ref b99)])) _
          refine XS.dup X99.here hx rfl (hb hby at_56) rfl rfl ?_
          show Steps p.tables e below (T99.setTop (mkF m 57 #[.val (.long q0), .second, .val (.long q1), .second, .val (.int p2), .val (.long q3), .second, .val (.long q4), .second, .val (.int (own_v0_6_0 p2)), .val (.int (0 : Int32)), .val (.int (1 : Int32)), .val (.int (0 : Int32)), .unset, .unset] [(.ref b99), (.ref b99)])) _
          refine XS.lloadN X99.here hx rfl (hb hby at_57) rfl ?_
          show Steps p.tables e below (T99.setTop (mkF m 58 #[.val (.long q0), .second, .val (.long q1), .second, .val (.int p2), .val (.long q3), .second, .val (.long q4), .second, .val (.int (own_v0_6_0 p2)), .val (.int (0 : Int32)), .val (.int (1 : Int32)), .val (.int (0 : Int32)), .unset, .unset] [(.long q0), (.ref b99), (.ref b99)])) _
          refine XS.lloadN X99.here hx rfl (hb hby at_58) rfl ?_
          show Steps p.tables e below (T99.setTop (mkF m 59 #[.val (.long q0), .second, .val (.long q1), .second, .val (.int p2), .val (.long q3), .second, .val (.long q4), .second, .val (.int (own_v0_6_0 p2)), .val (.int (0 : Int32)), .val (.int (1 : Int32)), .val (.int (0 : Int32)), .unset, .unset] [(.long q1), (.long q0), (.ref b99), (.ref b99)])) _
          refine XS.iload X99.here hx rfl (hb hby at_59) rfl ?_
          show Steps p.tables e below (T99.setTop (mkF m 61 #[.val (.long q0), .second, .val (.long q1), .second, .val (.int p2), .val (.long q3), .second, .val (.long q4), .second, .val (.int (own_v0_6_0 p2)), .val (.int (0 : Int32)), .val (.int (1 : Int32)), .val (.int (0 : Int32)), .unset, .unset] [(.int (own_v0_6_0 p2)), (.long q1), (.long q0), (.ref b99), (.ref b99)])) _
          refine st106.trans ?_
          show Steps p.tables e below (T106.setTop (mkF m 64 #[.val (.long q0), .second, .val (.long q1), .second, .val (.int p2), .val (.long q3), .second, .val (.long q4), .second, .val (.int (own_v0_6_0 p2)), .val (.int (0 : Int32)), .val (.int (1 : Int32)), .val (.int (0 : Int32)), .unset, .unset] [(.ref b99)])) _
          refine st114.trans ?_
          show Steps p.tables e below (T114.setTop (mkF m 67 #[.val (.long q0), .second, .val (.long q1), .second, .val (.int p2), .val (.long q3), .second, .val (.long q4), .second, .val (.int (own_v0_6_0 p2)), .val (.int (0 : Int32)), .val (.int (1 : Int32)), .val (.int (0 : Int32)), .unset, .unset] [(.int (own_f4 (nar .char (own_v0_6_0 p2))))])) _
          refine XS.istore X114.here hx rfl (hb hby at_67) rfl (l' := #[.val (.long q0), .second, .val (.long q1), .second, .val (.int p2), .val (.long q3), .second, .val (.long q4), .second, .val (.int (own_v0_6_0 p2)), .val (.int (0 : Int32)), .val (.int (1 : Int32)), .val (.int (0 : Int32)), .val (.int (own_f4 (nar .char (own_v0_6_0 p2)))), .unset]) rfl ?_
          show Steps p.tables e below (T114.setTop (mkF m 69 #[.val (.long q0), .second, .val (.long q1), .second, .val (.int p2), .val (.long q3), .second, .val (.long q4), .second, .val (.int (own_v0_6_0 p2)), .val (.int (0 : Int32)), .val (.int (1 : Int32)), .val (.int (0 : Int32)), .val (.int (own_f4 (nar .char (own_v0_6_0 p2)))), .unset] [])) _
          refine st116 _ ?_
          show Steps p.tables e below (T116.setTop (mkF m 72 #[.val (.long q0), .second, .val (.long q1), .second, .val (.int p2), .val (.long q3), .second, .val (.long q4), .second, .val (.int (own_v0_6_0 p2)), .val (.int (0 : Int32)), .val (.int (1 : Int32)), .val (.int (0 : Int32)), .val (.int (own_f4 (nar .char (own_v0_6_0 p2)))), .unset] [(.ref b116)])) _
          refine XS.dup X116.here hx rfl (hb hby at_72) rfl rfl ?_
          show Steps p.tables e below (T116.setTop (mkF m 73 #[.val (.long q0), .second, .val (.long q1), .second, .val (.int p2), .val (.long q3), .second, .val (.long q4), .second, .val (.int (own_v0_6_0 p2)), .val (.int (0 : Int32)), .val (.int (1 : Int32)), .val (.int (0 : Int32)), .val (.int (own_f4 (nar .char (own_v0_6_0 p2)))), .unset] [(.ref b116), (.ref b116)])) _
          refine XS.lload X116.here hx rfl (hb hby at_73) rfl ?_
          show Steps p.tables e below (T116.setTop (mkF m 75 #[.val (.long q0), .second, .val (.long q1), .second, .val (.int p2), .val (.long q3), .second, .val (.long q4), .second, .val (.int (own_v0_6_0 p2)), .val (.int (0 : Int32)), .val (.int (1 : Int32)), .val (.int (0 : Int32)), .val (.int (own_f4 (nar .char (own_v0_6_0 p2)))), .unset] [(.long q3), (.ref b116), (.ref b116)])) _
          refine XS.lload X116.here hx rfl (hb hby at_75) rfl ?_
          show Steps p.tables e below (T116.setTop (mkF m 77 #[.val (.long q0), .second, .val (.long q1), .second, .val (.int p2), .val (.long q3), .second, .val (.long q4), .second, .val (.int (own_v0_6_0 p2)), .val (.int (0 : Int32)), .val (.int (1 : Int32)), .val (.int (0 : Int32)), .val (.int (own_f4 (nar .char (own_v0_6_0 p2)))), .unset] [(.long q4), (.long q3), (.ref b116), (.ref b116)])) _
          refine XS.iload X116.here hx rfl (hb hby at_77) rfl ?_
          show Steps p.tables e below (T116.setTop (mkF m 79 #[.val (.long q0), .second, .val (.long q1), .second, .val (.int p2), .val (.long q3), .second, .val (.long q4), .second, .val (.int (own_v0_6_0 p2)), .val (.int (0 : Int32)), .val (.int (1 : Int32)), .val (.int (0 : Int32)), .val (.int (own_f4 (nar .char (own_v0_6_0 p2)))), .unset] [(.int (own_v0_6_0 p2)), (.long q4), (.long q3), (.ref b116), (.ref b116)])) _
          refine st127.trans ?_
          show Steps p.tables e below (T127.setTop (mkF m 82 #[.val (.long q0), .second, .val (.long q1), .second, .val (.int p2), .val (.long q3), .second, .val (.long q4), .second, .val (.int (own_v0_6_0 p2)), .val (.int (0 : Int32)), .val (.int (1 : Int32)), .val (.int (0 : Int32)), .val (.int (own_f4 (nar .char (own_v0_6_0 p2)))), .unset] [(.ref b116)])) _
          refine st139.trans ?_
          show Steps p.tables e below (T139.setTop (mkF m 85 #[.val (.long q0), .second, .val (.long q1), .second, .val (.int p2), .val (.long q3), .second, .val (.long q4), .second, .val (.int (own_v0_6_0 p2)), .val (.int (0 : Int32)), .val (.int (1 : Int32)), .val (.int (0 : Int32)), .val (.int (own_f4 (nar .char (own_v0_6_0 p2)))), .unset] [(.int (own_f4 (nar .char (own_v0_6_0 p2))))])) _
          refine XS.istore X139.here hx rfl (hb hby at_85) rfl (l' := #[.val (.long q0), .second, .val (.long q1), .second, .val (.int p2), .val (.long q3), .second, .val (.long q4), .second, .val (.int (own_v0_6_0 p2)), .val (.int (0 : Int32)), .val (.int (1 : Int32)), .val (.int (0 : Int32)), .val (.int (own_f4 (nar .char (own_v0_6_0 p2)))), .val (.int (own_f4 (nar .char (own_v0_6_0 p2))))]) rfl ?_
          show Steps p.tables e below (T139.setTop (mkF m 87 #[.val (.long q0), .second, .val (.long q1), .second, .val (.int p2), .val (.long q3), .second, .val (.long q4), .second, .val (.int (own_v0_6_0 p2)), .val (.int (0 : Int32)), .val (.int (1 : Int32)), .val (.int (0 : Int32)), .val (.int (own_f4 (nar .char (own_v0_6_0 p2)))), .val (.int (own_f4 (nar .char (own_v0_6_0 p2))))] [])) _
          refine XS.iload X139.here hx rfl (hb hby at_87) rfl ?_
          show Steps p.tables e below (T139.setTop (mkF m 89 #[.val (.long q0), .second, .val (.long q1), .second, .val (.int p2), .val (.long q3), .second, .val (.long q4), .second, .val (.int (own_v0_6_0 p2)), .val (.int (0 : Int32)), .val (.int (1 : Int32)), .val (.int (0 : Int32)), .val (.int (own_f4 (nar .char (own_v0_6_0 p2)))), .val (.int (own_f4 (nar .char (own_v0_6_0 p2))))] [(.int (own_f4 (nar .char (own_v0_6_0 p2))))])) _
          refine XS.iload X139.here hx rfl (hb hby at_89) rfl ?_
          show Steps p.tables e below (T139.setTop (mkF m 91 #[.val (.long q0), .second, .val (.long q1), .second, .val (.int p2), .val (.long q3), .second, .val (.long q4), .second, .val (.int (own_v0_6_0 p2)), .val (.int (0 : Int32)), .val (.int (1 : Int32)), .val (.int (0 : Int32)), .val (.int (own_f4 (nar .char (own_v0_6_0 p2)))), .val (.int (own_f4 (nar .char (own_v0_6_0 p2))))] [(.int (0 : Int32)), (.int (own_f4 (nar .char (own_v0_6_0 p2))))])) _
          exact k)
      by_cases hc142 : (own_f4 (nar .char (own_v0_6_0 p2))) = (0 : Int32)
      · have pre143 : ∀ t, Steps p.tables e below (T139.setTop (mkF m 106 #[.val (.long q0), .second, .val (.long q1), .second, .val (.int p2), .val (.long q3), .second, .val (.long q4), .second, .val (.int (own_v0_6_0 p2)), .val (.int (0 : Int32)), .val (.int (1 : Int32)), .val (.int (0 : Int32)), .val (.int (own_f4 (nar .char (own_v0_6_0 p2)))), .val (.int (own_f4 (nar .char (own_v0_6_0 p2))))] [(.int (1 : Int32))])) t → Steps p.tables e below (s₁.setTop (entryFrame m #[(.long q0), (.long q1), (.int p2), (.long q3), (.long q4)] maxLocals)) t := fun t k => pre141 t (by
            refine XS.icmpNo X139.here hx rfl (hb hby at_91) rfl (teq hc142).2 ?_
            show Steps p.tables e below (T139.setTop (mkF m 94 #[.val (.long q0), .second, .val (.long q1), .second, .val (.int p2), .val (.long q3), .second, .val (.long q4), .second, .val (.int (own_v0_6_0 p2)), .val (.int (0 : Int32)), .val (.int (1 : Int32)), .val (.int (0 : Int32)), .val (.int (own_f4 (nar .char (own_v0_6_0 p2)))), .val (.int (own_f4 (nar .char (own_v0_6_0 p2))))] [])) _
            refine XS.iload X139.here hx rfl (hb hby at_94) rfl ?_
            show Steps p.tables e below (T139.setTop (mkF m 96 #[.val (.long q0), .second, .val (.long q1), .second, .val (.int p2), .val (.long q3), .second, .val (.long q4), .second, .val (.int (own_v0_6_0 p2)), .val (.int (0 : Int32)), .val (.int (1 : Int32)), .val (.int (0 : Int32)), .val (.int (own_f4 (nar .char (own_v0_6_0 p2)))), .val (.int (own_f4 (nar .char (own_v0_6_0 p2))))] [(.int (own_f4 (nar .char (own_v0_6_0 p2))))])) _
            refine XS.iload X139.here hx rfl (hb hby at_96) rfl ?_
            show Steps p.tables e below (T139.setTop (mkF m 98 #[.val (.long q0), .second, .val (.long q1), .second, .val (.int p2), .val (.long q3), .second, .val (.long q4), .second, .val (.int (own_v0_6_0 p2)), .val (.int (0 : Int32)), .val (.int (1 : Int32)), .val (.int (0 : Int32)), .val (.int (own_f4 (nar .char (own_v0_6_0 p2)))), .val (.int (own_f4 (nar .char (own_v0_6_0 p2))))] [(.int (0 : Int32)), (.int (own_f4 (nar .char (own_v0_6_0 p2))))])) _
            refine XS.icmpNo X139.here hx rfl (hb hby at_98) rfl (teq hc142).2 ?_
            show Steps p.tables e below (T139.setTop (mkF m 101 #[.val (.long q0), .second, .val (.long q1), .second, .val (.int p2), .val (.long q3), .second, .val (.long q4), .second, .val (.int (own_v0_6_0 p2)), .val (.int (0 : Int32)), .val (.int (1 : Int32)), .val (.int (0 : Int32)), .val (.int (own_f4 (nar .char (own_v0_6_0 p2)))), .val (.int (own_f4 (nar .char (own_v0_6_0 p2))))] [])) _
            refine XS.iconst X139.here hx rfl (hb hby at_101) ?_
            show Steps p.tables e below (T139.setTop (mkF m 102 #[.val (.long q0), .second, .val (.long q1), .second, .val (.int p2), .val (.long q3), .second, .val (.long q4), .second, .val (.int (own_v0_6_0 p2)), .val (.int (0 : Int32)), .val (.int (1 : Int32)), .val (.int (0 : Int32)), .val (.int (own_f4 (nar .char (own_v0_6_0 p2)))), .val (.int (own_f4 (nar .char (own_v0_6_0 p2))))] [(.int (1 : Int32))])) _
            refine XS.goto X139.here hx rfl (pc0 := 102) (pc' := 106) rfl (hb hby at_102) (by decide) (by decide) ?_
            show Steps p.tables e below (T139.setTop (mkF m 106 #[.val (.long q0), .second, .val (.long q1), .second, .val (.int p2), .val (.long q3), .second, .val (.long q4), .second, .val (.int (own_v0_6_0 p2)), .val (.int (0 : Int32)), .val (.int (1 : Int32)), .val (.int (0 : Int32)), .val (.int (own_f4 (nar .char (own_v0_6_0 p2)))), .val (.int (own_f4 (nar .char (own_v0_6_0 p2))))] [(.int (1 : Int32))])) _
            exact k)
        obtain ⟨fs, hr, hrun, hended, hW, hsame⟩ := X139.leave (v := some (.int (1 : Int32))) (fun h => by rw [Bd.returns] at h; cases h)
        refine ⟨_, _, pre143 _ ?_, hrun, hended, _, _, rfl, ?_, ⟨_, rfl⟩, hW, hsame.mono (by decide) (by decide)⟩
        · show Steps p.tables e below (T139.setTop (mkF m 106 #[.val (.long q0), .second, .val (.long q1), .second, .val (.int p2), .val (.long q3), .second, .val (.long q4), .second, .val (.int (own_v0_6_0 p2)), .val (.int (0 : Int32)), .val (.int (1 : Int32)), .val (.int (0 : Int32)), .val (.int (own_f4 (nar .char (own_v0_6_0 p2)))), .val (.int (own_f4 (nar .char (own_v0_6_0 p2))))] [(.int (1 : Int32))])) _
          exact retN X139 hx (t := .boolean) Bd.returns (by simp) (hb hby at_106) hr
        · show own_Q0 Z q0 q1 p2 q3 q4 h0 n0 _ T139.heap _; exact ⟨(by show some (Value.int _) = some (.int (own_f0 p2)); unfold own_f0; rw [if_neg hc2, if_pos hc98, if_pos hc142]), N140⟩
      · have pre144 : ∀ t, Steps p.tables e below (T139.setTop (mkF m 106 #[.val (.long q0), .second, .val (.long q1), .second, .val (.int p2), .val (.long q3), .second, .val (.long q4), .second, .val (.int (own_v0_6_0 p2)), .val (.int (0 : Int32)), .val (.int (1 : Int32)), .val (.int (0 : Int32)), .val (.int (own_f4 (nar .char (own_v0_6_0 p2)))), .val (.int (own_f4 (nar .char (own_v0_6_0 p2))))] [(.int (0 : Int32))])) t → Steps p.tables e below (s₁.setTop (entryFrame m #[(.long q0), (.long q1), (.int p2), (.long q3), (.long q4)] maxLocals)) t := fun t k => pre141 t (by
            refine XS.icmpYes X139.here hx rfl (pc0 := 91) (pc' := 105) rfl (hb hby at_91) rfl (feq hc142).2 (by decide) (by decide) ?_
            show Steps p.tables e below (T139.setTop (mkF m 105 #[.val (.long q0), .second, .val (.long q1), .second, .val (.int p2), .val (.long q3), .second, .val (.long q4), .second, .val (.int (own_v0_6_0 p2)), .val (.int (0 : Int32)), .val (.int (1 : Int32)), .val (.int (0 : Int32)), .val (.int (own_f4 (nar .char (own_v0_6_0 p2)))), .val (.int (own_f4 (nar .char (own_v0_6_0 p2))))] [])) _
            refine XS.iconst X139.here hx rfl (hb hby at_105) ?_
            show Steps p.tables e below (T139.setTop (mkF m 106 #[.val (.long q0), .second, .val (.long q1), .second, .val (.int p2), .val (.long q3), .second, .val (.long q4), .second, .val (.int (own_v0_6_0 p2)), .val (.int (0 : Int32)), .val (.int (1 : Int32)), .val (.int (0 : Int32)), .val (.int (own_f4 (nar .char (own_v0_6_0 p2)))), .val (.int (own_f4 (nar .char (own_v0_6_0 p2))))] [(.int (0 : Int32))])) _
            exact k)
        obtain ⟨fs, hr, hrun, hended, hW, hsame⟩ := X139.leave (v := some (.int (0 : Int32))) (fun h => by rw [Bd.returns] at h; cases h)
        refine ⟨_, _, pre144 _ ?_, hrun, hended, _, _, rfl, ?_, ⟨_, rfl⟩, hW, hsame.mono (by decide) (by decide)⟩
        · show Steps p.tables e below (T139.setTop (mkF m 106 #[.val (.long q0), .second, .val (.long q1), .second, .val (.int p2), .val (.long q3), .second, .val (.long q4), .second, .val (.int (own_v0_6_0 p2)), .val (.int (0 : Int32)), .val (.int (1 : Int32)), .val (.int (0 : Int32)), .val (.int (own_f4 (nar .char (own_v0_6_0 p2)))), .val (.int (own_f4 (nar .char (own_v0_6_0 p2))))] [(.int (0 : Int32))])) _
          exact retN X139 hx (t := .boolean) Bd.returns (by simp) (hb hby at_106) hr
        · show own_Q0 Z q0 q1 p2 q3 q4 h0 n0 _ T139.heap _; exact ⟨(by show some (Value.int _) = some (.int (own_f0 p2)); unfold own_f0; rw [if_neg hc2, if_pos hc98, if_neg hc142]), N140⟩
    · obtain ⟨T145, h145, X145, e145, E145, A145, D145, -, st145⟩ := newO X0 hx hZ hown (hw _ (List.mem_of_getElem? (i := 1) rfl)) (hw _ (List.mem_of_getElem? (i := 2) rfl)) (hw _ (List.mem_of_getElem? (i := 3) rfl)) e0 (g := (mkF m 53 #[.val (.long q0), .second, .val (.long q1), .second, .val (.int p2), .val (.long q3), .second, .val (.long q4), .second, .val (.int (own_v0_6_0 p2)), .val (.int (0 : Int32)), .val (.int (0 : Int32)), .val (.int (1 : Int32)), .unset, .unset] [])) rfl (hb hby at_53) (by decide) (by decide)
      obtain ⟨b145, g145⟩ : ∃ z, z = h0.size := ⟨_, rfl⟩
      rw [← g145] at A145 D145 st145
      have g_b145 : n0 ≤ b145 := Nat.le_trans Z0 (Nat.le_of_eq g145.symm)
      have K146 : Keep h0 h0 [] := Keep.refl h0 []
      have sz_b145 : h0.size ≤ b145 := Nat.le_trans K146.1 (Nat.le_of_eq g145.symm)
      have zs147 : n0 ≤ h145.size := Nat.le_trans Z0 E145.1
      have K148 : Keep h0 h145 [] := K146.ext E145
      have f149 : Fld Z h145 b145 "com/example/kelq/kelq/cli/Job$Stat" "parent" "J" (.long (0 : Int64)) := D145 (Or.inr (hw _ (List.mem_of_getElem? (i := 16) rfl))) (ty := .long) (by decide)
      have f150 : Fld Z h145 b145 "com/example/kelq/kelq/cli/Job$Stat" "start" "J" (.long (0 : Int64)) := D145 (Or.inr (hw _ (List.mem_of_getElem? (i := 18) rfl))) (ty := .long) (by decide)
      have f151 : Fld Z h145 b145 "com/example/kelq/kelq/cli/Job$Stat" "state" "C" (.int (0 : Int32)) := D145 (Or.inr (hw _ (List.mem_of_getElem? (i := 20) rfl))) (ty := .char) (by decide)
      obtain ⟨_, _, ⟨T152, L152, k152, n152⟩, -, X152, ⟨Lc152, hQ152, l152, y152, z152⟩, st152⟩ := X145.specialBack hx (y := (⟨"com/example/kelq/kelq/cli/Job$Stat", "<init>", "(JJC)V"⟩ : MethodName)) rfl hown (mvT hZ (hw _ (List.mem_of_getElem? (i := 4) rfl))) (mvT hZ (hw _ (List.mem_of_getElem? (i := 5) rfl))) (mvT hZ (hw _ (List.mem_of_getElem? (i := 6) rfl))) (by decide) (backOf (W := 1) (own_rm1 l Z a0 hw [] b145 q0 q1 (own_v0_6_0 p2) (.long (0 : Int64)) (.int (0 : Int32)) (.long (0 : Int64)) h145 n0 zs147 f150 f151 A145 f149 g_b145) hZ (hw _ (List.mem_of_getElem? (i := 6) rfl)) (hw _ (List.mem_of_getElem? (i := 3) rfl)) (by decide) (by decide)) (g := (mkF m 61 #[.val (.long q0), .second, .val (.long q1), .second, .val (.int p2), .val (.long q3), .second, .val (.long q4), .second, .val (.int (own_v0_6_0 p2)), .val (.int (0 : Int32)), .val (.int (0 : Int32)), .val (.int (1 : Int32)), .unset, .unset] [(.int (own_v0_6_0 p2)), (.long q1), (.long q0), (.ref b145), (.ref b145)])) rfl (by rw [hml]; rfl) (Steps.refl _) (a := b145) (argsL := [(.long q0), (.long q1), (.int (own_v0_6_0 p2))]) (rest := [(.ref b145)]) (lenOf own_pd1 rfl) rfl (by show 2 * 0 + _ ≤ _; exact Nat.le_of_eq rfl) (hb hby at_61) (fun _ _ => ⟨rfl, e145, (by decide : 1 + 0 ≤ _), (by decide : 3 + 0 ≤ _)⟩)
      dsimp only [Pt.U, Pt.locs, Pt.cells, Pt.slots] at X152 l152 y152 z152 st152 hQ152
      subst l152 y152 z152
      obtain ⟨rfl, N152q, K152, f153, f154, f155, f156⟩ := hQ152
      have zs157 : n0 ≤ T152.heap.size := Nat.le_trans zs147 K152.1
      have K158 : Keep h0 T152.heap [] := K148.trans K152 (allS (Or.inr sz_b145) all0)
      have N159 := Fr.app N0 N152q
      obtain ⟨cq160, kq160, q160a, q160b, q160c⟩ := isOf hZ rfl f155
      obtain ⟨_, _, ⟨T160, L160, k160, n160⟩, -, X160, ⟨Lc160, hQ160, l160, y160, z160⟩, st160⟩ := X152.virtualBack hx (y := (⟨"com/example/kelq/kelq/cli/Job$Stat", "runs", "()Z"⟩ : MethodName)) (z := (⟨"com/example/kelq/kelq/cli/Job$Stat", "runs", "()Z"⟩ : MethodName)) hown (mvT hZ (hw _ (List.mem_of_getElem? (i := 21) rfl))) (mvT hZ (hw _ (List.mem_of_getElem? (i := 22) rfl))) (notFace_of_selects (args := #[]) (mvT hZ (hw _ (List.mem_of_getElem? (i := 24) rfl)))) (mvT hZ (hw _ (List.mem_of_getElem? (i := 24) rfl))) (mvT hZ (hw _ (List.mem_of_getElem? (i := 23) rfl))) (by decide) (backOf (W := 0) (own_rm4 l Z a0 hw [] b145 (nar .char (own_v0_6_0 p2)) T152.heap n0 zs157 f154) hZ (hw _ (List.mem_of_getElem? (i := 25) rfl)) (hw _ (List.mem_of_getElem? (i := 3) rfl)) (by decide) (by decide)) q160a q160c (g := (mkF m 64 #[.val (.long q0), .second, .val (.long q1), .second, .val (.int p2), .val (.long q3), .second, .val (.long q4), .second, .val (.int (own_v0_6_0 p2)), .val (.int (0 : Int32)), .val (.int (0 : Int32)), .val (.int (1 : Int32)), .unset, .unset] [(.ref b145)])) rfl (by rw [hml]; rfl) (Steps.refl _) (argsL := []) (rest := []) (lenOf own_pd2 rfl) rfl (by show 2 * 0 + _ ≤ _; exact Nat.le_of_eq rfl) (hb hby at_64) (fun _ _ => ⟨rfl, rfl, (by decide : 1 + 0 ≤ _), (by decide : 3 + 0 ≤ _)⟩)
      dsimp only [Pt.U, Pt.locs, Pt.cells, Pt.slots] at X160 l160 y160 z160 st160 hQ160
      subst l160 y160 z160
      obtain ⟨rfl, N160q, e160⟩ := hQ160
      have N161 := Fr.app N159 N160q
      obtain ⟨T162, h162, X162, e162, E162, A162, D162, -, st162⟩ := newO X160 hx hZ hown (hw _ (List.mem_of_getElem? (i := 1) rfl)) (hw _ (List.mem_of_getElem? (i := 2) rfl)) (hw _ (List.mem_of_getElem? (i := 3) rfl)) e160 (g := (mkF m 69 #[.val (.long q0), .second, .val (.long q1), .second, .val (.int p2), .val (.long q3), .second, .val (.long q4), .second, .val (.int (own_v0_6_0 p2)), .val (.int (0 : Int32)), .val (.int (0 : Int32)), .val (.int (1 : Int32)), .val (.int (own_f4 (nar .char (own_v0_6_0 p2)))), .unset] [])) rfl (hb hby at_69) (by decide) (by decide)
      obtain ⟨b162, g162⟩ : ∃ z, z = T152.heap.size := ⟨_, rfl⟩
      rw [← g162] at A162 D162 st162
      have g_b162 : n0 ≤ b162 := Nat.le_trans zs157 (Nat.le_of_eq g162.symm)
      have sz_b162 : h0.size ≤ b162 := Nat.le_trans K158.1 (Nat.le_of_eq g162.symm)
      have lt163 : b145 < b162 := Nat.lt_of_lt_of_le f154.lt (Nat.le_of_eq g162.symm)
      have f164 : Exa Z h162 b145 "com/example/kelq/kelq/cli/Job$Stat" := f155.ext E162
      have f165 : Fld Z h162 b145 "com/example/kelq/kelq/cli/Job$Stat" "parent" "J" (.long q0) := f156.ext E162
      have f166 : Fld Z h162 b145 "com/example/kelq/kelq/cli/Job$Stat" "start" "J" (.long q1) := f153.ext E162
      have f167 : Fld Z h162 b145 "com/example/kelq/kelq/cli/Job$Stat" "state" "C" (.int (nar .char (own_v0_6_0 p2))) := f154.ext E162
      have zs168 : n0 ≤ h162.size := Nat.le_trans zs157 E162.1
      have K169 : Keep h0 h162 [] := K158.ext E162
      have f170 : Fld Z h162 b162 "com/example/kelq/kelq/cli/Job$Stat" "parent" "J" (.long (0 : Int64)) := D162 (Or.inr (hw _ (List.mem_of_getElem? (i := 16) rfl))) (ty := .long) (by decide)
      have f171 : Fld Z h162 b162 "com/example/kelq/kelq/cli/Job$Stat" "start" "J" (.long (0 : Int64)) := D162 (Or.inr (hw _ (List.mem_of_getElem? (i := 18) rfl))) (ty := .long) (by decide)
      have f172 : Fld Z h162 b162 "com/example/kelq/kelq/cli/Job$Stat" "state" "C" (.int (0 : Int32)) := D162 (Or.inr (hw _ (List.mem_of_getElem? (i := 20) rfl))) (ty := .char) (by decide)
      obtain ⟨_, _, ⟨T173, L173, k173, n173⟩, -, X173, ⟨Lc173, hQ173, l173, y173, z173⟩, st173⟩ := X162.specialBack hx (y := (⟨"com/example/kelq/kelq/cli/Job$Stat", "<init>", "(JJC)V"⟩ : MethodName)) rfl hown (mvT hZ (hw _ (List.mem_of_getElem? (i := 4) rfl))) (mvT hZ (hw _ (List.mem_of_getElem? (i := 5) rfl))) (mvT hZ (hw _ (List.mem_of_getElem? (i := 6) rfl))) (by decide) (backOf (W := 1) (own_rm1 l Z a0 hw [] b162 q3 q4 (own_v0_6_0 p2) (.long (0 : Int64)) (.int (0 : Int32)) (.long (0 : Int64)) h162 n0 zs168 f171 f172 A162 f170 g_b162) hZ (hw _ (List.mem_of_getElem? (i := 6) rfl)) (hw _ (List.mem_of_getElem? (i := 3) rfl)) (by decide) (by decide)) (g := (mkF m 79 #[.val (.long q0), .second, .val (.long q1), .second, .val (.int p2), .val (.long q3), .second, .val (.long q4), .second, .val (.int (own_v0_6_0 p2)), .val (.int (0 : Int32)), .val (.int (0 : Int32)), .val (.int (1 : Int32)), .val (.int (own_f4 (nar .char (own_v0_6_0 p2)))), .unset] [(.int (own_v0_6_0 p2)), (.long q4), (.long q3), (.ref b162), (.ref b162)])) rfl (by rw [hml]; rfl) (Steps.refl _) (a := b162) (argsL := [(.long q3), (.long q4), (.int (own_v0_6_0 p2))]) (rest := [(.ref b162)]) (lenOf own_pd1 rfl) rfl (by show 2 * 0 + _ ≤ _; exact Nat.le_of_eq rfl) (hb hby at_79) (fun _ _ => ⟨rfl, e162, (by decide : 2 + 0 ≤ _), (by decide : 6 + 0 ≤ _)⟩)
      dsimp only [Pt.U, Pt.locs, Pt.cells, Pt.slots] at X173 l173 y173 z173 st173 hQ173
      subst l173 y173 z173
      obtain ⟨rfl, N173q, K173, f174, f175, f176, f177⟩ := hQ173
      have f178 : Exa Z T173.heap b145 "com/example/kelq/kelq/cli/Job$Stat" := f164.keep K173
      have f179 : Fld Z T173.heap b145 "com/example/kelq/kelq/cli/Job$Stat" "parent" "J" (.long q0) := f165.keep K173 (ninS (Nat.ne_of_lt lt163) nin0)
      have f180 : Fld Z T173.heap b145 "com/example/kelq/kelq/cli/Job$Stat" "start" "J" (.long q1) := f166.keep K173 (ninS (Nat.ne_of_lt lt163) nin0)
      have f181 : Fld Z T173.heap b145 "com/example/kelq/kelq/cli/Job$Stat" "state" "C" (.int (nar .char (own_v0_6_0 p2))) := f167.keep K173 (ninS (Nat.ne_of_lt lt163) nin0)
      have zs182 : n0 ≤ T173.heap.size := Nat.le_trans zs168 K173.1
      have K183 : Keep h0 T173.heap [] := K169.trans K173 (allS (Or.inr sz_b162) all0)
      have N184 := Fr.app N161 N173q
      obtain ⟨cq185, kq185, q185a, q185b, q185c⟩ := isOf hZ rfl f176
      obtain ⟨_, _, ⟨T185, L185, k185, n185⟩, -, X185, ⟨Lc185, hQ185, l185, y185, z185⟩, st185⟩ := X173.virtualBack hx (y := (⟨"com/example/kelq/kelq/cli/Job$Stat", "runs", "()Z"⟩ : MethodName)) (z := (⟨"com/example/kelq/kelq/cli/Job$Stat", "runs", "()Z"⟩ : MethodName)) hown (mvT hZ (hw _ (List.mem_of_getElem? (i := 21) rfl))) (mvT hZ (hw _ (List.mem_of_getElem? (i := 22) rfl))) (notFace_of_selects (args := #[]) (mvT hZ (hw _ (List.mem_of_getElem? (i := 24) rfl)))) (mvT hZ (hw _ (List.mem_of_getElem? (i := 24) rfl))) (mvT hZ (hw _ (List.mem_of_getElem? (i := 23) rfl))) (by decide) (backOf (W := 0) (own_rm4 l Z a0 hw [] b162 (nar .char (own_v0_6_0 p2)) T173.heap n0 zs182 f175) hZ (hw _ (List.mem_of_getElem? (i := 25) rfl)) (hw _ (List.mem_of_getElem? (i := 3) rfl)) (by decide) (by decide)) q185a q185c (g := (mkF m 82 #[.val (.long q0), .second, .val (.long q1), .second, .val (.int p2), .val (.long q3), .second, .val (.long q4), .second, .val (.int (own_v0_6_0 p2)), .val (.int (0 : Int32)), .val (.int (0 : Int32)), .val (.int (1 : Int32)), .val (.int (own_f4 (nar .char (own_v0_6_0 p2)))), .unset] [(.ref b162)])) rfl (by rw [hml]; rfl) (Steps.refl _) (argsL := []) (rest := []) (lenOf own_pd2 rfl) rfl (by show 2 * 0 + _ ≤ _; exact Nat.le_of_eq rfl) (hb hby at_82) (fun _ _ => ⟨rfl, rfl, (by decide : 2 + 0 ≤ _), (by decide : 6 + 0 ≤ _)⟩)
      dsimp only [Pt.U, Pt.locs, Pt.cells, Pt.slots] at X185 l185 y185 z185 st185 hQ185
      subst l185 y185 z185
      obtain ⟨rfl, N185q, e185⟩ := hQ185
      have N186 := Fr.app N184 N185q
      have pre187 : ∀ t, Steps p.tables e below (T185.setTop (mkF m 91 #[.val (.long q0), .second, .val (.long q1), .second, .val (.int p2), .val (.long q3), .second, .val (.long q4), .second, .val (.int (own_v0_6_0 p2)), .val (.int (0 : Int32)), .val (.int (0 : Int32)), .val (.int (1 : Int32)), .val (.int (own_f4 (nar .char (own_v0_6_0 p2)))), .val (.int (own_f4 (nar .char (own_v0_6_0 p2))))] [(.int (1 : Int32)), (.int (own_f4 (nar .char (own_v0_6_0 p2))))])) t → Steps p.tables e below (s₁.setTop (entryFrame m #[(.long q0), (.long q1), (.int p2), (.long q3), (.long q4)] maxLocals)) t := fun t k => pre97 t (by
          refine XS.icmpYes X0.here hx rfl (pc0 := 26) (pc' := 33) rfl (hb hby at_26) rfl (feq hc98).2 (by decide) (by decide) ?_
          show Steps p.tables e below (s₁.setTop (mkF m 33 #[.val (.long q0), .second, .val (.long q1), .second, .val (.int p2), .val (.long q3), .second, .val (.long q4), .second, .val (.int (own_v0_6_0 p2)), .val (.int (0 : Int32)), .unset, .unset, .unset, .unset] [])) _
          refine XS.iconst X0.here hx rfl (hb hby at_33) ?_
          show Steps p.tables e below (s₁.setTop (mkF m 34 #[.val (.long q0), .second, .val (.long q1), .second, .val (.int p2), .val (.long q3), .second, .val (.long q4), .second, .val (.int (own_v0_6_0 p2)), .val (.int (0 : Int32)), .unset, .unset, .unset, .unset] [(.int (0 : Int32))])) _
          refine XS.istore X0.here hx rfl (hb hby at_34) rfl (l' := #[.val (.long q0), .second, .val (.long q1), .second, .val (.int p2), .val (.long q3), .second, .val (.long q4), .second, .val (.int (own_v0_6_0 p2)), .val (.int (0 : Int32)), .val (.int (0 : Int32)), .unset, .unset, .unset]) rfl ?_
          show Steps p.tables e below (s₁.setTop (mkF m 36 #[.val (.long q0), .second, .val (.long q1), .second, .val (.int p2), .val (.long q3), .second, .val (.long q4), .second, .val (.int (own_v0_6_0 p2)), .val (.int (0 : Int32)), .val (.int (0 : Int32)), .unset, .unset, .unset] [])) _
          refine XS.iload X0.here hx rfl (hb hby at_36) rfl ?_
          show Steps p.tables e below (s₁.setTop (mkF m 38 #[.val (.long q0), .second, .val (.long q1), .second, .val (.int p2), .val (.long q3), .second, .val (.long q4), .second, .val (.int (own_v0_6_0 p2)), .val (.int (0 : Int32)), .val (.int (0 : Int32)), .unset, .unset, .unset] [(.int (0 : Int32))])) _
          refine XS.ifNo X0.here hx rfl (hb hby at_38) rfl ((if0 _ _).trans (teq (by decide : (0 : Int32) = (0 : Int32))).2) ?_
          show Steps p.tables e below (s₁.setTop (mkF m 41 #[.val (.long q0), .second, .val (.long q1), .second, .val (.int p2), .val (.long q3), .second, .val (.long q4), .second, .val (.int (own_v0_6_0 p2)), .val (.int (0 : Int32)), .val (.int (0 : Int32)), .unset, .unset, .unset] [])) _
          refine XS.iload X0.here hx rfl (hb hby at_41) rfl ?_
          show Steps p.tables e below (s₁.setTop (mkF m 43 #[.val (.long q0), .second, .val (.long q1), .second, .val (.int p2), .val (.long q3), .second, .val (.long q4), .second, .val (.int (own_v0_6_0 p2)), .val (.int (0 : Int32)), .val (.int (0 : Int32)), .unset, .unset, .unset] [(.int (0 : Int32))])) _
          refine XS.ifNo X0.here hx rfl (hb hby at_43) rfl ((if0 _ _).trans (teq (by decide : (0 : Int32) = (0 : Int32))).2) ?_
          show Steps p.tables e below (s₁.setTop (mkF m 46 #[.val (.long q0), .second, .val (.long q1), .second, .val (.int p2), .val (.long q3), .second, .val (.long q4), .second, .val (.int (own_v0_6_0 p2)), .val (.int (0 : Int32)), .val (.int (0 : Int32)), .unset, .unset, .unset] [])) _
          refine XS.iconst X0.here hx rfl (hb hby at_46) ?_
          show Steps p.tables e below (s₁.setTop (mkF m 47 #[.val (.long q0), .second, .val (.long q1), .second, .val (.int p2), .val (.long q3), .second, .val (.long q4), .second, .val (.int (own_v0_6_0 p2)), .val (.int (0 : Int32)), .val (.int (0 : Int32)), .unset, .unset, .unset] [(.int (1 : Int32))])) _
          refine XS.goto X0.here hx rfl (pc0 := 47) (pc' := 51) rfl (hb hby at_47) (by decide) (by decide) ?_
          show Steps p.tables e below (s₁.setTop (mkF m 51 #[.val (.long q0), .second, .val (.long q1), .second, .val (.int p2), .val (.long q3), .second, .val (.long q4), .second, .val (.int (own_v0_6_0 p2)), .val (.int (0 : Int32)), .val (.int (0 : Int32)), .unset, .unset, .unset] [(.int (1 : Int32))])) _
          refine XS.istore X0.here hx rfl (hb hby at_51) rfl (l' := #[.val (.long q0), .second, .val (.long q1), .second, .val (.int p2), .val (.long q3), .second, .val (.long q4), .second, .val (.int (own_v0_6_0 p2)), .val (.int (0 : Int32)), .val (.int (0 : Int32)), .val (.int (1 : Int32)), .unset, .unset]) rfl ?_
          show Steps p.tables e below (s₁.setTop (mkF m 53 #[.val (.long q0), .second, .val (.long q1), .second, .val (.int p2), .val (.long q3), .second, .val (.long q4), .second, .val (.int (own_v0_6_0 p2)), .val (.int (0 : Int32)), .val (.int (0 : Int32)), .val (.int (1 : Int32)), .unset, .unset] [])) _
          refine st145 _ ?_
          show Steps p.tables e below (T145.setTop (mkF m 56 #[.val (.long q0), .second, .val (.long q1), .second, .val (.int p2), .val (.long q3), .second, .val (.long q4), .second, .val (.int (own_v0_6_0 p2)), .val (.int (0 : Int32)), .val (.int (0 : Int32)), .val (.int (1 : Int32)), .unset, .unset] [(.ref b145)])) _
          refine XS.dup X145.here hx rfl (hb hby at_56) rfl rfl ?_
          show Steps p.tables e below (T145.setTop (mkF m 57 #[.val (.long q0), .second, .val (.long q1), .second, .val (.int p2), .val (.long q3), .second, .val (.long q4), .second, .val (.int (own_v0_6_0 p2)), .val (.int (0 : Int32)), .val (.int (0 : Int32)), .val (.int (1 : Int32)), .unset, .unset] [(.ref b145), (.ref b145)])) _
          refine XS.lloadN X145.here hx rfl (hb hby at_57) rfl ?_
          show Steps p.tables e below (T145.setTop (mkF m 58 #[.val (.long q0), .second, .val (.long q1), .second, .val (.int p2), .val (.long q3), .second, .val (.long q4), .second, .val (.int (own_v0_6_0 p2)), .val (.int (0 : Int32)), .val (.int (0 : Int32)), .val (.int (1 : Int32)), .unset, .unset] [(.long q0), (.ref b145), (.ref b145)])) _
          refine XS.lloadN X145.here hx rfl (hb hby at_58) rfl ?_
          show Steps p.tables e below (T145.setTop (mkF m 59 #[.val (.long q0), .second, .val (.long q1), .second, .val (.int p2), .val (.long q3), .second, .val (.long q4), .second, .val (.int (own_v0_6_0 p2)), .val (.int (0 : Int32)), .val (.int (0 : Int32)), .val (.int (1 : Int32)), .unset, .unset] [(.long q1), (.long q0), (.ref b145), (.ref b145)])) _
          refine XS.iload X145.here hx rfl (hb hby at_59) rfl ?_
          show Steps p.tables e below (T145.setTop (mkF m 61 #[.val (.long q0), .second, .val (.long q1), .second, .val (.int p2), .val (.long q3), .second, .val (.long q4), .second, .val (.int (own_v0_6_0 p2)), .val (.int (0 : Int32)), .val (.int (0 : Int32)), .val (.int (1 : Int32)), .unset, .unset] [(.int (own_v0_6_0 p2)), (.long q1), (.long q0), (.ref b145), (.ref b145)])) _
          refine st152.trans ?_
          show Steps p.tables e below (T152.setTop (mkF m 64 #[.val (.long q0), .second, .val (.long q1), .second, .val (.int p2), .val (.long q3), .second, .val (.long q4), .second, .val (.int (own_v0_6_0 p2)), .val (.int (0 : Int32)), .val (.int (0 : Int32)), .val (.int (1 : Int32)), .unset, .unset] [(.ref b145)])) _
          refine st160.trans ?_
          show Steps p.tables e below (T160.setTop (mkF m 67 #[.val (.long q0), .second, .val (.long q1), .second, .val (.int p2), .val (.long q3), .second, .val (.long q4), .second, .val (.int (own_v0_6_0 p2)), .val (.int (0 : Int32)), .val (.int (0 : Int32)), .val (.int (1 : Int32)), .unset, .unset] [(.int (own_f4 (nar .char (own_v0_6_0 p2))))])) _
          refine XS.istore X160.here hx rfl (hb hby at_67) rfl (l' := #[.val (.long q0), .second, .val (.long q1), .second, .val (.int p2), .val (.long q3), .second, .val (.long q4), .second, .val (.int (own_v0_6_0 p2)), .val (.int (0 : Int32)), .val (.int (0 : Int32)), .val (.int (1 : Int32)), .val (.int (own_f4 (nar .char (own_v0_6_0 p2)))), .unset]) rfl ?_
          show Steps p.tables e below (T160.setTop (mkF m 69 #[.val (.long q0), .second, .val (.long q1), .second, .val (.int p2), .val (.long q3), .second, .val (.long q4), .second, .val (.int (own_v0_6_0 p2)), .val (.int (0 : Int32)), .val (.int (0 : Int32)), .val (.int (1 : Int32)), .val (.int (own_f4 (nar .char (own_v0_6_0 p2)))), .unset] [])) _
          refine st162 _ ?_
          show Steps p.tables e below (T162.setTop (mkF m 72 #[.val (.long q0), .second, .val (.long q1), .second, .val (.int p2), .val (.long q3), .second, .val (.long q4), .second, .val (.int (own_v0_6_0 p2)), .val (.int (0 : Int32)), .val (.int (0 : Int32)), .val (.int (1 : Int32)), .val (.int (own_f4 (nar .char (own_v0_6_0 p2)))), .unset] [(.ref b162)])) _
          refine XS.dup X162.here hx rfl (hb hby at_72) rfl rfl ?_
          show Steps p.tables e below (T162.setTop (mkF m 73 #[.val (.long q0), .second, .val (.long q1), .second, .val (.int p2), .val (.long q3), .second, .val (.long q4), .second, .val (.int (own_v0_6_0 p2)), .val (.int (0 : Int32)), .val (.int (0 : Int32)), .val (.int (1 : Int32)), .val (.int (own_f4 (nar .char (own_v0_6_0 p2)))), .unset] [(.ref b162), (.ref b162)])) _
          refine XS.lload X162.here hx rfl (hb hby at_73) rfl ?_
          show Steps p.tables e below (T162.setTop (mkF m 75 #[.val (.long q0), .second, .val (.long q1), .second, .val (.int p2), .val (.long q3), .second, .val (.long q4), .second, .val (.int (own_v0_6_0 p2)), .val (.int (0 : Int32)), .val (.int (0 : Int32)), .val (.int (1 : Int32)), .val (.int (own_f4 (nar .char (own_v0_6_0 p2)))), .unset] [(.long q3), (.ref b162), (.ref b162)])) _
          refine XS.lload X162.here hx rfl (hb hby at_75) rfl ?_
          show Steps p.tables e below (T162.setTop (mkF m 77 #[.val (.long q0), .second, .val (.long q1), .second, .val (.int p2), .val (.long q3), .second, .val (.long q4), .second, .val (.int (own_v0_6_0 p2)), .val (.int (0 : Int32)), .val (.int (0 : Int32)), .val (.int (1 : Int32)), .val (.int (own_f4 (nar .char (own_v0_6_0 p2)))), .unset] [(.long q4), (.long q3), (.ref b162), (.ref b162)])) _
          refine XS.iload X162.here hx rfl (hb hby at_77) rfl ?_
          show Steps p.tables e below (T162.setTop (mkF m 79 #[.val (.long q0), .second, .val (.long q1), .second, .val (.int p2), .val (.long q3), .second, .val (.long q4), .second, .val (.int (own_v0_6_0 p2)), .val (.int (0 : Int32)), .val (.int (0 : Int32)), .val (.int (1 : Int32)), .val (.int (own_f4 (nar .char (own_v0_6_0 p2)))), .unset] [(.int (own_v0_6_0 p2)), (.long q4), (.long q3), (.ref b162), (.ref b162)])) _
          refine st173.trans ?_
          show Steps p.tables e below (T173.setTop (mkF m 82 #[.val (.long q0), .second, .val (.long q1), .second, .val (.int p2), .val (.long q3), .second, .val (.long q4), .second, .val (.int (own_v0_6_0 p2)), .val (.int (0 : Int32)), .val (.int (0 : Int32)), .val (.int (1 : Int32)), .val (.int (own_f4 (nar .char (own_v0_6_0 p2)))), .unset] [(.ref b162)])) _
          refine st185.trans ?_
          show Steps p.tables e below (T185.setTop (mkF m 85 #[.val (.long q0), .second, .val (.long q1), .second, .val (.int p2), .val (.long q3), .second, .val (.long q4), .second, .val (.int (own_v0_6_0 p2)), .val (.int (0 : Int32)), .val (.int (0 : Int32)), .val (.int (1 : Int32)), .val (.int (own_f4 (nar .char (own_v0_6_0 p2)))), .unset] [(.int (own_f4 (nar .char (own_v0_6_0 p2))))])) _
          refine XS.istore X185.here hx rfl (hb hby at_85) rfl (l' := #[.val (.long q0), .second, .val (.long q1), .second, .val (.int p2), .val (.long q3), .second, .val (.long q4), .second, .val (.int (own_v0_6_0 p2)), .val (.int (0 : Int32)), .val (.int (0 : Int32)), .val (.int (1 : Int32)), .val (.int (own_f4 (nar .char (own_v0_6_0 p2)))), .val (.int (own_f4 (nar .char (own_v0_6_0 p2))))]) rfl ?_
          show Steps p.tables e below (T185.setTop (mkF m 87 #[.val (.long q0), .second, .val (.long q1), .second, .val (.int p2), .val (.long q3), .second, .val (.long q4), .second, .val (.int (own_v0_6_0 p2)), .val (.int (0 : Int32)), .val (.int (0 : Int32)), .val (.int (1 : Int32)), .val (.int (own_f4 (nar .char (own_v0_6_0 p2)))), .val (.int (own_f4 (nar .char (own_v0_6_0 p2))))] [])) _
          refine XS.iload X185.here hx rfl (hb hby at_87) rfl ?_
          show Steps p.tables e below (T185.setTop (mkF m 89 #[.val (.long q0), .second, .val (.long q1), .second, .val (.int p2), .val (.long q3), .second, .val (.long q4), .second, .val (.int (own_v0_6_0 p2)), .val (.int (0 : Int32)), .val (.int (0 : Int32)), .val (.int (1 : Int32)), .val (.int (own_f4 (nar .char (own_v0_6_0 p2)))), .val (.int (own_f4 (nar .char (own_v0_6_0 p2))))] [(.int (own_f4 (nar .char (own_v0_6_0 p2))))])) _
          refine XS.iload X185.here hx rfl (hb hby at_89) rfl ?_
          show Steps p.tables e below (T185.setTop (mkF m 91 #[.val (.long q0), .second, .val (.long q1), .second, .val (.int p2), .val (.long q3), .second, .val (.long q4), .second, .val (.int (own_v0_6_0 p2)), .val (.int (0 : Int32)), .val (.int (0 : Int32)), .val (.int (1 : Int32)), .val (.int (own_f4 (nar .char (own_v0_6_0 p2)))), .val (.int (own_f4 (nar .char (own_v0_6_0 p2))))] [(.int (1 : Int32)), (.int (own_f4 (nar .char (own_v0_6_0 p2))))])) _
          exact k)
      by_cases hc188 : (own_f4 (nar .char (own_v0_6_0 p2))) = (1 : Int32)
      · have pre189 : ∀ t, Steps p.tables e below (T185.setTop (mkF m 106 #[.val (.long q0), .second, .val (.long q1), .second, .val (.int p2), .val (.long q3), .second, .val (.long q4), .second, .val (.int (own_v0_6_0 p2)), .val (.int (0 : Int32)), .val (.int (0 : Int32)), .val (.int (1 : Int32)), .val (.int (own_f4 (nar .char (own_v0_6_0 p2)))), .val (.int (own_f4 (nar .char (own_v0_6_0 p2))))] [(.int (1 : Int32))])) t → Steps p.tables e below (s₁.setTop (entryFrame m #[(.long q0), (.long q1), (.int p2), (.long q3), (.long q4)] maxLocals)) t := fun t k => pre187 t (by
            refine XS.icmpNo X185.here hx rfl (hb hby at_91) rfl (teq hc188).2 ?_
            show Steps p.tables e below (T185.setTop (mkF m 94 #[.val (.long q0), .second, .val (.long q1), .second, .val (.int p2), .val (.long q3), .second, .val (.long q4), .second, .val (.int (own_v0_6_0 p2)), .val (.int (0 : Int32)), .val (.int (0 : Int32)), .val (.int (1 : Int32)), .val (.int (own_f4 (nar .char (own_v0_6_0 p2)))), .val (.int (own_f4 (nar .char (own_v0_6_0 p2))))] [])) _
            refine XS.iload X185.here hx rfl (hb hby at_94) rfl ?_
            show Steps p.tables e below (T185.setTop (mkF m 96 #[.val (.long q0), .second, .val (.long q1), .second, .val (.int p2), .val (.long q3), .second, .val (.long q4), .second, .val (.int (own_v0_6_0 p2)), .val (.int (0 : Int32)), .val (.int (0 : Int32)), .val (.int (1 : Int32)), .val (.int (own_f4 (nar .char (own_v0_6_0 p2)))), .val (.int (own_f4 (nar .char (own_v0_6_0 p2))))] [(.int (own_f4 (nar .char (own_v0_6_0 p2))))])) _
            refine XS.iload X185.here hx rfl (hb hby at_96) rfl ?_
            show Steps p.tables e below (T185.setTop (mkF m 98 #[.val (.long q0), .second, .val (.long q1), .second, .val (.int p2), .val (.long q3), .second, .val (.long q4), .second, .val (.int (own_v0_6_0 p2)), .val (.int (0 : Int32)), .val (.int (0 : Int32)), .val (.int (1 : Int32)), .val (.int (own_f4 (nar .char (own_v0_6_0 p2)))), .val (.int (own_f4 (nar .char (own_v0_6_0 p2))))] [(.int (1 : Int32)), (.int (own_f4 (nar .char (own_v0_6_0 p2))))])) _
            refine XS.icmpNo X185.here hx rfl (hb hby at_98) rfl (teq hc188).2 ?_
            show Steps p.tables e below (T185.setTop (mkF m 101 #[.val (.long q0), .second, .val (.long q1), .second, .val (.int p2), .val (.long q3), .second, .val (.long q4), .second, .val (.int (own_v0_6_0 p2)), .val (.int (0 : Int32)), .val (.int (0 : Int32)), .val (.int (1 : Int32)), .val (.int (own_f4 (nar .char (own_v0_6_0 p2)))), .val (.int (own_f4 (nar .char (own_v0_6_0 p2))))] [])) _
            refine XS.iconst X185.here hx rfl (hb hby at_101) ?_
            show Steps p.tables e below (T185.setTop (mkF m 102 #[.val (.long q0), .second, .val (.long q1), .second, .val (.int p2), .val (.long q3), .second, .val (.long q4), .second, .val (.int (own_v0_6_0 p2)), .val (.int (0 : Int32)), .val (.int (0 : Int32)), .val (.int (1 : Int32)), .val (.int (own_f4 (nar .char (own_v0_6_0 p2)))), .val (.int (own_f4 (nar .char (own_v0_6_0 p2))))] [(.int (1 : Int32))])) _
            refine XS.goto X185.here hx rfl (pc0 := 102) (pc' := 106) rfl (hb hby at_102) (by decide) (by decide) ?_
            show Steps p.tables e below (T185.setTop (mkF m 106 #[.val (.long q0), .second, .val (.long q1), .second, .val (.int p2), .val (.long q3), .second, .val (.long q4), .second, .val (.int (own_v0_6_0 p2)), .val (.int (0 : Int32)), .val (.int (0 : Int32)), .val (.int (1 : Int32)), .val (.int (own_f4 (nar .char (own_v0_6_0 p2)))), .val (.int (own_f4 (nar .char (own_v0_6_0 p2))))] [(.int (1 : Int32))])) _
            exact k)
        obtain ⟨fs, hr, hrun, hended, hW, hsame⟩ := X185.leave (v := some (.int (1 : Int32))) (fun h => by rw [Bd.returns] at h; cases h)
        refine ⟨_, _, pre189 _ ?_, hrun, hended, _, _, rfl, ?_, ⟨_, rfl⟩, hW, hsame.mono (by decide) (by decide)⟩
        · show Steps p.tables e below (T185.setTop (mkF m 106 #[.val (.long q0), .second, .val (.long q1), .second, .val (.int p2), .val (.long q3), .second, .val (.long q4), .second, .val (.int (own_v0_6_0 p2)), .val (.int (0 : Int32)), .val (.int (0 : Int32)), .val (.int (1 : Int32)), .val (.int (own_f4 (nar .char (own_v0_6_0 p2)))), .val (.int (own_f4 (nar .char (own_v0_6_0 p2))))] [(.int (1 : Int32))])) _
          exact retN X185 hx (t := .boolean) Bd.returns (by simp) (hb hby at_106) hr
        · show own_Q0 Z q0 q1 p2 q3 q4 h0 n0 _ T185.heap _; exact ⟨(by show some (Value.int _) = some (.int (own_f0 p2)); unfold own_f0; rw [if_neg hc2, if_neg hc98, if_pos hc188]), N186⟩
      · have pre190 : ∀ t, Steps p.tables e below (T185.setTop (mkF m 106 #[.val (.long q0), .second, .val (.long q1), .second, .val (.int p2), .val (.long q3), .second, .val (.long q4), .second, .val (.int (own_v0_6_0 p2)), .val (.int (0 : Int32)), .val (.int (0 : Int32)), .val (.int (1 : Int32)), .val (.int (own_f4 (nar .char (own_v0_6_0 p2)))), .val (.int (own_f4 (nar .char (own_v0_6_0 p2))))] [(.int (0 : Int32))])) t → Steps p.tables e below (s₁.setTop (entryFrame m #[(.long q0), (.long q1), (.int p2), (.long q3), (.long q4)] maxLocals)) t := fun t k => pre187 t (by
            refine XS.icmpYes X185.here hx rfl (pc0 := 91) (pc' := 105) rfl (hb hby at_91) rfl (feq hc188).2 (by decide) (by decide) ?_
            show Steps p.tables e below (T185.setTop (mkF m 105 #[.val (.long q0), .second, .val (.long q1), .second, .val (.int p2), .val (.long q3), .second, .val (.long q4), .second, .val (.int (own_v0_6_0 p2)), .val (.int (0 : Int32)), .val (.int (0 : Int32)), .val (.int (1 : Int32)), .val (.int (own_f4 (nar .char (own_v0_6_0 p2)))), .val (.int (own_f4 (nar .char (own_v0_6_0 p2))))] [])) _
            refine XS.iconst X185.here hx rfl (hb hby at_105) ?_
            show Steps p.tables e below (T185.setTop (mkF m 106 #[.val (.long q0), .second, .val (.long q1), .second, .val (.int p2), .val (.long q3), .second, .val (.long q4), .second, .val (.int (own_v0_6_0 p2)), .val (.int (0 : Int32)), .val (.int (0 : Int32)), .val (.int (1 : Int32)), .val (.int (own_f4 (nar .char (own_v0_6_0 p2)))), .val (.int (own_f4 (nar .char (own_v0_6_0 p2))))] [(.int (0 : Int32))])) _
            exact k)
        obtain ⟨fs, hr, hrun, hended, hW, hsame⟩ := X185.leave (v := some (.int (0 : Int32))) (fun h => by rw [Bd.returns] at h; cases h)
        refine ⟨_, _, pre190 _ ?_, hrun, hended, _, _, rfl, ?_, ⟨_, rfl⟩, hW, hsame.mono (by decide) (by decide)⟩
        · show Steps p.tables e below (T185.setTop (mkF m 106 #[.val (.long q0), .second, .val (.long q1), .second, .val (.int p2), .val (.long q3), .second, .val (.long q4), .second, .val (.int (own_v0_6_0 p2)), .val (.int (0 : Int32)), .val (.int (0 : Int32)), .val (.int (1 : Int32)), .val (.int (own_f4 (nar .char (own_v0_6_0 p2)))), .val (.int (own_f4 (nar .char (own_v0_6_0 p2))))] [(.int (0 : Int32))])) _
          exact retN X185 hx (t := .boolean) Bd.returns (by simp) (hb hby at_106) hr
        · show own_Q0 Z q0 q1 p2 q3 q4 h0 n0 _ T185.heap _; exact ⟨(by show some (Value.int _) = some (.int (own_f0 p2)); unfold own_f0; rw [if_neg hc2, if_neg hc98, if_neg hc188]), N186⟩
theorem own_e32 {a b : Int32} : a = b ↔ a.toInt = b.toInt := Int32.toInt_inj.symm
theorem own_e64 {a b : Int64} : a = b ↔ a.toInt = b.toInt := Int64.toInt_inj.symm
theorem own_nar (x : Int32) : nar .char x = x.toUInt32.toUInt16.toUInt32.toInt32 := rfl
theorem own_st (x : Int32) : nar .char (own_v0_6_0 x) = own_v0_6_0 x := by
  rw [own_nar, own_e32]
  have a1 : (_ ∧ _ ∧ (own_v0_6_0 x).toInt < 65536) := c_i2c (x &&& (65535 : Int32))
  have a2 := c_i2c (own_v0_6_0 x)
  have a3 : 0 ≤ (own_v0_6_0 x).toInt := a1.2.1
  omega
theorem own_plain (x : Int32) : own_f0 x = 1 := by
  unfold own_f0
  rw [own_st]
  generalize own_v0_6_0 x = c
  unfold own_f4
  by_cases h1 : c = (90 : Int32)
  · subst h1; decide
  · by_cases h2 : c = (88 : Int32)
    · subst h2; decide
    · simp only [if_neg h1, if_neg h2, if_true]
set_option maxRecDepth 65536 in
set_option maxHeartbeats 40000000 in
theorem comes_1 {Post : Tables → Env → Array Value → State → Outcome → State → Prop} (hpost : ∀ tb e args s v u, (limb_1_1.after args s (.returned v) u = true ∧ limb_1_2.after args s (.returned v) u = true ∧ True) → FrameEnd s (.returned v) u (Jvm.fieldLocs frame_1_writes args s ++ Jvm.arrayLocs frame_1_arrays args s ++ Jvm.staticLocs frame_1_statics s) 16 128 → Post tb e args s (.returned v) u) :
    ArmFor flags0 classFile x code maxLocals ret World_1 tables_1 room_1 Calls_1 rest_1 Pre_1 Post := by
  intro l hfl _ _ p e ha hc hk s m args below hf hA hF happ hP
  obtain ⟨hcalls, hrest, hpre⟩ := hP
  obtain ⟨-, -, -, hnamed, -, -, -, hat⟩ := (Spec.applies_iff hf).mp happ
  obtain ⟨hg, hn⟩ := and_e (Cond.before_iff.mp (show (Jvm.Cond.and given_1 narrow_1).before args s = true from hpre))
  obtain ⟨gc, gr0⟩ := and_e hg
  obtain ⟨ga0, gr1⟩ := and_e gr0
  obtain ⟨ga1, gr2⟩ := and_e gr1
  obtain ⟨ga2, gr3⟩ := and_e gr2
  obtain ⟨ga3, gr4⟩ := and_e gr3
  have ga4 := gr4
  obtain ⟨w0, w1, w2, w3, w4, rfl⟩ : ∃ w0 w1 w2 w3 w4 : Value, args = #[w0, w1, w2, w3, w4] := by
    have hs : args.size = 5 := by simpa [Cond.value, given_1] using gc
    obtain ⟨L⟩ := args
    match L, hs with
    | [w0, w1, w2, w3, w4], _ => exact ⟨w0, w1, w2, w3, w4, rfl⟩
  have hw := fun d (hd : d ∈ tables_1) => atoms_spec (ws := Jvm.Cond.code x code maxLocals ret :: tables_1) hat d (List.mem_cons_of_mem _ hd)
  obtain ⟨i0, ei0⟩ := isL_v ga0
  obtain rfl : w0 = (.long i0) := Option.some.inj ei0
  obtain ⟨i1, ei1⟩ := isL_v ga1
  obtain rfl : w1 = (.long i1) := Option.some.inj ei1
  obtain ⟨i2, ei2⟩ := is_v ga2
  obtain rfl : w2 = (.int i2) := Option.some.inj ei2
  obtain ⟨i3, ei3⟩ := isL_v ga3
  obtain rfl : w3 = (.long i3) := Option.some.inj ei3
  obtain ⟨i4, ei4⟩ := isL_v ga4
  obtain rfl : w4 = (.long i4) := Option.some.inj ei4
  obtain ⟨n, o, h1, h2, h3, _, L, rfl, ⟨hv, N⟩, hq⟩ := own_rm0 l s _ hw tables_1 i0 i1 i2 i3 i4 s.heap s.heap.size (Nat.le_refl _) p e ha hc hk s m _ below hf ((Spec.applies_iff_loose hf).mp happ).1 ⟨rfl, State.Warmed39.refl s, rfl⟩ trivial
  rw [show (own_f0 i2) = (1 : Int32) from own_plain i2] at hv
  subst hv
  refine ⟨n, _, h1, h2, h3, hpost _ _ _ _ _ _ ⟨Cond.after_iff.mpr rfl, Cond.after_iff.mpr (eq_i res_at (Term.int_eval (1)) rfl), trivial⟩ ⟨hq.1, hq.2.1, (hq.2.2.sift fun y hy => Or.inr (N y hy)).mono (by decide) (by decide)⟩⟩
theorem main_1_1 : Claimed_1_1 := comes_1 fun _ _ _ _ _ _ h hF => ⟨h.1, hF⟩
theorem main_1_2 : Claimed_1_2 := comes_1 fun _ _ _ _ _ _ h hF => ⟨h.2.1, hF⟩
end Jvm.Pilot.@@N@@
namespace Jvm.Pilot.@@N@@
open Jvm Jvm.ClassFile Sem Op Lib Jvm.Free Jvm.Stand Jvm.Pilot.@@N@@.Jvm.D
/-! MADE BY PROGRAM (witnessworld.py) out of the Statement's table words and the real class files: 8 classes; the members and pool entries that the words name. The judged class is class 1, her method 1. -/
namespace start1
open Jvm.ClassFile
def u (s : String) : CpInfo := .utf8 (stringToUtf16 s)
/-- a pool by its gaps: so many unusable entries, then the entry; so many at the end -/
def gap : Nat → List CpInfo → List CpInfo
  | 0, r => r
  | n + 1, r => .unusable :: gap n r
def poolList (es : List (Nat × CpInfo)) (last : Nat) : List CpInfo := es.foldr (fun e r => gap e.1 (e.2 :: r)) (gap last [])
def pool (es : List (Nat × CpInfo)) (last : Nat) : Array CpInfo := ⟨poolList es last⟩
def fileOf (pool : Array CpInfo) (this : Nat) (attrs : Array Attribute := #[]) (ms : Array MethodInfo := #[]) (fl : Nat := 33) (sup : Nat := 0) (ifs : Array Nat := #[]) (fds : Array FieldInfo := #[]) : ClassFile where
  minorVersion := 0
  majorVersion := 65
  constantPool := pool
  accessFlags := fl
  thisClass := this
  superClass := sup
  interfaces := ifs
  fields := fds
  methods := ms
  attributes := attrs
def plain (name : String) (sup : Option ClassId) : Class where
  name := name
  kind := .ordinary
  loader := none
  accessFlags := 33
  super := sup
  interfaces := #[]
  cf := none
  fields := #[]
  methods := #[]
  instanceTypes := #[]
  staticTypes := #[]
  resolved := #[]
  callSites := []
  init := .initialized
  statics := none
  mirror := none

def pool0 : Array CpInfo := pool [(5, u "<init>"), (0, u "()V"), (1, .class_ 10), (1, u "java/lang/Object")] 113

def k0c0 : Code := { maxStack := 0, maxLocals := 1, code := object_method_1_code, exceptionTable := #[], attributes := #[] }
def k0m0 : Method := { name := "<init>", desc := "()V", sig := { parameters := [], returnType := none }, accessFlags := 1, code := some k0c0 }
/-- java/lang/Object -/
def k0 : Class := { plain "java/lang/Object" none with
  accessFlags := 33
  interfaces := #[]
  cf := some (fileOf pool0 8 #[] #[{ accessFlags := 1, nameIndex := 5, descriptorIndex := 6, attributes := #[] }] 33 0 #[] #[])
  fields := #[]
  methods := #[k0m0]
  instanceTypes := #[]
  staticTypes := #[]
  resolved := Array.replicate 124 none
  statics := none }

def pool1 : Array CpInfo := pool [(2, .class_ 4), (1, u "java/lang/Object"), (0, u "<init>"), (0, u "()V"), (0, .integer 65535), (0, .class_ 9), (0, u "com/example/kelq/kelq/cli/Job$Stat"), (0, .methodref 8 11), (0, .nameAndType 5 12), (0, u "(JJC)V"), (0, .methodref 8 14), (0, .nameAndType 15 16), (0, u "runs"), (0, u "()Z"), (0, .class_ 18), (0, u "com/example/kelq/kelq/cli/StatRunsPinLaw"), (2, u "law"), (0, u "(JJIJJ)Z")] 7

def k1m0 : Method := { name := "<init>", desc := "()V", sig := { parameters := [], returnType := none }, accessFlags := 1, code := none }
def k1c1 : Code := { maxStack := 7, maxLocals := 15, code := code, exceptionTable := #[], attributes := #[] }
def k1m1 : Method := { name := "law", desc := "(JJIJJ)Z", sig := { parameters := [.long, .long, .int, .long, .long], returnType := some .boolean }, accessFlags := 9, code := some k1c1 }
/-- com/example/kelq/kelq/cli/StatRunsPinLaw -/
def k1 : Class := { plain "com/example/kelq/kelq/cli/StatRunsPinLaw" (some 0) with
  accessFlags := 49
  interfaces := #[]
  cf := some (fileOf pool1 17 #[] #[{ accessFlags := 1, nameIndex := 5, descriptorIndex := 6, attributes := #[] }, { accessFlags := 9, nameIndex := 21, descriptorIndex := 22, attributes := #[] }] 49 2 #[] #[])
  fields := #[]
  methods := #[k1m0, k1m1]
  instanceTypes := #[]
  staticTypes := #[]
  resolved := Array.replicate 30 none
  statics := none }

def pool2 : Array CpInfo := pool [(1, .methodref 2 3), (0, .class_ 4), (0, .nameAndType 5 6), (0, u "java/lang/Object"), (0, u "<init>"), (0, u "()V"), (0, .class_ 8), (0, u "java/lang/Record")] 13

def k2c0 : Code := { maxStack := 1, maxLocals := 1, code := jdk_30_method_1_code, exceptionTable := #[], attributes := #[] }
def k2m0 : Method := { name := "<init>", desc := "()V", sig := { parameters := [], returnType := none }, accessFlags := 4, code := some k2c0 }
/-- java/lang/Record -/
def k2 : Class := { plain "java/lang/Record" (some 0) with
  accessFlags := 1057
  interfaces := #[]
  cf := some (fileOf pool2 7 #[] #[{ accessFlags := 4, nameIndex := 5, descriptorIndex := 6, attributes := #[] }] 1057 2 #[] #[])
  fields := #[]
  methods := #[k2m0]
  instanceTypes := #[]
  staticTypes := #[]
  resolved := Array.replicate 22 none
  statics := none }

def pool3 : Array CpInfo := pool [(1, .methodref 2 3), (0, .class_ 4), (0, .nameAndType 5 6), (0, u "java/lang/Record"), (0, u "<init>"), (0, u "()V"), (0, .fieldref 8 9), (0, .class_ 10), (0, .nameAndType 11 12), (0, u "com/example/kelq/kelq/cli/Job$Stat"), (0, u "parent"), (0, u "J"), (0, .fieldref 8 14), (0, .nameAndType 15 12), (0, u "start"), (0, .fieldref 8 17), (0, .nameAndType 18 19), (0, u "state"), (0, u "C"), (30, u "(JJC)V"), (23, u "runs"), (0, u "()Z"), (8, .class_ 85), (0, u "com/example/kelq/kelq/cli/Job")] 29

def k3c0 : Code := { maxStack := 3, maxLocals := 6, code := prog_4_method_1_code, exceptionTable := #[], attributes := #[] }
def k3m0 : Method := { name := "<init>", desc := "(JJC)V", sig := { parameters := [.long, .long, .char], returnType := none }, accessFlags := 0, code := some k3c0 }
def k3c1 : Code := { maxStack := 2, maxLocals := 1, code := prog_4_method_3_code, exceptionTable := #[], attributes := #[] }
def k3m1 : Method := { name := "runs", desc := "()Z", sig := { parameters := [], returnType := some .boolean }, accessFlags := 0, code := some k3c1 }
/-- com/example/kelq/kelq/cli/Job$Stat -/
def k3 : Class := { plain "com/example/kelq/kelq/cli/Job$Stat" (some 2) with
  accessFlags := 48
  interfaces := #[]
  cf := some (fileOf pool3 8 #[.nestHost 84] #[{ accessFlags := 0, nameIndex := 5, descriptorIndex := 50, attributes := #[] }, { accessFlags := 0, nameIndex := 74, descriptorIndex := 75, attributes := #[] }] 48 2 #[] #[{ accessFlags := 18, nameIndex := 11, descriptorIndex := 12, attributes := #[] }, { accessFlags := 18, nameIndex := 15, descriptorIndex := 12, attributes := #[] }, { accessFlags := 18, nameIndex := 18, descriptorIndex := 19, attributes := #[] }])
  fields := #[{ name := "parent", type := .long, accessFlags := 18, slot := 0, constantValue := 0 }, { name := "start", type := .long, accessFlags := 18, slot := 1, constantValue := 0 }, { name := "state", type := .char, accessFlags := 18, slot := 2, constantValue := 0 }]
  methods := #[k3m0, k3m1]
  instanceTypes := #[.long, .long, .char]
  staticTypes := #[]
  resolved := Array.replicate 115 none
  statics := none }

def pool4 : Array CpInfo := pool [(1, u "java/lang/Cloneable"), (0, .class_ 1), (0, u "java/lang/Object"), (0, .class_ 3)] 3

/-- java/lang/Cloneable -/
def k4 : Class := { plain "java/lang/Cloneable" (some 0) with
  accessFlags := 1537
  interfaces := #[]
  cf := some (fileOf pool4 2 #[] #[] 1537 4 #[] #[])
  fields := #[]
  methods := #[]
  instanceTypes := #[]
  staticTypes := #[]
  resolved := Array.replicate 8 none
  statics := none }

def pool5 : Array CpInfo := pool [(1, u "java/io/Serializable"), (0, .class_ 1), (0, u "java/lang/Object"), (0, .class_ 3)] 3

/-- java/io/Serializable -/
def k5 : Class := { plain "java/io/Serializable" (some 0) with
  accessFlags := 1537
  interfaces := #[]
  cf := some (fileOf pool5 2 #[] #[] 1537 4 #[] #[])
  fields := #[]
  methods := #[]
  instanceTypes := #[]
  staticTypes := #[]
  resolved := Array.replicate 8 none
  statics := none }

/-- the primitive byte -/
def k6 : Class := { plain "byte" none with kind := .primitive 'B', accessFlags := 0x411 }
/-- [B -/
def k7 : Class := { plain "[B" (some 0) with kind := .array 6 .byte, interfaces := #[4, 5], accessFlags := 1041 }

def heap : Heap := #[]
def classes : Array Class := #[k0, k1, k2, k3, k4, k5, k6, k7]
def interned : List (Array UInt16 × Addr) := []
def slotsUsed : Nat := 0
def theMethod : MethodId := ⟨1, 1⟩
def args0 : Array Value := #[.long 5, .long 6, .int 90, .long 7, .long 8]
def aboutOver (below : List Frame) : State where
  vm := { classes := classes, interned := interned.toArray }
  heap := heap
  slotsUsed := slotsUsed
  threads := #[{ frames := .invoking theMethod args0 :: below }]
def below0 : List Frame := [.native { method := ⟨0, 0⟩, args := #[] }]
def about1 : State := aboutOver below0
def p0 : Program := .bare "" "" ""
def e0 : Env := launch0.env 0 0 0
theorem w_frames : about1.frames = Frame.invoking theMethod args0 :: below0 := rfl
set_option maxRecDepth 65536 in
theorem w_args : argsFit about1.vm theMethod args0 = true := by decide +kernel
set_option maxRecDepth 65536 in
theorem w_heap : heapFits about1 = true := by decide +kernel
set_option maxRecDepth 65536 in
theorem w_runnable : about1.curStatus? = some .runnable := by decide +kernel
set_option maxRecDepth 65536 in
theorem w_alone : about1.alone = true := by decide +kernel
set_option maxRecDepth 65536 in
theorem w_named : about1.methodNamed? x = some theMethod := by decide +kernel
set_option maxRecDepth 65536 in
theorem w_hears : about1.hears theMethod below0 = true := by decide +kernel
set_option maxRecDepth 65536 in
theorem w_ripe : about1.ripe theMethod args0 below0 = true := by decide +kernel
theorem w_running : about1.status = .running := rfl
set_option maxRecDepth 65536 in
theorem w_room : about1.hasRoom e0.platform room_1 = true :=
  launch0.hasRoom_least _ room_1 (by decide +kernel) (by decide +kernel) (by decide +kernel) (by decide +kernel) (by decide +kernel) (by decide +kernel)
theorem allAtoms_all (ts : List Jvm.Cond) (a : Array Jvm.Value) (st : Jvm.State) : (allAtoms ts).before a st = ts.all (fun c => c.before a st) := by
  induction ts with
  | nil => rfl
  | cons c t ih =>
    show (Jvm.Cond.and c (allAtoms t)).before a st = _
    rw [Jvm.Cond.before_and, ih, List.all_cons]
def words1 : List Jvm.Cond := Jvm.Cond.code x code maxLocals ret :: tables_1
/-- a 'code' word, met by the world's own term for the bytes: nothing is compared byte by byte -/
theorem code_word {y : MethodName} {bytes : ByteArray} {mx : Nat} {rt : Option FieldType} {a : Array Value} {s : State} {m : MethodId} {meth : Method} {c : Code} (h1 : s.methodNamed? y = some m) (h2 : s.vm.method? m = some meth) (h3 : meth.code = some c) (h4 : c.code = bytes)
    (h5 : (c.maxLocals == mx && c.exceptionTable.isEmpty && decide (c.maxStack ≤ mostOperands) && decide (meth.sig.returnType = rt) && !meth.locks && decide (parseMethodDescriptor y.desc = some meth.sig)) = true) : (Jvm.Cond.code y bytes mx rt).before a s = true := by
  simp only [Bool.and_eq_true, beq_iff_eq, Bool.not_eq_true', decide_eq_true_eq] at h5
  obtain ⟨⟨⟨⟨⟨g1, g2⟩, g3⟩, g4⟩, g5⟩, g6⟩ := h5
  simp [Cond.before, Cond.holds, Cond.value, h1, h2, h3, h4, g1, g2, g3, g4, g5, g6]
def isCode : Jvm.Cond → Bool
  | .code _ _ _ _ => true
  | _ => false
theorem all_split {L : List Jvm.Cond} {P : Jvm.Cond → Bool} (h1 : L.all (fun c => isCode c || P c) = true) (h2 : ∀ c ∈ L.filter isCode, P c = true) : L.all P = true := by
  refine List.all_eq_true.mpr fun c hc => ?_
  have h := List.all_eq_true.mp h1 c hc
  rcases Bool.eq_false_or_eq_true (isCode c) with hi | hi
  · exact h2 c (List.mem_filter.mpr ⟨hc, hi⟩)
  · simpa [hi] using h
set_option maxRecDepth 65536 in
theorem w_c0 : (Jvm.Cond.code x code maxLocals ret).before args0 about1 = true := code_word (m := ⟨1, 1⟩) (meth := k1m1) (c := k1c1) (by decide +kernel) rfl rfl rfl (by decide +kernel)
set_option maxRecDepth 65536 in
theorem w_c1 : (Jvm.Cond.code ({ cls := "com/example/kelq/kelq/cli/Job$Stat", name := "<init>", desc := "(JJC)V" } : Jvm.MethodName) prog_4_method_1_code (6 : Nat) (Option.none : Option Jvm.ClassFile.FieldType)).before args0 about1 = true := code_word (m := ⟨3, 0⟩) (meth := k3m0) (c := k3c0) (by decide +kernel) rfl rfl rfl (by decide +kernel)
set_option maxRecDepth 65536 in
theorem w_c2 : (Jvm.Cond.code ({ cls := "java/lang/Record", name := "<init>", desc := "()V" } : Jvm.MethodName) jdk_30_method_1_code (1 : Nat) (Option.none : Option Jvm.ClassFile.FieldType)).before args0 about1 = true := code_word (m := ⟨2, 0⟩) (meth := k2m0) (c := k2c0) (by decide +kernel) rfl rfl rfl (by decide +kernel)
set_option maxRecDepth 65536 in
theorem w_c3 : (Jvm.Cond.code ({ cls := "java/lang/Object", name := "<init>", desc := "()V" } : Jvm.MethodName) object_method_1_code (1 : Nat) (Option.none : Option Jvm.ClassFile.FieldType)).before args0 about1 = true := code_word (m := ⟨0, 0⟩) (meth := k0m0) (c := k0c0) (by decide +kernel) rfl rfl rfl (by decide +kernel)
set_option maxRecDepth 65536 in
theorem w_c4 : (Jvm.Cond.code ({ cls := "com/example/kelq/kelq/cli/Job$Stat", name := "runs", desc := "()Z" } : Jvm.MethodName) prog_4_method_3_code (1 : Nat) (Option.some Jvm.ClassFile.FieldType.boolean)).before args0 about1 = true := code_word (m := ⟨3, 1⟩) (meth := k3m1) (c := k3c1) (by decide +kernel) rfl rfl rfl (by decide +kernel)
def codes1 : List Jvm.Cond := [Jvm.Cond.code x code maxLocals ret, Jvm.Cond.code ({ cls := "com/example/kelq/kelq/cli/Job$Stat", name := "<init>", desc := "(JJC)V" } : Jvm.MethodName) prog_4_method_1_code (6 : Nat) (Option.none : Option Jvm.ClassFile.FieldType), Jvm.Cond.code ({ cls := "java/lang/Record", name := "<init>", desc := "()V" } : Jvm.MethodName) jdk_30_method_1_code (1 : Nat) (Option.none : Option Jvm.ClassFile.FieldType), Jvm.Cond.code ({ cls := "java/lang/Object", name := "<init>", desc := "()V" } : Jvm.MethodName) object_method_1_code (1 : Nat) (Option.none : Option Jvm.ClassFile.FieldType), Jvm.Cond.code ({ cls := "com/example/kelq/kelq/cli/Job$Stat", name := "runs", desc := "()Z" } : Jvm.MethodName) prog_4_method_3_code (1 : Nat) (Option.some Jvm.ClassFile.FieldType.boolean)]
set_option maxRecDepth 65536 in
theorem codes_eq : words1.filter isCode = codes1 := rfl
theorem w_codes : ∀ c ∈ words1.filter isCode, c.before args0 about1 = true := by
  rw [codes_eq]
  intro c hc
  simp only [codes1, List.mem_cons, List.not_mem_nil, or_false] at hc
  rcases hc with rfl | rfl | rfl | rfl | rfl
  · exact w_c0
  · exact w_c1
  · exact w_c2
  · exact w_c3
  · exact w_c4
set_option maxRecDepth 65536 in
theorem w_t1 : (words1.take 24).all (fun c => isCode c || c.before args0 about1) = true := by decide +kernel
set_option maxRecDepth 65536 in
theorem w_t2 : (words1.drop 24).all (fun c => isCode c || c.before args0 about1) = true := by decide +kernel
theorem w_tables : (allAtoms (Jvm.Cond.code x code maxLocals ret :: tables_1)).before args0 about1 = true := by
  rw [allAtoms_all]
  show words1.all (fun c => c.before args0 about1) = true
  refine all_split ?_ w_codes
  rw [← List.take_append_drop 24 words1, List.all_append, w_t1, w_t2]
  rfl
set_option maxRecDepth 65536 in
theorem w_case : (Jvm.Cond.and given_1 narrow_1).before args0 about1 = true := by decide +kernel
theorem w_applies : (headSpec (Jvm.Cond.code x code maxLocals ret :: tables_1) room_1).applies x e0.platform about1 = true :=
  (Spec.applies_iff w_frames).mpr ⟨w_running, w_runnable, w_alone, w_named, w_hears, w_ripe, w_room, w_tables⟩
theorem atStart : AtStart classFile x code maxLocals ret World_1 tables_1 room_1 Calls_1 rest_1 Pre_1 launch0 p0 e0 about1 theMethod args0 below0 :=
  ⟨lists_1, trivial, launch0.admits_env _ _ _, launch0.least_env, fairChoices_fair.cas, fairChoices_fair.clock, w_frames, w_args, w_heap, w_applies, trivial, trivial, w_case⟩
end start1
theorem witness_1 : WitnessClaimed_1 := ⟨start1.p0, start1.e0, start1.about1, start1.theMethod, start1.args0, start1.below0, start1.atStart⟩
end Jvm.Pilot.@@N@@
