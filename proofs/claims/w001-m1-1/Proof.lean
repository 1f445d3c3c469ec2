import JvmDerived
import JvmDerived.Pilot.@@N@@Statement
import JvmDerived.Pilot.@@N@@Code
set_option linter.unusedVariables false
set_option linter.unusedSimpArgs false
namespace Jvm.RoadKit
open Sem ClassFile Op Lib Jvm.Stand Jvm.Free Jvm.LawKit
section New
variable {p : Program} {l : Launch} {e : Env} {R : Room} {s : State} {m : MethodId} {args : Array Value} {below : List Frame} {meth : Method} {c : Code} {T : State} {locs : List Loc} {cells slots : Nat}
theorem retI (X : Stand p l e R s m args below meth c T locs cells slots) (hx : p.tables.exec = Jvm.exec) {pc : Nat} {Ls : Array Slot} {z : Int32} {rest : List Value} (hret : meth.sig.returnType = some .int) (hd : decode c.code pc = .ok (.ireturn, 1)) {fs : List Frame}
    (hl : ∀ (f : JFrame) (acts : List Action), f.method = m → f.locked = none → f.entered = [] → (doReturn e (T.setTop f) acts (some (.int z))).1 = T.setFrames fs) : Steps p.tables e below (T.setTop (mkF m pc Ls (.int z :: rest))) (T.setFrames fs) := by
  have hm' : T.vm.method? m = some meth := X.method'
  have hn : narrow .int (.int z) = .int z := rfl
  show Steps p.tables e below (T.setTop { method := m, pc := pc, locals := Ls, stack := _ :: rest, locked := none }) _
  jvm_step X.here [X.here.top, hx, hd, hm', hret, hn]
  first | (intro acts; rw [hl _ acts rfl rfl rfl]) | rw [hl _ _ rfl rfl rfl]
  exact Steps.refl _
end New
end Jvm.RoadKit
namespace Jvm.Pilot.@@N@@
open Jvm Jvm.ClassFile Sem Op Lib Jvm.Free Jvm.Stand Jvm.LawKit Jvm.RoadKit Bundle Jvm.Pilot.@@N@@.Jvm.D
theorem own_lw_lt (x y : Int64) : lcmpW x y < 0 ↔ x < y := by rw [lcW]; exact lc_lt x y
theorem own_lw_gt (x y : Int64) : 0 < lcmpW x y ↔ y < x := by rw [lcW]; exact lc_gt x y
theorem own_lw_eq (x y : Int64) : lcmpW x y = 0 ↔ x = y := by rw [lcW]; exact lc_eq x y
theorem own_ne32 {k n : Int32} (h : ¬ k = n) : n.toInt ≠ k.toInt := fun e => h (Int32.toInt_inj.mp e.symm)
theorem own_d2_0 : decode jdk_30_method_1_code 0 = .ok (.aload_n 0, 1) := by decide +kernel
theorem own_d2_1 : decode jdk_30_method_1_code 1 = .ok (.invokespecial 1, 3) := by decide +kernel
theorem own_d2_4 : decode jdk_30_method_1_code 4 = .ok (.return_, 1) := by decide +kernel
theorem own_pn2 : plainName "java/lang/Record" = true := by first | (simp [plainName, overriddenIn]; done) | decide +kernel
theorem own_ef2 (m : MethodId) (x0 : Addr) : entryFrame m #[(.ref x0)] 1 = (mkF m 0 #[.val (.ref x0)] []) := by first | (simp [entryFrame, mkF, argsToLocals, Value.category]; done) | rfl
def own_Q2 (Z : State) (o0 : Addr) (h0 : Heap) (n0 : Nat) (v : Option Value) (h : Heap) (L : List Loc) : Prop := v = none ∧ Fr n0 L ∧ h = h0
set_option maxRecDepth 65536 in
set_option maxHeartbeats 40000000 in
theorem own_rm2 (l : Launch) (Z : State) (a0 : Array Value) (hw : ∀ d ∈ tables_1, d.before a0 Z = true) (ws : List Jvm.Cond) (o0 : Addr) (h0 : Heap) (n0 : Nat) (Z0 : n0 ≤ h0.size) :
    MetFree l (⟨"java/lang/Record", "<init>", "()V"⟩ : MethodName) (head1 (Jvm.Cond.code (⟨"java/lang/Record", "<init>", "()V"⟩ : MethodName) jdk_30_method_1_code 1 none :: ws) ({ frames := 1, cells := 0, slots := 0, locals := 12 } : Room)) (fun a U => a = #[(.ref o0)] ∧ Z.Warmed39 U.vm ∧ U.heap = h0) (fun _ _ _ _ _ => True) (fun _ U o U' => ∃ v L, o = .returned v ∧ own_Q2 Z o0 h0 n0 v U'.heap L ∧ FrameEnd U o U' L ({ frames := 1, cells := 0, slots := 0, locals := 12 } : Room).cells ({ frames := 1, cells := 0, slots := 0, locals := 12 } : Room).slots) := by
  refine MetFree.of_bodySF (plainFor_of_name own_pn2) hisR ?_
  intro p e s m args below meth c s₁ Bd hml0 hP hK
  obtain ⟨rfl, hZ, hh⟩ := hP
  have hx := Bd.exec
  have hby := Bd.bytes
  have hml : c.maxLocals = 1 := hml0
  have hown : s.vm.findClass "java/lang/Record" = some m.cls := findClass_of_methodNamed Bd.named
  have hnm := (name_of_methodNamed Bd.named Bd.method).1
  have X0 : Stand p l e ({ frames := 1, cells := 0, slots := 0, locals := 12 } : Room) s m #[(.ref o0)] below meth c s₁ [] 0 0 := Stand.of_body Bd
  have e0 : s₁.heap = h0 := by rw [← hh, Bd.state]; rfl
  have N0 := Fr.nil n0
  have pre0 : ∀ t, Steps p.tables e below (s₁.setTop (mkF m 0 #[.val (.ref o0)] [])) t → Steps p.tables e below (s₁.setTop (entryFrame m #[(.ref o0)] 1)) t := fun t k => castTop (own_ef2 m o0) k
  obtain ⟨T1, X1, e1, st1⟩ := initO X0 hx hZ hown (hw _ (List.mem_of_getElem? (i := 11) rfl)) (hw _ (List.mem_of_getElem? (i := 12) rfl)) (hw _ (List.mem_of_getElem? (i := 13) rfl)) e0 (g := (mkF m 1 #[.val (.ref o0)] [(.ref o0)])) rfl (by rw [hml]; rfl) rfl (hb hby own_d2_1) (by decide) (W := 0) (by show 2 * 0 + _ ≤ _; exact Nat.le_of_eq rfl) (by decide)
  have pre2 : ∀ t, Steps p.tables e below (T1.setTop (mkF m 4 #[.val (.ref o0)] [])) t → Steps p.tables e below (s₁.setTop (entryFrame m #[(.ref o0)] 1)) t := fun t k => pre0 t (by
      refine XS.aloadN X0.here hx rfl (hb hby own_d2_0) rfl rfl ?_
      show Steps p.tables e below (s₁.setTop (mkF m 1 #[.val (.ref o0)] [(.ref o0)])) _
      refine st1 _ ?_
      show Steps p.tables e below (T1.setTop (mkF m 4 #[.val (.ref o0)] [])) _
      exact k)
  obtain ⟨fs, hr, hrun, hended, hW, hsame⟩ := X1.leave (v := none) (fun _ => rfl)
  refine ⟨_, _, pre2 _ ?_, hrun, hended, _, _, rfl, ?_, ⟨_, rfl⟩, hW, hsame.mono (by decide) (by decide)⟩
  · show Steps p.tables e below (T1.setTop (mkF m 4 #[.val (.ref o0)] [])) _
    exact X1.returnOut hx Bd.returns (hb hby own_d2_4) hr
  · show own_Q2 Z o0 h0 n0 _ T1.heap _; rw [e1]; exact ⟨rfl, N0, rfl⟩
theorem own_pd0 : parseMethodDescriptor "()V" = some ⟨[], none⟩ := by decide +kernel
theorem own_d1_0 : decode prog_48_method_1_code 0 = .ok (.aload_n 0, 1) := by decide +kernel
theorem own_d1_1 : decode prog_48_method_1_code 1 = .ok (.invokespecial 1, 3) := by decide +kernel
theorem own_d1_4 : decode prog_48_method_1_code 4 = .ok (.aload_n 0, 1) := by decide +kernel
theorem own_d1_5 : decode prog_48_method_1_code 5 = .ok (.iload_n 1, 1) := by decide +kernel
theorem own_d1_6 : decode prog_48_method_1_code 6 = .ok (.putfield 7, 3) := by decide +kernel
theorem own_d1_9 : decode prog_48_method_1_code 9 = .ok (.aload_n 0, 1) := by decide +kernel
theorem own_d1_10 : decode prog_48_method_1_code 10 = .ok (.iload_n 2, 1) := by decide +kernel
theorem own_d1_11 : decode prog_48_method_1_code 11 = .ok (.putfield 13, 3) := by decide +kernel
theorem own_d1_14 : decode prog_48_method_1_code 14 = .ok (.aload_n 0, 1) := by decide +kernel
theorem own_d1_15 : decode prog_48_method_1_code 15 = .ok (.iload_n 3, 1) := by decide +kernel
theorem own_d1_16 : decode prog_48_method_1_code 16 = .ok (.putfield 16, 3) := by decide +kernel
theorem own_d1_19 : decode prog_48_method_1_code 19 = .ok (.aload_n 0, 1) := by decide +kernel
theorem own_d1_20 : decode prog_48_method_1_code 20 = .ok (.iload 4, 2) := by decide +kernel
theorem own_d1_22 : decode prog_48_method_1_code 22 = .ok (.putfield 19, 3) := by decide +kernel
theorem own_d1_25 : decode prog_48_method_1_code 25 = .ok (.return_, 1) := by decide +kernel
theorem own_pn1 : plainName "com/example/casewright/engine/RunLedger$Counts" = true := by first | (simp [plainName, overriddenIn]; done) | decide +kernel
theorem own_ef1 (m : MethodId) (x0 : Addr) (x1 : Int32) (x2 : Int32) (x3 : Int32) (x4 : Int32) : entryFrame m #[(.ref x0), (.int x1), (.int x2), (.int x3), (.int x4)] 5 = (mkF m 0 #[.val (.ref x0), .val (.int x1), .val (.int x2), .val (.int x3), .val (.int x4)] []) := by first | (simp [entryFrame, mkF, argsToLocals, Value.category]; done) | rfl
def own_Q1 (Z : State) (o0 : Addr) (p1 : Int32) (p2 : Int32) (p3 : Int32) (p4 : Int32) (u_failures_o0 : Value) (u_errors_o0 : Value) (u_skipped_o0 : Value) (u_run_o0 : Value) (h0 : Heap) (n0 : Nat) (v : Option Value) (h : Heap) (L : List Loc) : Prop := v = none ∧ Fr n0 L ∧ Keep h0 h [o0] ∧ Fld Z h o0 "com/example/casewright/engine/RunLedger$Counts" "failures" "I" (.int p2) ∧ Fld Z h o0 "com/example/casewright/engine/RunLedger$Counts" "errors" "I" (.int p3) ∧ Fld Z h o0 "com/example/casewright/engine/RunLedger$Counts" "skipped" "I" (.int p4) ∧ Exa Z h o0 "com/example/casewright/engine/RunLedger$Counts" ∧ Fld Z h o0 "com/example/casewright/engine/RunLedger$Counts" "run" "I" (.int p1)
set_option maxRecDepth 65536 in
set_option maxHeartbeats 40000000 in
theorem own_rm1 (l : Launch) (Z : State) (a0 : Array Value) (hw : ∀ d ∈ tables_1, d.before a0 Z = true) (ws : List Jvm.Cond) (o0 : Addr) (p1 : Int32) (p2 : Int32) (p3 : Int32) (p4 : Int32) (u_failures_o0 : Value) (u_errors_o0 : Value) (u_skipped_o0 : Value) (u_run_o0 : Value) (h0 : Heap) (n0 : Nat) (Z0 : n0 ≤ h0.size) (P_F_o0_failures : Fld Z h0 o0 "com/example/casewright/engine/RunLedger$Counts" "failures" "I" u_failures_o0) (P_F_o0_errors : Fld Z h0 o0 "com/example/casewright/engine/RunLedger$Counts" "errors" "I" u_errors_o0) (P_F_o0_skipped : Fld Z h0 o0 "com/example/casewright/engine/RunLedger$Counts" "skipped" "I" u_skipped_o0) (P_E_o0 : Exa Z h0 o0 "com/example/casewright/engine/RunLedger$Counts") (P_F_o0_run : Fld Z h0 o0 "com/example/casewright/engine/RunLedger$Counts" "run" "I" u_run_o0) (G_o0 : n0 ≤ o0) :
    MetFree l (⟨"com/example/casewright/engine/RunLedger$Counts", "<init>", "(IIII)V"⟩ : MethodName) (head1 (Jvm.Cond.code (⟨"com/example/casewright/engine/RunLedger$Counts", "<init>", "(IIII)V"⟩ : MethodName) prog_48_method_1_code 5 none :: ws) ({ frames := 2, cells := 0, slots := 0, locals := 24 } : Room)) (fun a U => a = #[(.ref o0), (.int p1), (.int p2), (.int p3), (.int p4)] ∧ Z.Warmed39 U.vm ∧ U.heap = h0) (fun _ _ _ _ _ => True) (fun _ U o U' => ∃ v L, o = .returned v ∧ own_Q1 Z o0 p1 p2 p3 p4 u_failures_o0 u_errors_o0 u_skipped_o0 u_run_o0 h0 n0 v U'.heap L ∧ FrameEnd U o U' L ({ frames := 2, cells := 0, slots := 0, locals := 24 } : Room).cells ({ frames := 2, cells := 0, slots := 0, locals := 24 } : Room).slots) := by
  refine MetFree.of_bodySF (plainFor_of_name own_pn1) hisR ?_
  intro p e s m args below meth c s₁ Bd hml0 hP hK
  obtain ⟨rfl, hZ, hh⟩ := hP
  have hx := Bd.exec
  have hby := Bd.bytes
  have hml : c.maxLocals = 5 := hml0
  have hown : s.vm.findClass "com/example/casewright/engine/RunLedger$Counts" = some m.cls := findClass_of_methodNamed Bd.named
  have hnm := (name_of_methodNamed Bd.named Bd.method).1
  have X0 : Stand p l e ({ frames := 2, cells := 0, slots := 0, locals := 24 } : Room) s m #[(.ref o0), (.int p1), (.int p2), (.int p3), (.int p4)] below meth c s₁ [] 0 0 := Stand.of_body Bd
  have e0 : s₁.heap = h0 := by rw [← hh, Bd.state]; rfl
  have N0 := Fr.nil n0
  have pre0 : ∀ t, Steps p.tables e below (s₁.setTop (mkF m 0 #[.val (.ref o0), .val (.int p1), .val (.int p2), .val (.int p3), .val (.int p4)] [])) t → Steps p.tables e below (s₁.setTop (entryFrame m #[(.ref o0), (.int p1), (.int p2), (.int p3), (.int p4)] 5)) t := fun t k => castTop (own_ef1 m o0 p1 p2 p3 p4) k
  obtain ⟨_, _, ⟨T1, L1, k1, n1⟩, -, X1, ⟨Lc1, hQ1, l1, y1, z1⟩, st1⟩ := X0.specialBack hx (y := (⟨"java/lang/Record", "<init>", "()V"⟩ : MethodName)) rfl hown (mvT hZ (hw _ (List.mem_of_getElem? (i := 6) rfl))) (mvT hZ (hw _ (List.mem_of_getElem? (i := 7) rfl))) (mvT hZ (hw _ (List.mem_of_getElem? (i := 10) rfl))) (by decide) (backOf (W := 0) (own_rm2 l Z a0 hw [] o0 h0 n0 Z0 ) hZ (hw _ (List.mem_of_getElem? (i := 10) rfl)) (hw _ (List.mem_of_getElem? (i := 9) rfl)) (by decide) (by decide)) (g := (mkF m 1 #[.val (.ref o0), .val (.int p1), .val (.int p2), .val (.int p3), .val (.int p4)] [(.ref o0)])) rfl (by rw [hml]; rfl) (Steps.refl _) (a := o0) (argsL := []) (rest := []) (lenOf own_pd0 rfl) rfl (by show 2 * 0 + _ ≤ _; exact Nat.le_of_eq rfl) (hb hby own_d1_1) (fun _ _ => ⟨rfl, e0, (by decide : 0 + 0 ≤ _), (by decide : 0 + 0 ≤ _)⟩)
  dsimp only [Pt.U, Pt.locs, Pt.cells, Pt.slots] at X1 l1 y1 z1 st1 hQ1
  subst l1 y1 z1
  obtain ⟨rfl, N1q, e1⟩ := hQ1
  have N2 := Fr.app N0 N1q
  obtain ⟨T3, h3, X3, e3, W3, st3⟩ := putF X1 hx hZ hown (host := "") (Or.inl (hw _ (List.mem_of_getElem? (i := 14) rfl))) Via.refl e1 P_F_o0_run P_E_o0 (Or.inr ⟨(hw _ (List.mem_of_getElem? (i := 15) rfl)), rfl, hnm⟩) (hw _ (List.mem_of_getElem? (i := 1) rfl)) (ty := .int) (by decide) rfl rfl (g := (mkF m 6 #[.val (.ref o0), .val (.int p1), .val (.int p2), .val (.int p3), .val (.int p4)] [(.int p1), (.ref o0)])) rfl rfl (hb hby own_d1_6)
  have f4 : Fld Z h3 o0 "com/example/casewright/engine/RunLedger$Counts" "failures" "I" u_failures_o0 := P_F_o0_failures.other W3 (Or.inr (slot_ne (Or.inr (hw _ (List.mem_of_getElem? (i := 17) rfl))) (Or.inr (hw _ (List.mem_of_getElem? (i := 15) rfl))) (by decide) (t := .int) (t' := .int) (by decide) (by decide)))
  have f5 : Fld Z h3 o0 "com/example/casewright/engine/RunLedger$Counts" "errors" "I" u_errors_o0 := P_F_o0_errors.other W3 (Or.inr (slot_ne (Or.inr (hw _ (List.mem_of_getElem? (i := 19) rfl))) (Or.inr (hw _ (List.mem_of_getElem? (i := 15) rfl))) (by decide) (t := .int) (t' := .int) (by decide) (by decide)))
  have f6 : Fld Z h3 o0 "com/example/casewright/engine/RunLedger$Counts" "skipped" "I" u_skipped_o0 := P_F_o0_skipped.other W3 (Or.inr (slot_ne (Or.inr (hw _ (List.mem_of_getElem? (i := 21) rfl))) (Or.inr (hw _ (List.mem_of_getElem? (i := 15) rfl))) (by decide) (t := .int) (t' := .int) (by decide) (by decide)))
  have f7 : Exa Z h3 o0 "com/example/casewright/engine/RunLedger$Counts" := P_E_o0.wr W3
  have f8 : Fld Z h3 o0 "com/example/casewright/engine/RunLedger$Counts" "run" "I" (.int p1) := P_F_o0_run.same W3
  have zs9 : n0 ≤ h3.size := Nat.le_trans Z0 (Keep.of_wr W3).1
  have N10 := Fr.snoc X3 N2 G_o0
  have K11 : Keep h0 h0 [o0] := Keep.refl h0 [o0]
  have K12 : Keep h0 h3 [o0] := K11.wr W3 (Or.inl (by simp))
  obtain ⟨T13, h13, X13, e13, W13, st13⟩ := putF X3 hx hZ hown (host := "") (Or.inl (hw _ (List.mem_of_getElem? (i := 16) rfl))) Via.refl e3 f4 f7 (Or.inr ⟨(hw _ (List.mem_of_getElem? (i := 17) rfl)), rfl, hnm⟩) (hw _ (List.mem_of_getElem? (i := 1) rfl)) (ty := .int) (by decide) rfl rfl (g := (mkF m 11 #[.val (.ref o0), .val (.int p1), .val (.int p2), .val (.int p3), .val (.int p4)] [(.int p2), (.ref o0)])) rfl rfl (hb hby own_d1_11)
  have f14 : Fld Z h13 o0 "com/example/casewright/engine/RunLedger$Counts" "failures" "I" (.int p2) := f4.same W13
  have f15 : Fld Z h13 o0 "com/example/casewright/engine/RunLedger$Counts" "errors" "I" u_errors_o0 := f5.other W13 (Or.inr (slot_ne (Or.inr (hw _ (List.mem_of_getElem? (i := 19) rfl))) (Or.inr (hw _ (List.mem_of_getElem? (i := 17) rfl))) (by decide) (t := .int) (t' := .int) (by decide) (by decide)))
  have f16 : Fld Z h13 o0 "com/example/casewright/engine/RunLedger$Counts" "skipped" "I" u_skipped_o0 := f6.other W13 (Or.inr (slot_ne (Or.inr (hw _ (List.mem_of_getElem? (i := 21) rfl))) (Or.inr (hw _ (List.mem_of_getElem? (i := 17) rfl))) (by decide) (t := .int) (t' := .int) (by decide) (by decide)))
  have f17 : Exa Z h13 o0 "com/example/casewright/engine/RunLedger$Counts" := f7.wr W13
  have f18 : Fld Z h13 o0 "com/example/casewright/engine/RunLedger$Counts" "run" "I" (.int p1) := f8.other W13 (Or.inr (slot_ne (Or.inr (hw _ (List.mem_of_getElem? (i := 15) rfl))) (Or.inr (hw _ (List.mem_of_getElem? (i := 17) rfl))) (by decide) (t := .int) (t' := .int) (by decide) (by decide)))
  have zs19 : n0 ≤ h13.size := Nat.le_trans zs9 (Keep.of_wr W13).1
  have N20 := Fr.snoc X13 N10 G_o0
  have K21 : Keep h0 h13 [o0] := K12.wr W13 (Or.inl (by simp))
  obtain ⟨T22, h22, X22, e22, W22, st22⟩ := putF X13 hx hZ hown (host := "") (Or.inl (hw _ (List.mem_of_getElem? (i := 18) rfl))) Via.refl e13 f15 f17 (Or.inr ⟨(hw _ (List.mem_of_getElem? (i := 19) rfl)), rfl, hnm⟩) (hw _ (List.mem_of_getElem? (i := 1) rfl)) (ty := .int) (by decide) rfl rfl (g := (mkF m 16 #[.val (.ref o0), .val (.int p1), .val (.int p2), .val (.int p3), .val (.int p4)] [(.int p3), (.ref o0)])) rfl rfl (hb hby own_d1_16)
  have f23 : Fld Z h22 o0 "com/example/casewright/engine/RunLedger$Counts" "failures" "I" (.int p2) := f14.other W22 (Or.inr (slot_ne (Or.inr (hw _ (List.mem_of_getElem? (i := 17) rfl))) (Or.inr (hw _ (List.mem_of_getElem? (i := 19) rfl))) (by decide) (t := .int) (t' := .int) (by decide) (by decide)))
  have f24 : Fld Z h22 o0 "com/example/casewright/engine/RunLedger$Counts" "errors" "I" (.int p3) := f15.same W22
  have f25 : Fld Z h22 o0 "com/example/casewright/engine/RunLedger$Counts" "skipped" "I" u_skipped_o0 := f16.other W22 (Or.inr (slot_ne (Or.inr (hw _ (List.mem_of_getElem? (i := 21) rfl))) (Or.inr (hw _ (List.mem_of_getElem? (i := 19) rfl))) (by decide) (t := .int) (t' := .int) (by decide) (by decide)))
  have f26 : Exa Z h22 o0 "com/example/casewright/engine/RunLedger$Counts" := f17.wr W22
  have f27 : Fld Z h22 o0 "com/example/casewright/engine/RunLedger$Counts" "run" "I" (.int p1) := f18.other W22 (Or.inr (slot_ne (Or.inr (hw _ (List.mem_of_getElem? (i := 15) rfl))) (Or.inr (hw _ (List.mem_of_getElem? (i := 19) rfl))) (by decide) (t := .int) (t' := .int) (by decide) (by decide)))
  have zs28 : n0 ≤ h22.size := Nat.le_trans zs19 (Keep.of_wr W22).1
  have N29 := Fr.snoc X22 N20 G_o0
  have K30 : Keep h0 h22 [o0] := K21.wr W22 (Or.inl (by simp))
  obtain ⟨T31, h31, X31, e31, W31, st31⟩ := putF X22 hx hZ hown (host := "") (Or.inl (hw _ (List.mem_of_getElem? (i := 20) rfl))) Via.refl e22 f25 f26 (Or.inr ⟨(hw _ (List.mem_of_getElem? (i := 21) rfl)), rfl, hnm⟩) (hw _ (List.mem_of_getElem? (i := 1) rfl)) (ty := .int) (by decide) rfl rfl (g := (mkF m 22 #[.val (.ref o0), .val (.int p1), .val (.int p2), .val (.int p3), .val (.int p4)] [(.int p4), (.ref o0)])) rfl rfl (hb hby own_d1_22)
  have f32 : Fld Z h31 o0 "com/example/casewright/engine/RunLedger$Counts" "failures" "I" (.int p2) := f23.other W31 (Or.inr (slot_ne (Or.inr (hw _ (List.mem_of_getElem? (i := 17) rfl))) (Or.inr (hw _ (List.mem_of_getElem? (i := 21) rfl))) (by decide) (t := .int) (t' := .int) (by decide) (by decide)))
  have f33 : Fld Z h31 o0 "com/example/casewright/engine/RunLedger$Counts" "errors" "I" (.int p3) := f24.other W31 (Or.inr (slot_ne (Or.inr (hw _ (List.mem_of_getElem? (i := 19) rfl))) (Or.inr (hw _ (List.mem_of_getElem? (i := 21) rfl))) (by decide) (t := .int) (t' := .int) (by decide) (by decide)))
  have f34 : Fld Z h31 o0 "com/example/casewright/engine/RunLedger$Counts" "skipped" "I" (.int p4) := f25.same W31
  have f35 : Exa Z h31 o0 "com/example/casewright/engine/RunLedger$Counts" := f26.wr W31
  have f36 : Fld Z h31 o0 "com/example/casewright/engine/RunLedger$Counts" "run" "I" (.int p1) := f27.other W31 (Or.inr (slot_ne (Or.inr (hw _ (List.mem_of_getElem? (i := 15) rfl))) (Or.inr (hw _ (List.mem_of_getElem? (i := 21) rfl))) (by decide) (t := .int) (t' := .int) (by decide) (by decide)))
  have zs37 : n0 ≤ h31.size := Nat.le_trans zs28 (Keep.of_wr W31).1
  have N38 := Fr.snoc X31 N29 G_o0
  have K39 : Keep h0 h31 [o0] := K30.wr W31 (Or.inl (by simp))
  have pre40 : ∀ t, Steps p.tables e below (T31.setTop (mkF m 25 #[.val (.ref o0), .val (.int p1), .val (.int p2), .val (.int p3), .val (.int p4)] [])) t → Steps p.tables e below (s₁.setTop (entryFrame m #[(.ref o0), (.int p1), (.int p2), (.int p3), (.int p4)] 5)) t := fun t k => pre0 t (by
      refine XS.aloadN X0.here hx rfl (hb hby own_d1_0) rfl rfl ?_
      show Steps p.tables e below (s₁.setTop (mkF m 1 #[.val (.ref o0), .val (.int p1), .val (.int p2), .val (.int p3), .val (.int p4)] [(.ref o0)])) _
      refine st1.trans ?_
      show Steps p.tables e below (T1.setTop (mkF m 4 #[.val (.ref o0), .val (.int p1), .val (.int p2), .val (.int p3), .val (.int p4)] [])) _
      refine XS.aloadN X1.here hx rfl (hb hby own_d1_4) rfl rfl ?_
      show Steps p.tables e below (T1.setTop (mkF m 5 #[.val (.ref o0), .val (.int p1), .val (.int p2), .val (.int p3), .val (.int p4)] [(.ref o0)])) _
      refine XS.iloadN X1.here hx rfl (hb hby own_d1_5) rfl ?_
      show Steps p.tables e below (T1.setTop (mkF m 6 #[.val (.ref o0), .val (.int p1), .val (.int p2), .val (.int p3), .val (.int p4)] [(.int p1), (.ref o0)])) _
      refine st3 _ ?_
      show Steps p.tables e below (T3.setTop (mkF m 9 #[.val (.ref o0), .val (.int p1), .val (.int p2), .val (.int p3), .val (.int p4)] [])) _
      refine XS.aloadN X3.here hx rfl (hb hby own_d1_9) rfl rfl ?_
      show Steps p.tables e below (T3.setTop (mkF m 10 #[.val (.ref o0), .val (.int p1), .val (.int p2), .val (.int p3), .val (.int p4)] [(.ref o0)])) _
      refine XS.iloadN X3.here hx rfl (hb hby own_d1_10) rfl ?_
      show Steps p.tables e below (T3.setTop (mkF m 11 #[.val (.ref o0), .val (.int p1), .val (.int p2), .val (.int p3), .val (.int p4)] [(.int p2), (.ref o0)])) _
      refine st13 _ ?_
      show Steps p.tables e below (T13.setTop (mkF m 14 #[.val (.ref o0), .val (.int p1), .val (.int p2), .val (.int p3), .val (.int p4)] [])) _
      refine XS.aloadN X13.here hx rfl (hb hby own_d1_14) rfl rfl ?_
      show Steps p.tables e below (T13.setTop (mkF m 15 #[.val (.ref o0), .val (.int p1), .val (.int p2), .val (.int p3), .val (.int p4)] [(.ref o0)])) _
      refine XS.iloadN X13.here hx rfl (hb hby own_d1_15) rfl ?_
      show Steps p.tables e below (T13.setTop (mkF m 16 #[.val (.ref o0), .val (.int p1), .val (.int p2), .val (.int p3), .val (.int p4)] [(.int p3), (.ref o0)])) _
      refine st22 _ ?_
      show Steps p.tables e below (T22.setTop (mkF m 19 #[.val (.ref o0), .val (.int p1), .val (.int p2), .val (.int p3), .val (.int p4)] [])) _
      refine XS.aloadN X22.here hx rfl (hb hby own_d1_19) rfl rfl ?_
      show Steps p.tables e below (T22.setTop (mkF m 20 #[.val (.ref o0), .val (.int p1), .val (.int p2), .val (.int p3), .val (.int p4)] [(.ref o0)])) _
      refine XS.iload X22.here hx rfl (hb hby own_d1_20) rfl ?_
      show Steps p.tables e below (T22.setTop (mkF m 22 #[.val (.ref o0), .val (.int p1), .val (.int p2), .val (.int p3), .val (.int p4)] [(.int p4), (.ref o0)])) _
      refine st31 _ ?_
      show Steps p.tables e below (T31.setTop (mkF m 25 #[.val (.ref o0), .val (.int p1), .val (.int p2), .val (.int p3), .val (.int p4)] [])) _
      exact k)
  obtain ⟨fs, hr, hrun, hended, hW, hsame⟩ := X31.leave (v := none) (fun _ => rfl)
  refine ⟨_, _, pre40 _ ?_, hrun, hended, _, _, rfl, ?_, ⟨_, rfl⟩, hW, hsame.mono (by decide) (by decide)⟩
  · show Steps p.tables e below (T31.setTop (mkF m 25 #[.val (.ref o0), .val (.int p1), .val (.int p2), .val (.int p3), .val (.int p4)] [])) _
    exact X31.returnOut hx Bd.returns (hb hby own_d1_25) hr
  · show own_Q1 Z o0 p1 p2 p3 p4 u_failures_o0 u_errors_o0 u_skipped_o0 u_run_o0 h0 n0 _ T31.heap _; rw [e31]; exact ⟨rfl, N38, K39, f32, f33, f34, f35, f36⟩
theorem own_d4_0 : decode prog_48_method_2_code 0 = .ok (.aload_n 0, 1) := by decide +kernel
theorem own_d4_1 : decode prog_48_method_2_code 1 = .ok (.getfield 13, 3) := by decide +kernel
theorem own_d4_4 : decode prog_48_method_2_code 4 = .ok (.ifCond .ne 14, 3) := by decide +kernel
theorem own_d4_7 : decode prog_48_method_2_code 7 = .ok (.aload_n 0, 1) := by decide +kernel
theorem own_d4_8 : decode prog_48_method_2_code 8 = .ok (.getfield 16, 3) := by decide +kernel
theorem own_d4_11 : decode prog_48_method_2_code 11 = .ok (.ifCond .ne 7, 3) := by decide +kernel
theorem own_d4_14 : decode prog_48_method_2_code 14 = .ok (.iconst 1, 1) := by decide +kernel
theorem own_d4_15 : decode prog_48_method_2_code 15 = .ok (.goto 4, 3) := by decide +kernel
theorem own_d4_18 : decode prog_48_method_2_code 18 = .ok (.iconst 0, 1) := by decide +kernel
theorem own_d4_19 : decode prog_48_method_2_code 19 = .ok (.ireturn, 1) := by decide +kernel
theorem own_pn4 : plainName "com/example/casewright/engine/RunLedger$Counts" = true := by first | (simp [plainName, overriddenIn]; done) | decide +kernel
theorem own_ef4 (m : MethodId) (x0 : Addr) : entryFrame m #[(.ref x0)] 1 = (mkF m 0 #[.val (.ref x0)] []) := by first | (simp [entryFrame, mkF, argsToLocals, Value.category]; done) | rfl
def own_f4 (w_failures_o0 : Int32) (w_errors_o0 : Int32) : Int32 := (if w_failures_o0 = (0 : Int32) then (if w_errors_o0 = (0 : Int32) then (1 : Int32) else (0 : Int32)) else (0 : Int32))
def own_Q4 (Z : State) (o0 : Addr) (w_failures_o0 : Int32) (w_errors_o0 : Int32) (h0 : Heap) (n0 : Nat) (v : Option Value) (h : Heap) (L : List Loc) : Prop := v = some (.int (own_f4 w_failures_o0 w_errors_o0)) ∧ Fr n0 L ∧ h = h0
set_option maxRecDepth 65536 in
set_option maxHeartbeats 40000000 in
theorem own_rm4 (l : Launch) (Z : State) (a0 : Array Value) (hw : ∀ d ∈ tables_1, d.before a0 Z = true) (ws : List Jvm.Cond) (o0 : Addr) (w_failures_o0 : Int32) (w_errors_o0 : Int32) (h0 : Heap) (n0 : Nat) (Z0 : n0 ≤ h0.size) (P_F_o0_failures : Fld Z h0 o0 "com/example/casewright/engine/RunLedger$Counts" "failures" "I" (.int w_failures_o0)) (P_F_o0_errors : Fld Z h0 o0 "com/example/casewright/engine/RunLedger$Counts" "errors" "I" (.int w_errors_o0)) :
    MetFree l (⟨"com/example/casewright/engine/RunLedger$Counts", "allPassed", "()Z"⟩ : MethodName) (head1 (Jvm.Cond.code (⟨"com/example/casewright/engine/RunLedger$Counts", "allPassed", "()Z"⟩ : MethodName) prog_48_method_2_code 1 (some .boolean) :: ws) ({ frames := 0, cells := 0, slots := 0, locals := 0 } : Room)) (fun a U => a = #[(.ref o0)] ∧ Z.Warmed39 U.vm ∧ U.heap = h0) (fun _ _ _ _ _ => True) (fun _ U o U' => ∃ v L, o = .returned v ∧ own_Q4 Z o0 w_failures_o0 w_errors_o0 h0 n0 v U'.heap L ∧ FrameEnd U o U' L ({ frames := 0, cells := 0, slots := 0, locals := 0 } : Room).cells ({ frames := 0, cells := 0, slots := 0, locals := 0 } : Room).slots) := by
  refine MetFree.of_bodySF (plainFor_of_name own_pn4) hisR ?_
  intro p e s m args below meth c s₁ Bd hml0 hP hK
  obtain ⟨rfl, hZ, hh⟩ := hP
  have hx := Bd.exec
  have hby := Bd.bytes
  have hml : c.maxLocals = 1 := hml0
  have hown : s.vm.findClass "com/example/casewright/engine/RunLedger$Counts" = some m.cls := findClass_of_methodNamed Bd.named
  have hnm := (name_of_methodNamed Bd.named Bd.method).1
  have X0 : Stand p l e ({ frames := 0, cells := 0, slots := 0, locals := 0 } : Room) s m #[(.ref o0)] below meth c s₁ [] 0 0 := Stand.of_body Bd
  have e0 : s₁.heap = h0 := by rw [← hh, Bd.state]; rfl
  have N0 := Fr.nil n0
  have pre0 : ∀ t, Steps p.tables e below (s₁.setTop (mkF m 0 #[.val (.ref o0)] [])) t → Steps p.tables e below (s₁.setTop (entryFrame m #[(.ref o0)] 1)) t := fun t k => castTop (own_ef4 m o0) k
  obtain ⟨T1, X1, e1, st1⟩ := getF X0 hx hZ hown (host := "") (Or.inl (hw _ (List.mem_of_getElem? (i := 16) rfl))) Via.refl e0 P_F_o0_failures (g := (mkF m 1 #[.val (.ref o0)] [(.ref o0)])) rfl rfl (hb hby own_d4_1)
  have pre2 : ∀ t, Steps p.tables e below (T1.setTop (mkF m 4 #[.val (.ref o0)] [(.int w_failures_o0)])) t → Steps p.tables e below (s₁.setTop (entryFrame m #[(.ref o0)] 1)) t := fun t k => pre0 t (by
      refine XS.aloadN X0.here hx rfl (hb hby own_d4_0) rfl rfl ?_
      show Steps p.tables e below (s₁.setTop (mkF m 1 #[.val (.ref o0)] [(.ref o0)])) _
      refine st1 _ ?_
      show Steps p.tables e below (T1.setTop (mkF m 4 #[.val (.ref o0)] [(.int w_failures_o0)])) _
      exact k)
  by_cases hc3 : w_failures_o0 = (0 : Int32)
  · obtain ⟨T4, X4, e4, st4⟩ := getF X1 hx hZ hown (host := "") (Or.inl (hw _ (List.mem_of_getElem? (i := 18) rfl))) Via.refl e1 P_F_o0_errors (g := (mkF m 8 #[.val (.ref o0)] [(.ref o0)])) rfl rfl (hb hby own_d4_8)
    have pre5 : ∀ t, Steps p.tables e below (T4.setTop (mkF m 11 #[.val (.ref o0)] [(.int w_errors_o0)])) t → Steps p.tables e below (s₁.setTop (entryFrame m #[(.ref o0)] 1)) t := fun t k => pre2 t (by
        refine XS.ifNo X1.here hx rfl (hb hby own_d4_4) rfl ((if0 _ _).trans (teq hc3).2) ?_
        show Steps p.tables e below (T1.setTop (mkF m 7 #[.val (.ref o0)] [])) _
        refine XS.aloadN X1.here hx rfl (hb hby own_d4_7) rfl rfl ?_
        show Steps p.tables e below (T1.setTop (mkF m 8 #[.val (.ref o0)] [(.ref o0)])) _
        refine st4 _ ?_
        show Steps p.tables e below (T4.setTop (mkF m 11 #[.val (.ref o0)] [(.int w_errors_o0)])) _
        exact k)
    by_cases hc6 : w_errors_o0 = (0 : Int32)
    · have pre7 : ∀ t, Steps p.tables e below (T4.setTop (mkF m 19 #[.val (.ref o0)] [(.int (1 : Int32))])) t → Steps p.tables e below (s₁.setTop (entryFrame m #[(.ref o0)] 1)) t := fun t k => pre5 t (by
          refine XS.ifNo X4.here hx rfl (hb hby own_d4_11) rfl ((if0 _ _).trans (teq hc6).2) ?_
          show Steps p.tables e below (T4.setTop (mkF m 14 #[.val (.ref o0)] [])) _
          refine XS.iconst X4.here hx rfl (hb hby own_d4_14) ?_
          show Steps p.tables e below (T4.setTop (mkF m 15 #[.val (.ref o0)] [(.int (1 : Int32))])) _
          refine XS.goto X4.here hx rfl (pc0 := 15) (pc' := 19) rfl (hb hby own_d4_15) (by decide) (by decide) ?_
          show Steps p.tables e below (T4.setTop (mkF m 19 #[.val (.ref o0)] [(.int (1 : Int32))])) _
          exact k)
      obtain ⟨fs, hr, hrun, hended, hW, hsame⟩ := X4.leave (v := some (.int (1 : Int32))) (fun h => by rw [Bd.returns] at h; cases h)
      refine ⟨_, _, pre7 _ ?_, hrun, hended, _, _, rfl, ?_, ⟨_, rfl⟩, hW, hsame.mono (by decide) (by decide)⟩
      · show Steps p.tables e below (T4.setTop (mkF m 19 #[.val (.ref o0)] [(.int (1 : Int32))])) _
        exact retN X4 hx (t := .boolean) Bd.returns (by simp) (hb hby own_d4_19) hr
      · show own_Q4 Z o0 w_failures_o0 w_errors_o0 h0 n0 _ T4.heap _; rw [e4]; exact ⟨(by show some (Value.int _) = some (.int (own_f4 w_failures_o0 w_errors_o0)); unfold own_f4; rw [if_pos hc3, if_pos hc6]), N0, rfl⟩
    · have pre8 : ∀ t, Steps p.tables e below (T4.setTop (mkF m 19 #[.val (.ref o0)] [(.int (0 : Int32))])) t → Steps p.tables e below (s₁.setTop (entryFrame m #[(.ref o0)] 1)) t := fun t k => pre5 t (by
          refine XS.ifYes X4.here hx rfl (pc0 := 11) (pc' := 18) rfl (hb hby own_d4_11) rfl ((if0 _ _).trans (feq hc6).2) (by decide) (by decide) ?_
          show Steps p.tables e below (T4.setTop (mkF m 18 #[.val (.ref o0)] [])) _
          refine XS.iconst X4.here hx rfl (hb hby own_d4_18) ?_
          show Steps p.tables e below (T4.setTop (mkF m 19 #[.val (.ref o0)] [(.int (0 : Int32))])) _
          exact k)
      obtain ⟨fs, hr, hrun, hended, hW, hsame⟩ := X4.leave (v := some (.int (0 : Int32))) (fun h => by rw [Bd.returns] at h; cases h)
      refine ⟨_, _, pre8 _ ?_, hrun, hended, _, _, rfl, ?_, ⟨_, rfl⟩, hW, hsame.mono (by decide) (by decide)⟩
      · show Steps p.tables e below (T4.setTop (mkF m 19 #[.val (.ref o0)] [(.int (0 : Int32))])) _
        exact retN X4 hx (t := .boolean) Bd.returns (by simp) (hb hby own_d4_19) hr
      · show own_Q4 Z o0 w_failures_o0 w_errors_o0 h0 n0 _ T4.heap _; rw [e4]; exact ⟨(by show some (Value.int _) = some (.int (own_f4 w_failures_o0 w_errors_o0)); unfold own_f4; rw [if_pos hc3, if_neg hc6]), N0, rfl⟩
  · have pre9 : ∀ t, Steps p.tables e below (T1.setTop (mkF m 19 #[.val (.ref o0)] [(.int (0 : Int32))])) t → Steps p.tables e below (s₁.setTop (entryFrame m #[(.ref o0)] 1)) t := fun t k => pre2 t (by
        refine XS.ifYes X1.here hx rfl (pc0 := 4) (pc' := 18) rfl (hb hby own_d4_4) rfl ((if0 _ _).trans (feq hc3).2) (by decide) (by decide) ?_
        show Steps p.tables e below (T1.setTop (mkF m 18 #[.val (.ref o0)] [])) _
        refine XS.iconst X1.here hx rfl (hb hby own_d4_18) ?_
        show Steps p.tables e below (T1.setTop (mkF m 19 #[.val (.ref o0)] [(.int (0 : Int32))])) _
        exact k)
    obtain ⟨fs, hr, hrun, hended, hW, hsame⟩ := X1.leave (v := some (.int (0 : Int32))) (fun h => by rw [Bd.returns] at h; cases h)
    refine ⟨_, _, pre9 _ ?_, hrun, hended, _, _, rfl, ?_, ⟨_, rfl⟩, hW, hsame.mono (by decide) (by decide)⟩
    · show Steps p.tables e below (T1.setTop (mkF m 19 #[.val (.ref o0)] [(.int (0 : Int32))])) _
      exact retN X1 hx (t := .boolean) Bd.returns (by simp) (hb hby own_d4_19) hr
    · show own_Q4 Z o0 w_failures_o0 w_errors_o0 h0 n0 _ T1.heap _; rw [e1]; exact ⟨(by show some (Value.int _) = some (.int (own_f4 w_failures_o0 w_errors_o0)); unfold own_f4; rw [if_neg hc3]), N0, rfl⟩
theorem own_pd1 : parseMethodDescriptor "(IIII)V" = some ⟨[.int, .int, .int, .int], none⟩ := by decide +kernel
theorem own_pd2 : parseMethodDescriptor "()Z" = some ⟨[], some .boolean⟩ := by decide +kernel
theorem own_pn0 : plainName "com/example/casewright/engine/CountsAllPassedPinLaw" = true := by first | (simp [plainName, overriddenIn]; done) | decide +kernel
theorem own_ef0 (m : MethodId) (x0 : Int32) (x1 : Int32) (x2 : Int32) (x3 : Int32) (x4 : Int32) (x5 : Int32) : entryFrame m #[(.int x0), (.int x1), (.int x2), (.int x3), (.int x4), (.int x5)] maxLocals = (mkF m 0 #[.val (.int x0), .val (.int x1), .val (.int x2), .val (.int x3), .val (.int x4), .val (.int x5), .unset, .unset, .unset, .unset, .unset] []) := by first | (simp [entryFrame, mkF, argsToLocals, Value.category, maxLocals]; done) | rfl
def own_f0 (p1 : Int32) (p2 : Int32) : Int32 := (if (p1 ||| p2) = (0 : Int32) then (if (own_f4 p1 p2) = (1 : Int32) then (if (own_f4 (0 : Int32) (0 : Int32)) = (0 : Int32) then (0 : Int32) else (1 : Int32)) else (0 : Int32)) else (if (own_f4 p1 p2) = (0 : Int32) then (if (own_f4 (0 : Int32) (0 : Int32)) = (0 : Int32) then (0 : Int32) else (1 : Int32)) else (0 : Int32)))
def own_Q0 (Z : State) (p0 : Int32) (p1 : Int32) (p2 : Int32) (p3 : Int32) (p4 : Int32) (p5 : Int32) (h0 : Heap) (n0 : Nat) (v : Option Value) (h : Heap) (L : List Loc) : Prop := v = some (.int (own_f0 p1 p2)) ∧ Fr n0 L
set_option maxRecDepth 65536 in
set_option maxHeartbeats 40000000 in
theorem own_rm0 (l : Launch) (Z : State) (a0 : Array Value) (hw : ∀ d ∈ tables_1, d.before a0 Z = true) (ws : List Jvm.Cond) (p0 : Int32) (p1 : Int32) (p2 : Int32) (p3 : Int32) (p4 : Int32) (p5 : Int32) (h0 : Heap) (n0 : Nat) (Z0 : n0 ≤ h0.size) :
    MetFree l x (head1 (Jvm.Cond.code x code maxLocals ret :: ws) room_1) (fun a U => a = #[(.int p0), (.int p1), (.int p2), (.int p3), (.int p4), (.int p5)] ∧ Z.Warmed39 U.vm ∧ U.heap = h0) (fun _ _ _ _ _ => True) (fun _ U o U' => ∃ v L, o = .returned v ∧ own_Q0 Z p0 p1 p2 p3 p4 p5 h0 n0 v U'.heap L ∧ FrameEnd U o U' L room_1.cells room_1.slots) := by
  refine MetFree.of_bodySF (plainFor_of_name own_pn0) hisR ?_
  intro p e s m args below meth c s₁ Bd hml0 hP hK
  obtain ⟨rfl, hZ, hh⟩ := hP
  have hx := Bd.exec
  have hby := Bd.bytes
  have hml : c.maxLocals = 11 := hml0
  have hown : s.vm.findClass "com/example/casewright/engine/CountsAllPassedPinLaw" = some m.cls := findClass_of_methodNamed Bd.named
  have hnm := (name_of_methodNamed Bd.named Bd.method).1
  have X0 : Stand p l e room_1 s m #[(.int p0), (.int p1), (.int p2), (.int p3), (.int p4), (.int p5)] below meth c s₁ [] 0 0 := Stand.of_body Bd
  have e0 : s₁.heap = h0 := by rw [← hh, Bd.state]; rfl
  have N0 := Fr.nil n0
  have pre0 : ∀ t, Steps p.tables e below (s₁.setTop (mkF m 0 #[.val (.int p0), .val (.int p1), .val (.int p2), .val (.int p3), .val (.int p4), .val (.int p5), .unset, .unset, .unset, .unset, .unset] [])) t → Steps p.tables e below (s₁.setTop (entryFrame m #[(.int p0), (.int p1), (.int p2), (.int p3), (.int p4), (.int p5)] maxLocals)) t := fun t k => castTop (own_ef0 m p0 p1 p2 p3 p4 p5) k
  obtain ⟨T1, h1, X1, e1, E1, A1, D1, -, st1⟩ := newO X0 hx hZ hown (hw _ (List.mem_of_getElem? (i := 0) rfl)) (hw _ (List.mem_of_getElem? (i := 1) rfl)) (hw _ (List.mem_of_getElem? (i := 2) rfl)) e0 (g := (mkF m 0 #[.val (.int p0), .val (.int p1), .val (.int p2), .val (.int p3), .val (.int p4), .val (.int p5), .unset, .unset, .unset, .unset, .unset] [])) rfl (hb hby at_0) (by decide) (by decide)
  obtain ⟨b1, g1⟩ : ∃ z, z = h0.size := ⟨_, rfl⟩
  rw [← g1] at A1 D1 st1
  have g_b1 : n0 ≤ b1 := Nat.le_trans Z0 (Nat.le_of_eq g1.symm)
  have K2 : Keep h0 h0 [] := Keep.refl h0 []
  have sz_b1 : h0.size ≤ b1 := Nat.le_trans K2.1 (Nat.le_of_eq g1.symm)
  have zs3 : n0 ≤ h1.size := Nat.le_trans Z0 E1.1
  have K4 : Keep h0 h1 [] := K2.ext E1
  have f5 : Fld Z h1 b1 "com/example/casewright/engine/RunLedger$Counts" "run" "I" (.int (0 : Int32)) := D1 (Or.inr (hw _ (List.mem_of_getElem? (i := 15) rfl))) (ty := .int) (by decide)
  have f6 : Fld Z h1 b1 "com/example/casewright/engine/RunLedger$Counts" "failures" "I" (.int (0 : Int32)) := D1 (Or.inr (hw _ (List.mem_of_getElem? (i := 17) rfl))) (ty := .int) (by decide)
  have f7 : Fld Z h1 b1 "com/example/casewright/engine/RunLedger$Counts" "errors" "I" (.int (0 : Int32)) := D1 (Or.inr (hw _ (List.mem_of_getElem? (i := 19) rfl))) (ty := .int) (by decide)
  have f8 : Fld Z h1 b1 "com/example/casewright/engine/RunLedger$Counts" "skipped" "I" (.int (0 : Int32)) := D1 (Or.inr (hw _ (List.mem_of_getElem? (i := 21) rfl))) (ty := .int) (by decide)
  obtain ⟨_, _, ⟨T9, L9, k9, n9⟩, -, X9, ⟨Lc9, hQ9, l9, y9, z9⟩, st9⟩ := X1.specialBack hx (y := (⟨"com/example/casewright/engine/RunLedger$Counts", "<init>", "(IIII)V"⟩ : MethodName)) rfl hown (mvT hZ (hw _ (List.mem_of_getElem? (i := 3) rfl))) (mvT hZ (hw _ (List.mem_of_getElem? (i := 4) rfl))) (mvT hZ (hw _ (List.mem_of_getElem? (i := 5) rfl))) (by decide) (backOf (W := 1) (own_rm1 l Z a0 hw [] b1 p0 p1 p2 p3 (.int (0 : Int32)) (.int (0 : Int32)) (.int (0 : Int32)) (.int (0 : Int32)) h1 n0 zs3 f6 f7 f8 A1 f5 g_b1) hZ (hw _ (List.mem_of_getElem? (i := 5) rfl)) (hw _ (List.mem_of_getElem? (i := 2) rfl)) (by decide) (by decide)) (g := (mkF m 8 #[.val (.int p0), .val (.int p1), .val (.int p2), .val (.int p3), .val (.int p4), .val (.int p5), .unset, .unset, .unset, .unset, .unset] [(.int p3), (.int p2), (.int p1), (.int p0), (.ref b1), (.ref b1)])) rfl (by rw [hml]; rfl) (Steps.refl _) (a := b1) (argsL := [(.int p0), (.int p1), (.int p2), (.int p3)]) (rest := [(.ref b1)]) (lenOf own_pd1 rfl) rfl (by show 2 * 0 + _ ≤ _; exact Nat.le_of_eq rfl) (hb hby at_8) (fun _ _ => ⟨rfl, e1, (by decide : 1 + 0 ≤ _), (by decide : 4 + 0 ≤ _)⟩)
  dsimp only [Pt.U, Pt.locs, Pt.cells, Pt.slots] at X9 l9 y9 z9 st9 hQ9
  subst l9 y9 z9
  obtain ⟨rfl, N9q, K9, f10, f11, f12, f13, f14⟩ := hQ9
  have zs15 : n0 ≤ T9.heap.size := Nat.le_trans zs3 K9.1
  have K16 : Keep h0 T9.heap [] := K4.trans K9 (allS (Or.inr sz_b1) all0)
  have N17 := Fr.app N0 N9q
  have pre18 : ∀ t, Steps p.tables e below (T9.setTop (mkF m 16 #[.val (.int p0), .val (.int p1), .val (.int p2), .val (.int p3), .val (.int p4), .val (.int p5), .val (.ref b1), .unset, .unset, .unset, .unset] [(.int (p1 ||| p2))])) t → Steps p.tables e below (s₁.setTop (entryFrame m #[(.int p0), (.int p1), (.int p2), (.int p3), (.int p4), (.int p5)] maxLocals)) t := fun t k => pre0 t (by
      refine st1 _ ?_
      show Steps p.tables e below (T1.setTop (mkF m 3 #[.val (.int p0), .val (.int p1), .val (.int p2), .val (.int p3), .val (.int p4), .val (.int p5), .unset, .unset, .unset, .unset, .unset] [(.ref b1)])) _
      refine XS.dup X1.here hx rfl (hb hby at_3) rfl rfl ?_
      show Steps p.tables e below (T1.setTop (mkF m 4 #[.val (.int p0), .val (.int p1), .val (.int p2), .val (.int p3), .val (.int p4), .val (.int p5), .unset, .unset, .unset, .unset, .unset] [(.ref b1), (.ref b1)])) _
      refine XS.iloadN X1.here hx rfl (hb hby at_4) rfl ?_
      show Steps p.tables e below (T1.setTop (mkF m 5 #[.val (.int p0), .val (.int p1), .val (.int p2), .val (.int p3), .val (.int p4), .val (.int p5), .unset, .unset, .unset, .unset, .unset] [(.int p0), (.ref b1), (.ref b1)])) _
      refine XS.iloadN X1.here hx rfl (hb hby at_5) rfl ?_
      show Steps p.tables e below (T1.setTop (mkF m 6 #[.val (.int p0), .val (.int p1), .val (.int p2), .val (.int p3), .val (.int p4), .val (.int p5), .unset, .unset, .unset, .unset, .unset] [(.int p1), (.int p0), (.ref b1), (.ref b1)])) _
      refine XS.iloadN X1.here hx rfl (hb hby at_6) rfl ?_
      show Steps p.tables e below (T1.setTop (mkF m 7 #[.val (.int p0), .val (.int p1), .val (.int p2), .val (.int p3), .val (.int p4), .val (.int p5), .unset, .unset, .unset, .unset, .unset] [(.int p2), (.int p1), (.int p0), (.ref b1), (.ref b1)])) _
      refine XS.iloadN X1.here hx rfl (hb hby at_7) rfl ?_
      show Steps p.tables e below (T1.setTop (mkF m 8 #[.val (.int p0), .val (.int p1), .val (.int p2), .val (.int p3), .val (.int p4), .val (.int p5), .unset, .unset, .unset, .unset, .unset] [(.int p3), (.int p2), (.int p1), (.int p0), (.ref b1), (.ref b1)])) _
      refine st9.trans ?_
      show Steps p.tables e below (T9.setTop (mkF m 11 #[.val (.int p0), .val (.int p1), .val (.int p2), .val (.int p3), .val (.int p4), .val (.int p5), .unset, .unset, .unset, .unset, .unset] [(.ref b1)])) _
      refine XS.astore X9.here hx rfl (hb hby at_11) rfl rfl (l' := #[.val (.int p0), .val (.int p1), .val (.int p2), .val (.int p3), .val (.int p4), .val (.int p5), .val (.ref b1), .unset, .unset, .unset, .unset]) rfl ?_
      show Steps p.tables e below (T9.setTop (mkF m 13 #[.val (.int p0), .val (.int p1), .val (.int p2), .val (.int p3), .val (.int p4), .val (.int p5), .val (.ref b1), .unset, .unset, .unset, .unset] [])) _
      refine XS.iloadN X9.here hx rfl (hb hby at_13) rfl ?_
      show Steps p.tables e below (T9.setTop (mkF m 14 #[.val (.int p0), .val (.int p1), .val (.int p2), .val (.int p3), .val (.int p4), .val (.int p5), .val (.ref b1), .unset, .unset, .unset, .unset] [(.int p1)])) _
      refine XS.iloadN X9.here hx rfl (hb hby at_14) rfl ?_
      show Steps p.tables e below (T9.setTop (mkF m 15 #[.val (.int p0), .val (.int p1), .val (.int p2), .val (.int p3), .val (.int p4), .val (.int p5), .val (.ref b1), .unset, .unset, .unset, .unset] [(.int p2), (.int p1)])) _
      refine XS.ior X9.here hx rfl (hb hby at_15) rfl ?_
      show Steps p.tables e below (T9.setTop (mkF m 16 #[.val (.int p0), .val (.int p1), .val (.int p2), .val (.int p3), .val (.int p4), .val (.int p5), .val (.ref b1), .unset, .unset, .unset, .unset] [(.int (p1 ||| p2))])) _
      exact k)
  by_cases hc19 : (p1 ||| p2) = (0 : Int32)
  · obtain ⟨cq20, kq20, q20a, q20b, q20c⟩ := isOf hZ rfl f13
    obtain ⟨_, _, ⟨T20, L20, k20, n20⟩, -, X20, ⟨Lc20, hQ20, l20, y20, z20⟩, st20⟩ := X9.virtualBack hx (y := (⟨"com/example/casewright/engine/RunLedger$Counts", "allPassed", "()Z"⟩ : MethodName)) (z := (⟨"com/example/casewright/engine/RunLedger$Counts", "allPassed", "()Z"⟩ : MethodName)) hown (mvT hZ (hw _ (List.mem_of_getElem? (i := 22) rfl))) (mvT hZ (hw _ (List.mem_of_getElem? (i := 23) rfl))) (notFace_of_selects (args := #[]) (mvT hZ (hw _ (List.mem_of_getElem? (i := 25) rfl)))) (mvT hZ (hw _ (List.mem_of_getElem? (i := 25) rfl))) (mvT hZ (hw _ (List.mem_of_getElem? (i := 24) rfl))) (by decide) (backOf (W := 0) (own_rm4 l Z a0 hw [] b1 p1 p2 T9.heap n0 zs15 f10 f11) hZ (hw _ (List.mem_of_getElem? (i := 26) rfl)) (hw _ (List.mem_of_getElem? (i := 2) rfl)) (by decide) (by decide)) q20a q20c (g := (mkF m 28 #[.val (.int p0), .val (.int p1), .val (.int p2), .val (.int p3), .val (.int p4), .val (.int p5), .val (.ref b1), .val (.int (1 : Int32)), .unset, .unset, .unset] [(.ref b1)])) rfl (by rw [hml]; rfl) (Steps.refl _) (argsL := []) (rest := []) (lenOf own_pd2 rfl) rfl (by show 2 * 0 + _ ≤ _; exact Nat.le_of_eq rfl) (hb hby at_28) (fun _ _ => ⟨rfl, rfl, (by decide : 1 + 0 ≤ _), (by decide : 4 + 0 ≤ _)⟩)
    dsimp only [Pt.U, Pt.locs, Pt.cells, Pt.slots] at X20 l20 y20 z20 st20 hQ20
    subst l20 y20 z20
    obtain ⟨rfl, N20q, e20⟩ := hQ20
    have N21 := Fr.app N17 N20q
    obtain ⟨T22, h22, X22, e22, E22, A22, D22, -, st22⟩ := newO X20 hx hZ hown (hw _ (List.mem_of_getElem? (i := 0) rfl)) (hw _ (List.mem_of_getElem? (i := 1) rfl)) (hw _ (List.mem_of_getElem? (i := 2) rfl)) e20 (g := (mkF m 33 #[.val (.int p0), .val (.int p1), .val (.int p2), .val (.int p3), .val (.int p4), .val (.int p5), .val (.ref b1), .val (.int (1 : Int32)), .val (.int (own_f4 p1 p2)), .unset, .unset] [])) rfl (hb hby at_33) (by decide) (by decide)
    obtain ⟨b22, g22⟩ : ∃ z, z = T9.heap.size := ⟨_, rfl⟩
    rw [← g22] at A22 D22 st22
    have g_b22 : n0 ≤ b22 := Nat.le_trans zs15 (Nat.le_of_eq g22.symm)
    have sz_b22 : h0.size ≤ b22 := Nat.le_trans K16.1 (Nat.le_of_eq g22.symm)
    have lt23 : b1 < b22 := Nat.lt_of_lt_of_le f12.lt (Nat.le_of_eq g22.symm)
    have f24 : Exa Z h22 b1 "com/example/casewright/engine/RunLedger$Counts" := f13.ext E22
    have f25 : Fld Z h22 b1 "com/example/casewright/engine/RunLedger$Counts" "run" "I" (.int p0) := f14.ext E22
    have f26 : Fld Z h22 b1 "com/example/casewright/engine/RunLedger$Counts" "failures" "I" (.int p1) := f10.ext E22
    have f27 : Fld Z h22 b1 "com/example/casewright/engine/RunLedger$Counts" "errors" "I" (.int p2) := f11.ext E22
    have f28 : Fld Z h22 b1 "com/example/casewright/engine/RunLedger$Counts" "skipped" "I" (.int p3) := f12.ext E22
    have zs29 : n0 ≤ h22.size := Nat.le_trans zs15 E22.1
    have K30 : Keep h0 h22 [] := K16.ext E22
    have f31 : Fld Z h22 b22 "com/example/casewright/engine/RunLedger$Counts" "run" "I" (.int (0 : Int32)) := D22 (Or.inr (hw _ (List.mem_of_getElem? (i := 15) rfl))) (ty := .int) (by decide)
    have f32 : Fld Z h22 b22 "com/example/casewright/engine/RunLedger$Counts" "failures" "I" (.int (0 : Int32)) := D22 (Or.inr (hw _ (List.mem_of_getElem? (i := 17) rfl))) (ty := .int) (by decide)
    have f33 : Fld Z h22 b22 "com/example/casewright/engine/RunLedger$Counts" "errors" "I" (.int (0 : Int32)) := D22 (Or.inr (hw _ (List.mem_of_getElem? (i := 19) rfl))) (ty := .int) (by decide)
    have f34 : Fld Z h22 b22 "com/example/casewright/engine/RunLedger$Counts" "skipped" "I" (.int (0 : Int32)) := D22 (Or.inr (hw _ (List.mem_of_getElem? (i := 21) rfl))) (ty := .int) (by decide)
    obtain ⟨_, _, ⟨T35, L35, k35, n35⟩, -, X35, ⟨Lc35, hQ35, l35, y35, z35⟩, st35⟩ := X22.specialBack hx (y := (⟨"com/example/casewright/engine/RunLedger$Counts", "<init>", "(IIII)V"⟩ : MethodName)) rfl hown (mvT hZ (hw _ (List.mem_of_getElem? (i := 3) rfl))) (mvT hZ (hw _ (List.mem_of_getElem? (i := 4) rfl))) (mvT hZ (hw _ (List.mem_of_getElem? (i := 5) rfl))) (by decide) (backOf (W := 1) (own_rm1 l Z a0 hw [] b22 p4 p1 p2 p5 (.int (0 : Int32)) (.int (0 : Int32)) (.int (0 : Int32)) (.int (0 : Int32)) h22 n0 zs29 f32 f33 f34 A22 f31 g_b22) hZ (hw _ (List.mem_of_getElem? (i := 5) rfl)) (hw _ (List.mem_of_getElem? (i := 2) rfl)) (by decide) (by decide)) (g := (mkF m 43 #[.val (.int p0), .val (.int p1), .val (.int p2), .val (.int p3), .val (.int p4), .val (.int p5), .val (.ref b1), .val (.int (1 : Int32)), .val (.int (own_f4 p1 p2)), .unset, .unset] [(.int p5), (.int p2), (.int p1), (.int p4), (.ref b22), (.ref b22)])) rfl (by rw [hml]; rfl) (Steps.refl _) (a := b22) (argsL := [(.int p4), (.int p1), (.int p2), (.int p5)]) (rest := [(.ref b22)]) (lenOf own_pd1 rfl) rfl (by show 2 * 0 + _ ≤ _; exact Nat.le_of_eq rfl) (hb hby at_43) (fun _ _ => ⟨rfl, e22, (by decide : 2 + 0 ≤ _), (by decide : 8 + 0 ≤ _)⟩)
    dsimp only [Pt.U, Pt.locs, Pt.cells, Pt.slots] at X35 l35 y35 z35 st35 hQ35
    subst l35 y35 z35
    obtain ⟨rfl, N35q, K35, f36, f37, f38, f39, f40⟩ := hQ35
    have f41 : Exa Z T35.heap b1 "com/example/casewright/engine/RunLedger$Counts" := f24.keep K35
    have f42 : Fld Z T35.heap b1 "com/example/casewright/engine/RunLedger$Counts" "run" "I" (.int p0) := f25.keep K35 (ninS (Nat.ne_of_lt lt23) nin0)
    have f43 : Fld Z T35.heap b1 "com/example/casewright/engine/RunLedger$Counts" "failures" "I" (.int p1) := f26.keep K35 (ninS (Nat.ne_of_lt lt23) nin0)
    have f44 : Fld Z T35.heap b1 "com/example/casewright/engine/RunLedger$Counts" "errors" "I" (.int p2) := f27.keep K35 (ninS (Nat.ne_of_lt lt23) nin0)
    have f45 : Fld Z T35.heap b1 "com/example/casewright/engine/RunLedger$Counts" "skipped" "I" (.int p3) := f28.keep K35 (ninS (Nat.ne_of_lt lt23) nin0)
    have zs46 : n0 ≤ T35.heap.size := Nat.le_trans zs29 K35.1
    have K47 : Keep h0 T35.heap [] := K30.trans K35 (allS (Or.inr sz_b22) all0)
    have N48 := Fr.app N21 N35q
    obtain ⟨cq49, kq49, q49a, q49b, q49c⟩ := isOf hZ rfl f39
    obtain ⟨_, _, ⟨T49, L49, k49, n49⟩, -, X49, ⟨Lc49, hQ49, l49, y49, z49⟩, st49⟩ := X35.virtualBack hx (y := (⟨"com/example/casewright/engine/RunLedger$Counts", "allPassed", "()Z"⟩ : MethodName)) (z := (⟨"com/example/casewright/engine/RunLedger$Counts", "allPassed", "()Z"⟩ : MethodName)) hown (mvT hZ (hw _ (List.mem_of_getElem? (i := 22) rfl))) (mvT hZ (hw _ (List.mem_of_getElem? (i := 23) rfl))) (notFace_of_selects (args := #[]) (mvT hZ (hw _ (List.mem_of_getElem? (i := 25) rfl)))) (mvT hZ (hw _ (List.mem_of_getElem? (i := 25) rfl))) (mvT hZ (hw _ (List.mem_of_getElem? (i := 24) rfl))) (by decide) (backOf (W := 0) (own_rm4 l Z a0 hw [] b22 p1 p2 T35.heap n0 zs46 f36 f37) hZ (hw _ (List.mem_of_getElem? (i := 26) rfl)) (hw _ (List.mem_of_getElem? (i := 2) rfl)) (by decide) (by decide)) q49a q49c (g := (mkF m 46 #[.val (.int p0), .val (.int p1), .val (.int p2), .val (.int p3), .val (.int p4), .val (.int p5), .val (.ref b1), .val (.int (1 : Int32)), .val (.int (own_f4 p1 p2)), .unset, .unset] [(.ref b22)])) rfl (by rw [hml]; rfl) (Steps.refl _) (argsL := []) (rest := []) (lenOf own_pd2 rfl) rfl (by show 2 * 0 + _ ≤ _; exact Nat.le_of_eq rfl) (hb hby at_46) (fun _ _ => ⟨rfl, rfl, (by decide : 2 + 0 ≤ _), (by decide : 8 + 0 ≤ _)⟩)
    dsimp only [Pt.U, Pt.locs, Pt.cells, Pt.slots] at X49 l49 y49 z49 st49 hQ49
    subst l49 y49 z49
    obtain ⟨rfl, N49q, e49⟩ := hQ49
    have N50 := Fr.app N48 N49q
    obtain ⟨T51, h51, X51, e51, E51, A51, D51, -, st51⟩ := newO X49 hx hZ hown (hw _ (List.mem_of_getElem? (i := 0) rfl)) (hw _ (List.mem_of_getElem? (i := 1) rfl)) (hw _ (List.mem_of_getElem? (i := 2) rfl)) e49 (g := (mkF m 51 #[.val (.int p0), .val (.int p1), .val (.int p2), .val (.int p3), .val (.int p4), .val (.int p5), .val (.ref b1), .val (.int (1 : Int32)), .val (.int (own_f4 p1 p2)), .val (.int (own_f4 p1 p2)), .unset] [])) rfl (hb hby at_51) (by decide) (by decide)
    obtain ⟨b51, g51⟩ : ∃ z, z = T35.heap.size := ⟨_, rfl⟩
    rw [← g51] at A51 D51 st51
    have g_b51 : n0 ≤ b51 := Nat.le_trans zs46 (Nat.le_of_eq g51.symm)
    have sz_b51 : h0.size ≤ b51 := Nat.le_trans K47.1 (Nat.le_of_eq g51.symm)
    have lt52 : b1 < b51 := Nat.lt_of_lt_of_le f45.lt (Nat.le_of_eq g51.symm)
    have lt53 : b22 < b51 := Nat.lt_of_lt_of_le f38.lt (Nat.le_of_eq g51.symm)
    have f54 : Exa Z h51 b1 "com/example/casewright/engine/RunLedger$Counts" := f41.ext E51
    have f55 : Fld Z h51 b1 "com/example/casewright/engine/RunLedger$Counts" "run" "I" (.int p0) := f42.ext E51
    have f56 : Fld Z h51 b1 "com/example/casewright/engine/RunLedger$Counts" "failures" "I" (.int p1) := f43.ext E51
    have f57 : Fld Z h51 b1 "com/example/casewright/engine/RunLedger$Counts" "errors" "I" (.int p2) := f44.ext E51
    have f58 : Fld Z h51 b1 "com/example/casewright/engine/RunLedger$Counts" "skipped" "I" (.int p3) := f45.ext E51
    have f59 : Exa Z h51 b22 "com/example/casewright/engine/RunLedger$Counts" := f39.ext E51
    have f60 : Fld Z h51 b22 "com/example/casewright/engine/RunLedger$Counts" "run" "I" (.int p4) := f40.ext E51
    have f61 : Fld Z h51 b22 "com/example/casewright/engine/RunLedger$Counts" "failures" "I" (.int p1) := f36.ext E51
    have f62 : Fld Z h51 b22 "com/example/casewright/engine/RunLedger$Counts" "errors" "I" (.int p2) := f37.ext E51
    have f63 : Fld Z h51 b22 "com/example/casewright/engine/RunLedger$Counts" "skipped" "I" (.int p5) := f38.ext E51
    have zs64 : n0 ≤ h51.size := Nat.le_trans zs46 E51.1
    have K65 : Keep h0 h51 [] := K47.ext E51
    have f66 : Fld Z h51 b51 "com/example/casewright/engine/RunLedger$Counts" "run" "I" (.int (0 : Int32)) := D51 (Or.inr (hw _ (List.mem_of_getElem? (i := 15) rfl))) (ty := .int) (by decide)
    have f67 : Fld Z h51 b51 "com/example/casewright/engine/RunLedger$Counts" "failures" "I" (.int (0 : Int32)) := D51 (Or.inr (hw _ (List.mem_of_getElem? (i := 17) rfl))) (ty := .int) (by decide)
    have f68 : Fld Z h51 b51 "com/example/casewright/engine/RunLedger$Counts" "errors" "I" (.int (0 : Int32)) := D51 (Or.inr (hw _ (List.mem_of_getElem? (i := 19) rfl))) (ty := .int) (by decide)
    have f69 : Fld Z h51 b51 "com/example/casewright/engine/RunLedger$Counts" "skipped" "I" (.int (0 : Int32)) := D51 (Or.inr (hw _ (List.mem_of_getElem? (i := 21) rfl))) (ty := .int) (by decide)
    obtain ⟨_, _, ⟨T70, L70, k70, n70⟩, -, X70, ⟨Lc70, hQ70, l70, y70, z70⟩, st70⟩ := X51.specialBack hx (y := (⟨"com/example/casewright/engine/RunLedger$Counts", "<init>", "(IIII)V"⟩ : MethodName)) rfl hown (mvT hZ (hw _ (List.mem_of_getElem? (i := 3) rfl))) (mvT hZ (hw _ (List.mem_of_getElem? (i := 4) rfl))) (mvT hZ (hw _ (List.mem_of_getElem? (i := 5) rfl))) (by decide) (backOf (W := 1) (own_rm1 l Z a0 hw [] b51 p0 (0 : Int32) (0 : Int32) p3 (.int (0 : Int32)) (.int (0 : Int32)) (.int (0 : Int32)) (.int (0 : Int32)) h51 n0 zs64 f67 f68 f69 A51 f66 g_b51) hZ (hw _ (List.mem_of_getElem? (i := 5) rfl)) (hw _ (List.mem_of_getElem? (i := 2) rfl)) (by decide) (by decide)) (g := (mkF m 59 #[.val (.int p0), .val (.int p1), .val (.int p2), .val (.int p3), .val (.int p4), .val (.int p5), .val (.ref b1), .val (.int (1 : Int32)), .val (.int (own_f4 p1 p2)), .val (.int (own_f4 p1 p2)), .unset] [(.int p3), (.int (0 : Int32)), (.int (0 : Int32)), (.int p0), (.ref b51), (.ref b51)])) rfl (by rw [hml]; rfl) (Steps.refl _) (a := b51) (argsL := [(.int p0), (.int (0 : Int32)), (.int (0 : Int32)), (.int p3)]) (rest := [(.ref b51)]) (lenOf own_pd1 rfl) rfl (by show 2 * 0 + _ ≤ _; exact Nat.le_of_eq rfl) (hb hby at_59) (fun _ _ => ⟨rfl, e51, (by decide : 3 + 0 ≤ _), (by decide : 12 + 0 ≤ _)⟩)
    dsimp only [Pt.U, Pt.locs, Pt.cells, Pt.slots] at X70 l70 y70 z70 st70 hQ70
    subst l70 y70 z70
    obtain ⟨rfl, N70q, K70, f71, f72, f73, f74, f75⟩ := hQ70
    have f76 : Exa Z T70.heap b1 "com/example/casewright/engine/RunLedger$Counts" := f54.keep K70
    have f77 : Fld Z T70.heap b1 "com/example/casewright/engine/RunLedger$Counts" "run" "I" (.int p0) := f55.keep K70 (ninS (Nat.ne_of_lt lt52) nin0)
    have f78 : Fld Z T70.heap b1 "com/example/casewright/engine/RunLedger$Counts" "failures" "I" (.int p1) := f56.keep K70 (ninS (Nat.ne_of_lt lt52) nin0)
    have f79 : Fld Z T70.heap b1 "com/example/casewright/engine/RunLedger$Counts" "errors" "I" (.int p2) := f57.keep K70 (ninS (Nat.ne_of_lt lt52) nin0)
    have f80 : Fld Z T70.heap b1 "com/example/casewright/engine/RunLedger$Counts" "skipped" "I" (.int p3) := f58.keep K70 (ninS (Nat.ne_of_lt lt52) nin0)
    have f81 : Exa Z T70.heap b22 "com/example/casewright/engine/RunLedger$Counts" := f59.keep K70
    have f82 : Fld Z T70.heap b22 "com/example/casewright/engine/RunLedger$Counts" "run" "I" (.int p4) := f60.keep K70 (ninS (Nat.ne_of_lt lt53) nin0)
    have f83 : Fld Z T70.heap b22 "com/example/casewright/engine/RunLedger$Counts" "failures" "I" (.int p1) := f61.keep K70 (ninS (Nat.ne_of_lt lt53) nin0)
    have f84 : Fld Z T70.heap b22 "com/example/casewright/engine/RunLedger$Counts" "errors" "I" (.int p2) := f62.keep K70 (ninS (Nat.ne_of_lt lt53) nin0)
    have f85 : Fld Z T70.heap b22 "com/example/casewright/engine/RunLedger$Counts" "skipped" "I" (.int p5) := f63.keep K70 (ninS (Nat.ne_of_lt lt53) nin0)
    have zs86 : n0 ≤ T70.heap.size := Nat.le_trans zs64 K70.1
    have K87 : Keep h0 T70.heap [] := K65.trans K70 (allS (Or.inr sz_b51) all0)
    have N88 := Fr.app N50 N70q
    obtain ⟨cq89, kq89, q89a, q89b, q89c⟩ := isOf hZ rfl f74
    obtain ⟨_, _, ⟨T89, L89, k89, n89⟩, -, X89, ⟨Lc89, hQ89, l89, y89, z89⟩, st89⟩ := X70.virtualBack hx (y := (⟨"com/example/casewright/engine/RunLedger$Counts", "allPassed", "()Z"⟩ : MethodName)) (z := (⟨"com/example/casewright/engine/RunLedger$Counts", "allPassed", "()Z"⟩ : MethodName)) hown (mvT hZ (hw _ (List.mem_of_getElem? (i := 22) rfl))) (mvT hZ (hw _ (List.mem_of_getElem? (i := 23) rfl))) (notFace_of_selects (args := #[]) (mvT hZ (hw _ (List.mem_of_getElem? (i := 25) rfl)))) (mvT hZ (hw _ (List.mem_of_getElem? (i := 25) rfl))) (mvT hZ (hw _ (List.mem_of_getElem? (i := 24) rfl))) (by decide) (backOf (W := 0) (own_rm4 l Z a0 hw [] b51 (0 : Int32) (0 : Int32) T70.heap n0 zs86 f71 f72) hZ (hw _ (List.mem_of_getElem? (i := 26) rfl)) (hw _ (List.mem_of_getElem? (i := 2) rfl)) (by decide) (by decide)) q89a q89c (g := (mkF m 62 #[.val (.int p0), .val (.int p1), .val (.int p2), .val (.int p3), .val (.int p4), .val (.int p5), .val (.ref b1), .val (.int (1 : Int32)), .val (.int (own_f4 p1 p2)), .val (.int (own_f4 p1 p2)), .unset] [(.ref b51)])) rfl (by rw [hml]; rfl) (Steps.refl _) (argsL := []) (rest := []) (lenOf own_pd2 rfl) rfl (by show 2 * 0 + _ ≤ _; exact Nat.le_of_eq rfl) (hb hby at_62) (fun _ _ => ⟨rfl, rfl, (by decide : 3 + 0 ≤ _), (by decide : 12 + 0 ≤ _)⟩)
    dsimp only [Pt.U, Pt.locs, Pt.cells, Pt.slots] at X89 l89 y89 z89 st89 hQ89
    subst l89 y89 z89
    obtain ⟨rfl, N89q, e89⟩ := hQ89
    have N90 := Fr.app N88 N89q
    have pre91 : ∀ t, Steps p.tables e below (T89.setTop (mkF m 71 #[.val (.int p0), .val (.int p1), .val (.int p2), .val (.int p3), .val (.int p4), .val (.int p5), .val (.ref b1), .val (.int (1 : Int32)), .val (.int (own_f4 p1 p2)), .val (.int (own_f4 p1 p2)), .val (.int (own_f4 (0 : Int32) (0 : Int32)))] [(.int (1 : Int32)), (.int (own_f4 p1 p2))])) t → Steps p.tables e below (s₁.setTop (entryFrame m #[(.int p0), (.int p1), (.int p2), (.int p3), (.int p4), (.int p5)] maxLocals)) t := fun t k => pre18 t (by
        refine XS.ifNo X9.here hx rfl (hb hby at_16) rfl ((if0 _ _).trans (teq hc19).2) ?_
        show Steps p.tables e below (T9.setTop (mkF m 19 #[.val (.int p0), .val (.int p1), .val (.int p2), .val (.int p3), .val (.int p4), .val (.int p5), .val (.ref b1), .unset, .unset, .unset, .unset] [])) _
        refine XS.iconst X9.here hx rfl (hb hby at_19) ?_
        show Steps p.tables e below (T9.setTop (mkF m 20 #[.val (.int p0), .val (.int p1), .val (.int p2), .val (.int p3), .val (.int p4), .val (.int p5), .val (.ref b1), .unset, .unset, .unset, .unset] [(.int (1 : Int32))])) _
        refine XS.goto X9.here hx rfl (pc0 := 20) (pc' := 24) rfl (hb hby at_20) (by decide) (by decide) ?_
        show Steps p.tables e below (T9.setTop (mkF m 24 #[.val (.int p0), .val (.int p1), .val (.int p2), .val (.int p3), .val (.int p4), .val (.int p5), .val (.ref b1), .unset, .unset, .unset, .unset] [(.int (1 : Int32))])) _
        refine XS.istore X9.here hx rfl (hb hby at_24) rfl (l' := #[.val (.int p0), .val (.int p1), .val (.int p2), .val (.int p3), .val (.int p4), .val (.int p5), .val (.ref b1), .val (.int (1 : Int32)), .unset, .unset, .unset]) rfl ?_
        show Steps p.tables e below (T9.setTop (mkF m 26 #[.val (.int p0), .val (.int p1), .val (.int p2), .val (.int p3), .val (.int p4), .val (.int p5), .val (.ref b1), .val (.int (1 : Int32)), .unset, .unset, .unset] [])) _
        refine XS.aload X9.here hx rfl (hb hby at_26) rfl rfl ?_
        show Steps p.tables e below (T9.setTop (mkF m 28 #[.val (.int p0), .val (.int p1), .val (.int p2), .val (.int p3), .val (.int p4), .val (.int p5), .val (.ref b1), .val (.int (1 : Int32)), .unset, .unset, .unset] [(.ref b1)])) _
        refine st20.trans ?_
        show Steps p.tables e below (T20.setTop (mkF m 31 #[.val (.int p0), .val (.int p1), .val (.int p2), .val (.int p3), .val (.int p4), .val (.int p5), .val (.ref b1), .val (.int (1 : Int32)), .unset, .unset, .unset] [(.int (own_f4 p1 p2))])) _
        refine XS.istore X20.here hx rfl (hb hby at_31) rfl (l' := #[.val (.int p0), .val (.int p1), .val (.int p2), .val (.int p3), .val (.int p4), .val (.int p5), .val (.ref b1), .val (.int (1 : Int32)), .val (.int (own_f4 p1 p2)), .unset, .unset]) rfl ?_
        show Steps p.tables e below (T20.setTop (mkF m 33 #[.val (.int p0), .val (.int p1), .val (.int p2), .val (.int p3), .val (.int p4), .val (.int p5), .val (.ref b1), .val (.int (1 : Int32)), .val (.int (own_f4 p1 p2)), .unset, .unset] [])) _
        refine st22 _ ?_
        show Steps p.tables e below (T22.setTop (mkF m 36 #[.val (.int p0), .val (.int p1), .val (.int p2), .val (.int p3), .val (.int p4), .val (.int p5), .val (.ref b1), .val (.int (1 : Int32)), .val (.int (own_f4 p1 p2)), .unset, .unset] [(.ref b22)])) _
        refine XS.dup X22.here hx rfl (hb hby at_36) rfl rfl ?_
        show Steps p.tables e below (T22.setTop (mkF m 37 #[.val (.int p0), .val (.int p1), .val (.int p2), .val (.int p3), .val (.int p4), .val (.int p5), .val (.ref b1), .val (.int (1 : Int32)), .val (.int (own_f4 p1 p2)), .unset, .unset] [(.ref b22), (.ref b22)])) _
        refine XS.iload X22.here hx rfl (hb hby at_37) rfl ?_
        show Steps p.tables e below (T22.setTop (mkF m 39 #[.val (.int p0), .val (.int p1), .val (.int p2), .val (.int p3), .val (.int p4), .val (.int p5), .val (.ref b1), .val (.int (1 : Int32)), .val (.int (own_f4 p1 p2)), .unset, .unset] [(.int p4), (.ref b22), (.ref b22)])) _
        refine XS.iloadN X22.here hx rfl (hb hby at_39) rfl ?_
        show Steps p.tables e below (T22.setTop (mkF m 40 #[.val (.int p0), .val (.int p1), .val (.int p2), .val (.int p3), .val (.int p4), .val (.int p5), .val (.ref b1), .val (.int (1 : Int32)), .val (.int (own_f4 p1 p2)), .unset, .unset] [(.int p1), (.int p4), (.ref b22), (.ref b22)])) _
        refine XS.iloadN X22.here hx rfl (hb hby at_40) rfl ?_
        show Steps p.tables e below (T22.setTop (mkF m 41 #[.val (.int p0), .val (.int p1), .val (.int p2), .val (.int p3), .val (.int p4), .val (.int p5), .val (.ref b1), .val (.int (1 : Int32)), .val (.int (own_f4 p1 p2)), .unset, .unset] [(.int p2), (.int p1), (.int p4), (.ref b22), (.ref b22)])) _
        refine XS.iload X22.here hx rfl (hb hby at_41) rfl ?_
        show Steps p.tables e below (T22.setTop (mkF m 43 #[.val (.int p0), .val (.int p1), .val (.int p2), .val (.int p3), .val (.int p4), .val (.int p5), .val (.ref b1), .val (.int (1 : Int32)), .val (.int (own_f4 p1 p2)), .unset, .unset] [(.int p5), (.int p2), (.int p1), (.int p4), (.ref b22), (.ref b22)])) _
        refine st35.trans ?_
        show Steps p.tables e below (T35.setTop (mkF m 46 #[.val (.int p0), .val (.int p1), .val (.int p2), .val (.int p3), .val (.int p4), .val (.int p5), .val (.ref b1), .val (.int (1 : Int32)), .val (.int (own_f4 p1 p2)), .unset, .unset] [(.ref b22)])) _
        refine st49.trans ?_
        show Steps p.tables e below (T49.setTop (mkF m 49 #[.val (.int p0), .val (.int p1), .val (.int p2), .val (.int p3), .val (.int p4), .val (.int p5), .val (.ref b1), .val (.int (1 : Int32)), .val (.int (own_f4 p1 p2)), .unset, .unset] [(.int (own_f4 p1 p2))])) _
        refine XS.istore X49.here hx rfl (hb hby at_49) rfl (l' := #[.val (.int p0), .val (.int p1), .val (.int p2), .val (.int p3), .val (.int p4), .val (.int p5), .val (.ref b1), .val (.int (1 : Int32)), .val (.int (own_f4 p1 p2)), .val (.int (own_f4 p1 p2)), .unset]) rfl ?_
        show Steps p.tables e below (T49.setTop (mkF m 51 #[.val (.int p0), .val (.int p1), .val (.int p2), .val (.int p3), .val (.int p4), .val (.int p5), .val (.ref b1), .val (.int (1 : Int32)), .val (.int (own_f4 p1 p2)), .val (.int (own_f4 p1 p2)), .unset] [])) _
        refine st51 _ ?_
        show Steps p.tables e below (T51.setTop (mkF m 54 #[.val (.int p0), .val (.int p1), .val (.int p2), .val (.int p3), .val (.int p4), .val (.int p5), .val (.ref b1), .val (.int (1 : Int32)), .val (.int (own_f4 p1 p2)), .val (.int (own_f4 p1 p2)), .unset] [(.ref b51)])) _
        refine XS.dup X51.here hx rfl (hb hby at_54) rfl rfl ?_
        show Steps p.tables e below (T51.setTop (mkF m 55 #[.val (.int p0), .val (.int p1), .val (.int p2), .val (.int p3), .val (.int p4), .val (.int p5), .val (.ref b1), .val (.int (1 : Int32)), .val (.int (own_f4 p1 p2)), .val (.int (own_f4 p1 p2)), .unset] [(.ref b51), (.ref b51)])) _
        refine XS.iloadN X51.here hx rfl (hb hby at_55) rfl ?_
        show Steps p.tables e below (T51.setTop (mkF m 56 #[.val (.int p0), .val (.int p1), .val (.int p2), .val (.int p3), .val (.int p4), .val (.int p5), .val (.ref b1), .val (.int (1 : Int32)), .val (.int (own_f4 p1 p2)), .val (.int (own_f4 p1 p2)), .unset] [(.int p0), (.ref b51), (.ref b51)])) _
        refine XS.iconst X51.here hx rfl (hb hby at_56) ?_
        show Steps p.tables e below (T51.setTop (mkF m 57 #[.val (.int p0), .val (.int p1), .val (.int p2), .val (.int p3), .val (.int p4), .val (.int p5), .val (.ref b1), .val (.int (1 : Int32)), .val (.int (own_f4 p1 p2)), .val (.int (own_f4 p1 p2)), .unset] [(.int (0 : Int32)), (.int p0), (.ref b51), (.ref b51)])) _
        refine XS.iconst X51.here hx rfl (hb hby at_57) ?_
        show Steps p.tables e below (T51.setTop (mkF m 58 #[.val (.int p0), .val (.int p1), .val (.int p2), .val (.int p3), .val (.int p4), .val (.int p5), .val (.ref b1), .val (.int (1 : Int32)), .val (.int (own_f4 p1 p2)), .val (.int (own_f4 p1 p2)), .unset] [(.int (0 : Int32)), (.int (0 : Int32)), (.int p0), (.ref b51), (.ref b51)])) _
        refine XS.iloadN X51.here hx rfl (hb hby at_58) rfl ?_
        show Steps p.tables e below (T51.setTop (mkF m 59 #[.val (.int p0), .val (.int p1), .val (.int p2), .val (.int p3), .val (.int p4), .val (.int p5), .val (.ref b1), .val (.int (1 : Int32)), .val (.int (own_f4 p1 p2)), .val (.int (own_f4 p1 p2)), .unset] [(.int p3), (.int (0 : Int32)), (.int (0 : Int32)), (.int p0), (.ref b51), (.ref b51)])) _
        refine st70.trans ?_
        show Steps p.tables e below (T70.setTop (mkF m 62 #[.val (.int p0), .val (.int p1), .val (.int p2), .val (.int p3), .val (.int p4), .val (.int p5), .val (.ref b1), .val (.int (1 : Int32)), .val (.int (own_f4 p1 p2)), .val (.int (own_f4 p1 p2)), .unset] [(.ref b51)])) _
        refine st89.trans ?_
        show Steps p.tables e below (T89.setTop (mkF m 65 #[.val (.int p0), .val (.int p1), .val (.int p2), .val (.int p3), .val (.int p4), .val (.int p5), .val (.ref b1), .val (.int (1 : Int32)), .val (.int (own_f4 p1 p2)), .val (.int (own_f4 p1 p2)), .unset] [(.int (own_f4 (0 : Int32) (0 : Int32)))])) _
        refine XS.istore X89.here hx rfl (hb hby at_65) rfl (l' := #[.val (.int p0), .val (.int p1), .val (.int p2), .val (.int p3), .val (.int p4), .val (.int p5), .val (.ref b1), .val (.int (1 : Int32)), .val (.int (own_f4 p1 p2)), .val (.int (own_f4 p1 p2)), .val (.int (own_f4 (0 : Int32) (0 : Int32)))]) rfl ?_
        show Steps p.tables e below (T89.setTop (mkF m 67 #[.val (.int p0), .val (.int p1), .val (.int p2), .val (.int p3), .val (.int p4), .val (.int p5), .val (.ref b1), .val (.int (1 : Int32)), .val (.int (own_f4 p1 p2)), .val (.int (own_f4 p1 p2)), .val (.int (own_f4 (0 : Int32) (0 : Int32)))] [])) _
        refine XS.iload X89.here hx rfl (hb hby at_67) rfl ?_
        show Steps p.tables e below (T89.setTop (mkF m 69 #[.val (.int p0), .val (.int p1), .val (.int p2), .val (.int p3), .val (.int p4), .val (.int p5), .val (.ref b1), .val (.int (1 : Int32)), .val (.int (own_f4 p1 p2)), .val (.int (own_f4 p1 p2)), .val (.int (own_f4 (0 : Int32) (0 : Int32)))] [(.int (own_f4 p1 p2))])) _
        refine XS.iload X89.here hx rfl (hb hby at_69) rfl ?_
        show Steps p.tables e below (T89.setTop (mkF m 71 #[.val (.int p0), .val (.int p1), .val (.int p2), .val (.int p3), .val (.int p4), .val (.int p5), .val (.ref b1), .val (.int (1 : Int32)), .val (.int (own_f4 p1 p2)), .val (.int (own_f4 p1 p2)), .val (.int (own_f4 (0 : Int32) (0 : Int32)))] [(.int (1 : Int32)), (.int (own_f4 p1 p2))])) _
        exact k)
    by_cases hc92 : (own_f4 p1 p2) = (1 : Int32)
    · have pre93 : ∀ t, Steps p.tables e below (T89.setTop (mkF m 83 #[.val (.int p0), .val (.int p1), .val (.int p2), .val (.int p3), .val (.int p4), .val (.int p5), .val (.ref b1), .val (.int (1 : Int32)), .val (.int (own_f4 p1 p2)), .val (.int (own_f4 p1 p2)), .val (.int (own_f4 (0 : Int32) (0 : Int32)))] [(.int (own_f4 (0 : Int32) (0 : Int32)))])) t → Steps p.tables e below (s₁.setTop (entryFrame m #[(.int p0), (.int p1), (.int p2), (.int p3), (.int p4), (.int p5)] maxLocals)) t := fun t k => pre91 t (by
          refine XS.icmpNo X89.here hx rfl (hb hby at_71) rfl (teq hc92).2 ?_
          show Steps p.tables e below (T89.setTop (mkF m 74 #[.val (.int p0), .val (.int p1), .val (.int p2), .val (.int p3), .val (.int p4), .val (.int p5), .val (.ref b1), .val (.int (1 : Int32)), .val (.int (own_f4 p1 p2)), .val (.int (own_f4 p1 p2)), .val (.int (own_f4 (0 : Int32) (0 : Int32)))] [])) _
          refine XS.iload X89.here hx rfl (hb hby at_74) rfl ?_
          show Steps p.tables e below (T89.setTop (mkF m 76 #[.val (.int p0), .val (.int p1), .val (.int p2), .val (.int p3), .val (.int p4), .val (.int p5), .val (.ref b1), .val (.int (1 : Int32)), .val (.int (own_f4 p1 p2)), .val (.int (own_f4 p1 p2)), .val (.int (own_f4 (0 : Int32) (0 : Int32)))] [(.int (own_f4 p1 p2))])) _
          refine XS.iload X89.here hx rfl (hb hby at_76) rfl ?_
          show Steps p.tables e below (T89.setTop (mkF m 78 #[.val (.int p0), .val (.int p1), .val (.int p2), .val (.int p3), .val (.int p4), .val (.int p5), .val (.ref b1), .val (.int (1 : Int32)), .val (.int (own_f4 p1 p2)), .val (.int (own_f4 p1 p2)), .val (.int (own_f4 (0 : Int32) (0 : Int32)))] [(.int (own_f4 p1 p2)), (.int (own_f4 p1 p2))])) _
          refine XS.icmpNo X89.here hx rfl (hb hby at_78) rfl (teq (rfl : (own_f4 p1 p2) = (own_f4 p1 p2))).2 ?_
          show Steps p.tables e below (T89.setTop (mkF m 81 #[.val (.int p0), .val (.int p1), .val (.int p2), .val (.int p3), .val (.int p4), .val (.int p5), .val (.ref b1), .val (.int (1 : Int32)), .val (.int (own_f4 p1 p2)), .val (.int (own_f4 p1 p2)), .val (.int (own_f4 (0 : Int32) (0 : Int32)))] [])) _
          refine XS.iload X89.here hx rfl (hb hby at_81) rfl ?_
          show Steps p.tables e below (T89.setTop (mkF m 83 #[.val (.int p0), .val (.int p1), .val (.int p2), .val (.int p3), .val (.int p4), .val (.int p5), .val (.ref b1), .val (.int (1 : Int32)), .val (.int (own_f4 p1 p2)), .val (.int (own_f4 p1 p2)), .val (.int (own_f4 (0 : Int32) (0 : Int32)))] [(.int (own_f4 (0 : Int32) (0 : Int32)))])) _
          exact k)
      by_cases hc94 : (own_f4 (0 : Int32) (0 : Int32)) = (0 : Int32)
      · have pre95 : ∀ t, Steps p.tables e below (T89.setTop (mkF m 91 #[.val (.int p0), .val (.int p1), .val (.int p2), .val (.int p3), .val (.int p4), .val (.int p5), .val (.ref b1), .val (.int (1 : Int32)), .val (.int (own_f4 p1 p2)), .val (.int (own_f4 p1 p2)), .val (.int (own_f4 (0 : Int32) (0 : Int32)))] [(.int (0 : Int32))])) t → Steps p.tables e below (s₁.setTop (entryFrame m #[(.int p0), (.int p1), (.int p2), (.int p3), (.int p4), (.int p5)] maxLocals)) t := fun t k => pre93 t (by
            refine XS.ifYes X89.here hx rfl (pc0 := 83) (pc' := 90) rfl (hb hby at_83) rfl ((if0 _ _).trans (teq hc94).1) (by decide) (by decide) ?_
            show Steps p.tables e below (T89.setTop (mkF m 90 #[.val (.int p0), .val (.int p1), .val (.int p2), .val (.int p3), .val (.int p4), .val (.int p5), .val (.ref b1), .val (.int (1 : Int32)), .val (.int (own_f4 p1 p2)), .val (.int (own_f4 p1 p2)), .val (.int (own_f4 (0 : Int32) (0 : Int32)))] [])) _
            refine XS.iconst X89.here hx rfl (hb hby at_90) ?_
            show Steps p.tables e below (T89.setTop (mkF m 91 #[.val (.int p0), .val (.int p1), .val (.int p2), .val (.int p3), .val (.int p4), .val (.int p5), .val (.ref b1), .val (.int (1 : Int32)), .val (.int (own_f4 p1 p2)), .val (.int (own_f4 p1 p2)), .val (.int (own_f4 (0 : Int32) (0 : Int32)))] [(.int (0 : Int32))])) _
            exact k)
        obtain ⟨fs, hr, hrun, hended, hW, hsame⟩ := X89.leave (v := some (.int (0 : Int32))) (fun h => by rw [Bd.returns] at h; cases h)
        refine ⟨_, _, pre95 _ ?_, hrun, hended, _, _, rfl, ?_, ⟨_, rfl⟩, hW, hsame.mono (by decide) (by decide)⟩
        · show Steps p.tables e below (T89.setTop (mkF m 91 #[.val (.int p0), .val (.int p1), .val (.int p2), .val (.int p3), .val (.int p4), .val (.int p5), .val (.ref b1), .val (.int (1 : Int32)), .val (.int (own_f4 p1 p2)), .val (.int (own_f4 p1 p2)), .val (.int (own_f4 (0 : Int32) (0 : Int32)))] [(.int (0 : Int32))])) _
          exact retN X89 hx (t := .boolean) Bd.returns (by simp) (hb hby at_91) hr
        · show own_Q0 Z p0 p1 p2 p3 p4 p5 h0 n0 _ T89.heap _; exact ⟨(by show some (Value.int _) = some (.int (own_f0 p1 p2)); unfold own_f0; rw [if_pos hc19, if_pos hc92, if_pos hc94]), N90⟩
      · have pre96 : ∀ t, Steps p.tables e below (T89.setTop (mkF m 91 #[.val (.int p0), .val (.int p1), .val (.int p2), .val (.int p3), .val (.int p4), .val (.int p5), .val (.ref b1), .val (.int (1 : Int32)), .val (.int (own_f4 p1 p2)), .val (.int (own_f4 p1 p2)), .val (.int (own_f4 (0 : Int32) (0 : Int32)))] [(.int (1 : Int32))])) t → Steps p.tables e below (s₁.setTop (entryFrame m #[(.int p0), (.int p1), (.int p2), (.int p3), (.int p4), (.int p5)] maxLocals)) t := fun t k => pre93 t (by
            refine XS.ifNo X89.here hx rfl (hb hby at_83) rfl ((if0 _ _).trans (feq hc94).1) ?_
            show Steps p.tables e below (T89.setTop (mkF m 86 #[.val (.int p0), .val (.int p1), .val (.int p2), .val (.int p3), .val (.int p4), .val (.int p5), .val (.ref b1), .val (.int (1 : Int32)), .val (.int (own_f4 p1 p2)), .val (.int (own_f4 p1 p2)), .val (.int (own_f4 (0 : Int32) (0 : Int32)))] [])) _
            refine XS.iconst X89.here hx rfl (hb hby at_86) ?_
            show Steps p.tables e below (T89.setTop (mkF m 87 #[.val (.int p0), .val (.int p1), .val (.int p2), .val (.int p3), .val (.int p4), .val (.int p5), .val (.ref b1), .val (.int (1 : Int32)), .val (.int (own_f4 p1 p2)), .val (.int (own_f4 p1 p2)), .val (.int (own_f4 (0 : Int32) (0 : Int32)))] [(.int (1 : Int32))])) _
            refine XS.goto X89.here hx rfl (pc0 := 87) (pc' := 91) rfl (hb hby at_87) (by decide) (by decide) ?_
            show Steps p.tables e below (T89.setTop (mkF m 91 #[.val (.int p0), .val (.int p1), .val (.int p2), .val (.int p3), .val (.int p4), .val (.int p5), .val (.ref b1), .val (.int (1 : Int32)), .val (.int (own_f4 p1 p2)), .val (.int (own_f4 p1 p2)), .val (.int (own_f4 (0 : Int32) (0 : Int32)))] [(.int (1 : Int32))])) _
            exact k)
        obtain ⟨fs, hr, hrun, hended, hW, hsame⟩ := X89.leave (v := some (.int (1 : Int32))) (fun h => by rw [Bd.returns] at h; cases h)
        refine ⟨_, _, pre96 _ ?_, hrun, hended, _, _, rfl, ?_, ⟨_, rfl⟩, hW, hsame.mono (by decide) (by decide)⟩
        · show Steps p.tables e below (T89.setTop (mkF m 91 #[.val (.int p0), .val (.int p1), .val (.int p2), .val (.int p3), .val (.int p4), .val (.int p5), .val (.ref b1), .val (.int (1 : Int32)), .val (.int (own_f4 p1 p2)), .val (.int (own_f4 p1 p2)), .val (.int (own_f4 (0 : Int32) (0 : Int32)))] [(.int (1 : Int32))])) _
          exact retN X89 hx (t := .boolean) Bd.returns (by simp) (hb hby at_91) hr
        · show own_Q0 Z p0 p1 p2 p3 p4 p5 h0 n0 _ T89.heap _; exact ⟨(by show some (Value.int _) = some (.int (own_f0 p1 p2)); unfold own_f0; rw [if_pos hc19, if_pos hc92, if_neg hc94]), N90⟩
    · have pre97 : ∀ t, Steps p.tables e below (T89.setTop (mkF m 91 #[.val (.int p0), .val (.int p1), .val (.int p2), .val (.int p3), .val (.int p4), .val (.int p5), .val (.ref b1), .val (.int (1 : Int32)), .val (.int (own_f4 p1 p2)), .val (.int (own_f4 p1 p2)), .val (.int (own_f4 (0 : Int32) (0 : Int32)))] [(.int (0 : Int32))])) t → Steps p.tables e below (s₁.setTop (entryFrame m #[(.int p0), (.int p1), (.int p2), (.int p3), (.int p4), (.int p5)] maxLocals)) t := fun t k => pre91 t (by
          refine XS.icmpYes X89.here hx rfl (pc0 := 71) (pc' := 90) rfl (hb hby at_71) rfl (feq hc92).2 (by decide) (by decide) ?_
          show Steps p.tables e below (T89.setTop (mkF m 90 #[.val (.int p0), .val (.int p1), .val (.int p2), .val (.int p3), .val (.int p4), .val (.int p5), .val (.ref b1), .val (.int (1 : Int32)), .val (.int (own_f4 p1 p2)), .val (.int (own_f4 p1 p2)), .val (.int (own_f4 (0 : Int32) (0 : Int32)))] [])) _
          refine XS.iconst X89.here hx rfl (hb hby at_90) ?_
          show Steps p.tables e below (T89.setTop (mkF m 91 #[.val (.int p0), .val (.int p1), .val (.int p2), .val (.int p3), .val (.int p4), .val (.int p5), .val (.ref b1), .val (.int (1 : Int32)), .val (.int (own_f4 p1 p2)), .val (.int (own_f4 p1 p2)), .val (.int (own_f4 (0 : Int32) (0 : Int32)))] [(.int (0 : Int32))])) _
          exact k)
      obtain ⟨fs, hr, hrun, hended, hW, hsame⟩ := X89.leave (v := some (.int (0 : Int32))) (fun h => by rw [Bd.returns] at h; cases h)
      refine ⟨_, _, pre97 _ ?_, hrun, hended, _, _, rfl, ?_, ⟨_, rfl⟩, hW, hsame.mono (by decide) (by decide)⟩
      · show Steps p.tables e below (T89.setTop (mkF m 91 #[.val (.int p0), .val (.int p1), .val (.int p2), .val (.int p3), .val (.int p4), .val (.int p5), .val (.ref b1), .val (.int (1 : Int32)), .val (.int (own_f4 p1 p2)), .val (.int (own_f4 p1 p2)), .val (.int (own_f4 (0 : Int32) (0 : Int32)))] [(.int (0 : Int32))])) _
        exact retN X89 hx (t := .boolean) Bd.returns (by simp) (hb hby at_91) hr
      · show own_Q0 Z p0 p1 p2 p3 p4 p5 h0 n0 _ T89.heap _; exact ⟨(by show some (Value.int _) = some (.int (own_f0 p1 p2)); unfold own_f0; rw [if_pos hc19, if_neg hc92]), N90⟩
  · obtain ⟨cq98, kq98, q98a, q98b, q98c⟩ := isOf hZ rfl f13
    obtain ⟨_, _, ⟨T98, L98, k98, n98⟩, -, X98, ⟨Lc98, hQ98, l98, y98, z98⟩, st98⟩ := X9.virtualBack hx (y := (⟨"com/example/casewright/engine/RunLedger$Counts", "allPassed", "()Z"⟩ : MethodName)) (z := (⟨"com/example/casewright/engine/RunLedger$Counts", "allPassed", "()Z"⟩ : MethodName)) hown (mvT hZ (hw _ (List.mem_of_getElem? (i := 22) rfl))) (mvT hZ (hw _ (List.mem_of_getElem? (i := 23) rfl))) (notFace_of_selects (args := #[]) (mvT hZ (hw _ (List.mem_of_getElem? (i := 25) rfl)))) (mvT hZ (hw _ (List.mem_of_getElem? (i := 25) rfl))) (mvT hZ (hw _ (List.mem_of_getElem? (i := 24) rfl))) (by decide) (backOf (W := 0) (own_rm4 l Z a0 hw [] b1 p1 p2 T9.heap n0 zs15 f10 f11) hZ (hw _ (List.mem_of_getElem? (i := 26) rfl)) (hw _ (List.mem_of_getElem? (i := 2) rfl)) (by decide) (by decide)) q98a q98c (g := (mkF m 28 #[.val (.int p0), .val (.int p1), .val (.int p2), .val (.int p3), .val (.int p4), .val (.int p5), .val (.ref b1), .val (.int (0 : Int32)), .unset, .unset, .unset] [(.ref b1)])) rfl (by rw [hml]; rfl) (Steps.refl _) (argsL := []) (rest := []) (lenOf own_pd2 rfl) rfl (by show 2 * 0 + _ ≤ _; exact Nat.le_of_eq rfl) (hb hby at_28) (fun _ _ => ⟨rfl, rfl, (by decide : 1 + 0 ≤ _), (by decide : 4 + 0 ≤ _)⟩)
    dsimp only [Pt.U, Pt.locs, Pt.cells, Pt.slots] at X98 l98 y98 z98 st98 hQ98
    subst l98 y98 z98
    obtain ⟨rfl, N98q, e98⟩ := hQ98
    have N99 := Fr.app N17 N98q
    obtain ⟨T100, h100, X100, e100, E100, A100, D100, -, st100⟩ := newO X98 hx hZ hown (hw _ (List.mem_of_getElem? (i := 0) rfl)) (hw _ (List.mem_of_getElem? (i := 1) rfl)) (hw _ (List.mem_of_getElem? (i := 2) rfl)) e98 (g := (mkF m 33 #[.val (.int p0), .val (.int p1), .val (.int p2), .val (.int p3), .val (.int p4), .val (.int p5), .val (.ref b1), .val (.int (0 : Int32)), .val (.int (own_f4 p1 p2)), .unset, .unset] [])) rfl (hb hby at_33) (by decide) (by decide)
    obtain ⟨b100, g100⟩ : ∃ z, z = T9.heap.size := ⟨_, rfl⟩
    rw [← g100] at A100 D100 st100
    have g_b100 : n0 ≤ b100 := Nat.le_trans zs15 (Nat.le_of_eq g100.symm)
    have sz_b100 : h0.size ≤ b100 := Nat.le_trans K16.1 (Nat.le_of_eq g100.symm)
    have lt101 : b1 < b100 := Nat.lt_of_lt_of_le f12.lt (Nat.le_of_eq g100.symm)
    have f102 : Exa Z h100 b1 "com/example/casewright/engine/RunLedger$Counts" := f13.ext E100
    have f103 : Fld Z h100 b1 "com/example/casewright/engine/RunLedger$Counts" "run" "I" (.int p0) := f14.ext E100
    have f104 : Fld Z h100 b1 "com/example/casewright/engine/RunLedger$Counts" "failures" "I" (.int p1) := f10.ext E100
    have f105 : Fld Z h100 b1 "com/example/casewright/engine/RunLedger$Counts" "errors" "I" (.int p2) := f11.ext E100
    have f106 : Fld Z h100 b1 "com/example/casewright/engine/RunLedger$Counts" "skipped" "I" (.int p3) := f12.ext E100
    have zs107 : n0 ≤ h100.size := Nat.le_trans zs15 E100.1
    have K108 : Keep h0 h100 [] := K16.ext E100
    have f109 : Fld Z h100 b100 "com/example/casewright/engine/RunLedger$Counts" "run" "I" (.int (0 : Int32)) := D100 (Or.inr (hw _ (List.mem_of_getElem? (i := 15) rfl))) (ty := .int) (by decide)
    have f110 : Fld Z h100 b100 "com/example/casewright/engine/RunLedger$Counts" "failures" "I" (.int (0 : Int32)) := D100 (Or.inr (hw _ (List.mem_of_getElem? (i := 17) rfl))) (ty := .int) (by decide)
    have f111 : Fld Z h100 b100 "com/example/casewright/engine/RunLedger$Counts" "errors" "I" (.int (0 : Int32)) := D100 (Or.inr (hw _ (List.mem_of_getElem? (i := 19) rfl))) (ty := .int) (by decide)
    have f112 : Fld Z h100 b100 "com/example/casewright/engine/RunLedger$Counts" "skipped" "I" (.int (0 : Int32)) := D100 (Or.inr (hw _ (List.mem_of_getElem? (i := 21) rfl))) (ty := .int) (by decide)
    obtain ⟨_, _, ⟨T113, L113, k113, n113⟩, -, X113, ⟨Lc113, hQ113, l113, y113, z113⟩, st113⟩ := X100.specialBack hx (y := (⟨"com/example/casewright/engine/RunLedger$Counts", "<init>", "(IIII)V"⟩ : MethodName)) rfl hown (mvT hZ (hw _ (List.mem_of_getElem? (i := 3) rfl))) (mvT hZ (hw _ (List.mem_of_getElem? (i := 4) rfl))) (mvT hZ (hw _ (List.mem_of_getElem? (i := 5) rfl))) (by decide) (backOf (W := 1) (own_rm1 l Z a0 hw [] b100 p4 p1 p2 p5 (.int (0 : Int32)) (.int (0 : Int32)) (.int (0 : Int32)) (.int (0 : Int32)) h100 n0 zs107 f110 f111 f112 A100 f109 g_b100) hZ (hw _ (List.mem_of_getElem? (i := 5) rfl)) (hw _ (List.mem_of_getElem? (i := 2) rfl)) (by decide) (by decide)) (g := (mkF m 43 #[.val (.int p0), .val (.int p1), .val (.int p2), .val (.int p3), .val (.int p4), .val (.int p5), .val (.ref b1), .val (.int (0 : Int32)), .val (.int (own_f4 p1 p2)), .unset, .unset] [(.int p5), (.int p2), (.int p1), (.int p4), (.ref b100), (.ref b100)])) rfl (by rw [hml]; rfl) (Steps.refl _) (a := b100) (argsL := [(.int p4), (.int p1), (.int p2), (.int p5)]) (rest := [(.ref b100)]) (lenOf own_pd1 rfl) rfl (by show 2 * 0 + _ ≤ _; exact Nat.le_of_eq rfl) (hb hby at_43) (fun _ _ => ⟨rfl, e100, (by decide : 2 + 0 ≤ _), (by decide : 8 + 0 ≤ _)⟩)
    dsimp only [Pt.U, Pt.locs, Pt.cells, Pt.slots] at X113 l113 y113 z113 st113 hQ113
    subst l113 y113 z113
    obtain ⟨rfl, N113q, K113, f114, f115, f116, f117, f118⟩ := hQ113
    have f119 : Exa Z T113.heap b1 "com/example/casewright/engine/RunLedger$Counts" := f102.keep K113
    have f120 : Fld Z T113.heap b1 "com/example/casewright/engine/RunLedger$Counts" "run" "I" (.int p0) := f103.keep K113 (ninS (Nat.ne_of_lt lt101) nin0)
    have f121 : Fld Z T113.heap b1 "com/example/casewright/engine/RunLedger$Counts" "failures" "I" (.int p1) := f104.keep K113 (ninS (Nat.ne_of_lt lt101) nin0)
    have f122 : Fld Z T113.heap b1 "com/example/casewright/engine/RunLedger$Counts" "errors" "I" (.int p2) := f105.keep K113 (ninS (Nat.ne_of_lt lt101) nin0)
    have f123 : Fld Z T113.heap b1 "com/example/casewright/engine/RunLedger$Counts" "skipped" "I" (.int p3) := f106.keep K113 (ninS (Nat.ne_of_lt lt101) nin0)
    have zs124 : n0 ≤ T113.heap.size := Nat.le_trans zs107 K113.1
    have K125 : Keep h0 T113.heap [] := K108.trans K113 (allS (Or.inr sz_b100) all0)
    have N126 := Fr.app N99 N113q
    obtain ⟨cq127, kq127, q127a, q127b, q127c⟩ := isOf hZ rfl f117
    obtain ⟨_, _, ⟨T127, L127, k127, n127⟩, -, X127, ⟨Lc127, hQ127, l127, y127, z127⟩, st127⟩ := X113.virtualBack hx (y := (⟨"com/example/casewright/engine/RunLedger$Counts", "allPassed", "()Z"⟩ : MethodName)) (z := (⟨"com/example/casewright/engine/RunLedger$Counts", "allPassed", "()Z"⟩ : MethodName)) hown (mvT hZ (hw _ (List.mem_of_getElem? (i := 22) rfl))) (mvT hZ (hw _ (List.mem_of_getElem? (i := 23) rfl))) (notFace_of_selects (args := #[]) (mvT hZ (hw _ (List.mem_of_getElem? (i := 25) rfl)))) (mvT hZ (hw _ (List.mem_of_getElem? (i := 25) rfl))) (mvT hZ (hw _ (List.mem_of_getElem? (i := 24) rfl))) (by decide) (backOf (W := 0) (own_rm4 l Z a0 hw [] b100 p1 p2 T113.heap n0 zs124 f114 f115) hZ (hw _ (List.mem_of_getElem? (i := 26) rfl)) (hw _ (List.mem_of_getElem? (i := 2) rfl)) (by decide) (by decide)) q127a q127c (g := (mkF m 46 #[.val (.int p0), .val (.int p1), .val (.int p2), .val (.int p3), .val (.int p4), .val (.int p5), .val (.ref b1), .val (.int (0 : Int32)), .val (.int (own_f4 p1 p2)), .unset, .unset] [(.ref b100)])) rfl (by rw [hml]; rfl) (Steps.refl _) (argsL := []) (rest := []) (lenOf own_pd2 rfl) rfl (by show 2 * 0 + _ ≤ _; exact Nat.le_of_eq rfl) (hb hby at_46) (fun _ _ => ⟨rfl, rfl, (by decide : 2 + 0 ≤ _), (by decide : 8 + 0 ≤ _)⟩)
    dsimp only [Pt.U, Pt.locs, Pt.cells, Pt.slots] at X127 l127 y127 z127 st127 hQ127
    subst l127 y127 z127
    obtain ⟨rfl, N127q, e127⟩ := hQ127
    have N128 := Fr.app N126 N127q
    obtain ⟨T129, h129, X129, e129, E129, A129, D129, -, st129⟩ := newO X127 hx hZ hown (hw _ (List.mem_of_getElem? (i := 0) rfl)) (hw _ (List.mem_of_getElem? (i := 1) rfl)) (hw _ (List.mem_of_getElem? (i := 2) rfl)) e127 (g := (mkF m 51 #[.val (.int p0), .val (.int p1), .val (.int p2), .val (.int p3), .val (.int p4), .val (.int p5), .val (.ref b1), .val (.int (0 : Int32)), .val (.int (own_f4 p1 p2)), .val (.int (own_f4 p1 p2)), .unset] [])) rfl (hb hby at_51) (by decide) (by decide)
    obtain ⟨b129, g129⟩ : ∃ z, z = T113.heap.size := ⟨_, rfl⟩
    rw [← g129] at A129 D129 st129
    have g_b129 : n0 ≤ b129 := Nat.le_trans zs124 (Nat.le_of_eq g129.symm)
    have sz_b129 : h0.size ≤ b129 := Nat.le_trans K125.1 (Nat.le_of_eq g129.symm)
    have lt130 : b1 < b129 := Nat.lt_of_lt_of_le f123.lt (Nat.le_of_eq g129.symm)
    have lt131 : b100 < b129 := Nat.lt_of_lt_of_le f116.lt (Nat.le_of_eq g129.symm)
    have f132 : Exa Z h129 b1 "com/example/casewright/engine/RunLedger$Counts" := f119.ext E129
    have f133 : Fld Z h129 b1 "com/example/casewright/engine/RunLedger$Counts" "run" "I" (.int p0) := f120.ext E129
    have f134 : Fld Z h129 b1 "com/example/casewright/engine/RunLedger$Counts" "failures" "I" (.int p1) := f121.ext E129
    have f135 : Fld Z h129 b1 "com/example/casewright/engine/RunLedger$Counts" "errors" "I" (.int p2) := f122.ext E129
    have f136 : Fld Z h129 b1 "com/example/casewright/engine/RunLedger$Counts" "skipped" "I" (.int p3) := f123.ext E129
    have f137 : Exa Z h129 b100 "com/example/casewright/engine/RunLedger$Counts" := f117.ext E129
    have f138 : Fld Z h129 b100 "com/example/casewright/engine/RunLedger$Counts" "run" "I" (.int p4) := f118.ext E129
    have f139 : Fld Z h129 b100 "com/example/casewright/engine/RunLedger$Counts" "failures" "I" (.int p1) := f114.ext E129
    have f140 : Fld Z h129 b100 "com/example/casewright/engine/RunLedger$Counts" "errors" "I" (.int p2) := f115.ext E129
    have f141 : Fld Z h129 b100 "com/example/casewright/engine/RunLedger$Counts" "skipped" "I" (.int p5) := f116.ext E129
    have zs142 : n0 ≤ h129.size := Nat.le_trans zs124 E129.1
    have K143 : Keep h0 h129 [] := K125.ext E129
    have f144 : Fld Z h129 b129 "com/example/casewright/engine/RunLedger$Counts" "run" "I" (.int (0 : Int32)) := D129 (Or.inr (hw _ (List.mem_of_getElem? (i := 15) rfl))) (ty := .int) (by decide)
    have f145 : Fld Z h129 b129 "com/example/casewright/engine/RunLedger$Counts" "failures" "I" (.int (0 : Int32)) := D129 (Or.inr (hw _ (List.mem_of_getElem? (i := 17) rfl))) (ty := .int) (by decide)
    have f146 : Fld Z h129 b129 "com/example/casewright/engine/RunLedger$Counts" "errors" "I" (.int (0 : Int32)) := D129 (Or.inr (hw _ (List.mem_of_getElem? (i := 19) rfl))) (ty := .int) (by decide)
    have f147 : Fld Z h129 b129 "com/example/casewright/engine/RunLedger$Counts" "skipped" "I" (.int (0 : Int32)) := D129 (Or.inr (hw _ (List.mem_of_getElem? (i := 21) rfl))) (ty := .int) (by decide)
    obtain ⟨_, _, ⟨T148, L148, k148, n148⟩, -, X148, ⟨Lc148, hQ148, l148, y148, z148⟩, st148⟩ := X129.specialBack hx (y := (⟨"com/example/casewright/engine/RunLedger$Counts", "<init>", "(IIII)V"⟩ : MethodName)) rfl hown (mvT hZ (hw _ (List.mem_of_getElem? (i := 3) rfl))) (mvT hZ (hw _ (List.mem_of_getElem? (i := 4) rfl))) (mvT hZ (hw _ (List.mem_of_getElem? (i := 5) rfl))) (by decide) (backOf (W := 1) (own_rm1 l Z a0 hw [] b129 p0 (0 : Int32) (0 : Int32) p3 (.int (0 : Int32)) (.int (0 : Int32)) (.int (0 : Int32)) (.int (0 : Int32)) h129 n0 zs142 f145 f146 f147 A129 f144 g_b129) hZ (hw _ (List.mem_of_getElem? (i := 5) rfl)) (hw _ (List.mem_of_getElem? (i := 2) rfl)) (by decide) (by decide)) (g := (mkF m 59 #[.val (.int p0), .val (.int p1), .val (.int p2), .val (.int p3), .val (.int p4), .val (.int p5), .val (.ref b1), .val (.int (0 : Int32)), .val (.int (own_f4 p1 p2)), .val (.int (own_f4 p1 p2)), .unset] [(.int p3), (.int (0 : Int32)), (.int (0 : Int32)), (.int p0), (.ref b129), (.ref b129)])) rfl (by rw [hml]; rfl) (Steps.refl _) (a := b129) (argsL := [(.int p0), (.int (0 : Int32)), (.int (0 : Int32)), (.int p3)]) (rest := [(.ref b129)]) (lenOf own_pd1 rfl) rfl (by show 2 * 0 + _ ≤ _; exact Nat.le_of_eq rfl) (hb hby at_59) (fun _ _ => ⟨rfl, e129, (by decide : 3 + 0 ≤ _), (by decide : 12 + 0 ≤ _)⟩)
    dsimp only [Pt.U, Pt.locs, Pt.cells, Pt.slots] at X148 l148 y148 z148 st148 hQ148
    subst l148 y148 z148
    obtain ⟨rfl, N148q, K148, f149, f150, f151, f152, f153⟩ := hQ148
    have f154 : Exa Z T148.heap b1 "com/example/casewright/engine/RunLedger$Counts" := f132.keep K148
    have f155 : Fld Z T148.heap b1 "com/example/casewright/engine/RunLedger$Counts" "run" "I" (.int p0) := f133.keep K148 (ninS (Nat.ne_of_lt lt130) nin0)
    have f156 : Fld Z T148.heap b1 "com/example/casewright/engine/RunLedger$Counts" "failures" "I" (.int p1) := f134.keep K148 (ninS (Nat.ne_of_lt lt130) nin0)
    have f157 : Fld Z T148.heap b1 "com/example/casewright/engine/RunLedger$Counts" "errors" "I" (.int p2) := f135.keep K148 (ninS (Nat.ne_of_lt lt130) nin0)
    have f158 : Fld Z T148.heap b1 "com/example/casewright/engine/RunLedger$Counts" "skipped" "I" (.int p3) := f136.keep K148 (ninS (Nat.ne_of_lt lt130) nin0)
    have f159 : Exa Z T148.heap b100 "com/example/casewright/engine/RunLedger$Counts" := f137.keep K148
    have f160 : Fld Z T148.heap b100 "com/example/casewright/engine/RunLedger$Counts" "run" "I" (.int p4) := f138.keep K148 (ninS (Nat.ne_of_lt lt131) nin0)
    have f161 : Fld Z T148.heap b100 "com/example/casewright/engine/RunLedger$Counts" "failures" "I" (.int p1) := f139.keep K148 (ninS (Nat.ne_of_lt lt131) nin0)
    have f162 : Fld Z T148.heap b100 "com/example/casewright/engine/RunLedger$Counts" "errors" "I" (.int p2) := f140.keep K148 (ninS (Nat.ne_of_lt lt131) nin0)
    have f163 : Fld Z T148.heap b100 "com/example/casewright/engine/RunLedger$Counts" "skipped" "I" (.int p5) := f141.keep K148 (ninS (Nat.ne_of_lt lt131) nin0)
    have zs164 : n0 ≤ T148.heap.size := Nat.le_trans zs142 K148.1
    have K165 : Keep h0 T148.heap [] := K143.trans K148 (allS (Or.inr sz_b129) all0)
    have N166 := Fr.app N128 N148q
    obtain ⟨cq167, kq167, q167a, q167b, q167c⟩ := isOf hZ rfl f152
    obtain ⟨_, _, ⟨T167, L167, k167, n167⟩, -, X167, ⟨Lc167, hQ167, l167, y167, z167⟩, st167⟩ := X148.virtualBack hx (y := (⟨"com/example/casewright/engine/RunLedger$Counts", "allPassed", "()Z"⟩ : MethodName)) (z := (⟨"com/example/casewright/engine/RunLedger$Counts", "allPassed", "()Z"⟩ : MethodName)) hown (mvT hZ (hw _ (List.mem_of_getElem? (i := 22) rfl))) (mvT hZ (hw _ (List.mem_of_getElem? (i := 23) rfl))) (notFace_of_selects (args := #[]) (mvT hZ (hw _ (List.mem_of_getElem? (i := 25) rfl)))) (mvT hZ (hw _ (List.mem_of_getElem? (i := 25) rfl))) (mvT hZ (hw _ (List.mem_of_getElem? (i := 24) rfl))) (by decide) (backOf (W := 0) (own_rm4 l Z a0 hw [] b129 (0 : Int32) (0 : Int32) T148.heap n0 zs164 f149 f150) hZ (hw _ (List.mem_of_getElem? (i := 26) rfl)) (hw _ (List.mem_of_getElem? (i := 2) rfl)) (by decide) (by decide)) q167a q167c (g := (mkF m 62 #[.val (.int p0), .val (.int p1), .val (.int p2), .val (.int p3), .val (.int p4), .val (.int p5), .val (.ref b1), .val (.int (0 : Int32)), .val (.int (own_f4 p1 p2)), .val (.int (own_f4 p1 p2)), .unset] [(.ref b129)])) rfl (by rw [hml]; rfl) (Steps.refl _) (argsL := []) (rest := []) (lenOf own_pd2 rfl) rfl (by show 2 * 0 + _ ≤ _; exact Nat.le_of_eq rfl) (hb hby at_62) (fun _ _ => ⟨rfl, rfl, (by decide : 3 + 0 ≤ _), (by decide : 12 + 0 ≤ _)⟩)
    dsimp only [Pt.U, Pt.locs, Pt.cells, Pt.slots] at X167 l167 y167 z167 st167 hQ167
    subst l167 y167 z167
    obtain ⟨rfl, N167q, e167⟩ := hQ167
    have N168 := Fr.app N166 N167q
    have pre169 : ∀ t, Steps p.tables e below (T167.setTop (mkF m 71 #[.val (.int p0), .val (.int p1), .val (.int p2), .val (.int p3), .val (.int p4), .val (.int p5), .val (.ref b1), .val (.int (0 : Int32)), .val (.int (own_f4 p1 p2)), .val (.int (own_f4 p1 p2)), .val (.int (own_f4 (0 : Int32) (0 : Int32)))] [(.int (0 : Int32)), (.int (own_f4 p1 p2))])) t → Steps p.tables e below (s₁.setTop (entryFrame m #[(.int p0), (.int p1), (.int p2), (.int p3), (.int p4), (.int p5)] maxLocals)) t := fun t k => pre18 t (by
        refine XS.ifYes X9.here hx rfl (pc0 := 16) (pc' := 23) rfl (hb hby at_16) rfl ((if0 _ _).trans (feq hc19).2) (by decide) (by decide) ?_
        show Steps p.tables e below (T9.setTop (mkF m 23 #[.val (.int p0), .val (.int p1), .val (.int p2), .val (.int p3), .val (.int p4), .val (.int p5), .val (.ref b1), .unset, .unset, .unset, .unset] [])) _
        refine XS.iconst X9.here hx rfl (hb hby at_23) ?_
        show Steps p.tables e below (T9.setTop (mkF m 24 #[.val (.int p0), .val (.int p1), .val (.int p2), .val (.int p3), .val (.int p4), .val (.int p5), .val (.ref b1), .unset, .unset, .unset, .unset] [(.int (0 : Int32))])) _
        refine XS.istore X9.here hx rfl (hb hby at_24) rfl (l' := #[.val (.int p0), .val (.int p1), .val (.int p2), .val (.int p3), .val (.int p4), .val (.int p5), .val (.ref b1), .val (.int (0 : Int32)), .unset, .unset, .unset]) rfl ?_
        show Steps p.tables e below (T9.setTop (mkF m 26 #[.val (.int p0), .val (.int p1), .val (.int p2), .val (.int p3), .val (.int p4), .val (.int p5), .val (.ref b1), .val (.int (0 : Int32)), .unset, .unset, .unset] [])) _
        refine XS.aload X9.here hx rfl (hb hby at_26) rfl rfl ?_
        show Steps p.tables e below (T9.setTop (mkF m 28 #[.val (.int p0), .val (.int p1), .val (.int p2), .val (.int p3), .val (.int p4), .val (.int p5), .val (.ref b1), .val (.int (0 : Int32)), .unset, .unset, .unset] [(.ref b1)])) _
        refine st98.trans ?_
        show Steps p.tables e below (T98.setTop (mkF m 31 #[.val (.int p0), .val (.int p1), .val (.int p2), .val (.int p3), .val (.int p4), .val (.int p5), .val (.ref b1), .val (.int (0 : Int32)), .unset, .unset, .unset] [(.int (own_f4 p1 p2))])) _
        refine XS.istore X98.here hx rfl (hb hby at_31) rfl (l' := #[.val (.int p0), .val (.int p1), .val (.int p2), .val (.int p3), .val (.int p4), .val (.int p5), .val (.ref b1), .val (.int (0 : Int32)), .val (.int (own_f4 p1 p2)), .unset, .unset]) rfl ?_
        show Steps p.tables e below (T98.setTop (mkF m 33 #[.val (.int p0), .val (.int p1), .val (.int p2), .val (.int p3), .val (.int p4), .val (.int p5), .val (.ref b1), .val (.int (0 : Int32)), .val (.int (own_f4 p1 p2)), .unset, .unset] [])) _
        refine st100 _ ?_
        show Steps p.tables e below (T100.setTop (mkF m 36 #[.val (.int p0), .val (.int p1), .val (.int p2), .val (.int p3), .val (.int p4), .val (.int p5), .val (.ref b1), .val (.int (0 : Int32)), .val (.int (own_f4 p1 p2)), .unset, .unset] [(.ref b100)])) _
        refine XS.dup X100.here hx rfl (hb hby at_36) rfl rfl ?_
        show Steps p.tables e below (T100.setTop (mkF m 37 #[.val (.int p0), .val (.int p1), .val (.int p2), .val (.int p3), .val (.int p4), .val (.int p5), .val (.ref b1), .val (.int (0 : Int32)), .val (.int (own_f4 p1 p2)), .unset, .unset] [(.ref b100), (.ref b100)])) _
        refine XS.iload X100.here hx rfl (hb hby at_37) rfl ?_
        show Steps p.tables e below (T100.setTop (mkF m 39 #[.val (.int p0), .val (.int p1), .val (.int p2), .val (.int p3), .val (.int p4), .val (.int p5), .val (.ref b1), .val (.int (0 : Int32)), .val (.int (own_f4 p1 p2)), .unset, .unset] [(.int p4), (.ref b100), (.ref b100)])) _
        refine XS.iloadN X100.here hx rfl (hb hby at_39) rfl ?_
        show Steps p.tables e below (T100.setTop (mkF m 40 #[.val (.int p0), .val (.int p1), .val (.int p2), .val (.int p3), .val (.int p4), .val (.int p5), .val (.ref b1), .val (.int (0 : Int32)), .val (.int (own_f4 p1 p2)), .unset, .unset] [(.int p1), (.int p4), (.ref b100), (.ref b100)])) _
        refine XS.iloadN X100.here hx rfl (hb hby at_40) rfl ?_
        show Steps p.tables e below (T100.setTop (mkF m 41 #[.val (.int p0), .val (.int p1), .val (.int p2), .val (.int p3), .val (.int p4), .val (.int p5), .val (.ref b1), .val (.int (0 : Int32)), .val (.int (own_f4 p1 p2)), .unset, .unset] [(.int p2), (.int p1), (.int p4), (.ref b100), (.ref b100)])) _
        refine XS.iload X100.here hx rfl (hb hby at_41) rfl ?_
        show Steps p.tables e below (T100.setTop (mkF m 43 #[.val (.int p0), .val (.int p1), .val (.int p2), .val (.int p3), .val (.int p4), .val (.int p5), .val (.ref b1), .val (.int (0 : Int32)), .val (.int (own_f4 p1 p2)), .unset, .unset] [(.int p5), (.int p2), (.int p1), (.int p4), (.ref b100), (.ref b100)])) _
        refine st113.trans ?_
        show Steps p.tables e below (T113.setTop (mkF m 46 #[.val (.int p0), .val (.int p1), .val (.int p2), .val (.int p3), .val (.int p4), .val (.int p5), .val (.ref b1), .val (.int (0 : Int32)), .val (.int (own_f4 p1 p2)), .unset, .unset] [(.ref b100)])) _
        refine st127.trans ?_
        show Steps p.tables e below (T127.setTop (mkF m 49 #[.val (.int p0), .val (.int p1), .val (.int p2), .val (.int p3), .val (.int p4), .val (.int p5), .val (.ref b1), .val (.int (0 : Int32)), .val (.int (own_f4 p1 p2)), .unset, .unset] [(.int (own_f4 p1 p2))])) _
        refine XS.istore X127.here hx rfl (hb hby at_49) rfl (l' := #[.val (.int p0), .val (.int p1), .val (.int p2), .val (.int p3), .val (.int p4), .val (.int p5), .val (.ref b1), .val (.int (0 : Int32)), .val (.int (own_f4 p1 p2)), .val (.int (own_f4 p1 p2)), .unset]) rfl ?_
        show Steps p.tables e below (T127.setTop (mkF m 51 #[.val (.int p0), .val (.int p1), .val (.int p2), .val (.int p3), .val (.int p4), .val (.int p5), .val (.ref b1), .val (.int (0 : Int32)), .val (.int (own_f4 p1 p2)), .val (.int (own_f4 p1 p2)), .unset] [])) _
        refine st129 _ ?_
        show Steps p.tables e below (T129.setTop (mkF m 54 #[.val (.int p0), .val (.int p1), .val (.int p2), .val (.int p3), .val (.int p4), .val (.int p5), .val (.ref b1), .val (.int (0 : Int32)), .val (.int (own_f4 p1 p2)), .val (.int (own_f4 p1 p2)), .unset] [(.ref b129)])) _
        refine XS.dup X129.here hx rfl (hb hby at_54) rfl rfl ?_
        show Steps p.tables e below (T129.setTop (mkF m 55 #[.val (.int p0), .val (.int p1), .val (.int p2), .val (.int p3), .val (.int p4), .val (.int p5), .val (.ref b1), .val (.int (0 : Int32)), .val (.int (own_f4 p1 p2)), .val (.int (own_f4 p1 p2)), .unset] [(.ref b129), (.ref b129)])) _
        refine XS.iloadN X129.here hx rfl (hb hby at_55) rfl ?_
        show Steps p.tables e below (T129.setTop (mkF m 56 #[.val (.int p0), .val (.int p1), .val (.int p2), .val (.int p3), .val (.int p4), .val (.int p5), .val (.ref b1), .val (.int (0 : Int32)), .val (.int (own_f4 p1 p2)), .val (.int (own_f4 p1 p2)), .unset] [(.int p0), (.ref b129), (.ref b129)])) _
        refine XS.iconst X129.here hx rfl (hb hby at_56) ?_
        show Steps p.tables e below (T129.setTop (mkF m 57 #[.val (.int p0), .val (.int p1), .val (.int p2), .val (.int p3), .val (.int p4), .val (.int p5), .val (.ref b1), .val (.int (0 : Int32)), .val (.int (own_f4 p1 p2)), .val (.int (own_f4 p1 p2)), .unset] [(.int (0 : Int32)), (.int p0), (.ref b129), (.ref b129)])) _
        refine XS.iconst X129.here hx rfl (hb hby at_57) ?_
        show Steps p.tables e below (T129.setTop (mkF m 58 #[.val (.int p0), .val (.int p1), .val (.int p2), .val (.int p3), .val (.int p4), .val (.int p5), .val (.ref b1), .val (.int (0 : Int32)), .val (.int (own_f4 p1 p2)), .val (.int (own_f4 p1 p2)), .unset] [(.int (0 : Int32)), (.int (0 : Int32)), (.int p0), (.ref b129), (.ref b129)])) _
        refine XS.iloadN X129.here hx rfl (hb hby at_58) rfl ?_
        show Steps p.tables e below (T129.setTop (mkF m 59 #[.val (.int p0), .val (.int p1), .val (.int p2), .val (.int p3), .val (.int p4), .val (.int p5), .val (.ref b1), .val (.int (0 : Int32)), .val (.int (own_f4 p1 p2)), .val (.int (own_f4 p1 p2)), .unset] [(.int p3), (.int (0 : Int32)), (.int (0 : Int32)), (.int p0), (.ref b129), (.ref b129)])) _
        refine st148.trans ?_
        show Steps p.tables e below (T148.setTop (mkF m 62 #[.val (.int p0), .val (.int p1), .val (.int p2), .val (.int p3), .val (.int p4), .val (.int p5), .val (.ref b1), .val (.int (0 : Int32)), .val (.int (own_f4 p1 p2)), .val (.int (own_f4 p1 p2)), .unset] [(.ref b129)])) _
        refine st167.trans ?_
        show Steps p.tables e below (T167.setTop (mkF m 65 #[.val (.int p0), .val (.int p1), .val (.int p2), .val (.int p3), .val (.int p4), .val (.int p5), .val (.ref b1), .val (.int (0 : Int32)), .val (.int (own_f4 p1 p2)), .val (.int (own_f4 p1 p2)), .unset] [(.int (own_f4 (0 : Int32) (0 : Int32)))])) _
        refine XS.istore X167.here hx rfl (hb hby at_65) rfl (l' := #[.val (.int p0), .val (.int p1), .val (.int p2), .val (.int p3), .val (.int p4), .val (.int p5), .val (.ref b1), .val (.int (0 : Int32)), .val (.int (own_f4 p1 p2)), .val (.int (own_f4 p1 p2)), .val (.int (own_f4 (0 : Int32) (0 : Int32)))]) rfl ?_
        show Steps p.tables e below (T167.setTop (mkF m 67 #[.val (.int p0), .val (.int p1), .val (.int p2), .val (.int p3), .val (.int p4), .val (.int p5), .val (.ref b1), .val (.int (0 : Int32)), .val (.int (own_f4 p1 p2)), .val (.int (own_f4 p1 p2)), .val (.int (own_f4 (0 : Int32) (0 : Int32)))] [])) _
        refine XS.iload X167.here hx rfl (hb hby at_67) rfl ?_
        show Steps p.tables e below (T167.setTop (mkF m 69 #[.val (.int p0), .val (.int p1), .val (.int p2), .val (.int p3), .val (.int p4), .val (.int p5), .val (.ref b1), .val (.int (0 : Int32)), .val (.int (own_f4 p1 p2)), .val (.int (own_f4 p1 p2)), .val (.int (own_f4 (0 : Int32) (0 : Int32)))] [(.int (own_f4 p1 p2))])) _
        refine XS.iload X167.here hx rfl (hb hby at_69) rfl ?_
        show Steps p.tables e below (T167.setTop (mkF m 71 #[.val (.int p0), .val (.int p1), .val (.int p2), .val (.int p3), .val (.int p4), .val (.int p5), .val (.ref b1), .val (.int (0 : Int32)), .val (.int (own_f4 p1 p2)), .val (.int (own_f4 p1 p2)), .val (.int (own_f4 (0 : Int32) (0 : Int32)))] [(.int (0 : Int32)), (.int (own_f4 p1 p2))])) _
        exact k)
    by_cases hc170 : (own_f4 p1 p2) = (0 : Int32)
    · have pre171 : ∀ t, Steps p.tables e below (T167.setTop (mkF m 83 #[.val (.int p0), .val (.int p1), .val (.int p2), .val (.int p3), .val (.int p4), .val (.int p5), .val (.ref b1), .val (.int (0 : Int32)), .val (.int (own_f4 p1 p2)), .val (.int (own_f4 p1 p2)), .val (.int (own_f4 (0 : Int32) (0 : Int32)))] [(.int (own_f4 (0 : Int32) (0 : Int32)))])) t → Steps p.tables e below (s₁.setTop (entryFrame m #[(.int p0), (.int p1), (.int p2), (.int p3), (.int p4), (.int p5)] maxLocals)) t := fun t k => pre169 t (by
          refine XS.icmpNo X167.here hx rfl (hb hby at_71) rfl (teq hc170).2 ?_
          show Steps p.tables e below (T167.setTop (mkF m 74 #[.val (.int p0), .val (.int p1), .val (.int p2), .val (.int p3), .val (.int p4), .val (.int p5), .val (.ref b1), .val (.int (0 : Int32)), .val (.int (own_f4 p1 p2)), .val (.int (own_f4 p1 p2)), .val (.int (own_f4 (0 : Int32) (0 : Int32)))] [])) _
          refine XS.iload X167.here hx rfl (hb hby at_74) rfl ?_
          show Steps p.tables e below (T167.setTop (mkF m 76 #[.val (.int p0), .val (.int p1), .val (.int p2), .val (.int p3), .val (.int p4), .val (.int p5), .val (.ref b1), .val (.int (0 : Int32)), .val (.int (own_f4 p1 p2)), .val (.int (own_f4 p1 p2)), .val (.int (own_f4 (0 : Int32) (0 : Int32)))] [(.int (own_f4 p1 p2))])) _
          refine XS.iload X167.here hx rfl (hb hby at_76) rfl ?_
          show Steps p.tables e below (T167.setTop (mkF m 78 #[.val (.int p0), .val (.int p1), .val (.int p2), .val (.int p3), .val (.int p4), .val (.int p5), .val (.ref b1), .val (.int (0 : Int32)), .val (.int (own_f4 p1 p2)), .val (.int (own_f4 p1 p2)), .val (.int (own_f4 (0 : Int32) (0 : Int32)))] [(.int (own_f4 p1 p2)), (.int (own_f4 p1 p2))])) _
          refine XS.icmpNo X167.here hx rfl (hb hby at_78) rfl (teq (rfl : (own_f4 p1 p2) = (own_f4 p1 p2))).2 ?_
          show Steps p.tables e below (T167.setTop (mkF m 81 #[.val (.int p0), .val (.int p1), .val (.int p2), .val (.int p3), .val (.int p4), .val (.int p5), .val (.ref b1), .val (.int (0 : Int32)), .val (.int (own_f4 p1 p2)), .val (.int (own_f4 p1 p2)), .val (.int (own_f4 (0 : Int32) (0 : Int32)))] [])) _
          refine XS.iload X167.here hx rfl (hb hby at_81) rfl ?_
          show Steps p.tables e below (T167.setTop (mkF m 83 #[.val (.int p0), .val (.int p1), .val (.int p2), .val (.int p3), .val (.int p4), .val (.int p5), .val (.ref b1), .val (.int (0 : Int32)), .val (.int (own_f4 p1 p2)), .val (.int (own_f4 p1 p2)), .val (.int (own_f4 (0 : Int32) (0 : Int32)))] [(.int (own_f4 (0 : Int32) (0 : Int32)))])) _
          exact k)
      by_cases hc172 : (own_f4 (0 : Int32) (0 : Int32)) = (0 : Int32)
      · have pre173 : ∀ t, Steps p.tables e below (T167.setTop (mkF m 91 #[.val (.int p0), .val (.int p1), .val (.int p2), .val (.int p3), .val (.int p4), .val (.int p5), .val (.ref b1), .val (.int (0 : Int32)), .val (.int (own_f4 p1 p2)), .val (.int (own_f4 p1 p2)), .val (.int (own_f4 (0 : Int32) (0 : Int32)))] [(.int (0 : Int32))])) t → Steps p.tables e below (s₁.setTop (entryFrame m #[(.int p0), (.int p1), (.int p2), (.int p3), (.int p4), (.int p5)] maxLocals)) t := fun t k => pre171 t (by
            refine XS.ifYes X167.here hx rfl (pc0 := 83) (pc' := 90) rfl (hb hby at_83) rfl ((if0 _ _).trans (teq hc172).1) (by decide) (by decide) ?_
            show Steps p.tables e below (T167.setTop (mkF m 90 #[.val (.int p0), .val (.int p1), .val (.int p2), .val (.int p3), .val (.int p4), .val (.int p5), .val (.ref b1), .val (.int (0 : Int32)), .val (.int (own_f4 p1 p2)), .val (.int (own_f4 p1 p2)), .val (.int (own_f4 (0 : Int32) (0 : Int32)))] [])) _
            refine XS.iconst X167.here hx rfl (hb hby at_90) ?_
            show Steps p.tables e below (T167.setTop (mkF m 91 #[.val (.int p0), .val (.int p1), .val (.int p2), .val (.int p3), .val (.int p4), .val (.int p5), .val (.ref b1), .val (.int (0 : Int32)), .val (.int (own_f4 p1 p2)), .val (.int (own_f4 p1 p2)), .val (.int (own_f4 (0 : Int32) (0 : Int32)))] [(.int (0 : Int32))])) _
            exact k)
        obtain ⟨fs, hr, hrun, hended, hW, hsame⟩ := X167.leave (v := some (.int (0 : Int32))) (fun h => by rw [Bd.returns] at h; cases h)
        refine ⟨_, _, pre173 _ ?_, hrun, hended, _, _, rfl, ?_, ⟨_, rfl⟩, hW, hsame.mono (by decide) (by decide)⟩
        · show Steps p.tables e below (T167.setTop (mkF m 91 #[.val (.int p0), .val (.int p1), .val (.int p2), .val (.int p3), .val (.int p4), .val (.int p5), .val (.ref b1), .val (.int (0 : Int32)), .val (.int (own_f4 p1 p2)), .val (.int (own_f4 p1 p2)), .val (.int (own_f4 (0 : Int32) (0 : Int32)))] [(.int (0 : Int32))])) _
          exact retN X167 hx (t := .boolean) Bd.returns (by simp) (hb hby at_91) hr
        · show own_Q0 Z p0 p1 p2 p3 p4 p5 h0 n0 _ T167.heap _; exact ⟨(by show some (Value.int _) = some (.int (own_f0 p1 p2)); unfold own_f0; rw [if_neg hc19, if_pos hc170, if_pos hc172]), N168⟩
      · have pre174 : ∀ t, Steps p.tables e below (T167.setTop (mkF m 91 #[.val (.int p0), .val (.int p1), .val (.int p2), .val (.int p3), .val (.int p4), .val (.int p5), .val (.ref b1), .val (.int (0 : Int32)), .val (.int (own_f4 p1 p2)), .val (.int (own_f4 p1 p2)), .val (.int (own_f4 (0 : Int32) (0 : Int32)))] [(.int (1 : Int32))])) t → Steps p.tables e below (s₁.setTop (entryFrame m #[(.int p0), (.int p1), (.int p2), (.int p3), (.int p4), (.int p5)] maxLocals)) t := fun t k => pre171 t (by
            refine XS.ifNo X167.here hx rfl (hb hby at_83) rfl ((if0 _ _).trans (feq hc172).1) ?_
            show Steps p.tables e below (T167.setTop (mkF m 86 #[.val (.int p0), .val (.int p1), .val (.int p2), .val (.int p3), .val (.int p4), .val (.int p5), .val (.ref b1), .val (.int (0 : Int32)), .val (.int (own_f4 p1 p2)), .val (.int (own_f4 p1 p2)), .val (.int (own_f4 (0 : Int32) (0 : Int32)))] [])) _
            refine XS.iconst X167.here hx rfl (hb hby at_86) ?_
            show Steps p.tables e below (T167.setTop (mkF m 87 #[.val (.int p0), .val (.int p1), .val (.int p2), .val (.int p3), .val (.int p4), .val (.int p5), .val (.ref b1), .val (.int (0 : Int32)), .val (.int (own_f4 p1 p2)), .val (.int (own_f4 p1 p2)), .val (.int (own_f4 (0 : Int32) (0 : Int32)))] [(.int (1 : Int32))])) _
            refine XS.goto X167.here hx rfl (pc0 := 87) (pc' := 91) rfl (hb hby at_87) (by decide) (by decide) ?_
            show Steps p.tables e below (T167.setTop (mkF m 91 #[.val (.int p0), .val (.int p1), .val (.int p2), .val (.int p3), .val (.int p4), .val (.int p5), .val (.ref b1), .val (.int (0 : Int32)), .val (.int (own_f4 p1 p2)), .val (.int (own_f4 p1 p2)), .val (.int (own_f4 (0 : Int32) (0 : Int32)))] [(.int (1 : Int32))])) _
            exact k)
        obtain ⟨fs, hr, hrun, hended, hW, hsame⟩ := X167.leave (v := some (.int (1 : Int32))) (fun h => by rw [Bd.returns] at h; cases h)
        refine ⟨_, _, pre174 _ ?_, hrun, hended, _, _, rfl, ?_, ⟨_, rfl⟩, hW, hsame.mono (by decide) (by decide)⟩
        · show Steps p.tables e below (T167.setTop (mkF m 91 #[.val (.int p0), .val (.int p1), .val (.int p2), .val (.int p3), .val (.int p4), .val (.int p5), .val (.ref b1), .val (.int (0 : Int32)), .val (.int (own_f4 p1 p2)), .val (.int (own_f4 p1 p2)), .val (.int (own_f4 (0 : Int32) (0 : Int32)))] [(.int (1 : Int32))])) _
          exact retN X167 hx (t := .boolean) Bd.returns (by simp) (hb hby at_91) hr
        · show own_Q0 Z p0 p1 p2 p3 p4 p5 h0 n0 _ T167.heap _; exact ⟨(by show some (Value.int _) = some (.int (own_f0 p1 p2)); unfold own_f0; rw [if_neg hc19, if_pos hc170, if_neg hc172]), N168⟩
    · have pre175 : ∀ t, Steps p.tables e below (T167.setTop (mkF m 91 #[.val (.int p0), .val (.int p1), .val (.int p2), .val (.int p3), .val (.int p4), .val (.int p5), .val (.ref b1), .val (.int (0 : Int32)), .val (.int (own_f4 p1 p2)), .val (.int (own_f4 p1 p2)), .val (.int (own_f4 (0 : Int32) (0 : Int32)))] [(.int (0 : Int32))])) t → Steps p.tables e below (s₁.setTop (entryFrame m #[(.int p0), (.int p1), (.int p2), (.int p3), (.int p4), (.int p5)] maxLocals)) t := fun t k => pre169 t (by
          refine XS.icmpYes X167.here hx rfl (pc0 := 71) (pc' := 90) rfl (hb hby at_71) rfl (feq hc170).2 (by decide) (by decide) ?_
          show Steps p.tables e below (T167.setTop (mkF m 90 #[.val (.int p0), .val (.int p1), .val (.int p2), .val (.int p3), .val (.int p4), .val (.int p5), .val (.ref b1), .val (.int (0 : Int32)), .val (.int (own_f4 p1 p2)), .val (.int (own_f4 p1 p2)), .val (.int (own_f4 (0 : Int32) (0 : Int32)))] [])) _
          refine XS.iconst X167.here hx rfl (hb hby at_90) ?_
          show Steps p.tables e below (T167.setTop (mkF m 91 #[.val (.int p0), .val (.int p1), .val (.int p2), .val (.int p3), .val (.int p4), .val (.int p5), .val (.ref b1), .val (.int (0 : Int32)), .val (.int (own_f4 p1 p2)), .val (.int (own_f4 p1 p2)), .val (.int (own_f4 (0 : Int32) (0 : Int32)))] [(.int (0 : Int32))])) _
          exact k)
      obtain ⟨fs, hr, hrun, hended, hW, hsame⟩ := X167.leave (v := some (.int (0 : Int32))) (fun h => by rw [Bd.returns] at h; cases h)
      refine ⟨_, _, pre175 _ ?_, hrun, hended, _, _, rfl, ?_, ⟨_, rfl⟩, hW, hsame.mono (by decide) (by decide)⟩
      · show Steps p.tables e below (T167.setTop (mkF m 91 #[.val (.int p0), .val (.int p1), .val (.int p2), .val (.int p3), .val (.int p4), .val (.int p5), .val (.ref b1), .val (.int (0 : Int32)), .val (.int (own_f4 p1 p2)), .val (.int (own_f4 p1 p2)), .val (.int (own_f4 (0 : Int32) (0 : Int32)))] [(.int (0 : Int32))])) _
        exact retN X167 hx (t := .boolean) Bd.returns (by simp) (hb hby at_91) hr
      · show own_Q0 Z p0 p1 p2 p3 p4 p5 h0 n0 _ T167.heap _; exact ⟨(by show some (Value.int _) = some (.int (own_f0 p1 p2)); unfold own_f0; rw [if_neg hc19, if_neg hc170]), N168⟩
theorem own_or0 (x y : Int32) : x ||| y = 0 ↔ x = 0 ∧ y = 0 := by
  rw [← Int32.toBitVec_inj, ← Int32.toBitVec_inj, ← Int32.toBitVec_inj]
  exact BitVec.or_eq_zero_iff
theorem own_plain (x y : Int32) : own_f0 x y = 1 := by
  unfold own_f0
  rw [if_neg (by decide : ¬ own_f4 (0 : Int32) (0 : Int32) = (0 : Int32))]
  by_cases h : x ||| y = (0 : Int32)
  · obtain ⟨rfl, rfl⟩ := (own_or0 x y).mp h
    decide
  · rw [if_neg h]
    have e : own_f4 x y = 0 := by
      unfold own_f4
      by_cases h1 : x = 0
      · rw [if_pos h1, if_neg (fun h2 => h ((own_or0 x y).mpr ⟨h1, h2⟩))]
      · rw [if_neg h1]
    rw [if_pos e]
set_option maxRecDepth 65536 in
set_option maxHeartbeats 40000000 in
theorem comes_1 {Post : Tables → Env → Array Value → State → Outcome → State → Prop} (hpost : ∀ tb e args s v u, (limb_1_1.after args s (.returned v) u = true ∧ limb_1_2.after args s (.returned v) u = true ∧ True) → FrameEnd s (.returned v) u (Jvm.fieldLocs frame_1_writes args s ++ Jvm.arrayLocs frame_1_arrays args s ++ Jvm.staticLocs frame_1_statics s) 16 128 → Post tb e args s (.returned v) u) :
    ArmFor flags0 classFile x code maxLocals ret World_1 tables_1 room_1 Calls_1 rest_1 Pre_1 Post := by
  intro l hfl _ _ p e ha hc hk s m args below hf hA hF happ hP
  obtain ⟨hcalls, hrest, hpre⟩ := hP
  obtain ⟨-, -, -, hnamed, -, -, -, hat⟩ := (Spec.applies_iff hf).mp happ
  obtain ⟨hg, hn⟩ := and_e (Cond.before_iff.mp (show (Jvm.Cond.and given_1 narrow_1).before args s = true from hpre))
  obtain ⟨gc, gr0⟩ := and_e hg
  obtain ⟨ga0, gr1⟩ := and_e gr0
  obtain ⟨ga1, gr2⟩ := and_e gr1
  obtain ⟨ga2, gr3⟩ := and_e gr2
  obtain ⟨ga3, gr4⟩ := and_e gr3
  obtain ⟨ga4, gr5⟩ := and_e gr4
  have ga5 := gr5
  obtain ⟨w0, w1, w2, w3, w4, w5, rfl⟩ : ∃ w0 w1 w2 w3 w4 w5 : Value, args = #[w0, w1, w2, w3, w4, w5] := by
    have hs : args.size = 6 := by simpa [Cond.value, given_1] using gc
    obtain ⟨L⟩ := args
    match L, hs with
    | [w0, w1, w2, w3, w4, w5], _ => exact ⟨w0, w1, w2, w3, w4, w5, rfl⟩
  have hw := fun d (hd : d ∈ tables_1) => atoms_spec (ws := Jvm.Cond.code x code maxLocals ret :: tables_1) hat d (List.mem_cons_of_mem _ hd)
  obtain ⟨i0, ei0⟩ := is_v ga0
  obtain rfl : w0 = (.int i0) := Option.some.inj ei0
  obtain ⟨i1, ei1⟩ := is_v ga1
  obtain rfl : w1 = (.int i1) := Option.some.inj ei1
  obtain ⟨i2, ei2⟩ := is_v ga2
  obtain rfl : w2 = (.int i2) := Option.some.inj ei2
  obtain ⟨i3, ei3⟩ := is_v ga3
  obtain rfl : w3 = (.int i3) := Option.some.inj ei3
  obtain ⟨i4, ei4⟩ := is_v ga4
  obtain rfl : w4 = (.int i4) := Option.some.inj ei4
  obtain ⟨i5, ei5⟩ := is_v ga5
  obtain rfl : w5 = (.int i5) := Option.some.inj ei5
  obtain ⟨n, o, h1, h2, h3, _, L, rfl, ⟨hv, N⟩, hq⟩ := own_rm0 l s _ hw tables_1 i0 i1 i2 i3 i4 i5 s.heap s.heap.size (Nat.le_refl _) p e ha hc hk s m _ below hf ((Spec.applies_iff_loose hf).mp happ).1 ⟨rfl, State.Warmed39.refl s, rfl⟩ trivial
  rw [show (own_f0 i1 i2) = (1 : Int32) from own_plain i1 i2] at hv
  subst hv
  refine ⟨n, _, h1, h2, h3, hpost _ _ _ _ _ _ ⟨Cond.after_iff.mpr rfl, Cond.after_iff.mpr (eq_i res_at (Term.int_eval (1)) rfl), trivial⟩ ⟨hq.1, hq.2.1, (hq.2.2.sift fun y hy => Or.inr (N y hy)).mono (by decide) (by decide)⟩⟩
theorem main_1_1 : Claimed_1_1 := comes_1 fun _ _ _ _ _ _ h hF => ⟨h.1, hF⟩
theorem main_1_2 : Claimed_1_2 := comes_1 fun _ _ _ _ _ _ h hF => ⟨h.2.1, hF⟩
end Jvm.Pilot.@@N@@
namespace Jvm.Pilot.@@N@@
open Jvm Jvm.ClassFile Sem Op Lib Jvm.Free Jvm.Stand Jvm.Pilot.@@N@@.Jvm.D
/-! MADE BY PROGRAM (witnessworld.py) out of the Statement's table words and the real class files: 8 classes; the members and pool entries that the words name. The judged class is class 1, her method 1. -/
namespace start1
open Jvm.ClassFile
def u (s : String) : CpInfo := .utf8 (stringToUtf16 s)
/-- a pool by its gaps: so many unusable entries, then the entry; so many at the end -/
def gap : Nat → List CpInfo → List CpInfo
  | 0, r => r
  | n + 1, r => .unusable :: gap n r
def poolList (es : List (Nat × CpInfo)) (last : Nat) : List CpInfo := es.foldr (fun e r => gap e.1 (e.2 :: r)) (gap last [])
def pool (es : List (Nat × CpInfo)) (last : Nat) : Array CpInfo := ⟨poolList es last⟩
def fileOf (pool : Array CpInfo) (this : Nat) (attrs : Array Attribute := #[]) (ms : Array MethodInfo := #[]) (fl : Nat := 33) (sup : Nat := 0) (ifs : Array Nat := #[]) (fds : Array FieldInfo := #[]) : ClassFile where
  minorVersion := 0
  majorVersion := 65
  constantPool := pool
  accessFlags := fl
  thisClass := this
  superClass := sup
  interfaces := ifs
  fields := fds
  methods := ms
  attributes := attrs
def plain (name : String) (sup : Option ClassId) : Class where
  name := name
  kind := .ordinary
  loader := none
  accessFlags := 33
  super := sup
  interfaces := #[]
  cf := none
  fields := #[]
  methods := #[]
  instanceTypes := #[]
  staticTypes := #[]
  resolved := #[]
  callSites := []
  init := .initialized
  statics := none
  mirror := none

def pool0 : Array CpInfo := pool [(5, u "<init>"), (0, u "()V"), (1, .class_ 10), (1, u "java/lang/Object")] 113

def k0c0 : Code := { maxStack := 0, maxLocals := 1, code := object_method_1_code, exceptionTable := #[], attributes := #[] }
def k0m0 : Method := { name := "<init>", desc := "()V", sig := { parameters := [], returnType := none }, accessFlags := 1, code := some k0c0 }
/-- java/lang/Object -/
def k0 : Class := { plain "java/lang/Object" none with
  accessFlags := 33
  interfaces := #[]
  cf := some (fileOf pool0 8 #[] #[{ accessFlags := 1, nameIndex := 5, descriptorIndex := 6, attributes := #[] }] 33 0 #[] #[])
  fields := #[]
  methods := #[k0m0]
  instanceTypes := #[]
  staticTypes := #[]
  resolved := Array.replicate 124 none
  statics := none }

def pool1 : Array CpInfo := pool [(2, .class_ 4), (1, u "java/lang/Object"), (0, u "<init>"), (0, u "()V"), (0, .class_ 8), (0, u "com/example/casewright/engine/RunLedger$Counts"), (0, .methodref 7 10), (0, .nameAndType 5 11), (0, u "(IIII)V"), (0, .methodref 7 13), (0, .nameAndType 14 15), (0, u "allPassed"), (0, u "()Z"), (0, .class_ 17), (0, u "com/example/casewright/engine/CountsAllPassedPinLaw"), (2, u "law"), (0, u "(IIIIII)Z")] 7

def k1m0 : Method := { name := "<init>", desc := "()V", sig := { parameters := [], returnType := none }, accessFlags := 2, code := none }
def k1c1 : Code := { maxStack := 6, maxLocals := 11, code := code, exceptionTable := #[], attributes := #[] }
def k1m1 : Method := { name := "law", desc := "(IIIIII)Z", sig := { parameters := [.int, .int, .int, .int, .int, .int], returnType := some .boolean }, accessFlags := 9, code := some k1c1 }
/-- com/example/casewright/engine/CountsAllPassedPinLaw -/
def k1 : Class := { plain "com/example/casewright/engine/CountsAllPassedPinLaw" (some 0) with
  accessFlags := 49
  interfaces := #[]
  cf := some (fileOf pool1 16 #[] #[{ accessFlags := 2, nameIndex := 5, descriptorIndex := 6, attributes := #[] }, { accessFlags := 9, nameIndex := 20, descriptorIndex := 21, attributes := #[] }] 49 2 #[] #[])
  fields := #[]
  methods := #[k1m0, k1m1]
  instanceTypes := #[]
  staticTypes := #[]
  resolved := Array.replicate 29 none
  statics := none }

def pool2 : Array CpInfo := pool [(1, .methodref 2 3), (0, .class_ 4), (0, .nameAndType 5 6), (0, u "java/lang/Object"), (0, u "<init>"), (0, u "()V"), (0, .class_ 8), (0, u "java/lang/Record")] 13

def k2c0 : Code := { maxStack := 1, maxLocals := 1, code := jdk_30_method_1_code, exceptionTable := #[], attributes := #[] }
def k2m0 : Method := { name := "<init>", desc := "()V", sig := { parameters := [], returnType := none }, accessFlags := 4, code := some k2c0 }
/-- java/lang/Record -/
def k2 : Class := { plain "java/lang/Record" (some 0) with
  accessFlags := 1057
  interfaces := #[]
  cf := some (fileOf pool2 7 #[] #[{ accessFlags := 4, nameIndex := 5, descriptorIndex := 6, attributes := #[] }] 1057 2 #[] #[])
  fields := #[]
  methods := #[k2m0]
  instanceTypes := #[]
  staticTypes := #[]
  resolved := Array.replicate 22 none
  statics := none }

def pool3 : Array CpInfo := pool [(1, .methodref 2 3), (0, .class_ 4), (0, .nameAndType 5 6), (0, u "java/lang/Record"), (0, u "<init>"), (0, u "()V"), (0, .fieldref 8 9), (0, .class_ 10), (0, .nameAndType 11 12), (0, u "com/example/casewright/engine/RunLedger$Counts"), (0, u "run"), (0, u "I"), (0, .fieldref 8 14), (0, .nameAndType 15 12), (0, u "failures"), (0, .fieldref 8 17), (0, .nameAndType 18 12), (0, u "errors"), (0, .fieldref 8 20), (0, .nameAndType 21 12), (0, u "skipped"), (12, u "(IIII)V"), (3, u "allPassed"), (0, u "()Z"), (7, .class_ 48), (0, u "com/example/casewright/engine/RunLedger")] 22

def k3c0 : Code := { maxStack := 2, maxLocals := 5, code := prog_48_method_1_code, exceptionTable := #[], attributes := #[] }
def k3m0 : Method := { name := "<init>", desc := "(IIII)V", sig := { parameters := [.int, .int, .int, .int], returnType := none }, accessFlags := 0, code := some k3c0 }
def k3c1 : Code := { maxStack := 1, maxLocals := 1, code := prog_48_method_2_code, exceptionTable := #[], attributes := #[] }
def k3m1 : Method := { name := "allPassed", desc := "()Z", sig := { parameters := [], returnType := some .boolean }, accessFlags := 0, code := some k3c1 }
/-- com/example/casewright/engine/RunLedger$Counts -/
def k3 : Class := { plain "com/example/casewright/engine/RunLedger$Counts" (some 2) with
  accessFlags := 48
  interfaces := #[]
  cf := some (fileOf pool3 8 #[.nestHost 47] #[{ accessFlags := 0, nameIndex := 5, descriptorIndex := 34, attributes := #[] }, { accessFlags := 0, nameIndex := 38, descriptorIndex := 39, attributes := #[] }] 48 2 #[] #[{ accessFlags := 18, nameIndex := 11, descriptorIndex := 12, attributes := #[] }, { accessFlags := 18, nameIndex := 15, descriptorIndex := 12, attributes := #[] }, { accessFlags := 18, nameIndex := 18, descriptorIndex := 12, attributes := #[] }, { accessFlags := 18, nameIndex := 21, descriptorIndex := 12, attributes := #[] }])
  fields := #[{ name := "run", type := .int, accessFlags := 18, slot := 0, constantValue := 0 }, { name := "failures", type := .int, accessFlags := 18, slot := 1, constantValue := 0 }, { name := "errors", type := .int, accessFlags := 18, slot := 2, constantValue := 0 }, { name := "skipped", type := .int, accessFlags := 18, slot := 3, constantValue := 0 }]
  methods := #[k3m0, k3m1]
  instanceTypes := #[.int, .int, .int, .int]
  staticTypes := #[]
  resolved := Array.replicate 71 none
  statics := none }

def pool4 : Array CpInfo := pool [(1, u "java/lang/Cloneable"), (0, .class_ 1), (0, u "java/lang/Object"), (0, .class_ 3)] 3

/-- java/lang/Cloneable -/
def k4 : Class := { plain "java/lang/Cloneable" (some 0) with
  accessFlags := 1537
  interfaces := #[]
  cf := some (fileOf pool4 2 #[] #[] 1537 4 #[] #[])
  fields := #[]
  methods := #[]
  instanceTypes := #[]
  staticTypes := #[]
  resolved := Array.replicate 8 none
  statics := none }

def pool5 : Array CpInfo := pool [(1, u "java/io/Serializable"), (0, .class_ 1), (0, u "java/lang/Object"), (0, .class_ 3)] 3

/-- java/io/Serializable -/
def k5 : Class := { plain "java/io/Serializable" (some 0) with
  accessFlags := 1537
  interfaces := #[]
  cf := some (fileOf pool5 2 #[] #[] 1537 4 #[] #[])
  fields := #[]
  methods := #[]
  instanceTypes := #[]
  staticTypes := #[]
  resolved := Array.replicate 8 none
  statics := none }

/-- the primitive byte -/
def k6 : Class := { plain "byte" none with kind := .primitive 'B', accessFlags := 0x411 }
/-- [B -/
def k7 : Class := { plain "[B" (some 0) with kind := .array 6 .byte, interfaces := #[4, 5], accessFlags := 1041 }

def heap : Heap := #[]
def classes : Array Class := #[k0, k1, k2, k3, k4, k5, k6, k7]
def interned : List (Array UInt16 × Addr) := []
def slotsUsed : Nat := 0
def theMethod : MethodId := ⟨1, 1⟩
def args0 : Array Value := #[.int 5, .int 0, .int 0, .int 7, .int 8, .int 9]
def aboutOver (below : List Frame) : State where
  vm := { classes := classes, interned := interned.toArray }
  heap := heap
  slotsUsed := slotsUsed
  threads := #[{ frames := .invoking theMethod args0 :: below }]
def below0 : List Frame := [.native { method := ⟨0, 0⟩, args := #[] }]
def about1 : State := aboutOver below0
def p0 : Program := .bare "" "" ""
def e0 : Env := launch0.env 0 0 0
theorem w_frames : about1.frames = Frame.invoking theMethod args0 :: below0 := rfl
set_option maxRecDepth 65536 in
theorem w_args : argsFit about1.vm theMethod args0 = true := by decide +kernel
set_option maxRecDepth 65536 in
theorem w_heap : heapFits about1 = true := by decide +kernel
set_option maxRecDepth 65536 in
theorem w_runnable : about1.curStatus? = some .runnable := by decide +kernel
set_option maxRecDepth 65536 in
theorem w_alone : about1.alone = true := by decide +kernel
set_option maxRecDepth 65536 in
theorem w_named : about1.methodNamed? x = some theMethod := by decide +kernel
set_option maxRecDepth 65536 in
theorem w_hears : about1.hears theMethod below0 = true := by decide +kernel
set_option maxRecDepth 65536 in
theorem w_ripe : about1.ripe theMethod args0 below0 = true := by decide +kernel
theorem w_running : about1.status = .running := rfl
set_option maxRecDepth 65536 in
theorem w_room : about1.hasRoom e0.platform room_1 = true :=
  launch0.hasRoom_least _ room_1 (by decide +kernel) (by decide +kernel) (by decide +kernel) (by decide +kernel) (by decide +kernel) (by decide +kernel)
theorem allAtoms_all (ts : List Jvm.Cond) (a : Array Jvm.Value) (st : Jvm.State) : (allAtoms ts).before a st = ts.all (fun c => c.before a st) := by
  induction ts with
  | nil => rfl
  | cons c t ih =>
    show (Jvm.Cond.and c (allAtoms t)).before a st = _
    rw [Jvm.Cond.before_and, ih, List.all_cons]
def words1 : List Jvm.Cond := Jvm.Cond.code x code maxLocals ret :: tables_1
/-- a 'code' word, met by the world's own term for the bytes: nothing is compared byte by byte -/
theorem code_word {y : MethodName} {bytes : ByteArray} {mx : Nat} {rt : Option FieldType} {a : Array Value} {s : State} {m : MethodId} {meth : Method} {c : Code} (h1 : s.methodNamed? y = some m) (h2 : s.vm.method? m = some meth) (h3 : meth.code = some c) (h4 : c.code = bytes)
    (h5 : (c.maxLocals == mx && c.exceptionTable.isEmpty && decide (c.maxStack ≤ mostOperands) && decide (meth.sig.returnType = rt) && !meth.locks && decide (parseMethodDescriptor y.desc = some meth.sig)) = true) : (Jvm.Cond.code y bytes mx rt).before a s = true := by
  simp only [Bool.and_eq_true, beq_iff_eq, Bool.not_eq_true', decide_eq_true_eq] at h5
  obtain ⟨⟨⟨⟨⟨g1, g2⟩, g3⟩, g4⟩, g5⟩, g6⟩ := h5
  simp [Cond.before, Cond.holds, Cond.value, h1, h2, h3, h4, g1, g2, g3, g4, g5, g6]
def isCode : Jvm.Cond → Bool
  | .code _ _ _ _ => true
  | _ => false
theorem all_split {L : List Jvm.Cond} {P : Jvm.Cond → Bool} (h1 : L.all (fun c => isCode c || P c) = true) (h2 : ∀ c ∈ L.filter isCode, P c = true) : L.all P = true := by
  refine List.all_eq_true.mpr fun c hc => ?_
  have h := List.all_eq_true.mp h1 c hc
  rcases Bool.eq_false_or_eq_true (isCode c) with hi | hi
  · exact h2 c (List.mem_filter.mpr ⟨hc, hi⟩)
  · simpa [hi] using h
set_option maxRecDepth 65536 in
theorem w_c0 : (Jvm.Cond.code x code maxLocals ret).before args0 about1 = true := code_word (m := ⟨1, 1⟩) (meth := k1m1) (c := k1c1) (by decide +kernel) rfl rfl rfl (by decide +kernel)
set_option maxRecDepth 65536 in
theorem w_c1 : (Jvm.Cond.code ({ cls := "com/example/casewright/engine/RunLedger$Counts", name := "<init>", desc := "(IIII)V" } : Jvm.MethodName) prog_48_method_1_code (5 : Nat) (Option.none : Option Jvm.ClassFile.FieldType)).before args0 about1 = true := code_word (m := ⟨3, 0⟩) (meth := k3m0) (c := k3c0) (by decide +kernel) rfl rfl rfl (by decide +kernel)
set_option maxRecDepth 65536 in
theorem w_c2 : (Jvm.Cond.code ({ cls := "java/lang/Record", name := "<init>", desc := "()V" } : Jvm.MethodName) jdk_30_method_1_code (1 : Nat) (Option.none : Option Jvm.ClassFile.FieldType)).before args0 about1 = true := code_word (m := ⟨2, 0⟩) (meth := k2m0) (c := k2c0) (by decide +kernel) rfl rfl rfl (by decide +kernel)
set_option maxRecDepth 65536 in
theorem w_c3 : (Jvm.Cond.code ({ cls := "java/lang/Object", name := "<init>", desc := "()V" } : Jvm.MethodName) object_method_1_code (1 : Nat) (Option.none : Option Jvm.ClassFile.FieldType)).before args0 about1 = true := code_word (m := ⟨0, 0⟩) (meth := k0m0) (c := k0c0) (by decide +kernel) rfl rfl rfl (by decide +kernel)
set_option maxRecDepth 65536 in
theorem w_c4 : (Jvm.Cond.code ({ cls := "com/example/casewright/engine/RunLedger$Counts", name := "allPassed", desc := "()Z" } : Jvm.MethodName) prog_48_method_2_code (1 : Nat) (Option.some Jvm.ClassFile.FieldType.boolean)).before args0 about1 = true := code_word (m := ⟨3, 1⟩) (meth := k3m1) (c := k3c1) (by decide +kernel) rfl rfl rfl (by decide +kernel)
def codes1 : List Jvm.Cond := [Jvm.Cond.code x code maxLocals ret, Jvm.Cond.code ({ cls := "com/example/casewright/engine/RunLedger$Counts", name := "<init>", desc := "(IIII)V" } : Jvm.MethodName) prog_48_method_1_code (5 : Nat) (Option.none : Option Jvm.ClassFile.FieldType), Jvm.Cond.code ({ cls := "java/lang/Record", name := "<init>", desc := "()V" } : Jvm.MethodName) jdk_30_method_1_code (1 : Nat) (Option.none : Option Jvm.ClassFile.FieldType), Jvm.Cond.code ({ cls := "java/lang/Object", name := "<init>", desc := "()V" } : Jvm.MethodName) object_method_1_code (1 : Nat) (Option.none : Option Jvm.ClassFile.FieldType), Jvm.Cond.code ({ cls := "com/example/casewright/engine/RunLedger$Counts", name := "allPassed", desc := "()Z" } : Jvm.MethodName) prog_48_method_2_code (1 : Nat) (Option.some Jvm.ClassFile.FieldType.boolean)]
set_option maxRecDepth 65536 in
theorem codes_eq : words1.filter isCode = codes1 := rfl
theorem w_codes : ∀ c ∈ words1.filter isCode, c.before args0 about1 = true := by
  rw [codes_eq]
  intro c hc
  simp only [codes1, List.mem_cons, List.not_mem_nil, or_false] at hc
  rcases hc with rfl | rfl | rfl | rfl | rfl
  · exact w_c0
  · exact w_c1
  · exact w_c2
  · exact w_c3
  · exact w_c4
set_option maxRecDepth 65536 in
theorem w_t1 : (words1.take 24).all (fun c => isCode c || c.before args0 about1) = true := by decide +kernel
set_option maxRecDepth 65536 in
theorem w_t2 : (words1.drop 24).all (fun c => isCode c || c.before args0 about1) = true := by decide +kernel
theorem w_tables : (allAtoms (Jvm.Cond.code x code maxLocals ret :: tables_1)).before args0 about1 = true := by
  rw [allAtoms_all]
  show words1.all (fun c => c.before args0 about1) = true
  refine all_split ?_ w_codes
  rw [← List.take_append_drop 24 words1, List.all_append, w_t1, w_t2]
  rfl
set_option maxRecDepth 65536 in
theorem w_case : (Jvm.Cond.and given_1 narrow_1).before args0 about1 = true := by decide +kernel
theorem w_applies : (headSpec (Jvm.Cond.code x code maxLocals ret :: tables_1) room_1).applies x e0.platform about1 = true :=
  (Spec.applies_iff w_frames).mpr ⟨w_running, w_runnable, w_alone, w_named, w_hears, w_ripe, w_room, w_tables⟩
theorem atStart : AtStart classFile x code maxLocals ret World_1 tables_1 room_1 Calls_1 rest_1 Pre_1 launch0 p0 e0 about1 theMethod args0 below0 :=
  ⟨lists_1, trivial, launch0.admits_env _ _ _, launch0.least_env, fairChoices_fair.cas, fairChoices_fair.clock, w_frames, w_args, w_heap, w_applies, trivial, trivial, w_case⟩
end start1
theorem witness_1 : WitnessClaimed_1 := ⟨start1.p0, start1.e0, start1.about1, start1.theMethod, start1.args0, start1.below0, start1.atStart⟩
end Jvm.Pilot.@@N@@
