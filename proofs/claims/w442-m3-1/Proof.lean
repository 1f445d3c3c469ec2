import JvmDerived
import JvmDerived.Pilot.@@N@@Statement
import JvmDerived.Pilot.@@N@@Code
set_option linter.unusedVariables false
set_option linter.unusedSimpArgs false
namespace Jvm.RoadKit
open Sem ClassFile Op Lib Jvm.Stand Jvm.Free Jvm.LawKit
section New
variable {p : Program} {l : Launch} {e : Env} {R : Room} {s : State} {m : MethodId} {args : Array Value} {below : List Frame} {meth : Method} {c : Code} {T : State} {locs : List Loc} {cells slots : Nat}
theorem retI (X : Stand p l e R s m args below meth c T locs cells slots) (hx : p.tables.exec = Jvm.exec) {pc : Nat} {Ls : Array Slot} {z : Int32} {rest : List Value} (hret : meth.sig.returnType = some .int) (hd : decode c.code pc = .ok (.ireturn, 1)) {fs : List Frame}
    (hl : ∀ (f : JFrame) (acts : List Action), f.method = m → f.locked = none → f.entered = [] → (doReturn e (T.setTop f) acts (some (.int z))).1 = T.setFrames fs) : Steps p.tables e below (T.setTop (mkF m pc Ls (.int z :: rest))) (T.setFrames fs) := by
  have hm' : T.vm.method? m = some meth := X.method'
  have hn : narrow .int (.int z) = .int z := rfl
  show Steps p.tables e below (T.setTop { method := m, pc := pc, locals := Ls, stack := _ :: rest, locked := none }) _
  jvm_step X.here [X.here.top, hx, hd, hm', hret, hn]
  first | (intro acts; rw [hl _ acts rfl rfl rfl]) | rw [hl _ _ rfl rfl rfl]
  exact Steps.refl _
end New
end Jvm.RoadKit
namespace Jvm.Pilot.@@N@@
open Jvm Jvm.ClassFile Sem Op Lib Jvm.Free Jvm.Stand Jvm.LawKit Jvm.RoadKit Bundle Jvm.Pilot.@@N@@.Jvm.D
theorem own_lw_lt (x y : Int64) : lcmpW x y < 0 ↔ x < y := by rw [lcW]; exact lc_lt x y
theorem own_lw_gt (x y : Int64) : 0 < lcmpW x y ↔ y < x := by rw [lcW]; exact lc_gt x y
theorem own_lw_eq (x y : Int64) : lcmpW x y = 0 ↔ x = y := by rw [lcW]; exact lc_eq x y
theorem own_retJ {p : Program} {l : Launch} {e : Env} {R : Room} {s : State} {m : MethodId} {args : Array Value} {below : List Frame} {meth : Method} {c : Code} {T : State} {locs : List Loc} {cells slots : Nat} (X : Stand p l e R s m args below meth c T locs cells slots) (hx : p.tables.exec = Jvm.exec) {pc : Nat} {Ls : Array Slot} {z : Int64} {rest : List Value} (hret : meth.sig.returnType = some .long) (hd : decode c.code pc = .ok (.lreturn, 1)) {fs : List Frame}
    (hl : ∀ (f : JFrame) (acts : List Action), f.method = m → f.locked = none → f.entered = [] → (doReturn e (T.setTop f) acts (some (.long z))).1 = T.setFrames fs) : Steps p.tables e below (T.setTop (mkF m pc Ls (.long z :: rest))) (T.setFrames fs) := by
  have hm' : T.vm.method? m = some meth := X.method'
  have hn : narrow .long (.long z) = .long z := rfl
  show Steps p.tables e below (T.setTop { method := m, pc := pc, locals := Ls, stack := _ :: rest, locked := none }) _
  jvm_step X.here [X.here.top, hx, hd, hm', hret, hn]
  first | (intro acts; rw [hl _ acts rfl rfl rfl]) | rw [hl _ _ rfl rfl rfl]
  exact Steps.refl _
theorem own_ne32 {k n : Int32} (h : ¬ k = n) : n.toInt ≠ k.toInt := fun e => h (Int32.toInt_inj.mp e.symm)
theorem own_d1_0 : decode prog_27_method_1_code 0 = .ok (.aload_n 0, 1) := by decide +kernel
theorem own_d1_1 : decode prog_27_method_1_code 1 = .ok (.invokespecial 1, 3) := by decide +kernel
theorem own_d1_4 : decode prog_27_method_1_code 4 = .ok (.return_, 1) := by decide +kernel
theorem own_pn1 : plainName "com/example/meaning_into_numbers/meaningintonumbers/VersionParts" = true := by first | (simp [plainName, overriddenIn]; done) | decide +kernel
theorem own_ef1 (m : MethodId) (x0 : Addr) : entryFrame m #[(.ref x0)] 1 = (mkF m 0 #[.val (.ref x0)] []) := by first | (simp [entryFrame, mkF, argsToLocals, Value.category]; done) | rfl
def own_Q1 (Z : State) (o0 : Addr) (h0 : Heap) (n0 : Nat) (v : Option Value) (h : Heap) (L : List Loc) : Prop := v = none ∧ Fr n0 L ∧ h = h0
set_option maxRecDepth 65536 in
set_option maxHeartbeats 40000000 in
theorem own_rm1 (l : Launch) (Z : State) (a0 : Array Value) (hw : ∀ d ∈ tables_1, d.before a0 Z = true) (ws : List Jvm.Cond) (o0 : Addr) (h0 : Heap) (n0 : Nat) (Z0 : n0 ≤ h0.size) :
    MetFree l (⟨"com/example/meaning_into_numbers/meaningintonumbers/VersionParts", "<init>", "()V"⟩ : MethodName) (head1 (Jvm.Cond.code (⟨"com/example/meaning_into_numbers/meaningintonumbers/VersionParts", "<init>", "()V"⟩ : MethodName) prog_27_method_1_code 1 none :: ws) ({ frames := 1, cells := 0, slots := 0, locals := 12 } : Room)) (fun a U => a = #[(.ref o0)] ∧ Z.Warmed39 U.vm ∧ U.heap = h0) (fun _ _ _ _ _ => True) (fun _ U o U' => ∃ v L, o = .returned v ∧ own_Q1 Z o0 h0 n0 v U'.heap L ∧ FrameEnd U o U' L ({ frames := 1, cells := 0, slots := 0, locals := 12 } : Room).cells ({ frames := 1, cells := 0, slots := 0, locals := 12 } : Room).slots) := by
  refine MetFree.of_bodySF (plainFor_of_name own_pn1) hisR ?_
  intro p e s m args below meth c s₁ Bd hml0 hP hK
  obtain ⟨rfl, hZ, hh⟩ := hP
  have hx := Bd.exec
  have hby := Bd.bytes
  have hml : c.maxLocals = 1 := hml0
  have hown : s.vm.findClass "com/example/meaning_into_numbers/meaningintonumbers/VersionParts" = some m.cls := findClass_of_methodNamed Bd.named
  have hnm := (name_of_methodNamed Bd.named Bd.method).1
  have X0 : Stand p l e ({ frames := 1, cells := 0, slots := 0, locals := 12 } : Room) s m #[(.ref o0)] below meth c s₁ [] 0 0 := Stand.of_body Bd
  have e0 : s₁.heap = h0 := by rw [← hh, Bd.state]; rfl
  have N0 := Fr.nil n0
  have pre0 : ∀ t, Steps p.tables e below (s₁.setTop (mkF m 0 #[.val (.ref o0)] [])) t → Steps p.tables e below (s₁.setTop (entryFrame m #[(.ref o0)] 1)) t := fun t k => castTop (own_ef1 m o0) k
  obtain ⟨T1, X1, e1, st1⟩ := initO X0 hx hZ hown (hw _ (List.mem_of_getElem? (i := 6) rfl)) (hw _ (List.mem_of_getElem? (i := 7) rfl)) (hw _ (List.mem_of_getElem? (i := 8) rfl)) e0 (g := (mkF m 1 #[.val (.ref o0)] [(.ref o0)])) rfl (by rw [hml]; rfl) rfl (hb hby own_d1_1) (by decide) (W := 0) (by show 2 * 0 + _ ≤ _; exact Nat.le_of_eq rfl) (by decide)
  have pre2 : ∀ t, Steps p.tables e below (T1.setTop (mkF m 4 #[.val (.ref o0)] [])) t → Steps p.tables e below (s₁.setTop (entryFrame m #[(.ref o0)] 1)) t := fun t k => pre0 t (by
      refine XS.aloadN X0.here hx rfl (hb hby own_d1_0) rfl rfl ?_
      show Steps p.tables e below (s₁.setTop (mkF m 1 #[.val (.ref o0)] [(.ref o0)])) _
      refine st1 _ ?_
      show Steps p.tables e below (T1.setTop (mkF m 4 #[.val (.ref o0)] [])) _
      exact k)
  obtain ⟨fs, hr, hrun, hended, hW, hsame⟩ := X1.leave (v := none) (fun _ => rfl)
  refine ⟨_, _, pre2 _ ?_, hrun, hended, _, _, rfl, ?_, ⟨_, rfl⟩, hW, hsame.mono (by decide) (by decide)⟩
  · show Steps p.tables e below (T1.setTop (mkF m 4 #[.val (.ref o0)] [])) _
    exact X1.returnOut hx Bd.returns (hb hby own_d1_4) hr
  · show own_Q1 Z o0 h0 n0 _ T1.heap _; rw [e1]; exact ⟨rfl, N0, rfl⟩
theorem own_d3_0 : decode prog_27_method_3_code 0 = .ok (.aload_n 0, 1) := by decide +kernel
theorem own_d3_1 : decode prog_27_method_3_code 1 = .ok (.iload_n 1, 1) := by decide +kernel
theorem own_d3_2 : decode prog_27_method_3_code 2 = .ok (.putfield 13, 3) := by decide +kernel
theorem own_d3_5 : decode prog_27_method_3_code 5 = .ok (.aload_n 0, 1) := by decide +kernel
theorem own_d3_6 : decode prog_27_method_3_code 6 = .ok (.iload_n 2, 1) := by decide +kernel
theorem own_d3_7 : decode prog_27_method_3_code 7 = .ok (.putfield 17, 3) := by decide +kernel
theorem own_d3_10 : decode prog_27_method_3_code 10 = .ok (.aload_n 0, 1) := by decide +kernel
theorem own_d3_11 : decode prog_27_method_3_code 11 = .ok (.iload_n 3, 1) := by decide +kernel
theorem own_d3_12 : decode prog_27_method_3_code 12 = .ok (.putfield 20, 3) := by decide +kernel
theorem own_d3_15 : decode prog_27_method_3_code 15 = .ok (.aload_n 0, 1) := by decide +kernel
theorem own_d3_16 : decode prog_27_method_3_code 16 = .ok (.iload 4, 2) := by decide +kernel
theorem own_d3_18 : decode prog_27_method_3_code 18 = .ok (.putfield 23, 3) := by decide +kernel
theorem own_d3_21 : decode prog_27_method_3_code 21 = .ok (.aload_n 0, 1) := by decide +kernel
theorem own_d3_22 : decode prog_27_method_3_code 22 = .ok (.iload 5, 2) := by decide +kernel
theorem own_d3_24 : decode prog_27_method_3_code 24 = .ok (.putfield 26, 3) := by decide +kernel
theorem own_d3_27 : decode prog_27_method_3_code 27 = .ok (.return_, 1) := by decide +kernel
theorem own_pn3 : plainName "com/example/meaning_into_numbers/meaningintonumbers/VersionParts" = true := by first | (simp [plainName, overriddenIn]; done) | decide +kernel
theorem own_ef3 (m : MethodId) (x0 : Addr) (x1 : Int32) (x2 : Int32) (x3 : Int32) (x4 : Int32) (x5 : Int32) : entryFrame m #[(.ref x0), (.int x1), (.int x2), (.int x3), (.int x4), (.int x5)] 6 = (mkF m 0 #[.val (.ref x0), .val (.int x1), .val (.int x2), .val (.int x3), .val (.int x4), .val (.int x5)] []) := by first | (simp [entryFrame, mkF, argsToLocals, Value.category]; done) | rfl
def own_Q3 (Z : State) (o0 : Addr) (p1 : Int32) (p2 : Int32) (p3 : Int32) (p4 : Int32) (p5 : Int32) (u_majorEnd_o0 : Value) (u_minorEnd_o0 : Value) (u_patchEnd_o0 : Value) (u_preReleaseEnd_o0 : Value) (u_start_o0 : Value) (h0 : Heap) (n0 : Nat) (v : Option Value) (h : Heap) (L : List Loc) : Prop := v = none ∧ Fr n0 L ∧ Keep h0 h [o0] ∧ Fld Z h o0 "com/example/meaning_into_numbers/meaningintonumbers/VersionParts" "majorEnd" "I" (.int p2) ∧ Fld Z h o0 "com/example/meaning_into_numbers/meaningintonumbers/VersionParts" "minorEnd" "I" (.int p3) ∧ Fld Z h o0 "com/example/meaning_into_numbers/meaningintonumbers/VersionParts" "patchEnd" "I" (.int p4) ∧ Fld Z h o0 "com/example/meaning_into_numbers/meaningintonumbers/VersionParts" "preReleaseEnd" "I" (.int p5) ∧ Exa Z h o0 "com/example/meaning_into_numbers/meaningintonumbers/VersionParts" ∧ Fld Z h o0 "com/example/meaning_into_numbers/meaningintonumbers/VersionParts" "start" "I" (.int p1)
set_option maxRecDepth 65536 in
set_option maxHeartbeats 40000000 in
theorem own_rm3 (l : Launch) (Z : State) (a0 : Array Value) (hw : ∀ d ∈ tables_1, d.before a0 Z = true) (ws : List Jvm.Cond) (o0 : Addr) (p1 : Int32) (p2 : Int32) (p3 : Int32) (p4 : Int32) (p5 : Int32) (u_majorEnd_o0 : Value) (u_minorEnd_o0 : Value) (u_patchEnd_o0 : Value) (u_preReleaseEnd_o0 : Value) (u_start_o0 : Value) (h0 : Heap) (n0 : Nat) (Z0 : n0 ≤ h0.size) (P_F_o0_majorEnd : Fld Z h0 o0 "com/example/meaning_into_numbers/meaningintonumbers/VersionParts" "majorEnd" "I" u_majorEnd_o0) (P_F_o0_minorEnd : Fld Z h0 o0 "com/example/meaning_into_numbers/meaningintonumbers/VersionParts" "minorEnd" "I" u_minorEnd_o0) (P_F_o0_patchEnd : Fld Z h0 o0 "com/example/meaning_into_numbers/meaningintonumbers/VersionParts" "patchEnd" "I" u_patchEnd_o0) (P_F_o0_preReleaseEnd : Fld Z h0 o0 "com/example/meaning_into_numbers/meaningintonumbers/VersionParts" "preReleaseEnd" "I" u_preReleaseEnd_o0) (P_E_o0 : Exa Z h0 o0 "com/example/meaning_into_numbers/meaningintonumbers/VersionParts") (P_F_o0_start : Fld Z h0 o0 "com/example/meaning_into_numbers/meaningintonumbers/VersionParts" "start" "I" u_start_o0) (G_o0 : n0 ≤ o0) :
    MetFree l (⟨"com/example/meaning_into_numbers/meaningintonumbers/VersionParts", "set", "(IIIII)V"⟩ : MethodName) (head1 (Jvm.Cond.code (⟨"com/example/meaning_into_numbers/meaningintonumbers/VersionParts", "set", "(IIIII)V"⟩ : MethodName) prog_27_method_3_code 6 none :: ws) ({ frames := 0, cells := 0, slots := 0, locals := 0 } : Room)) (fun a U => a = #[(.ref o0), (.int p1), (.int p2), (.int p3), (.int p4), (.int p5)] ∧ Z.Warmed39 U.vm ∧ U.heap = h0) (fun _ _ _ _ _ => True) (fun _ U o U' => ∃ v L, o = .returned v ∧ own_Q3 Z o0 p1 p2 p3 p4 p5 u_majorEnd_o0 u_minorEnd_o0 u_patchEnd_o0 u_preReleaseEnd_o0 u_start_o0 h0 n0 v U'.heap L ∧ FrameEnd U o U' L ({ frames := 0, cells := 0, slots := 0, locals := 0 } : Room).cells ({ frames := 0, cells := 0, slots := 0, locals := 0 } : Room).slots) := by
  refine MetFree.of_bodySF (plainFor_of_name own_pn3) hisR ?_
  intro p e s m args below meth c s₁ Bd hml0 hP hK
  obtain ⟨rfl, hZ, hh⟩ := hP
  have hx := Bd.exec
  have hby := Bd.bytes
  have hml : c.maxLocals = 6 := hml0
  have hown : s.vm.findClass "com/example/meaning_into_numbers/meaningintonumbers/VersionParts" = some m.cls := findClass_of_methodNamed Bd.named
  have hnm := (name_of_methodNamed Bd.named Bd.method).1
  have X0 : Stand p l e ({ frames := 0, cells := 0, slots := 0, locals := 0 } : Room) s m #[(.ref o0), (.int p1), (.int p2), (.int p3), (.int p4), (.int p5)] below meth c s₁ [] 0 0 := Stand.of_body Bd
  have e0 : s₁.heap = h0 := by rw [← hh, Bd.state]; rfl
  have N0 := Fr.nil n0
  have pre0 : ∀ t, Steps p.tables e below (s₁.setTop (mkF m 0 #[.val (.ref o0), .val (.int p1), .val (.int p2), .val (.int p3), .val (.int p4), .val (.int p5)] [])) t → Steps p.tables e below (s₁.setTop (entryFrame m #[(.ref o0), (.int p1), (.int p2), (.int p3), (.int p4), (.int p5)] 6)) t := fun t k => castTop (own_ef3 m o0 p1 p2 p3 p4 p5) k
  obtain ⟨T1, h1, X1, e1, W1, st1⟩ := putF X0 hx hZ hown (host := "") (Or.inl (hw _ (List.mem_of_getElem? (i := 14) rfl))) Via.refl e0 P_F_o0_start P_E_o0 (Or.inl (hw _ (List.mem_of_getElem? (i := 15) rfl))) (hw _ (List.mem_of_getElem? (i := 1) rfl)) (ty := .int) (by decide) rfl rfl (g := (mkF m 2 #[.val (.ref o0), .val (.int p1), .val (.int p2), .val (.int p3), .val (.int p4), .val (.int p5)] [(.int p1), (.ref o0)])) rfl rfl (hb hby own_d3_2)
  have f2 : Fld Z h1 o0 "com/example/meaning_into_numbers/meaningintonumbers/VersionParts" "majorEnd" "I" u_majorEnd_o0 := P_F_o0_majorEnd.other W1 (Or.inr (slot_ne (Or.inl (hw _ (List.mem_of_getElem? (i := 17) rfl))) (Or.inl (hw _ (List.mem_of_getElem? (i := 15) rfl))) (by decide) (t := .int) (t' := .int) (by decide) (by decide)))
  have f3 : Fld Z h1 o0 "com/example/meaning_into_numbers/meaningintonumbers/VersionParts" "minorEnd" "I" u_minorEnd_o0 := P_F_o0_minorEnd.other W1 (Or.inr (slot_ne (Or.inl (hw _ (List.mem_of_getElem? (i := 19) rfl))) (Or.inl (hw _ (List.mem_of_getElem? (i := 15) rfl))) (by decide) (t := .int) (t' := .int) (by decide) (by decide)))
  have f4 : Fld Z h1 o0 "com/example/meaning_into_numbers/meaningintonumbers/VersionParts" "patchEnd" "I" u_patchEnd_o0 := P_F_o0_patchEnd.other W1 (Or.inr (slot_ne (Or.inl (hw _ (List.mem_of_getElem? (i := 21) rfl))) (Or.inl (hw _ (List.mem_of_getElem? (i := 15) rfl))) (by decide) (t := .int) (t' := .int) (by decide) (by decide)))
  have f5 : Fld Z h1 o0 "com/example/meaning_into_numbers/meaningintonumbers/VersionParts" "preReleaseEnd" "I" u_preReleaseEnd_o0 := P_F_o0_preReleaseEnd.other W1 (Or.inr (slot_ne (Or.inl (hw _ (List.mem_of_getElem? (i := 23) rfl))) (Or.inl (hw _ (List.mem_of_getElem? (i := 15) rfl))) (by decide) (t := .int) (t' := .int) (by decide) (by decide)))
  have f6 : Exa Z h1 o0 "com/example/meaning_into_numbers/meaningintonumbers/VersionParts" := P_E_o0.wr W1
  have f7 : Fld Z h1 o0 "com/example/meaning_into_numbers/meaningintonumbers/VersionParts" "start" "I" (.int p1) := P_F_o0_start.same W1
  have zs8 : n0 ≤ h1.size := Nat.le_trans Z0 (Keep.of_wr W1).1
  have N9 := Fr.snoc X1 N0 G_o0
  have K10 : Keep h0 h0 [o0] := Keep.refl h0 [o0]
  have K11 : Keep h0 h1 [o0] := K10.wr W1 (Or.inl (by simp))
  obtain ⟨T12, h12, X12, e12, W12, st12⟩ := putF X1 hx hZ hown (host := "") (Or.inl (hw _ (List.mem_of_getElem? (i := 16) rfl))) Via.refl e1 f2 f6 (Or.inl (hw _ (List.mem_of_getElem? (i := 17) rfl))) (hw _ (List.mem_of_getElem? (i := 1) rfl)) (ty := .int) (by decide) rfl rfl (g := (mkF m 7 #[.val (.ref o0), .val (.int p1), .val (.int p2), .val (.int p3), .val (.int p4), .val (.int p5)] [(.int p2), (.ref o0)])) rfl rfl (hb hby own_d3_7)
  have f13 : Fld Z h12 o0 "com/example/meaning_into_numbers/meaningintonumbers/VersionParts" "majorEnd" "I" (.int p2) := f2.same W12
  have f14 : Fld Z h12 o0 "com/example/meaning_into_numbers/meaningintonumbers/VersionParts" "minorEnd" "I" u_minorEnd_o0 := f3.other W12 (Or.inr (slot_ne (Or.inl (hw _ (List.mem_of_getElem? (i := 19) rfl))) (Or.inl (hw _ (List.mem_of_getElem? (i := 17) rfl))) (by decide) (t := .int) (t' := .int) (by decide) (by decide)))
  have f15 : Fld Z h12 o0 "com/example/meaning_into_numbers/meaningintonumbers/VersionParts" "patchEnd" "I" u_patchEnd_o0 := f4.other W12 (Or.inr (slot_ne (Or.inl (hw _ (List.mem_of_getElem? (i := 21) rfl))) (Or.inl (hw _ (List.mem_of_getElem? (i := 17) rfl))) (by decide) (t := .int) (t' := .int) (by decide) (by decide)))
  have f16 : Fld Z h12 o0 "com/example/meaning_into_numbers/meaningintonumbers/VersionParts" "preReleaseEnd" "I" u_preReleaseEnd_o0 := f5.other W12 (Or.inr (slot_ne (Or.inl (hw _ (List.mem_of_getElem? (i := 23) rfl))) (Or.inl (hw _ (List.mem_of_getElem? (i := 17) rfl))) (by decide) (t := .int) (t' := .int) (by decide) (by decide)))
  have f17 : Exa Z h12 o0 "com/example/meaning_into_numbers/meaningintonumbers/VersionParts" := f6.wr W12
  have f18 : Fld Z h12 o0 "com/example/meaning_into_numbers/meaningintonumbers/VersionParts" "start" "I" (.int p1) := f7.other W12 (Or.inr (slot_ne (Or.inl (hw _ (List.mem_of_getElem? (i := 15) rfl))) (Or.inl (hw _ (List.mem_of_getElem? (i := 17) rfl))) (by decide) (t := .int) (t' := .int) (by decide) (by decide)))
  have zs19 : n0 ≤ h12.size := Nat.le_trans zs8 (Keep.of_wr W12).1
  have N20 := Fr.snoc X12 N9 G_o0
  have K21 : Keep h0 h12 [o0] := K11.wr W12 (Or.inl (by simp))
  obtain ⟨T22, h22, X22, e22, W22, st22⟩ := putF X12 hx hZ hown (host := "") (Or.inl (hw _ (List.mem_of_getElem? (i := 18) rfl))) Via.refl e12 f14 f17 (Or.inl (hw _ (List.mem_of_getElem? (i := 19) rfl))) (hw _ (List.mem_of_getElem? (i := 1) rfl)) (ty := .int) (by decide) rfl rfl (g := (mkF m 12 #[.val (.ref o0), .val (.int p1), .val (.int p2), .val (.int p3), .val (.int p4), .val (.int p5)] [(.int p3), (.ref o0)])) rfl rfl (hb hby own_d3_12)
  have f23 : Fld Z h22 o0 "com/example/meaning_into_numbers/meaningintonumbers/VersionParts" "majorEnd" "I" (.int p2) := f13.other W22 (Or.inr (slot_ne (Or.inl (hw _ (List.mem_of_getElem? (i := 17) rfl))) (Or.inl (hw _ (List.mem_of_getElem? (i := 19) rfl))) (by decide) (t := .int) (t' := .int) (by decide) (by decide)))
  have f24 : Fld Z h22 o0 "com/example/meaning_into_numbers/meaningintonumbers/VersionParts" "minorEnd" "I" (.int p3) := f14.same W22
  have f25 : Fld Z h22 o0 "com/example/meaning_into_numbers/meaningintonumbers/VersionParts" "patchEnd" "I" u_patchEnd_o0 := f15.other W22 (Or.inr (slot_ne (Or.inl (hw _ (List.mem_of_getElem? (i := 21) rfl))) (Or.inl (hw _ (List.mem_of_getElem? (i := 19) rfl))) (by decide) (t := .int) (t' := .int) (by decide) (by decide)))
  have f26 : Fld Z h22 o0 "com/example/meaning_into_numbers/meaningintonumbers/VersionParts" "preReleaseEnd" "I" u_preReleaseEnd_o0 := f16.other W22 (Or.inr (slot_ne (Or.inl (hw _ (List.mem_of_getElem? (i := 23) rfl))) (Or.inl (hw _ (List.mem_of_getElem? (i := 19) rfl))) (by decide) (t := .int) (t' := .int) (by decide) (by decide)))
  have f27 : Exa Z h22 o0 "com/example/meaning_into_numbers/meaningintonumbers/VersionParts" := f17.wr W22
  have f28 : Fld Z h22 o0 "com/example/meaning_into_numbers/meaningintonumbers/VersionParts" "start" "I" (.int p1) := f18.other W22 (Or.inr (slot_ne (Or.inl (hw _ (List.mem_of_getElem? (i := 15) rfl))) (Or.inl (hw _ (List.mem_of_getElem? (i := 19) rfl))) (by decide) (t := .int) (t' := .int) (by decide) (by decide)))
  have zs29 : n0 ≤ h22.size := Nat.le_trans zs19 (Keep.of_wr W22).1
  have N30 := Fr.snoc X22 N20 G_o0
  have K31 : Keep h0 h22 [o0] := K21.wr W22 (Or.inl (by simp))
  obtain ⟨T32, h32, X32, e32, W32, st32⟩ := putF X22 hx hZ hown (host := "") (Or.inl (hw _ (List.mem_of_getElem? (i := 20) rfl))) Via.refl e22 f25 f27 (Or.inl (hw _ (List.mem_of_getElem? (i := 21) rfl))) (hw _ (List.mem_of_getElem? (i := 1) rfl)) (ty := .int) (by decide) rfl rfl (g := (mkF m 18 #[.val (.ref o0), .val (.int p1), .val (.int p2), .val (.int p3), .val (.int p4), .val (.int p5)] [(.int p4), (.ref o0)])) rfl rfl (hb hby own_d3_18)
  have f33 : Fld Z h32 o0 "com/example/meaning_into_numbers/meaningintonumbers/VersionParts" "majorEnd" "I" (.int p2) := f23.other W32 (Or.inr (slot_ne (Or.inl (hw _ (List.mem_of_getElem? (i := 17) rfl))) (Or.inl (hw _ (List.mem_of_getElem? (i := 21) rfl))) (by decide) (t := .int) (t' := .int) (by decide) (by decide)))
  have f34 : Fld Z h32 o0 "com/example/meaning_into_numbers/meaningintonumbers/VersionParts" "minorEnd" "I" (.int p3) := f24.other W32 (Or.inr (slot_ne (Or.inl (hw _ (List.mem_of_getElem? (i := 19) rfl))) (Or.inl (hw _ (List.mem_of_getElem? (i := 21) rfl))) (by decide) (t := .int) (t' := .int) (by decide) (by decide)))
  have f35 : Fld Z h32 o0 "com/example/meaning_into_numbers/meaningintonumbers/VersionParts" "patchEnd" "I" (.int p4) := f25.same W32
  have f36 : Fld Z h32 o0 "com/example/meaning_into_numbers/meaningintonumbers/VersionParts" "preReleaseEnd" "I" u_preReleaseEnd_o0 := f26.other W32 (Or.inr (slot_ne (Or.inl (hw _ (List.mem_of_getElem? (i := 23) rfl))) (Or.inl (hw _ (List.mem_of_getElem? (i := 21) rfl))) (by decide) (t := .int) (t' := .int) (by decide) (by decide)))
  have f37 : Exa Z h32 o0 "com/example/meaning_into_numbers/meaningintonumbers/VersionParts" := f27.wr W32
  have f38 : Fld Z h32 o0 "com/example/meaning_into_numbers/meaningintonumbers/VersionParts" "start" "I" (.int p1) := f28.other W32 (Or.inr (slot_ne (Or.inl (hw _ (List.mem_of_getElem? (i := 15) rfl))) (Or.inl (hw _ (List.mem_of_getElem? (i := 21) rfl))) (by decide) (t := .int) (t' := .int) (by decide) (by decide)))
  have zs39 : n0 ≤ h32.size := Nat.le_trans zs29 (Keep.of_wr W32).1
  have N40 := Fr.snoc X32 N30 G_o0
  have K41 : Keep h0 h32 [o0] := K31.wr W32 (Or.inl (by simp))
  obtain ⟨T42, h42, X42, e42, W42, st42⟩ := putF X32 hx hZ hown (host := "") (Or.inl (hw _ (List.mem_of_getElem? (i := 22) rfl))) Via.refl e32 f36 f37 (Or.inl (hw _ (List.mem_of_getElem? (i := 23) rfl))) (hw _ (List.mem_of_getElem? (i := 1) rfl)) (ty := .int) (by decide) rfl rfl (g := (mkF m 24 #[.val (.ref o0), .val (.int p1), .val (.int p2), .val (.int p3), .val (.int p4), .val (.int p5)] [(.int p5), (.ref o0)])) rfl rfl (hb hby own_d3_24)
  have f43 : Fld Z h42 o0 "com/example/meaning_into_numbers/meaningintonumbers/VersionParts" "majorEnd" "I" (.int p2) := f33.other W42 (Or.inr (slot_ne (Or.inl (hw _ (List.mem_of_getElem? (i := 17) rfl))) (Or.inl (hw _ (List.mem_of_getElem? (i := 23) rfl))) (by decide) (t := .int) (t' := .int) (by decide) (by decide)))
  have f44 : Fld Z h42 o0 "com/example/meaning_into_numbers/meaningintonumbers/VersionParts" "minorEnd" "I" (.int p3) := f34.other W42 (Or.inr (slot_ne (Or.inl (hw _ (List.mem_of_getElem? (i := 19) rfl))) (Or.inl (hw _ (List.mem_of_getElem? (i := 23) rfl))) (by decide) (t := .int) (t' := .int) (by decide) (by decide)))
  have f45 : Fld Z h42 o0 "com/example/meaning_into_numbers/meaningintonumbers/VersionParts" "patchEnd" "I" (.int p4) := f35.other W42 (Or.inr (slot_ne (Or.inl (hw _ (List.mem_of_getElem? (i := 21) rfl))) (Or.inl (hw _ (List.mem_of_getElem? (i := 23) rfl))) (by decide) (t := .int) (t' := .int) (by decide) (by decide)))
  have f46 : Fld Z h42 o0 "com/example/meaning_into_numbers/meaningintonumbers/VersionParts" "preReleaseEnd" "I" (.int p5) := f36.same W42
  have f47 : Exa Z h42 o0 "com/example/meaning_into_numbers/meaningintonumbers/VersionParts" := f37.wr W42
  have f48 : Fld Z h42 o0 "com/example/meaning_into_numbers/meaningintonumbers/VersionParts" "start" "I" (.int p1) := f38.other W42 (Or.inr (slot_ne (Or.inl (hw _ (List.mem_of_getElem? (i := 15) rfl))) (Or.inl (hw _ (List.mem_of_getElem? (i := 23) rfl))) (by decide) (t := .int) (t' := .int) (by decide) (by decide)))
  have zs49 : n0 ≤ h42.size := Nat.le_trans zs39 (Keep.of_wr W42).1
  have N50 := Fr.snoc X42 N40 G_o0
  have K51 : Keep h0 h42 [o0] := K41.wr W42 (Or.inl (by simp))
  have pre52 : ∀ t, Steps p.tables e below (T42.setTop (mkF m 27 #[.val (.ref o0), .val (.int p1), .val (.int p2), .val (.int p3), .val (.int p4), .val (.int p5)] [])) t → Steps p.tables e below (s₁.setTop (entryFrame m #[(.ref o0), (.int p1), (.int p2), (.int p3), (.int p4), (.int p5)] 6)) t := fun t k => pre0 t (by
      refine XS.aloadN X0.here hx rfl (hb hby own_d3_0) rfl rfl ?_
      show Steps p.tables e below (s₁.setTop (mkF m 1 #[.val (.ref o0), .val (.int p1), .val (.int p2), .val (.int p3), .val (.int p4), .val (.int p5)] [(.ref o0)])) _
      refine XS.iloadN X0.here hx rfl (hb hby own_d3_1) rfl ?_
      show Steps p.tables e below (s₁.setTop (mkF m 2 #[.val (.ref o0), .val (.int p1), .val (.int p2), .val (.int p3), .val (.int p4), .val (.int p5)] [(.int p1), (.ref o0)])) _
      refine st1 _ ?_
      show Steps p.tables e below (T1.setTop (mkF m 5 #[.val (.ref o0), .val (.int p1), .val (.int p2), .val (.int p3), .val (.int p4), .val (.int p5)] [])) _
      refine XS.aloadN X1.here hx rfl (hb hby own_d3_5) rfl rfl ?_
      show Steps p.tables e below (T1.setTop (mkF m 6 #[.val (.ref o0), .val (.int p1), .val (.int p2), .val (.int p3), .val (.int p4), .val (.int p5)] [(.ref o0)])) _
      refine XS.iloadN X1.here hx rfl (hb hby own_d3_6) rfl ?_
      show Steps p.tables e below (T1.setTop (mkF m 7 #[.val (.ref o0), .val (.int p1), .val (.int p2), .val (.int p3), .val (.int p4), .val (.int p5)] [(.int p2), (.ref o0)])) _
      refine st12 _ ?_
      show Steps p.tables e below (T12.setTop (mkF m 10 #[.val (.ref o0), .val (.int p1), .val (.int p2), .val (.int p3), .val (.int p4), .val (.int p5)] [])) _
      refine XS.aloadN X12.here hx rfl (hb hby own_d3_10) rfl rfl ?_
      show Steps p.tables e below (T12.setTop (mkF m 11 #[.val (.ref o0), .val (.int p1), .val (.int p2), .val (.int p3), .val (.int p4), .val (.int p5)] [(.ref o0)])) _
      refine XS.iloadN X12.here hx rfl (hb hby own_d3_11) rfl ?_
      show Steps p.tables e below (T12.setTop (mkF m 12 #[.val (.ref o0), .val (.int p1), .val (.int p2), .val (.int p3), .val (.int p4), .val (.int p5)] [(.int p3), (.ref o0)])) _
      refine st22 _ ?_
      show Steps p.tables e below (T22.setTop (mkF m 15 #[.val (.ref o0), .val (.int p1), .val (.int p2), .val (.int p3), .val (.int p4), .val (.int p5)] [])) _
      refine XS.aloadN X22.here hx rfl (hb hby own_d3_15) rfl rfl ?_
      show Steps p.tables e below (T22.setTop (mkF m 16 #[.val (.ref o0), .val (.int p1), .val (.int p2), .val (.int p3), .val (.int p4), .val (.int p5)] [(.ref o0)])) _
      refine XS.iload X22.here hx rfl (hb hby own_d3_16) rfl ?_
      show Steps p.tables e below (T22.setTop (mkF m 18 #[.val (.ref o0), .val (.int p1), .val (.int p2), .val (.int p3), .val (.int p4), .val (.int p5)] [(.int p4), (.ref o0)])) _
      refine st32 _ ?_
      show Steps p.tables e below (T32.setTop (mkF m 21 #[.val (.ref o0), .val (.int p1), .val (.int p2), .val (.int p3), .val (.int p4), .val (.int p5)] [])) _
      refine XS.aloadN X32.here hx rfl (hb hby own_d3_21) rfl rfl ?_
      show Steps p.tables e below (T32.setTop (mkF m 22 #[.val (.ref o0), .val (.int p1), .val (.int p2), .val (.int p3), .val (.int p4), .val (.int p5)] [(.ref o0)])) _
      refine XS.iload X32.here hx rfl (hb hby own_d3_22) rfl ?_
      show Steps p.tables e below (T32.setTop (mkF m 24 #[.val (.ref o0), .val (.int p1), .val (.int p2), .val (.int p3), .val (.int p4), .val (.int p5)] [(.int p5), (.ref o0)])) _
      refine st42 _ ?_
      show Steps p.tables e below (T42.setTop (mkF m 27 #[.val (.ref o0), .val (.int p1), .val (.int p2), .val (.int p3), .val (.int p4), .val (.int p5)] [])) _
      exact k)
  obtain ⟨fs, hr, hrun, hended, hW, hsame⟩ := X42.leave (v := none) (fun _ => rfl)
  refine ⟨_, _, pre52 _ ?_, hrun, hended, _, _, rfl, ?_, ⟨_, rfl⟩, hW, hsame.mono (by decide) (by decide)⟩
  · show Steps p.tables e below (T42.setTop (mkF m 27 #[.val (.ref o0), .val (.int p1), .val (.int p2), .val (.int p3), .val (.int p4), .val (.int p5)] [])) _
    exact X42.returnOut hx Bd.returns (hb hby own_d3_27) hr
  · show own_Q3 Z o0 p1 p2 p3 p4 p5 u_majorEnd_o0 u_minorEnd_o0 u_patchEnd_o0 u_preReleaseEnd_o0 u_start_o0 h0 n0 _ T42.heap _; rw [e42]; exact ⟨rfl, N50, K51, f43, f44, f45, f46, f47, f48⟩
theorem own_d4_0 : decode prog_27_method_4_code 0 = .ok (.aload_n 0, 1) := by decide +kernel
theorem own_d4_1 : decode prog_27_method_4_code 1 = .ok (.getfield 13, 3) := by decide +kernel
theorem own_d4_4 : decode prog_27_method_4_code 4 = .ok (.ireturn, 1) := by decide +kernel
theorem own_pn4 : plainName "com/example/meaning_into_numbers/meaningintonumbers/VersionParts" = true := by first | (simp [plainName, overriddenIn]; done) | decide +kernel
theorem own_ef4 (m : MethodId) (x0 : Addr) : entryFrame m #[(.ref x0)] 1 = (mkF m 0 #[.val (.ref x0)] []) := by first | (simp [entryFrame, mkF, argsToLocals, Value.category]; done) | rfl
def own_Q4 (Z : State) (o0 : Addr) (w_start_o0 : Int32) (h0 : Heap) (n0 : Nat) (v : Option Value) (h : Heap) (L : List Loc) : Prop := v = some (.int w_start_o0) ∧ Fr n0 L ∧ h = h0
set_option maxRecDepth 65536 in
set_option maxHeartbeats 40000000 in
theorem own_rm4 (l : Launch) (Z : State) (a0 : Array Value) (hw : ∀ d ∈ tables_1, d.before a0 Z = true) (ws : List Jvm.Cond) (o0 : Addr) (w_start_o0 : Int32) (h0 : Heap) (n0 : Nat) (Z0 : n0 ≤ h0.size) (P_F_o0_start : Fld Z h0 o0 "com/example/meaning_into_numbers/meaningintonumbers/VersionParts" "start" "I" (.int w_start_o0)) :
    MetFree l (⟨"com/example/meaning_into_numbers/meaningintonumbers/VersionParts", "start", "()I"⟩ : MethodName) (head1 (Jvm.Cond.code (⟨"com/example/meaning_into_numbers/meaningintonumbers/VersionParts", "start", "()I"⟩ : MethodName) prog_27_method_4_code 1 (some .int) :: ws) ({ frames := 0, cells := 0, slots := 0, locals := 0 } : Room)) (fun a U => a = #[(.ref o0)] ∧ Z.Warmed39 U.vm ∧ U.heap = h0) (fun _ _ _ _ _ => True) (fun _ U o U' => ∃ v L, o = .returned v ∧ own_Q4 Z o0 w_start_o0 h0 n0 v U'.heap L ∧ FrameEnd U o U' L ({ frames := 0, cells := 0, slots := 0, locals := 0 } : Room).cells ({ frames := 0, cells := 0, slots := 0, locals := 0 } : Room).slots) := by
  refine MetFree.of_bodySF (plainFor_of_name own_pn4) hisR ?_
  intro p e s m args below meth c s₁ Bd hml0 hP hK
  obtain ⟨rfl, hZ, hh⟩ := hP
  have hx := Bd.exec
  have hby := Bd.bytes
  have hml : c.maxLocals = 1 := hml0
  have hown : s.vm.findClass "com/example/meaning_into_numbers/meaningintonumbers/VersionParts" = some m.cls := findClass_of_methodNamed Bd.named
  have hnm := (name_of_methodNamed Bd.named Bd.method).1
  have X0 : Stand p l e ({ frames := 0, cells := 0, slots := 0, locals := 0 } : Room) s m #[(.ref o0)] below meth c s₁ [] 0 0 := Stand.of_body Bd
  have e0 : s₁.heap = h0 := by rw [← hh, Bd.state]; rfl
  have N0 := Fr.nil n0
  have pre0 : ∀ t, Steps p.tables e below (s₁.setTop (mkF m 0 #[.val (.ref o0)] [])) t → Steps p.tables e below (s₁.setTop (entryFrame m #[(.ref o0)] 1)) t := fun t k => castTop (own_ef4 m o0) k
  obtain ⟨T1, X1, e1, st1⟩ := getF X0 hx hZ hown (host := "") (Or.inl (hw _ (List.mem_of_getElem? (i := 14) rfl))) Via.refl e0 P_F_o0_start (g := (mkF m 1 #[.val (.ref o0)] [(.ref o0)])) rfl rfl (hb hby own_d4_1)
  have pre2 : ∀ t, Steps p.tables e below (T1.setTop (mkF m 4 #[.val (.ref o0)] [(.int w_start_o0)])) t → Steps p.tables e below (s₁.setTop (entryFrame m #[(.ref o0)] 1)) t := fun t k => pre0 t (by
      refine XS.aloadN X0.here hx rfl (hb hby own_d4_0) rfl rfl ?_
      show Steps p.tables e below (s₁.setTop (mkF m 1 #[.val (.ref o0)] [(.ref o0)])) _
      refine st1 _ ?_
      show Steps p.tables e below (T1.setTop (mkF m 4 #[.val (.ref o0)] [(.int w_start_o0)])) _
      exact k)
  obtain ⟨fs, hr, hrun, hended, hW, hsame⟩ := X1.leave (v := some (.int w_start_o0)) (fun h => by rw [Bd.returns] at h; cases h)
  refine ⟨_, _, pre2 _ ?_, hrun, hended, _, _, rfl, ?_, ⟨_, rfl⟩, hW, hsame.mono (by decide) (by decide)⟩
  · show Steps p.tables e below (T1.setTop (mkF m 4 #[.val (.ref o0)] [(.int w_start_o0)])) _
    exact retI X1 hx Bd.returns (hb hby own_d4_4) hr
  · show own_Q4 Z o0 w_start_o0 h0 n0 _ T1.heap _; rw [e1]; exact ⟨rfl, N0, rfl⟩
theorem own_d5_0 : decode prog_27_method_6_code 0 = .ok (.iload_n 1, 1) := by decide +kernel
theorem own_d5_1 : decode prog_27_method_6_code 1 = .ok (.tableswitch 48 0 2 #[27, 34, 41], 27) := by decide +kernel
theorem own_d5_28 : decode prog_27_method_6_code 28 = .ok (.aload_n 0, 1) := by decide +kernel
theorem own_d5_29 : decode prog_27_method_6_code 29 = .ok (.getfield 17, 3) := by decide +kernel
theorem own_d5_32 : decode prog_27_method_6_code 32 = .ok (.goto 26, 3) := by decide +kernel
theorem own_d5_35 : decode prog_27_method_6_code 35 = .ok (.aload_n 0, 1) := by decide +kernel
theorem own_d5_36 : decode prog_27_method_6_code 36 = .ok (.getfield 20, 3) := by decide +kernel
theorem own_d5_39 : decode prog_27_method_6_code 39 = .ok (.goto 19, 3) := by decide +kernel
theorem own_d5_42 : decode prog_27_method_6_code 42 = .ok (.aload_n 0, 1) := by decide +kernel
theorem own_d5_43 : decode prog_27_method_6_code 43 = .ok (.getfield 23, 3) := by decide +kernel
theorem own_d5_46 : decode prog_27_method_6_code 46 = .ok (.goto 12, 3) := by decide +kernel
theorem own_d5_58 : decode prog_27_method_6_code 58 = .ok (.ireturn, 1) := by decide +kernel
theorem own_pn5 : plainName "com/example/meaning_into_numbers/meaningintonumbers/VersionParts" = true := by first | (simp [plainName, overriddenIn]; done) | decide +kernel
theorem own_ef5 (m : MethodId) (x0 : Addr) (x1 : Int32) : entryFrame m #[(.ref x0), (.int x1)] 2 = (mkF m 0 #[.val (.ref x0), .val (.int x1)] []) := by first | (simp [entryFrame, mkF, argsToLocals, Value.category]; done) | rfl
def own_f5 (p1 : Int32) (w_majorEnd_o0 : Int32) (w_minorEnd_o0 : Int32) (w_patchEnd_o0 : Int32) : Int32 := (if p1 = (0 : Int32) then w_majorEnd_o0 else (if p1 = (1 : Int32) then w_minorEnd_o0 else (if p1 = (2 : Int32) then w_patchEnd_o0 else 0)))
def own_Q5 (Z : State) (o0 : Addr) (p1 : Int32) (w_majorEnd_o0 : Int32) (w_minorEnd_o0 : Int32) (w_patchEnd_o0 : Int32) (h0 : Heap) (n0 : Nat) (v : Option Value) (h : Heap) (L : List Loc) : Prop := v = some (.int (own_f5 p1 w_majorEnd_o0 w_minorEnd_o0 w_patchEnd_o0)) ∧ Fr n0 L ∧ h = h0
set_option maxRecDepth 65536 in
set_option maxHeartbeats 40000000 in
theorem own_rm5 (l : Launch) (Z : State) (a0 : Array Value) (hw : ∀ d ∈ tables_1, d.before a0 Z = true) (ws : List Jvm.Cond) (o0 : Addr) (p1 : Int32) (w_majorEnd_o0 : Int32) (w_minorEnd_o0 : Int32) (w_patchEnd_o0 : Int32) (h0 : Heap) (n0 : Nat) (Z0 : n0 ≤ h0.size) (H : p1 = (0 : Int32) ∨ p1 = (1 : Int32) ∨ p1 = (2 : Int32)) (P_F_o0_majorEnd : Fld Z h0 o0 "com/example/meaning_into_numbers/meaningintonumbers/VersionParts" "majorEnd" "I" (.int w_majorEnd_o0)) (P_F_o0_minorEnd : Fld Z h0 o0 "com/example/meaning_into_numbers/meaningintonumbers/VersionParts" "minorEnd" "I" (.int w_minorEnd_o0)) (P_F_o0_patchEnd : Fld Z h0 o0 "com/example/meaning_into_numbers/meaningintonumbers/VersionParts" "patchEnd" "I" (.int w_patchEnd_o0)) :
    MetFree l (⟨"com/example/meaning_into_numbers/meaningintonumbers/VersionParts", "numberEnd", "(I)I"⟩ : MethodName) (head1 (Jvm.Cond.code (⟨"com/example/meaning_into_numbers/meaningintonumbers/VersionParts", "numberEnd", "(I)I"⟩ : MethodName) prog_27_method_6_code 2 (some .int) :: ws) ({ frames := 0, cells := 0, slots := 0, locals := 0 } : Room)) (fun a U => a = #[(.ref o0), (.int p1)] ∧ Z.Warmed39 U.vm ∧ U.heap = h0) (fun _ _ _ _ _ => True) (fun _ U o U' => ∃ v L, o = .returned v ∧ own_Q5 Z o0 p1 w_majorEnd_o0 w_minorEnd_o0 w_patchEnd_o0 h0 n0 v U'.heap L ∧ FrameEnd U o U' L ({ frames := 0, cells := 0, slots := 0, locals := 0 } : Room).cells ({ frames := 0, cells := 0, slots := 0, locals := 0 } : Room).slots) := by
  refine MetFree.of_bodySF (plainFor_of_name own_pn5) hisR ?_
  intro p e s m args below meth c s₁ Bd hml0 hP hK
  obtain ⟨rfl, hZ, hh⟩ := hP
  have hx := Bd.exec
  have hby := Bd.bytes
  have hml : c.maxLocals = 2 := hml0
  have hown : s.vm.findClass "com/example/meaning_into_numbers/meaningintonumbers/VersionParts" = some m.cls := findClass_of_methodNamed Bd.named
  have hnm := (name_of_methodNamed Bd.named Bd.method).1
  have X0 : Stand p l e ({ frames := 0, cells := 0, slots := 0, locals := 0 } : Room) s m #[(.ref o0), (.int p1)] below meth c s₁ [] 0 0 := Stand.of_body Bd
  have e0 : s₁.heap = h0 := by rw [← hh, Bd.state]; rfl
  have N0 := Fr.nil n0
  have pre0 : ∀ t, Steps p.tables e below (s₁.setTop (mkF m 0 #[.val (.ref o0), .val (.int p1)] [])) t → Steps p.tables e below (s₁.setTop (entryFrame m #[(.ref o0), (.int p1)] 2)) t := fun t k => castTop (own_ef5 m o0 p1) k
  have pre1 : ∀ t, Steps p.tables e below (s₁.setTop (mkF m 1 #[.val (.ref o0), .val (.int p1)] [(.int p1)])) t → Steps p.tables e below (s₁.setTop (entryFrame m #[(.ref o0), (.int p1)] 2)) t := fun t k => pre0 t (by
      refine XS.iloadN X0.here hx rfl (hb hby own_d5_0) rfl ?_
      show Steps p.tables e below (s₁.setTop (mkF m 1 #[.val (.ref o0), .val (.int p1)] [(.int p1)])) _
      exact k)
  by_cases hc2 : p1 = (0 : Int32)
  · obtain ⟨T3, X3, e3, st3⟩ := getF X0 hx hZ hown (host := "") (Or.inl (hw _ (List.mem_of_getElem? (i := 16) rfl))) Via.refl e0 P_F_o0_majorEnd (g := (mkF m 29 #[.val (.ref o0), .val (.int p1)] [(.ref o0)])) rfl rfl (hb hby own_d5_29)
    have pre4 : ∀ t, Steps p.tables e below (T3.setTop (mkF m 58 #[.val (.ref o0), .val (.int p1)] [(.int w_majorEnd_o0)])) t → Steps p.tables e below (s₁.setTop (entryFrame m #[(.ref o0), (.int p1)] 2)) t := fun t k => pre1 t (by
        refine X0.tableswitchIn hx (g := (mkF m 1 #[.val (.ref o0), .val (.int p1)] [(.int p1)])) rfl (k := p1) (rest := []) rfl (hb hby own_d5_1) (by rw [hc2]; decide) (off := 27) (by rw [hc2]; rfl) (show (0 : Int) ≤ ((1 : Nat) : Int) + 27 from by decide) _ ?_
        show Steps p.tables e below (s₁.setTop (mkF m 28 #[.val (.ref o0), .val (.int p1)] [])) _
        refine XS.aloadN X0.here hx rfl (hb hby own_d5_28) rfl rfl ?_
        show Steps p.tables e below (s₁.setTop (mkF m 29 #[.val (.ref o0), .val (.int p1)] [(.ref o0)])) _
        refine st3 _ ?_
        show Steps p.tables e below (T3.setTop (mkF m 32 #[.val (.ref o0), .val (.int p1)] [(.int w_majorEnd_o0)])) _
        refine XS.goto X3.here hx rfl (pc0 := 32) (pc' := 58) rfl (hb hby own_d5_32) (by decide) (by decide) ?_
        show Steps p.tables e below (T3.setTop (mkF m 58 #[.val (.ref o0), .val (.int p1)] [(.int w_majorEnd_o0)])) _
        exact k)
    obtain ⟨fs, hr, hrun, hended, hW, hsame⟩ := X3.leave (v := some (.int w_majorEnd_o0)) (fun h => by rw [Bd.returns] at h; cases h)
    refine ⟨_, _, pre4 _ ?_, hrun, hended, _, _, rfl, ?_, ⟨_, rfl⟩, hW, hsame.mono (by decide) (by decide)⟩
    · show Steps p.tables e below (T3.setTop (mkF m 58 #[.val (.ref o0), .val (.int p1)] [(.int w_majorEnd_o0)])) _
      exact retI X3 hx Bd.returns (hb hby own_d5_58) hr
    · show own_Q5 Z o0 p1 w_majorEnd_o0 w_minorEnd_o0 w_patchEnd_o0 h0 n0 _ T3.heap _; rw [e3]; exact ⟨(by show some (Value.int _) = some (.int (own_f5 p1 w_majorEnd_o0 w_minorEnd_o0 w_patchEnd_o0)); unfold own_f5; rw [if_pos hc2]), N0, rfl⟩
  · by_cases hc5 : p1 = (1 : Int32)
    · obtain ⟨T6, X6, e6, st6⟩ := getF X0 hx hZ hown (host := "") (Or.inl (hw _ (List.mem_of_getElem? (i := 18) rfl))) Via.refl e0 P_F_o0_minorEnd (g := (mkF m 36 #[.val (.ref o0), .val (.int p1)] [(.ref o0)])) rfl rfl (hb hby own_d5_36)
      have pre7 : ∀ t, Steps p.tables e below (T6.setTop (mkF m 58 #[.val (.ref o0), .val (.int p1)] [(.int w_minorEnd_o0)])) t → Steps p.tables e below (s₁.setTop (entryFrame m #[(.ref o0), (.int p1)] 2)) t := fun t k => pre1 t (by
          refine X0.tableswitchIn hx (g := (mkF m 1 #[.val (.ref o0), .val (.int p1)] [(.int p1)])) rfl (k := p1) (rest := []) rfl (hb hby own_d5_1) (by rw [hc5]; decide) (off := 34) (by rw [hc5]; rfl) (show (0 : Int) ≤ ((1 : Nat) : Int) + 34 from by decide) _ ?_
          show Steps p.tables e below (s₁.setTop (mkF m 35 #[.val (.ref o0), .val (.int p1)] [])) _
          refine XS.aloadN X0.here hx rfl (hb hby own_d5_35) rfl rfl ?_
          show Steps p.tables e below (s₁.setTop (mkF m 36 #[.val (.ref o0), .val (.int p1)] [(.ref o0)])) _
          refine st6 _ ?_
          show Steps p.tables e below (T6.setTop (mkF m 39 #[.val (.ref o0), .val (.int p1)] [(.int w_minorEnd_o0)])) _
          refine XS.goto X6.here hx rfl (pc0 := 39) (pc' := 58) rfl (hb hby own_d5_39) (by decide) (by decide) ?_
          show Steps p.tables e below (T6.setTop (mkF m 58 #[.val (.ref o0), .val (.int p1)] [(.int w_minorEnd_o0)])) _
          exact k)
      obtain ⟨fs, hr, hrun, hended, hW, hsame⟩ := X6.leave (v := some (.int w_minorEnd_o0)) (fun h => by rw [Bd.returns] at h; cases h)
      refine ⟨_, _, pre7 _ ?_, hrun, hended, _, _, rfl, ?_, ⟨_, rfl⟩, hW, hsame.mono (by decide) (by decide)⟩
      · show Steps p.tables e below (T6.setTop (mkF m 58 #[.val (.ref o0), .val (.int p1)] [(.int w_minorEnd_o0)])) _
        exact retI X6 hx Bd.returns (hb hby own_d5_58) hr
      · show own_Q5 Z o0 p1 w_majorEnd_o0 w_minorEnd_o0 w_patchEnd_o0 h0 n0 _ T6.heap _; rw [e6]; exact ⟨(by show some (Value.int _) = some (.int (own_f5 p1 w_majorEnd_o0 w_minorEnd_o0 w_patchEnd_o0)); unfold own_f5; rw [if_neg hc2, if_pos hc5]), N0, rfl⟩
    · by_cases hc8 : p1 = (2 : Int32)
      · obtain ⟨T9, X9, e9, st9⟩ := getF X0 hx hZ hown (host := "") (Or.inl (hw _ (List.mem_of_getElem? (i := 20) rfl))) Via.refl e0 P_F_o0_patchEnd (g := (mkF m 43 #[.val (.ref o0), .val (.int p1)] [(.ref o0)])) rfl rfl (hb hby own_d5_43)
        have pre10 : ∀ t, Steps p.tables e below (T9.setTop (mkF m 58 #[.val (.ref o0), .val (.int p1)] [(.int w_patchEnd_o0)])) t → Steps p.tables e below (s₁.setTop (entryFrame m #[(.ref o0), (.int p1)] 2)) t := fun t k => pre1 t (by
            refine X0.tableswitchIn hx (g := (mkF m 1 #[.val (.ref o0), .val (.int p1)] [(.int p1)])) rfl (k := p1) (rest := []) rfl (hb hby own_d5_1) (by rw [hc8]; decide) (off := 41) (by rw [hc8]; rfl) (show (0 : Int) ≤ ((1 : Nat) : Int) + 41 from by decide) _ ?_
            show Steps p.tables e below (s₁.setTop (mkF m 42 #[.val (.ref o0), .val (.int p1)] [])) _
            refine XS.aloadN X0.here hx rfl (hb hby own_d5_42) rfl rfl ?_
            show Steps p.tables e below (s₁.setTop (mkF m 43 #[.val (.ref o0), .val (.int p1)] [(.ref o0)])) _
            refine st9 _ ?_
            show Steps p.tables e below (T9.setTop (mkF m 46 #[.val (.ref o0), .val (.int p1)] [(.int w_patchEnd_o0)])) _
            refine XS.goto X9.here hx rfl (pc0 := 46) (pc' := 58) rfl (hb hby own_d5_46) (by decide) (by decide) ?_
            show Steps p.tables e below (T9.setTop (mkF m 58 #[.val (.ref o0), .val (.int p1)] [(.int w_patchEnd_o0)])) _
            exact k)
        obtain ⟨fs, hr, hrun, hended, hW, hsame⟩ := X9.leave (v := some (.int w_patchEnd_o0)) (fun h => by rw [Bd.returns] at h; cases h)
        refine ⟨_, _, pre10 _ ?_, hrun, hended, _, _, rfl, ?_, ⟨_, rfl⟩, hW, hsame.mono (by decide) (by decide)⟩
        · show Steps p.tables e below (T9.setTop (mkF m 58 #[.val (.ref o0), .val (.int p1)] [(.int w_patchEnd_o0)])) _
          exact retI X9 hx Bd.returns (hb hby own_d5_58) hr
        · show own_Q5 Z o0 p1 w_majorEnd_o0 w_minorEnd_o0 w_patchEnd_o0 h0 n0 _ T9.heap _; rw [e9]; exact ⟨(by show some (Value.int _) = some (.int (own_f5 p1 w_majorEnd_o0 w_minorEnd_o0 w_patchEnd_o0)); unfold own_f5; rw [if_neg hc2, if_neg hc5, if_pos hc8]), N0, rfl⟩
      · exact absurd H (fun q => q.elim hc2 (fun q => q.elim hc5 hc8))
theorem own_d6_0 : decode prog_27_method_8_code 0 = .ok (.aload_n 0, 1) := by decide +kernel
theorem own_d6_1 : decode prog_27_method_8_code 1 = .ok (.getfield 26, 3) := by decide +kernel
theorem own_d6_4 : decode prog_27_method_8_code 4 = .ok (.ireturn, 1) := by decide +kernel
theorem own_pn6 : plainName "com/example/meaning_into_numbers/meaningintonumbers/VersionParts" = true := by first | (simp [plainName, overriddenIn]; done) | decide +kernel
theorem own_ef6 (m : MethodId) (x0 : Addr) : entryFrame m #[(.ref x0)] 1 = (mkF m 0 #[.val (.ref x0)] []) := by first | (simp [entryFrame, mkF, argsToLocals, Value.category]; done) | rfl
def own_Q6 (Z : State) (o0 : Addr) (w_preReleaseEnd_o0 : Int32) (h0 : Heap) (n0 : Nat) (v : Option Value) (h : Heap) (L : List Loc) : Prop := v = some (.int w_preReleaseEnd_o0) ∧ Fr n0 L ∧ h = h0
set_option maxRecDepth 65536 in
set_option maxHeartbeats 40000000 in
theorem own_rm6 (l : Launch) (Z : State) (a0 : Array Value) (hw : ∀ d ∈ tables_1, d.before a0 Z = true) (ws : List Jvm.Cond) (o0 : Addr) (w_preReleaseEnd_o0 : Int32) (h0 : Heap) (n0 : Nat) (Z0 : n0 ≤ h0.size) (P_F_o0_preReleaseEnd : Fld Z h0 o0 "com/example/meaning_into_numbers/meaningintonumbers/VersionParts" "preReleaseEnd" "I" (.int w_preReleaseEnd_o0)) :
    MetFree l (⟨"com/example/meaning_into_numbers/meaningintonumbers/VersionParts", "preReleaseEnd", "()I"⟩ : MethodName) (head1 (Jvm.Cond.code (⟨"com/example/meaning_into_numbers/meaningintonumbers/VersionParts", "preReleaseEnd", "()I"⟩ : MethodName) prog_27_method_8_code 1 (some .int) :: ws) ({ frames := 0, cells := 0, slots := 0, locals := 0 } : Room)) (fun a U => a = #[(.ref o0)] ∧ Z.Warmed39 U.vm ∧ U.heap = h0) (fun _ _ _ _ _ => True) (fun _ U o U' => ∃ v L, o = .returned v ∧ own_Q6 Z o0 w_preReleaseEnd_o0 h0 n0 v U'.heap L ∧ FrameEnd U o U' L ({ frames := 0, cells := 0, slots := 0, locals := 0 } : Room).cells ({ frames := 0, cells := 0, slots := 0, locals := 0 } : Room).slots) := by
  refine MetFree.of_bodySF (plainFor_of_name own_pn6) hisR ?_
  intro p e s m args below meth c s₁ Bd hml0 hP hK
  obtain ⟨rfl, hZ, hh⟩ := hP
  have hx := Bd.exec
  have hby := Bd.bytes
  have hml : c.maxLocals = 1 := hml0
  have hown : s.vm.findClass "com/example/meaning_into_numbers/meaningintonumbers/VersionParts" = some m.cls := findClass_of_methodNamed Bd.named
  have hnm := (name_of_methodNamed Bd.named Bd.method).1
  have X0 : Stand p l e ({ frames := 0, cells := 0, slots := 0, locals := 0 } : Room) s m #[(.ref o0)] below meth c s₁ [] 0 0 := Stand.of_body Bd
  have e0 : s₁.heap = h0 := by rw [← hh, Bd.state]; rfl
  have N0 := Fr.nil n0
  have pre0 : ∀ t, Steps p.tables e below (s₁.setTop (mkF m 0 #[.val (.ref o0)] [])) t → Steps p.tables e below (s₁.setTop (entryFrame m #[(.ref o0)] 1)) t := fun t k => castTop (own_ef6 m o0) k
  obtain ⟨T1, X1, e1, st1⟩ := getF X0 hx hZ hown (host := "") (Or.inl (hw _ (List.mem_of_getElem? (i := 22) rfl))) Via.refl e0 P_F_o0_preReleaseEnd (g := (mkF m 1 #[.val (.ref o0)] [(.ref o0)])) rfl rfl (hb hby own_d6_1)
  have pre2 : ∀ t, Steps p.tables e below (T1.setTop (mkF m 4 #[.val (.ref o0)] [(.int w_preReleaseEnd_o0)])) t → Steps p.tables e below (s₁.setTop (entryFrame m #[(.ref o0)] 1)) t := fun t k => pre0 t (by
      refine XS.aloadN X0.here hx rfl (hb hby own_d6_0) rfl rfl ?_
      show Steps p.tables e below (s₁.setTop (mkF m 1 #[.val (.ref o0)] [(.ref o0)])) _
      refine st1 _ ?_
      show Steps p.tables e below (T1.setTop (mkF m 4 #[.val (.ref o0)] [(.int w_preReleaseEnd_o0)])) _
      exact k)
  obtain ⟨fs, hr, hrun, hended, hW, hsame⟩ := X1.leave (v := some (.int w_preReleaseEnd_o0)) (fun h => by rw [Bd.returns] at h; cases h)
  refine ⟨_, _, pre2 _ ?_, hrun, hended, _, _, rfl, ?_, ⟨_, rfl⟩, hW, hsame.mono (by decide) (by decide)⟩
  · show Steps p.tables e below (T1.setTop (mkF m 4 #[.val (.ref o0)] [(.int w_preReleaseEnd_o0)])) _
    exact retI X1 hx Bd.returns (hb hby own_d6_4) hr
  · show own_Q6 Z o0 w_preReleaseEnd_o0 h0 n0 _ T1.heap _; rw [e1]; exact ⟨rfl, N0, rfl⟩
theorem own_d7_0 : decode prog_27_method_9_code 0 = .ok (.aload_n 0, 1) := by decide +kernel
theorem own_d7_1 : decode prog_27_method_9_code 1 = .ok (.getfield 26, 3) := by decide +kernel
theorem own_d7_4 : decode prog_27_method_9_code 4 = .ok (.aload_n 0, 1) := by decide +kernel
theorem own_d7_5 : decode prog_27_method_9_code 5 = .ok (.getfield 23, 3) := by decide +kernel
theorem own_d7_8 : decode prog_27_method_9_code 8 = .ok (.if_icmp .le 7, 3) := by decide +kernel
theorem own_d7_11 : decode prog_27_method_9_code 11 = .ok (.iconst 1, 1) := by decide +kernel
theorem own_d7_12 : decode prog_27_method_9_code 12 = .ok (.goto 4, 3) := by decide +kernel
theorem own_d7_15 : decode prog_27_method_9_code 15 = .ok (.iconst 0, 1) := by decide +kernel
theorem own_d7_16 : decode prog_27_method_9_code 16 = .ok (.ireturn, 1) := by decide +kernel
theorem own_pn7 : plainName "com/example/meaning_into_numbers/meaningintonumbers/VersionParts" = true := by first | (simp [plainName, overriddenIn]; done) | decide +kernel
theorem own_ef7 (m : MethodId) (x0 : Addr) : entryFrame m #[(.ref x0)] 1 = (mkF m 0 #[.val (.ref x0)] []) := by first | (simp [entryFrame, mkF, argsToLocals, Value.category]; done) | rfl
def own_f7 (w_preReleaseEnd_o0 : Int32) (w_patchEnd_o0 : Int32) : Int32 := (if w_patchEnd_o0 < w_preReleaseEnd_o0 then (1 : Int32) else (0 : Int32))
def own_Q7 (Z : State) (o0 : Addr) (w_preReleaseEnd_o0 : Int32) (w_patchEnd_o0 : Int32) (h0 : Heap) (n0 : Nat) (v : Option Value) (h : Heap) (L : List Loc) : Prop := v = some (.int (own_f7 w_preReleaseEnd_o0 w_patchEnd_o0)) ∧ Fr n0 L ∧ h = h0
set_option maxRecDepth 65536 in
set_option maxHeartbeats 40000000 in
theorem own_rm7 (l : Launch) (Z : State) (a0 : Array Value) (hw : ∀ d ∈ tables_1, d.before a0 Z = true) (ws : List Jvm.Cond) (o0 : Addr) (w_preReleaseEnd_o0 : Int32) (w_patchEnd_o0 : Int32) (h0 : Heap) (n0 : Nat) (Z0 : n0 ≤ h0.size) (P_F_o0_preReleaseEnd : Fld Z h0 o0 "com/example/meaning_into_numbers/meaningintonumbers/VersionParts" "preReleaseEnd" "I" (.int w_preReleaseEnd_o0)) (P_F_o0_patchEnd : Fld Z h0 o0 "com/example/meaning_into_numbers/meaningintonumbers/VersionParts" "patchEnd" "I" (.int w_patchEnd_o0)) :
    MetFree l (⟨"com/example/meaning_into_numbers/meaningintonumbers/VersionParts", "isPreRelease", "()Z"⟩ : MethodName) (head1 (Jvm.Cond.code (⟨"com/example/meaning_into_numbers/meaningintonumbers/VersionParts", "isPreRelease", "()Z"⟩ : MethodName) prog_27_method_9_code 1 (some .boolean) :: ws) ({ frames := 0, cells := 0, slots := 0, locals := 0 } : Room)) (fun a U => a = #[(.ref o0)] ∧ Z.Warmed39 U.vm ∧ U.heap = h0) (fun _ _ _ _ _ => True) (fun _ U o U' => ∃ v L, o = .returned v ∧ own_Q7 Z o0 w_preReleaseEnd_o0 w_patchEnd_o0 h0 n0 v U'.heap L ∧ FrameEnd U o U' L ({ frames := 0, cells := 0, slots := 0, locals := 0 } : Room).cells ({ frames := 0, cells := 0, slots := 0, locals := 0 } : Room).slots) := by
  refine MetFree.of_bodySF (plainFor_of_name own_pn7) hisR ?_
  intro p e s m args below meth c s₁ Bd hml0 hP hK
  obtain ⟨rfl, hZ, hh⟩ := hP
  have hx := Bd.exec
  have hby := Bd.bytes
  have hml : c.maxLocals = 1 := hml0
  have hown : s.vm.findClass "com/example/meaning_into_numbers/meaningintonumbers/VersionParts" = some m.cls := findClass_of_methodNamed Bd.named
  have hnm := (name_of_methodNamed Bd.named Bd.method).1
  have X0 : Stand p l e ({ frames := 0, cells := 0, slots := 0, locals := 0 } : Room) s m #[(.ref o0)] below meth c s₁ [] 0 0 := Stand.of_body Bd
  have e0 : s₁.heap = h0 := by rw [← hh, Bd.state]; rfl
  have N0 := Fr.nil n0
  have pre0 : ∀ t, Steps p.tables e below (s₁.setTop (mkF m 0 #[.val (.ref o0)] [])) t → Steps p.tables e below (s₁.setTop (entryFrame m #[(.ref o0)] 1)) t := fun t k => castTop (own_ef7 m o0) k
  obtain ⟨T1, X1, e1, st1⟩ := getF X0 hx hZ hown (host := "") (Or.inl (hw _ (List.mem_of_getElem? (i := 22) rfl))) Via.refl e0 P_F_o0_preReleaseEnd (g := (mkF m 1 #[.val (.ref o0)] [(.ref o0)])) rfl rfl (hb hby own_d7_1)
  obtain ⟨T2, X2, e2, st2⟩ := getF X1 hx hZ hown (host := "") (Or.inl (hw _ (List.mem_of_getElem? (i := 20) rfl))) Via.refl e1 P_F_o0_patchEnd (g := (mkF m 5 #[.val (.ref o0)] [(.ref o0), (.int w_preReleaseEnd_o0)])) rfl rfl (hb hby own_d7_5)
  have pre3 : ∀ t, Steps p.tables e below (T2.setTop (mkF m 8 #[.val (.ref o0)] [(.int w_patchEnd_o0), (.int w_preReleaseEnd_o0)])) t → Steps p.tables e below (s₁.setTop (entryFrame m #[(.ref o0)] 1)) t := fun t k => pre0 t (by
      refine XS.aloadN X0.here hx rfl (hb hby own_d7_0) rfl rfl ?_
      show Steps p.tables e below (s₁.setTop (mkF m 1 #[.val (.ref o0)] [(.ref o0)])) _
      refine st1 _ ?_
      show Steps p.tables e below (T1.setTop (mkF m 4 #[.val (.ref o0)] [(.int w_preReleaseEnd_o0)])) _
      refine XS.aloadN X1.here hx rfl (hb hby own_d7_4) rfl rfl ?_
      show Steps p.tables e below (T1.setTop (mkF m 5 #[.val (.ref o0)] [(.ref o0), (.int w_preReleaseEnd_o0)])) _
      refine st2 _ ?_
      show Steps p.tables e below (T2.setTop (mkF m 8 #[.val (.ref o0)] [(.int w_patchEnd_o0), (.int w_preReleaseEnd_o0)])) _
      exact k)
  by_cases hc4 : w_patchEnd_o0 < w_preReleaseEnd_o0
  · have pre5 : ∀ t, Steps p.tables e below (T2.setTop (mkF m 16 #[.val (.ref o0)] [(.int (1 : Int32))])) t → Steps p.tables e below (s₁.setTop (entryFrame m #[(.ref o0)] 1)) t := fun t k => pre3 t (by
        refine XS.icmpNo X2.here hx rfl (hb hby own_d7_8) rfl (tlt hc4).2.2.2 ?_
        show Steps p.tables e below (T2.setTop (mkF m 11 #[.val (.ref o0)] [])) _
        refine XS.iconst X2.here hx rfl (hb hby own_d7_11) ?_
        show Steps p.tables e below (T2.setTop (mkF m 12 #[.val (.ref o0)] [(.int (1 : Int32))])) _
        refine XS.goto X2.here hx rfl (pc0 := 12) (pc' := 16) rfl (hb hby own_d7_12) (by decide) (by decide) ?_
        show Steps p.tables e below (T2.setTop (mkF m 16 #[.val (.ref o0)] [(.int (1 : Int32))])) _
        exact k)
    obtain ⟨fs, hr, hrun, hended, hW, hsame⟩ := X2.leave (v := some (.int (1 : Int32))) (fun h => by rw [Bd.returns] at h; cases h)
    refine ⟨_, _, pre5 _ ?_, hrun, hended, _, _, rfl, ?_, ⟨_, rfl⟩, hW, hsame.mono (by decide) (by decide)⟩
    · show Steps p.tables e below (T2.setTop (mkF m 16 #[.val (.ref o0)] [(.int (1 : Int32))])) _
      exact retN X2 hx (t := .boolean) Bd.returns (by simp) (hb hby own_d7_16) hr
    · show own_Q7 Z o0 w_preReleaseEnd_o0 w_patchEnd_o0 h0 n0 _ T2.heap _; rw [e2]; exact ⟨(by show some (Value.int _) = some (.int (own_f7 w_preReleaseEnd_o0 w_patchEnd_o0)); unfold own_f7; rw [if_pos hc4]), N0, rfl⟩
  · have pre6 : ∀ t, Steps p.tables e below (T2.setTop (mkF m 16 #[.val (.ref o0)] [(.int (0 : Int32))])) t → Steps p.tables e below (s₁.setTop (entryFrame m #[(.ref o0)] 1)) t := fun t k => pre3 t (by
        refine XS.icmpYes X2.here hx rfl (pc0 := 8) (pc' := 15) rfl (hb hby own_d7_8) rfl (flt hc4).2.2.2 (by decide) (by decide) ?_
        show Steps p.tables e below (T2.setTop (mkF m 15 #[.val (.ref o0)] [])) _
        refine XS.iconst X2.here hx rfl (hb hby own_d7_15) ?_
        show Steps p.tables e below (T2.setTop (mkF m 16 #[.val (.ref o0)] [(.int (0 : Int32))])) _
        exact k)
    obtain ⟨fs, hr, hrun, hended, hW, hsame⟩ := X2.leave (v := some (.int (0 : Int32))) (fun h => by rw [Bd.returns] at h; cases h)
    refine ⟨_, _, pre6 _ ?_, hrun, hended, _, _, rfl, ?_, ⟨_, rfl⟩, hW, hsame.mono (by decide) (by decide)⟩
    · show Steps p.tables e below (T2.setTop (mkF m 16 #[.val (.ref o0)] [(.int (0 : Int32))])) _
      exact retN X2 hx (t := .boolean) Bd.returns (by simp) (hb hby own_d7_16) hr
    · show own_Q7 Z o0 w_preReleaseEnd_o0 w_patchEnd_o0 h0 n0 _ T2.heap _; rw [e2]; exact ⟨(by show some (Value.int _) = some (.int (own_f7 w_preReleaseEnd_o0 w_patchEnd_o0)); unfold own_f7; rw [if_neg hc4]), N0, rfl⟩
theorem own_pd0 : parseMethodDescriptor "()V" = some ⟨[], none⟩ := by decide +kernel
theorem own_pd1 : parseMethodDescriptor "(IIIII)V" = some ⟨[.int, .int, .int, .int, .int], none⟩ := by decide +kernel
theorem own_pd2 : parseMethodDescriptor "()I" = some ⟨[], some .int⟩ := by decide +kernel
theorem own_pd3 : parseMethodDescriptor "(I)I" = some ⟨[.int], some .int⟩ := by decide +kernel
theorem own_pd4 : parseMethodDescriptor "()Z" = some ⟨[], some .boolean⟩ := by decide +kernel
theorem own_pn0 : plainName "com/example/meaning_into_numbers/meaningintonumbers/VersionPartsSetPinLaw" = true := by first | (simp [plainName, overriddenIn]; done) | decide +kernel
theorem own_ef0 (m : MethodId) (x0 : Int32) (x1 : Int32) (x2 : Int32) (x3 : Int32) (x4 : Int32) (x5 : Int32) : entryFrame m #[(.int x0), (.int x1), (.int x2), (.int x3), (.int x4), (.int x5)] maxLocals = (mkF m 0 #[.val (.int x0), .val (.int x1), .val (.int x2), .val (.int x3), .val (.int x4), .val (.int x5), .unset, .unset] []) := by first | (simp [entryFrame, mkF, argsToLocals, Value.category, maxLocals]; done) | rfl
def own_f0 (p1 : Int32) (p2 : Int32) (p3 : Int32) (p4 : Int32) : Int32 := (if (own_f5 (0 : Int32) p1 p2 p3) = p1 then (if (own_f5 (1 : Int32) p1 p2 p3) = p2 then (if (own_f5 (2 : Int32) p1 p2 p3) = p3 then (if p3 < p4 then (if (own_f7 p4 p3) = (1 : Int32) then (1 : Int32) else (0 : Int32)) else (if (own_f7 p4 p3) = (0 : Int32) then (1 : Int32) else (0 : Int32))) else (0 : Int32)) else (0 : Int32)) else (0 : Int32))
def own_Q0 (Z : State) (p0 : Int32) (p1 : Int32) (p2 : Int32) (p3 : Int32) (p4 : Int32) (p5 : Int32) (h0 : Heap) (n0 : Nat) (v : Option Value) (h : Heap) (L : List Loc) : Prop := v = some (.int (own_f0 p1 p2 p3 p4)) ∧ Fr n0 L
set_option maxRecDepth 65536 in
set_option maxHeartbeats 40000000 in
theorem own_rm0 (l : Launch) (Z : State) (a0 : Array Value) (hw : ∀ d ∈ tables_1, d.before a0 Z = true) (ws : List Jvm.Cond) (p0 : Int32) (p1 : Int32) (p2 : Int32) (p3 : Int32) (p4 : Int32) (p5 : Int32) (h0 : Heap) (n0 : Nat) (Z0 : n0 ≤ h0.size) :
    MetFree l x (head1 (Jvm.Cond.code x code maxLocals ret :: ws) room_1) (fun a U => a = #[(.int p0), (.int p1), (.int p2), (.int p3), (.int p4), (.int p5)] ∧ Z.Warmed39 U.vm ∧ U.heap = h0) (fun _ _ _ _ _ => True) (fun _ U o U' => ∃ v L, o = .returned v ∧ own_Q0 Z p0 p1 p2 p3 p4 p5 h0 n0 v U'.heap L ∧ FrameEnd U o U' L room_1.cells room_1.slots) := by
  refine MetFree.of_bodySF (plainFor_of_name own_pn0) hisR ?_
  intro p e s m args below meth c s₁ Bd hml0 hP hK
  obtain ⟨rfl, hZ, hh⟩ := hP
  have hx := Bd.exec
  have hby := Bd.bytes
  have hml : c.maxLocals = 8 := hml0
  have hown : s.vm.findClass "com/example/meaning_into_numbers/meaningintonumbers/VersionPartsSetPinLaw" = some m.cls := findClass_of_methodNamed Bd.named
  have hnm := (name_of_methodNamed Bd.named Bd.method).1
  have X0 : Stand p l e room_1 s m #[(.int p0), (.int p1), (.int p2), (.int p3), (.int p4), (.int p5)] below meth c s₁ [] 0 0 := Stand.of_body Bd
  have e0 : s₁.heap = h0 := by rw [← hh, Bd.state]; rfl
  have N0 := Fr.nil n0
  have pre0 : ∀ t, Steps p.tables e below (s₁.setTop (mkF m 0 #[.val (.int p0), .val (.int p1), .val (.int p2), .val (.int p3), .val (.int p4), .val (.int p5), .unset, .unset] [])) t → Steps p.tables e below (s₁.setTop (entryFrame m #[(.int p0), (.int p1), (.int p2), (.int p3), (.int p4), (.int p5)] maxLocals)) t := fun t k => castTop (own_ef0 m p0 p1 p2 p3 p4 p5) k
  obtain ⟨T1, h1, X1, e1, E1, A1, D1, -, st1⟩ := newO X0 hx hZ hown (hw _ (List.mem_of_getElem? (i := 0) rfl)) (hw _ (List.mem_of_getElem? (i := 1) rfl)) (hw _ (List.mem_of_getElem? (i := 2) rfl)) e0 (g := (mkF m 0 #[.val (.int p0), .val (.int p1), .val (.int p2), .val (.int p3), .val (.int p4), .val (.int p5), .unset, .unset] [])) rfl (hb hby at_0) (by decide) (by decide)
  obtain ⟨b1, g1⟩ : ∃ z, z = h0.size := ⟨_, rfl⟩
  rw [← g1] at A1 D1 st1
  have g_b1 : n0 ≤ b1 := Nat.le_trans Z0 (Nat.le_of_eq g1.symm)
  have K2 : Keep h0 h0 [] := Keep.refl h0 []
  have sz_b1 : h0.size ≤ b1 := Nat.le_trans K2.1 (Nat.le_of_eq g1.symm)
  have zs3 : n0 ≤ h1.size := Nat.le_trans Z0 E1.1
  have K4 : Keep h0 h1 [] := K2.ext E1
  have f5 : Fld Z h1 b1 "com/example/meaning_into_numbers/meaningintonumbers/VersionParts" "start" "I" (.int (0 : Int32)) := D1 (Or.inl (hw _ (List.mem_of_getElem? (i := 15) rfl))) (ty := .int) (by decide)
  have f6 : Fld Z h1 b1 "com/example/meaning_into_numbers/meaningintonumbers/VersionParts" "majorEnd" "I" (.int (0 : Int32)) := D1 (Or.inl (hw _ (List.mem_of_getElem? (i := 17) rfl))) (ty := .int) (by decide)
  have f7 : Fld Z h1 b1 "com/example/meaning_into_numbers/meaningintonumbers/VersionParts" "minorEnd" "I" (.int (0 : Int32)) := D1 (Or.inl (hw _ (List.mem_of_getElem? (i := 19) rfl))) (ty := .int) (by decide)
  have f8 : Fld Z h1 b1 "com/example/meaning_into_numbers/meaningintonumbers/VersionParts" "patchEnd" "I" (.int (0 : Int32)) := D1 (Or.inl (hw _ (List.mem_of_getElem? (i := 21) rfl))) (ty := .int) (by decide)
  have f9 : Fld Z h1 b1 "com/example/meaning_into_numbers/meaningintonumbers/VersionParts" "preReleaseEnd" "I" (.int (0 : Int32)) := D1 (Or.inl (hw _ (List.mem_of_getElem? (i := 23) rfl))) (ty := .int) (by decide)
  obtain ⟨_, _, ⟨T10, L10, k10, n10⟩, -, X10, ⟨Lc10, hQ10, l10, y10, z10⟩, st10⟩ := X1.specialBack hx (y := (⟨"com/example/meaning_into_numbers/meaningintonumbers/VersionParts", "<init>", "()V"⟩ : MethodName)) rfl hown (mvT hZ (hw _ (List.mem_of_getElem? (i := 3) rfl))) (mvT hZ (hw _ (List.mem_of_getElem? (i := 4) rfl))) (mvT hZ (hw _ (List.mem_of_getElem? (i := 5) rfl))) (by decide) (backOf (W := 1) (own_rm1 l Z a0 hw [] b1 h1 n0 zs3 ) hZ (hw _ (List.mem_of_getElem? (i := 5) rfl)) (hw _ (List.mem_of_getElem? (i := 2) rfl)) (by decide) (by decide)) (g := (mkF m 4 #[.val (.int p0), .val (.int p1), .val (.int p2), .val (.int p3), .val (.int p4), .val (.int p5), .unset, .unset] [(.ref b1), (.ref b1)])) rfl (by rw [hml]; rfl) (Steps.refl _) (a := b1) (argsL := []) (rest := [(.ref b1)]) (lenOf own_pd0 rfl) rfl (by show 2 * 0 + _ ≤ _; exact Nat.le_of_eq rfl) (hb hby at_4) (fun _ _ => ⟨rfl, e1, (by decide : 1 + 0 ≤ _), (by decide : 5 + 0 ≤ _)⟩)
  dsimp only [Pt.U, Pt.locs, Pt.cells, Pt.slots] at X10 l10 y10 z10 st10 hQ10
  subst l10 y10 z10
  obtain ⟨rfl, N10q, e10⟩ := hQ10
  have N11 := Fr.app N0 N10q
  obtain ⟨cq12, kq12, q12a, q12b, q12c⟩ := isOf hZ e10 A1
  obtain ⟨_, _, ⟨T12, L12, k12, n12⟩, -, X12, ⟨Lc12, hQ12, l12, y12, z12⟩, st12⟩ := X10.virtualBack hx (y := (⟨"com/example/meaning_into_numbers/meaningintonumbers/VersionParts", "set", "(IIIII)V"⟩ : MethodName)) (z := (⟨"com/example/meaning_into_numbers/meaningintonumbers/VersionParts", "set", "(IIIII)V"⟩ : MethodName)) hown (mvT hZ (hw _ (List.mem_of_getElem? (i := 9) rfl))) (mvT hZ (hw _ (List.mem_of_getElem? (i := 10) rfl))) (notFace_of_selects (args := #[]) (mvT hZ (hw _ (List.mem_of_getElem? (i := 12) rfl)))) (mvT hZ (hw _ (List.mem_of_getElem? (i := 12) rfl))) (mvT hZ (hw _ (List.mem_of_getElem? (i := 11) rfl))) (by decide) (backOf (W := 0) (own_rm3 l Z a0 hw [] b1 p5 p5 p5 p5 p5 (.int (0 : Int32)) (.int (0 : Int32)) (.int (0 : Int32)) (.int (0 : Int32)) (.int (0 : Int32)) h1 n0 zs3 f6 f7 f8 f9 A1 f5 g_b1) hZ (hw _ (List.mem_of_getElem? (i := 13) rfl)) (hw _ (List.mem_of_getElem? (i := 2) rfl)) (by decide) (by decide)) q12a q12c (g := (mkF m 21 #[.val (.int p0), .val (.int p1), .val (.int p2), .val (.int p3), .val (.int p4), .val (.int p5), .val (.ref b1), .unset] [(.int p5), (.int p5), (.int p5), (.int p5), (.int p5), (.ref b1)])) rfl (by rw [hml]; rfl) (Steps.refl _) (argsL := [(.int p5), (.int p5), (.int p5), (.int p5), (.int p5)]) (rest := []) (lenOf own_pd1 rfl) rfl (by show 2 * 0 + _ ≤ _; exact Nat.le_of_eq rfl) (hb hby at_21) (fun _ _ => ⟨rfl, e10, (by decide : 1 + 0 ≤ _), (by decide : 5 + 0 ≤ _)⟩)
  dsimp only [Pt.U, Pt.locs, Pt.cells, Pt.slots] at X12 l12 y12 z12 st12 hQ12
  subst l12 y12 z12
  obtain ⟨rfl, N12q, K12, f13, f14, f15, f16, f17, f18⟩ := hQ12
  have zs19 : n0 ≤ T12.heap.size := Nat.le_trans zs3 K12.1
  have K20 : Keep h0 T12.heap [] := K4.trans K12 (allS (Or.inr sz_b1) all0)
  have N21 := Fr.app N11 N12q
  obtain ⟨cq22, kq22, q22a, q22b, q22c⟩ := isOf hZ rfl f17
  obtain ⟨_, _, ⟨T22, L22, k22, n22⟩, -, X22, ⟨Lc22, hQ22, l22, y22, z22⟩, st22⟩ := X12.virtualBack hx (y := (⟨"com/example/meaning_into_numbers/meaningintonumbers/VersionParts", "set", "(IIIII)V"⟩ : MethodName)) (z := (⟨"com/example/meaning_into_numbers/meaningintonumbers/VersionParts", "set", "(IIIII)V"⟩ : MethodName)) hown (mvT hZ (hw _ (List.mem_of_getElem? (i := 9) rfl))) (mvT hZ (hw _ (List.mem_of_getElem? (i := 10) rfl))) (notFace_of_selects (args := #[]) (mvT hZ (hw _ (List.mem_of_getElem? (i := 12) rfl)))) (mvT hZ (hw _ (List.mem_of_getElem? (i := 12) rfl))) (mvT hZ (hw _ (List.mem_of_getElem? (i := 11) rfl))) (by decide) (backOf (W := 0) (own_rm3 l Z a0 hw [] b1 p0 p1 p2 p3 p4 (.int p5) (.int p5) (.int p5) (.int p5) (.int p5) T12.heap n0 zs19 f13 f14 f15 f16 f17 f18 g_b1) hZ (hw _ (List.mem_of_getElem? (i := 13) rfl)) (hw _ (List.mem_of_getElem? (i := 2) rfl)) (by decide) (by decide)) q22a q22c (g := (mkF m 32 #[.val (.int p0), .val (.int p1), .val (.int p2), .val (.int p3), .val (.int p4), .val (.int p5), .val (.ref b1), .unset] [(.int p4), (.int p3), (.int p2), (.int p1), (.int p0), (.ref b1)])) rfl (by rw [hml]; rfl) (Steps.refl _) (argsL := [(.int p0), (.int p1), (.int p2), (.int p3), (.int p4)]) (rest := []) (lenOf own_pd1 rfl) rfl (by show 2 * 0 + _ ≤ _; exact Nat.le_of_eq rfl) (hb hby at_32) (fun _ _ => ⟨rfl, rfl, (by decide : 1 + 0 ≤ _), (by decide : 5 + 0 ≤ _)⟩)
  dsimp only [Pt.U, Pt.locs, Pt.cells, Pt.slots] at X22 l22 y22 z22 st22 hQ22
  subst l22 y22 z22
  obtain ⟨rfl, N22q, K22, f23, f24, f25, f26, f27, f28⟩ := hQ22
  have zs29 : n0 ≤ T22.heap.size := Nat.le_trans zs19 K22.1
  have K30 : Keep h0 T22.heap [] := K20.trans K22 (allS (Or.inr sz_b1) all0)
  have N31 := Fr.app N21 N22q
  obtain ⟨cq32, kq32, q32a, q32b, q32c⟩ := isOf hZ rfl f27
  obtain ⟨_, _, ⟨T32, L32, k32, n32⟩, -, X32, ⟨Lc32, hQ32, l32, y32, z32⟩, st32⟩ := X22.virtualBack hx (y := (⟨"com/example/meaning_into_numbers/meaningintonumbers/VersionParts", "start", "()I"⟩ : MethodName)) (z := (⟨"com/example/meaning_into_numbers/meaningintonumbers/VersionParts", "start", "()I"⟩ : MethodName)) hown (mvT hZ (hw _ (List.mem_of_getElem? (i := 24) rfl))) (mvT hZ (hw _ (List.mem_of_getElem? (i := 25) rfl))) (notFace_of_selects (args := #[]) (mvT hZ (hw _ (List.mem_of_getElem? (i := 27) rfl)))) (mvT hZ (hw _ (List.mem_of_getElem? (i := 27) rfl))) (mvT hZ (hw _ (List.mem_of_getElem? (i := 26) rfl))) (by decide) (backOf (W := 0) (own_rm4 l Z a0 hw [] b1 p0 T22.heap n0 zs29 f28) hZ (hw _ (List.mem_of_getElem? (i := 28) rfl)) (hw _ (List.mem_of_getElem? (i := 2) rfl)) (by decide) (by decide)) q32a q32c (g := (mkF m 37 #[.val (.int p0), .val (.int p1), .val (.int p2), .val (.int p3), .val (.int p4), .val (.int p5), .val (.ref b1), .unset] [(.ref b1)])) rfl (by rw [hml]; rfl) (Steps.refl _) (argsL := []) (rest := []) (lenOf own_pd2 rfl) rfl (by show 2 * 0 + _ ≤ _; exact Nat.le_of_eq rfl) (hb hby at_37) (fun _ _ => ⟨rfl, rfl, (by decide : 1 + 0 ≤ _), (by decide : 5 + 0 ≤ _)⟩)
  dsimp only [Pt.U, Pt.locs, Pt.cells, Pt.slots] at X32 l32 y32 z32 st32 hQ32
  subst l32 y32 z32
  obtain ⟨rfl, N32q, e32⟩ := hQ32
  have N33 := Fr.app N31 N32q
  obtain ⟨cq34, kq34, q34a, q34b, q34c⟩ := isOf hZ e32 f27
  obtain ⟨_, _, ⟨T34, L34, k34, n34⟩, -, X34, ⟨Lc34, hQ34, l34, y34, z34⟩, st34⟩ := X32.virtualBack hx (y := (⟨"com/example/meaning_into_numbers/meaningintonumbers/VersionParts", "numberEnd", "(I)I"⟩ : MethodName)) (z := (⟨"com/example/meaning_into_numbers/meaningintonumbers/VersionParts", "numberEnd", "(I)I"⟩ : MethodName)) hown (mvT hZ (hw _ (List.mem_of_getElem? (i := 29) rfl))) (mvT hZ (hw _ (List.mem_of_getElem? (i := 30) rfl))) (notFace_of_selects (args := #[]) (mvT hZ (hw _ (List.mem_of_getElem? (i := 32) rfl)))) (mvT hZ (hw _ (List.mem_of_getElem? (i := 32) rfl))) (mvT hZ (hw _ (List.mem_of_getElem? (i := 31) rfl))) (by decide) (backOf (W := 0) (own_rm5 l Z a0 hw [] b1 (0 : Int32) p1 p2 p3 T22.heap n0 zs29 (Or.inl rfl) f23 f24 f25) hZ (hw _ (List.mem_of_getElem? (i := 33) rfl)) (hw _ (List.mem_of_getElem? (i := 2) rfl)) (by decide) (by decide)) q34a q34c (g := (mkF m 59 #[.val (.int p0), .val (.int p1), .val (.int p2), .val (.int p3), .val (.int p4), .val (.int p5), .val (.ref b1), .val (.int (1 : Int32))] [(.int (0 : Int32)), (.ref b1)])) rfl (by rw [hml]; rfl) (Steps.refl _) (argsL := [(.int (0 : Int32))]) (rest := []) (lenOf own_pd3 rfl) rfl (by show 2 * 0 + _ ≤ _; exact Nat.le_of_eq rfl) (hb hby at_59) (fun _ _ => ⟨rfl, e32, (by decide : 1 + 0 ≤ _), (by decide : 5 + 0 ≤ _)⟩)
  dsimp only [Pt.U, Pt.locs, Pt.cells, Pt.slots] at X34 l34 y34 z34 st34 hQ34
  subst l34 y34 z34
  obtain ⟨rfl, N34q, e34⟩ := hQ34
  have N35 := Fr.app N33 N34q
  have pre36 : ∀ t, Steps p.tables e below (T34.setTop (mkF m 63 #[.val (.int p0), .val (.int p1), .val (.int p2), .val (.int p3), .val (.int p4), .val (.int p5), .val (.ref b1), .val (.int (1 : Int32))] [(.int p1), (.int (own_f5 (0 : Int32) p1 p2 p3))])) t → Steps p.tables e below (s₁.setTop (entryFrame m #[(.int p0), (.int p1), (.int p2), (.int p3), (.int p4), (.int p5)] maxLocals)) t := fun t k => pre0 t (by
      refine st1 _ ?_
      show Steps p.tables e below (T1.setTop (mkF m 3 #[.val (.int p0), .val (.int p1), .val (.int p2), .val (.int p3), .val (.int p4), .val (.int p5), .unset, .unset] [(.ref b1)])) _
      refine XS.dup X1.here hx rfl (hb hby at_3) rfl rfl ?_
      show Steps p.tables e below (T1.setTop (mkF m 4 #[.val (.int p0), .val (.int p1), .val (.int p2), .val (.int p3), .val (.int p4), .val (.int p5), .unset, .unset] [(.ref b1), (.ref b1)])) _
      refine st10.trans ?_
      show Steps p.tables e below (T10.setTop (mkF m 7 #[.val (.int p0), .val (.int p1), .val (.int p2), .val (.int p3), .val (.int p4), .val (.int p5), .unset, .unset] [(.ref b1)])) _
      refine XS.astore X10.here hx rfl (hb hby at_7) rfl rfl (l' := #[.val (.int p0), .val (.int p1), .val (.int p2), .val (.int p3), .val (.int p4), .val (.int p5), .val (.ref b1), .unset]) rfl ?_
      show Steps p.tables e below (T10.setTop (mkF m 9 #[.val (.int p0), .val (.int p1), .val (.int p2), .val (.int p3), .val (.int p4), .val (.int p5), .val (.ref b1), .unset] [])) _
      refine XS.aload X10.here hx rfl (hb hby at_9) rfl rfl ?_
      show Steps p.tables e below (T10.setTop (mkF m 11 #[.val (.int p0), .val (.int p1), .val (.int p2), .val (.int p3), .val (.int p4), .val (.int p5), .val (.ref b1), .unset] [(.ref b1)])) _
      refine XS.iload X10.here hx rfl (hb hby at_11) rfl ?_
      show Steps p.tables e below (T10.setTop (mkF m 13 #[.val (.int p0), .val (.int p1), .val (.int p2), .val (.int p3), .val (.int p4), .val (.int p5), .val (.ref b1), .unset] [(.int p5), (.ref b1)])) _
      refine XS.iload X10.here hx rfl (hb hby at_13) rfl ?_
      show Steps p.tables e below (T10.setTop (mkF m 15 #[.val (.int p0), .val (.int p1), .val (.int p2), .val (.int p3), .val (.int p4), .val (.int p5), .val (.ref b1), .unset] [(.int p5), (.int p5), (.ref b1)])) _
      refine XS.iload X10.here hx rfl (hb hby at_15) rfl ?_
      show Steps p.tables e below (T10.setTop (mkF m 17 #[.val (.int p0), .val (.int p1), .val (.int p2), .val (.int p3), .val (.int p4), .val (.int p5), .val (.ref b1), .unset] [(.int p5), (.int p5), (.int p5), (.ref b1)])) _
      refine XS.iload X10.here hx rfl (hb hby at_17) rfl ?_
      show Steps p.tables e below (T10.setTop (mkF m 19 #[.val (.int p0), .val (.int p1), .val (.int p2), .val (.int p3), .val (.int p4), .val (.int p5), .val (.ref b1), .unset] [(.int p5), (.int p5), (.int p5), (.int p5), (.ref b1)])) _
      refine XS.iload X10.here hx rfl (hb hby at_19) rfl ?_
      show Steps p.tables e below (T10.setTop (mkF m 21 #[.val (.int p0), .val (.int p1), .val (.int p2), .val (.int p3), .val (.int p4), .val (.int p5), .val (.ref b1), .unset] [(.int p5), (.int p5), (.int p5), (.int p5), (.int p5), (.ref b1)])) _
      refine st12.trans ?_
      show Steps p.tables e below (T12.setTop (mkF m 24 #[.val (.int p0), .val (.int p1), .val (.int p2), .val (.int p3), .val (.int p4), .val (.int p5), .val (.ref b1), .unset] [])) _
      refine XS.aload X12.here hx rfl (hb hby at_24) rfl rfl ?_
      show Steps p.tables e below (T12.setTop (mkF m 26 #[.val (.int p0), .val (.int p1), .val (.int p2), .val (.int p3), .val (.int p4), .val (.int p5), .val (.ref b1), .unset] [(.ref b1)])) _
      refine XS.iloadN X12.here hx rfl (hb hby at_26) rfl ?_
      show Steps p.tables e below (T12.setTop (mkF m 27 #[.val (.int p0), .val (.int p1), .val (.int p2), .val (.int p3), .val (.int p4), .val (.int p5), .val (.ref b1), .unset] [(.int p0), (.ref b1)])) _
      refine XS.iloadN X12.here hx rfl (hb hby at_27) rfl ?_
      show Steps p.tables e below (T12.setTop (mkF m 28 #[.val (.int p0), .val (.int p1), .val (.int p2), .val (.int p3), .val (.int p4), .val (.int p5), .val (.ref b1), .unset] [(.int p1), (.int p0), (.ref b1)])) _
      refine XS.iloadN X12.here hx rfl (hb hby at_28) rfl ?_
      show Steps p.tables e below (T12.setTop (mkF m 29 #[.val (.int p0), .val (.int p1), .val (.int p2), .val (.int p3), .val (.int p4), .val (.int p5), .val (.ref b1), .unset] [(.int p2), (.int p1), (.int p0), (.ref b1)])) _
      refine XS.iloadN X12.here hx rfl (hb hby at_29) rfl ?_
      show Steps p.tables e below (T12.setTop (mkF m 30 #[.val (.int p0), .val (.int p1), .val (.int p2), .val (.int p3), .val (.int p4), .val (.int p5), .val (.ref b1), .unset] [(.int p3), (.int p2), (.int p1), (.int p0), (.ref b1)])) _
      refine XS.iload X12.here hx rfl (hb hby at_30) rfl ?_
      show Steps p.tables e below (T12.setTop (mkF m 32 #[.val (.int p0), .val (.int p1), .val (.int p2), .val (.int p3), .val (.int p4), .val (.int p5), .val (.ref b1), .unset] [(.int p4), (.int p3), (.int p2), (.int p1), (.int p0), (.ref b1)])) _
      refine st22.trans ?_
      show Steps p.tables e below (T22.setTop (mkF m 35 #[.val (.int p0), .val (.int p1), .val (.int p2), .val (.int p3), .val (.int p4), .val (.int p5), .val (.ref b1), .unset] [])) _
      refine XS.aload X22.here hx rfl (hb hby at_35) rfl rfl ?_
      show Steps p.tables e below (T22.setTop (mkF m 37 #[.val (.int p0), .val (.int p1), .val (.int p2), .val (.int p3), .val (.int p4), .val (.int p5), .val (.ref b1), .unset] [(.ref b1)])) _
      refine st32.trans ?_
      show Steps p.tables e below (T32.setTop (mkF m 40 #[.val (.int p0), .val (.int p1), .val (.int p2), .val (.int p3), .val (.int p4), .val (.int p5), .val (.ref b1), .unset] [(.int p0)])) _
      refine XS.iloadN X32.here hx rfl (hb hby at_40) rfl ?_
      show Steps p.tables e below (T32.setTop (mkF m 41 #[.val (.int p0), .val (.int p1), .val (.int p2), .val (.int p3), .val (.int p4), .val (.int p5), .val (.ref b1), .unset] [(.int p0), (.int p0)])) _
      refine XS.icmpNo X32.here hx rfl (hb hby at_41) rfl (teq (rfl : p0 = p0)).2 ?_
      show Steps p.tables e below (T32.setTop (mkF m 44 #[.val (.int p0), .val (.int p1), .val (.int p2), .val (.int p3), .val (.int p4), .val (.int p5), .val (.ref b1), .unset] [])) _
      refine XS.iconst X32.here hx rfl (hb hby at_44) ?_
      show Steps p.tables e below (T32.setTop (mkF m 45 #[.val (.int p0), .val (.int p1), .val (.int p2), .val (.int p3), .val (.int p4), .val (.int p5), .val (.ref b1), .unset] [(.int (1 : Int32))])) _
      refine XS.goto X32.here hx rfl (pc0 := 45) (pc' := 49) rfl (hb hby at_45) (by decide) (by decide) ?_
      show Steps p.tables e below (T32.setTop (mkF m 49 #[.val (.int p0), .val (.int p1), .val (.int p2), .val (.int p3), .val (.int p4), .val (.int p5), .val (.ref b1), .unset] [(.int (1 : Int32))])) _
      refine XS.istore X32.here hx rfl (hb hby at_49) rfl (l' := #[.val (.int p0), .val (.int p1), .val (.int p2), .val (.int p3), .val (.int p4), .val (.int p5), .val (.ref b1), .val (.int (1 : Int32))]) rfl ?_
      show Steps p.tables e below (T32.setTop (mkF m 51 #[.val (.int p0), .val (.int p1), .val (.int p2), .val (.int p3), .val (.int p4), .val (.int p5), .val (.ref b1), .val (.int (1 : Int32))] [])) _
      refine XS.iload X32.here hx rfl (hb hby at_51) rfl ?_
      show Steps p.tables e below (T32.setTop (mkF m 53 #[.val (.int p0), .val (.int p1), .val (.int p2), .val (.int p3), .val (.int p4), .val (.int p5), .val (.ref b1), .val (.int (1 : Int32))] [(.int (1 : Int32))])) _
      refine XS.ifNo X32.here hx rfl (hb hby at_53) rfl ((if0 _ _).trans (feq (by decide : ¬ ((1 : Int32) = (0 : Int32)))).1) ?_
      show Steps p.tables e below (T32.setTop (mkF m 56 #[.val (.int p0), .val (.int p1), .val (.int p2), .val (.int p3), .val (.int p4), .val (.int p5), .val (.ref b1), .val (.int (1 : Int32))] [])) _
      refine XS.aload X32.here hx rfl (hb hby at_56) rfl rfl ?_
      show Steps p.tables e below (T32.setTop (mkF m 58 #[.val (.int p0), .val (.int p1), .val (.int p2), .val (.int p3), .val (.int p4), .val (.int p5), .val (.ref b1), .val (.int (1 : Int32))] [(.ref b1)])) _
      refine XS.iconst X32.here hx rfl (hb hby at_58) ?_
      show Steps p.tables e below (T32.setTop (mkF m 59 #[.val (.int p0), .val (.int p1), .val (.int p2), .val (.int p3), .val (.int p4), .val (.int p5), .val (.ref b1), .val (.int (1 : Int32))] [(.int (0 : Int32)), (.ref b1)])) _
      refine st34.trans ?_
      show Steps p.tables e below (T34.setTop (mkF m 62 #[.val (.int p0), .val (.int p1), .val (.int p2), .val (.int p3), .val (.int p4), .val (.int p5), .val (.ref b1), .val (.int (1 : Int32))] [(.int (own_f5 (0 : Int32) p1 p2 p3))])) _
      refine XS.iloadN X34.here hx rfl (hb hby at_62) rfl ?_
      show Steps p.tables e below (T34.setTop (mkF m 63 #[.val (.int p0), .val (.int p1), .val (.int p2), .val (.int p3), .val (.int p4), .val (.int p5), .val (.ref b1), .val (.int (1 : Int32))] [(.int p1), (.int (own_f5 (0 : Int32) p1 p2 p3))])) _
      exact k)
  by_cases hc37 : (own_f5 (0 : Int32) p1 p2 p3) = p1
  · obtain ⟨cq38, kq38, q38a, q38b, q38c⟩ := isOf hZ e34 f27
    obtain ⟨_, _, ⟨T38, L38, k38, n38⟩, -, X38, ⟨Lc38, hQ38, l38, y38, z38⟩, st38⟩ := X34.virtualBack hx (y := (⟨"com/example/meaning_into_numbers/meaningintonumbers/VersionParts", "numberEnd", "(I)I"⟩ : MethodName)) (z := (⟨"com/example/meaning_into_numbers/meaningintonumbers/VersionParts", "numberEnd", "(I)I"⟩ : MethodName)) hown (mvT hZ (hw _ (List.mem_of_getElem? (i := 29) rfl))) (mvT hZ (hw _ (List.mem_of_getElem? (i := 30) rfl))) (notFace_of_selects (args := #[]) (mvT hZ (hw _ (List.mem_of_getElem? (i := 32) rfl)))) (mvT hZ (hw _ (List.mem_of_getElem? (i := 32) rfl))) (mvT hZ (hw _ (List.mem_of_getElem? (i := 31) rfl))) (by decide) (backOf (W := 0) (own_rm5 l Z a0 hw [] b1 (1 : Int32) p1 p2 p3 T22.heap n0 zs29 (Or.inr (Or.inl rfl)) f23 f24 f25) hZ (hw _ (List.mem_of_getElem? (i := 33) rfl)) (hw _ (List.mem_of_getElem? (i := 2) rfl)) (by decide) (by decide)) q38a q38c (g := (mkF m 81 #[.val (.int p0), .val (.int p1), .val (.int p2), .val (.int p3), .val (.int p4), .val (.int p5), .val (.ref b1), .val (.int (1 : Int32))] [(.int (1 : Int32)), (.ref b1)])) rfl (by rw [hml]; rfl) (Steps.refl _) (argsL := [(.int (1 : Int32))]) (rest := []) (lenOf own_pd3 rfl) rfl (by show 2 * 0 + _ ≤ _; exact Nat.le_of_eq rfl) (hb hby at_81) (fun _ _ => ⟨rfl, e34, (by decide : 1 + 0 ≤ _), (by decide : 5 + 0 ≤ _)⟩)
    dsimp only [Pt.U, Pt.locs, Pt.cells, Pt.slots] at X38 l38 y38 z38 st38 hQ38
    subst l38 y38 z38
    obtain ⟨rfl, N38q, e38⟩ := hQ38
    have N39 := Fr.app N35 N38q
    have pre40 : ∀ t, Steps p.tables e below (T38.setTop (mkF m 85 #[.val (.int p0), .val (.int p1), .val (.int p2), .val (.int p3), .val (.int p4), .val (.int p5), .val (.ref b1), .val (.int (1 : Int32))] [(.int p2), (.int (own_f5 (1 : Int32) p1 p2 p3))])) t → Steps p.tables e below (s₁.setTop (entryFrame m #[(.int p0), (.int p1), (.int p2), (.int p3), (.int p4), (.int p5)] maxLocals)) t := fun t k => pre36 t (by
        refine XS.icmpNo X34.here hx rfl (hb hby at_63) rfl (teq hc37).2 ?_
        show Steps p.tables e below (T34.setTop (mkF m 66 #[.val (.int p0), .val (.int p1), .val (.int p2), .val (.int p3), .val (.int p4), .val (.int p5), .val (.ref b1), .val (.int (1 : Int32))] [])) _
        refine XS.iconst X34.here hx rfl (hb hby at_66) ?_
        show Steps p.tables e below (T34.setTop (mkF m 67 #[.val (.int p0), .val (.int p1), .val (.int p2), .val (.int p3), .val (.int p4), .val (.int p5), .val (.ref b1), .val (.int (1 : Int32))] [(.int (1 : Int32))])) _
        refine XS.goto X34.here hx rfl (pc0 := 67) (pc' := 71) rfl (hb hby at_67) (by decide) (by decide) ?_
        show Steps p.tables e below (T34.setTop (mkF m 71 #[.val (.int p0), .val (.int p1), .val (.int p2), .val (.int p3), .val (.int p4), .val (.int p5), .val (.ref b1), .val (.int (1 : Int32))] [(.int (1 : Int32))])) _
        refine XS.istore X34.here hx rfl (hb hby at_71) rfl (l' := #[.val (.int p0), .val (.int p1), .val (.int p2), .val (.int p3), .val (.int p4), .val (.int p5), .val (.ref b1), .val (.int (1 : Int32))]) rfl ?_
        show Steps p.tables e below (T34.setTop (mkF m 73 #[.val (.int p0), .val (.int p1), .val (.int p2), .val (.int p3), .val (.int p4), .val (.int p5), .val (.ref b1), .val (.int (1 : Int32))] [])) _
        refine XS.iload X34.here hx rfl (hb hby at_73) rfl ?_
        show Steps p.tables e below (T34.setTop (mkF m 75 #[.val (.int p0), .val (.int p1), .val (.int p2), .val (.int p3), .val (.int p4), .val (.int p5), .val (.ref b1), .val (.int (1 : Int32))] [(.int (1 : Int32))])) _
        refine XS.ifNo X34.here hx rfl (hb hby at_75) rfl ((if0 _ _).trans (feq (by decide : ¬ ((1 : Int32) = (0 : Int32)))).1) ?_
        show Steps p.tables e below (T34.setTop (mkF m 78 #[.val (.int p0), .val (.int p1), .val (.int p2), .val (.int p3), .val (.int p4), .val (.int p5), .val (.ref b1), .val (.int (1 : Int32))] [])) _
        refine XS.aload X34.here hx rfl (hb hby at_78) rfl rfl ?_
        show Steps p.tables e below (T34.setTop (mkF m 80 #[.val (.int p0), .val (.int p1), .val (.int p2), .val (.int p3), .val (.int p4), .val (.int p5), .val (.ref b1), .val (.int (1 : Int32))] [(.ref b1)])) _
        refine XS.iconst X34.here hx rfl (hb hby at_80) ?_
        show Steps p.tables e below (T34.setTop (mkF m 81 #[.val (.int p0), .val (.int p1), .val (.int p2), .val (.int p3), .val (.int p4), .val (.int p5), .val (.ref b1), .val (.int (1 : Int32))] [(.int (1 : Int32)), (.ref b1)])) _
        refine st38.trans ?_
        show Steps p.tables e below (T38.setTop (mkF m 84 #[.val (.int p0), .val (.int p1), .val (.int p2), .val (.int p3), .val (.int p4), .val (.int p5), .val (.ref b1), .val (.int (1 : Int32))] [(.int (own_f5 (1 : Int32) p1 p2 p3))])) _
        refine XS.iloadN X38.here hx rfl (hb hby at_84) rfl ?_
        show Steps p.tables e below (T38.setTop (mkF m 85 #[.val (.int p0), .val (.int p1), .val (.int p2), .val (.int p3), .val (.int p4), .val (.int p5), .val (.ref b1), .val (.int (1 : Int32))] [(.int p2), (.int (own_f5 (1 : Int32) p1 p2 p3))])) _
        exact k)
    by_cases hc41 : (own_f5 (1 : Int32) p1 p2 p3) = p2
    · obtain ⟨cq42, kq42, q42a, q42b, q42c⟩ := isOf hZ e38 f27
      obtain ⟨_, _, ⟨T42, L42, k42, n42⟩, -, X42, ⟨Lc42, hQ42, l42, y42, z42⟩, st42⟩ := X38.virtualBack hx (y := (⟨"com/example/meaning_into_numbers/meaningintonumbers/VersionParts", "numberEnd", "(I)I"⟩ : MethodName)) (z := (⟨"com/example/meaning_into_numbers/meaningintonumbers/VersionParts", "numberEnd", "(I)I"⟩ : MethodName)) hown (mvT hZ (hw _ (List.mem_of_getElem? (i := 29) rfl))) (mvT hZ (hw _ (List.mem_of_getElem? (i := 30) rfl))) (notFace_of_selects (args := #[]) (mvT hZ (hw _ (List.mem_of_getElem? (i := 32) rfl)))) (mvT hZ (hw _ (List.mem_of_getElem? (i := 32) rfl))) (mvT hZ (hw _ (List.mem_of_getElem? (i := 31) rfl))) (by decide) (backOf (W := 0) (own_rm5 l Z a0 hw [] b1 (2 : Int32) p1 p2 p3 T22.heap n0 zs29 (Or.inr (Or.inr rfl)) f23 f24 f25) hZ (hw _ (List.mem_of_getElem? (i := 33) rfl)) (hw _ (List.mem_of_getElem? (i := 2) rfl)) (by decide) (by decide)) q42a q42c (g := (mkF m 103 #[.val (.int p0), .val (.int p1), .val (.int p2), .val (.int p3), .val (.int p4), .val (.int p5), .val (.ref b1), .val (.int (1 : Int32))] [(.int (2 : Int32)), (.ref b1)])) rfl (by rw [hml]; rfl) (Steps.refl _) (argsL := [(.int (2 : Int32))]) (rest := []) (lenOf own_pd3 rfl) rfl (by show 2 * 0 + _ ≤ _; exact Nat.le_of_eq rfl) (hb hby at_103) (fun _ _ => ⟨rfl, e38, (by decide : 1 + 0 ≤ _), (by decide : 5 + 0 ≤ _)⟩)
      dsimp only [Pt.U, Pt.locs, Pt.cells, Pt.slots] at X42 l42 y42 z42 st42 hQ42
      subst l42 y42 z42
      obtain ⟨rfl, N42q, e42⟩ := hQ42
      have N43 := Fr.app N39 N42q
      have pre44 : ∀ t, Steps p.tables e below (T42.setTop (mkF m 107 #[.val (.int p0), .val (.int p1), .val (.int p2), .val (.int p3), .val (.int p4), .val (.int p5), .val (.ref b1), .val (.int (1 : Int32))] [(.int p3), (.int (own_f5 (2 : Int32) p1 p2 p3))])) t → Steps p.tables e below (s₁.setTop (entryFrame m #[(.int p0), (.int p1), (.int p2), (.int p3), (.int p4), (.int p5)] maxLocals)) t := fun t k => pre40 t (by
          refine XS.icmpNo X38.here hx rfl (hb hby at_85) rfl (teq hc41).2 ?_
          show Steps p.tables e below (T38.setTop (mkF m 88 #[.val (.int p0), .val (.int p1), .val (.int p2), .val (.int p3), .val (.int p4), .val (.int p5), .val (.ref b1), .val (.int (1 : Int32))] [])) _
          refine XS.iconst X38.here hx rfl (hb hby at_88) ?_
          show Steps p.tables e below (T38.setTop (mkF m 89 #[.val (.int p0), .val (.int p1), .val (.int p2), .val (.int p3), .val (.int p4), .val (.int p5), .val (.ref b1), .val (.int (1 : Int32))] [(.int (1 : Int32))])) _
          refine XS.goto X38.here hx rfl (pc0 := 89) (pc' := 93) rfl (hb hby at_89) (by decide) (by decide) ?_
          show Steps p.tables e below (T38.setTop (mkF m 93 #[.val (.int p0), .val (.int p1), .val (.int p2), .val (.int p3), .val (.int p4), .val (.int p5), .val (.ref b1), .val (.int (1 : Int32))] [(.int (1 : Int32))])) _
          refine XS.istore X38.here hx rfl (hb hby at_93) rfl (l' := #[.val (.int p0), .val (.int p1), .val (.int p2), .val (.int p3), .val (.int p4), .val (.int p5), .val (.ref b1), .val (.int (1 : Int32))]) rfl ?_
          show Steps p.tables e below (T38.setTop (mkF m 95 #[.val (.int p0), .val (.int p1), .val (.int p2), .val (.int p3), .val (.int p4), .val (.int p5), .val (.ref b1), .val (.int (1 : Int32))] [])) _
          refine XS.iload X38.here hx rfl (hb hby at_95) rfl ?_
          show Steps p.tables e below (T38.setTop (mkF m 97 #[.val (.int p0), .val (.int p1), .val (.int p2), .val (.int p3), .val (.int p4), .val (.int p5), .val (.ref b1), .val (.int (1 : Int32))] [(.int (1 : Int32))])) _
          refine XS.ifNo X38.here hx rfl (hb hby at_97) rfl ((if0 _ _).trans (feq (by decide : ¬ ((1 : Int32) = (0 : Int32)))).1) ?_
          show Steps p.tables e below (T38.setTop (mkF m 100 #[.val (.int p0), .val (.int p1), .val (.int p2), .val (.int p3), .val (.int p4), .val (.int p5), .val (.ref b1), .val (.int (1 : Int32))] [])) _
          refine XS.aload X38.here hx rfl (hb hby at_100) rfl rfl ?_
          show Steps p.tables e below (T38.setTop (mkF m 102 #[.val (.int p0), .val (.int p1), .val (.int p2), .val (.int p3), .val (.int p4), .val (.int p5), .val (.ref b1), .val (.int (1 : Int32))] [(.ref b1)])) _
          refine XS.iconst X38.here hx rfl (hb hby at_102) ?_
          show Steps p.tables e below (T38.setTop (mkF m 103 #[.val (.int p0), .val (.int p1), .val (.int p2), .val (.int p3), .val (.int p4), .val (.int p5), .val (.ref b1), .val (.int (1 : Int32))] [(.int (2 : Int32)), (.ref b1)])) _
          refine st42.trans ?_
          show Steps p.tables e below (T42.setTop (mkF m 106 #[.val (.int p0), .val (.int p1), .val (.int p2), .val (.int p3), .val (.int p4), .val (.int p5), .val (.ref b1), .val (.int (1 : Int32))] [(.int (own_f5 (2 : Int32) p1 p2 p3))])) _
          refine XS.iloadN X42.here hx rfl (hb hby at_106) rfl ?_
          show Steps p.tables e below (T42.setTop (mkF m 107 #[.val (.int p0), .val (.int p1), .val (.int p2), .val (.int p3), .val (.int p4), .val (.int p5), .val (.ref b1), .val (.int (1 : Int32))] [(.int p3), (.int (own_f5 (2 : Int32) p1 p2 p3))])) _
          exact k)
      by_cases hc45 : (own_f5 (2 : Int32) p1 p2 p3) = p3
      · obtain ⟨cq46, kq46, q46a, q46b, q46c⟩ := isOf hZ e42 f27
        obtain ⟨_, _, ⟨T46, L46, k46, n46⟩, -, X46, ⟨Lc46, hQ46, l46, y46, z46⟩, st46⟩ := X42.virtualBack hx (y := (⟨"com/example/meaning_into_numbers/meaningintonumbers/VersionParts", "preReleaseEnd", "()I"⟩ : MethodName)) (z := (⟨"com/example/meaning_into_numbers/meaningintonumbers/VersionParts", "preReleaseEnd", "()I"⟩ : MethodName)) hown (mvT hZ (hw _ (List.mem_of_getElem? (i := 34) rfl))) (mvT hZ (hw _ (List.mem_of_getElem? (i := 35) rfl))) (notFace_of_selects (args := #[]) (mvT hZ (hw _ (List.mem_of_getElem? (i := 37) rfl)))) (mvT hZ (hw _ (List.mem_of_getElem? (i := 37) rfl))) (mvT hZ (hw _ (List.mem_of_getElem? (i := 36) rfl))) (by decide) (backOf (W := 0) (own_rm6 l Z a0 hw [] b1 p4 T22.heap n0 zs29 f26) hZ (hw _ (List.mem_of_getElem? (i := 38) rfl)) (hw _ (List.mem_of_getElem? (i := 2) rfl)) (by decide) (by decide)) q46a q46c (g := (mkF m 124 #[.val (.int p0), .val (.int p1), .val (.int p2), .val (.int p3), .val (.int p4), .val (.int p5), .val (.ref b1), .val (.int (1 : Int32))] [(.ref b1)])) rfl (by rw [hml]; rfl) (Steps.refl _) (argsL := []) (rest := []) (lenOf own_pd2 rfl) rfl (by show 2 * 0 + _ ≤ _; exact Nat.le_of_eq rfl) (hb hby at_124) (fun _ _ => ⟨rfl, e42, (by decide : 1 + 0 ≤ _), (by decide : 5 + 0 ≤ _)⟩)
        dsimp only [Pt.U, Pt.locs, Pt.cells, Pt.slots] at X46 l46 y46 z46 st46 hQ46
        subst l46 y46 z46
        obtain ⟨rfl, N46q, e46⟩ := hQ46
        have N47 := Fr.app N43 N46q
        obtain ⟨cq48, kq48, q48a, q48b, q48c⟩ := isOf hZ e46 f27
        obtain ⟨_, _, ⟨T48, L48, k48, n48⟩, -, X48, ⟨Lc48, hQ48, l48, y48, z48⟩, st48⟩ := X46.virtualBack hx (y := (⟨"com/example/meaning_into_numbers/meaningintonumbers/VersionParts", "isPreRelease", "()Z"⟩ : MethodName)) (z := (⟨"com/example/meaning_into_numbers/meaningintonumbers/VersionParts", "isPreRelease", "()Z"⟩ : MethodName)) hown (mvT hZ (hw _ (List.mem_of_getElem? (i := 39) rfl))) (mvT hZ (hw _ (List.mem_of_getElem? (i := 40) rfl))) (notFace_of_selects (args := #[]) (mvT hZ (hw _ (List.mem_of_getElem? (i := 42) rfl)))) (mvT hZ (hw _ (List.mem_of_getElem? (i := 42) rfl))) (mvT hZ (hw _ (List.mem_of_getElem? (i := 41) rfl))) (by decide) (backOf (W := 0) (own_rm7 l Z a0 hw [] b1 p4 p3 T22.heap n0 zs29 f26 f25) hZ (hw _ (List.mem_of_getElem? (i := 43) rfl)) (hw _ (List.mem_of_getElem? (i := 2) rfl)) (by decide) (by decide)) q48a q48c (g := (mkF m 146 #[.val (.int p0), .val (.int p1), .val (.int p2), .val (.int p3), .val (.int p4), .val (.int p5), .val (.ref b1), .val (.int (1 : Int32))] [(.ref b1)])) rfl (by rw [hml]; rfl) (Steps.refl _) (argsL := []) (rest := []) (lenOf own_pd4 rfl) rfl (by show 2 * 0 + _ ≤ _; exact Nat.le_of_eq rfl) (hb hby at_146) (fun _ _ => ⟨rfl, e46, (by decide : 1 + 0 ≤ _), (by decide : 5 + 0 ≤ _)⟩)
        dsimp only [Pt.U, Pt.locs, Pt.cells, Pt.slots] at X48 l48 y48 z48 st48 hQ48
        subst l48 y48 z48
        obtain ⟨rfl, N48q, e48⟩ := hQ48
        have N49 := Fr.app N47 N48q
        have pre50 : ∀ t, Steps p.tables e below (T48.setTop (mkF m 152 #[.val (.int p0), .val (.int p1), .val (.int p2), .val (.int p3), .val (.int p4), .val (.int p5), .val (.ref b1), .val (.int (1 : Int32))] [(.int p3), (.int p4), (.int (own_f7 p4 p3))])) t → Steps p.tables e below (s₁.setTop (entryFrame m #[(.int p0), (.int p1), (.int p2), (.int p3), (.int p4), (.int p5)] maxLocals)) t := fun t k => pre44 t (by
            refine XS.icmpNo X42.here hx rfl (hb hby at_107) rfl (teq hc45).2 ?_
            show Steps p.tables e below (T42.setTop (mkF m 110 #[.val (.int p0), .val (.int p1), .val (.int p2), .val (.int p3), .val (.int p4), .val (.int p5), .val (.ref b1), .val (.int (1 : Int32))] [])) _
            refine XS.iconst X42.here hx rfl (hb hby at_110) ?_
            show Steps p.tables e below (T42.setTop (mkF m 111 #[.val (.int p0), .val (.int p1), .val (.int p2), .val (.int p3), .val (.int p4), .val (.int p5), .val (.ref b1), .val (.int (1 : Int32))] [(.int (1 : Int32))])) _
            refine XS.goto X42.here hx rfl (pc0 := 111) (pc' := 115) rfl (hb hby at_111) (by decide) (by decide) ?_
            show Steps p.tables e below (T42.setTop (mkF m 115 #[.val (.int p0), .val (.int p1), .val (.int p2), .val (.int p3), .val (.int p4), .val (.int p5), .val (.ref b1), .val (.int (1 : Int32))] [(.int (1 : Int32))])) _
            refine XS.istore X42.here hx rfl (hb hby at_115) rfl (l' := #[.val (.int p0), .val (.int p1), .val (.int p2), .val (.int p3), .val (.int p4), .val (.int p5), .val (.ref b1), .val (.int (1 : Int32))]) rfl ?_
            show Steps p.tables e below (T42.setTop (mkF m 117 #[.val (.int p0), .val (.int p1), .val (.int p2), .val (.int p3), .val (.int p4), .val (.int p5), .val (.ref b1), .val (.int (1 : Int32))] [])) _
            refine XS.iload X42.here hx rfl (hb hby at_117) rfl ?_
            show Steps p.tables e below (T42.setTop (mkF m 119 #[.val (.int p0), .val (.int p1), .val (.int p2), .val (.int p3), .val (.int p4), .val (.int p5), .val (.ref b1), .val (.int (1 : Int32))] [(.int (1 : Int32))])) _
            refine XS.ifNo X42.here hx rfl (hb hby at_119) rfl ((if0 _ _).trans (feq (by decide : ¬ ((1 : Int32) = (0 : Int32)))).1) ?_
            show Steps p.tables e below (T42.setTop (mkF m 122 #[.val (.int p0), .val (.int p1), .val (.int p2), .val (.int p3), .val (.int p4), .val (.int p5), .val (.ref b1), .val (.int (1 : Int32))] [])) _
            refine XS.aload X42.here hx rfl (hb hby at_122) rfl rfl ?_
            show Steps p.tables e below (T42.setTop (mkF m 124 #[.val (.int p0), .val (.int p1), .val (.int p2), .val (.int p3), .val (.int p4), .val (.int p5), .val (.ref b1), .val (.int (1 : Int32))] [(.ref b1)])) _
            refine st46.trans ?_
            show Steps p.tables e below (T46.setTop (mkF m 127 #[.val (.int p0), .val (.int p1), .val (.int p2), .val (.int p3), .val (.int p4), .val (.int p5), .val (.ref b1), .val (.int (1 : Int32))] [(.int p4)])) _
            refine XS.iload X46.here hx rfl (hb hby at_127) rfl ?_
            show Steps p.tables e below (T46.setTop (mkF m 129 #[.val (.int p0), .val (.int p1), .val (.int p2), .val (.int p3), .val (.int p4), .val (.int p5), .val (.ref b1), .val (.int (1 : Int32))] [(.int p4), (.int p4)])) _
            refine XS.icmpNo X46.here hx rfl (hb hby at_129) rfl (teq (rfl : p4 = p4)).2 ?_
            show Steps p.tables e below (T46.setTop (mkF m 132 #[.val (.int p0), .val (.int p1), .val (.int p2), .val (.int p3), .val (.int p4), .val (.int p5), .val (.ref b1), .val (.int (1 : Int32))] [])) _
            refine XS.iconst X46.here hx rfl (hb hby at_132) ?_
            show Steps p.tables e below (T46.setTop (mkF m 133 #[.val (.int p0), .val (.int p1), .val (.int p2), .val (.int p3), .val (.int p4), .val (.int p5), .val (.ref b1), .val (.int (1 : Int32))] [(.int (1 : Int32))])) _
            refine XS.goto X46.here hx rfl (pc0 := 133) (pc' := 137) rfl (hb hby at_133) (by decide) (by decide) ?_
            show Steps p.tables e below (T46.setTop (mkF m 137 #[.val (.int p0), .val (.int p1), .val (.int p2), .val (.int p3), .val (.int p4), .val (.int p5), .val (.ref b1), .val (.int (1 : Int32))] [(.int (1 : Int32))])) _
            refine XS.istore X46.here hx rfl (hb hby at_137) rfl (l' := #[.val (.int p0), .val (.int p1), .val (.int p2), .val (.int p3), .val (.int p4), .val (.int p5), .val (.ref b1), .val (.int (1 : Int32))]) rfl ?_
            show Steps p.tables e below (T46.setTop (mkF m 139 #[.val (.int p0), .val (.int p1), .val (.int p2), .val (.int p3), .val (.int p4), .val (.int p5), .val (.ref b1), .val (.int (1 : Int32))] [])) _
            refine XS.iload X46.here hx rfl (hb hby at_139) rfl ?_
            show Steps p.tables e below (T46.setTop (mkF m 141 #[.val (.int p0), .val (.int p1), .val (.int p2), .val (.int p3), .val (.int p4), .val (.int p5), .val (.ref b1), .val (.int (1 : Int32))] [(.int (1 : Int32))])) _
            refine XS.ifNo X46.here hx rfl (hb hby at_141) rfl ((if0 _ _).trans (feq (by decide : ¬ ((1 : Int32) = (0 : Int32)))).1) ?_
            show Steps p.tables e below (T46.setTop (mkF m 144 #[.val (.int p0), .val (.int p1), .val (.int p2), .val (.int p3), .val (.int p4), .val (.int p5), .val (.ref b1), .val (.int (1 : Int32))] [])) _
            refine XS.aload X46.here hx rfl (hb hby at_144) rfl rfl ?_
            show Steps p.tables e below (T46.setTop (mkF m 146 #[.val (.int p0), .val (.int p1), .val (.int p2), .val (.int p3), .val (.int p4), .val (.int p5), .val (.ref b1), .val (.int (1 : Int32))] [(.ref b1)])) _
            refine st48.trans ?_
            show Steps p.tables e below (T48.setTop (mkF m 149 #[.val (.int p0), .val (.int p1), .val (.int p2), .val (.int p3), .val (.int p4), .val (.int p5), .val (.ref b1), .val (.int (1 : Int32))] [(.int (own_f7 p4 p3))])) _
            refine XS.iload X48.here hx rfl (hb hby at_149) rfl ?_
            show Steps p.tables e below (T48.setTop (mkF m 151 #[.val (.int p0), .val (.int p1), .val (.int p2), .val (.int p3), .val (.int p4), .val (.int p5), .val (.ref b1), .val (.int (1 : Int32))] [(.int p4), (.int (own_f7 p4 p3))])) _
            refine XS.iloadN X48.here hx rfl (hb hby at_151) rfl ?_
            show Steps p.tables e below (T48.setTop (mkF m 152 #[.val (.int p0), .val (.int p1), .val (.int p2), .val (.int p3), .val (.int p4), .val (.int p5), .val (.ref b1), .val (.int (1 : Int32))] [(.int p3), (.int p4), (.int (own_f7 p4 p3))])) _
            exact k)
        by_cases hc51 : p3 < p4
        · have pre52 : ∀ t, Steps p.tables e below (T48.setTop (mkF m 160 #[.val (.int p0), .val (.int p1), .val (.int p2), .val (.int p3), .val (.int p4), .val (.int p5), .val (.ref b1), .val (.int (1 : Int32))] [(.int (1 : Int32)), (.int (own_f7 p4 p3))])) t → Steps p.tables e below (s₁.setTop (entryFrame m #[(.int p0), (.int p1), (.int p2), (.int p3), (.int p4), (.int p5)] maxLocals)) t := fun t k => pre50 t (by
              refine XS.icmpNo X48.here hx rfl (hb hby at_152) rfl (tlt hc51).2.2.2 ?_
              show Steps p.tables e below (T48.setTop (mkF m 155 #[.val (.int p0), .val (.int p1), .val (.int p2), .val (.int p3), .val (.int p4), .val (.int p5), .val (.ref b1), .val (.int (1 : Int32))] [(.int (own_f7 p4 p3))])) _
              refine XS.iconst X48.here hx rfl (hb hby at_155) ?_
              show Steps p.tables e below (T48.setTop (mkF m 156 #[.val (.int p0), .val (.int p1), .val (.int p2), .val (.int p3), .val (.int p4), .val (.int p5), .val (.ref b1), .val (.int (1 : Int32))] [(.int (1 : Int32)), (.int (own_f7 p4 p3))])) _
              refine XS.goto X48.here hx rfl (pc0 := 156) (pc' := 160) rfl (hb hby at_156) (by decide) (by decide) ?_
              show Steps p.tables e below (T48.setTop (mkF m 160 #[.val (.int p0), .val (.int p1), .val (.int p2), .val (.int p3), .val (.int p4), .val (.int p5), .val (.ref b1), .val (.int (1 : Int32))] [(.int (1 : Int32)), (.int (own_f7 p4 p3))])) _
              exact k)
          by_cases hc53 : (own_f7 p4 p3) = (1 : Int32)
          · have pre54 : ∀ t, Steps p.tables e below (T48.setTop (mkF m 172 #[.val (.int p0), .val (.int p1), .val (.int p2), .val (.int p3), .val (.int p4), .val (.int p5), .val (.ref b1), .val (.int (1 : Int32))] [(.int (1 : Int32))])) t → Steps p.tables e below (s₁.setTop (entryFrame m #[(.int p0), (.int p1), (.int p2), (.int p3), (.int p4), (.int p5)] maxLocals)) t := fun t k => pre52 t (by
                refine XS.icmpNo X48.here hx rfl (hb hby at_160) rfl (teq hc53).2 ?_
                show Steps p.tables e below (T48.setTop (mkF m 163 #[.val (.int p0), .val (.int p1), .val (.int p2), .val (.int p3), .val (.int p4), .val (.int p5), .val (.ref b1), .val (.int (1 : Int32))] [])) _
                refine XS.iconst X48.here hx rfl (hb hby at_163) ?_
                show Steps p.tables e below (T48.setTop (mkF m 164 #[.val (.int p0), .val (.int p1), .val (.int p2), .val (.int p3), .val (.int p4), .val (.int p5), .val (.ref b1), .val (.int (1 : Int32))] [(.int (1 : Int32))])) _
                refine XS.goto X48.here hx rfl (pc0 := 164) (pc' := 168) rfl (hb hby at_164) (by decide) (by decide) ?_
                show Steps p.tables e below (T48.setTop (mkF m 168 #[.val (.int p0), .val (.int p1), .val (.int p2), .val (.int p3), .val (.int p4), .val (.int p5), .val (.ref b1), .val (.int (1 : Int32))] [(.int (1 : Int32))])) _
                refine XS.istore X48.here hx rfl (hb hby at_168) rfl (l' := #[.val (.int p0), .val (.int p1), .val (.int p2), .val (.int p3), .val (.int p4), .val (.int p5), .val (.ref b1), .val (.int (1 : Int32))]) rfl ?_
                show Steps p.tables e below (T48.setTop (mkF m 170 #[.val (.int p0), .val (.int p1), .val (.int p2), .val (.int p3), .val (.int p4), .val (.int p5), .val (.ref b1), .val (.int (1 : Int32))] [])) _
                refine XS.iload X48.here hx rfl (hb hby at_170) rfl ?_
                show Steps p.tables e below (T48.setTop (mkF m 172 #[.val (.int p0), .val (.int p1), .val (.int p2), .val (.int p3), .val (.int p4), .val (.int p5), .val (.ref b1), .val (.int (1 : Int32))] [(.int (1 : Int32))])) _
                exact k)
            obtain ⟨fs, hr, hrun, hended, hW, hsame⟩ := X48.leave (v := some (.int (1 : Int32))) (fun h => by rw [Bd.returns] at h; cases h)
            refine ⟨_, _, pre54 _ ?_, hrun, hended, _, _, rfl, ?_, ⟨_, rfl⟩, hW, hsame.mono (by decide) (by decide)⟩
            · show Steps p.tables e below (T48.setTop (mkF m 172 #[.val (.int p0), .val (.int p1), .val (.int p2), .val (.int p3), .val (.int p4), .val (.int p5), .val (.ref b1), .val (.int (1 : Int32))] [(.int (1 : Int32))])) _
              exact retN X48 hx (t := .boolean) Bd.returns (by simp) (hb hby at_172) hr
            · show own_Q0 Z p0 p1 p2 p3 p4 p5 h0 n0 _ T48.heap _; exact ⟨(by show some (Value.int _) = some (.int (own_f0 p1 p2 p3 p4)); unfold own_f0; rw [if_pos hc37, if_pos hc41, if_pos hc45, if_pos hc51, if_pos hc53]), N49⟩
          · have pre55 : ∀ t, Steps p.tables e below (T48.setTop (mkF m 172 #[.val (.int p0), .val (.int p1), .val (.int p2), .val (.int p3), .val (.int p4), .val (.int p5), .val (.ref b1), .val (.int (0 : Int32))] [(.int (0 : Int32))])) t → Steps p.tables e below (s₁.setTop (entryFrame m #[(.int p0), (.int p1), (.int p2), (.int p3), (.int p4), (.int p5)] maxLocals)) t := fun t k => pre52 t (by
                refine XS.icmpYes X48.here hx rfl (pc0 := 160) (pc' := 167) rfl (hb hby at_160) rfl (feq hc53).2 (by decide) (by decide) ?_
                show Steps p.tables e below (T48.setTop (mkF m 167 #[.val (.int p0), .val (.int p1), .val (.int p2), .val (.int p3), .val (.int p4), .val (.int p5), .val (.ref b1), .val (.int (1 : Int32))] [])) _
                refine XS.iconst X48.here hx rfl (hb hby at_167) ?_
                show Steps p.tables e below (T48.setTop (mkF m 168 #[.val (.int p0), .val (.int p1), .val (.int p2), .val (.int p3), .val (.int p4), .val (.int p5), .val (.ref b1), .val (.int (1 : Int32))] [(.int (0 : Int32))])) _
                refine XS.istore X48.here hx rfl (hb hby at_168) rfl (l' := #[.val (.int p0), .val (.int p1), .val (.int p2), .val (.int p3), .val (.int p4), .val (.int p5), .val (.ref b1), .val (.int (0 : Int32))]) rfl ?_
                show Steps p.tables e below (T48.setTop (mkF m 170 #[.val (.int p0), .val (.int p1), .val (.int p2), .val (.int p3), .val (.int p4), .val (.int p5), .val (.ref b1), .val (.int (0 : Int32))] [])) _
                refine XS.iload X48.here hx rfl (hb hby at_170) rfl ?_
                show Steps p.tables e below (T48.setTop (mkF m 172 #[.val (.int p0), .val (.int p1), .val (.int p2), .val (.int p3), .val (.int p4), .val (.int p5), .val (.ref b1), .val (.int (0 : Int32))] [(.int (0 : Int32))])) _
                exact k)
            obtain ⟨fs, hr, hrun, hended, hW, hsame⟩ := X48.leave (v := some (.int (0 : Int32))) (fun h => by rw [Bd.returns] at h; cases h)
            refine ⟨_, _, pre55 _ ?_, hrun, hended, _, _, rfl, ?_, ⟨_, rfl⟩, hW, hsame.mono (by decide) (by decide)⟩
            · show Steps p.tables e below (T48.setTop (mkF m 172 #[.val (.int p0), .val (.int p1), .val (.int p2), .val (.int p3), .val (.int p4), .val (.int p5), .val (.ref b1), .val (.int (0 : Int32))] [(.int (0 : Int32))])) _
              exact retN X48 hx (t := .boolean) Bd.returns (by simp) (hb hby at_172) hr
            · show own_Q0 Z p0 p1 p2 p3 p4 p5 h0 n0 _ T48.heap _; exact ⟨(by show some (Value.int _) = some (.int (own_f0 p1 p2 p3 p4)); unfold own_f0; rw [if_pos hc37, if_pos hc41, if_pos hc45, if_pos hc51, if_neg hc53]), N49⟩
        · have pre56 : ∀ t, Steps p.tables e below (T48.setTop (mkF m 160 #[.val (.int p0), .val (.int p1), .val (.int p2), .val (.int p3), .val (.int p4), .val (.int p5), .val (.ref b1), .val (.int (1 : Int32))] [(.int (0 : Int32)), (.int (own_f7 p4 p3))])) t → Steps p.tables e below (s₁.setTop (entryFrame m #[(.int p0), (.int p1), (.int p2), (.int p3), (.int p4), (.int p5)] maxLocals)) t := fun t k => pre50 t (by
              refine XS.icmpYes X48.here hx rfl (pc0 := 152) (pc' := 159) rfl (hb hby at_152) rfl (flt hc51).2.2.2 (by decide) (by decide) ?_
              show Steps p.tables e below (T48.setTop (mkF m 159 #[.val (.int p0), .val (.int p1), .val (.int p2), .val (.int p3), .val (.int p4), .val (.int p5), .val (.ref b1), .val (.int (1 : Int32))] [(.int (own_f7 p4 p3))])) _
              refine XS.iconst X48.here hx rfl (hb hby at_159) ?_
              show Steps p.tables e below (T48.setTop (mkF m 160 #[.val (.int p0), .val (.int p1), .val (.int p2), .val (.int p3), .val (.int p4), .val (.int p5), .val (.ref b1), .val (.int (1 : Int32))] [(.int (0 : Int32)), (.int (own_f7 p4 p3))])) _
              exact k)
          by_cases hc57 : (own_f7 p4 p3) = (0 : Int32)
          · have pre58 : ∀ t, Steps p.tables e below (T48.setTop (mkF m 172 #[.val (.int p0), .val (.int p1), .val (.int p2), .val (.int p3), .val (.int p4), .val (.int p5), .val (.ref b1), .val (.int (1 : Int32))] [(.int (1 : Int32))])) t → Steps p.tables e below (s₁.setTop (entryFrame m #[(.int p0), (.int p1), (.int p2), (.int p3), (.int p4), (.int p5)] maxLocals)) t := fun t k => pre56 t (by
                refine XS.icmpNo X48.here hx rfl (hb hby at_160) rfl (teq hc57).2 ?_
                show Steps p.tables e below (T48.setTop (mkF m 163 #[.val (.int p0), .val (.int p1), .val (.int p2), .val (.int p3), .val (.int p4), .val (.int p5), .val (.ref b1), .val (.int (1 : Int32))] [])) _
                refine XS.iconst X48.here hx rfl (hb hby at_163) ?_
                show Steps p.tables e below (T48.setTop (mkF m 164 #[.val (.int p0), .val (.int p1), .val (.int p2), .val (.int p3), .val (.int p4), .val (.int p5), .val (.ref b1), .val (.int (1 : Int32))] [(.int (1 : Int32))])) _
                refine XS.goto X48.here hx rfl (pc0 := 164) (pc' := 168) rfl (hb hby at_164) (by decide) (by decide) ?_
                show Steps p.tables e below (T48.setTop (mkF m 168 #[.val (.int p0), .val (.int p1), .val (.int p2), .val (.int p3), .val (.int p4), .val (.int p5), .val (.ref b1), .val (.int (1 : Int32))] [(.int (1 : Int32))])) _
                refine XS.istore X48.here hx rfl (hb hby at_168) rfl (l' := #[.val (.int p0), .val (.int p1), .val (.int p2), .val (.int p3), .val (.int p4), .val (.int p5), .val (.ref b1), .val (.int (1 : Int32))]) rfl ?_
                show Steps p.tables e below (T48.setTop (mkF m 170 #[.val (.int p0), .val (.int p1), .val (.int p2), .val (.int p3), .val (.int p4), .val (.int p5), .val (.ref b1), .val (.int (1 : Int32))] [])) _
                refine XS.iload X48.here hx rfl (hb hby at_170) rfl ?_
                show Steps p.tables e below (T48.setTop (mkF m 172 #[.val (.int p0), .val (.int p1), .val (.int p2), .val (.int p3), .val (.int p4), .val (.int p5), .val (.ref b1), .val (.int (1 : Int32))] [(.int (1 : Int32))])) _
                exact k)
            obtain ⟨fs, hr, hrun, hended, hW, hsame⟩ := X48.leave (v := some (.int (1 : Int32))) (fun h => by rw [Bd.returns] at h; cases h)
            refine ⟨_, _, pre58 _ ?_, hrun, hended, _, _, rfl, ?_, ⟨_, rfl⟩, hW, hsame.mono (by decide) (by decide)⟩
            · show Steps p.tables e below (T48.setTop (mkF m 172 #[.val (.int p0), .val (.int p1), .val (.int p2), .val (.int p3), .val (.int p4), .val (.int p5), .val (.ref b1), .val (.int (1 : Int32))] [(.int (1 : Int32))])) _
              exact retN X48 hx (t := .boolean) Bd.returns (by simp) (hb hby at_172) hr
            · show own_Q0 Z p0 p1 p2 p3 p4 p5 h0 n0 _ T48.heap _; exact ⟨(by show some (Value.int _) = some (.int (own_f0 p1 p2 p3 p4)); unfold own_f0; rw [if_pos hc37, if_pos hc41, if_pos hc45, if_neg hc51, if_pos hc57]), N49⟩
          · have pre59 : ∀ t, Steps p.tables e below (T48.setTop (mkF m 172 #[.val (.int p0), .val (.int p1), .val (.int p2), .val (.int p3), .val (.int p4), .val (.int p5), .val (.ref b1), .val (.int (0 : Int32))] [(.int (0 : Int32))])) t → Steps p.tables e below (s₁.setTop (entryFrame m #[(.int p0), (.int p1), (.int p2), (.int p3), (.int p4), (.int p5)] maxLocals)) t := fun t k => pre56 t (by
                refine XS.icmpYes X48.here hx rfl (pc0 := 160) (pc' := 167) rfl (hb hby at_160) rfl (feq hc57).2 (by decide) (by decide) ?_
                show Steps p.tables e below (T48.setTop (mkF m 167 #[.val (.int p0), .val (.int p1), .val (.int p2), .val (.int p3), .val (.int p4), .val (.int p5), .val (.ref b1), .val (.int (1 : Int32))] [])) _
                refine XS.iconst X48.here hx rfl (hb hby at_167) ?_
                show Steps p.tables e below (T48.setTop (mkF m 168 #[.val (.int p0), .val (.int p1), .val (.int p2), .val (.int p3), .val (.int p4), .val (.int p5), .val (.ref b1), .val (.int (1 : Int32))] [(.int (0 : Int32))])) _
                refine XS.istore X48.here hx rfl (hb hby at_168) rfl (l' := #[.val (.int p0), .val (.int p1), .val (.int p2), .val (.int p3), .val (.int p4), .val (.int p5), .val (.ref b1), .val (.int (0 : Int32))]) rfl ?_
                show Steps p.tables e below (T48.setTop (mkF m 170 #[.val (.int p0), .val (.int p1), .val (.int p2), .val (.int p3), .val (.int p4), .val (.int p5), .val (.ref b1), .val (.int (0 : Int32))] [])) _
                refine XS.iload X48.here hx rfl (hb hby at_170) rfl ?_
                show Steps p.tables e below (T48.setTop (mkF m 172 #[.val (.int p0), .val (.int p1), .val (.int p2), .val (.int p3), .val (.int p4), .val (.int p5), .val (.ref b1), .val (.int (0 : Int32))] [(.int (0 : Int32))])) _
                exact k)
            obtain ⟨fs, hr, hrun, hended, hW, hsame⟩ := X48.leave (v := some (.int (0 : Int32))) (fun h => by rw [Bd.returns] at h; cases h)
            refine ⟨_, _, pre59 _ ?_, hrun, hended, _, _, rfl, ?_, ⟨_, rfl⟩, hW, hsame.mono (by decide) (by decide)⟩
            · show Steps p.tables e below (T48.setTop (mkF m 172 #[.val (.int p0), .val (.int p1), .val (.int p2), .val (.int p3), .val (.int p4), .val (.int p5), .val (.ref b1), .val (.int (0 : Int32))] [(.int (0 : Int32))])) _
              exact retN X48 hx (t := .boolean) Bd.returns (by simp) (hb hby at_172) hr
            · show own_Q0 Z p0 p1 p2 p3 p4 p5 h0 n0 _ T48.heap _; exact ⟨(by show some (Value.int _) = some (.int (own_f0 p1 p2 p3 p4)); unfold own_f0; rw [if_pos hc37, if_pos hc41, if_pos hc45, if_neg hc51, if_neg hc57]), N49⟩
      · have pre60 : ∀ t, Steps p.tables e below (T42.setTop (mkF m 172 #[.val (.int p0), .val (.int p1), .val (.int p2), .val (.int p3), .val (.int p4), .val (.int p5), .val (.ref b1), .val (.int (0 : Int32))] [(.int (0 : Int32))])) t → Steps p.tables e below (s₁.setTop (entryFrame m #[(.int p0), (.int p1), (.int p2), (.int p3), (.int p4), (.int p5)] maxLocals)) t := fun t k => pre44 t (by
            refine XS.icmpYes X42.here hx rfl (pc0 := 107) (pc' := 114) rfl (hb hby at_107) rfl (feq hc45).2 (by decide) (by decide) ?_
            show Steps p.tables e below (T42.setTop (mkF m 114 #[.val (.int p0), .val (.int p1), .val (.int p2), .val (.int p3), .val (.int p4), .val (.int p5), .val (.ref b1), .val (.int (1 : Int32))] [])) _
            refine XS.iconst X42.here hx rfl (hb hby at_114) ?_
            show Steps p.tables e below (T42.setTop (mkF m 115 #[.val (.int p0), .val (.int p1), .val (.int p2), .val (.int p3), .val (.int p4), .val (.int p5), .val (.ref b1), .val (.int (1 : Int32))] [(.int (0 : Int32))])) _
            refine XS.istore X42.here hx rfl (hb hby at_115) rfl (l' := #[.val (.int p0), .val (.int p1), .val (.int p2), .val (.int p3), .val (.int p4), .val (.int p5), .val (.ref b1), .val (.int (0 : Int32))]) rfl ?_
            show Steps p.tables e below (T42.setTop (mkF m 117 #[.val (.int p0), .val (.int p1), .val (.int p2), .val (.int p3), .val (.int p4), .val (.int p5), .val (.ref b1), .val (.int (0 : Int32))] [])) _
            refine XS.iload X42.here hx rfl (hb hby at_117) rfl ?_
            show Steps p.tables e below (T42.setTop (mkF m 119 #[.val (.int p0), .val (.int p1), .val (.int p2), .val (.int p3), .val (.int p4), .val (.int p5), .val (.ref b1), .val (.int (0 : Int32))] [(.int (0 : Int32))])) _
            refine XS.ifYes X42.here hx rfl (pc0 := 119) (pc' := 136) rfl (hb hby at_119) rfl ((if0 _ _).trans (teq (by decide : (0 : Int32) = (0 : Int32))).1) (by decide) (by decide) ?_
            show Steps p.tables e below (T42.setTop (mkF m 136 #[.val (.int p0), .val (.int p1), .val (.int p2), .val (.int p3), .val (.int p4), .val (.int p5), .val (.ref b1), .val (.int (0 : Int32))] [])) _
            refine XS.iconst X42.here hx rfl (hb hby at_136) ?_
            show Steps p.tables e below (T42.setTop (mkF m 137 #[.val (.int p0), .val (.int p1), .val (.int p2), .val (.int p3), .val (.int p4), .val (.int p5), .val (.ref b1), .val (.int (0 : Int32))] [(.int (0 : Int32))])) _
            refine XS.istore X42.here hx rfl (hb hby at_137) rfl (l' := #[.val (.int p0), .val (.int p1), .val (.int p2), .val (.int p3), .val (.int p4), .val (.int p5), .val (.ref b1), .val (.int (0 : Int32))]) rfl ?_
            show Steps p.tables e below (T42.setTop (mkF m 139 #[.val (.int p0), .val (.int p1), .val (.int p2), .val (.int p3), .val (.int p4), .val (.int p5), .val (.ref b1), .val (.int (0 : Int32))] [])) _
            refine XS.iload X42.here hx rfl (hb hby at_139) rfl ?_
            show Steps p.tables e below (T42.setTop (mkF m 141 #[.val (.int p0), .val (.int p1), .val (.int p2), .val (.int p3), .val (.int p4), .val (.int p5), .val (.ref b1), .val (.int (0 : Int32))] [(.int (0 : Int32))])) _
            refine XS.ifYes X42.here hx rfl (pc0 := 141) (pc' := 167) rfl (hb hby at_141) rfl ((if0 _ _).trans (teq (by decide : (0 : Int32) = (0 : Int32))).1) (by decide) (by decide) ?_
            show Steps p.tables e below (T42.setTop (mkF m 167 #[.val (.int p0), .val (.int p1), .val (.int p2), .val (.int p3), .val (.int p4), .val (.int p5), .val (.ref b1), .val (.int (0 : Int32))] [])) _
            refine XS.iconst X42.here hx rfl (hb hby at_167) ?_
            show Steps p.tables e below (T42.setTop (mkF m 168 #[.val (.int p0), .val (.int p1), .val (.int p2), .val (.int p3), .val (.int p4), .val (.int p5), .val (.ref b1), .val (.int (0 : Int32))] [(.int (0 : Int32))])) _
            refine XS.istore X42.here hx rfl (hb hby at_168) rfl (l' := #[.val (.int p0), .val (.int p1), .val (.int p2), .val (.int p3), .val (.int p4), .val (.int p5), .val (.ref b1), .val (.int (0 : Int32))]) rfl ?_
            show Steps p.tables e below (T42.setTop (mkF m 170 #[.val (.int p0), .val (.int p1), .val (.int p2), .val (.int p3), .val (.int p4), .val (.int p5), .val (.ref b1), .val (.int (0 : Int32))] [])) _
            refine XS.iload X42.here hx rfl (hb hby at_170) rfl ?_
            show Steps p.tables e below (T42.setTop (mkF m 172 #[.val (.int p0), .val (.int p1), .val (.int p2), .val (.int p3), .val (.int p4), .val (.int p5), .val (.ref b1), .val (.int (0 : Int32))] [(.int (0 : Int32))])) _
            exact k)
        obtain ⟨fs, hr, hrun, hended, hW, hsame⟩ := X42.leave (v := some (.int (0 : Int32))) (fun h => by rw [Bd.returns] at h; cases h)
        refine ⟨_, _, pre60 _ ?_, hrun, hended, _, _, rfl, ?_, ⟨_, rfl⟩, hW, hsame.mono (by decide) (by decide)⟩
        · show Steps p.tables e below (T42.setTop (mkF m 172 #[.val (.int p0), .val (.int p1), .val (.int p2), .val (.int p3), .val (.int p4), .val (.int p5), .val (.ref b1), .val (.int (0 : Int32))] [(.int (0 : Int32))])) _
          exact retN X42 hx (t := .boolean) Bd.returns (by simp) (hb hby at_172) hr
        · show own_Q0 Z p0 p1 p2 p3 p4 p5 h0 n0 _ T42.heap _; exact ⟨(by show some (Value.int _) = some (.int (own_f0 p1 p2 p3 p4)); unfold own_f0; rw [if_pos hc37, if_pos hc41, if_neg hc45]), N43⟩
    · have pre61 : ∀ t, Steps p.tables e below (T38.setTop (mkF m 172 #[.val (.int p0), .val (.int p1), .val (.int p2), .val (.int p3), .val (.int p4), .val (.int p5), .val (.ref b1), .val (.int (0 : Int32))] [(.int (0 : Int32))])) t → Steps p.tables e below (s₁.setTop (entryFrame m #[(.int p0), (.int p1), (.int p2), (.int p3), (.int p4), (.int p5)] maxLocals)) t := fun t k => pre40 t (by
          refine XS.icmpYes X38.here hx rfl (pc0 := 85) (pc' := 92) rfl (hb hby at_85) rfl (feq hc41).2 (by decide) (by decide) ?_
          show Steps p.tables e below (T38.setTop (mkF m 92 #[.val (.int p0), .val (.int p1), .val (.int p2), .val (.int p3), .val (.int p4), .val (.int p5), .val (.ref b1), .val (.int (1 : Int32))] [])) _
          refine XS.iconst X38.here hx rfl (hb hby at_92) ?_
          show Steps p.tables e below (T38.setTop (mkF m 93 #[.val (.int p0), .val (.int p1), .val (.int p2), .val (.int p3), .val (.int p4), .val (.int p5), .val (.ref b1), .val (.int (1 : Int32))] [(.int (0 : Int32))])) _
          refine XS.istore X38.here hx rfl (hb hby at_93) rfl (l' := #[.val (.int p0), .val (.int p1), .val (.int p2), .val (.int p3), .val (.int p4), .val (.int p5), .val (.ref b1), .val (.int (0 : Int32))]) rfl ?_
          show Steps p.tables e below (T38.setTop (mkF m 95 #[.val (.int p0), .val (.int p1), .val (.int p2), .val (.int p3), .val (.int p4), .val (.int p5), .val (.ref b1), .val (.int (0 : Int32))] [])) _
          refine XS.iload X38.here hx rfl (hb hby at_95) rfl ?_
          show Steps p.tables e below (T38.setTop (mkF m 97 #[.val (.int p0), .val (.int p1), .val (.int p2), .val (.int p3), .val (.int p4), .val (.int p5), .val (.ref b1), .val (.int (0 : Int32))] [(.int (0 : Int32))])) _
          refine XS.ifYes X38.here hx rfl (pc0 := 97) (pc' := 114) rfl (hb hby at_97) rfl ((if0 _ _).trans (teq (by decide : (0 : Int32) = (0 : Int32))).1) (by decide) (by decide) ?_
          show Steps p.tables e below (T38.setTop (mkF m 114 #[.val (.int p0), .val (.int p1), .val (.int p2), .val (.int p3), .val (.int p4), .val (.int p5), .val (.ref b1), .val (.int (0 : Int32))] [])) _
          refine XS.iconst X38.here hx rfl (hb hby at_114) ?_
          show Steps p.tables e below (T38.setTop (mkF m 115 #[.val (.int p0), .val (.int p1), .val (.int p2), .val (.int p3), .val (.int p4), .val (.int p5), .val (.ref b1), .val (.int (0 : Int32))] [(.int (0 : Int32))])) _
          refine XS.istore X38.here hx rfl (hb hby at_115) rfl (l' := #[.val (.int p0), .val (.int p1), .val (.int p2), .val (.int p3), .val (.int p4), .val (.int p5), .val (.ref b1), .val (.int (0 : Int32))]) rfl ?_
          show Steps p.tables e below (T38.setTop (mkF m 117 #[.val (.int p0), .val (.int p1), .val (.int p2), .val (.int p3), .val (.int p4), .val (.int p5), .val (.ref b1), .val (.int (0 : Int32))] [])) _
          refine XS.iload X38.here hx rfl (hb hby at_117) rfl ?_
          show Steps p.tables e below (T38.setTop (mkF m 119 #[.val (.int p0), .val (.int p1), .val (.int p2), .val (.int p3), .val (.int p4), .val (.int p5), .val (.ref b1), .val (.int (0 : Int32))] [(.int (0 : Int32))])) _
          refine XS.ifYes X38.here hx rfl (pc0 := 119) (pc' := 136) rfl (hb hby at_119) rfl ((if0 _ _).trans (teq (by decide : (0 : Int32) = (0 : Int32))).1) (by decide) (by decide) ?_
          show Steps p.tables e below (T38.setTop (mkF m 136 #[.val (.int p0), .val (.int p1), .val (.int p2), .val (.int p3), .val (.int p4), .val (.int p5), .val (.ref b1), .val (.int (0 : Int32))] [])) _
          refine XS.iconst X38.here hx rfl (hb hby at_136) ?_
          show Steps p.tables e below (T38.setTop (mkF m 137 #[.val (.int p0), .val (.int p1), .val (.int p2), .val (.int p3), .val (.int p4), .val (.int p5), .val (.ref b1), .val (.int (0 : Int32))] [(.int (0 : Int32))])) _
          refine XS.istore X38.here hx rfl (hb hby at_137) rfl (l' := #[.val (.int p0), .val (.int p1), .val (.int p2), .val (.int p3), .val (.int p4), .val (.int p5), .val (.ref b1), .val (.int (0 : Int32))]) rfl ?_
          show Steps p.tables e below (T38.setTop (mkF m 139 #[.val (.int p0), .val (.int p1), .val (.int p2), .val (.int p3), .val (.int p4), .val (.int p5), .val (.ref b1), .val (.int (0 : Int32))] [])) _
          refine XS.iload X38.here hx rfl (hb hby at_139) rfl ?_
          show Steps p.tables e below (T38.setTop (mkF m 141 #[.val (.int p0), .val (.int p1), .val (.int p2), .val (.int p3), .val (.int p4), .val (.int p5), .val (.ref b1), .val (.int (0 : Int32))] [(.int (0 : Int32))])) _
          refine XS.ifYes X38.here hx rfl (pc0 := 141) (pc' := 167) rfl (hb hby at_141) rfl ((if0 _ _).trans (teq (by decide : (0 : Int32) = (0 : Int32))).1) (by decide) (by decide) ?_
          show Steps p.tables e below (T38.setTop (mkF m 167 #[.val (.int p0), .val (.int p1), .val (.int p2), .val (.int p3), .val (.int p4), .val (.int p5), .val (.ref b1), .val (.int (0 : Int32))] [])) _
          refine XS.iconst X38.here hx rfl (hb hby at_167) ?_
          show Steps p.tables e below (T38.setTop (mkF m 168 #[.val (.int p0), .val (.int p1), .val (.int p2), .val (.int p3), .val (.int p4), .val (.int p5), .val (.ref b1), .val (.int (0 : Int32))] [(.int (0 : Int32))])) _
          refine XS.istore X38.here hx rfl (hb hby at_168) rfl (l' := #[.val (.int p0), .val (.int p1), .val (.int p2), .val (.int p3), .val (.int p4), .val (.int p5), .val (.ref b1), .val (.int (0 : Int32))]) rfl ?_
          show Steps p.tables e below (T38.setTop (mkF m 170 #[.val (.int p0), .val (.int p1), .val (.int p2), .val (.int p3), .val (.int p4), .val (.int p5), .val (.ref b1), .val (.int (0 : Int32))] [])) _
          refine XS.iload X38.here hx rfl (hb hby at_170) rfl ?_
          show Steps p.tables e below (T38.setTop (mkF m 172 #[.val (.int p0), .val (.int p1), .val (.int p2), .val (.int p3), .val (.int p4), .val (.int p5), .val (.ref b1), .val (.int (0 : Int32))] [(.int (0 : Int32))])) _
          exact k)
      obtain ⟨fs, hr, hrun, hended, hW, hsame⟩ := X38.leave (v := some (.int (0 : Int32))) (fun h => by rw [Bd.returns] at h; cases h)
      refine ⟨_, _, pre61 _ ?_, hrun, hended, _, _, rfl, ?_, ⟨_, rfl⟩, hW, hsame.mono (by decide) (by decide)⟩
      · show Steps p.tables e below (T38.setTop (mkF m 172 #[.val (.int p0), .val (.int p1), .val (.int p2), .val (.int p3), .val (.int p4), .val (.int p5), .val (.ref b1), .val (.int (0 : Int32))] [(.int (0 : Int32))])) _
        exact retN X38 hx (t := .boolean) Bd.returns (by simp) (hb hby at_172) hr
      · show own_Q0 Z p0 p1 p2 p3 p4 p5 h0 n0 _ T38.heap _; exact ⟨(by show some (Value.int _) = some (.int (own_f0 p1 p2 p3 p4)); unfold own_f0; rw [if_pos hc37, if_neg hc41]), N39⟩
  · have pre62 : ∀ t, Steps p.tables e below (T34.setTop (mkF m 172 #[.val (.int p0), .val (.int p1), .val (.int p2), .val (.int p3), .val (.int p4), .val (.int p5), .val (.ref b1), .val (.int (0 : Int32))] [(.int (0 : Int32))])) t → Steps p.tables e below (s₁.setTop (entryFrame m #[(.int p0), (.int p1), (.int p2), (.int p3), (.int p4), (.int p5)] maxLocals)) t := fun t k => pre36 t (by
        refine XS.icmpYes X34.here hx rfl (pc0 := 63) (pc' := 70) rfl (hb hby at_63) rfl (feq hc37).2 (by decide) (by decide) ?_
        show Steps p.tables e below (T34.setTop (mkF m 70 #[.val (.int p0), .val (.int p1), .val (.int p2), .val (.int p3), .val (.int p4), .val (.int p5), .val (.ref b1), .val (.int (1 : Int32))] [])) _
        refine XS.iconst X34.here hx rfl (hb hby at_70) ?_
        show Steps p.tables e below (T34.setTop (mkF m 71 #[.val (.int p0), .val (.int p1), .val (.int p2), .val (.int p3), .val (.int p4), .val (.int p5), .val (.ref b1), .val (.int (1 : Int32))] [(.int (0 : Int32))])) _
        refine XS.istore X34.here hx rfl (hb hby at_71) rfl (l' := #[.val (.int p0), .val (.int p1), .val (.int p2), .val (.int p3), .val (.int p4), .val (.int p5), .val (.ref b1), .val (.int (0 : Int32))]) rfl ?_
        show Steps p.tables e below (T34.setTop (mkF m 73 #[.val (.int p0), .val (.int p1), .val (.int p2), .val (.int p3), .val (.int p4), .val (.int p5), .val (.ref b1), .val (.int (0 : Int32))] [])) _
        refine XS.iload X34.here hx rfl (hb hby at_73) rfl ?_
        show Steps p.tables e below (T34.setTop (mkF m 75 #[.val (.int p0), .val (.int p1), .val (.int p2), .val (.int p3), .val (.int p4), .val (.int p5), .val (.ref b1), .val (.int (0 : Int32))] [(.int (0 : Int32))])) _
        refine XS.ifYes X34.here hx rfl (pc0 := 75) (pc' := 92) rfl (hb hby at_75) rfl ((if0 _ _).trans (teq (by decide : (0 : Int32) = (0 : Int32))).1) (by decide) (by decide) ?_
        show Steps p.tables e below (T34.setTop (mkF m 92 #[.val (.int p0), .val (.int p1), .val (.int p2), .val (.int p3), .val (.int p4), .val (.int p5), .val (.ref b1), .val (.int (0 : Int32))] [])) _
        refine XS.iconst X34.here hx rfl (hb hby at_92) ?_
        show Steps p.tables e below (T34.setTop (mkF m 93 #[.val (.int p0), .val (.int p1), .val (.int p2), .val (.int p3), .val (.int p4), .val (.int p5), .val (.ref b1), .val (.int (0 : Int32))] [(.int (0 : Int32))])) _
        refine XS.istore X34.here hx rfl (hb hby at_93) rfl (l' := #[.val (.int p0), .val (.int p1), .val (.int p2), .val (.int p3), .val (.int p4), .val (.int p5), .val (.ref b1), .val (.int (0 : Int32))]) rfl ?_
        show Steps p.tables e below (T34.setTop (mkF m 95 #[.val (.int p0), .val (.int p1), .val (.int p2), .val (.int p3), .val (.int p4), .val (.int p5), .val (.ref b1), .val (.int (0 : Int32))] [])) _
        refine XS.iload X34.here hx rfl (hb hby at_95) rfl ?_
        show Steps p.tables e below (T34.setTop (mkF m 97 #[.val (.int p0), .val (.int p1), .val (.int p2), .val (.int p3), .val (.int p4), .val (.int p5), .val (.ref b1), .val (.int (0 : Int32))] [(.int (0 : Int32))])) _
        refine XS.ifYes X34.here hx rfl (pc0 := 97) (pc' := 114) rfl (hb hby at_97) rfl ((if0 _ _).trans (teq (by decide : (0 : Int32) = (0 : Int32))).1) (by decide) (by decide) ?_
        show Steps p.tables e below (T34.setTop (mkF m 114 #[.val (.int p0), .val (.int p1), .val (.int p2), .val (.int p3), .val (.int p4), .val (.int p5), .val (.ref b1), .val (.int (0 : Int32))] [])) _
        refine XS.iconst X34.here hx rfl (hb hby at_114) ?_
        show Steps p.tables e below (T34.setTop (mkF m 115 #[.val (.int p0), .val (.int p1), .val (.int p2), .val (.int p3), .val (.int p4), .val (.int p5), .val (.ref b1), .val (.int (0 : Int32))] [(.int (0 : Int32))])) _
        refine XS.istore X34.here hx rfl (hb hby at_115) rfl (l' := #[.val (.int p0), .val (.int p1), .val (.int p2), .val (.int p3), .val (.int p4), .val (.int p5), .val (.ref b1), .val (.int (0 : Int32))]) rfl ?_
        show Steps p.tables e below (T34.setTop (mkF m 117 #[.val (.int p0), .val (.int p1), .val (.int p2), .val (.int p3), .val (.int p4), .val (.int p5), .val (.ref b1), .val (.int (0 : Int32))] [])) _
        refine XS.iload X34.here hx rfl (hb hby at_117) rfl ?_
        show Steps p.tables e below (T34.setTop (mkF m 119 #[.val (.int p0), .val (.int p1), .val (.int p2), .val (.int p3), .val (.int p4), .val (.int p5), .val (.ref b1), .val (.int (0 : Int32))] [(.int (0 : Int32))])) _
        refine XS.ifYes X34.here hx rfl (pc0 := 119) (pc' := 136) rfl (hb hby at_119) rfl ((if0 _ _).trans (teq (by decide : (0 : Int32) = (0 : Int32))).1) (by decide) (by decide) ?_
        show Steps p.tables e below (T34.setTop (mkF m 136 #[.val (.int p0), .val (.int p1), .val (.int p2), .val (.int p3), .val (.int p4), .val (.int p5), .val (.ref b1), .val (.int (0 : Int32))] [])) _
        refine XS.iconst X34.here hx rfl (hb hby at_136) ?_
        show Steps p.tables e below (T34.setTop (mkF m 137 #[.val (.int p0), .val (.int p1), .val (.int p2), .val (.int p3), .val (.int p4), .val (.int p5), .val (.ref b1), .val (.int (0 : Int32))] [(.int (0 : Int32))])) _
        refine XS.istore X34.here hx rfl (hb hby at_137) rfl (l' := #[.val (.int p0), .val (.int p1), .val (.int p2), .val (.int p3), .val (.int p4), .val (.int p5), .val (.ref b1), .val (.int (0 : Int32))]) rfl ?_
        show Steps p.tables e below (T34.setTop (mkF m 139 #[.val (.int p0), .val (.int p1), .val (.int p2), .val (.int p3), .val (.int p4), .val (.int p5), .val (.ref b1), .val (.int (0 : Int32))] [])) _
        refine XS.iload X34.here hx rfl (hb hby at_139) rfl ?_
        show Steps p.tables e below (T34.setTop (mkF m 141 #[.val (.int p0), .val (.int p1), .val (.int p2), .val (.int p3), .val (.int p4), .val (.int p5), .val (.ref b1), .val (.int (0 : Int32))] [(.int (0 : Int32))])) _
        refine XS.ifYes X34.here hx rfl (pc0 := 141) (pc' := 167) rfl (hb hby at_141) rfl ((if0 _ _).trans (teq (by decide : (0 : Int32) = (0 : Int32))).1) (by decide) (by decide) ?_
        show Steps p.tables e below (T34.setTop (mkF m 167 #[.val (.int p0), .val (.int p1), .val (.int p2), .val (.int p3), .val (.int p4), .val (.int p5), .val (.ref b1), .val (.int (0 : Int32))] [])) _
        refine XS.iconst X34.here hx rfl (hb hby at_167) ?_
        show Steps p.tables e below (T34.setTop (mkF m 168 #[.val (.int p0), .val (.int p1), .val (.int p2), .val (.int p3), .val (.int p4), .val (.int p5), .val (.ref b1), .val (.int (0 : Int32))] [(.int (0 : Int32))])) _
        refine XS.istore X34.here hx rfl (hb hby at_168) rfl (l' := #[.val (.int p0), .val (.int p1), .val (.int p2), .val (.int p3), .val (.int p4), .val (.int p5), .val (.ref b1), .val (.int (0 : Int32))]) rfl ?_
        show Steps p.tables e below (T34.setTop (mkF m 170 #[.val (.int p0), .val (.int p1), .val (.int p2), .val (.int p3), .val (.int p4), .val (.int p5), .val (.ref b1), .val (.int (0 : Int32))] [])) _
        refine XS.iload X34.here hx rfl (hb hby at_170) rfl ?_
        show Steps p.tables e below (T34.setTop (mkF m 172 #[.val (.int p0), .val (.int p1), .val (.int p2), .val (.int p3), .val (.int p4), .val (.int p5), .val (.ref b1), .val (.int (0 : Int32))] [(.int (0 : Int32))])) _
        exact k)
    obtain ⟨fs, hr, hrun, hended, hW, hsame⟩ := X34.leave (v := some (.int (0 : Int32))) (fun h => by rw [Bd.returns] at h; cases h)
    refine ⟨_, _, pre62 _ ?_, hrun, hended, _, _, rfl, ?_, ⟨_, rfl⟩, hW, hsame.mono (by decide) (by decide)⟩
    · show Steps p.tables e below (T34.setTop (mkF m 172 #[.val (.int p0), .val (.int p1), .val (.int p2), .val (.int p3), .val (.int p4), .val (.int p5), .val (.ref b1), .val (.int (0 : Int32))] [(.int (0 : Int32))])) _
      exact retN X34 hx (t := .boolean) Bd.returns (by simp) (hb hby at_172) hr
    · show own_Q0 Z p0 p1 p2 p3 p4 p5 h0 n0 _ T34.heap _; exact ⟨(by show some (Value.int _) = some (.int (own_f0 p1 p2 p3 p4)); unfold own_f0; rw [if_neg hc37]), N35⟩
theorem own_plain (p1 p2 p3 p4 : Int32) : own_f0 p1 p2 p3 p4 = 1 := by
  have e0 : own_f5 (0 : Int32) p1 p2 p3 = p1 := by unfold own_f5; rw [if_pos rfl]
  have e1 : own_f5 (1 : Int32) p1 p2 p3 = p2 := by unfold own_f5; rw [if_neg (by decide), if_pos rfl]
  have e2 : own_f5 (2 : Int32) p1 p2 p3 = p3 := by unfold own_f5; rw [if_neg (by decide), if_neg (by decide), if_pos rfl]
  unfold own_f0 own_f7
  rw [if_pos e0, if_pos e1, if_pos e2]
  by_cases h : p3 < p4
  · simp only [if_pos h]; rfl
  · simp only [if_neg h]; rfl
set_option maxRecDepth 65536 in
set_option maxHeartbeats 40000000 in
theorem comes_1 {Post : Tables → Env → Array Value → State → Outcome → State → Prop} (hpost : ∀ tb e args s v u, (limb_1_1.after args s (.returned v) u = true ∧ limb_1_2.after args s (.returned v) u = true ∧ True) → FrameEnd s (.returned v) u (Jvm.fieldLocs frame_1_writes args s ++ Jvm.arrayLocs frame_1_arrays args s ++ Jvm.staticLocs frame_1_statics s) 16 128 → Post tb e args s (.returned v) u) :
    ArmFor flags0 classFile x code maxLocals ret World_1 tables_1 room_1 Calls_1 rest_1 Pre_1 Post := by
  intro l hfl _ _ p e ha hc hk s m args below hf hA hF happ hP
  obtain ⟨hcalls, hrest, hpre⟩ := hP
  obtain ⟨-, -, -, hnamed, -, -, -, hat⟩ := (Spec.applies_iff hf).mp happ
  obtain ⟨hg, hn⟩ := and_e (Cond.before_iff.mp (show (Jvm.Cond.and given_1 narrow_1).before args s = true from hpre))
  obtain ⟨gc, gr0⟩ := and_e hg
  obtain ⟨ga0, gr1⟩ := and_e gr0
  obtain ⟨ga1, gr2⟩ := and_e gr1
  obtain ⟨ga2, gr3⟩ := and_e gr2
  obtain ⟨ga3, gr4⟩ := and_e gr3
  obtain ⟨ga4, gr5⟩ := and_e gr4
  have ga5 := gr5
  obtain ⟨w0, w1, w2, w3, w4, w5, rfl⟩ : ∃ w0 w1 w2 w3 w4 w5 : Value, args = #[w0, w1, w2, w3, w4, w5] := by
    have hs : args.size = 6 := by simpa [Cond.value, given_1] using gc
    obtain ⟨L⟩ := args
    match L, hs with
    | [w0, w1, w2, w3, w4, w5], _ => exact ⟨w0, w1, w2, w3, w4, w5, rfl⟩
  have hw := fun d (hd : d ∈ tables_1) => atoms_spec (ws := Jvm.Cond.code x code maxLocals ret :: tables_1) hat d (List.mem_cons_of_mem _ hd)
  obtain ⟨i0, ei0⟩ := is_v ga0
  obtain rfl : w0 = (.int i0) := Option.some.inj ei0
  obtain ⟨i1, ei1⟩ := is_v ga1
  obtain rfl : w1 = (.int i1) := Option.some.inj ei1
  obtain ⟨i2, ei2⟩ := is_v ga2
  obtain rfl : w2 = (.int i2) := Option.some.inj ei2
  obtain ⟨i3, ei3⟩ := is_v ga3
  obtain rfl : w3 = (.int i3) := Option.some.inj ei3
  obtain ⟨i4, ei4⟩ := is_v ga4
  obtain rfl : w4 = (.int i4) := Option.some.inj ei4
  obtain ⟨i5, ei5⟩ := is_v ga5
  obtain rfl : w5 = (.int i5) := Option.some.inj ei5
  obtain ⟨n, o, h1, h2, h3, _, L, rfl, ⟨hv, N⟩, hq⟩ := own_rm0 l s _ hw tables_1 i0 i1 i2 i3 i4 i5 s.heap s.heap.size (Nat.le_refl _) p e ha hc hk s m _ below hf ((Spec.applies_iff_loose hf).mp happ).1 ⟨rfl, State.Warmed39.refl s, rfl⟩ trivial
  rw [show (own_f0 i1 i2 i3 i4) = (1 : Int32) from own_plain i1 i2 i3 i4] at hv
  subst hv
  refine ⟨n, _, h1, h2, h3, hpost _ _ _ _ _ _ ⟨Cond.after_iff.mpr rfl, Cond.after_iff.mpr (eq_i res_at (Term.int_eval (1)) rfl), trivial⟩ ⟨hq.1, hq.2.1, (hq.2.2.sift fun y hy => Or.inr (N y hy)).mono (by decide) (by decide)⟩⟩
theorem main_1_1 : Claimed_1_1 := comes_1 fun _ _ _ _ _ _ h hF => ⟨h.1, hF⟩
theorem main_1_2 : Claimed_1_2 := comes_1 fun _ _ _ _ _ _ h hF => ⟨h.2.1, hF⟩
end Jvm.Pilot.@@N@@
namespace Jvm.Pilot.@@N@@
open Jvm Jvm.ClassFile Sem Op Lib Jvm.Free Jvm.Stand Jvm.Pilot.@@N@@.Jvm.D
/-! MADE BY PROGRAM (witnessworld.py) out of the Statement's table words and the real class files: 9 classes; the members and pool entries that the words name. The judged class is class 1, her method 1. -/
namespace start1
open Jvm.ClassFile
def u (s : String) : CpInfo := .utf8 (stringToUtf16 s)
/-- a pool by its gaps: so many unusable entries, then the entry; so many at the end -/
def gap : Nat → List CpInfo → List CpInfo
  | 0, r => r
  | n + 1, r => .unusable :: gap n r
def poolList (es : List (Nat × CpInfo)) (last : Nat) : List CpInfo := es.foldr (fun e r => gap e.1 (e.2 :: r)) (gap last [])
def pool (es : List (Nat × CpInfo)) (last : Nat) : Array CpInfo := ⟨poolList es last⟩
def fileOf (pool : Array CpInfo) (this : Nat) (attrs : Array Attribute := #[]) (ms : Array MethodInfo := #[]) (fl : Nat := 33) (sup : Nat := 0) (ifs : Array Nat := #[]) (fds : Array FieldInfo := #[]) : ClassFile where
  minorVersion := 0
  majorVersion := 65
  constantPool := pool
  accessFlags := fl
  thisClass := this
  superClass := sup
  interfaces := ifs
  fields := fds
  methods := ms
  attributes := attrs
def plain (name : String) (sup : Option ClassId) : Class where
  name := name
  kind := .ordinary
  loader := none
  accessFlags := 33
  super := sup
  interfaces := #[]
  cf := none
  fields := #[]
  methods := #[]
  instanceTypes := #[]
  staticTypes := #[]
  resolved := #[]
  callSites := []
  init := .initialized
  statics := none
  mirror := none

def pool0 : Array CpInfo := pool [(5, u "<init>"), (0, u "()V"), (1, .class_ 10), (1, u "java/lang/Object")] 113

def k0c0 : Code := { maxStack := 0, maxLocals := 1, code := object_method_1_code, exceptionTable := #[], attributes := #[] }
def k0m0 : Method := { name := "<init>", desc := "()V", sig := { parameters := [], returnType := none }, accessFlags := 1, code := some k0c0 }
/-- java/lang/Object -/
def k0 : Class := { plain "java/lang/Object" none with
  accessFlags := 33
  interfaces := #[]
  cf := some (fileOf pool0 8 #[] #[{ accessFlags := 1, nameIndex := 5, descriptorIndex := 6, attributes := #[] }] 33 0 #[] #[])
  fields := #[]
  methods := #[k0m0]
  instanceTypes := #[]
  staticTypes := #[]
  resolved := Array.replicate 124 none
  statics := none }

def pool1 : Array CpInfo := pool [(2, .class_ 4), (0, .nameAndType 5 6), (0, u "java/lang/Object"), (0, u "<init>"), (0, u "()V"), (0, .class_ 8), (0, u "com/example/meaning_into_numbers/meaningintonumbers/VersionParts"), (0, .methodref 7 3), (0, .methodref 7 11), (0, .nameAndType 12 13), (0, u "set"), (0, u "(IIIII)V"), (0, .methodref 7 15), (0, .nameAndType 16 17), (0, u "start"), (0, u "()I"), (0, .methodref 7 19), (0, .nameAndType 20 21), (0, u "numberEnd"), (0, u "(I)I"), (0, .methodref 7 23), (0, .nameAndType 24 17), (0, u "preReleaseEnd"), (0, .methodref 7 26), (0, .nameAndType 27 28), (0, u "isPreRelease"), (0, u "()Z"), (0, .class_ 30), (0, u "com/example/meaning_into_numbers/meaningintonumbers/VersionPartsSetPinLaw"), (2, u "law"), (0, u "(IIIIII)Z")] 3

def k1m0 : Method := { name := "<init>", desc := "()V", sig := { parameters := [], returnType := none }, accessFlags := 1, code := none }
def k1c1 : Code := { maxStack := 6, maxLocals := 8, code := code, exceptionTable := #[], attributes := #[] }
def k1m1 : Method := { name := "law", desc := "(IIIIII)Z", sig := { parameters := [.int, .int, .int, .int, .int, .int], returnType := some .boolean }, accessFlags := 9, code := some k1c1 }
/-- com/example/meaning_into_numbers/meaningintonumbers/VersionPartsSetPinLaw -/
def k1 : Class := { plain "com/example/meaning_into_numbers/meaningintonumbers/VersionPartsSetPinLaw" (some 0) with
  accessFlags := 49
  interfaces := #[]
  cf := some (fileOf pool1 29 #[] #[{ accessFlags := 1, nameIndex := 5, descriptorIndex := 6, attributes := #[] }, { accessFlags := 9, nameIndex := 33, descriptorIndex := 34, attributes := #[] }] 49 2 #[] #[])
  fields := #[]
  methods := #[k1m0, k1m1]
  instanceTypes := #[]
  staticTypes := #[]
  resolved := Array.replicate 38 none
  statics := none }

def pool2 : Array CpInfo := pool [(1, .methodref 2 3), (0, .class_ 4), (0, .nameAndType 5 6), (0, u "java/lang/Object"), (0, u "<init>"), (0, u "()V"), (1, .class_ 10), (1, u "com/example/meaning_into_numbers/meaningintonumbers/VersionParts"), (0, u "set"), (0, u "(IIIII)V"), (0, .fieldref 8 14), (0, .nameAndType 15 16), (0, u "start"), (0, u "I"), (0, .fieldref 8 18), (0, .nameAndType 19 16), (0, u "majorEnd"), (0, .fieldref 8 21), (0, .nameAndType 22 16), (0, u "minorEnd"), (0, .fieldref 8 24), (0, .nameAndType 25 16), (0, u "patchEnd"), (0, .fieldref 8 27), (0, .nameAndType 28 16), (0, u "preReleaseEnd"), (2, u "numberEnd"), (0, u "(I)I"), (7, u "()I"), (3, u "isPreRelease"), (0, u "()Z")] 2

def k2c0 : Code := { maxStack := 1, maxLocals := 1, code := prog_27_method_1_code, exceptionTable := #[], attributes := #[] }
def k2m0 : Method := { name := "<init>", desc := "()V", sig := { parameters := [], returnType := none }, accessFlags := 0, code := some k2c0 }
def k2c1 : Code := { maxStack := 2, maxLocals := 6, code := prog_27_method_3_code, exceptionTable := #[], attributes := #[] }
def k2m1 : Method := { name := "set", desc := "(IIIII)V", sig := { parameters := [.int, .int, .int, .int, .int], returnType := none }, accessFlags := 0, code := some k2c1 }
def k2c2 : Code := { maxStack := 1, maxLocals := 1, code := prog_27_method_4_code, exceptionTable := #[], attributes := #[] }
def k2m2 : Method := { name := "start", desc := "()I", sig := { parameters := [], returnType := some .int }, accessFlags := 0, code := some k2c2 }
def k2c3 : Code := { maxStack := 3, maxLocals := 2, code := prog_27_method_6_code, exceptionTable := #[], attributes := #[] }
def k2m3 : Method := { name := "numberEnd", desc := "(I)I", sig := { parameters := [.int], returnType := some .int }, accessFlags := 0, code := some k2c3 }
def k2c4 : Code := { maxStack := 1, maxLocals := 1, code := prog_27_method_8_code, exceptionTable := #[], attributes := #[] }
def k2m4 : Method := { name := "preReleaseEnd", desc := "()I", sig := { parameters := [], returnType := some .int }, accessFlags := 0, code := some k2c4 }
def k2c5 : Code := { maxStack := 2, maxLocals := 1, code := prog_27_method_9_code, exceptionTable := #[], attributes := #[] }
def k2m5 : Method := { name := "isPreRelease", desc := "()Z", sig := { parameters := [], returnType := some .boolean }, accessFlags := 0, code := some k2c5 }
/-- com/example/meaning_into_numbers/meaningintonumbers/VersionParts -/
def k2 : Class := { plain "com/example/meaning_into_numbers/meaningintonumbers/VersionParts" (some 0) with
  accessFlags := 32
  interfaces := #[]
  cf := some (fileOf pool2 8 #[] #[{ accessFlags := 0, nameIndex := 5, descriptorIndex := 6, attributes := #[] }, { accessFlags := 0, nameIndex := 11, descriptorIndex := 12, attributes := #[] }, { accessFlags := 0, nameIndex := 15, descriptorIndex := 40, attributes := #[] }, { accessFlags := 0, nameIndex := 31, descriptorIndex := 32, attributes := #[] }, { accessFlags := 0, nameIndex := 28, descriptorIndex := 40, attributes := #[] }, { accessFlags := 0, nameIndex := 44, descriptorIndex := 45, attributes := #[] }] 32 2 #[] #[{ accessFlags := 2, nameIndex := 15, descriptorIndex := 16, attributes := #[] }, { accessFlags := 2, nameIndex := 19, descriptorIndex := 16, attributes := #[] }, { accessFlags := 2, nameIndex := 22, descriptorIndex := 16, attributes := #[] }, { accessFlags := 2, nameIndex := 25, descriptorIndex := 16, attributes := #[] }, { accessFlags := 2, nameIndex := 28, descriptorIndex := 16, attributes := #[] }])
  fields := #[{ name := "start", type := .int, accessFlags := 2, slot := 0, constantValue := 0 }, { name := "majorEnd", type := .int, accessFlags := 2, slot := 1, constantValue := 0 }, { name := "minorEnd", type := .int, accessFlags := 2, slot := 2, constantValue := 0 }, { name := "patchEnd", type := .int, accessFlags := 2, slot := 3, constantValue := 0 }, { name := "preReleaseEnd", type := .int, accessFlags := 2, slot := 4, constantValue := 0 }]
  methods := #[k2m0, k2m1, k2m2, k2m3, k2m4, k2m5]
  instanceTypes := #[.int, .int, .int, .int, .int]
  staticTypes := #[]
  resolved := Array.replicate 48 none
  statics := none }

def pool3 : Array CpInfo := pool [(1, u "java/lang/Cloneable"), (0, .class_ 1), (0, u "java/lang/Object"), (0, .class_ 3)] 3

/-- java/lang/Cloneable -/
def k3 : Class := { plain "java/lang/Cloneable" (some 0) with
  accessFlags := 1537
  interfaces := #[]
  cf := some (fileOf pool3 2 #[] #[] 1537 4 #[] #[])
  fields := #[]
  methods := #[]
  instanceTypes := #[]
  staticTypes := #[]
  resolved := Array.replicate 8 none
  statics := none }

def pool4 : Array CpInfo := pool [(1, u "java/io/Serializable"), (0, .class_ 1), (0, u "java/lang/Object"), (0, .class_ 3)] 3

/-- java/io/Serializable -/
def k4 : Class := { plain "java/io/Serializable" (some 0) with
  accessFlags := 1537
  interfaces := #[]
  cf := some (fileOf pool4 2 #[] #[] 1537 4 #[] #[])
  fields := #[]
  methods := #[]
  instanceTypes := #[]
  staticTypes := #[]
  resolved := Array.replicate 8 none
  statics := none }

/-- the primitive byte -/
def k5 : Class := { plain "byte" none with kind := .primitive 'B', accessFlags := 0x411 }
/-- [B -/
def k6 : Class := { plain "[B" (some 0) with kind := .array 5 .byte, interfaces := #[3, 4], accessFlags := 1041 }

/-- the primitive int -/
def k7 : Class := { plain "int" none with kind := .primitive 'I', accessFlags := 0x411 }
/-- [I -/
def k8 : Class := { plain "[I" (some 0) with kind := .array 7 .int, interfaces := #[3, 4], accessFlags := 1041 }

def heap : Heap := #[]
def classes : Array Class := #[k0, k1, k2, k3, k4, k5, k6, k7, k8]
def interned : List (Array UInt16 × Addr) := []
def slotsUsed : Nat := 0
def theMethod : MethodId := ⟨1, 1⟩
def args0 : Array Value := #[.int 1, .int 2, .int 3, .int 4, .int 5, .int 6]
def aboutOver (below : List Frame) : State where
  vm := { classes := classes, interned := interned.toArray }
  heap := heap
  slotsUsed := slotsUsed
  threads := #[{ frames := .invoking theMethod args0 :: below }]
def below0 : List Frame := [.native { method := ⟨0, 0⟩, args := #[] }]
def about1 : State := aboutOver below0
def p0 : Program := .bare "" "" ""
def e0 : Env := launch0.env 0 0 0
theorem w_frames : about1.frames = Frame.invoking theMethod args0 :: below0 := rfl
set_option maxRecDepth 65536 in
theorem w_args : argsFit about1.vm theMethod args0 = true := by decide +kernel
set_option maxRecDepth 65536 in
theorem w_heap : heapFits about1 = true := by decide +kernel
set_option maxRecDepth 65536 in
theorem w_runnable : about1.curStatus? = some .runnable := by decide +kernel
set_option maxRecDepth 65536 in
theorem w_alone : about1.alone = true := by decide +kernel
set_option maxRecDepth 65536 in
theorem w_named : about1.methodNamed? x = some theMethod := by decide +kernel
set_option maxRecDepth 65536 in
theorem w_hears : about1.hears theMethod below0 = true := by decide +kernel
set_option maxRecDepth 65536 in
theorem w_ripe : about1.ripe theMethod args0 below0 = true := by decide +kernel
theorem w_running : about1.status = .running := rfl
set_option maxRecDepth 65536 in
theorem w_room : about1.hasRoom e0.platform room_1 = true :=
  launch0.hasRoom_least _ room_1 (by decide +kernel) (by decide +kernel) (by decide +kernel) (by decide +kernel) (by decide +kernel) (by decide +kernel)
theorem allAtoms_all (ts : List Jvm.Cond) (a : Array Jvm.Value) (st : Jvm.State) : (allAtoms ts).before a st = ts.all (fun c => c.before a st) := by
  induction ts with
  | nil => rfl
  | cons c t ih =>
    show (Jvm.Cond.and c (allAtoms t)).before a st = _
    rw [Jvm.Cond.before_and, ih, List.all_cons]
def words1 : List Jvm.Cond := Jvm.Cond.code x code maxLocals ret :: tables_1
/-- a 'code' word, met by the world's own term for the bytes: nothing is compared byte by byte -/
theorem code_word {y : MethodName} {bytes : ByteArray} {mx : Nat} {rt : Option FieldType} {a : Array Value} {s : State} {m : MethodId} {meth : Method} {c : Code} (h1 : s.methodNamed? y = some m) (h2 : s.vm.method? m = some meth) (h3 : meth.code = some c) (h4 : c.code = bytes)
    (h5 : (c.maxLocals == mx && c.exceptionTable.isEmpty && decide (c.maxStack ≤ mostOperands) && decide (meth.sig.returnType = rt) && !meth.locks && decide (parseMethodDescriptor y.desc = some meth.sig)) = true) : (Jvm.Cond.code y bytes mx rt).before a s = true := by
  simp only [Bool.and_eq_true, beq_iff_eq, Bool.not_eq_true', decide_eq_true_eq] at h5
  obtain ⟨⟨⟨⟨⟨g1, g2⟩, g3⟩, g4⟩, g5⟩, g6⟩ := h5
  simp [Cond.before, Cond.holds, Cond.value, h1, h2, h3, h4, g1, g2, g3, g4, g5, g6]
def isCode : Jvm.Cond → Bool
  | .code _ _ _ _ => true
  | _ => false
theorem all_split {L : List Jvm.Cond} {P : Jvm.Cond → Bool} (h1 : L.all (fun c => isCode c || P c) = true) (h2 : ∀ c ∈ L.filter isCode, P c = true) : L.all P = true := by
  refine List.all_eq_true.mpr fun c hc => ?_
  have h := List.all_eq_true.mp h1 c hc
  rcases Bool.eq_false_or_eq_true (isCode c) with hi | hi
  · exact h2 c (List.mem_filter.mpr ⟨hc, hi⟩)
  · simpa [hi] using h
set_option maxRecDepth 65536 in
theorem w_c0 : (Jvm.Cond.code x code maxLocals ret).before args0 about1 = true := code_word (m := ⟨1, 1⟩) (meth := k1m1) (c := k1c1) (by decide +kernel) rfl rfl rfl (by decide +kernel)
set_option maxRecDepth 65536 in
theorem w_c1 : (Jvm.Cond.code ({ cls := "com/example/meaning_into_numbers/meaningintonumbers/VersionParts", name := "<init>", desc := "()V" } : Jvm.MethodName) prog_27_method_1_code (1 : Nat) (Option.none : Option Jvm.ClassFile.FieldType)).before args0 about1 = true := code_word (m := ⟨2, 0⟩) (meth := k2m0) (c := k2c0) (by decide +kernel) rfl rfl rfl (by decide +kernel)
set_option maxRecDepth 65536 in
theorem w_c2 : (Jvm.Cond.code ({ cls := "java/lang/Object", name := "<init>", desc := "()V" } : Jvm.MethodName) object_method_1_code (1 : Nat) (Option.none : Option Jvm.ClassFile.FieldType)).before args0 about1 = true := code_word (m := ⟨0, 0⟩) (meth := k0m0) (c := k0c0) (by decide +kernel) rfl rfl rfl (by decide +kernel)
set_option maxRecDepth 65536 in
theorem w_c3 : (Jvm.Cond.code ({ cls := "com/example/meaning_into_numbers/meaningintonumbers/VersionParts", name := "set", desc := "(IIIII)V" } : Jvm.MethodName) prog_27_method_3_code (6 : Nat) (Option.none : Option Jvm.ClassFile.FieldType)).before args0 about1 = true := code_word (m := ⟨2, 1⟩) (meth := k2m1) (c := k2c1) (by decide +kernel) rfl rfl rfl (by decide +kernel)
set_option maxRecDepth 65536 in
theorem w_c4 : (Jvm.Cond.code ({ cls := "com/example/meaning_into_numbers/meaningintonumbers/VersionParts", name := "start", desc := "()I" } : Jvm.MethodName) prog_27_method_4_code (1 : Nat) (Option.some Jvm.ClassFile.FieldType.int)).before args0 about1 = true := code_word (m := ⟨2, 2⟩) (meth := k2m2) (c := k2c2) (by decide +kernel) rfl rfl rfl (by decide +kernel)
set_option maxRecDepth 65536 in
theorem w_c5 : (Jvm.Cond.code ({ cls := "com/example/meaning_into_numbers/meaningintonumbers/VersionParts", name := "numberEnd", desc := "(I)I" } : Jvm.MethodName) prog_27_method_6_code (2 : Nat) (Option.some Jvm.ClassFile.FieldType.int)).before args0 about1 = true := code_word (m := ⟨2, 3⟩) (meth := k2m3) (c := k2c3) (by decide +kernel) rfl rfl rfl (by decide +kernel)
set_option maxRecDepth 65536 in
theorem w_c6 : (Jvm.Cond.code ({ cls := "com/example/meaning_into_numbers/meaningintonumbers/VersionParts", name := "preReleaseEnd", desc := "()I" } : Jvm.MethodName) prog_27_method_8_code (1 : Nat) (Option.some Jvm.ClassFile.FieldType.int)).before args0 about1 = true := code_word (m := ⟨2, 4⟩) (meth := k2m4) (c := k2c4) (by decide +kernel) rfl rfl rfl (by decide +kernel)
set_option maxRecDepth 65536 in
theorem w_c7 : (Jvm.Cond.code ({ cls := "com/example/meaning_into_numbers/meaningintonumbers/VersionParts", name := "isPreRelease", desc := "()Z" } : Jvm.MethodName) prog_27_method_9_code (1 : Nat) (Option.some Jvm.ClassFile.FieldType.boolean)).before args0 about1 = true := code_word (m := ⟨2, 5⟩) (meth := k2m5) (c := k2c5) (by decide +kernel) rfl rfl rfl (by decide +kernel)
def codes1 : List Jvm.Cond := [Jvm.Cond.code x code maxLocals ret, Jvm.Cond.code ({ cls := "com/example/meaning_into_numbers/meaningintonumbers/VersionParts", name := "<init>", desc := "()V" } : Jvm.MethodName) prog_27_method_1_code (1 : Nat) (Option.none : Option Jvm.ClassFile.FieldType), Jvm.Cond.code ({ cls := "java/lang/Object", name := "<init>", desc := "()V" } : Jvm.MethodName) object_method_1_code (1 : Nat) (Option.none : Option Jvm.ClassFile.FieldType), Jvm.Cond.code ({ cls := "com/example/meaning_into_numbers/meaningintonumbers/VersionParts", name := "set", desc := "(IIIII)V" } : Jvm.MethodName) prog_27_method_3_code (6 : Nat) (Option.none : Option Jvm.ClassFile.FieldType), Jvm.Cond.code ({ cls := "com/example/meaning_into_numbers/meaningintonumbers/VersionParts", name := "start", desc := "()I" } : Jvm.MethodName) prog_27_method_4_code (1 : Nat) (Option.some Jvm.ClassFile.FieldType.int), Jvm.Cond.code ({ cls := "com/example/meaning_into_numbers/meaningintonumbers/VersionParts", name := "numberEnd", desc := "(I)I" } : Jvm.MethodName) prog_27_method_6_code (2 : Nat) (Option.some Jvm.ClassFile.FieldType.int), Jvm.Cond.code ({ cls := "com/example/meaning_into_numbers/meaningintonumbers/VersionParts", name := "preReleaseEnd", desc := "()I" } : Jvm.MethodName) prog_27_method_8_code (1 : Nat) (Option.some Jvm.ClassFile.FieldType.int), Jvm.Cond.code ({ cls := "com/example/meaning_into_numbers/meaningintonumbers/VersionParts", name := "isPreRelease", desc := "()Z" } : Jvm.MethodName) prog_27_method_9_code (1 : Nat) (Option.some Jvm.ClassFile.FieldType.boolean)]
set_option maxRecDepth 65536 in
theorem codes_eq : words1.filter isCode = codes1 := rfl
theorem w_codes : ∀ c ∈ words1.filter isCode, c.before args0 about1 = true := by
  rw [codes_eq]
  intro c hc
  simp only [codes1, List.mem_cons, List.not_mem_nil, or_false] at hc
  rcases hc with rfl | rfl | rfl | rfl | rfl | rfl | rfl | rfl
  · exact w_c0
  · exact w_c1
  · exact w_c2
  · exact w_c3
  · exact w_c4
  · exact w_c5
  · exact w_c6
  · exact w_c7
set_option maxRecDepth 65536 in
theorem w_t1 : (words1.take 24).all (fun c => isCode c || c.before args0 about1) = true := by decide +kernel
set_option maxRecDepth 65536 in
theorem w_t2 : (words1.drop 24).all (fun c => isCode c || c.before args0 about1) = true := by decide +kernel
theorem w_tables : (allAtoms (Jvm.Cond.code x code maxLocals ret :: tables_1)).before args0 about1 = true := by
  rw [allAtoms_all]
  show words1.all (fun c => c.before args0 about1) = true
  refine all_split ?_ w_codes
  rw [← List.take_append_drop 24 words1, List.all_append, w_t1, w_t2]
  rfl
set_option maxRecDepth 65536 in
theorem w_case : (Jvm.Cond.and given_1 narrow_1).before args0 about1 = true := by decide +kernel
theorem w_applies : (headSpec (Jvm.Cond.code x code maxLocals ret :: tables_1) room_1).applies x e0.platform about1 = true :=
  (Spec.applies_iff w_frames).mpr ⟨w_running, w_runnable, w_alone, w_named, w_hears, w_ripe, w_room, w_tables⟩
theorem atStart : AtStart classFile x code maxLocals ret World_1 tables_1 room_1 Calls_1 rest_1 Pre_1 launch0 p0 e0 about1 theMethod args0 below0 :=
  ⟨lists_1, trivial, launch0.admits_env _ _ _, launch0.least_env, fairChoices_fair.cas, fairChoices_fair.clock, w_frames, w_args, w_heap, w_applies, trivial, trivial, w_case⟩
end start1
theorem witness_1 : WitnessClaimed_1 := ⟨start1.p0, start1.e0, start1.about1, start1.theMethod, start1.args0, start1.below0, start1.atStart⟩
end Jvm.Pilot.@@N@@
