import JvmDerived
import JvmDerived.Pilot.@@N@@Statement
import JvmDerived.Pilot.@@N@@Code
set_option linter.unusedVariables false
set_option linter.unusedSimpArgs false
namespace Jvm.RoadKit
open Sem ClassFile Op Lib Jvm.Stand Jvm.Free Jvm.LawKit
section New
variable {p : Program} {l : Launch} {e : Env} {R : Room} {s : State} {m : MethodId} {args : Array Value} {below : List Frame} {meth : Method} {c : Code} {T : State} {locs : List Loc} {cells slots : Nat}
theorem retI (X : Stand p l e R s m args below meth c T locs cells slots) (hx : p.tables.exec = Jvm.exec) {pc : Nat} {Ls : Array Slot} {z : Int32} {rest : List Value} (hret : meth.sig.returnType = some .int) (hd : decode c.code pc = .ok (.ireturn, 1)) {fs : List Frame}
    (hl : ∀ (f : JFrame) (acts : List Action), f.method = m → f.locked = none → f.entered = [] → (doReturn e (T.setTop f) acts (some (.int z))).1 = T.setFrames fs) : Steps p.tables e below (T.setTop (mkF m pc Ls (.int z :: rest))) (T.setFrames fs) := by
  have hm' : T.vm.method? m = some meth := X.method'
  have hn : narrow .int (.int z) = .int z := rfl
  show Steps p.tables e below (T.setTop { method := m, pc := pc, locals := Ls, stack := _ :: rest, locked := none }) _
  jvm_step X.here [X.here.top, hx, hd, hm', hret, hn]
  first | (intro acts; rw [hl _ acts rfl rfl rfl]) | rw [hl _ _ rfl rfl rfl]
  exact Steps.refl _
end New
end Jvm.RoadKit
namespace Jvm.Pilot.@@N@@
open Jvm Jvm.ClassFile Sem Op Lib Jvm.Free Jvm.Stand Jvm.LawKit Jvm.RoadKit Bundle Jvm.Pilot.@@N@@.Jvm.D
theorem own_lw_lt (x y : Int64) : lcmpW x y < 0 ↔ x < y := by rw [lcW]; exact lc_lt x y
theorem own_lw_gt (x y : Int64) : 0 < lcmpW x y ↔ y < x := by rw [lcW]; exact lc_gt x y
theorem own_lw_eq (x y : Int64) : lcmpW x y = 0 ↔ x = y := by rw [lcW]; exact lc_eq x y
theorem own_retJ {p : Program} {l : Launch} {e : Env} {R : Room} {s : State} {m : MethodId} {args : Array Value} {below : List Frame} {meth : Method} {c : Code} {T : State} {locs : List Loc} {cells slots : Nat} (X : Stand p l e R s m args below meth c T locs cells slots) (hx : p.tables.exec = Jvm.exec) {pc : Nat} {Ls : Array Slot} {z : Int64} {rest : List Value} (hret : meth.sig.returnType = some .long) (hd : decode c.code pc = .ok (.lreturn, 1)) {fs : List Frame}
    (hl : ∀ (f : JFrame) (acts : List Action), f.method = m → f.locked = none → f.entered = [] → (doReturn e (T.setTop f) acts (some (.long z))).1 = T.setFrames fs) : Steps p.tables e below (T.setTop (mkF m pc Ls (.long z :: rest))) (T.setFrames fs) := by
  have hm' : T.vm.method? m = some meth := X.method'
  have hn : narrow .long (.long z) = .long z := rfl
  show Steps p.tables e below (T.setTop { method := m, pc := pc, locals := Ls, stack := _ :: rest, locked := none }) _
  jvm_step X.here [X.here.top, hx, hd, hm', hret, hn]
  first | (intro acts; rw [hl _ acts rfl rfl rfl]) | rw [hl _ _ rfl rfl rfl]
  exact Steps.refl _
theorem own_ne32 {k n : Int32} (h : ¬ k = n) : n.toInt ≠ k.toInt := fun e => h (Int32.toInt_inj.mp e.symm)
theorem own_d2_0 : decode jdk_30_method_1_code 0 = .ok (.aload_n 0, 1) := by decide +kernel
theorem own_d2_1 : decode jdk_30_method_1_code 1 = .ok (.invokespecial 1, 3) := by decide +kernel
theorem own_d2_4 : decode jdk_30_method_1_code 4 = .ok (.return_, 1) := by decide +kernel
theorem own_pn2 : plainName "java/lang/Record" = true := by first | (simp [plainName, overriddenIn]; done) | decide +kernel
theorem own_ef2 (m : MethodId) (x0 : Addr) : entryFrame m #[(.ref x0)] 1 = (mkF m 0 #[.val (.ref x0)] []) := by first | (simp [entryFrame, mkF, argsToLocals, Value.category]; done) | rfl
def own_Q2 (Z : State) (o0 : Addr) (h0 : Heap) (n0 : Nat) (v : Option Value) (h : Heap) (L : List Loc) : Prop := v = none ∧ Fr n0 L ∧ h = h0
set_option maxRecDepth 65536 in
set_option maxHeartbeats 40000000 in
theorem own_rm2 (l : Launch) (Z : State) (a0 : Array Value) (hw : ∀ d ∈ tables_1, d.before a0 Z = true) (ws : List Jvm.Cond) (o0 : Addr) (h0 : Heap) (n0 : Nat) (Z0 : n0 ≤ h0.size) :
    MetFree l (⟨"java/lang/Record", "<init>", "()V"⟩ : MethodName) (head1 (Jvm.Cond.code (⟨"java/lang/Record", "<init>", "()V"⟩ : MethodName) jdk_30_method_1_code 1 none :: ws) ({ frames := 1, cells := 0, slots := 0, locals := 12 } : Room)) (fun a U => a = #[(.ref o0)] ∧ Z.Warmed39 U.vm ∧ U.heap = h0) (fun _ _ _ _ _ => True) (fun _ U o U' => ∃ v L, o = .returned v ∧ own_Q2 Z o0 h0 n0 v U'.heap L ∧ FrameEnd U o U' L ({ frames := 1, cells := 0, slots := 0, locals := 12 } : Room).cells ({ frames := 1, cells := 0, slots := 0, locals := 12 } : Room).slots) := by
  refine MetFree.of_bodySF (plainFor_of_name own_pn2) hisR ?_
  intro p e s m args below meth c s₁ Bd hml0 hP hK
  obtain ⟨rfl, hZ, hh⟩ := hP
  have hx := Bd.exec
  have hby := Bd.bytes
  have hml : c.maxLocals = 1 := hml0
  have hown : s.vm.findClass "java/lang/Record" = some m.cls := findClass_of_methodNamed Bd.named
  have hnm := (name_of_methodNamed Bd.named Bd.method).1
  have X0 : Stand p l e ({ frames := 1, cells := 0, slots := 0, locals := 12 } : Room) s m #[(.ref o0)] below meth c s₁ [] 0 0 := Stand.of_body Bd
  have e0 : s₁.heap = h0 := by rw [← hh, Bd.state]; rfl
  have N0 := Fr.nil n0
  have pre0 : ∀ t, Steps p.tables e below (s₁.setTop (mkF m 0 #[.val (.ref o0)] [])) t → Steps p.tables e below (s₁.setTop (entryFrame m #[(.ref o0)] 1)) t := fun t k => castTop (own_ef2 m o0) k
  obtain ⟨T1, X1, e1, st1⟩ := initO X0 hx hZ hown (hw _ (List.mem_of_getElem? (i := 13) rfl)) (hw _ (List.mem_of_getElem? (i := 14) rfl)) (hw _ (List.mem_of_getElem? (i := 15) rfl)) e0 (g := (mkF m 1 #[.val (.ref o0)] [(.ref o0)])) rfl (by rw [hml]; rfl) rfl (hb hby own_d2_1) (by decide) (W := 0) (by show 2 * 0 + _ ≤ _; exact Nat.le_of_eq rfl) (by decide)
  have pre2 : ∀ t, Steps p.tables e below (T1.setTop (mkF m 4 #[.val (.ref o0)] [])) t → Steps p.tables e below (s₁.setTop (entryFrame m #[(.ref o0)] 1)) t := fun t k => pre0 t (by
      refine XS.aloadN X0.here hx rfl (hb hby own_d2_0) rfl rfl ?_
      show Steps p.tables e below (s₁.setTop (mkF m 1 #[.val (.ref o0)] [(.ref o0)])) _
      refine st1 _ ?_
      show Steps p.tables e below (T1.setTop (mkF m 4 #[.val (.ref o0)] [])) _
      exact k)
  obtain ⟨fs, hr, hrun, hended, hW, hsame⟩ := X1.leave (v := none) (fun _ => rfl)
  refine ⟨_, _, pre2 _ ?_, hrun, hended, _, _, rfl, ?_, ⟨_, rfl⟩, hW, hsame.mono (by decide) (by decide)⟩
  · show Steps p.tables e below (T1.setTop (mkF m 4 #[.val (.ref o0)] [])) _
    exact X1.returnOut hx Bd.returns (hb hby own_d2_4) hr
  · show own_Q2 Z o0 h0 n0 _ T1.heap _; rw [e1]; exact ⟨rfl, N0, rfl⟩
theorem own_pd0 : parseMethodDescriptor "()V" = some ⟨[], none⟩ := by decide +kernel
theorem own_d1_0 : decode prog_7_method_1_code 0 = .ok (.aload_n 0, 1) := by decide +kernel
theorem own_d1_1 : decode prog_7_method_1_code 1 = .ok (.invokespecial 1, 3) := by decide +kernel
theorem own_d1_4 : decode prog_7_method_1_code 4 = .ok (.iload_n 1, 1) := by decide +kernel
theorem own_d1_5 : decode prog_7_method_1_code 5 = .ok (.iconst 1, 1) := by decide +kernel
theorem own_d1_6 : decode prog_7_method_1_code 6 = .ok (.if_icmp .ge 17, 3) := by decide +kernel
theorem own_d1_23 : decode prog_7_method_1_code 23 = .ok (.aload_n 0, 1) := by decide +kernel
theorem own_d1_24 : decode prog_7_method_1_code 24 = .ok (.iload_n 1, 1) := by decide +kernel
theorem own_d1_25 : decode prog_7_method_1_code 25 = .ok (.putfield 16, 3) := by decide +kernel
theorem own_d1_28 : decode prog_7_method_1_code 28 = .ok (.return_, 1) := by decide +kernel
theorem own_pn1 : plainName "com/example/kelq/kelq/model/Quorum" = true := by first | (simp [plainName, overriddenIn]; done) | decide +kernel
theorem own_ef1 (m : MethodId) (x0 : Addr) (x1 : Int32) : entryFrame m #[(.ref x0), (.int x1)] 2 = (mkF m 0 #[.val (.ref x0), .val (.int x1)] []) := by first | (simp [entryFrame, mkF, argsToLocals, Value.category]; done) | rfl
def own_Q1 (Z : State) (o0 : Addr) (p1 : Int32) (u_servers_o0 : Value) (h0 : Heap) (n0 : Nat) (v : Option Value) (h : Heap) (L : List Loc) : Prop := v = none ∧ Fr n0 L ∧ Keep h0 h [o0] ∧ Exa Z h o0 "com/example/kelq/kelq/model/Quorum" ∧ Fld Z h o0 "com/example/kelq/kelq/model/Quorum" "servers" "I" (.int p1)
set_option maxRecDepth 65536 in
set_option maxHeartbeats 40000000 in
theorem own_rm1 (l : Launch) (Z : State) (a0 : Array Value) (hw : ∀ d ∈ tables_1, d.before a0 Z = true) (ws : List Jvm.Cond) (o0 : Addr) (p1 : Int32) (u_servers_o0 : Value) (h0 : Heap) (n0 : Nat) (Z0 : n0 ≤ h0.size) (H1 : ¬ (p1 < (1 : Int32))) (P_E_o0 : Exa Z h0 o0 "com/example/kelq/kelq/model/Quorum") (P_F_o0_servers : Fld Z h0 o0 "com/example/kelq/kelq/model/Quorum" "servers" "I" u_servers_o0) (G_o0 : n0 ≤ o0) :
    MetFree l (⟨"com/example/kelq/kelq/model/Quorum", "<init>", "(I)V"⟩ : MethodName) (head1 (Jvm.Cond.code (⟨"com/example/kelq/kelq/model/Quorum", "<init>", "(I)V"⟩ : MethodName) prog_7_method_1_code 2 none :: ws) ({ frames := 2, cells := 0, slots := 0, locals := 24 } : Room)) (fun a U => a = #[(.ref o0), (.int p1)] ∧ Z.Warmed39 U.vm ∧ U.heap = h0) (fun _ _ _ _ _ => True) (fun _ U o U' => ∃ v L, o = .returned v ∧ own_Q1 Z o0 p1 u_servers_o0 h0 n0 v U'.heap L ∧ FrameEnd U o U' L ({ frames := 2, cells := 0, slots := 0, locals := 24 } : Room).cells ({ frames := 2, cells := 0, slots := 0, locals := 24 } : Room).slots) := by
  refine MetFree.of_bodySF (plainFor_of_name own_pn1) hisR ?_
  intro p e s m args below meth c s₁ Bd hml0 hP hK
  obtain ⟨rfl, hZ, hh⟩ := hP
  have hx := Bd.exec
  have hby := Bd.bytes
  have hml : c.maxLocals = 2 := hml0
  have hown : s.vm.findClass "com/example/kelq/kelq/model/Quorum" = some m.cls := findClass_of_methodNamed Bd.named
  have hnm := (name_of_methodNamed Bd.named Bd.method).1
  have X0 : Stand p l e ({ frames := 2, cells := 0, slots := 0, locals := 24 } : Room) s m #[(.ref o0), (.int p1)] below meth c s₁ [] 0 0 := Stand.of_body Bd
  have e0 : s₁.heap = h0 := by rw [← hh, Bd.state]; rfl
  have N0 := Fr.nil n0
  have pre0 : ∀ t, Steps p.tables e below (s₁.setTop (mkF m 0 #[.val (.ref o0), .val (.int p1)] [])) t → Steps p.tables e below (s₁.setTop (entryFrame m #[(.ref o0), (.int p1)] 2)) t := fun t k => castTop (own_ef1 m o0 p1) k
  obtain ⟨_, _, ⟨T1, L1, k1, n1⟩, -, X1, ⟨Lc1, hQ1, l1, y1, z1⟩, st1⟩ := X0.specialBack hx (y := (⟨"java/lang/Record", "<init>", "()V"⟩ : MethodName)) rfl hown (mvT hZ (hw _ (List.mem_of_getElem? (i := 8) rfl))) (mvT hZ (hw _ (List.mem_of_getElem? (i := 9) rfl))) (mvT hZ (hw _ (List.mem_of_getElem? (i := 12) rfl))) (by decide) (backOf (W := 0) (own_rm2 l Z a0 hw [] o0 h0 n0 Z0 ) hZ (hw _ (List.mem_of_getElem? (i := 12) rfl)) (hw _ (List.mem_of_getElem? (i := 11) rfl)) (by decide) (by decide)) (g := (mkF m 1 #[.val (.ref o0), .val (.int p1)] [(.ref o0)])) rfl (by rw [hml]; rfl) (Steps.refl _) (a := o0) (argsL := []) (rest := []) (lenOf own_pd0 rfl) rfl (by show 2 * 0 + _ ≤ _; exact Nat.le_of_eq rfl) (hb hby own_d1_1) (fun _ _ => ⟨rfl, e0, (by decide : 0 + 0 ≤ _), (by decide : 0 + 0 ≤ _)⟩)
  dsimp only [Pt.U, Pt.locs, Pt.cells, Pt.slots] at X1 l1 y1 z1 st1 hQ1
  subst l1 y1 z1
  obtain ⟨rfl, N1q, e1⟩ := hQ1
  have N2 := Fr.app N0 N1q
  obtain ⟨T3, h3, X3, e3, W3, st3⟩ := putF X1 hx hZ hown (host := "") (Or.inl (hw _ (List.mem_of_getElem? (i := 16) rfl))) Via.refl e1 P_F_o0_servers P_E_o0 (Or.inr ⟨(hw _ (List.mem_of_getElem? (i := 17) rfl)), rfl, hnm⟩) (hw _ (List.mem_of_getElem? (i := 3) rfl)) (ty := .int) (by decide) rfl rfl (g := (mkF m 25 #[.val (.ref o0), .val (.int p1)] [(.int p1), (.ref o0)])) rfl rfl (hb hby own_d1_25)
  have f4 : Exa Z h3 o0 "com/example/kelq/kelq/model/Quorum" := P_E_o0.wr W3
  have f5 : Fld Z h3 o0 "com/example/kelq/kelq/model/Quorum" "servers" "I" (.int p1) := P_F_o0_servers.same W3
  have zs6 : n0 ≤ h3.size := Nat.le_trans Z0 (Keep.of_wr W3).1
  have N7 := Fr.snoc X3 N2 G_o0
  have K8 : Keep h0 h0 [o0] := Keep.refl h0 [o0]
  have K9 : Keep h0 h3 [o0] := K8.wr W3 (Or.inl (by simp))
  have pre10 : ∀ t, Steps p.tables e below (T3.setTop (mkF m 28 #[.val (.ref o0), .val (.int p1)] [])) t → Steps p.tables e below (s₁.setTop (entryFrame m #[(.ref o0), (.int p1)] 2)) t := fun t k => pre0 t (by
      refine XS.aloadN X0.here hx rfl (hb hby own_d1_0) rfl rfl ?_
      show Steps p.tables e below (s₁.setTop (mkF m 1 #[.val (.ref o0), .val (.int p1)] [(.ref o0)])) _
      refine st1.trans ?_
      show Steps p.tables e below (T1.setTop (mkF m 4 #[.val (.ref o0), .val (.int p1)] [])) _
      refine XS.iloadN X1.here hx rfl (hb hby own_d1_4) rfl ?_
      show Steps p.tables e below (T1.setTop (mkF m 5 #[.val (.ref o0), .val (.int p1)] [(.int p1)])) _
      refine XS.iconst X1.here hx rfl (hb hby own_d1_5) ?_
      show Steps p.tables e below (T1.setTop (mkF m 6 #[.val (.ref o0), .val (.int p1)] [(.int (1 : Int32)), (.int p1)])) _
      refine XS.icmpYes X1.here hx rfl (pc0 := 6) (pc' := 23) rfl (hb hby own_d1_6) rfl (flt H1).2.1 (by decide) (by decide) ?_
      show Steps p.tables e below (T1.setTop (mkF m 23 #[.val (.ref o0), .val (.int p1)] [])) _
      refine XS.aloadN X1.here hx rfl (hb hby own_d1_23) rfl rfl ?_
      show Steps p.tables e below (T1.setTop (mkF m 24 #[.val (.ref o0), .val (.int p1)] [(.ref o0)])) _
      refine XS.iloadN X1.here hx rfl (hb hby own_d1_24) rfl ?_
      show Steps p.tables e below (T1.setTop (mkF m 25 #[.val (.ref o0), .val (.int p1)] [(.int p1), (.ref o0)])) _
      refine st3 _ ?_
      show Steps p.tables e below (T3.setTop (mkF m 28 #[.val (.ref o0), .val (.int p1)] [])) _
      exact k)
  obtain ⟨fs, hr, hrun, hended, hW, hsame⟩ := X3.leave (v := none) (fun _ => rfl)
  refine ⟨_, _, pre10 _ ?_, hrun, hended, _, _, rfl, ?_, ⟨_, rfl⟩, hW, hsame.mono (by decide) (by decide)⟩
  · show Steps p.tables e below (T3.setTop (mkF m 28 #[.val (.ref o0), .val (.int p1)] [])) _
    exact X3.returnOut hx Bd.returns (hb hby own_d1_28) hr
  · show own_Q1 Z o0 p1 u_servers_o0 h0 n0 _ T3.heap _; rw [e3]; exact ⟨rfl, N7, K9, f4, f5⟩
theorem own_d5_0 : decode prog_7_method_2_code 0 = .ok (.aload_n 0, 1) := by decide +kernel
theorem own_d5_1 : decode prog_7_method_2_code 1 = .ok (.getfield 16, 3) := by decide +kernel
theorem own_d5_4 : decode prog_7_method_2_code 4 = .ok (.iconst 2, 1) := by decide +kernel
theorem own_d5_5 : decode prog_7_method_2_code 5 = .ok (.idiv, 1) := by decide +kernel
theorem own_d5_6 : decode prog_7_method_2_code 6 = .ok (.iconst 1, 1) := by decide +kernel
theorem own_d5_7 : decode prog_7_method_2_code 7 = .ok (.iadd, 1) := by decide +kernel
theorem own_d5_8 : decode prog_7_method_2_code 8 = .ok (.ireturn, 1) := by decide +kernel
theorem own_pn5 : plainName "com/example/kelq/kelq/model/Quorum" = true := by first | (simp [plainName, overriddenIn]; done) | decide +kernel
theorem own_ef5 (m : MethodId) (x0 : Addr) : entryFrame m #[(.ref x0)] 1 = (mkF m 0 #[.val (.ref x0)] []) := by first | (simp [entryFrame, mkF, argsToLocals, Value.category]; done) | rfl
def own_f5 (w_servers_o0 : Int32) : Int32 := ((w_servers_o0 / (2 : Int32)) + (1 : Int32))
def own_Q5 (Z : State) (o0 : Addr) (w_servers_o0 : Int32) (h0 : Heap) (n0 : Nat) (v : Option Value) (h : Heap) (L : List Loc) : Prop := v = some (.int (own_f5 w_servers_o0)) ∧ Fr n0 L ∧ h = h0
set_option maxRecDepth 65536 in
set_option maxHeartbeats 40000000 in
theorem own_rm5 (l : Launch) (Z : State) (a0 : Array Value) (hw : ∀ d ∈ tables_1, d.before a0 Z = true) (ws : List Jvm.Cond) (o0 : Addr) (w_servers_o0 : Int32) (h0 : Heap) (n0 : Nat) (Z0 : n0 ≤ h0.size) (P_F_o0_servers : Fld Z h0 o0 "com/example/kelq/kelq/model/Quorum" "servers" "I" (.int w_servers_o0)) :
    MetFree l (⟨"com/example/kelq/kelq/model/Quorum", "majority", "()I"⟩ : MethodName) (head1 (Jvm.Cond.code (⟨"com/example/kelq/kelq/model/Quorum", "majority", "()I"⟩ : MethodName) prog_7_method_2_code 1 (some .int) :: ws) ({ frames := 0, cells := 0, slots := 0, locals := 0 } : Room)) (fun a U => a = #[(.ref o0)] ∧ Z.Warmed39 U.vm ∧ U.heap = h0) (fun _ _ _ _ _ => True) (fun _ U o U' => ∃ v L, o = .returned v ∧ own_Q5 Z o0 w_servers_o0 h0 n0 v U'.heap L ∧ FrameEnd U o U' L ({ frames := 0, cells := 0, slots := 0, locals := 0 } : Room).cells ({ frames := 0, cells := 0, slots := 0, locals := 0 } : Room).slots) := by
  refine MetFree.of_bodySF (plainFor_of_name own_pn5) hisR ?_
  intro p e s m args below meth c s₁ Bd hml0 hP hK
  obtain ⟨rfl, hZ, hh⟩ := hP
  have hx := Bd.exec
  have hby := Bd.bytes
  have hml : c.maxLocals = 1 := hml0
  have hown : s.vm.findClass "com/example/kelq/kelq/model/Quorum" = some m.cls := findClass_of_methodNamed Bd.named
  have hnm := (name_of_methodNamed Bd.named Bd.method).1
  have X0 : Stand p l e ({ frames := 0, cells := 0, slots := 0, locals := 0 } : Room) s m #[(.ref o0)] below meth c s₁ [] 0 0 := Stand.of_body Bd
  have e0 : s₁.heap = h0 := by rw [← hh, Bd.state]; rfl
  have N0 := Fr.nil n0
  have pre0 : ∀ t, Steps p.tables e below (s₁.setTop (mkF m 0 #[.val (.ref o0)] [])) t → Steps p.tables e below (s₁.setTop (entryFrame m #[(.ref o0)] 1)) t := fun t k => castTop (own_ef5 m o0) k
  obtain ⟨T1, X1, e1, st1⟩ := getF X0 hx hZ hown (host := "") (Or.inl (hw _ (List.mem_of_getElem? (i := 16) rfl))) Via.refl e0 P_F_o0_servers (g := (mkF m 1 #[.val (.ref o0)] [(.ref o0)])) rfl rfl (hb hby own_d5_1)
  have pre2 : ∀ t, Steps p.tables e below (T1.setTop (mkF m 8 #[.val (.ref o0)] [(.int ((w_servers_o0 / (2 : Int32)) + (1 : Int32)))])) t → Steps p.tables e below (s₁.setTop (entryFrame m #[(.ref o0)] 1)) t := fun t k => pre0 t (by
      refine XS.aloadN X0.here hx rfl (hb hby own_d5_0) rfl rfl ?_
      show Steps p.tables e below (s₁.setTop (mkF m 1 #[.val (.ref o0)] [(.ref o0)])) _
      refine st1 _ ?_
      show Steps p.tables e below (T1.setTop (mkF m 4 #[.val (.ref o0)] [(.int w_servers_o0)])) _
      refine XS.iconst X1.here hx rfl (hb hby own_d5_4) ?_
      show Steps p.tables e below (T1.setTop (mkF m 5 #[.val (.ref o0)] [(.int (2 : Int32)), (.int w_servers_o0)])) _
      refine XS.idiv X1.here hx rfl (hb hby own_d5_5) rfl (by decide) ?_
      show Steps p.tables e below (T1.setTop (mkF m 6 #[.val (.ref o0)] [(.int (w_servers_o0 / (2 : Int32)))])) _
      refine XS.iconst X1.here hx rfl (hb hby own_d5_6) ?_
      show Steps p.tables e below (T1.setTop (mkF m 7 #[.val (.ref o0)] [(.int (1 : Int32)), (.int (w_servers_o0 / (2 : Int32)))])) _
      refine XS.iadd X1.here hx rfl (hb hby own_d5_7) rfl ?_
      show Steps p.tables e below (T1.setTop (mkF m 8 #[.val (.ref o0)] [(.int ((w_servers_o0 / (2 : Int32)) + (1 : Int32)))])) _
      exact k)
  obtain ⟨fs, hr, hrun, hended, hW, hsame⟩ := X1.leave (v := some (.int ((w_servers_o0 / (2 : Int32)) + (1 : Int32)))) (fun h => by rw [Bd.returns] at h; cases h)
  refine ⟨_, _, pre2 _ ?_, hrun, hended, _, _, rfl, ?_, ⟨_, rfl⟩, hW, hsame.mono (by decide) (by decide)⟩
  · show Steps p.tables e below (T1.setTop (mkF m 8 #[.val (.ref o0)] [(.int ((w_servers_o0 / (2 : Int32)) + (1 : Int32)))])) _
    exact retI X1 hx Bd.returns (hb hby own_d5_8) hr
  · show own_Q5 Z o0 w_servers_o0 h0 n0 _ T1.heap _; rw [e1]; exact ⟨(by show some (Value.int _) = some (.int (own_f5 w_servers_o0)); unfold own_f5; rfl), N0, rfl⟩
theorem own_pd1 : parseMethodDescriptor "()I" = some ⟨[], some .int⟩ := by decide +kernel
theorem own_d4_0 : decode prog_7_method_3_code 0 = .ok (.iload_n 1, 1) := by decide +kernel
theorem own_d4_1 : decode prog_7_method_3_code 1 = .ok (.ifCond .lt 11, 3) := by decide +kernel
theorem own_d4_4 : decode prog_7_method_3_code 4 = .ok (.iload_n 1, 1) := by decide +kernel
theorem own_d4_5 : decode prog_7_method_3_code 5 = .ok (.aload_n 0, 1) := by decide +kernel
theorem own_d4_6 : decode prog_7_method_3_code 6 = .ok (.getfield 16, 3) := by decide +kernel
theorem own_d4_9 : decode prog_7_method_3_code 9 = .ok (.if_icmp .le 21, 3) := by decide +kernel
theorem own_d4_30 : decode prog_7_method_3_code 30 = .ok (.iload_n 1, 1) := by decide +kernel
theorem own_d4_31 : decode prog_7_method_3_code 31 = .ok (.aload_n 0, 1) := by decide +kernel
theorem own_d4_32 : decode prog_7_method_3_code 32 = .ok (.invokevirtual 25, 3) := by decide +kernel
theorem own_d4_35 : decode prog_7_method_3_code 35 = .ok (.if_icmp .lt 7, 3) := by decide +kernel
theorem own_d4_38 : decode prog_7_method_3_code 38 = .ok (.iconst 1, 1) := by decide +kernel
theorem own_d4_39 : decode prog_7_method_3_code 39 = .ok (.goto 4, 3) := by decide +kernel
theorem own_d4_42 : decode prog_7_method_3_code 42 = .ok (.iconst 0, 1) := by decide +kernel
theorem own_d4_43 : decode prog_7_method_3_code 43 = .ok (.ireturn, 1) := by decide +kernel
theorem own_pn4 : plainName "com/example/kelq/kelq/model/Quorum" = true := by first | (simp [plainName, overriddenIn]; done) | decide +kernel
theorem own_ef4 (m : MethodId) (x0 : Addr) (x1 : Int32) : entryFrame m #[(.ref x0), (.int x1)] 2 = (mkF m 0 #[.val (.ref x0), .val (.int x1)] []) := by first | (simp [entryFrame, mkF, argsToLocals, Value.category]; done) | rfl
def own_f4 (p1 : Int32) (w_servers_o0 : Int32) : Int32 := (if p1 < (own_f5 w_servers_o0) then (0 : Int32) else (1 : Int32))
def own_Q4 (Z : State) (o0 : Addr) (p1 : Int32) (w_servers_o0 : Int32) (h0 : Heap) (n0 : Nat) (v : Option Value) (h : Heap) (L : List Loc) : Prop := v = some (.int (own_f4 p1 w_servers_o0)) ∧ Fr n0 L ∧ h = h0
set_option maxRecDepth 65536 in
set_option maxHeartbeats 40000000 in
theorem own_rm4 (l : Launch) (Z : State) (a0 : Array Value) (hw : ∀ d ∈ tables_1, d.before a0 Z = true) (ws : List Jvm.Cond) (o0 : Addr) (p1 : Int32) (w_servers_o0 : Int32) (h0 : Heap) (n0 : Nat) (Z0 : n0 ≤ h0.size) (H1 : ¬ (p1 < (0 : Int32))) (H2 : ¬ (w_servers_o0 < p1)) (P_F_o0_servers : Fld Z h0 o0 "com/example/kelq/kelq/model/Quorum" "servers" "I" (.int w_servers_o0)) (P_E_o0 : Exa Z h0 o0 "com/example/kelq/kelq/model/Quorum") :
    MetFree l (⟨"com/example/kelq/kelq/model/Quorum", "isMajority", "(I)Z"⟩ : MethodName) (head1 (Jvm.Cond.code (⟨"com/example/kelq/kelq/model/Quorum", "isMajority", "(I)Z"⟩ : MethodName) prog_7_method_3_code 2 (some .boolean) :: ws) ({ frames := 1, cells := 0, slots := 0, locals := 13 } : Room)) (fun a U => a = #[(.ref o0), (.int p1)] ∧ Z.Warmed39 U.vm ∧ U.heap = h0) (fun _ _ _ _ _ => True) (fun _ U o U' => ∃ v L, o = .returned v ∧ own_Q4 Z o0 p1 w_servers_o0 h0 n0 v U'.heap L ∧ FrameEnd U o U' L ({ frames := 1, cells := 0, slots := 0, locals := 13 } : Room).cells ({ frames := 1, cells := 0, slots := 0, locals := 13 } : Room).slots) := by
  refine MetFree.of_bodySF (plainFor_of_name own_pn4) hisR ?_
  intro p e s m args below meth c s₁ Bd hml0 hP hK
  obtain ⟨rfl, hZ, hh⟩ := hP
  have hx := Bd.exec
  have hby := Bd.bytes
  have hml : c.maxLocals = 2 := hml0
  have hown : s.vm.findClass "com/example/kelq/kelq/model/Quorum" = some m.cls := findClass_of_methodNamed Bd.named
  have hnm := (name_of_methodNamed Bd.named Bd.method).1
  have X0 : Stand p l e ({ frames := 1, cells := 0, slots := 0, locals := 13 } : Room) s m #[(.ref o0), (.int p1)] below meth c s₁ [] 0 0 := Stand.of_body Bd
  have e0 : s₁.heap = h0 := by rw [← hh, Bd.state]; rfl
  have N0 := Fr.nil n0
  have pre0 : ∀ t, Steps p.tables e below (s₁.setTop (mkF m 0 #[.val (.ref o0), .val (.int p1)] [])) t → Steps p.tables e below (s₁.setTop (entryFrame m #[(.ref o0), (.int p1)] 2)) t := fun t k => castTop (own_ef4 m o0 p1) k
  obtain ⟨T1, X1, e1, st1⟩ := getF X0 hx hZ hown (host := "") (Or.inl (hw _ (List.mem_of_getElem? (i := 16) rfl))) Via.refl e0 P_F_o0_servers (g := (mkF m 6 #[.val (.ref o0), .val (.int p1)] [(.ref o0), (.int p1)])) rfl rfl (hb hby own_d4_6)
  obtain ⟨cq2, kq2, q2a, q2b, q2c⟩ := isOf hZ e1 P_E_o0
  obtain ⟨_, _, ⟨T2, L2, k2, n2⟩, -, X2, ⟨Lc2, hQ2, l2, y2, z2⟩, st2⟩ := X1.virtualBack hx (y := (⟨"com/example/kelq/kelq/model/Quorum", "majority", "()I"⟩ : MethodName)) (z := (⟨"com/example/kelq/kelq/model/Quorum", "majority", "()I"⟩ : MethodName)) hown (mvT hZ (hw _ (List.mem_of_getElem? (i := 24) rfl))) (mvT hZ (hw _ (List.mem_of_getElem? (i := 25) rfl))) (notFace_of_selects (args := #[]) (mvT hZ (hw _ (List.mem_of_getElem? (i := 27) rfl)))) (mvT hZ (hw _ (List.mem_of_getElem? (i := 27) rfl))) (mvT hZ (hw _ (List.mem_of_getElem? (i := 26) rfl))) (by decide) (backOf (W := 1) (own_rm5 l Z a0 hw [] o0 w_servers_o0 h0 n0 Z0 P_F_o0_servers) hZ (hw _ (List.mem_of_getElem? (i := 28) rfl)) (hw _ (List.mem_of_getElem? (i := 4) rfl)) (by decide) (by decide)) q2a q2c (g := (mkF m 32 #[.val (.ref o0), .val (.int p1)] [(.ref o0), (.int p1)])) rfl (by rw [hml]; rfl) (Steps.refl _) (argsL := []) (rest := [(.int p1)]) (lenOf own_pd1 rfl) rfl (by show 2 * 0 + _ ≤ _; exact Nat.le_of_eq rfl) (hb hby own_d4_32) (fun _ _ => ⟨rfl, e1, (by decide : 0 + 0 ≤ _), (by decide : 0 + 0 ≤ _)⟩)
  dsimp only [Pt.U, Pt.locs, Pt.cells, Pt.slots] at X2 l2 y2 z2 st2 hQ2
  subst l2 y2 z2
  obtain ⟨rfl, N2q, e2⟩ := hQ2
  have N3 := Fr.app N0 N2q
  have pre4 : ∀ t, Steps p.tables e below (T2.setTop (mkF m 35 #[.val (.ref o0), .val (.int p1)] [(.int (own_f5 w_servers_o0)), (.int p1)])) t → Steps p.tables e below (s₁.setTop (entryFrame m #[(.ref o0), (.int p1)] 2)) t := fun t k => pre0 t (by
      refine XS.iloadN X0.here hx rfl (hb hby own_d4_0) rfl ?_
      show Steps p.tables e below (s₁.setTop (mkF m 1 #[.val (.ref o0), .val (.int p1)] [(.int p1)])) _
      refine XS.ifNo X0.here hx rfl (hb hby own_d4_1) rfl ((if0 _ _).trans (flt H1).1) ?_
      show Steps p.tables e below (s₁.setTop (mkF m 4 #[.val (.ref o0), .val (.int p1)] [])) _
      refine XS.iloadN X0.here hx rfl (hb hby own_d4_4) rfl ?_
      show Steps p.tables e below (s₁.setTop (mkF m 5 #[.val (.ref o0), .val (.int p1)] [(.int p1)])) _
      refine XS.aloadN X0.here hx rfl (hb hby own_d4_5) rfl rfl ?_
      show Steps p.tables e below (s₁.setTop (mkF m 6 #[.val (.ref o0), .val (.int p1)] [(.ref o0), (.int p1)])) _
      refine st1 _ ?_
      show Steps p.tables e below (T1.setTop (mkF m 9 #[.val (.ref o0), .val (.int p1)] [(.int w_servers_o0), (.int p1)])) _
      refine XS.icmpYes X1.here hx rfl (pc0 := 9) (pc' := 30) rfl (hb hby own_d4_9) rfl (flt H2).2.2.2 (by decide) (by decide) ?_
      show Steps p.tables e below (T1.setTop (mkF m 30 #[.val (.ref o0), .val (.int p1)] [])) _
      refine XS.iloadN X1.here hx rfl (hb hby own_d4_30) rfl ?_
      show Steps p.tables e below (T1.setTop (mkF m 31 #[.val (.ref o0), .val (.int p1)] [(.int p1)])) _
      refine XS.aloadN X1.here hx rfl (hb hby own_d4_31) rfl rfl ?_
      show Steps p.tables e below (T1.setTop (mkF m 32 #[.val (.ref o0), .val (.int p1)] [(.ref o0), (.int p1)])) _
      refine st2.trans ?_
      show Steps p.tables e below (T2.setTop (mkF m 35 #[.val (.ref o0), .val (.int p1)] [(.int (own_f5 w_servers_o0)), (.int p1)])) _
      exact k)
  by_cases hc5 : p1 < (own_f5 w_servers_o0)
  · have pre6 : ∀ t, Steps p.tables e below (T2.setTop (mkF m 43 #[.val (.ref o0), .val (.int p1)] [(.int (0 : Int32))])) t → Steps p.tables e below (s₁.setTop (entryFrame m #[(.ref o0), (.int p1)] 2)) t := fun t k => pre4 t (by
        refine XS.icmpYes X2.here hx rfl (pc0 := 35) (pc' := 42) rfl (hb hby own_d4_35) rfl (tlt hc5).1 (by decide) (by decide) ?_
        show Steps p.tables e below (T2.setTop (mkF m 42 #[.val (.ref o0), .val (.int p1)] [])) _
        refine XS.iconst X2.here hx rfl (hb hby own_d4_42) ?_
        show Steps p.tables e below (T2.setTop (mkF m 43 #[.val (.ref o0), .val (.int p1)] [(.int (0 : Int32))])) _
        exact k)
    obtain ⟨fs, hr, hrun, hended, hW, hsame⟩ := X2.leave (v := some (.int (0 : Int32))) (fun h => by rw [Bd.returns] at h; cases h)
    refine ⟨_, _, pre6 _ ?_, hrun, hended, _, _, rfl, ?_, ⟨_, rfl⟩, hW, hsame.mono (by decide) (by decide)⟩
    · show Steps p.tables e below (T2.setTop (mkF m 43 #[.val (.ref o0), .val (.int p1)] [(.int (0 : Int32))])) _
      exact retN X2 hx (t := .boolean) Bd.returns (by simp) (hb hby own_d4_43) hr
    · show own_Q4 Z o0 p1 w_servers_o0 h0 n0 _ T2.heap _; rw [e2]; exact ⟨(by show some (Value.int _) = some (.int (own_f4 p1 w_servers_o0)); unfold own_f4; rw [if_pos hc5]), N3, rfl⟩
  · have pre7 : ∀ t, Steps p.tables e below (T2.setTop (mkF m 43 #[.val (.ref o0), .val (.int p1)] [(.int (1 : Int32))])) t → Steps p.tables e below (s₁.setTop (entryFrame m #[(.ref o0), (.int p1)] 2)) t := fun t k => pre4 t (by
        refine XS.icmpNo X2.here hx rfl (hb hby own_d4_35) rfl (flt hc5).1 ?_
        show Steps p.tables e below (T2.setTop (mkF m 38 #[.val (.ref o0), .val (.int p1)] [])) _
        refine XS.iconst X2.here hx rfl (hb hby own_d4_38) ?_
        show Steps p.tables e below (T2.setTop (mkF m 39 #[.val (.ref o0), .val (.int p1)] [(.int (1 : Int32))])) _
        refine XS.goto X2.here hx rfl (pc0 := 39) (pc' := 43) rfl (hb hby own_d4_39) (by decide) (by decide) ?_
        show Steps p.tables e below (T2.setTop (mkF m 43 #[.val (.ref o0), .val (.int p1)] [(.int (1 : Int32))])) _
        exact k)
    obtain ⟨fs, hr, hrun, hended, hW, hsame⟩ := X2.leave (v := some (.int (1 : Int32))) (fun h => by rw [Bd.returns] at h; cases h)
    refine ⟨_, _, pre7 _ ?_, hrun, hended, _, _, rfl, ?_, ⟨_, rfl⟩, hW, hsame.mono (by decide) (by decide)⟩
    · show Steps p.tables e below (T2.setTop (mkF m 43 #[.val (.ref o0), .val (.int p1)] [(.int (1 : Int32))])) _
      exact retN X2 hx (t := .boolean) Bd.returns (by simp) (hb hby own_d4_43) hr
    · show own_Q4 Z o0 p1 w_servers_o0 h0 n0 _ T2.heap _; rw [e2]; exact ⟨(by show some (Value.int _) = some (.int (own_f4 p1 w_servers_o0)); unfold own_f4; rw [if_neg hc5]), N3, rfl⟩
theorem own_pd2 : parseMethodDescriptor "(I)V" = some ⟨[.int], none⟩ := by decide +kernel
theorem own_pd3 : parseMethodDescriptor "(I)Z" = some ⟨[.int], some .boolean⟩ := by decide +kernel
theorem own_pn0 : plainName "com/example/kelq/kelq/model/QuorumIsMajorityPinLaw" = true := by first | (simp [plainName, overriddenIn]; done) | decide +kernel
theorem own_ef0 (m : MethodId) (x0 : Int32) (x1 : Int32) : entryFrame m #[(.int x0), (.int x1)] maxLocals = (mkF m 0 #[.val (.int x0), .val (.int x1), .unset, .unset, .unset, .unset, .unset, .unset] []) := by first | (simp [entryFrame, mkF, argsToLocals, Value.category, maxLocals]; done) | rfl
def own_srvs (p0 : Int32) : Int32 := ((1 : Int32) + ((p0 &&& (2147483647 : Int32)) % (2147483647 : Int32)))
def own_rng (p0 : Int32) : Int64 := (((own_srvs p0).toInt64) + (1 : Int64))
def own_cnt (p0 : Int32) (p1 : Int32) : Int32 := ((((p1.toInt64) &&& (2147483647 : Int64)) - (((p1.toInt64) &&& (2147483647 : Int64)) / (own_rng p0)) * (own_rng p0)).toInt32)
def own_f0 (p0 : Int32) (p1 : Int32) : Int32 := (if ((own_srvs p0).toInt64) < ((2 : Int64) * ((own_cnt p0 p1).toInt64)) then (if (own_f4 (own_cnt p0 p1) (own_srvs p0)) = (1 : Int32) then (1 : Int32) else (0 : Int32)) else (if (own_f4 (own_cnt p0 p1) (own_srvs p0)) = (0 : Int32) then (1 : Int32) else (0 : Int32)))
theorem own_srv (x : Int32) : 1 ≤ (own_srvs x).toInt ∧ (own_srvs x).toInt ≤ 2147483647 := by
  have m1 : (x &&& (2147483647 : Int32)).toInt = x.toInt % (2 ^ 31 : Nat) := c_mask x 2147483647 31 (by decide) (by decide)
  have a1 := (c_irem (x &&& (2147483647 : Int32)) (2147483647 : Int32) 2147483647 (by decide)).1 (by omega)
  have a2 : ((own_srvs x).toInt - ((1 : Int32).toInt + ((x &&& (2147483647 : Int32)) % (2147483647 : Int32)).toInt)) % 4294967296 = 0 := c_iadd _ _
  have a3 := rng32 (own_srvs x)
  have a5 : (1 : Int32).toInt = 1 := by decide
  omega
theorem own_rg (x : Int32) : (own_rng x).toInt = (own_srvs x).toInt + 1 := by
  have a1 : ((own_rng x).toInt - ((own_srvs x).toInt64.toInt + (1 : Int64).toInt)) % 18446744073709551616 = 0 := c_ladd _ _
  have a2 := c_i2l (own_srvs x)
  have a3 := own_srv x
  have a4 := rng64 (own_rng x)
  have a5 : (1 : Int64).toInt = 1 := by decide
  omega
theorem own_rg0 (x : Int32) : own_rng x ≠ 0 := fun q => by
  have a1 := own_rg x
  have a2 := own_srv x
  rw [q, Int64.toInt_zero] at a1
  omega
theorem own_ct (x y : Int32) : 0 ≤ (own_cnt x y).toInt ∧ (own_cnt x y).toInt ≤ (own_srvs x).toInt := by
  have m1 : (y.toInt64 &&& (2147483647 : Int64)).toInt = y.toInt64.toInt % (2 ^ 31 : Nat) := c_maskL y.toInt64 2147483647 31 (by decide) (by decide)
  have a1 := own_rg x
  have a2 := own_srv x
  have a3 := (c_lrem (y.toInt64 &&& (2147483647 : Int64)) (own_rng x) ((own_srvs x).toInt + 1) a1).1 (by omega)
  have a4 := Int.emod_nonneg (y.toInt64 &&& (2147483647 : Int64)).toInt (show (own_srvs x).toInt + 1 ≠ 0 by omega)
  have a5 := Int.emod_lt_of_pos (y.toInt64 &&& (2147483647 : Int64)).toInt (show 0 < (own_srvs x).toInt + 1 by omega)
  have a6 : ((own_cnt x y).toInt - ((y.toInt64 &&& (2147483647 : Int64)) - ((y.toInt64 &&& (2147483647 : Int64)) / own_rng x) * own_rng x).toInt) % 4294967296 = 0 := c_l2i _
  have a7 := rng32 (own_cnt x y)
  omega
theorem own_h1 (x : Int32) : ¬ (own_srvs x < (1 : Int32)) := by
  have := own_srv x
  rw [Int32.lt_iff_toInt_lt, show (1 : Int32).toInt = 1 from by decide]; omega
theorem own_h2 (x y : Int32) : ¬ (own_cnt x y < (0 : Int32)) := by
  have := own_ct x y
  rw [Int32.lt_iff_toInt_lt, Int32.toInt_zero]; omega
theorem own_h3 (x y : Int32) : ¬ (own_srvs x < own_cnt x y) := by
  have := own_ct x y
  rw [Int32.lt_iff_toInt_lt]; omega
def own_Q0 (Z : State) (p0 : Int32) (p1 : Int32) (h0 : Heap) (n0 : Nat) (v : Option Value) (h : Heap) (L : List Loc) : Prop := v = some (.int (own_f0 p0 p1)) ∧ Fr n0 L
set_option maxRecDepth 65536 in
set_option maxHeartbeats 40000000 in
theorem own_rm0 (l : Launch) (Z : State) (a0 : Array Value) (hw : ∀ d ∈ tables_1, d.before a0 Z = true) (ws : List Jvm.Cond) (p0 : Int32) (p1 : Int32) (h0 : Heap) (n0 : Nat) (Z0 : n0 ≤ h0.size) :
    MetFree l x (head1 (Jvm.Cond.code x code maxLocals ret :: ws) room_1) (fun a U => a = #[(.int p0), (.int p1)] ∧ Z.Warmed39 U.vm ∧ U.heap = h0) (fun _ _ _ _ _ => True) (fun _ U o U' => ∃ v L, o = .returned v ∧ own_Q0 Z p0 p1 h0 n0 v U'.heap L ∧ FrameEnd U o U' L room_1.cells room_1.slots) := by
  refine MetFree.of_bodySF (plainFor_of_name own_pn0) hisR ?_
  intro p e s m args below meth c s₁ Bd hml0 hP hK
  obtain ⟨rfl, hZ, hh⟩ := hP
  have hx := Bd.exec
  have hby := Bd.bytes
  have hml : c.maxLocals = 8 := hml0
  have hown : s.vm.findClass "com/example/kelq/kelq/model/QuorumIsMajorityPinLaw" = some m.cls := findClass_of_methodNamed Bd.named
  have hnm := (name_of_methodNamed Bd.named Bd.method).1
  have X0 : Stand p l e room_1 s m #[(.int p0), (.int p1)] below meth c s₁ [] 0 0 := Stand.of_body Bd
  have e0 : s₁.heap = h0 := by rw [← hh, Bd.state]; rfl
  have N0 := Fr.nil n0
  have pre0 : ∀ t, Steps p.tables e below (s₁.setTop (mkF m 0 #[.val (.int p0), .val (.int p1), .unset, .unset, .unset, .unset, .unset, .unset] [])) t → Steps p.tables e below (s₁.setTop (entryFrame m #[(.int p0), (.int p1)] maxLocals)) t := fun t k => castTop (own_ef0 m p0 p1) k
  obtain ⟨T1, h1, X1, e1, E1, A1, D1, -, st1⟩ := newO X0 hx hZ hown (hw _ (List.mem_of_getElem? (i := 2) rfl)) (hw _ (List.mem_of_getElem? (i := 3) rfl)) (hw _ (List.mem_of_getElem? (i := 4) rfl)) e0 (g := (mkF m 26 #[.val (.int p0), .val (.int p1), .val (.int (own_srvs p0)), .val (.long (own_rng p0)), .second, .val (.int (own_cnt p0 p1)), .unset, .unset] [])) rfl (hb hby at_26) (by decide) (by decide)
  obtain ⟨b1, g1⟩ : ∃ z, z = h0.size := ⟨_, rfl⟩
  rw [← g1] at A1 D1 st1
  have g_b1 : n0 ≤ b1 := Nat.le_trans Z0 (Nat.le_of_eq g1.symm)
  have K2 : Keep h0 h0 [] := Keep.refl h0 []
  have sz_b1 : h0.size ≤ b1 := Nat.le_trans K2.1 (Nat.le_of_eq g1.symm)
  have zs3 : n0 ≤ h1.size := Nat.le_trans Z0 E1.1
  have K4 : Keep h0 h1 [] := K2.ext E1
  have f5 : Fld Z h1 b1 "com/example/kelq/kelq/model/Quorum" "servers" "I" (.int (0 : Int32)) := D1 (Or.inr (hw _ (List.mem_of_getElem? (i := 17) rfl))) (ty := .int) (by decide)
  obtain ⟨_, _, ⟨T6, L6, k6, n6⟩, -, X6, ⟨Lc6, hQ6, l6, y6, z6⟩, st6⟩ := X1.specialBack hx (y := (⟨"com/example/kelq/kelq/model/Quorum", "<init>", "(I)V"⟩ : MethodName)) rfl hown (mvT hZ (hw _ (List.mem_of_getElem? (i := 5) rfl))) (mvT hZ (hw _ (List.mem_of_getElem? (i := 6) rfl))) (mvT hZ (hw _ (List.mem_of_getElem? (i := 7) rfl))) (by decide) (backOf (W := 1) (own_rm1 l Z a0 hw [] b1 (own_srvs p0) (.int (0 : Int32)) h1 n0 zs3 (own_h1 p0) A1 f5 g_b1) hZ (hw _ (List.mem_of_getElem? (i := 7) rfl)) (hw _ (List.mem_of_getElem? (i := 4) rfl)) (by decide) (by decide)) (g := (mkF m 31 #[.val (.int p0), .val (.int p1), .val (.int (own_srvs p0)), .val (.long (own_rng p0)), .second, .val (.int (own_cnt p0 p1)), .unset, .unset] [(.int (own_srvs p0)), (.ref b1), (.ref b1)])) rfl (by rw [hml]; rfl) (Steps.refl _) (a := b1) (argsL := [(.int (own_srvs p0))]) (rest := [(.ref b1)]) (lenOf own_pd2 rfl) rfl (by show 2 * 0 + _ ≤ _; exact Nat.le_of_eq rfl) (hb hby at_31) (fun _ _ => ⟨rfl, e1, (by decide : 1 + 0 ≤ _), (by decide : 1 + 0 ≤ _)⟩)
  dsimp only [Pt.U, Pt.locs, Pt.cells, Pt.slots] at X6 l6 y6 z6 st6 hQ6
  subst l6 y6 z6
  obtain ⟨rfl, N6q, K6, f7, f8⟩ := hQ6
  have zs9 : n0 ≤ T6.heap.size := Nat.le_trans zs3 K6.1
  have K10 : Keep h0 T6.heap [] := K4.trans K6 (allS (Or.inr sz_b1) all0)
  have N11 := Fr.app N0 N6q
  have pre12 : ∀ t, Steps p.tables e below (T6.setTop (mkF m 46 #[.val (.int p0), .val (.int p1), .val (.int (own_srvs p0)), .val (.long (own_rng p0)), .second, .val (.int (own_cnt p0 p1)), .val (.ref b1), .unset] [(.int (lcmpW ((2 : Int64) * ((own_cnt p0 p1).toInt64)) ((own_srvs p0).toInt64)))])) t → Steps p.tables e below (s₁.setTop (entryFrame m #[(.int p0), (.int p1)] maxLocals)) t := fun t k => pre0 t (by
      refine XS.iconst X0.here hx rfl (hb hby at_0) ?_
      show Steps p.tables e below (s₁.setTop (mkF m 1 #[.val (.int p0), .val (.int p1), .unset, .unset, .unset, .unset, .unset, .unset] [(.int (1 : Int32))])) _
      refine XS.iloadN X0.here hx rfl (hb hby at_1) rfl ?_
      show Steps p.tables e below (s₁.setTop (mkF m 2 #[.val (.int p0), .val (.int p1), .unset, .unset, .unset, .unset, .unset, .unset] [(.int p0), (.int (1 : Int32))])) _
      refine X0.ldcInt hx hown (mvT hZ (hw _ (List.mem_of_getElem? (i := 0) rfl))) (g := (mkF m 2 #[.val (.int p0), .val (.int p1), .unset, .unset, .unset, .unset, .unset, .unset] [(.int p0), (.int (1 : Int32))])) rfl (hb hby at_2) _ ?_
      show Steps p.tables e below (s₁.setTop (mkF m 4 #[.val (.int p0), .val (.int p1), .unset, .unset, .unset, .unset, .unset, .unset] [(.int (2147483647 : Int32)), (.int p0), (.int (1 : Int32))])) _
      refine XS.iand X0.here hx rfl (hb hby at_4) rfl ?_
      show Steps p.tables e below (s₁.setTop (mkF m 5 #[.val (.int p0), .val (.int p1), .unset, .unset, .unset, .unset, .unset, .unset] [(.int (p0 &&& (2147483647 : Int32))), (.int (1 : Int32))])) _
      refine X0.ldcInt hx hown (mvT hZ (hw _ (List.mem_of_getElem? (i := 0) rfl))) (g := (mkF m 5 #[.val (.int p0), .val (.int p1), .unset, .unset, .unset, .unset, .unset, .unset] [(.int (p0 &&& (2147483647 : Int32))), (.int (1 : Int32))])) rfl (hb hby at_5) _ ?_
      show Steps p.tables e below (s₁.setTop (mkF m 7 #[.val (.int p0), .val (.int p1), .unset, .unset, .unset, .unset, .unset, .unset] [(.int (2147483647 : Int32)), (.int (p0 &&& (2147483647 : Int32))), (.int (1 : Int32))])) _
      refine iremM X0 hx rfl (hb hby at_7) rfl (by decide) ?_
      show Steps p.tables e below (s₁.setTop (mkF m 8 #[.val (.int p0), .val (.int p1), .unset, .unset, .unset, .unset, .unset, .unset] [(.int ((p0 &&& (2147483647 : Int32)) % (2147483647 : Int32))), (.int (1 : Int32))])) _
      refine XS.iadd X0.here hx rfl (hb hby at_8) rfl ?_
      show Steps p.tables e below (s₁.setTop (mkF m 9 #[.val (.int p0), .val (.int p1), .unset, .unset, .unset, .unset, .unset, .unset] [(.int ((1 : Int32) + ((p0 &&& (2147483647 : Int32)) % (2147483647 : Int32))))])) _
      refine XS.istoreN X0.here hx rfl (hb hby at_9) rfl (l' := #[.val (.int p0), .val (.int p1), .val (.int (own_srvs p0)), .unset, .unset, .unset, .unset, .unset]) rfl ?_
      show Steps p.tables e below (s₁.setTop (mkF m 10 #[.val (.int p0), .val (.int p1), .val (.int (own_srvs p0)), .unset, .unset, .unset, .unset, .unset] [])) _
      refine XS.iloadN X0.here hx rfl (hb hby at_10) rfl ?_
      show Steps p.tables e below (s₁.setTop (mkF m 11 #[.val (.int p0), .val (.int p1), .val (.int (own_srvs p0)), .unset, .unset, .unset, .unset, .unset] [(.int (own_srvs p0))])) _
      refine XS.i2l X0.here hx rfl (hb hby at_11) rfl ?_
      show Steps p.tables e below (s₁.setTop (mkF m 12 #[.val (.int p0), .val (.int p1), .val (.int (own_srvs p0)), .unset, .unset, .unset, .unset, .unset] [(.long ((own_srvs p0).toInt64))])) _
      refine XS.lconst X0.here hx rfl (hb hby at_12) ?_
      show Steps p.tables e below (s₁.setTop (mkF m 13 #[.val (.int p0), .val (.int p1), .val (.int (own_srvs p0)), .unset, .unset, .unset, .unset, .unset] [(.long (1 : Int64)), (.long ((own_srvs p0).toInt64))])) _
      refine XS.ladd X0.here hx rfl (hb hby at_13) rfl ?_
      show Steps p.tables e below (s₁.setTop (mkF m 14 #[.val (.int p0), .val (.int p1), .val (.int (own_srvs p0)), .unset, .unset, .unset, .unset, .unset] [(.long (((own_srvs p0).toInt64) + (1 : Int64)))])) _
      refine XS.lstoreN X0.here hx rfl (hb hby at_14) rfl (l' := #[.val (.int p0), .val (.int p1), .val (.int (own_srvs p0)), .val (.long (own_rng p0)), .second, .unset, .unset, .unset]) rfl ?_
      show Steps p.tables e below (s₁.setTop (mkF m 15 #[.val (.int p0), .val (.int p1), .val (.int (own_srvs p0)), .val (.long (own_rng p0)), .second, .unset, .unset, .unset] [])) _
      refine XS.iloadN X0.here hx rfl (hb hby at_15) rfl ?_
      show Steps p.tables e below (s₁.setTop (mkF m 16 #[.val (.int p0), .val (.int p1), .val (.int (own_srvs p0)), .val (.long (own_rng p0)), .second, .unset, .unset, .unset] [(.int p1)])) _
      refine XS.i2l X0.here hx rfl (hb hby at_16) rfl ?_
      show Steps p.tables e below (s₁.setTop (mkF m 17 #[.val (.int p0), .val (.int p1), .val (.int (own_srvs p0)), .val (.long (own_rng p0)), .second, .unset, .unset, .unset] [(.long (p1.toInt64))])) _
      refine X0.ldc2Long hx hown (mvT hZ (hw _ (List.mem_of_getElem? (i := 1) rfl))) (g := (mkF m 17 #[.val (.int p0), .val (.int p1), .val (.int (own_srvs p0)), .val (.long (own_rng p0)), .second, .unset, .unset, .unset] [(.long (p1.toInt64))])) rfl (hb hby at_17) _ ?_
      show Steps p.tables e below (s₁.setTop (mkF m 20 #[.val (.int p0), .val (.int p1), .val (.int (own_srvs p0)), .val (.long (own_rng p0)), .second, .unset, .unset, .unset] [(.long (2147483647 : Int64)), (.long (p1.toInt64))])) _
      refine XS.land X0.here hx rfl (hb hby at_20) rfl ?_
      show Steps p.tables e below (s₁.setTop (mkF m 21 #[.val (.int p0), .val (.int p1), .val (.int (own_srvs p0)), .val (.long (own_rng p0)), .second, .unset, .unset, .unset] [(.long ((p1.toInt64) &&& (2147483647 : Int64)))])) _
      refine XS.lloadN X0.here hx rfl (hb hby at_21) rfl ?_
      show Steps p.tables e below (s₁.setTop (mkF m 22 #[.val (.int p0), .val (.int p1), .val (.int (own_srvs p0)), .val (.long (own_rng p0)), .second, .unset, .unset, .unset] [(.long (own_rng p0)), (.long ((p1.toInt64) &&& (2147483647 : Int64)))])) _
      refine XS.lrem X0.here hx rfl (hb hby at_22) rfl (own_rg0 p0) ?_
      show Steps p.tables e below (s₁.setTop (mkF m 23 #[.val (.int p0), .val (.int p1), .val (.int (own_srvs p0)), .val (.long (own_rng p0)), .second, .unset, .unset, .unset] [(.long (((p1.toInt64) &&& (2147483647 : Int64)) - (((p1.toInt64) &&& (2147483647 : Int64)) / (own_rng p0)) * (own_rng p0)))])) _
      refine XS.l2i X0.here hx rfl (hb hby at_23) rfl ?_
      show Steps p.tables e below (s₁.setTop (mkF m 24 #[.val (.int p0), .val (.int p1), .val (.int (own_srvs p0)), .val (.long (own_rng p0)), .second, .unset, .unset, .unset] [(.int ((((p1.toInt64) &&& (2147483647 : Int64)) - (((p1.toInt64) &&& (2147483647 : Int64)) / (own_rng p0)) * (own_rng p0)).toInt32))])) _
      refine XS.istore X0.here hx rfl (hb hby at_24) rfl (l' := #[.val (.int p0), .val (.int p1), .val (.int (own_srvs p0)), .val (.long (own_rng p0)), .second, .val (.int (own_cnt p0 p1)), .unset, .unset]) rfl ?_
      show Steps p.tables e below (s₁.setTop (mkF m 26 #[.val (.int p0), .val (.int p1), .val (.int (own_srvs p0)), .val (.long (own_rng p0)), .second, .val (.int (own_cnt p0 p1)), .unset, .unset] [])) _
      refine st1 _ ?_
      show Steps p.tables e below (T1.setTop (mkF m 29 #[.val (.int p0), .val (.int p1), .val (.int (own_srvs p0)), .val (.long (own_rng p0)), .second, .val (.int (own_cnt p0 p1)), .unset, .unset] [(.ref b1)])) _
      refine XS.dup X1.here hx rfl (hb hby at_29) rfl rfl ?_
      show Steps p.tables e below (T1.setTop (mkF m 30 #[.val (.int p0), .val (.int p1), .val (.int (own_srvs p0)), .val (.long (own_rng p0)), .second, .val (.int (own_cnt p0 p1)), .unset, .unset] [(.ref b1), (.ref b1)])) _
      refine XS.iloadN X1.here hx rfl (hb hby at_30) rfl ?_
      show Steps p.tables e below (T1.setTop (mkF m 31 #[.val (.int p0), .val (.int p1), .val (.int (own_srvs p0)), .val (.long (own_rng p0)), .second, .val (.int (own_cnt p0 p1)), .unset, .unset] [(.int (own_srvs p0)), (.ref b1), (.ref b1)])) _
      refine st6.trans ?_
      show Steps p.tables e below (T6.setTop (mkF m 34 #[.val (.int p0), .val (.int p1), .val (.int (own_srvs p0)), .val (.long (own_rng p0)), .second, .val (.int (own_cnt p0 p1)), .unset, .unset] [(.ref b1)])) _
      refine XS.astore X6.here hx rfl (hb hby at_34) rfl rfl (l' := #[.val (.int p0), .val (.int p1), .val (.int (own_srvs p0)), .val (.long (own_rng p0)), .second, .val (.int (own_cnt p0 p1)), .val (.ref b1), .unset]) rfl ?_
      show Steps p.tables e below (T6.setTop (mkF m 36 #[.val (.int p0), .val (.int p1), .val (.int (own_srvs p0)), .val (.long (own_rng p0)), .second, .val (.int (own_cnt p0 p1)), .val (.ref b1), .unset] [])) _
      refine X6.ldc2Long hx hown (mvT hZ (hw _ (List.mem_of_getElem? (i := 18) rfl))) (g := (mkF m 36 #[.val (.int p0), .val (.int p1), .val (.int (own_srvs p0)), .val (.long (own_rng p0)), .second, .val (.int (own_cnt p0 p1)), .val (.ref b1), .unset] [])) rfl (hb hby at_36) _ ?_
      show Steps p.tables e below (T6.setTop (mkF m 39 #[.val (.int p0), .val (.int p1), .val (.int (own_srvs p0)), .val (.long (own_rng p0)), .second, .val (.int (own_cnt p0 p1)), .val (.ref b1), .unset] [(.long (2 : Int64))])) _
      refine XS.iload X6.here hx rfl (hb hby at_39) rfl ?_
      show Steps p.tables e below (T6.setTop (mkF m 41 #[.val (.int p0), .val (.int p1), .val (.int (own_srvs p0)), .val (.long (own_rng p0)), .second, .val (.int (own_cnt p0 p1)), .val (.ref b1), .unset] [(.int (own_cnt p0 p1)), (.long (2 : Int64))])) _
      refine XS.i2l X6.here hx rfl (hb hby at_41) rfl ?_
      show Steps p.tables e below (T6.setTop (mkF m 42 #[.val (.int p0), .val (.int p1), .val (.int (own_srvs p0)), .val (.long (own_rng p0)), .second, .val (.int (own_cnt p0 p1)), .val (.ref b1), .unset] [(.long ((own_cnt p0 p1).toInt64)), (.long (2 : Int64))])) _
      refine XS.lmul X6.here hx rfl (hb hby at_42) rfl ?_
      show Steps p.tables e below (T6.setTop (mkF m 43 #[.val (.int p0), .val (.int p1), .val (.int (own_srvs p0)), .val (.long (own_rng p0)), .second, .val (.int (own_cnt p0 p1)), .val (.ref b1), .unset] [(.long ((2 : Int64) * ((own_cnt p0 p1).toInt64)))])) _
      refine XS.iloadN X6.here hx rfl (hb hby at_43) rfl ?_
      show Steps p.tables e below (T6.setTop (mkF m 44 #[.val (.int p0), .val (.int p1), .val (.int (own_srvs p0)), .val (.long (own_rng p0)), .second, .val (.int (own_cnt p0 p1)), .val (.ref b1), .unset] [(.int (own_srvs p0)), (.long ((2 : Int64) * ((own_cnt p0 p1).toInt64)))])) _
      refine XS.i2l X6.here hx rfl (hb hby at_44) rfl ?_
      show Steps p.tables e below (T6.setTop (mkF m 45 #[.val (.int p0), .val (.int p1), .val (.int (own_srvs p0)), .val (.long (own_rng p0)), .second, .val (.int (own_cnt p0 p1)), .val (.ref b1), .unset] [(.long ((own_srvs p0).toInt64)), (.long ((2 : Int64) * ((own_cnt p0 p1).toInt64)))])) _
      refine XS.lcmp X6.here hx rfl (hb hby at_45) rfl ?_
      show Steps p.tables e below (T6.setTop (mkF m 46 #[.val (.int p0), .val (.int p1), .val (.int (own_srvs p0)), .val (.long (own_rng p0)), .second, .val (.int (own_cnt p0 p1)), .val (.ref b1), .unset] [(.int (lcmpW ((2 : Int64) * ((own_cnt p0 p1).toInt64)) ((own_srvs p0).toInt64)))])) _
      exact k)
  by_cases hc13 : ((own_srvs p0).toInt64) < ((2 : Int64) * ((own_cnt p0 p1).toInt64))
  · obtain ⟨cq14, kq14, q14a, q14b, q14c⟩ := isOf hZ rfl f7
    obtain ⟨_, _, ⟨T14, L14, k14, n14⟩, -, X14, ⟨Lc14, hQ14, l14, y14, z14⟩, st14⟩ := X6.virtualBack hx (y := (⟨"com/example/kelq/kelq/model/Quorum", "isMajority", "(I)Z"⟩ : MethodName)) (z := (⟨"com/example/kelq/kelq/model/Quorum", "isMajority", "(I)Z"⟩ : MethodName)) hown (mvT hZ (hw _ (List.mem_of_getElem? (i := 19) rfl))) (mvT hZ (hw _ (List.mem_of_getElem? (i := 20) rfl))) (notFace_of_selects (args := #[]) (mvT hZ (hw _ (List.mem_of_getElem? (i := 22) rfl)))) (mvT hZ (hw _ (List.mem_of_getElem? (i := 22) rfl))) (mvT hZ (hw _ (List.mem_of_getElem? (i := 21) rfl))) (by decide) (backOf (W := 0) (own_rm4 l Z a0 hw [] b1 (own_cnt p0 p1) (own_srvs p0) T6.heap n0 zs9 (own_h2 p0 p1) (own_h3 p0 p1) f8 f7) hZ (hw _ (List.mem_of_getElem? (i := 23) rfl)) (hw _ (List.mem_of_getElem? (i := 4) rfl)) (by decide) (by decide)) q14a q14c (g := (mkF m 60 #[.val (.int p0), .val (.int p1), .val (.int (own_srvs p0)), .val (.long (own_rng p0)), .second, .val (.int (own_cnt p0 p1)), .val (.ref b1), .val (.int (1 : Int32))] [(.int (own_cnt p0 p1)), (.ref b1)])) rfl (by rw [hml]; rfl) (Steps.refl _) (argsL := [(.int (own_cnt p0 p1))]) (rest := []) (lenOf own_pd3 rfl) rfl (by show 2 * 0 + _ ≤ _; exact Nat.le_of_eq rfl) (hb hby at_60) (fun _ _ => ⟨rfl, rfl, (by decide : 1 + 0 ≤ _), (by decide : 1 + 0 ≤ _)⟩)
    dsimp only [Pt.U, Pt.locs, Pt.cells, Pt.slots] at X14 l14 y14 z14 st14 hQ14
    subst l14 y14 z14
    obtain ⟨rfl, N14q, e14⟩ := hQ14
    have N15 := Fr.app N11 N14q
    have pre16 : ∀ t, Steps p.tables e below (T14.setTop (mkF m 65 #[.val (.int p0), .val (.int p1), .val (.int (own_srvs p0)), .val (.long (own_rng p0)), .second, .val (.int (own_cnt p0 p1)), .val (.ref b1), .val (.int (1 : Int32))] [(.int (1 : Int32)), (.int (own_f4 (own_cnt p0 p1) (own_srvs p0)))])) t → Steps p.tables e below (s₁.setTop (entryFrame m #[(.int p0), (.int p1)] maxLocals)) t := fun t k => pre12 t (by
        refine XS.ifNo X6.here hx rfl (hb hby at_46) rfl ((if0 _ _).trans (tlt ((own_lw_gt _ _).mpr hc13)).2.2.2) ?_
        show Steps p.tables e below (T6.setTop (mkF m 49 #[.val (.int p0), .val (.int p1), .val (.int (own_srvs p0)), .val (.long (own_rng p0)), .second, .val (.int (own_cnt p0 p1)), .val (.ref b1), .unset] [])) _
        refine XS.iconst X6.here hx rfl (hb hby at_49) ?_
        show Steps p.tables e below (T6.setTop (mkF m 50 #[.val (.int p0), .val (.int p1), .val (.int (own_srvs p0)), .val (.long (own_rng p0)), .second, .val (.int (own_cnt p0 p1)), .val (.ref b1), .unset] [(.int (1 : Int32))])) _
        refine XS.goto X6.here hx rfl (pc0 := 50) (pc' := 54) rfl (hb hby at_50) (by decide) (by decide) ?_
        show Steps p.tables e below (T6.setTop (mkF m 54 #[.val (.int p0), .val (.int p1), .val (.int (own_srvs p0)), .val (.long (own_rng p0)), .second, .val (.int (own_cnt p0 p1)), .val (.ref b1), .unset] [(.int (1 : Int32))])) _
        refine XS.istore X6.here hx rfl (hb hby at_54) rfl (l' := #[.val (.int p0), .val (.int p1), .val (.int (own_srvs p0)), .val (.long (own_rng p0)), .second, .val (.int (own_cnt p0 p1)), .val (.ref b1), .val (.int (1 : Int32))]) rfl ?_
        show Steps p.tables e below (T6.setTop (mkF m 56 #[.val (.int p0), .val (.int p1), .val (.int (own_srvs p0)), .val (.long (own_rng p0)), .second, .val (.int (own_cnt p0 p1)), .val (.ref b1), .val (.int (1 : Int32))] [])) _
        refine XS.aload X6.here hx rfl (hb hby at_56) rfl rfl ?_
        show Steps p.tables e below (T6.setTop (mkF m 58 #[.val (.int p0), .val (.int p1), .val (.int (own_srvs p0)), .val (.long (own_rng p0)), .second, .val (.int (own_cnt p0 p1)), .val (.ref b1), .val (.int (1 : Int32))] [(.ref b1)])) _
        refine XS.iload X6.here hx rfl (hb hby at_58) rfl ?_
        show Steps p.tables e below (T6.setTop (mkF m 60 #[.val (.int p0), .val (.int p1), .val (.int (own_srvs p0)), .val (.long (own_rng p0)), .second, .val (.int (own_cnt p0 p1)), .val (.ref b1), .val (.int (1 : Int32))] [(.int (own_cnt p0 p1)), (.ref b1)])) _
        refine st14.trans ?_
        show Steps p.tables e below (T14.setTop (mkF m 63 #[.val (.int p0), .val (.int p1), .val (.int (own_srvs p0)), .val (.long (own_rng p0)), .second, .val (.int (own_cnt p0 p1)), .val (.ref b1), .val (.int (1 : Int32))] [(.int (own_f4 (own_cnt p0 p1) (own_srvs p0)))])) _
        refine XS.iload X14.here hx rfl (hb hby at_63) rfl ?_
        show Steps p.tables e below (T14.setTop (mkF m 65 #[.val (.int p0), .val (.int p1), .val (.int (own_srvs p0)), .val (.long (own_rng p0)), .second, .val (.int (own_cnt p0 p1)), .val (.ref b1), .val (.int (1 : Int32))] [(.int (1 : Int32)), (.int (own_f4 (own_cnt p0 p1) (own_srvs p0)))])) _
        exact k)
    by_cases hc17 : (own_f4 (own_cnt p0 p1) (own_srvs p0)) = (1 : Int32)
    · have pre18 : ∀ t, Steps p.tables e below (T14.setTop (mkF m 73 #[.val (.int p0), .val (.int p1), .val (.int (own_srvs p0)), .val (.long (own_rng p0)), .second, .val (.int (own_cnt p0 p1)), .val (.ref b1), .val (.int (1 : Int32))] [(.int (1 : Int32))])) t → Steps p.tables e below (s₁.setTop (entryFrame m #[(.int p0), (.int p1)] maxLocals)) t := fun t k => pre16 t (by
          refine XS.icmpNo X14.here hx rfl (hb hby at_65) rfl (teq hc17).2 ?_
          show Steps p.tables e below (T14.setTop (mkF m 68 #[.val (.int p0), .val (.int p1), .val (.int (own_srvs p0)), .val (.long (own_rng p0)), .second, .val (.int (own_cnt p0 p1)), .val (.ref b1), .val (.int (1 : Int32))] [])) _
          refine XS.iconst X14.here hx rfl (hb hby at_68) ?_
          show Steps p.tables e below (T14.setTop (mkF m 69 #[.val (.int p0), .val (.int p1), .val (.int (own_srvs p0)), .val (.long (own_rng p0)), .second, .val (.int (own_cnt p0 p1)), .val (.ref b1), .val (.int (1 : Int32))] [(.int (1 : Int32))])) _
          refine XS.goto X14.here hx rfl (pc0 := 69) (pc' := 73) rfl (hb hby at_69) (by decide) (by decide) ?_
          show Steps p.tables e below (T14.setTop (mkF m 73 #[.val (.int p0), .val (.int p1), .val (.int (own_srvs p0)), .val (.long (own_rng p0)), .second, .val (.int (own_cnt p0 p1)), .val (.ref b1), .val (.int (1 : Int32))] [(.int (1 : Int32))])) _
          exact k)
      obtain ⟨fs, hr, hrun, hended, hW, hsame⟩ := X14.leave (v := some (.int (1 : Int32))) (fun h => by rw [Bd.returns] at h; cases h)
      refine ⟨_, _, pre18 _ ?_, hrun, hended, _, _, rfl, ?_, ⟨_, rfl⟩, hW, hsame.mono (by decide) (by decide)⟩
      · show Steps p.tables e below (T14.setTop (mkF m 73 #[.val (.int p0), .val (.int p1), .val (.int (own_srvs p0)), .val (.long (own_rng p0)), .second, .val (.int (own_cnt p0 p1)), .val (.ref b1), .val (.int (1 : Int32))] [(.int (1 : Int32))])) _
        exact retN X14 hx (t := .boolean) Bd.returns (by simp) (hb hby at_73) hr
      · show own_Q0 Z p0 p1 h0 n0 _ T14.heap _; exact ⟨(by show some (Value.int _) = some (.int (own_f0 p0 p1)); unfold own_f0; rw [if_pos hc13, if_pos hc17]), N15⟩
    · have pre19 : ∀ t, Steps p.tables e below (T14.setTop (mkF m 73 #[.val (.int p0), .val (.int p1), .val (.int (own_srvs p0)), .val (.long (own_rng p0)), .second, .val (.int (own_cnt p0 p1)), .val (.ref b1), .val (.int (1 : Int32))] [(.int (0 : Int32))])) t → Steps p.tables e below (s₁.setTop (entryFrame m #[(.int p0), (.int p1)] maxLocals)) t := fun t k => pre16 t (by
          refine XS.icmpYes X14.here hx rfl (pc0 := 65) (pc' := 72) rfl (hb hby at_65) rfl (feq hc17).2 (by decide) (by decide) ?_
          show Steps p.tables e below (T14.setTop (mkF m 72 #[.val (.int p0), .val (.int p1), .val (.int (own_srvs p0)), .val (.long (own_rng p0)), .second, .val (.int (own_cnt p0 p1)), .val (.ref b1), .val (.int (1 : Int32))] [])) _
          refine XS.iconst X14.here hx rfl (hb hby at_72) ?_
          show Steps p.tables e below (T14.setTop (mkF m 73 #[.val (.int p0), .val (.int p1), .val (.int (own_srvs p0)), .val (.long (own_rng p0)), .second, .val (.int (own_cnt p0 p1)), .val (.ref b1), .val (.int (1 : Int32))] [(.int (0 : Int32))])) _
          exact k)
      obtain ⟨fs, hr, hrun, hended, hW, hsame⟩ := X14.leave (v := some (.int (0 : Int32))) (fun h => by rw [Bd.returns] at h; cases h)
      refine ⟨_, _, pre19 _ ?_, hrun, hended, _, _, rfl, ?_, ⟨_, rfl⟩, hW, hsame.mono (by decide) (by decide)⟩
      · show Steps p.tables e below (T14.setTop (mkF m 73 #[.val (.int p0), .val (.int p1), .val (.int (own_srvs p0)), .val (.long (own_rng p0)), .second, .val (.int (own_cnt p0 p1)), .val (.ref b1), .val (.int (1 : Int32))] [(.int (0 : Int32))])) _
        exact retN X14 hx (t := .boolean) Bd.returns (by simp) (hb hby at_73) hr
      · show own_Q0 Z p0 p1 h0 n0 _ T14.heap _; exact ⟨(by show some (Value.int _) = some (.int (own_f0 p0 p1)); unfold own_f0; rw [if_pos hc13, if_neg hc17]), N15⟩
  · obtain ⟨cq20, kq20, q20a, q20b, q20c⟩ := isOf hZ rfl f7
    obtain ⟨_, _, ⟨T20, L20, k20, n20⟩, -, X20, ⟨Lc20, hQ20, l20, y20, z20⟩, st20⟩ := X6.virtualBack hx (y := (⟨"com/example/kelq/kelq/model/Quorum", "isMajority", "(I)Z"⟩ : MethodName)) (z := (⟨"com/example/kelq/kelq/model/Quorum", "isMajority", "(I)Z"⟩ : MethodName)) hown (mvT hZ (hw _ (List.mem_of_getElem? (i := 19) rfl))) (mvT hZ (hw _ (List.mem_of_getElem? (i := 20) rfl))) (notFace_of_selects (args := #[]) (mvT hZ (hw _ (List.mem_of_getElem? (i := 22) rfl)))) (mvT hZ (hw _ (List.mem_of_getElem? (i := 22) rfl))) (mvT hZ (hw _ (List.mem_of_getElem? (i := 21) rfl))) (by decide) (backOf (W := 0) (own_rm4 l Z a0 hw [] b1 (own_cnt p0 p1) (own_srvs p0) T6.heap n0 zs9 (own_h2 p0 p1) (own_h3 p0 p1) f8 f7) hZ (hw _ (List.mem_of_getElem? (i := 23) rfl)) (hw _ (List.mem_of_getElem? (i := 4) rfl)) (by decide) (by decide)) q20a q20c (g := (mkF m 60 #[.val (.int p0), .val (.int p1), .val (.int (own_srvs p0)), .val (.long (own_rng p0)), .second, .val (.int (own_cnt p0 p1)), .val (.ref b1), .val (.int (0 : Int32))] [(.int (own_cnt p0 p1)), (.ref b1)])) rfl (by rw [hml]; rfl) (Steps.refl _) (argsL := [(.int (own_cnt p0 p1))]) (rest := []) (lenOf own_pd3 rfl) rfl (by show 2 * 0 + _ ≤ _; exact Nat.le_of_eq rfl) (hb hby at_60) (fun _ _ => ⟨rfl, rfl, (by decide : 1 + 0 ≤ _), (by decide : 1 + 0 ≤ _)⟩)
    dsimp only [Pt.U, Pt.locs, Pt.cells, Pt.slots] at X20 l20 y20 z20 st20 hQ20
    subst l20 y20 z20
    obtain ⟨rfl, N20q, e20⟩ := hQ20
    have N21 := Fr.app N11 N20q
    have pre22 : ∀ t, Steps p.tables e below (T20.setTop (mkF m 65 #[.val (.int p0), .val (.int p1), .val (.int (own_srvs p0)), .val (.long (own_rng p0)), .second, .val (.int (own_cnt p0 p1)), .val (.ref b1), .val (.int (0 : Int32))] [(.int (0 : Int32)), (.int (own_f4 (own_cnt p0 p1) (own_srvs p0)))])) t → Steps p.tables e below (s₁.setTop (entryFrame m #[(.int p0), (.int p1)] maxLocals)) t := fun t k => pre12 t (by
        refine XS.ifYes X6.here hx rfl (pc0 := 46) (pc' := 53) rfl (hb hby at_46) rfl ((if0 _ _).trans (flt (mt (own_lw_gt _ _).mp hc13)).2.2.2) (by decide) (by decide) ?_
        show Steps p.tables e below (T6.setTop (mkF m 53 #[.val (.int p0), .val (.int p1), .val (.int (own_srvs p0)), .val (.long (own_rng p0)), .second, .val (.int (own_cnt p0 p1)), .val (.ref b1), .unset] [])) _
        refine XS.iconst X6.here hx rfl (hb hby at_53) ?_
        show Steps p.tables e below (T6.setTop (mkF m 54 #[.val (.int p0), .val (.int p1), .val (.int (own_srvs p0)), .val (.long (own_rng p0)), .second, .val (.int (own_cnt p0 p1)), .val (.ref b1), .unset] [(.int (0 : Int32))])) _
        refine XS.istore X6.here hx rfl (hb hby at_54) rfl (l' := #[.val (.int p0), .val (.int p1), .val (.int (own_srvs p0)), .val (.long (own_rng p0)), .second, .val (.int (own_cnt p0 p1)), .val (.ref b1), .val (.int (0 : Int32))]) rfl ?_
        show Steps p.tables e below (T6.setTop (mkF m 56 #[.val (.int p0), .val (.int p1), .val (.int (own_srvs p0)), .val (.long (own_rng p0)), .second, .val (.int (own_cnt p0 p1)), .val (.ref b1), .val (.int (0 : Int32))] [])) _
        refine XS.aload X6.here hx rfl (hb hby at_56) rfl rfl ?_
        show Steps p.tables e below (T6.setTop (mkF m 58 #[.val (.int p0), .val (.int p1), .val (.int (own_srvs p0)), .val (.long (own_rng p0)), .second, .val (.int (own_cnt p0 p1)), .val (.ref b1), .val (.int (0 : Int32))] [(.ref b1)])) _
        refine XS.iload X6.here hx rfl (hb hby at_58) rfl ?_
        show Steps p.tables e below (T6.setTop (mkF m 60 #[.val (.int p0), .val (.int p1), .val (.int (own_srvs p0)), .val (.long (own_rng p0)), .second, .val (.int (own_cnt p0 p1)), .val (.ref b1), .val (.int (0 : Int32))] [(.int (own_cnt p0 p1)), (.ref b1)])) _
        refine st20.trans ?_
        show Steps p.tables e below (T20.setTop (mkF m 63 #[.val (.int p0), .val (.int p1), .val (.int (own_srvs p0)), .val (.long (own_rng p0)), .second, .val (.int (own_cnt p0 p1)), .val (.ref b1), .val (.int (0 : Int32))] [(.int (own_f4 (own_cnt p0 p1) (own_srvs p0)))])) _
        refine XS.iload X20.here hx rfl (hb hby at_63) rfl ?_
        show Steps p.tables e below (T20.setTop (mkF m 65 #[.val (.int p0), .val (.int p1), .val (.int (own_srvs p0)), .val (.long (own_rng p0)), .second, .val (.int (own_cnt p0 p1)), .val (.ref b1), .val (.int (0 : Int32))] [(.int (0 : Int32)), (.int (own_f4 (own_cnt p0 p1) (own_srvs p0)))])) _
        exact k)
    by_cases hc23 : (own_f4 (own_cnt p0 p1) (own_srvs p0)) = (0 : Int32)
    · have pre24 : ∀ t, Steps p.tables e below (T20.setTop (mkF m 73 #[.val (.int p0), .val (.int p1), .val (.int (own_srvs p0)), .val (.long (own_rng p0)), .second, .val (.int (own_cnt p0 p1)), .val (.ref b1), .val (.int (0 : Int32))] [(.int (1 : Int32))])) t → Steps p.tables e below (s₁.setTop (entryFrame m #[(.int p0), (.int p1)] maxLocals)) t := fun t k => pre22 t (by
          refine XS.icmpNo X20.here hx rfl (hb hby at_65) rfl (teq hc23).2 ?_
          show Steps p.tables e below (T20.setTop (mkF m 68 #[.val (.int p0), .val (.int p1), .val (.int (own_srvs p0)), .val (.long (own_rng p0)), .second, .val (.int (own_cnt p0 p1)), .val (.ref b1), .val (.int (0 : Int32))] [])) _
          refine XS.iconst X20.here hx rfl (hb hby at_68) ?_
          show Steps p.tables e below (T20.setTop (mkF m 69 #[.val (.int p0), .val (.int p1), .val (.int (own_srvs p0)), .val (.long (own_rng p0)), .second, .val (.int (own_cnt p0 p1)), .val (.ref b1), .val (.int (0 : Int32))] [(.int (1 : Int32))])) _
          refine XS.goto X20.here hx rfl (pc0 := 69) (pc' := 73) rfl (hb hby at_69) (by decide) (by decide) ?_
          show Steps p.tables e below (T20.setTop (mkF m 73 #[.val (.int p0), .val (.int p1), .val (.int (own_srvs p0)), .val (.long (own_rng p0)), .second, .val (.int (own_cnt p0 p1)), .val (.ref b1), .val (.int (0 : Int32))] [(.int (1 : Int32))])) _
          exact k)
      obtain ⟨fs, hr, hrun, hended, hW, hsame⟩ := X20.leave (v := some (.int (1 : Int32))) (fun h => by rw [Bd.returns] at h; cases h)
      refine ⟨_, _, pre24 _ ?_, hrun, hended, _, _, rfl, ?_, ⟨_, rfl⟩, hW, hsame.mono (by decide) (by decide)⟩
      · show Steps p.tables e below (T20.setTop (mkF m 73 #[.val (.int p0), .val (.int p1), .val (.int (own_srvs p0)), .val (.long (own_rng p0)), .second, .val (.int (own_cnt p0 p1)), .val (.ref b1), .val (.int (0 : Int32))] [(.int (1 : Int32))])) _
        exact retN X20 hx (t := .boolean) Bd.returns (by simp) (hb hby at_73) hr
      · show own_Q0 Z p0 p1 h0 n0 _ T20.heap _; exact ⟨(by show some (Value.int _) = some (.int (own_f0 p0 p1)); unfold own_f0; rw [if_neg hc13, if_pos hc23]), N21⟩
    · have pre25 : ∀ t, Steps p.tables e below (T20.setTop (mkF m 73 #[.val (.int p0), .val (.int p1), .val (.int (own_srvs p0)), .val (.long (own_rng p0)), .second, .val (.int (own_cnt p0 p1)), .val (.ref b1), .val (.int (0 : Int32))] [(.int (0 : Int32))])) t → Steps p.tables e below (s₁.setTop (entryFrame m #[(.int p0), (.int p1)] maxLocals)) t := fun t k => pre22 t (by
          refine XS.icmpYes X20.here hx rfl (pc0 := 65) (pc' := 72) rfl (hb hby at_65) rfl (feq hc23).2 (by decide) (by decide) ?_
          show Steps p.tables e below (T20.setTop (mkF m 72 #[.val (.int p0), .val (.int p1), .val (.int (own_srvs p0)), .val (.long (own_rng p0)), .second, .val (.int (own_cnt p0 p1)), .val (.ref b1), .val (.int (0 : Int32))] [])) _
          refine XS.iconst X20.here hx rfl (hb hby at_72) ?_
          show Steps p.tables e below (T20.setTop (mkF m 73 #[.val (.int p0), .val (.int p1), .val (.int (own_srvs p0)), .val (.long (own_rng p0)), .second, .val (.int (own_cnt p0 p1)), .val (.ref b1), .val (.int (0 : Int32))] [(.int (0 : Int32))])) _
          exact k)
      obtain ⟨fs, hr, hrun, hended, hW, hsame⟩ := X20.leave (v := some (.int (0 : Int32))) (fun h => by rw [Bd.returns] at h; cases h)
      refine ⟨_, _, pre25 _ ?_, hrun, hended, _, _, rfl, ?_, ⟨_, rfl⟩, hW, hsame.mono (by decide) (by decide)⟩
      · show Steps p.tables e below (T20.setTop (mkF m 73 #[.val (.int p0), .val (.int p1), .val (.int (own_srvs p0)), .val (.long (own_rng p0)), .second, .val (.int (own_cnt p0 p1)), .val (.ref b1), .val (.int (0 : Int32))] [(.int (0 : Int32))])) _
        exact retN X20 hx (t := .boolean) Bd.returns (by simp) (hb hby at_73) hr
      · show own_Q0 Z p0 p1 h0 n0 _ T20.heap _; exact ⟨(by show some (Value.int _) = some (.int (own_f0 p0 p1)); unfold own_f0; rw [if_neg hc13, if_neg hc23]), N21⟩
theorem own_maj (x y : Int32) : own_f4 (own_cnt x y) (own_srvs x) = 1 ↔ (own_srvs x).toInt < 2 * (own_cnt x y).toInt := by
  have a1 := own_srv x
  have a2 := own_ct x y
  have a3 := (c_idiv (own_srvs x) (2 : Int32) 2 (by decide) (by decide)).1 (by omega)
  have a4 : ((own_f5 (own_srvs x)).toInt - ((own_srvs x / (2 : Int32)).toInt + (1 : Int32).toInt)) % 4294967296 = 0 := c_iadd _ _
  have a5 := rng32 (own_f5 (own_srvs x))
  have a6 : (1 : Int32).toInt = 1 := by decide
  unfold own_f4
  by_cases q : own_cnt x y < own_f5 (own_srvs x)
  · rw [if_pos q]
    rw [Int32.lt_iff_toInt_lt] at q
    exact ⟨fun r => absurd r (by decide), fun r => by exfalso; omega⟩
  · rw [if_neg q]
    rw [Int32.lt_iff_toInt_lt] at q
    exact ⟨fun _ => by omega, fun _ => rfl⟩
theorem own_01 (a b : Int32) : own_f4 a b = 1 ∨ own_f4 a b = 0 := by unfold own_f4; split <;> simp
theorem own_plain (x y : Int32) : own_f0 x y = 1 := by
  have a1 := own_srv x
  have a2 := own_ct x y
  have a3 := own_maj x y
  have a4 := own_01 (own_cnt x y) (own_srvs x)
  have a5 := c_lmul (2 : Int64) (own_cnt x y).toInt64
  have a6 := c_i2l (own_cnt x y)
  have a7 := c_i2l (own_srvs x)
  have a8 := rng64 ((2 : Int64) * (own_cnt x y).toInt64)
  have a9 : (2 : Int64).toInt = 2 := by decide
  rw [a9] at a5
  unfold own_f0
  by_cases h : (own_srvs x).toInt64 < (2 : Int64) * (own_cnt x y).toInt64
  · rw [if_pos h]
    rw [Int64.lt_iff_toInt_lt] at h
    rw [if_pos (a3.mpr (by omega))]
  · rw [if_neg h]
    rw [Int64.lt_iff_toInt_lt] at h
    rw [if_pos (a4.resolve_left (fun q => by have := a3.mp q; omega))]
set_option maxRecDepth 65536 in
set_option maxHeartbeats 40000000 in
theorem comes_1 {Post : Tables → Env → Array Value → State → Outcome → State → Prop} (hpost : ∀ tb e args s v u, (limb_1_1.after args s (.returned v) u = true ∧ limb_1_2.after args s (.returned v) u = true ∧ True) → FrameEnd s (.returned v) u (Jvm.fieldLocs frame_1_writes args s ++ Jvm.arrayLocs frame_1_arrays args s ++ Jvm.staticLocs frame_1_statics s) 16 128 → Post tb e args s (.returned v) u) :
    ArmFor flags0 classFile x code maxLocals ret World_1 tables_1 room_1 Calls_1 rest_1 Pre_1 Post := by
  intro l hfl _ _ p e ha hc hk s m args below hf hA hF happ hP
  obtain ⟨hcalls, hrest, hpre⟩ := hP
  obtain ⟨-, -, -, hnamed, -, -, -, hat⟩ := (Spec.applies_iff hf).mp happ
  obtain ⟨hg, hn⟩ := and_e (Cond.before_iff.mp (show (Jvm.Cond.and given_1 narrow_1).before args s = true from hpre))
  obtain ⟨gc, gr0⟩ := and_e hg
  obtain ⟨ga0, gr1⟩ := and_e gr0
  have ga1 := gr1
  obtain ⟨w0, w1, rfl⟩ : ∃ w0 w1 : Value, args = #[w0, w1] := by
    have hs : args.size = 2 := by simpa [Cond.value, given_1] using gc
    obtain ⟨L⟩ := args
    match L, hs with
    | [w0, w1], _ => exact ⟨w0, w1, rfl⟩
  have hw := fun d (hd : d ∈ tables_1) => atoms_spec (ws := Jvm.Cond.code x code maxLocals ret :: tables_1) hat d (List.mem_cons_of_mem _ hd)
  obtain ⟨i0, ei0⟩ := is_v ga0
  obtain rfl : w0 = (.int i0) := Option.some.inj ei0
  obtain ⟨i1, ei1⟩ := is_v ga1
  obtain rfl : w1 = (.int i1) := Option.some.inj ei1
  obtain ⟨n, o, h1, h2, h3, _, L, rfl, ⟨hv, N⟩, hq⟩ := own_rm0 l s _ hw tables_1 i0 i1 s.heap s.heap.size (Nat.le_refl _) p e ha hc hk s m _ below hf ((Spec.applies_iff_loose hf).mp happ).1 ⟨rfl, State.Warmed39.refl s, rfl⟩ trivial
  rw [show (own_f0 i0 i1) = (1 : Int32) from own_plain i0 i1] at hv
  subst hv
  refine ⟨n, _, h1, h2, h3, hpost _ _ _ _ _ _ ⟨Cond.after_iff.mpr rfl, Cond.after_iff.mpr (eq_i res_at (Term.int_eval (1)) rfl), trivial⟩ ⟨hq.1, hq.2.1, (hq.2.2.sift fun y hy => Or.inr (N y hy)).mono (by decide) (by decide)⟩⟩
theorem main_1_1 : Claimed_1_1 := comes_1 fun _ _ _ _ _ _ h hF => ⟨h.1, hF⟩
theorem main_1_2 : Claimed_1_2 := comes_1 fun _ _ _ _ _ _ h hF => ⟨h.2.1, hF⟩
end Jvm.Pilot.@@N@@
namespace Jvm.Pilot.@@N@@
open Jvm Jvm.ClassFile Sem Op Lib Jvm.Free Jvm.Stand Jvm.Pilot.@@N@@.Jvm.D
/-! MADE BY PROGRAM (witnessworld.py) out of the Statement's table words and the real class files: 10 classes; the members and pool entries that the words name. The judged class is class 1, her method 1. -/
namespace start1
open Jvm.ClassFile
def u (s : String) : CpInfo := .utf8 (stringToUtf16 s)
/-- a pool by its gaps: so many unusable entries, then the entry; so many at the end -/
def gap : Nat → List CpInfo → List CpInfo
  | 0, r => r
  | n + 1, r => .unusable :: gap n r
def poolList (es : List (Nat × CpInfo)) (last : Nat) : List CpInfo := es.foldr (fun e r => gap e.1 (e.2 :: r)) (gap last [])
def pool (es : List (Nat × CpInfo)) (last : Nat) : Array CpInfo := ⟨poolList es last⟩
def fileOf (pool : Array CpInfo) (this : Nat) (attrs : Array Attribute := #[]) (ms : Array MethodInfo := #[]) (fl : Nat := 33) (sup : Nat := 0) (ifs : Array Nat := #[]) (fds : Array FieldInfo := #[]) : ClassFile where
  minorVersion := 0
  majorVersion := 65
  constantPool := pool
  accessFlags := fl
  thisClass := this
  superClass := sup
  interfaces := ifs
  fields := fds
  methods := ms
  attributes := attrs
def plain (name : String) (sup : Option ClassId) : Class where
  name := name
  kind := .ordinary
  loader := none
  accessFlags := 33
  super := sup
  interfaces := #[]
  cf := none
  fields := #[]
  methods := #[]
  instanceTypes := #[]
  staticTypes := #[]
  resolved := #[]
  callSites := []
  init := .initialized
  statics := none
  mirror := none

def pool0 : Array CpInfo := pool [(5, u "<init>"), (0, u "()V"), (1, .class_ 10), (1, u "java/lang/Object")] 113

def k0c0 : Code := { maxStack := 0, maxLocals := 1, code := object_method_1_code, exceptionTable := #[], attributes := #[] }
def k0m0 : Method := { name := "<init>", desc := "()V", sig := { parameters := [], returnType := none }, accessFlags := 1, code := some k0c0 }
/-- java/lang/Object -/
def k0 : Class := { plain "java/lang/Object" none with
  accessFlags := 33
  interfaces := #[]
  cf := some (fileOf pool0 8 #[] #[{ accessFlags := 1, nameIndex := 5, descriptorIndex := 6, attributes := #[] }] 33 0 #[] #[])
  fields := #[]
  methods := #[k0m0]
  instanceTypes := #[]
  staticTypes := #[]
  resolved := Array.replicate 124 none
  statics := none }

def pool1 : Array CpInfo := pool [(2, .class_ 4), (1, u "java/lang/Object"), (0, u "<init>"), (0, u "()V"), (0, .integer 2147483647), (2, .long 2147483647), (1, .class_ 13), (0, u "com/example/kelq/kelq/model/Quorum"), (0, .methodref 12 15), (0, .nameAndType 5 16), (0, u "(I)V"), (0, .long 2), (1, .methodref 12 20), (0, .nameAndType 21 22), (0, u "isMajority"), (0, u "(I)Z"), (0, .class_ 24), (0, u "com/example/kelq/kelq/model/QuorumIsMajorityPinLaw"), (2, u "law"), (0, u "(II)Z")] 3

def k1m0 : Method := { name := "<init>", desc := "()V", sig := { parameters := [], returnType := none }, accessFlags := 2, code := none }
def k1c1 : Code := { maxStack := 4, maxLocals := 8, code := code, exceptionTable := #[], attributes := #[] }
def k1m1 : Method := { name := "law", desc := "(II)Z", sig := { parameters := [.int, .int], returnType := some .boolean }, accessFlags := 9, code := some k1c1 }
/-- com/example/kelq/kelq/model/QuorumIsMajorityPinLaw -/
def k1 : Class := { plain "com/example/kelq/kelq/model/QuorumIsMajorityPinLaw" (some 0) with
  accessFlags := 49
  interfaces := #[]
  cf := some (fileOf pool1 23 #[] #[{ accessFlags := 2, nameIndex := 5, descriptorIndex := 6, attributes := #[] }, { accessFlags := 9, nameIndex := 27, descriptorIndex := 28, attributes := #[] }] 49 2 #[] #[])
  fields := #[]
  methods := #[k1m0, k1m1]
  instanceTypes := #[]
  staticTypes := #[]
  resolved := Array.replicate 32 none
  statics := none }

def pool2 : Array CpInfo := pool [(1, .methodref 2 3), (0, .class_ 4), (0, .nameAndType 5 6), (0, u "java/lang/Object"), (0, u "<init>"), (0, u "()V"), (0, .class_ 8), (0, u "java/lang/Record")] 13

def k2c0 : Code := { maxStack := 1, maxLocals := 1, code := jdk_30_method_1_code, exceptionTable := #[], attributes := #[] }
def k2m0 : Method := { name := "<init>", desc := "()V", sig := { parameters := [], returnType := none }, accessFlags := 4, code := some k2c0 }
/-- java/lang/Record -/
def k2 : Class := { plain "java/lang/Record" (some 0) with
  accessFlags := 1057
  interfaces := #[]
  cf := some (fileOf pool2 7 #[] #[{ accessFlags := 4, nameIndex := 5, descriptorIndex := 6, attributes := #[] }] 1057 2 #[] #[])
  fields := #[]
  methods := #[k2m0]
  instanceTypes := #[]
  staticTypes := #[]
  resolved := Array.replicate 22 none
  statics := none }

def pool3 : Array CpInfo := pool [(1, .methodref 2 3), (0, .class_ 4), (0, .nameAndType 5 6), (0, u "java/lang/Record"), (0, u "<init>"), (0, u "()V"), (9, .fieldref 17 18), (0, .class_ 19), (0, .nameAndType 20 21), (0, u "com/example/kelq/kelq/model/Quorum"), (0, u "servers"), (0, u "I"), (3, .methodref 17 26), (0, .nameAndType 27 28), (0, u "majority"), (0, u "()I"), (25, u "DRIFT_FLOOR"), (0, u "Ljava/time/Duration;"), (33, u "isMajority"), (0, u "(I)Z"), (41, u "DRIFT_DIVISOR"), (0, u "J"), (1, u "NANOS_PER_SECOND"), (0, u "(I)V")] 44

def k3c0 : Code := { maxStack := 3, maxLocals := 2, code := prog_7_method_1_code, exceptionTable := #[], attributes := #[] }
def k3m0 : Method := { name := "<init>", desc := "(I)V", sig := { parameters := [.int], returnType := none }, accessFlags := 1, code := some k3c0 }
def k3c1 : Code := { maxStack := 2, maxLocals := 1, code := prog_7_method_2_code, exceptionTable := #[], attributes := #[] }
def k3m1 : Method := { name := "majority", desc := "()I", sig := { parameters := [], returnType := some .int }, accessFlags := 1, code := some k3c1 }
def k3c2 : Code := { maxStack := 4, maxLocals := 2, code := prog_7_method_3_code, exceptionTable := #[], attributes := #[] }
def k3m2 : Method := { name := "isMajority", desc := "(I)Z", sig := { parameters := [.int], returnType := some .boolean }, accessFlags := 1, code := some k3c2 }
/-- com/example/kelq/kelq/model/Quorum -/
def k3 : Class := { plain "com/example/kelq/kelq/model/Quorum" (some 2) with
  accessFlags := 49
  interfaces := #[]
  cf := some (fileOf pool3 17 #[] #[{ accessFlags := 1, nameIndex := 5, descriptorIndex := 136, attributes := #[] }, { accessFlags := 1, nameIndex := 27, descriptorIndex := 28, attributes := #[] }, { accessFlags := 1, nameIndex := 89, descriptorIndex := 90, attributes := #[] }] 49 2 #[] #[{ accessFlags := 18, nameIndex := 20, descriptorIndex := 21, attributes := #[] }, { accessFlags := 26, nameIndex := 132, descriptorIndex := 133, attributes := #[] }, { accessFlags := 26, nameIndex := 54, descriptorIndex := 55, attributes := #[] }, { accessFlags := 26, nameIndex := 135, descriptorIndex := 133, attributes := #[] }])
  fields := #[{ name := "servers", type := .int, accessFlags := 18, slot := 0, constantValue := 0 }, { name := "DRIFT_DIVISOR", type := .long, accessFlags := 26, slot := 0, constantValue := 0 }, { name := "DRIFT_FLOOR", type := (.object "java/time/Duration"), accessFlags := 26, slot := 1, constantValue := 0 }, { name := "NANOS_PER_SECOND", type := .long, accessFlags := 26, slot := 2, constantValue := 0 }]
  methods := #[k3m0, k3m1, k3m2]
  instanceTypes := #[.int]
  staticTypes := #[.long, (.object "java/time/Duration"), .long]
  resolved := Array.replicate 181 none
  statics := none }

def pool4 : Array CpInfo := pool [(1, u "java/lang/Cloneable"), (0, .class_ 1), (0, u "java/lang/Object"), (0, .class_ 3)] 3

/-- java/lang/Cloneable -/
def k4 : Class := { plain "java/lang/Cloneable" (some 0) with
  accessFlags := 1537
  interfaces := #[]
  cf := some (fileOf pool4 2 #[] #[] 1537 4 #[] #[])
  fields := #[]
  methods := #[]
  instanceTypes := #[]
  staticTypes := #[]
  resolved := Array.replicate 8 none
  statics := none }

def pool5 : Array CpInfo := pool [(1, u "java/io/Serializable"), (0, .class_ 1), (0, u "java/lang/Object"), (0, .class_ 3)] 3

/-- java/io/Serializable -/
def k5 : Class := { plain "java/io/Serializable" (some 0) with
  accessFlags := 1537
  interfaces := #[]
  cf := some (fileOf pool5 2 #[] #[] 1537 4 #[] #[])
  fields := #[]
  methods := #[]
  instanceTypes := #[]
  staticTypes := #[]
  resolved := Array.replicate 8 none
  statics := none }

/-- the primitive byte -/
def k6 : Class := { plain "byte" none with kind := .primitive 'B', accessFlags := 0x411 }
/-- [B -/
def k7 : Class := { plain "[B" (some 0) with kind := .array 6 .byte, interfaces := #[4, 5], accessFlags := 1041 }

/-- the primitive int -/
def k8 : Class := { plain "int" none with kind := .primitive 'I', accessFlags := 0x411 }
/-- [I -/
def k9 : Class := { plain "[I" (some 0) with kind := .array 8 .int, interfaces := #[4, 5], accessFlags := 1041 }

def heap : Heap := #[]
def classes : Array Class := #[k0, k1, k2, k3, k4, k5, k6, k7, k8, k9]
def interned : List (Array UInt16 × Addr) := []
def slotsUsed : Nat := 0
def theMethod : MethodId := ⟨1, 1⟩
def args0 : Array Value := #[.int 5, .int 3]
def aboutOver (below : List Frame) : State where
  vm := { classes := classes, interned := interned.toArray }
  heap := heap
  slotsUsed := slotsUsed
  threads := #[{ frames := .invoking theMethod args0 :: below }]
def below0 : List Frame := [.native { method := ⟨0, 0⟩, args := #[] }]
def about1 : State := aboutOver below0
def p0 : Program := .bare "" "" ""
def e0 : Env := launch0.env 0 0 0
theorem w_frames : about1.frames = Frame.invoking theMethod args0 :: below0 := rfl
set_option maxRecDepth 65536 in
theorem w_args : argsFit about1.vm theMethod args0 = true := by decide +kernel
set_option maxRecDepth 65536 in
theorem w_heap : heapFits about1 = true := by decide +kernel
set_option maxRecDepth 65536 in
theorem w_runnable : about1.curStatus? = some .runnable := by decide +kernel
set_option maxRecDepth 65536 in
theorem w_alone : about1.alone = true := by decide +kernel
set_option maxRecDepth 65536 in
theorem w_named : about1.methodNamed? x = some theMethod := by decide +kernel
set_option maxRecDepth 65536 in
theorem w_hears : about1.hears theMethod below0 = true := by decide +kernel
set_option maxRecDepth 65536 in
theorem w_ripe : about1.ripe theMethod args0 below0 = true := by decide +kernel
theorem w_running : about1.status = .running := rfl
set_option maxRecDepth 65536 in
theorem w_room : about1.hasRoom e0.platform room_1 = true :=
  launch0.hasRoom_least _ room_1 (by decide +kernel) (by decide +kernel) (by decide +kernel) (by decide +kernel) (by decide +kernel) (by decide +kernel)
theorem allAtoms_all (ts : List Jvm.Cond) (a : Array Jvm.Value) (st : Jvm.State) : (allAtoms ts).before a st = ts.all (fun c => c.before a st) := by
  induction ts with
  | nil => rfl
  | cons c t ih =>
    show (Jvm.Cond.and c (allAtoms t)).before a st = _
    rw [Jvm.Cond.before_and, ih, List.all_cons]
def words1 : List Jvm.Cond := Jvm.Cond.code x code maxLocals ret :: tables_1
/-- a 'code' word, met by the world's own term for the bytes: nothing is compared byte by byte -/
theorem code_word {y : MethodName} {bytes : ByteArray} {mx : Nat} {rt : Option FieldType} {a : Array Value} {s : State} {m : MethodId} {meth : Method} {c : Code} (h1 : s.methodNamed? y = some m) (h2 : s.vm.method? m = some meth) (h3 : meth.code = some c) (h4 : c.code = bytes)
    (h5 : (c.maxLocals == mx && c.exceptionTable.isEmpty && decide (c.maxStack ≤ mostOperands) && decide (meth.sig.returnType = rt) && !meth.locks && decide (parseMethodDescriptor y.desc = some meth.sig)) = true) : (Jvm.Cond.code y bytes mx rt).before a s = true := by
  simp only [Bool.and_eq_true, beq_iff_eq, Bool.not_eq_true', decide_eq_true_eq] at h5
  obtain ⟨⟨⟨⟨⟨g1, g2⟩, g3⟩, g4⟩, g5⟩, g6⟩ := h5
  simp [Cond.before, Cond.holds, Cond.value, h1, h2, h3, h4, g1, g2, g3, g4, g5, g6]
def isCode : Jvm.Cond → Bool
  | .code _ _ _ _ => true
  | _ => false
theorem all_split {L : List Jvm.Cond} {P : Jvm.Cond → Bool} (h1 : L.all (fun c => isCode c || P c) = true) (h2 : ∀ c ∈ L.filter isCode, P c = true) : L.all P = true := by
  refine List.all_eq_true.mpr fun c hc => ?_
  have h := List.all_eq_true.mp h1 c hc
  rcases Bool.eq_false_or_eq_true (isCode c) with hi | hi
  · exact h2 c (List.mem_filter.mpr ⟨hc, hi⟩)
  · simpa [hi] using h
set_option maxRecDepth 65536 in
theorem w_c0 : (Jvm.Cond.code x code maxLocals ret).before args0 about1 = true := code_word (m := ⟨1, 1⟩) (meth := k1m1) (c := k1c1) (by decide +kernel) rfl rfl rfl (by decide +kernel)
set_option maxRecDepth 65536 in
theorem w_c1 : (Jvm.Cond.code ({ cls := "com/example/kelq/kelq/model/Quorum", name := "<init>", desc := "(I)V" } : Jvm.MethodName) prog_7_method_1_code (2 : Nat) (Option.none : Option Jvm.ClassFile.FieldType)).before args0 about1 = true := code_word (m := ⟨3, 0⟩) (meth := k3m0) (c := k3c0) (by decide +kernel) rfl rfl rfl (by decide +kernel)
set_option maxRecDepth 65536 in
theorem w_c2 : (Jvm.Cond.code ({ cls := "java/lang/Record", name := "<init>", desc := "()V" } : Jvm.MethodName) jdk_30_method_1_code (1 : Nat) (Option.none : Option Jvm.ClassFile.FieldType)).before args0 about1 = true := code_word (m := ⟨2, 0⟩) (meth := k2m0) (c := k2c0) (by decide +kernel) rfl rfl rfl (by decide +kernel)
set_option maxRecDepth 65536 in
theorem w_c3 : (Jvm.Cond.code ({ cls := "java/lang/Object", name := "<init>", desc := "()V" } : Jvm.MethodName) object_method_1_code (1 : Nat) (Option.none : Option Jvm.ClassFile.FieldType)).before args0 about1 = true := code_word (m := ⟨0, 0⟩) (meth := k0m0) (c := k0c0) (by decide +kernel) rfl rfl rfl (by decide +kernel)
set_option maxRecDepth 65536 in
theorem w_c4 : (Jvm.Cond.code ({ cls := "com/example/kelq/kelq/model/Quorum", name := "isMajority", desc := "(I)Z" } : Jvm.MethodName) prog_7_method_3_code (2 : Nat) (Option.some Jvm.ClassFile.FieldType.boolean)).before args0 about1 = true := code_word (m := ⟨3, 2⟩) (meth := k3m2) (c := k3c2) (by decide +kernel) rfl rfl rfl (by decide +kernel)
set_option maxRecDepth 65536 in
theorem w_c5 : (Jvm.Cond.code ({ cls := "com/example/kelq/kelq/model/Quorum", name := "majority", desc := "()I" } : Jvm.MethodName) prog_7_method_2_code (1 : Nat) (Option.some Jvm.ClassFile.FieldType.int)).before args0 about1 = true := code_word (m := ⟨3, 1⟩) (meth := k3m1) (c := k3c1) (by decide +kernel) rfl rfl rfl (by decide +kernel)
def codes1 : List Jvm.Cond := [Jvm.Cond.code x code maxLocals ret, Jvm.Cond.code ({ cls := "com/example/kelq/kelq/model/Quorum", name := "<init>", desc := "(I)V" } : Jvm.MethodName) prog_7_method_1_code (2 : Nat) (Option.none : Option Jvm.ClassFile.FieldType), Jvm.Cond.code ({ cls := "java/lang/Record", name := "<init>", desc := "()V" } : Jvm.MethodName) jdk_30_method_1_code (1 : Nat) (Option.none : Option Jvm.ClassFile.FieldType), Jvm.Cond.code ({ cls := "java/lang/Object", name := "<init>", desc := "()V" } : Jvm.MethodName) object_method_1_code (1 : Nat) (Option.none : Option Jvm.ClassFile.FieldType), Jvm.Cond.code ({ cls := "com/example/kelq/kelq/model/Quorum", name := "isMajority", desc := "(I)Z" } : Jvm.MethodName) prog_7_method_3_code (2 : Nat) (Option.some Jvm.ClassFile.FieldType.boolean), Jvm.Cond.code ({ cls := "com/example/kelq/kelq/model/Quorum", name := "majority", desc := "()I" } : Jvm.MethodName) prog_7_method_2_code (1 : Nat) (Option.some Jvm.ClassFile.FieldType.int)]
set_option maxRecDepth 65536 in
theorem codes_eq : words1.filter isCode = codes1 := rfl
theorem w_codes : ∀ c ∈ words1.filter isCode, c.before args0 about1 = true := by
  rw [codes_eq]
  intro c hc
  simp only [codes1, List.mem_cons, List.not_mem_nil, or_false] at hc
  rcases hc with rfl | rfl | rfl | rfl | rfl | rfl
  · exact w_c0
  · exact w_c1
  · exact w_c2
  · exact w_c3
  · exact w_c4
  · exact w_c5
set_option maxRecDepth 65536 in
theorem w_t1 : (words1.take 24).all (fun c => isCode c || c.before args0 about1) = true := by decide +kernel
set_option maxRecDepth 65536 in
theorem w_t2 : (words1.drop 24).all (fun c => isCode c || c.before args0 about1) = true := by decide +kernel
theorem w_tables : (allAtoms (Jvm.Cond.code x code maxLocals ret :: tables_1)).before args0 about1 = true := by
  rw [allAtoms_all]
  show words1.all (fun c => c.before args0 about1) = true
  refine all_split ?_ w_codes
  rw [← List.take_append_drop 24 words1, List.all_append, w_t1, w_t2]
  rfl
set_option maxRecDepth 65536 in
theorem w_case : (Jvm.Cond.and given_1 narrow_1).before args0 about1 = true := by decide +kernel
theorem w_applies : (headSpec (Jvm.Cond.code x code maxLocals ret :: tables_1) room_1).applies x e0.platform about1 = true :=
  (Spec.applies_iff w_frames).mpr ⟨w_running, w_runnable, w_alone, w_named, w_hears, w_ripe, w_room, w_tables⟩
theorem atStart : AtStart classFile x code maxLocals ret World_1 tables_1 room_1 Calls_1 rest_1 Pre_1 launch0 p0 e0 about1 theMethod args0 below0 :=
  ⟨lists_1, trivial, launch0.admits_env _ _ _, launch0.least_env, fairChoices_fair.cas, fairChoices_fair.clock, w_frames, w_args, w_heap, w_applies, trivial, trivial, w_case⟩
end start1
theorem witness_1 : WitnessClaimed_1 := ⟨start1.p0, start1.e0, start1.about1, start1.theMethod, start1.args0, start1.below0, start1.atStart⟩
end Jvm.Pilot.@@N@@
