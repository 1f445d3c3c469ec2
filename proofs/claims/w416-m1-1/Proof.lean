import JvmDerived
import JvmDerived.Pilot.@@N@@Statement
import JvmDerived.Pilot.@@N@@Code
set_option linter.unusedVariables false
set_option linter.unusedSimpArgs false
namespace Jvm.RoadKit
open Sem ClassFile Op Lib Jvm.Stand Jvm.Free Jvm.LawKit
section New
variable {p : Program} {l : Launch} {e : Env} {R : Room} {s : State} {m : MethodId} {args : Array Value} {below : List Frame} {meth : Method} {c : Code} {T : State} {locs : List Loc} {cells slots : Nat}
theorem retI (X : Stand p l e R s m args below meth c T locs cells slots) (hx : p.tables.exec = Jvm.exec) {pc : Nat} {Ls : Array Slot} {z : Int32} {rest : List Value} (hret : meth.sig.returnType = some .int) (hd : decode c.code pc = .ok (.ireturn, 1)) {fs : List Frame}
    (hl : ∀ (f : JFrame) (acts : List Action), f.method = m → f.locked = none → f.entered = [] → (doReturn e (T.setTop f) acts (some (.int z))).1 = T.setFrames fs) : Steps p.tables e below (T.setTop (mkF m pc Ls (.int z :: rest))) (T.setFrames fs) := by
  have hm' : T.vm.method? m = some meth := X.method'
  have hn : narrow .int (.int z) = .int z := rfl
  show Steps p.tables e below (T.setTop { method := m, pc := pc, locals := Ls, stack := _ :: rest, locked := none }) _
  jvm_step X.here [X.here.top, hx, hd, hm', hret, hn]
  first | (intro acts; rw [hl _ acts rfl rfl rfl]) | rw [hl _ _ rfl rfl rfl]
  exact Steps.refl _
end New
end Jvm.RoadKit
namespace Jvm.Pilot.@@N@@
open Jvm Jvm.ClassFile Sem Op Lib Jvm.Free Jvm.Stand Jvm.LawKit Jvm.RoadKit Bundle Jvm.Pilot.@@N@@.Jvm.D
theorem own_lw_lt (x y : Int64) : lcmpW x y < 0 ↔ x < y := by rw [lcW]; exact lc_lt x y
theorem own_lw_gt (x y : Int64) : 0 < lcmpW x y ↔ y < x := by rw [lcW]; exact lc_gt x y
theorem own_lw_eq (x y : Int64) : lcmpW x y = 0 ↔ x = y := by rw [lcW]; exact lc_eq x y
theorem own_retJ {p : Program} {l : Launch} {e : Env} {R : Room} {s : State} {m : MethodId} {args : Array Value} {below : List Frame} {meth : Method} {c : Code} {T : State} {locs : List Loc} {cells slots : Nat} (X : Stand p l e R s m args below meth c T locs cells slots) (hx : p.tables.exec = Jvm.exec) {pc : Nat} {Ls : Array Slot} {z : Int64} {rest : List Value} (hret : meth.sig.returnType = some .long) (hd : decode c.code pc = .ok (.lreturn, 1)) {fs : List Frame}
    (hl : ∀ (f : JFrame) (acts : List Action), f.method = m → f.locked = none → f.entered = [] → (doReturn e (T.setTop f) acts (some (.long z))).1 = T.setFrames fs) : Steps p.tables e below (T.setTop (mkF m pc Ls (.long z :: rest))) (T.setFrames fs) := by
  have hm' : T.vm.method? m = some meth := X.method'
  have hn : narrow .long (.long z) = .long z := rfl
  show Steps p.tables e below (T.setTop { method := m, pc := pc, locals := Ls, stack := _ :: rest, locked := none }) _
  jvm_step X.here [X.here.top, hx, hd, hm', hret, hn]
  first | (intro acts; rw [hl _ acts rfl rfl rfl]) | rw [hl _ _ rfl rfl rfl]
  exact Steps.refl _
theorem own_ne32 {k n : Int32} (h : ¬ k = n) : n.toInt ≠ k.toInt := fun e => h (Int32.toInt_inj.mp e.symm)
theorem own_d1_0 : decode prog_22_method_1_code 0 = .ok (.aload_n 0, 1) := by decide +kernel
theorem own_d1_1 : decode prog_22_method_1_code 1 = .ok (.invokespecial 1, 3) := by decide +kernel
theorem own_d1_4 : decode prog_22_method_1_code 4 = .ok (.aload_n 0, 1) := by decide +kernel
theorem own_d1_5 : decode prog_22_method_1_code 5 = .ok (.lload_n 1, 1) := by decide +kernel
theorem own_d1_6 : decode prog_22_method_1_code 6 = .ok (.putfield 7, 3) := by decide +kernel
theorem own_d1_9 : decode prog_22_method_1_code 9 = .ok (.return_, 1) := by decide +kernel
theorem own_pn1 : plainName "com/example/trickchest/trickchest/SeededRandom" = true := by first | (simp [plainName, overriddenIn]; done) | decide +kernel
theorem own_ef1 (m : MethodId) (x0 : Addr) (x1 : Int64) : entryFrame m #[(.ref x0), (.long x1)] 3 = (mkF m 0 #[.val (.ref x0), .val (.long x1), .second] []) := by first | (simp [entryFrame, mkF, argsToLocals, Value.category]; done) | rfl
def own_Q1 (Z : State) (o0 : Addr) (q1 : Int64) (u_state_o0 : Value) (h0 : Heap) (n0 : Nat) (v : Option Value) (h : Heap) (L : List Loc) : Prop := v = none ∧ Fr n0 L ∧ Keep h0 h [o0] ∧ Exa Z h o0 "com/example/trickchest/trickchest/SeededRandom" ∧ Fld Z h o0 "com/example/trickchest/trickchest/SeededRandom" "state" "J" (.long q1)
set_option maxRecDepth 65536 in
set_option maxHeartbeats 40000000 in
theorem own_rm1 (l : Launch) (Z : State) (a0 : Array Value) (hw : ∀ d ∈ tables_1, d.before a0 Z = true) (ws : List Jvm.Cond) (o0 : Addr) (q1 : Int64) (u_state_o0 : Value) (h0 : Heap) (n0 : Nat) (Z0 : n0 ≤ h0.size) (P_E_o0 : Exa Z h0 o0 "com/example/trickchest/trickchest/SeededRandom") (P_F_o0_state : Fld Z h0 o0 "com/example/trickchest/trickchest/SeededRandom" "state" "J" u_state_o0) (G_o0 : n0 ≤ o0) :
    MetFree l (⟨"com/example/trickchest/trickchest/SeededRandom", "<init>", "(J)V"⟩ : MethodName) (head1 (Jvm.Cond.code (⟨"com/example/trickchest/trickchest/SeededRandom", "<init>", "(J)V"⟩ : MethodName) prog_22_method_1_code 3 none :: ws) ({ frames := 1, cells := 0, slots := 0, locals := 12 } : Room)) (fun a U => a = #[(.ref o0), (.long q1)] ∧ Z.Warmed39 U.vm ∧ U.heap = h0) (fun _ _ _ _ _ => True) (fun _ U o U' => ∃ v L, o = .returned v ∧ own_Q1 Z o0 q1 u_state_o0 h0 n0 v U'.heap L ∧ FrameEnd U o U' L ({ frames := 1, cells := 0, slots := 0, locals := 12 } : Room).cells ({ frames := 1, cells := 0, slots := 0, locals := 12 } : Room).slots) := by
  refine MetFree.of_bodySF (plainFor_of_name own_pn1) hisR ?_
  intro p e s m args below meth c s₁ Bd hml0 hP hK
  obtain ⟨rfl, hZ, hh⟩ := hP
  have hx := Bd.exec
  have hby := Bd.bytes
  have hml : c.maxLocals = 3 := hml0
  have hown : s.vm.findClass "com/example/trickchest/trickchest/SeededRandom" = some m.cls := findClass_of_methodNamed Bd.named
  have hnm := (name_of_methodNamed Bd.named Bd.method).1
  have X0 : Stand p l e ({ frames := 1, cells := 0, slots := 0, locals := 12 } : Room) s m #[(.ref o0), (.long q1)] below meth c s₁ [] 0 0 := Stand.of_body Bd
  have e0 : s₁.heap = h0 := by rw [← hh, Bd.state]; rfl
  have N0 := Fr.nil n0
  have pre0 : ∀ t, Steps p.tables e below (s₁.setTop (mkF m 0 #[.val (.ref o0), .val (.long q1), .second] [])) t → Steps p.tables e below (s₁.setTop (entryFrame m #[(.ref o0), (.long q1)] 3)) t := fun t k => castTop (own_ef1 m o0 q1) k
  obtain ⟨T1, X1, e1, st1⟩ := initO X0 hx hZ hown (hw _ (List.mem_of_getElem? (i := 7) rfl)) (hw _ (List.mem_of_getElem? (i := 8) rfl)) (hw _ (List.mem_of_getElem? (i := 9) rfl)) e0 (g := (mkF m 1 #[.val (.ref o0), .val (.long q1), .second] [(.ref o0)])) rfl (by rw [hml]; rfl) rfl (hb hby own_d1_1) (by decide) (W := 0) (by show 2 * 0 + _ ≤ _; exact Nat.le_of_eq rfl) (by decide)
  obtain ⟨T2, h2, X2, e2, W2, st2⟩ := putF X1 hx hZ hown (host := "") (Or.inl (hw _ (List.mem_of_getElem? (i := 10) rfl))) Via.refl e1 P_F_o0_state P_E_o0 (Or.inl (hw _ (List.mem_of_getElem? (i := 11) rfl))) (hw _ (List.mem_of_getElem? (i := 2) rfl)) (ty := .long) (by decide) rfl rfl (g := (mkF m 6 #[.val (.ref o0), .val (.long q1), .second] [(.long q1), (.ref o0)])) rfl rfl (hb hby own_d1_6)
  have f3 : Exa Z h2 o0 "com/example/trickchest/trickchest/SeededRandom" := P_E_o0.wr W2
  have f4 : Fld Z h2 o0 "com/example/trickchest/trickchest/SeededRandom" "state" "J" (.long q1) := P_F_o0_state.same W2
  have zs5 : n0 ≤ h2.size := Nat.le_trans Z0 (Keep.of_wr W2).1
  have N6 := Fr.snoc X2 N0 G_o0
  have K7 : Keep h0 h0 [o0] := Keep.refl h0 [o0]
  have K8 : Keep h0 h2 [o0] := K7.wr W2 (Or.inl (by simp))
  have pre9 : ∀ t, Steps p.tables e below (T2.setTop (mkF m 9 #[.val (.ref o0), .val (.long q1), .second] [])) t → Steps p.tables e below (s₁.setTop (entryFrame m #[(.ref o0), (.long q1)] 3)) t := fun t k => pre0 t (by
      refine XS.aloadN X0.here hx rfl (hb hby own_d1_0) rfl rfl ?_
      show Steps p.tables e below (s₁.setTop (mkF m 1 #[.val (.ref o0), .val (.long q1), .second] [(.ref o0)])) _
      refine st1 _ ?_
      show Steps p.tables e below (T1.setTop (mkF m 4 #[.val (.ref o0), .val (.long q1), .second] [])) _
      refine XS.aloadN X1.here hx rfl (hb hby own_d1_4) rfl rfl ?_
      show Steps p.tables e below (T1.setTop (mkF m 5 #[.val (.ref o0), .val (.long q1), .second] [(.ref o0)])) _
      refine XS.lloadN X1.here hx rfl (hb hby own_d1_5) rfl ?_
      show Steps p.tables e below (T1.setTop (mkF m 6 #[.val (.ref o0), .val (.long q1), .second] [(.long q1), (.ref o0)])) _
      refine st2 _ ?_
      show Steps p.tables e below (T2.setTop (mkF m 9 #[.val (.ref o0), .val (.long q1), .second] [])) _
      exact k)
  obtain ⟨fs, hr, hrun, hended, hW, hsame⟩ := X2.leave (v := none) (fun _ => rfl)
  refine ⟨_, _, pre9 _ ?_, hrun, hended, _, _, rfl, ?_, ⟨_, rfl⟩, hW, hsame.mono (by decide) (by decide)⟩
  · show Steps p.tables e below (T2.setTop (mkF m 9 #[.val (.ref o0), .val (.long q1), .second] [])) _
    exact X2.returnOut hx Bd.returns (hb hby own_d1_9) hr
  · show own_Q1 Z o0 q1 u_state_o0 h0 n0 _ T2.heap _; rw [e2]; exact ⟨rfl, N6, K8, f3, f4⟩
theorem own_d3_0 : decode prog_22_method_3_code 0 = .ok (.aload_n 0, 1) := by decide +kernel
theorem own_d3_1 : decode prog_22_method_3_code 1 = .ok (.dup, 1) := by decide +kernel
theorem own_d3_2 : decode prog_22_method_3_code 2 = .ok (.getfield 7, 3) := by decide +kernel
theorem own_d3_5 : decode prog_22_method_3_code 5 = .ok (.ldc2_w 18, 3) := by decide +kernel
theorem own_d3_8 : decode prog_22_method_3_code 8 = .ok (.ladd, 1) := by decide +kernel
theorem own_d3_9 : decode prog_22_method_3_code 9 = .ok (.putfield 7, 3) := by decide +kernel
theorem own_d3_12 : decode prog_22_method_3_code 12 = .ok (.aload_n 0, 1) := by decide +kernel
theorem own_d3_13 : decode prog_22_method_3_code 13 = .ok (.getfield 7, 3) := by decide +kernel
theorem own_d3_16 : decode prog_22_method_3_code 16 = .ok (.lstore_n 1, 1) := by decide +kernel
theorem own_d3_17 : decode prog_22_method_3_code 17 = .ok (.lload_n 1, 1) := by decide +kernel
theorem own_d3_18 : decode prog_22_method_3_code 18 = .ok (.lload_n 1, 1) := by decide +kernel
theorem own_d3_19 : decode prog_22_method_3_code 19 = .ok (.bipush 30, 2) := by decide +kernel
theorem own_d3_21 : decode prog_22_method_3_code 21 = .ok (.lushr, 1) := by decide +kernel
theorem own_d3_22 : decode prog_22_method_3_code 22 = .ok (.lxor, 1) := by decide +kernel
theorem own_d3_23 : decode prog_22_method_3_code 23 = .ok (.ldc2_w 20, 3) := by decide +kernel
theorem own_d3_26 : decode prog_22_method_3_code 26 = .ok (.lmul, 1) := by decide +kernel
theorem own_d3_27 : decode prog_22_method_3_code 27 = .ok (.lstore_n 1, 1) := by decide +kernel
theorem own_d3_28 : decode prog_22_method_3_code 28 = .ok (.lload_n 1, 1) := by decide +kernel
theorem own_d3_29 : decode prog_22_method_3_code 29 = .ok (.lload_n 1, 1) := by decide +kernel
theorem own_d3_30 : decode prog_22_method_3_code 30 = .ok (.bipush 27, 2) := by decide +kernel
theorem own_d3_32 : decode prog_22_method_3_code 32 = .ok (.lushr, 1) := by decide +kernel
theorem own_d3_33 : decode prog_22_method_3_code 33 = .ok (.lxor, 1) := by decide +kernel
theorem own_d3_34 : decode prog_22_method_3_code 34 = .ok (.ldc2_w 22, 3) := by decide +kernel
theorem own_d3_37 : decode prog_22_method_3_code 37 = .ok (.lmul, 1) := by decide +kernel
theorem own_d3_38 : decode prog_22_method_3_code 38 = .ok (.lstore_n 1, 1) := by decide +kernel
theorem own_d3_39 : decode prog_22_method_3_code 39 = .ok (.lload_n 1, 1) := by decide +kernel
theorem own_d3_40 : decode prog_22_method_3_code 40 = .ok (.lload_n 1, 1) := by decide +kernel
theorem own_d3_41 : decode prog_22_method_3_code 41 = .ok (.bipush 31, 2) := by decide +kernel
theorem own_d3_43 : decode prog_22_method_3_code 43 = .ok (.lushr, 1) := by decide +kernel
theorem own_d3_44 : decode prog_22_method_3_code 44 = .ok (.lxor, 1) := by decide +kernel
theorem own_d3_45 : decode prog_22_method_3_code 45 = .ok (.lreturn, 1) := by decide +kernel
theorem own_pn3 : plainName "com/example/trickchest/trickchest/SeededRandom" = true := by first | (simp [plainName, overriddenIn]; done) | decide +kernel
theorem own_ef3 (m : MethodId) (x0 : Addr) : entryFrame m #[(.ref x0)] 3 = (mkF m 0 #[.val (.ref x0), .unset, .unset] []) := by first | (simp [entryFrame, mkF, argsToLocals, Value.category]; done) | rfl
def own_v3_16_0 (w_state_o0 : Int64) : Int64 := (w_state_o0 + (-7046029254386353131 : Int64))
def own_v3_27_1 (w_state_o0 : Int64) : Int64 := (((own_v3_16_0 w_state_o0) ^^^ (((own_v3_16_0 w_state_o0).toUInt64 >>> ((30 : Int32) &&& 0x3f).toInt64.toUInt64).toInt64)) * (-4658895280553007687 : Int64))
def own_v3_38_2 (w_state_o0 : Int64) : Int64 := (((own_v3_27_1 w_state_o0) ^^^ (((own_v3_27_1 w_state_o0).toUInt64 >>> ((27 : Int32) &&& 0x3f).toInt64.toUInt64).toInt64)) * (-7723592293110705685 : Int64))
def own_f3 (w_state_o0 : Int64) : Int64 := ((own_v3_38_2 w_state_o0) ^^^ (((own_v3_38_2 w_state_o0).toUInt64 >>> ((31 : Int32) &&& 0x3f).toInt64.toUInt64).toInt64))
def own_Q3 (Z : State) (o0 : Addr) (w_state_o0 : Int64) (h0 : Heap) (n0 : Nat) (v : Option Value) (h : Heap) (L : List Loc) : Prop := v = some (.long (own_f3 w_state_o0)) ∧ Fr n0 L ∧ Keep h0 h [o0] ∧ Fld Z h o0 "com/example/trickchest/trickchest/SeededRandom" "state" "J" (.long (w_state_o0 + (-7046029254386353131 : Int64))) ∧ Exa Z h o0 "com/example/trickchest/trickchest/SeededRandom"
set_option maxRecDepth 65536 in
set_option maxHeartbeats 40000000 in
theorem own_rm3 (l : Launch) (Z : State) (a0 : Array Value) (hw : ∀ d ∈ tables_1, d.before a0 Z = true) (ws : List Jvm.Cond) (o0 : Addr) (w_state_o0 : Int64) (h0 : Heap) (n0 : Nat) (Z0 : n0 ≤ h0.size) (P_F_o0_state : Fld Z h0 o0 "com/example/trickchest/trickchest/SeededRandom" "state" "J" (.long w_state_o0)) (P_E_o0 : Exa Z h0 o0 "com/example/trickchest/trickchest/SeededRandom") (G_o0 : n0 ≤ o0) :
    MetFree l (⟨"com/example/trickchest/trickchest/SeededRandom", "nextLong", "()J"⟩ : MethodName) (head1 (Jvm.Cond.code (⟨"com/example/trickchest/trickchest/SeededRandom", "nextLong", "()J"⟩ : MethodName) prog_22_method_3_code 3 (some .long) :: ws) ({ frames := 0, cells := 0, slots := 0, locals := 0 } : Room)) (fun a U => a = #[(.ref o0)] ∧ Z.Warmed39 U.vm ∧ U.heap = h0) (fun _ _ _ _ _ => True) (fun _ U o U' => ∃ v L, o = .returned v ∧ own_Q3 Z o0 w_state_o0 h0 n0 v U'.heap L ∧ FrameEnd U o U' L ({ frames := 0, cells := 0, slots := 0, locals := 0 } : Room).cells ({ frames := 0, cells := 0, slots := 0, locals := 0 } : Room).slots) := by
  refine MetFree.of_bodySF (plainFor_of_name own_pn3) hisR ?_
  intro p e s m args below meth c s₁ Bd hml0 hP hK
  obtain ⟨rfl, hZ, hh⟩ := hP
  have hx := Bd.exec
  have hby := Bd.bytes
  have hml : c.maxLocals = 3 := hml0
  have hown : s.vm.findClass "com/example/trickchest/trickchest/SeededRandom" = some m.cls := findClass_of_methodNamed Bd.named
  have hnm := (name_of_methodNamed Bd.named Bd.method).1
  have X0 : Stand p l e ({ frames := 0, cells := 0, slots := 0, locals := 0 } : Room) s m #[(.ref o0)] below meth c s₁ [] 0 0 := Stand.of_body Bd
  have e0 : s₁.heap = h0 := by rw [← hh, Bd.state]; rfl
  have N0 := Fr.nil n0
  have pre0 : ∀ t, Steps p.tables e below (s₁.setTop (mkF m 0 #[.val (.ref o0), .unset, .unset] [])) t → Steps p.tables e below (s₁.setTop (entryFrame m #[(.ref o0)] 3)) t := fun t k => castTop (own_ef3 m o0) k
  obtain ⟨T1, X1, e1, st1⟩ := getF X0 hx hZ hown (host := "") (Or.inl (hw _ (List.mem_of_getElem? (i := 10) rfl))) Via.refl e0 P_F_o0_state (g := (mkF m 2 #[.val (.ref o0), .unset, .unset] [(.ref o0), (.ref o0)])) rfl rfl (hb hby own_d3_2)
  obtain ⟨T2, h2, X2, e2, W2, st2⟩ := putF X1 hx hZ hown (host := "") (Or.inl (hw _ (List.mem_of_getElem? (i := 10) rfl))) Via.refl e1 P_F_o0_state P_E_o0 (Or.inl (hw _ (List.mem_of_getElem? (i := 11) rfl))) (hw _ (List.mem_of_getElem? (i := 2) rfl)) (ty := .long) (by decide) rfl rfl (g := (mkF m 9 #[.val (.ref o0), .unset, .unset] [(.long (w_state_o0 + (-7046029254386353131 : Int64))), (.ref o0)])) rfl rfl (hb hby own_d3_9)
  have f3 : Fld Z h2 o0 "com/example/trickchest/trickchest/SeededRandom" "state" "J" (.long (w_state_o0 + (-7046029254386353131 : Int64))) := P_F_o0_state.same W2
  have f4 : Exa Z h2 o0 "com/example/trickchest/trickchest/SeededRandom" := P_E_o0.wr W2
  have zs5 : n0 ≤ h2.size := Nat.le_trans Z0 (Keep.of_wr W2).1
  have N6 := Fr.snoc X2 N0 G_o0
  have K7 : Keep h0 h0 [o0] := Keep.refl h0 [o0]
  have K8 : Keep h0 h2 [o0] := K7.wr W2 (Or.inl (by simp))
  obtain ⟨T9, X9, e9, st9⟩ := getF X2 hx hZ hown (host := "") (Or.inl (hw _ (List.mem_of_getElem? (i := 10) rfl))) Via.refl e2 f3 (g := (mkF m 13 #[.val (.ref o0), .unset, .unset] [(.ref o0)])) rfl rfl (hb hby own_d3_13)
  have pre10 : ∀ t, Steps p.tables e below (T9.setTop (mkF m 45 #[.val (.ref o0), .val (.long (own_v3_38_2 w_state_o0)), .second] [(.long ((own_v3_38_2 w_state_o0) ^^^ (((own_v3_38_2 w_state_o0).toUInt64 >>> ((31 : Int32) &&& 0x3f).toInt64.toUInt64).toInt64)))])) t → Steps p.tables e below (s₁.setTop (entryFrame m #[(.ref o0)] 3)) t := fun t k => pre0 t (by
      refine XS.aloadN X0.here hx rfl (hb hby own_d3_0) rfl rfl ?_
      show Steps p.tables e below (s₁.setTop (mkF m 1 #[.val (.ref o0), .unset, .unset] [(.ref o0)])) _
      refine XS.dup X0.here hx rfl (hb hby own_d3_1) rfl rfl ?_
      show Steps p.tables e below (s₁.setTop (mkF m 2 #[.val (.ref o0), .unset, .unset] [(.ref o0), (.ref o0)])) _
      refine st1 _ ?_
      show Steps p.tables e below (T1.setTop (mkF m 5 #[.val (.ref o0), .unset, .unset] [(.long w_state_o0), (.ref o0)])) _
      refine X1.ldc2Long hx hown (mvT hZ (hw _ (List.mem_of_getElem? (i := 17) rfl))) (g := (mkF m 5 #[.val (.ref o0), .unset, .unset] [(.long w_state_o0), (.ref o0)])) rfl (hb hby own_d3_5) _ ?_
      show Steps p.tables e below (T1.setTop (mkF m 8 #[.val (.ref o0), .unset, .unset] [(.long (-7046029254386353131 : Int64)), (.long w_state_o0), (.ref o0)])) _
      refine XS.ladd X1.here hx rfl (hb hby own_d3_8) rfl ?_
      show Steps p.tables e below (T1.setTop (mkF m 9 #[.val (.ref o0), .unset, .unset] [(.long (w_state_o0 + (-7046029254386353131 : Int64))), (.ref o0)])) _
      refine st2 _ ?_
      show Steps p.tables e below (T2.setTop (mkF m 12 #[.val (.ref o0), .unset, .unset] [])) _
      refine XS.aloadN X2.here hx rfl (hb hby own_d3_12) rfl rfl ?_
      show Steps p.tables e below (T2.setTop (mkF m 13 #[.val (.ref o0), .unset, .unset] [(.ref o0)])) _
      refine st9 _ ?_
      show Steps p.tables e below (T9.setTop (mkF m 16 #[.val (.ref o0), .unset, .unset] [(.long (w_state_o0 + (-7046029254386353131 : Int64)))])) _
      refine XS.lstoreN X9.here hx rfl (hb hby own_d3_16) rfl (l' := #[.val (.ref o0), .val (.long (own_v3_16_0 w_state_o0)), .second]) rfl ?_
      show Steps p.tables e below (T9.setTop (mkF m 17 #[.val (.ref o0), .val (.long (own_v3_16_0 w_state_o0)), .second] [])) _
      refine XS.lloadN X9.here hx rfl (hb hby own_d3_17) rfl ?_
      show Steps p.tables e below (T9.setTop (mkF m 18 #[.val (.ref o0), .val (.long (own_v3_16_0 w_state_o0)), .second] [(.long (own_v3_16_0 w_state_o0))])) _
      refine XS.lloadN X9.here hx rfl (hb hby own_d3_18) rfl ?_
      show Steps p.tables e below (T9.setTop (mkF m 19 #[.val (.ref o0), .val (.long (own_v3_16_0 w_state_o0)), .second] [(.long (own_v3_16_0 w_state_o0)), (.long (own_v3_16_0 w_state_o0))])) _
      refine XS.bipush X9.here hx rfl (hb hby own_d3_19) ?_
      show Steps p.tables e below (T9.setTop (mkF m 21 #[.val (.ref o0), .val (.long (own_v3_16_0 w_state_o0)), .second] [(.int (30 : Int32)), (.long (own_v3_16_0 w_state_o0)), (.long (own_v3_16_0 w_state_o0))])) _
      refine XS.lushr X9.here hx rfl (hb hby own_d3_21) rfl ?_
      show Steps p.tables e below (T9.setTop (mkF m 22 #[.val (.ref o0), .val (.long (own_v3_16_0 w_state_o0)), .second] [(.long (((own_v3_16_0 w_state_o0).toUInt64 >>> ((30 : Int32) &&& 0x3f).toInt64.toUInt64).toInt64)), (.long (own_v3_16_0 w_state_o0))])) _
      refine XS.lxor X9.here hx rfl (hb hby own_d3_22) rfl ?_
      show Steps p.tables e below (T9.setTop (mkF m 23 #[.val (.ref o0), .val (.long (own_v3_16_0 w_state_o0)), .second] [(.long ((own_v3_16_0 w_state_o0) ^^^ (((own_v3_16_0 w_state_o0).toUInt64 >>> ((30 : Int32) &&& 0x3f).toInt64.toUInt64).toInt64)))])) _
      refine X9.ldc2Long hx hown (mvT hZ (hw _ (List.mem_of_getElem? (i := 18) rfl))) (g := (mkF m 23 #[.val (.ref o0), .val (.long (own_v3_16_0 w_state_o0)), .second] [(.long ((own_v3_16_0 w_state_o0) ^^^ (((own_v3_16_0 w_state_o0).toUInt64 >>> ((30 : Int32) &&& 0x3f).toInt64.toUInt64).toInt64)))])) rfl (hb hby own_d3_23) _ ?_
      show Steps p.tables e below (T9.setTop (mkF m 26 #[.val (.ref o0), .val (.long (own_v3_16_0 w_state_o0)), .second] [(.long (-4658895280553007687 : Int64)), (.long ((own_v3_16_0 w_state_o0) ^^^ (((own_v3_16_0 w_state_o0).toUInt64 >>> ((30 : Int32) &&& 0x3f).toInt64.toUInt64).toInt64)))])) _
      refine XS.lmul X9.here hx rfl (hb hby own_d3_26) rfl ?_
      show Steps p.tables e below (T9.setTop (mkF m 27 #[.val (.ref o0), .val (.long (own_v3_16_0 w_state_o0)), .second] [(.long (((own_v3_16_0 w_state_o0) ^^^ (((own_v3_16_0 w_state_o0).toUInt64 >>> ((30 : Int32) &&& 0x3f).toInt64.toUInt64).toInt64)) * (-4658895280553007687 : Int64)))])) _
      refine XS.lstoreN X9.here hx rfl (hb hby own_d3_27) rfl (l' := #[.val (.ref o0), .val (.long (own_v3_27_1 w_state_o0)), .second]) rfl ?_
      show Steps p.tables e below (T9.setTop (mkF m 28 #[.val (.ref o0), .val (.long (own_v3_27_1 w_state_o0)), .second] [])) _
      refine XS.lloadN X9.here hx rfl (hb hby own_d3_28) rfl ?_
      show Steps p.tables e below (T9.setTop (mkF m 29 #[.val (.ref o0), .val (.long (own_v3_27_1 w_state_o0)), .second] [(.long (own_v3_27_1 w_state_o0))])) _
      refine XS.lloadN X9.here hx rfl (hb hby own_d3_29) rfl ?_
      show Steps p.tables e below (T9.setTop (mkF m 30 #[.val (.ref o0), .val (.long (own_v3_27_1 w_state_o0)), .second] [(.long (own_v3_27_1 w_state_o0)), (.long (own_v3_27_1 w_state_o0))])) _
      refine XS.bipush X9.here hx rfl (hb hby own_d3_30) ?_
      show Steps p.tables e below (T9.setTop (mkF m 32 #[.val (.ref o0), .val (.long (own_v3_27_1 w_state_o0)), .second] [(.int (27 : Int32)), (.long (own_v3_27_1 w_state_o0)), (.long (own_v3_27_1 w_state_o0))])) _
      refine XS.lushr X9.here hx rfl (hb hby own_d3_32) rfl ?_
      show Steps p.tables e below (T9.setTop (mkF m 33 #[.val (.ref o0), .val (.long (own_v3_27_1 w_state_o0)), .second] [(.long (((own_v3_27_1 w_state_o0).toUInt64 >>> ((27 : Int32) &&& 0x3f).toInt64.toUInt64).toInt64)), (.long (own_v3_27_1 w_state_o0))])) _
      refine XS.lxor X9.here hx rfl (hb hby own_d3_33) rfl ?_
      show Steps p.tables e below (T9.setTop (mkF m 34 #[.val (.ref o0), .val (.long (own_v3_27_1 w_state_o0)), .second] [(.long ((own_v3_27_1 w_state_o0) ^^^ (((own_v3_27_1 w_state_o0).toUInt64 >>> ((27 : Int32) &&& 0x3f).toInt64.toUInt64).toInt64)))])) _
      refine X9.ldc2Long hx hown (mvT hZ (hw _ (List.mem_of_getElem? (i := 19) rfl))) (g := (mkF m 34 #[.val (.ref o0), .val (.long (own_v3_27_1 w_state_o0)), .second] [(.long ((own_v3_27_1 w_state_o0) ^^^ (((own_v3_27_1 w_state_o0).toUInt64 >>> ((27 : Int32) &&& 0x3f).toInt64.toUInt64).toInt64)))])) rfl (hb hby own_d3_34) _ ?_
      show Steps p.tables e below (T9.setTop (mkF m 37 #[.val (.ref o0), .val (.long (own_v3_27_1 w_state_o0)), .second] [(.long (-7723592293110705685 : Int64)), (.long ((own_v3_27_1 w_state_o0) ^^^ (((own_v3_27_1 w_state_o0).toUInt64 >>> ((27 : Int32) &&& 0x3f).toInt64.toUInt64).toInt64)))])) _
      refine XS.lmul X9.here hx rfl (hb hby own_d3_37) rfl ?_
      show Steps p.tables e below (T9.setTop (mkF m 38 #[.val (.ref o0), .val (.long (own_v3_27_1 w_state_o0)), .second] [(.long (((own_v3_27_1 w_state_o0) ^^^ (((own_v3_27_1 w_state_o0).toUInt64 >>> ((27 : Int32) &&& 0x3f).toInt64.toUInt64).toInt64)) * (-7723592293110705685 : Int64)))])) _
      refine XS.lstoreN X9.here hx rfl (hb hby own_d3_38) rfl (l' := #[.val (.ref o0), .val (.long (own_v3_38_2 w_state_o0)), .second]) rfl ?_
      show Steps p.tables e below (T9.setTop (mkF m 39 #[.val (.ref o0), .val (.long (own_v3_38_2 w_state_o0)), .second] [])) _
      refine XS.lloadN X9.here hx rfl (hb hby own_d3_39) rfl ?_
      show Steps p.tables e below (T9.setTop (mkF m 40 #[.val (.ref o0), .val (.long (own_v3_38_2 w_state_o0)), .second] [(.long (own_v3_38_2 w_state_o0))])) _
      refine XS.lloadN X9.here hx rfl (hb hby own_d3_40) rfl ?_
      show Steps p.tables e below (T9.setTop (mkF m 41 #[.val (.ref o0), .val (.long (own_v3_38_2 w_state_o0)), .second] [(.long (own_v3_38_2 w_state_o0)), (.long (own_v3_38_2 w_state_o0))])) _
      refine XS.bipush X9.here hx rfl (hb hby own_d3_41) ?_
      show Steps p.tables e below (T9.setTop (mkF m 43 #[.val (.ref o0), .val (.long (own_v3_38_2 w_state_o0)), .second] [(.int (31 : Int32)), (.long (own_v3_38_2 w_state_o0)), (.long (own_v3_38_2 w_state_o0))])) _
      refine XS.lushr X9.here hx rfl (hb hby own_d3_43) rfl ?_
      show Steps p.tables e below (T9.setTop (mkF m 44 #[.val (.ref o0), .val (.long (own_v3_38_2 w_state_o0)), .second] [(.long (((own_v3_38_2 w_state_o0).toUInt64 >>> ((31 : Int32) &&& 0x3f).toInt64.toUInt64).toInt64)), (.long (own_v3_38_2 w_state_o0))])) _
      refine XS.lxor X9.here hx rfl (hb hby own_d3_44) rfl ?_
      show Steps p.tables e below (T9.setTop (mkF m 45 #[.val (.ref o0), .val (.long (own_v3_38_2 w_state_o0)), .second] [(.long ((own_v3_38_2 w_state_o0) ^^^ (((own_v3_38_2 w_state_o0).toUInt64 >>> ((31 : Int32) &&& 0x3f).toInt64.toUInt64).toInt64)))])) _
      exact k)
  obtain ⟨fs, hr, hrun, hended, hW, hsame⟩ := X9.leave (v := some (.long ((own_v3_38_2 w_state_o0) ^^^ (((own_v3_38_2 w_state_o0).toUInt64 >>> ((31 : Int32) &&& 0x3f).toInt64.toUInt64).toInt64)))) (fun h => by rw [Bd.returns] at h; cases h)
  refine ⟨_, _, pre10 _ ?_, hrun, hended, _, _, rfl, ?_, ⟨_, rfl⟩, hW, hsame.mono (by decide) (by decide)⟩
  · show Steps p.tables e below (T9.setTop (mkF m 45 #[.val (.ref o0), .val (.long (own_v3_38_2 w_state_o0)), .second] [(.long ((own_v3_38_2 w_state_o0) ^^^ (((own_v3_38_2 w_state_o0).toUInt64 >>> ((31 : Int32) &&& 0x3f).toInt64.toUInt64).toInt64)))])) _
    exact own_retJ X9 hx Bd.returns (hb hby own_d3_45) hr
  · show own_Q3 Z o0 w_state_o0 h0 n0 _ T9.heap _; rw [e9]; exact ⟨(by show some (Value.long _) = some (.long (own_f3 w_state_o0)); unfold own_f3; rfl), N6, K8, f3, f4⟩
theorem own_d5_0 : decode method_2_code 0 = .ok (.lload_n 0, 1) := by decide +kernel
theorem own_d5_1 : decode method_2_code 1 = .ok (.lstore_n 2, 1) := by decide +kernel
theorem own_d5_2 : decode method_2_code 2 = .ok (.lload_n 2, 1) := by decide +kernel
theorem own_d5_3 : decode method_2_code 3 = .ok (.ldc2_w 7, 3) := by decide +kernel
theorem own_d5_6 : decode method_2_code 6 = .ok (.lload_n 0, 1) := by decide +kernel
theorem own_d5_7 : decode method_2_code 7 = .ok (.lload_n 2, 1) := by decide +kernel
theorem own_d5_8 : decode method_2_code 8 = .ok (.lmul, 1) := by decide +kernel
theorem own_d5_9 : decode method_2_code 9 = .ok (.lsub, 1) := by decide +kernel
theorem own_d5_10 : decode method_2_code 10 = .ok (.lmul, 1) := by decide +kernel
theorem own_d5_11 : decode method_2_code 11 = .ok (.lstore_n 2, 1) := by decide +kernel
theorem own_d5_12 : decode method_2_code 12 = .ok (.lload_n 2, 1) := by decide +kernel
theorem own_d5_13 : decode method_2_code 13 = .ok (.ldc2_w 7, 3) := by decide +kernel
theorem own_d5_16 : decode method_2_code 16 = .ok (.lload_n 0, 1) := by decide +kernel
theorem own_d5_17 : decode method_2_code 17 = .ok (.lload_n 2, 1) := by decide +kernel
theorem own_d5_18 : decode method_2_code 18 = .ok (.lmul, 1) := by decide +kernel
theorem own_d5_19 : decode method_2_code 19 = .ok (.lsub, 1) := by decide +kernel
theorem own_d5_20 : decode method_2_code 20 = .ok (.lmul, 1) := by decide +kernel
theorem own_d5_21 : decode method_2_code 21 = .ok (.lstore_n 2, 1) := by decide +kernel
theorem own_d5_22 : decode method_2_code 22 = .ok (.lload_n 2, 1) := by decide +kernel
theorem own_d5_23 : decode method_2_code 23 = .ok (.ldc2_w 7, 3) := by decide +kernel
theorem own_d5_26 : decode method_2_code 26 = .ok (.lload_n 0, 1) := by decide +kernel
theorem own_d5_27 : decode method_2_code 27 = .ok (.lload_n 2, 1) := by decide +kernel
theorem own_d5_28 : decode method_2_code 28 = .ok (.lmul, 1) := by decide +kernel
theorem own_d5_29 : decode method_2_code 29 = .ok (.lsub, 1) := by decide +kernel
theorem own_d5_30 : decode method_2_code 30 = .ok (.lmul, 1) := by decide +kernel
theorem own_d5_31 : decode method_2_code 31 = .ok (.lstore_n 2, 1) := by decide +kernel
theorem own_d5_32 : decode method_2_code 32 = .ok (.lload_n 2, 1) := by decide +kernel
theorem own_d5_33 : decode method_2_code 33 = .ok (.ldc2_w 7, 3) := by decide +kernel
theorem own_d5_36 : decode method_2_code 36 = .ok (.lload_n 0, 1) := by decide +kernel
theorem own_d5_37 : decode method_2_code 37 = .ok (.lload_n 2, 1) := by decide +kernel
theorem own_d5_38 : decode method_2_code 38 = .ok (.lmul, 1) := by decide +kernel
theorem own_d5_39 : decode method_2_code 39 = .ok (.lsub, 1) := by decide +kernel
theorem own_d5_40 : decode method_2_code 40 = .ok (.lmul, 1) := by decide +kernel
theorem own_d5_41 : decode method_2_code 41 = .ok (.lstore_n 2, 1) := by decide +kernel
theorem own_d5_42 : decode method_2_code 42 = .ok (.lload_n 2, 1) := by decide +kernel
theorem own_d5_43 : decode method_2_code 43 = .ok (.ldc2_w 7, 3) := by decide +kernel
theorem own_d5_46 : decode method_2_code 46 = .ok (.lload_n 0, 1) := by decide +kernel
theorem own_d5_47 : decode method_2_code 47 = .ok (.lload_n 2, 1) := by decide +kernel
theorem own_d5_48 : decode method_2_code 48 = .ok (.lmul, 1) := by decide +kernel
theorem own_d5_49 : decode method_2_code 49 = .ok (.lsub, 1) := by decide +kernel
theorem own_d5_50 : decode method_2_code 50 = .ok (.lmul, 1) := by decide +kernel
theorem own_d5_51 : decode method_2_code 51 = .ok (.lstore_n 2, 1) := by decide +kernel
theorem own_d5_52 : decode method_2_code 52 = .ok (.lload_n 2, 1) := by decide +kernel
theorem own_d5_53 : decode method_2_code 53 = .ok (.lreturn, 1) := by decide +kernel
theorem own_pn5 : plainName "com/example/trickchest/trickchest/SeededRandomNextLongPinLaw" = true := by first | (simp [plainName, overriddenIn]; done) | decide +kernel
theorem own_ef5 (m : MethodId) (x0 : Int64) : entryFrame m #[(.long x0)] 4 = (mkF m 0 #[.val (.long x0), .second, .unset, .unset] []) := by first | (simp [entryFrame, mkF, argsToLocals, Value.category]; done) | rfl
def own_v5_21_0 (q0 : Int64) : Int64 := ((q0 * ((2 : Int64) - (q0 * q0))) * ((2 : Int64) - (q0 * (q0 * ((2 : Int64) - (q0 * q0))))))
def own_v5_31_1 (q0 : Int64) : Int64 := ((own_v5_21_0 q0) * ((2 : Int64) - (q0 * (own_v5_21_0 q0))))
def own_v5_41_2 (q0 : Int64) : Int64 := ((own_v5_31_1 q0) * ((2 : Int64) - (q0 * (own_v5_31_1 q0))))
def own_v5_51_3 (q0 : Int64) : Int64 := ((own_v5_41_2 q0) * ((2 : Int64) - (q0 * (own_v5_41_2 q0))))
def own_Q5 (Z : State) (q0 : Int64) (h0 : Heap) (n0 : Nat) (v : Option Value) (h : Heap) (L : List Loc) : Prop := v = some (.long (own_v5_51_3 q0)) ∧ Fr n0 L ∧ h = h0
set_option maxRecDepth 65536 in
set_option maxHeartbeats 40000000 in
theorem own_rm5 (l : Launch) (Z : State) (a0 : Array Value) (hw : ∀ d ∈ tables_1, d.before a0 Z = true) (ws : List Jvm.Cond) (q0 : Int64) (h0 : Heap) (n0 : Nat) (Z0 : n0 ≤ h0.size) :
    MetFree l (⟨"com/example/trickchest/trickchest/SeededRandomNextLongPinLaw", "inverse", "(J)J"⟩ : MethodName) (head1 (Jvm.Cond.code (⟨"com/example/trickchest/trickchest/SeededRandomNextLongPinLaw", "inverse", "(J)J"⟩ : MethodName) method_2_code 4 (some .long) :: ws) ({ frames := 0, cells := 0, slots := 0, locals := 0 } : Room)) (fun a U => a = #[(.long q0)] ∧ Z.Warmed39 U.vm ∧ U.heap = h0) (fun _ _ _ _ _ => True) (fun _ U o U' => ∃ v L, o = .returned v ∧ own_Q5 Z q0 h0 n0 v U'.heap L ∧ FrameEnd U o U' L ({ frames := 0, cells := 0, slots := 0, locals := 0 } : Room).cells ({ frames := 0, cells := 0, slots := 0, locals := 0 } : Room).slots) := by
  refine MetFree.of_bodySF (plainFor_of_name own_pn5) hisR ?_
  intro p e s m args below meth c s₁ Bd hml0 hP hK
  obtain ⟨rfl, hZ, hh⟩ := hP
  have hx := Bd.exec
  have hby := Bd.bytes
  have hml : c.maxLocals = 4 := hml0
  have hown : s.vm.findClass "com/example/trickchest/trickchest/SeededRandomNextLongPinLaw" = some m.cls := findClass_of_methodNamed Bd.named
  have hnm := (name_of_methodNamed Bd.named Bd.method).1
  have X0 : Stand p l e ({ frames := 0, cells := 0, slots := 0, locals := 0 } : Room) s m #[(.long q0)] below meth c s₁ [] 0 0 := Stand.of_body Bd
  have e0 : s₁.heap = h0 := by rw [← hh, Bd.state]; rfl
  have N0 := Fr.nil n0
  have pre0 : ∀ t, Steps p.tables e below (s₁.setTop (mkF m 0 #[.val (.long q0), .second, .unset, .unset] [])) t → Steps p.tables e below (s₁.setTop (entryFrame m #[(.long q0)] 4)) t := fun t k => castTop (own_ef5 m q0) k
  have pre1 : ∀ t, Steps p.tables e below (s₁.setTop (mkF m 53 #[.val (.long q0), .second, .val (.long (own_v5_51_3 q0)), .second] [(.long (own_v5_51_3 q0))])) t → Steps p.tables e below (s₁.setTop (entryFrame m #[(.long q0)] 4)) t := fun t k => pre0 t (by
      refine XS.lloadN X0.here hx rfl (hb hby own_d5_0) rfl ?_
      show Steps p.tables e below (s₁.setTop (mkF m 1 #[.val (.long q0), .second, .unset, .unset] [(.long q0)])) _
      refine XS.lstoreN X0.here hx rfl (hb hby own_d5_1) rfl (l' := #[.val (.long q0), .second, .val (.long q0), .second]) rfl ?_
      show Steps p.tables e below (s₁.setTop (mkF m 2 #[.val (.long q0), .second, .val (.long q0), .second] [])) _
      refine XS.lloadN X0.here hx rfl (hb hby own_d5_2) rfl ?_
      show Steps p.tables e below (s₁.setTop (mkF m 3 #[.val (.long q0), .second, .val (.long q0), .second] [(.long q0)])) _
      refine X0.ldc2Long hx hown (mvT hZ (hw _ (List.mem_of_getElem? (i := 28) rfl))) (g := (mkF m 3 #[.val (.long q0), .second, .val (.long q0), .second] [(.long q0)])) rfl (hb hby own_d5_3) _ ?_
      show Steps p.tables e below (s₁.setTop (mkF m 6 #[.val (.long q0), .second, .val (.long q0), .second] [(.long (2 : Int64)), (.long q0)])) _
      refine XS.lloadN X0.here hx rfl (hb hby own_d5_6) rfl ?_
      show Steps p.tables e below (s₁.setTop (mkF m 7 #[.val (.long q0), .second, .val (.long q0), .second] [(.long q0), (.long (2 : Int64)), (.long q0)])) _
      refine XS.lloadN X0.here hx rfl (hb hby own_d5_7) rfl ?_
      show Steps p.tables e below (s₁.setTop (mkF m 8 #[.val (.long q0), .second, .val (.long q0), .second] [(.long q0), (.long q0), (.long (2 : Int64)), (.long q0)])) _
      refine XS.lmul X0.here hx rfl (hb hby own_d5_8) rfl ?_
      show Steps p.tables e below (s₁.setTop (mkF m 9 #[.val (.long q0), .second, .val (.long q0), .second] [(.long (q0 * q0)), (.long (2 : Int64)), (.long q0)])) _
      refine XS.lsub X0.here hx rfl (hb hby own_d5_9) rfl ?_
      show Steps p.tables e below (s₁.setTop (mkF m 10 #[.val (.long q0), .second, .val (.long q0), .second] [(.long ((2 : Int64) - (q0 * q0))), (.long q0)])) _
      refine XS.lmul X0.here hx rfl (hb hby own_d5_10) rfl ?_
      show Steps p.tables e below (s₁.setTop (mkF m 11 #[.val (.long q0), .second, .val (.long q0), .second] [(.long (q0 * ((2 : Int64) - (q0 * q0))))])) _
      refine XS.lstoreN X0.here hx rfl (hb hby own_d5_11) rfl (l' := #[.val (.long q0), .second, .val (.long (q0 * ((2 : Int64) - (q0 * q0)))), .second]) rfl ?_
      show Steps p.tables e below (s₁.setTop (mkF m 12 #[.val (.long q0), .second, .val (.long (q0 * ((2 : Int64) - (q0 * q0)))), .second] [])) _
      refine XS.lloadN X0.here hx rfl (hb hby own_d5_12) rfl ?_
      show Steps p.tables e below (s₁.setTop (mkF m 13 #[.val (.long q0), .second, .val (.long (q0 * ((2 : Int64) - (q0 * q0)))), .second] [(.long (q0 * ((2 : Int64) - (q0 * q0))))])) _
      refine X0.ldc2Long hx hown (mvT hZ (hw _ (List.mem_of_getElem? (i := 28) rfl))) (g := (mkF m 13 #[.val (.long q0), .second, .val (.long (q0 * ((2 : Int64) - (q0 * q0)))), .second] [(.long (q0 * ((2 : Int64) - (q0 * q0))))])) rfl (hb hby own_d5_13) _ ?_
      show Steps p.tables e below (s₁.setTop (mkF m 16 #[.val (.long q0), .second, .val (.long (q0 * ((2 : Int64) - (q0 * q0)))), .second] [(.long (2 : Int64)), (.long (q0 * ((2 : Int64) - (q0 * q0))))])) _
      refine XS.lloadN X0.here hx rfl (hb hby own_d5_16) rfl ?_
      show Steps p.tables e below (s₁.setTop (mkF m 17 #[.val (.long q0), .second, .val (.long (q0 * ((2 : Int64) - (q0 * q0)))), .second] [(.long q0), (.long (2 : Int64)), (.long (q0 * ((2 : Int64) - (q0 * q0))))])) _
      refine XS.lloadN X0.here hx rfl (hb hby own_d5_17) rfl ?_
      show Steps p.tables e below (s₁.setTop (mkF m 18 #[.val (.long q0), .second, .val (.long (q0 * ((2 : Int64) - (q0 * q0)))), .second] [(.long (q0 * ((2 : Int64) - (q0 * q0)))), (.long q0), (.long (2 : Int64)), (.long (q0 * ((2 : Int64) - (q0 * q0))))])) _
      refine XS.lmul X0.here hx rfl (hb hby own_d5_18) rfl ?_
      show Steps p.tables e below (s₁.setTop (mkF m 19 #[.val (.long q0), .second, .val (.long (q0 * ((2 : Int64) - (q0 * q0)))), .second] [(.long (q0 * (q0 * ((2 : Int64) - (q0 * q0))))), (.long (2 : Int64)), (.long (q0 * ((2 : Int64) - (q0 * q0))))])) _
      refine XS.lsub X0.here hx rfl (hb hby own_d5_19) rfl ?_
      show Steps p.tables e below (s₁.setTop (mkF m 20 #[.val (.long q0), .second, .val (.long (q0 * ((2 : Int64) - (q0 * q0)))), .second] [(.long ((2 : Int64) - (q0 * (q0 * ((2 : Int64) - (q0 * q0)))))), (.long (q0 * ((2 : Int64) - (q0 * q0))))])) _
      refine XS.lmul X0.here hx rfl (hb hby own_d5_20) rfl ?_
      show Steps p.tables e below (s₁.setTop (mkF m 21 #[.val (.long q0), .second, .val (.long (q0 * ((2 : Int64) - (q0 * q0)))), .second] [(.long ((q0 * ((2 : Int64) - (q0 * q0))) * ((2 : Int64) - (q0 * (q0 * ((2 : Int64) - (q0 * q0)))))))])) _
      refine XS.lstoreN X0.here hx rfl (hb hby own_d5_21) rfl (l' := #[.val (.long q0), .second, .val (.long (own_v5_21_0 q0)), .second]) rfl ?_
      show Steps p.tables e below (s₁.setTop (mkF m 22 #[.val (.long q0), .second, .val (.long (own_v5_21_0 q0)), .second] [])) _
      refine XS.lloadN X0.here hx rfl (hb hby own_d5_22) rfl ?_
      show Steps p.tables e below (s₁.setTop (mkF m 23 #[.val (.long q0), .second, .val (.long (own_v5_21_0 q0)), .second] [(.long (own_v5_21_0 q0))])) _
      refine X0.ldc2Long hx hown (mvT hZ (hw _ (List.mem_of_getElem? (i := 28) rfl))) (g := (mkF m 23 #[.val (.long q0), .second, .val (.long (own_v5_21_0 q0)), .second] [(.long (own_v5_21_0 q0))])) rfl (hb hby own_d5_23) _ ?_
      show Steps p.tables e below (s₁.setTop (mkF m 26 #[.val (.long q0), .second, .val (.long (own_v5_21_0 q0)), .second] [(.long (2 : Int64)), (.long (own_v5_21_0 q0))])) _
      refine XS.lloadN X0.here hx rfl (hb hby own_d5_26) rfl ?_
      show Steps p.tables e below (s₁.setTop (mkF m 27 #[.val (.long q0), .second, .val (.long (own_v5_21_0 q0)), .second] [(.long q0), (.long (2 : Int64)), (.long (own_v5_21_0 q0))])) _
      refine XS.lloadN X0.here hx rfl (hb hby own_d5_27) rfl ?_
      show Steps p.tables e below (s₁.setTop (mkF m 28 #[.val (.long q0), .second, .val (.long (own_v5_21_0 q0)), .second] [(.long (own_v5_21_0 q0)), (.long q0), (.long (2 : Int64)), (.long (own_v5_21_0 q0))])) _
      refine XS.lmul X0.here hx rfl (hb hby own_d5_28) rfl ?_
      show Steps p.tables e below (s₁.setTop (mkF m 29 #[.val (.long q0), .second, .val (.long (own_v5_21_0 q0)), .second] [(.long (q0 * (own_v5_21_0 q0))), (.long (2 : Int64)), (.long (own_v5_21_0 q0))])) _
      refine XS.lsub X0.here hx rfl (hb hby own_d5_29) rfl ?_
      show Steps p.tables e below (s₁.setTop (mkF m 30 #[.val (.long q0), .second, .val (.long (own_v5_21_0 q0)), .second] [(.long ((2 : Int64) - (q0 * (own_v5_21_0 q0)))), (.long (own_v5_21_0 q0))])) _
      refine XS.lmul X0.here hx rfl (hb hby own_d5_30) rfl ?_
      show Steps p.tables e below (s₁.setTop (mkF m 31 #[.val (.long q0), .second, .val (.long (own_v5_21_0 q0)), .second] [(.long ((own_v5_21_0 q0) * ((2 : Int64) - (q0 * (own_v5_21_0 q0)))))])) _
      refine XS.lstoreN X0.here hx rfl (hb hby own_d5_31) rfl (l' := #[.val (.long q0), .second, .val (.long (own_v5_31_1 q0)), .second]) rfl ?_
      show Steps p.tables e below (s₁.setTop (mkF m 32 #[.val (.long q0), .second, .val (.long (own_v5_31_1 q0)), .second] [])) _
      refine XS.lloadN X0.here hx rfl (hb hby own_d5_32) rfl ?_
      show Steps p.tables e below (s₁.setTop (mkF m 33 #[.val (.long q0), .second, .val (.long (own_v5_31_1 q0)), .second] [(.long (own_v5_31_1 q0))])) _
      refine X0.ldc2Long hx hown (mvT hZ (hw _ (List.mem_of_getElem? (i := 28) rfl))) (g := (mkF m 33 #[.val (.long q0), .second, .val (.long (own_v5_31_1 q0)), .second] [(.long (own_v5_31_1 q0))])) rfl (hb hby own_d5_33) _ ?_
      show Steps p.tables e below (s₁.setTop (mkF m 36 #[.val (.long q0), .second, .val (.long (own_v5_31_1 q0)), .second] [(.long (2 : Int64)), (.long (own_v5_31_1 q0))])) _
      refine XS.lloadN X0.here hx rfl (hb hby own_d5_36) rfl ?_
      show Steps p.tables e below (s₁.setTop (mkF m 37 #[.val (.long q0), .second, .val (.long (own_v5_31_1 q0)), .second] [(.long q0), (.long (2 : Int64)), (.long (own_v5_31_1 q0))])) _
      refine XS.lloadN X0.here hx rfl (hb hby own_d5_37) rfl ?_
      show Steps p.tables e below (s₁.setTop (mkF m 38 #[.val (.long q0), .second, .val (.long (own_v5_31_1 q0)), .second] [(.long (own_v5_31_1 q0)), (.long q0), (.long (2 : Int64)), (.long (own_v5_31_1 q0))])) _
      refine XS.lmul X0.here hx rfl (hb hby own_d5_38) rfl ?_
      show Steps p.tables e below (s₁.setTop (mkF m 39 #[.val (.long q0), .second, .val (.long (own_v5_31_1 q0)), .second] [(.long (q0 * (own_v5_31_1 q0))), (.long (2 : Int64)), (.long (own_v5_31_1 q0))])) _
      refine XS.lsub X0.here hx rfl (hb hby own_d5_39) rfl ?_
      show Steps p.tables e below (s₁.setTop (mkF m 40 #[.val (.long q0), .second, .val (.long (own_v5_31_1 q0)), .second] [(.long ((2 : Int64) - (q0 * (own_v5_31_1 q0)))), (.long (own_v5_31_1 q0))])) _
      refine XS.lmul X0.here hx rfl (hb hby own_d5_40) rfl ?_
      show Steps p.tables e below (s₁.setTop (mkF m 41 #[.val (.long q0), .second, .val (.long (own_v5_31_1 q0)), .second] [(.long ((own_v5_31_1 q0) * ((2 : Int64) - (q0 * (own_v5_31_1 q0)))))])) _
      refine XS.lstoreN X0.here hx rfl (hb hby own_d5_41) rfl (l' := #[.val (.long q0), .second, .val (.long (own_v5_41_2 q0)), .second]) rfl ?_
      show Steps p.tables e below (s₁.setTop (mkF m 42 #[.val (.long q0), .second, .val (.long (own_v5_41_2 q0)), .second] [])) _
      refine XS.lloadN X0.here hx rfl (hb hby own_d5_42) rfl ?_
      show Steps p.tables e below (s₁.setTop (mkF m 43 #[.val (.long q0), .second, .val (.long (own_v5_41_2 q0)), .second] [(.long (own_v5_41_2 q0))])) _
      refine X0.ldc2Long hx hown (mvT hZ (hw _ (List.mem_of_getElem? (i := 28) rfl))) (g := (mkF m 43 #[.val (.long q0), .second, .val (.long (own_v5_41_2 q0)), .second] [(.long (own_v5_41_2 q0))])) rfl (hb hby own_d5_43) _ ?_
      show Steps p.tables e below (s₁.setTop (mkF m 46 #[.val (.long q0), .second, .val (.long (own_v5_41_2 q0)), .second] [(.long (2 : Int64)), (.long (own_v5_41_2 q0))])) _
      refine XS.lloadN X0.here hx rfl (hb hby own_d5_46) rfl ?_
      show Steps p.tables e below (s₁.setTop (mkF m 47 #[.val (.long q0), .second, .val (.long (own_v5_41_2 q0)), .second] [(.long q0), (.long (2 : Int64)), (.long (own_v5_41_2 q0))])) _
      refine XS.lloadN X0.here hx rfl (hb hby own_d5_47) rfl ?_
      show Steps p.tables e below (s₁.setTop (mkF m 48 #[.val (.long q0), .second, .val (.long (own_v5_41_2 q0)), .second] [(.long (own_v5_41_2 q0)), (.long q0), (.long (2 : Int64)), (.long (own_v5_41_2 q0))])) _
      refine XS.lmul X0.here hx rfl (hb hby own_d5_48) rfl ?_
      show Steps p.tables e below (s₁.setTop (mkF m 49 #[.val (.long q0), .second, .val (.long (own_v5_41_2 q0)), .second] [(.long (q0 * (own_v5_41_2 q0))), (.long (2 : Int64)), (.long (own_v5_41_2 q0))])) _
      refine XS.lsub X0.here hx rfl (hb hby own_d5_49) rfl ?_
      show Steps p.tables e below (s₁.setTop (mkF m 50 #[.val (.long q0), .second, .val (.long (own_v5_41_2 q0)), .second] [(.long ((2 : Int64) - (q0 * (own_v5_41_2 q0)))), (.long (own_v5_41_2 q0))])) _
      refine XS.lmul X0.here hx rfl (hb hby own_d5_50) rfl ?_
      show Steps p.tables e below (s₁.setTop (mkF m 51 #[.val (.long q0), .second, .val (.long (own_v5_41_2 q0)), .second] [(.long ((own_v5_41_2 q0) * ((2 : Int64) - (q0 * (own_v5_41_2 q0)))))])) _
      refine XS.lstoreN X0.here hx rfl (hb hby own_d5_51) rfl (l' := #[.val (.long q0), .second, .val (.long (own_v5_51_3 q0)), .second]) rfl ?_
      show Steps p.tables e below (s₁.setTop (mkF m 52 #[.val (.long q0), .second, .val (.long (own_v5_51_3 q0)), .second] [])) _
      refine XS.lloadN X0.here hx rfl (hb hby own_d5_52) rfl ?_
      show Steps p.tables e below (s₁.setTop (mkF m 53 #[.val (.long q0), .second, .val (.long (own_v5_51_3 q0)), .second] [(.long (own_v5_51_3 q0))])) _
      exact k)
  obtain ⟨fs, hr, hrun, hended, hW, hsame⟩ := X0.leave (v := some (.long (own_v5_51_3 q0))) (fun h => by rw [Bd.returns] at h; cases h)
  refine ⟨_, _, pre1 _ ?_, hrun, hended, _, _, rfl, ?_, ⟨_, rfl⟩, hW, hsame.mono (by decide) (by decide)⟩
  · show Steps p.tables e below (s₁.setTop (mkF m 53 #[.val (.long q0), .second, .val (.long (own_v5_51_3 q0)), .second] [(.long (own_v5_51_3 q0))])) _
    exact own_retJ X0 hx Bd.returns (hb hby own_d5_53) hr
  · show own_Q5 Z q0 h0 n0 _ s₁.heap _; rw [e0]; exact ⟨rfl, N0, rfl⟩
theorem own_pd0 : parseMethodDescriptor "(J)J" = some ⟨[.long], some .long⟩ := by decide +kernel
theorem own_d4_0 : decode method_3_code 0 = .ok (.lload_n 0, 1) := by decide +kernel
theorem own_d4_1 : decode method_3_code 1 = .ok (.lload_n 0, 1) := by decide +kernel
theorem own_d4_2 : decode method_3_code 2 = .ok (.bipush 31, 2) := by decide +kernel
theorem own_d4_4 : decode method_3_code 4 = .ok (.lushr, 1) := by decide +kernel
theorem own_d4_5 : decode method_3_code 5 = .ok (.lxor, 1) := by decide +kernel
theorem own_d4_6 : decode method_3_code 6 = .ok (.lload_n 0, 1) := by decide +kernel
theorem own_d4_7 : decode method_3_code 7 = .ok (.bipush 62, 2) := by decide +kernel
theorem own_d4_9 : decode method_3_code 9 = .ok (.lushr, 1) := by decide +kernel
theorem own_d4_10 : decode method_3_code 10 = .ok (.lxor, 1) := by decide +kernel
theorem own_d4_11 : decode method_3_code 11 = .ok (.lstore_n 2, 1) := by decide +kernel
theorem own_d4_12 : decode method_3_code 12 = .ok (.lload_n 2, 1) := by decide +kernel
theorem own_d4_13 : decode method_3_code 13 = .ok (.ldc2_w 9, 3) := by decide +kernel
theorem own_d4_16 : decode method_3_code 16 = .ok (.invokestatic 11, 3) := by decide +kernel
theorem own_d4_19 : decode method_3_code 19 = .ok (.lmul, 1) := by decide +kernel
theorem own_d4_20 : decode method_3_code 20 = .ok (.lstore_n 2, 1) := by decide +kernel
theorem own_d4_21 : decode method_3_code 21 = .ok (.lload_n 2, 1) := by decide +kernel
theorem own_d4_22 : decode method_3_code 22 = .ok (.lload_n 2, 1) := by decide +kernel
theorem own_d4_23 : decode method_3_code 23 = .ok (.bipush 27, 2) := by decide +kernel
theorem own_d4_25 : decode method_3_code 25 = .ok (.lushr, 1) := by decide +kernel
theorem own_d4_26 : decode method_3_code 26 = .ok (.lxor, 1) := by decide +kernel
theorem own_d4_27 : decode method_3_code 27 = .ok (.lload_n 2, 1) := by decide +kernel
theorem own_d4_28 : decode method_3_code 28 = .ok (.bipush 54, 2) := by decide +kernel
theorem own_d4_30 : decode method_3_code 30 = .ok (.lushr, 1) := by decide +kernel
theorem own_d4_31 : decode method_3_code 31 = .ok (.lxor, 1) := by decide +kernel
theorem own_d4_32 : decode method_3_code 32 = .ok (.lstore_n 2, 1) := by decide +kernel
theorem own_d4_33 : decode method_3_code 33 = .ok (.lload_n 2, 1) := by decide +kernel
theorem own_d4_34 : decode method_3_code 34 = .ok (.ldc2_w 17, 3) := by decide +kernel
theorem own_d4_37 : decode method_3_code 37 = .ok (.invokestatic 11, 3) := by decide +kernel
theorem own_d4_40 : decode method_3_code 40 = .ok (.lmul, 1) := by decide +kernel
theorem own_d4_41 : decode method_3_code 41 = .ok (.lstore_n 2, 1) := by decide +kernel
theorem own_d4_42 : decode method_3_code 42 = .ok (.lload_n 2, 1) := by decide +kernel
theorem own_d4_43 : decode method_3_code 43 = .ok (.lload_n 2, 1) := by decide +kernel
theorem own_d4_44 : decode method_3_code 44 = .ok (.bipush 30, 2) := by decide +kernel
theorem own_d4_46 : decode method_3_code 46 = .ok (.lushr, 1) := by decide +kernel
theorem own_d4_47 : decode method_3_code 47 = .ok (.lxor, 1) := by decide +kernel
theorem own_d4_48 : decode method_3_code 48 = .ok (.lload_n 2, 1) := by decide +kernel
theorem own_d4_49 : decode method_3_code 49 = .ok (.bipush 60, 2) := by decide +kernel
theorem own_d4_51 : decode method_3_code 51 = .ok (.lushr, 1) := by decide +kernel
theorem own_d4_52 : decode method_3_code 52 = .ok (.lxor, 1) := by decide +kernel
theorem own_d4_53 : decode method_3_code 53 = .ok (.lstore_n 2, 1) := by decide +kernel
theorem own_d4_54 : decode method_3_code 54 = .ok (.lload_n 2, 1) := by decide +kernel
theorem own_d4_55 : decode method_3_code 55 = .ok (.lreturn, 1) := by decide +kernel
theorem own_pn4 : plainName "com/example/trickchest/trickchest/SeededRandomNextLongPinLaw" = true := by first | (simp [plainName, overriddenIn]; done) | decide +kernel
theorem own_ef4 (m : MethodId) (x0 : Int64) : entryFrame m #[(.long x0)] 4 = (mkF m 0 #[.val (.long x0), .second, .unset, .unset] []) := by first | (simp [entryFrame, mkF, argsToLocals, Value.category]; done) | rfl
def own_v4_11_0 (q0 : Int64) : Int64 := ((q0 ^^^ ((q0.toUInt64 >>> ((31 : Int32) &&& 0x3f).toInt64.toUInt64).toInt64)) ^^^ ((q0.toUInt64 >>> ((62 : Int32) &&& 0x3f).toInt64.toUInt64).toInt64))
def own_v4_20_1 (q0 : Int64) : Int64 := ((own_v4_11_0 q0) * (own_v5_51_3 (-7723592293110705685 : Int64)))
def own_v4_32_2 (q0 : Int64) : Int64 := (((own_v4_20_1 q0) ^^^ (((own_v4_20_1 q0).toUInt64 >>> ((27 : Int32) &&& 0x3f).toInt64.toUInt64).toInt64)) ^^^ (((own_v4_20_1 q0).toUInt64 >>> ((54 : Int32) &&& 0x3f).toInt64.toUInt64).toInt64))
def own_v4_41_3 (q0 : Int64) : Int64 := ((own_v4_32_2 q0) * (own_v5_51_3 (-4658895280553007687 : Int64)))
def own_v4_53_4 (q0 : Int64) : Int64 := (((own_v4_41_3 q0) ^^^ (((own_v4_41_3 q0).toUInt64 >>> ((30 : Int32) &&& 0x3f).toInt64.toUInt64).toInt64)) ^^^ (((own_v4_41_3 q0).toUInt64 >>> ((60 : Int32) &&& 0x3f).toInt64.toUInt64).toInt64))
def own_Q4 (Z : State) (q0 : Int64) (h0 : Heap) (n0 : Nat) (v : Option Value) (h : Heap) (L : List Loc) : Prop := v = some (.long (own_v4_53_4 q0)) ∧ Fr n0 L ∧ h = h0
set_option maxRecDepth 65536 in
set_option maxHeartbeats 40000000 in
theorem own_rm4 (l : Launch) (Z : State) (a0 : Array Value) (hw : ∀ d ∈ tables_1, d.before a0 Z = true) (ws : List Jvm.Cond) (q0 : Int64) (h0 : Heap) (n0 : Nat) (Z0 : n0 ≤ h0.size) :
    MetFree l (⟨"com/example/trickchest/trickchest/SeededRandomNextLongPinLaw", "unmix", "(J)J"⟩ : MethodName) (head1 (Jvm.Cond.code (⟨"com/example/trickchest/trickchest/SeededRandomNextLongPinLaw", "unmix", "(J)J"⟩ : MethodName) method_3_code 4 (some .long) :: ws) ({ frames := 1, cells := 0, slots := 0, locals := 17 } : Room)) (fun a U => a = #[(.long q0)] ∧ Z.Warmed39 U.vm ∧ U.heap = h0) (fun _ _ _ _ _ => True) (fun _ U o U' => ∃ v L, o = .returned v ∧ own_Q4 Z q0 h0 n0 v U'.heap L ∧ FrameEnd U o U' L ({ frames := 1, cells := 0, slots := 0, locals := 17 } : Room).cells ({ frames := 1, cells := 0, slots := 0, locals := 17 } : Room).slots) := by
  refine MetFree.of_bodySF (plainFor_of_name own_pn4) hisR ?_
  intro p e s m args below meth c s₁ Bd hml0 hP hK
  obtain ⟨rfl, hZ, hh⟩ := hP
  have hx := Bd.exec
  have hby := Bd.bytes
  have hml : c.maxLocals = 4 := hml0
  have hown : s.vm.findClass "com/example/trickchest/trickchest/SeededRandomNextLongPinLaw" = some m.cls := findClass_of_methodNamed Bd.named
  have hnm := (name_of_methodNamed Bd.named Bd.method).1
  have X0 : Stand p l e ({ frames := 1, cells := 0, slots := 0, locals := 17 } : Room) s m #[(.long q0)] below meth c s₁ [] 0 0 := Stand.of_body Bd
  have e0 : s₁.heap = h0 := by rw [← hh, Bd.state]; rfl
  have N0 := Fr.nil n0
  have pre0 : ∀ t, Steps p.tables e below (s₁.setTop (mkF m 0 #[.val (.long q0), .second, .unset, .unset] [])) t → Steps p.tables e below (s₁.setTop (entryFrame m #[(.long q0)] 4)) t := fun t k => castTop (own_ef4 m q0) k
  obtain ⟨_, _, ⟨T1, L1, k1, n1⟩, -, X1, ⟨Lc1, hQ1, l1, y1, z1⟩, st1⟩ := Jvm.LawKit.callS X0 hx (y := (⟨"com/example/trickchest/trickchest/SeededRandomNextLongPinLaw", "inverse", "(J)J"⟩ : MethodName)) hown (mvT hZ (hw _ (List.mem_of_getElem? (i := 25) rfl))) (mvT hZ (hw _ (List.mem_of_getElem? (i := 26) rfl))) (mvT hZ (hw _ (List.mem_of_getElem? (i := 22) rfl))) (mvT hZ (hw _ (List.mem_of_getElem? (i := 27) rfl))) (by decide) (backOf (W := 2) (own_rm5 l Z a0 hw [] (-7723592293110705685 : Int64) h0 n0 Z0 ) hZ (hw _ (List.mem_of_getElem? (i := 27) rfl)) (hw _ (List.mem_of_getElem? (i := 22) rfl)) (by decide) (by decide)) (g := (mkF m 16 #[.val (.long q0), .second, .val (.long (own_v4_11_0 q0)), .second] [(.long (-7723592293110705685 : Int64)), (.long (own_v4_11_0 q0))])) rfl (by rw [hml]; rfl) (argsL := [(.long (-7723592293110705685 : Int64))]) (rest := [(.long (own_v4_11_0 q0))]) (lenOf own_pd0 rfl) rfl (by show 2 * 0 + _ ≤ _; exact Nat.le_of_eq rfl) (hb hby own_d4_16) (fun _ _ => ⟨rfl, e0, (by decide : 0 + 0 ≤ _), (by decide : 0 + 0 ≤ _)⟩)
  dsimp only [Pt.U, Pt.locs, Pt.cells, Pt.slots] at X1 l1 y1 z1 st1 hQ1
  subst l1 y1 z1
  obtain ⟨rfl, N1q, e1⟩ := hQ1
  have N2 := Fr.app N0 N1q
  obtain ⟨_, _, ⟨T3, L3, k3, n3⟩, -, X3, ⟨Lc3, hQ3, l3, y3, z3⟩, st3⟩ := Jvm.LawKit.callS X1 hx (y := (⟨"com/example/trickchest/trickchest/SeededRandomNextLongPinLaw", "inverse", "(J)J"⟩ : MethodName)) hown (mvT hZ (hw _ (List.mem_of_getElem? (i := 25) rfl))) (mvT hZ (hw _ (List.mem_of_getElem? (i := 26) rfl))) (mvT hZ (hw _ (List.mem_of_getElem? (i := 22) rfl))) (mvT hZ (hw _ (List.mem_of_getElem? (i := 27) rfl))) (by decide) (backOf (W := 2) (own_rm5 l Z a0 hw [] (-4658895280553007687 : Int64) h0 n0 Z0 ) hZ (hw _ (List.mem_of_getElem? (i := 27) rfl)) (hw _ (List.mem_of_getElem? (i := 22) rfl)) (by decide) (by decide)) (g := (mkF m 37 #[.val (.long q0), .second, .val (.long (own_v4_32_2 q0)), .second] [(.long (-4658895280553007687 : Int64)), (.long (own_v4_32_2 q0))])) rfl (by rw [hml]; rfl) (argsL := [(.long (-4658895280553007687 : Int64))]) (rest := [(.long (own_v4_32_2 q0))]) (lenOf own_pd0 rfl) rfl (by show 2 * 0 + _ ≤ _; exact Nat.le_of_eq rfl) (hb hby own_d4_37) (fun _ _ => ⟨rfl, e1, (by decide : 0 + 0 ≤ _), (by decide : 0 + 0 ≤ _)⟩)
  dsimp only [Pt.U, Pt.locs, Pt.cells, Pt.slots] at X3 l3 y3 z3 st3 hQ3
  subst l3 y3 z3
  obtain ⟨rfl, N3q, e3⟩ := hQ3
  have N4 := Fr.app N2 N3q
  have pre5 : ∀ t, Steps p.tables e below (T3.setTop (mkF m 55 #[.val (.long q0), .second, .val (.long (own_v4_53_4 q0)), .second] [(.long (own_v4_53_4 q0))])) t → Steps p.tables e below (s₁.setTop (entryFrame m #[(.long q0)] 4)) t := fun t k => pre0 t (by
      refine XS.lloadN X0.here hx rfl (hb hby own_d4_0) rfl ?_
      show Steps p.tables e below (s₁.setTop (mkF m 1 #[.val (.long q0), .second, .unset, .unset] [(.long q0)])) _
      refine XS.lloadN X0.here hx rfl (hb hby own_d4_1) rfl ?_
      show Steps p.tables e below (s₁.setTop (mkF m 2 #[.val (.long q0), .second, .unset, .unset] [(.long q0), (.long q0)])) _
      refine XS.bipush X0.here hx rfl (hb hby own_d4_2) ?_
      show Steps p.tables e below (s₁.setTop (mkF m 4 #[.val (.long q0), .second, .unset, .unset] [(.int (31 : Int32)), (.long q0), (.long q0)])) _
      refine XS.lushr X0.here hx rfl (hb hby own_d4_4) rfl ?_
      show Steps p.tables e below (s₁.setTop (mkF m 5 #[.val (.long q0), .second, .unset, .unset] [(.long ((q0.toUInt64 >>> ((31 : Int32) &&& 0x3f).toInt64.toUInt64).toInt64)), (.long q0)])) _
      refine XS.lxor X0.here hx rfl (hb hby own_d4_5) rfl ?_
      show Steps p.tables e below (s₁.setTop (mkF m 6 #[.val (.long q0), .second, .unset, .unset] [(.long (q0 ^^^ ((q0.toUInt64 >>> ((31 : Int32) &&& 0x3f).toInt64.toUInt64).toInt64)))])) _
      refine XS.lloadN X0.here hx rfl (hb hby own_d4_6) rfl ?_
      show Steps p.tables e below (s₁.setTop (mkF m 7 #[.val (.long q0), .second, .unset, .unset] [(.long q0), (.long (q0 ^^^ ((q0.toUInt64 >>> ((31 : Int32) &&& 0x3f).toInt64.toUInt64).toInt64)))])) _
      refine XS.bipush X0.here hx rfl (hb hby own_d4_7) ?_
      show Steps p.tables e below (s₁.setTop (mkF m 9 #[.val (.long q0), .second, .unset, .unset] [(.int (62 : Int32)), (.long q0), (.long (q0 ^^^ ((q0.toUInt64 >>> ((31 : Int32) &&& 0x3f).toInt64.toUInt64).toInt64)))])) _
      refine XS.lushr X0.here hx rfl (hb hby own_d4_9) rfl ?_
      show Steps p.tables e below (s₁.setTop (mkF m 10 #[.val (.long q0), .second, .unset, .unset] [(.long ((q0.toUInt64 >>> ((62 : Int32) &&& 0x3f).toInt64.toUInt64).toInt64)), (.long (q0 ^^^ ((q0.toUInt64 >>> ((31 : Int32) &&& 0x3f).toInt64.toUInt64).toInt64)))])) _
      refine XS.lxor X0.here hx rfl (hb hby own_d4_10) rfl ?_
      show Steps p.tables e below (s₁.setTop (mkF m 11 #[.val (.long q0), .second, .unset, .unset] [(.long ((q0 ^^^ ((q0.toUInt64 >>> ((31 : Int32) &&& 0x3f).toInt64.toUInt64).toInt64)) ^^^ ((q0.toUInt64 >>> ((62 : Int32) &&& 0x3f).toInt64.toUInt64).toInt64)))])) _
      refine XS.lstoreN X0.here hx rfl (hb hby own_d4_11) rfl (l' := #[.val (.long q0), .second, .val (.long (own_v4_11_0 q0)), .second]) rfl ?_
      show Steps p.tables e below (s₁.setTop (mkF m 12 #[.val (.long q0), .second, .val (.long (own_v4_11_0 q0)), .second] [])) _
      refine XS.lloadN X0.here hx rfl (hb hby own_d4_12) rfl ?_
      show Steps p.tables e below (s₁.setTop (mkF m 13 #[.val (.long q0), .second, .val (.long (own_v4_11_0 q0)), .second] [(.long (own_v4_11_0 q0))])) _
      refine X0.ldc2Long hx hown (mvT hZ (hw _ (List.mem_of_getElem? (i := 24) rfl))) (g := (mkF m 13 #[.val (.long q0), .second, .val (.long (own_v4_11_0 q0)), .second] [(.long (own_v4_11_0 q0))])) rfl (hb hby own_d4_13) _ ?_
      show Steps p.tables e below (s₁.setTop (mkF m 16 #[.val (.long q0), .second, .val (.long (own_v4_11_0 q0)), .second] [(.long (-7723592293110705685 : Int64)), (.long (own_v4_11_0 q0))])) _
      refine st1 _ ?_
      show Steps p.tables e below (T1.setTop (mkF m 19 #[.val (.long q0), .second, .val (.long (own_v4_11_0 q0)), .second] [(.long (own_v5_51_3 (-7723592293110705685 : Int64))), (.long (own_v4_11_0 q0))])) _
      refine XS.lmul X1.here hx rfl (hb hby own_d4_19) rfl ?_
      show Steps p.tables e below (T1.setTop (mkF m 20 #[.val (.long q0), .second, .val (.long (own_v4_11_0 q0)), .second] [(.long ((own_v4_11_0 q0) * (own_v5_51_3 (-7723592293110705685 : Int64))))])) _
      refine XS.lstoreN X1.here hx rfl (hb hby own_d4_20) rfl (l' := #[.val (.long q0), .second, .val (.long (own_v4_20_1 q0)), .second]) rfl ?_
      show Steps p.tables e below (T1.setTop (mkF m 21 #[.val (.long q0), .second, .val (.long (own_v4_20_1 q0)), .second] [])) _
      refine XS.lloadN X1.here hx rfl (hb hby own_d4_21) rfl ?_
      show Steps p.tables e below (T1.setTop (mkF m 22 #[.val (.long q0), .second, .val (.long (own_v4_20_1 q0)), .second] [(.long (own_v4_20_1 q0))])) _
      refine XS.lloadN X1.here hx rfl (hb hby own_d4_22) rfl ?_
      show Steps p.tables e below (T1.setTop (mkF m 23 #[.val (.long q0), .second, .val (.long (own_v4_20_1 q0)), .second] [(.long (own_v4_20_1 q0)), (.long (own_v4_20_1 q0))])) _
      refine XS.bipush X1.here hx rfl (hb hby own_d4_23) ?_
      show Steps p.tables e below (T1.setTop (mkF m 25 #[.val (.long q0), .second, .val (.long (own_v4_20_1 q0)), .second] [(.int (27 : Int32)), (.long (own_v4_20_1 q0)), (.long (own_v4_20_1 q0))])) _
      refine XS.lushr X1.here hx rfl (hb hby own_d4_25) rfl ?_
      show Steps p.tables e below (T1.setTop (mkF m 26 #[.val (.long q0), .second, .val (.long (own_v4_20_1 q0)), .second] [(.long (((own_v4_20_1 q0).toUInt64 >>> ((27 : Int32) &&& 0x3f).toInt64.toUInt64).toInt64)), (.long (own_v4_20_1 q0))])) _
      refine XS.lxor X1.here hx rfl (hb hby own_d4_26) rfl ?_
      show Steps p.tables e below (T1.setTop (mkF m 27 #[.val (.long q0), .second, .val (.long (own_v4_20_1 q0)), .second] [(.long ((own_v4_20_1 q0) ^^^ (((own_v4_20_1 q0).toUInt64 >>> ((27 : Int32) &&& 0x3f).toInt64.toUInt64).toInt64)))])) _
      refine XS.lloadN X1.here hx rfl (hb hby own_d4_27) rfl ?_
      show Steps p.tables e below (T1.setTop (mkF m 28 #[.val (.long q0), .second, .val (.long (own_v4_20_1 q0)), .second] [(.long (own_v4_20_1 q0)), (.long ((own_v4_20_1 q0) ^^^ (((own_v4_20_1 q0).toUInt64 >>> ((27 : Int32) &&& 0x3f).toInt64.toUInt64).toInt64)))])) _
      refine XS.bipush X1.here hx rfl (hb hby own_d4_28) ?_
      show Steps p.tables e below (T1.setTop (mkF m 30 #[.val (.long q0), .second, .val (.long (own_v4_20_1 q0)), .second] [(.int (54 : Int32)), (.long (own_v4_20_1 q0)), (.long ((own_v4_20_1 q0) ^^^ (((own_v4_20_1 q0).toUInt64 >>> ((27 : Int32) &&& 0x3f).toInt64.toUInt64).toInt64)))])) _
      refine XS.lushr X1.here hx rfl (hb hby own_d4_30) rfl ?_
      show Steps p.tables e below (T1.setTop (mkF m 31 #[.val (.long q0), .second, .val (.long (own_v4_20_1 q0)), .second] [(.long (((own_v4_20_1 q0).toUInt64 >>> ((54 : Int32) &&& 0x3f).toInt64.toUInt64).toInt64)), (.long ((own_v4_20_1 q0) ^^^ (((own_v4_20_1 q0).toUInt64 >>> ((27 : Int32) &&& 0x3f).toInt64.toUInt64).toInt64)))])) _
      refine XS.lxor X1.here hx rfl (hb hby own_d4_31) rfl ?_
      show Steps p.tables e below (T1.setTop (mkF m 32 #[.val (.long q0), .second, .val (.long (own_v4_20_1 q0)), .second] [(.long (((own_v4_20_1 q0) ^^^ (((own_v4_20_1 q0).toUInt64 >>> ((27 : Int32) &&& 0x3f).toInt64.toUInt64).toInt64)) ^^^ (((own_v4_20_1 q0).toUInt64 >>> ((54 : Int32) &&& 0x3f).toInt64.toUInt64).toInt64)))])) _
      refine XS.lstoreN X1.here hx rfl (hb hby own_d4_32) rfl (l' := #[.val (.long q0), .second, .val (.long (own_v4_32_2 q0)), .second]) rfl ?_
      show Steps p.tables e below (T1.setTop (mkF m 33 #[.val (.long q0), .second, .val (.long (own_v4_32_2 q0)), .second] [])) _
      refine XS.lloadN X1.here hx rfl (hb hby own_d4_33) rfl ?_
      show Steps p.tables e below (T1.setTop (mkF m 34 #[.val (.long q0), .second, .val (.long (own_v4_32_2 q0)), .second] [(.long (own_v4_32_2 q0))])) _
      refine X1.ldc2Long hx hown (mvT hZ (hw _ (List.mem_of_getElem? (i := 29) rfl))) (g := (mkF m 34 #[.val (.long q0), .second, .val (.long (own_v4_32_2 q0)), .second] [(.long (own_v4_32_2 q0))])) rfl (hb hby own_d4_34) _ ?_
      show Steps p.tables e below (T1.setTop (mkF m 37 #[.val (.long q0), .second, .val (.long (own_v4_32_2 q0)), .second] [(.long (-4658895280553007687 : Int64)), (.long (own_v4_32_2 q0))])) _
      refine st3 _ ?_
      show Steps p.tables e below (T3.setTop (mkF m 40 #[.val (.long q0), .second, .val (.long (own_v4_32_2 q0)), .second] [(.long (own_v5_51_3 (-4658895280553007687 : Int64))), (.long (own_v4_32_2 q0))])) _
      refine XS.lmul X3.here hx rfl (hb hby own_d4_40) rfl ?_
      show Steps p.tables e below (T3.setTop (mkF m 41 #[.val (.long q0), .second, .val (.long (own_v4_32_2 q0)), .second] [(.long ((own_v4_32_2 q0) * (own_v5_51_3 (-4658895280553007687 : Int64))))])) _
      refine XS.lstoreN X3.here hx rfl (hb hby own_d4_41) rfl (l' := #[.val (.long q0), .second, .val (.long (own_v4_41_3 q0)), .second]) rfl ?_
      show Steps p.tables e below (T3.setTop (mkF m 42 #[.val (.long q0), .second, .val (.long (own_v4_41_3 q0)), .second] [])) _
      refine XS.lloadN X3.here hx rfl (hb hby own_d4_42) rfl ?_
      show Steps p.tables e below (T3.setTop (mkF m 43 #[.val (.long q0), .second, .val (.long (own_v4_41_3 q0)), .second] [(.long (own_v4_41_3 q0))])) _
      refine XS.lloadN X3.here hx rfl (hb hby own_d4_43) rfl ?_
      show Steps p.tables e below (T3.setTop (mkF m 44 #[.val (.long q0), .second, .val (.long (own_v4_41_3 q0)), .second] [(.long (own_v4_41_3 q0)), (.long (own_v4_41_3 q0))])) _
      refine XS.bipush X3.here hx rfl (hb hby own_d4_44) ?_
      show Steps p.tables e below (T3.setTop (mkF m 46 #[.val (.long q0), .second, .val (.long (own_v4_41_3 q0)), .second] [(.int (30 : Int32)), (.long (own_v4_41_3 q0)), (.long (own_v4_41_3 q0))])) _
      refine XS.lushr X3.here hx rfl (hb hby own_d4_46) rfl ?_
      show Steps p.tables e below (T3.setTop (mkF m 47 #[.val (.long q0), .second, .val (.long (own_v4_41_3 q0)), .second] [(.long (((own_v4_41_3 q0).toUInt64 >>> ((30 : Int32) &&& 0x3f).toInt64.toUInt64).toInt64)), (.long (own_v4_41_3 q0))])) _
      refine XS.lxor X3.here hx rfl (hb hby own_d4_47) rfl ?_
      show Steps p.tables e below (T3.setTop (mkF m 48 #[.val (.long q0), .second, .val (.long (own_v4_41_3 q0)), .second] [(.long ((own_v4_41_3 q0) ^^^ (((own_v4_41_3 q0).toUInt64 >>> ((30 : Int32) &&& 0x3f).toInt64.toUInt64).toInt64)))])) _
      refine XS.lloadN X3.here hx rfl (hb hby own_d4_48) rfl ?_
      show Steps p.tables e below (T3.setTop (mkF m 49 #[.val (.long q0), .second, .val (.long (own_v4_41_3 q0)), .second] [(.long (own_v4_41_3 q0)), (.long ((own_v4_41_3 q0) ^^^ (((own_v4_41_3 q0).toUInt64 >>> ((30 : Int32) &&& 0x3f).toInt64.toUInt64).toInt64)))])) _
      refine XS.bipush X3.here hx rfl (hb hby own_d4_49) ?_
      show Steps p.tables e below (T3.setTop (mkF m 51 #[.val (.long q0), .second, .val (.long (own_v4_41_3 q0)), .second] [(.int (60 : Int32)), (.long (own_v4_41_3 q0)), (.long ((own_v4_41_3 q0) ^^^ (((own_v4_41_3 q0).toUInt64 >>> ((30 : Int32) &&& 0x3f).toInt64.toUInt64).toInt64)))])) _
      refine XS.lushr X3.here hx rfl (hb hby own_d4_51) rfl ?_
      show Steps p.tables e below (T3.setTop (mkF m 52 #[.val (.long q0), .second, .val (.long (own_v4_41_3 q0)), .second] [(.long (((own_v4_41_3 q0).toUInt64 >>> ((60 : Int32) &&& 0x3f).toInt64.toUInt64).toInt64)), (.long ((own_v4_41_3 q0) ^^^ (((own_v4_41_3 q0).toUInt64 >>> ((30 : Int32) &&& 0x3f).toInt64.toUInt64).toInt64)))])) _
      refine XS.lxor X3.here hx rfl (hb hby own_d4_52) rfl ?_
      show Steps p.tables e below (T3.setTop (mkF m 53 #[.val (.long q0), .second, .val (.long (own_v4_41_3 q0)), .second] [(.long (((own_v4_41_3 q0) ^^^ (((own_v4_41_3 q0).toUInt64 >>> ((30 : Int32) &&& 0x3f).toInt64.toUInt64).toInt64)) ^^^ (((own_v4_41_3 q0).toUInt64 >>> ((60 : Int32) &&& 0x3f).toInt64.toUInt64).toInt64)))])) _
      refine XS.lstoreN X3.here hx rfl (hb hby own_d4_53) rfl (l' := #[.val (.long q0), .second, .val (.long (own_v4_53_4 q0)), .second]) rfl ?_
      show Steps p.tables e below (T3.setTop (mkF m 54 #[.val (.long q0), .second, .val (.long (own_v4_53_4 q0)), .second] [])) _
      refine XS.lloadN X3.here hx rfl (hb hby own_d4_54) rfl ?_
      show Steps p.tables e below (T3.setTop (mkF m 55 #[.val (.long q0), .second, .val (.long (own_v4_53_4 q0)), .second] [(.long (own_v4_53_4 q0))])) _
      exact k)
  obtain ⟨fs, hr, hrun, hended, hW, hsame⟩ := X3.leave (v := some (.long (own_v4_53_4 q0))) (fun h => by rw [Bd.returns] at h; cases h)
  refine ⟨_, _, pre5 _ ?_, hrun, hended, _, _, rfl, ?_, ⟨_, rfl⟩, hW, hsame.mono (by decide) (by decide)⟩
  · show Steps p.tables e below (T3.setTop (mkF m 55 #[.val (.long q0), .second, .val (.long (own_v4_53_4 q0)), .second] [(.long (own_v4_53_4 q0))])) _
    exact own_retJ X3 hx Bd.returns (hb hby own_d4_55) hr
  · show own_Q4 Z q0 h0 n0 _ T3.heap _; rw [e3]; exact ⟨rfl, N4, rfl⟩
theorem own_pd1 : parseMethodDescriptor "(J)V" = some ⟨[.long], none⟩ := by decide +kernel
theorem own_pd2 : parseMethodDescriptor "()J" = some ⟨[], some .long⟩ := by decide +kernel
theorem own_pn0 : plainName "com/example/trickchest/trickchest/SeededRandomNextLongPinLaw" = true := by first | (simp [plainName, overriddenIn]; done) | decide +kernel
theorem own_ef0 (m : MethodId) (x0 : Int64) : entryFrame m #[(.long x0)] maxLocals = (mkF m 0 #[.val (.long x0), .second, .unset, .unset, .unset, .unset, .unset, .unset, .unset] []) := by first | (simp [entryFrame, mkF, argsToLocals, Value.category, maxLocals]; done) | rfl
def own_v0_26_0 (q0 : Int64) : Int64 := (own_f3 (q0 + (-7046029254386353131 : Int64)))
def own_f0 (q0 : Int64) : Int32 := (if (own_v4_53_4 (own_f3 q0)) = (q0 + (-7046029254386353131 : Int64)) then (if (own_v4_53_4 (own_v0_26_0 q0)) = (q0 + (4354685564936845354 : Int64)) then (1 : Int32) else (0 : Int32)) else (0 : Int32))
def own_Q0 (Z : State) (q0 : Int64) (h0 : Heap) (n0 : Nat) (v : Option Value) (h : Heap) (L : List Loc) : Prop := v = some (.int (own_f0 q0)) ∧ Fr n0 L
set_option maxRecDepth 65536 in
set_option maxHeartbeats 40000000 in
theorem own_rm0 (l : Launch) (Z : State) (a0 : Array Value) (hw : ∀ d ∈ tables_1, d.before a0 Z = true) (ws : List Jvm.Cond) (q0 : Int64) (h0 : Heap) (n0 : Nat) (Z0 : n0 ≤ h0.size) :
    MetFree l x (head1 (Jvm.Cond.code x code maxLocals ret :: ws) room_1) (fun a U => a = #[(.long q0)] ∧ Z.Warmed39 U.vm ∧ U.heap = h0) (fun _ _ _ _ _ => True) (fun _ U o U' => ∃ v L, o = .returned v ∧ own_Q0 Z q0 h0 n0 v U'.heap L ∧ FrameEnd U o U' L room_1.cells room_1.slots) := by
  refine MetFree.of_bodySF (plainFor_of_name own_pn0) hisR ?_
  intro p e s m args below meth c s₁ Bd hml0 hP hK
  obtain ⟨rfl, hZ, hh⟩ := hP
  have hx := Bd.exec
  have hby := Bd.bytes
  have hml : c.maxLocals = 9 := hml0
  have hown : s.vm.findClass "com/example/trickchest/trickchest/SeededRandomNextLongPinLaw" = some m.cls := findClass_of_methodNamed Bd.named
  have hnm := (name_of_methodNamed Bd.named Bd.method).1
  have X0 : Stand p l e room_1 s m #[(.long q0)] below meth c s₁ [] 0 0 := Stand.of_body Bd
  have e0 : s₁.heap = h0 := by rw [← hh, Bd.state]; rfl
  have N0 := Fr.nil n0
  have pre0 : ∀ t, Steps p.tables e below (s₁.setTop (mkF m 0 #[.val (.long q0), .second, .unset, .unset, .unset, .unset, .unset, .unset, .unset] [])) t → Steps p.tables e below (s₁.setTop (entryFrame m #[(.long q0)] maxLocals)) t := fun t k => castTop (own_ef0 m q0) k
  obtain ⟨T1, h1, X1, e1, E1, A1, D1, -, st1⟩ := newO X0 hx hZ hown (hw _ (List.mem_of_getElem? (i := 1) rfl)) (hw _ (List.mem_of_getElem? (i := 2) rfl)) (hw _ (List.mem_of_getElem? (i := 3) rfl)) e0 (g := (mkF m 4 #[.val (.long q0), .second, .val (.long (-7046029254386353131 : Int64)), .second, .unset, .unset, .unset, .unset, .unset] [])) rfl (hb hby at_4) (by decide) (by decide)
  obtain ⟨b1, g1⟩ : ∃ z, z = h0.size := ⟨_, rfl⟩
  rw [← g1] at A1 D1 st1
  have g_b1 : n0 ≤ b1 := Nat.le_trans Z0 (Nat.le_of_eq g1.symm)
  have K2 : Keep h0 h0 [] := Keep.refl h0 []
  have sz_b1 : h0.size ≤ b1 := Nat.le_trans K2.1 (Nat.le_of_eq g1.symm)
  have zs3 : n0 ≤ h1.size := Nat.le_trans Z0 E1.1
  have K4 : Keep h0 h1 [] := K2.ext E1
  have f5 : Fld Z h1 b1 "com/example/trickchest/trickchest/SeededRandom" "state" "J" (.long (0 : Int64)) := D1 (Or.inl (hw _ (List.mem_of_getElem? (i := 11) rfl))) (ty := .long) (by decide)
  obtain ⟨_, _, ⟨T6, L6, k6, n6⟩, -, X6, ⟨Lc6, hQ6, l6, y6, z6⟩, st6⟩ := X1.specialBack hx (y := (⟨"com/example/trickchest/trickchest/SeededRandom", "<init>", "(J)V"⟩ : MethodName)) rfl hown (mvT hZ (hw _ (List.mem_of_getElem? (i := 4) rfl))) (mvT hZ (hw _ (List.mem_of_getElem? (i := 5) rfl))) (mvT hZ (hw _ (List.mem_of_getElem? (i := 6) rfl))) (by decide) (backOf (W := 1) (own_rm1 l Z a0 hw [] b1 q0 (.long (0 : Int64)) h1 n0 zs3 A1 f5 g_b1) hZ (hw _ (List.mem_of_getElem? (i := 6) rfl)) (hw _ (List.mem_of_getElem? (i := 3) rfl)) (by decide) (by decide)) (g := (mkF m 9 #[.val (.long q0), .second, .val (.long (-7046029254386353131 : Int64)), .second, .unset, .unset, .unset, .unset, .unset] [(.long q0), (.ref b1), (.ref b1)])) rfl (by rw [hml]; rfl) (Steps.refl _) (a := b1) (argsL := [(.long q0)]) (rest := [(.ref b1)]) (lenOf own_pd1 rfl) rfl (by show 2 * 0 + _ ≤ _; exact Nat.le_of_eq rfl) (hb hby at_9) (fun _ _ => ⟨rfl, e1, (by decide : 1 + 0 ≤ _), (by decide : 1 + 0 ≤ _)⟩)
  dsimp only [Pt.U, Pt.locs, Pt.cells, Pt.slots] at X6 l6 y6 z6 st6 hQ6
  subst l6 y6 z6
  obtain ⟨rfl, N6q, K6, f7, f8⟩ := hQ6
  have zs9 : n0 ≤ T6.heap.size := Nat.le_trans zs3 K6.1
  have K10 : Keep h0 T6.heap [] := K4.trans K6 (allS (Or.inr sz_b1) all0)
  have N11 := Fr.app N0 N6q
  obtain ⟨cq12, kq12, q12a, q12b, q12c⟩ := isOf hZ rfl f7
  obtain ⟨_, _, ⟨T12, L12, k12, n12⟩, -, X12, ⟨Lc12, hQ12, l12, y12, z12⟩, st12⟩ := X6.virtualBack hx (y := (⟨"com/example/trickchest/trickchest/SeededRandom", "nextLong", "()J"⟩ : MethodName)) (z := (⟨"com/example/trickchest/trickchest/SeededRandom", "nextLong", "()J"⟩ : MethodName)) hown (mvT hZ (hw _ (List.mem_of_getElem? (i := 12) rfl))) (mvT hZ (hw _ (List.mem_of_getElem? (i := 13) rfl))) (notFace_of_selects (args := #[]) (mvT hZ (hw _ (List.mem_of_getElem? (i := 15) rfl)))) (mvT hZ (hw _ (List.mem_of_getElem? (i := 15) rfl))) (mvT hZ (hw _ (List.mem_of_getElem? (i := 14) rfl))) (by decide) (backOf (W := 0) (own_rm3 l Z a0 hw [] b1 q0 T6.heap n0 zs9 f8 f7 g_b1) hZ (hw _ (List.mem_of_getElem? (i := 16) rfl)) (hw _ (List.mem_of_getElem? (i := 3) rfl)) (by decide) (by decide)) q12a q12c (g := (mkF m 16 #[.val (.long q0), .second, .val (.long (-7046029254386353131 : Int64)), .second, .val (.ref b1), .unset, .unset, .unset, .unset] [(.ref b1)])) rfl (by rw [hml]; rfl) (Steps.refl _) (argsL := []) (rest := []) (lenOf own_pd2 rfl) rfl (by show 2 * 0 + _ ≤ _; exact Nat.le_of_eq rfl) (hb hby at_16) (fun _ _ => ⟨rfl, rfl, (by decide : 1 + 0 ≤ _), (by decide : 1 + 0 ≤ _)⟩)
  dsimp only [Pt.U, Pt.locs, Pt.cells, Pt.slots] at X12 l12 y12 z12 st12 hQ12
  subst l12 y12 z12
  obtain ⟨rfl, N12q, K12, f13, f14⟩ := hQ12
  have zs15 : n0 ≤ T12.heap.size := Nat.le_trans zs9 K12.1
  have K16 : Keep h0 T12.heap [] := K10.trans K12 (allS (Or.inr sz_b1) all0)
  have N17 := Fr.app N11 N12q
  obtain ⟨cq18, kq18, q18a, q18b, q18c⟩ := isOf hZ rfl f14
  obtain ⟨_, _, ⟨T18, L18, k18, n18⟩, -, X18, ⟨Lc18, hQ18, l18, y18, z18⟩, st18⟩ := X12.virtualBack hx (y := (⟨"com/example/trickchest/trickchest/SeededRandom", "nextLong", "()J"⟩ : MethodName)) (z := (⟨"com/example/trickchest/trickchest/SeededRandom", "nextLong", "()J"⟩ : MethodName)) hown (mvT hZ (hw _ (List.mem_of_getElem? (i := 12) rfl))) (mvT hZ (hw _ (List.mem_of_getElem? (i := 13) rfl))) (notFace_of_selects (args := #[]) (mvT hZ (hw _ (List.mem_of_getElem? (i := 15) rfl)))) (mvT hZ (hw _ (List.mem_of_getElem? (i := 15) rfl))) (mvT hZ (hw _ (List.mem_of_getElem? (i := 14) rfl))) (by decide) (backOf (W := 0) (own_rm3 l Z a0 hw [] b1 (q0 + (-7046029254386353131 : Int64)) T12.heap n0 zs15 f13 f14 g_b1) hZ (hw _ (List.mem_of_getElem? (i := 16) rfl)) (hw _ (List.mem_of_getElem? (i := 3) rfl)) (by decide) (by decide)) q18a q18c (g := (mkF m 23 #[.val (.long q0), .second, .val (.long (-7046029254386353131 : Int64)), .second, .val (.ref b1), .val (.long (own_f3 q0)), .second, .unset, .unset] [(.ref b1)])) rfl (by rw [hml]; rfl) (Steps.refl _) (argsL := []) (rest := []) (lenOf own_pd2 rfl) rfl (by show 2 * 0 + _ ≤ _; exact Nat.le_of_eq rfl) (hb hby at_23) (fun _ _ => ⟨rfl, rfl, (by decide : 1 + 0 ≤ _), (by decide : 1 + 0 ≤ _)⟩)
  dsimp only [Pt.U, Pt.locs, Pt.cells, Pt.slots] at X18 l18 y18 z18 st18 hQ18
  subst l18 y18 z18
  obtain ⟨rfl, N18q, K18, f19, f20⟩ := hQ18
  have zs21 : n0 ≤ T18.heap.size := Nat.le_trans zs15 K18.1
  have K22 : Keep h0 T18.heap [] := K16.trans K18 (allS (Or.inr sz_b1) all0)
  have N23 := Fr.app N17 N18q
  obtain ⟨_, _, ⟨T24, L24, k24, n24⟩, -, X24, ⟨Lc24, hQ24, l24, y24, z24⟩, st24⟩ := Jvm.LawKit.callS X18 hx (y := (⟨"com/example/trickchest/trickchest/SeededRandomNextLongPinLaw", "unmix", "(J)J"⟩ : MethodName)) hown (mvT hZ (hw _ (List.mem_of_getElem? (i := 20) rfl))) (mvT hZ (hw _ (List.mem_of_getElem? (i := 21) rfl))) (mvT hZ (hw _ (List.mem_of_getElem? (i := 22) rfl))) (mvT hZ (hw _ (List.mem_of_getElem? (i := 23) rfl))) (by decide) (backOf (W := 0) (own_rm4 l Z a0 hw [] (own_f3 q0) T18.heap n0 zs21 ) hZ (hw _ (List.mem_of_getElem? (i := 23) rfl)) (hw _ (List.mem_of_getElem? (i := 22) rfl)) (by decide) (by decide)) (g := (mkF m 30 #[.val (.long q0), .second, .val (.long (-7046029254386353131 : Int64)), .second, .val (.ref b1), .val (.long (own_f3 q0)), .second, .val (.long (own_v0_26_0 q0)), .second] [(.long (own_f3 q0))])) rfl (by rw [hml]; rfl) (argsL := [(.long (own_f3 q0))]) (rest := []) (lenOf own_pd0 rfl) rfl (by show 2 * 0 + _ ≤ _; exact Nat.le_of_eq rfl) (hb hby at_30) (fun _ _ => ⟨rfl, rfl, (by decide : 1 + 0 ≤ _), (by decide : 1 + 0 ≤ _)⟩)
  dsimp only [Pt.U, Pt.locs, Pt.cells, Pt.slots] at X24 l24 y24 z24 st24 hQ24
  subst l24 y24 z24
  obtain ⟨rfl, N24q, e24⟩ := hQ24
  have N25 := Fr.app N23 N24q
  have pre26 : ∀ t, Steps p.tables e below (T24.setTop (mkF m 37 #[.val (.long q0), .second, .val (.long (-7046029254386353131 : Int64)), .second, .val (.ref b1), .val (.long (own_f3 q0)), .second, .val (.long (own_v0_26_0 q0)), .second] [(.int (lcmpW (own_v4_53_4 (own_f3 q0)) (q0 + (-7046029254386353131 : Int64))))])) t → Steps p.tables e below (s₁.setTop (entryFrame m #[(.long q0)] maxLocals)) t := fun t k => pre0 t (by
      refine X0.ldc2Long hx hown (mvT hZ (hw _ (List.mem_of_getElem? (i := 0) rfl))) (g := (mkF m 0 #[.val (.long q0), .second, .unset, .unset, .unset, .unset, .unset, .unset, .unset] [])) rfl (hb hby at_0) _ ?_
      show Steps p.tables e below (s₁.setTop (mkF m 3 #[.val (.long q0), .second, .unset, .unset, .unset, .unset, .unset, .unset, .unset] [(.long (-7046029254386353131 : Int64))])) _
      refine XS.lstoreN X0.here hx rfl (hb hby at_3) rfl (l' := #[.val (.long q0), .second, .val (.long (-7046029254386353131 : Int64)), .second, .unset, .unset, .unset, .unset, .unset]) rfl ?_
      show Steps p.tables e below (s₁.setTop (mkF m 4 #[.val (.long q0), .second, .val (.long (-7046029254386353131 : Int64)), .second, .unset, .unset, .unset, .unset, .unset] [])) _
      refine st1 _ ?_
      show Steps p.tables e below (T1.setTop (mkF m 7 #[.val (.long q0), .second, .val (.long (-7046029254386353131 : Int64)), .second, .unset, .unset, .unset, .unset, .unset] [(.ref b1)])) _
      refine XS.dup X1.here hx rfl (hb hby at_7) rfl rfl ?_
      show Steps p.tables e below (T1.setTop (mkF m 8 #[.val (.long q0), .second, .val (.long (-7046029254386353131 : Int64)), .second, .unset, .unset, .unset, .unset, .unset] [(.ref b1), (.ref b1)])) _
      refine XS.lloadN X1.here hx rfl (hb hby at_8) rfl ?_
      show Steps p.tables e below (T1.setTop (mkF m 9 #[.val (.long q0), .second, .val (.long (-7046029254386353131 : Int64)), .second, .unset, .unset, .unset, .unset, .unset] [(.long q0), (.ref b1), (.ref b1)])) _
      refine st6.trans ?_
      show Steps p.tables e below (T6.setTop (mkF m 12 #[.val (.long q0), .second, .val (.long (-7046029254386353131 : Int64)), .second, .unset, .unset, .unset, .unset, .unset] [(.ref b1)])) _
      refine XS.astore X6.here hx rfl (hb hby at_12) rfl rfl (l' := #[.val (.long q0), .second, .val (.long (-7046029254386353131 : Int64)), .second, .val (.ref b1), .unset, .unset, .unset, .unset]) rfl ?_
      show Steps p.tables e below (T6.setTop (mkF m 14 #[.val (.long q0), .second, .val (.long (-7046029254386353131 : Int64)), .second, .val (.ref b1), .unset, .unset, .unset, .unset] [])) _
      refine XS.aload X6.here hx rfl (hb hby at_14) rfl rfl ?_
      show Steps p.tables e below (T6.setTop (mkF m 16 #[.val (.long q0), .second, .val (.long (-7046029254386353131 : Int64)), .second, .val (.ref b1), .unset, .unset, .unset, .unset] [(.ref b1)])) _
      refine st12.trans ?_
      show Steps p.tables e below (T12.setTop (mkF m 19 #[.val (.long q0), .second, .val (.long (-7046029254386353131 : Int64)), .second, .val (.ref b1), .unset, .unset, .unset, .unset] [(.long (own_f3 q0))])) _
      refine XS.lstore X12.here hx rfl (hb hby at_19) rfl (l' := #[.val (.long q0), .second, .val (.long (-7046029254386353131 : Int64)), .second, .val (.ref b1), .val (.long (own_f3 q0)), .second, .unset, .unset]) rfl ?_
      show Steps p.tables e below (T12.setTop (mkF m 21 #[.val (.long q0), .second, .val (.long (-7046029254386353131 : Int64)), .second, .val (.ref b1), .val (.long (own_f3 q0)), .second, .unset, .unset] [])) _
      refine XS.aload X12.here hx rfl (hb hby at_21) rfl rfl ?_
      show Steps p.tables e below (T12.setTop (mkF m 23 #[.val (.long q0), .second, .val (.long (-7046029254386353131 : Int64)), .second, .val (.ref b1), .val (.long (own_f3 q0)), .second, .unset, .unset] [(.ref b1)])) _
      refine st18.trans ?_
      show Steps p.tables e below (T18.setTop (mkF m 26 #[.val (.long q0), .second, .val (.long (-7046029254386353131 : Int64)), .second, .val (.ref b1), .val (.long (own_f3 q0)), .second, .unset, .unset] [(.long (own_f3 (q0 + (-7046029254386353131 : Int64))))])) _
      refine XS.lstore X18.here hx rfl (hb hby at_26) rfl (l' := #[.val (.long q0), .second, .val (.long (-7046029254386353131 : Int64)), .second, .val (.ref b1), .val (.long (own_f3 q0)), .second, .val (.long (own_v0_26_0 q0)), .second]) rfl ?_
      show Steps p.tables e below (T18.setTop (mkF m 28 #[.val (.long q0), .second, .val (.long (-7046029254386353131 : Int64)), .second, .val (.ref b1), .val (.long (own_f3 q0)), .second, .val (.long (own_v0_26_0 q0)), .second] [])) _
      refine XS.lload X18.here hx rfl (hb hby at_28) rfl ?_
      show Steps p.tables e below (T18.setTop (mkF m 30 #[.val (.long q0), .second, .val (.long (-7046029254386353131 : Int64)), .second, .val (.ref b1), .val (.long (own_f3 q0)), .second, .val (.long (own_v0_26_0 q0)), .second] [(.long (own_f3 q0))])) _
      refine st24 _ ?_
      show Steps p.tables e below (T24.setTop (mkF m 33 #[.val (.long q0), .second, .val (.long (-7046029254386353131 : Int64)), .second, .val (.ref b1), .val (.long (own_f3 q0)), .second, .val (.long (own_v0_26_0 q0)), .second] [(.long (own_v4_53_4 (own_f3 q0)))])) _
      refine XS.lloadN X24.here hx rfl (hb hby at_33) rfl ?_
      show Steps p.tables e below (T24.setTop (mkF m 34 #[.val (.long q0), .second, .val (.long (-7046029254386353131 : Int64)), .second, .val (.ref b1), .val (.long (own_f3 q0)), .second, .val (.long (own_v0_26_0 q0)), .second] [(.long q0), (.long (own_v4_53_4 (own_f3 q0)))])) _
      refine XS.lloadN X24.here hx rfl (hb hby at_34) rfl ?_
      show Steps p.tables e below (T24.setTop (mkF m 35 #[.val (.long q0), .second, .val (.long (-7046029254386353131 : Int64)), .second, .val (.ref b1), .val (.long (own_f3 q0)), .second, .val (.long (own_v0_26_0 q0)), .second] [(.long (-7046029254386353131 : Int64)), (.long q0), (.long (own_v4_53_4 (own_f3 q0)))])) _
      refine XS.ladd X24.here hx rfl (hb hby at_35) rfl ?_
      show Steps p.tables e below (T24.setTop (mkF m 36 #[.val (.long q0), .second, .val (.long (-7046029254386353131 : Int64)), .second, .val (.ref b1), .val (.long (own_f3 q0)), .second, .val (.long (own_v0_26_0 q0)), .second] [(.long (q0 + (-7046029254386353131 : Int64))), (.long (own_v4_53_4 (own_f3 q0)))])) _
      refine XS.lcmp X24.here hx rfl (hb hby at_36) rfl ?_
      show Steps p.tables e below (T24.setTop (mkF m 37 #[.val (.long q0), .second, .val (.long (-7046029254386353131 : Int64)), .second, .val (.ref b1), .val (.long (own_f3 q0)), .second, .val (.long (own_v0_26_0 q0)), .second] [(.int (lcmpW (own_v4_53_4 (own_f3 q0)) (q0 + (-7046029254386353131 : Int64))))])) _
      exact k)
  by_cases hc27 : (own_v4_53_4 (own_f3 q0)) = (q0 + (-7046029254386353131 : Int64))
  · obtain ⟨_, _, ⟨T28, L28, k28, n28⟩, -, X28, ⟨Lc28, hQ28, l28, y28, z28⟩, st28⟩ := Jvm.LawKit.callS X24 hx (y := (⟨"com/example/trickchest/trickchest/SeededRandomNextLongPinLaw", "unmix", "(J)J"⟩ : MethodName)) hown (mvT hZ (hw _ (List.mem_of_getElem? (i := 20) rfl))) (mvT hZ (hw _ (List.mem_of_getElem? (i := 21) rfl))) (mvT hZ (hw _ (List.mem_of_getElem? (i := 22) rfl))) (mvT hZ (hw _ (List.mem_of_getElem? (i := 23) rfl))) (by decide) (backOf (W := 0) (own_rm4 l Z a0 hw [] (own_v0_26_0 q0) T18.heap n0 zs21 ) hZ (hw _ (List.mem_of_getElem? (i := 23) rfl)) (hw _ (List.mem_of_getElem? (i := 22) rfl)) (by decide) (by decide)) (g := (mkF m 42 #[.val (.long q0), .second, .val (.long (-7046029254386353131 : Int64)), .second, .val (.ref b1), .val (.long (own_f3 q0)), .second, .val (.long (own_v0_26_0 q0)), .second] [(.long (own_v0_26_0 q0))])) rfl (by rw [hml]; rfl) (argsL := [(.long (own_v0_26_0 q0))]) (rest := []) (lenOf own_pd0 rfl) rfl (by show 2 * 0 + _ ≤ _; exact Nat.le_of_eq rfl) (hb hby at_42) (fun _ _ => ⟨rfl, e24, (by decide : 1 + 0 ≤ _), (by decide : 1 + 0 ≤ _)⟩)
    dsimp only [Pt.U, Pt.locs, Pt.cells, Pt.slots] at X28 l28 y28 z28 st28 hQ28
    subst l28 y28 z28
    obtain ⟨rfl, N28q, e28⟩ := hQ28
    have N29 := Fr.app N25 N28q
    have pre30 : ∀ t, Steps p.tables e below (T28.setTop (mkF m 53 #[.val (.long q0), .second, .val (.long (-7046029254386353131 : Int64)), .second, .val (.ref b1), .val (.long (own_f3 q0)), .second, .val (.long (own_v0_26_0 q0)), .second] [(.int (lcmpW (own_v4_53_4 (own_v0_26_0 q0)) (q0 + (4354685564936845354 : Int64))))])) t → Steps p.tables e below (s₁.setTop (entryFrame m #[(.long q0)] maxLocals)) t := fun t k => pre26 t (by
        refine XS.ifNo X24.here hx rfl (hb hby at_37) rfl ((if0 _ _).trans (teq ((own_lw_eq _ _).mpr hc27)).2) ?_
        show Steps p.tables e below (T24.setTop (mkF m 40 #[.val (.long q0), .second, .val (.long (-7046029254386353131 : Int64)), .second, .val (.ref b1), .val (.long (own_f3 q0)), .second, .val (.long (own_v0_26_0 q0)), .second] [])) _
        refine XS.lload X24.here hx rfl (hb hby at_40) rfl ?_
        show Steps p.tables e below (T24.setTop (mkF m 42 #[.val (.long q0), .second, .val (.long (-7046029254386353131 : Int64)), .second, .val (.ref b1), .val (.long (own_f3 q0)), .second, .val (.long (own_v0_26_0 q0)), .second] [(.long (own_v0_26_0 q0))])) _
        refine st28 _ ?_
        show Steps p.tables e below (T28.setTop (mkF m 45 #[.val (.long q0), .second, .val (.long (-7046029254386353131 : Int64)), .second, .val (.ref b1), .val (.long (own_f3 q0)), .second, .val (.long (own_v0_26_0 q0)), .second] [(.long (own_v4_53_4 (own_v0_26_0 q0)))])) _
        refine XS.lloadN X28.here hx rfl (hb hby at_45) rfl ?_
        show Steps p.tables e below (T28.setTop (mkF m 46 #[.val (.long q0), .second, .val (.long (-7046029254386353131 : Int64)), .second, .val (.ref b1), .val (.long (own_f3 q0)), .second, .val (.long (own_v0_26_0 q0)), .second] [(.long q0), (.long (own_v4_53_4 (own_v0_26_0 q0)))])) _
        refine X28.ldc2Long hx hown (mvT hZ (hw _ (List.mem_of_getElem? (i := 28) rfl))) (g := (mkF m 46 #[.val (.long q0), .second, .val (.long (-7046029254386353131 : Int64)), .second, .val (.ref b1), .val (.long (own_f3 q0)), .second, .val (.long (own_v0_26_0 q0)), .second] [(.long q0), (.long (own_v4_53_4 (own_v0_26_0 q0)))])) rfl (hb hby at_46) _ ?_
        show Steps p.tables e below (T28.setTop (mkF m 49 #[.val (.long q0), .second, .val (.long (-7046029254386353131 : Int64)), .second, .val (.ref b1), .val (.long (own_f3 q0)), .second, .val (.long (own_v0_26_0 q0)), .second] [(.long (2 : Int64)), (.long q0), (.long (own_v4_53_4 (own_v0_26_0 q0)))])) _
        refine XS.lloadN X28.here hx rfl (hb hby at_49) rfl ?_
        show Steps p.tables e below (T28.setTop (mkF m 50 #[.val (.long q0), .second, .val (.long (-7046029254386353131 : Int64)), .second, .val (.ref b1), .val (.long (own_f3 q0)), .second, .val (.long (own_v0_26_0 q0)), .second] [(.long (-7046029254386353131 : Int64)), (.long (2 : Int64)), (.long q0), (.long (own_v4_53_4 (own_v0_26_0 q0)))])) _
        refine XS.lmul X28.here hx rfl (hb hby at_50) rfl ?_
        show Steps p.tables e below (T28.setTop (mkF m 51 #[.val (.long q0), .second, .val (.long (-7046029254386353131 : Int64)), .second, .val (.ref b1), .val (.long (own_f3 q0)), .second, .val (.long (own_v0_26_0 q0)), .second] [(.long (4354685564936845354 : Int64)), (.long q0), (.long (own_v4_53_4 (own_v0_26_0 q0)))])) _
        refine XS.ladd X28.here hx rfl (hb hby at_51) rfl ?_
        show Steps p.tables e below (T28.setTop (mkF m 52 #[.val (.long q0), .second, .val (.long (-7046029254386353131 : Int64)), .second, .val (.ref b1), .val (.long (own_f3 q0)), .second, .val (.long (own_v0_26_0 q0)), .second] [(.long (q0 + (4354685564936845354 : Int64))), (.long (own_v4_53_4 (own_v0_26_0 q0)))])) _
        refine XS.lcmp X28.here hx rfl (hb hby at_52) rfl ?_
        show Steps p.tables e below (T28.setTop (mkF m 53 #[.val (.long q0), .second, .val (.long (-7046029254386353131 : Int64)), .second, .val (.ref b1), .val (.long (own_f3 q0)), .second, .val (.long (own_v0_26_0 q0)), .second] [(.int (lcmpW (own_v4_53_4 (own_v0_26_0 q0)) (q0 + (4354685564936845354 : Int64))))])) _
        exact k)
    by_cases hc31 : (own_v4_53_4 (own_v0_26_0 q0)) = (q0 + (4354685564936845354 : Int64))
    · have pre32 : ∀ t, Steps p.tables e below (T28.setTop (mkF m 61 #[.val (.long q0), .second, .val (.long (-7046029254386353131 : Int64)), .second, .val (.ref b1), .val (.long (own_f3 q0)), .second, .val (.long (own_v0_26_0 q0)), .second] [(.int (1 : Int32))])) t → Steps p.tables e below (s₁.setTop (entryFrame m #[(.long q0)] maxLocals)) t := fun t k => pre30 t (by
          refine XS.ifNo X28.here hx rfl (hb hby at_53) rfl ((if0 _ _).trans (teq ((own_lw_eq _ _).mpr hc31)).2) ?_
          show Steps p.tables e below (T28.setTop (mkF m 56 #[.val (.long q0), .second, .val (.long (-7046029254386353131 : Int64)), .second, .val (.ref b1), .val (.long (own_f3 q0)), .second, .val (.long (own_v0_26_0 q0)), .second] [])) _
          refine XS.iconst X28.here hx rfl (hb hby at_56) ?_
          show Steps p.tables e below (T28.setTop (mkF m 57 #[.val (.long q0), .second, .val (.long (-7046029254386353131 : Int64)), .second, .val (.ref b1), .val (.long (own_f3 q0)), .second, .val (.long (own_v0_26_0 q0)), .second] [(.int (1 : Int32))])) _
          refine XS.goto X28.here hx rfl (pc0 := 57) (pc' := 61) rfl (hb hby at_57) (by decide) (by decide) ?_
          show Steps p.tables e below (T28.setTop (mkF m 61 #[.val (.long q0), .second, .val (.long (-7046029254386353131 : Int64)), .second, .val (.ref b1), .val (.long (own_f3 q0)), .second, .val (.long (own_v0_26_0 q0)), .second] [(.int (1 : Int32))])) _
          exact k)
      obtain ⟨fs, hr, hrun, hended, hW, hsame⟩ := X28.leave (v := some (.int (1 : Int32))) (fun h => by rw [Bd.returns] at h; cases h)
      refine ⟨_, _, pre32 _ ?_, hrun, hended, _, _, rfl, ?_, ⟨_, rfl⟩, hW, hsame.mono (by decide) (by decide)⟩
      · show Steps p.tables e below (T28.setTop (mkF m 61 #[.val (.long q0), .second, .val (.long (-7046029254386353131 : Int64)), .second, .val (.ref b1), .val (.long (own_f3 q0)), .second, .val (.long (own_v0_26_0 q0)), .second] [(.int (1 : Int32))])) _
        exact retN X28 hx (t := .boolean) Bd.returns (by simp) (hb hby at_61) hr
      · show own_Q0 Z q0 h0 n0 _ T28.heap _; exact ⟨(by show some (Value.int _) = some (.int (own_f0 q0)); unfold own_f0; rw [if_pos hc27, if_pos hc31]), N29⟩
    · have pre33 : ∀ t, Steps p.tables e below (T28.setTop (mkF m 61 #[.val (.long q0), .second, .val (.long (-7046029254386353131 : Int64)), .second, .val (.ref b1), .val (.long (own_f3 q0)), .second, .val (.long (own_v0_26_0 q0)), .second] [(.int (0 : Int32))])) t → Steps p.tables e below (s₁.setTop (entryFrame m #[(.long q0)] maxLocals)) t := fun t k => pre30 t (by
          refine XS.ifYes X28.here hx rfl (pc0 := 53) (pc' := 60) rfl (hb hby at_53) rfl ((if0 _ _).trans (feq (mt (own_lw_eq _ _).mp hc31)).2) (by decide) (by decide) ?_
          show Steps p.tables e below (T28.setTop (mkF m 60 #[.val (.long q0), .second, .val (.long (-7046029254386353131 : Int64)), .second, .val (.ref b1), .val (.long (own_f3 q0)), .second, .val (.long (own_v0_26_0 q0)), .second] [])) _
          refine XS.iconst X28.here hx rfl (hb hby at_60) ?_
          show Steps p.tables e below (T28.setTop (mkF m 61 #[.val (.long q0), .second, .val (.long (-7046029254386353131 : Int64)), .second, .val (.ref b1), .val (.long (own_f3 q0)), .second, .val (.long (own_v0_26_0 q0)), .second] [(.int (0 : Int32))])) _
          exact k)
      obtain ⟨fs, hr, hrun, hended, hW, hsame⟩ := X28.leave (v := some (.int (0 : Int32))) (fun h => by rw [Bd.returns] at h; cases h)
      refine ⟨_, _, pre33 _ ?_, hrun, hended, _, _, rfl, ?_, ⟨_, rfl⟩, hW, hsame.mono (by decide) (by decide)⟩
      · show Steps p.tables e below (T28.setTop (mkF m 61 #[.val (.long q0), .second, .val (.long (-7046029254386353131 : Int64)), .second, .val (.ref b1), .val (.long (own_f3 q0)), .second, .val (.long (own_v0_26_0 q0)), .second] [(.int (0 : Int32))])) _
        exact retN X28 hx (t := .boolean) Bd.returns (by simp) (hb hby at_61) hr
      · show own_Q0 Z q0 h0 n0 _ T28.heap _; exact ⟨(by show some (Value.int _) = some (.int (own_f0 q0)); unfold own_f0; rw [if_pos hc27, if_neg hc31]), N29⟩
  · have pre34 : ∀ t, Steps p.tables e below (T24.setTop (mkF m 61 #[.val (.long q0), .second, .val (.long (-7046029254386353131 : Int64)), .second, .val (.ref b1), .val (.long (own_f3 q0)), .second, .val (.long (own_v0_26_0 q0)), .second] [(.int (0 : Int32))])) t → Steps p.tables e below (s₁.setTop (entryFrame m #[(.long q0)] maxLocals)) t := fun t k => pre26 t (by
        refine XS.ifYes X24.here hx rfl (pc0 := 37) (pc' := 60) rfl (hb hby at_37) rfl ((if0 _ _).trans (feq (mt (own_lw_eq _ _).mp hc27)).2) (by decide) (by decide) ?_
        show Steps p.tables e below (T24.setTop (mkF m 60 #[.val (.long q0), .second, .val (.long (-7046029254386353131 : Int64)), .second, .val (.ref b1), .val (.long (own_f3 q0)), .second, .val (.long (own_v0_26_0 q0)), .second] [])) _
        refine XS.iconst X24.here hx rfl (hb hby at_60) ?_
        show Steps p.tables e below (T24.setTop (mkF m 61 #[.val (.long q0), .second, .val (.long (-7046029254386353131 : Int64)), .second, .val (.ref b1), .val (.long (own_f3 q0)), .second, .val (.long (own_v0_26_0 q0)), .second] [(.int (0 : Int32))])) _
        exact k)
    obtain ⟨fs, hr, hrun, hended, hW, hsame⟩ := X24.leave (v := some (.int (0 : Int32))) (fun h => by rw [Bd.returns] at h; cases h)
    refine ⟨_, _, pre34 _ ?_, hrun, hended, _, _, rfl, ?_, ⟨_, rfl⟩, hW, hsame.mono (by decide) (by decide)⟩
    · show Steps p.tables e below (T24.setTop (mkF m 61 #[.val (.long q0), .second, .val (.long (-7046029254386353131 : Int64)), .second, .val (.ref b1), .val (.long (own_f3 q0)), .second, .val (.long (own_v0_26_0 q0)), .second] [(.int (0 : Int32))])) _
      exact retN X24 hx (t := .boolean) Bd.returns (by simp) (hb hby at_61) hr
    · show own_Q0 Z q0 h0 n0 _ T24.heap _; exact ⟨(by show some (Value.int _) = some (.int (own_f0 q0)); unfold own_f0; rw [if_neg hc27]), N25⟩
theorem own_us (x : Int64) (q : Int32) (k : Nat) (hk : q.toBitVec.toNat % 64 = k) : ((x.toUInt64 >>> (q &&& 0x3f).toInt64.toUInt64).toInt64).toBitVec = x.toBitVec >>> k := by
  have h5 := (sm64 q k hk).2
  show x.toBitVec >>> ((q &&& 0x3f).toInt64.toBitVec % 64) = _
  rw [BitVec.ushiftRight_eq', (sm64 q k hk).1, BitVec.toNat_umod, BitVec.toNat_ofNat]
  congr 1
  show k % 2 ^ 64 % 64 = k
  omega
theorem own_un (b : BitVec 64) (i k : Nat) (hk : k = i + i) (h : 64 ≤ i + k) : ((b ^^^ b >>> i) ^^^ (b ^^^ b >>> i) >>> i) ^^^ (b ^^^ b >>> i) >>> k = b := by
  apply BitVec.eq_of_getLsbD_eq
  intro j hj
  have e1 : i + (i + j) = k + j := by omega
  have e2 : b.getLsbD (i + (k + j)) = false := BitVec.getLsbD_of_ge b _ (by omega)
  simp only [BitVec.getLsbD_xor, BitVec.getLsbD_ushiftRight, e1, e2]
  cases b.getLsbD j <;> cases b.getLsbD (i + j) <;> cases b.getLsbD (k + j) <;> rfl
theorem own_unL (x : Int64) (q q2 : Int32) (i k : Nat) (hq : q.toBitVec.toNat % 64 = i) (hq2 : q2.toBitVec.toNat % 64 = k) (hk : k = i + i) (h : 64 ≤ i + k) :
    ((x ^^^ ((x.toUInt64 >>> (q &&& 0x3f).toInt64.toUInt64).toInt64)) ^^^ (((x ^^^ ((x.toUInt64 >>> (q &&& 0x3f).toInt64.toUInt64).toInt64)).toUInt64 >>> (q &&& 0x3f).toInt64.toUInt64).toInt64)) ^^^ (((x ^^^ ((x.toUInt64 >>> (q &&& 0x3f).toInt64.toUInt64).toInt64)).toUInt64 >>> (q2 &&& 0x3f).toInt64.toUInt64).toInt64) = x := by
  apply Int64.toBitVec_inj.mp
  rw [Int64.toBitVec_xor, Int64.toBitVec_xor, own_us _ q2 k hq2, own_us _ q i hq, Int64.toBitVec_xor, own_us _ q i hq]
  exact own_un x.toBitVec i k hk h
theorem own_inv1 : (-7723592293110705685 : Int64) * own_v5_51_3 (-7723592293110705685 : Int64) = 1 := by decide +kernel
theorem own_inv2 : (-4658895280553007687 : Int64) * own_v5_51_3 (-4658895280553007687 : Int64) = 1 := by decide +kernel
theorem own_back (s : Int64) : own_v4_53_4 (own_f3 s) = s + (-7046029254386353131 : Int64) := by
  have e1 : own_v4_11_0 (own_f3 s) = own_v3_38_2 s := own_unL (own_v3_38_2 s) 31 62 31 62 (by decide) (by decide) (by decide) (by decide)
  have e2 : own_v4_20_1 (own_f3 s) = (own_v3_27_1 s) ^^^ (((own_v3_27_1 s).toUInt64 >>> ((27 : Int32) &&& 0x3f).toInt64.toUInt64).toInt64) := by
    unfold own_v4_20_1; rw [e1]; unfold own_v3_38_2; rw [Int64.mul_assoc, own_inv1, Int64.mul_one]
  have e3 : own_v4_32_2 (own_f3 s) = own_v3_27_1 s := by
    unfold own_v4_32_2; rw [e2]; exact own_unL (own_v3_27_1 s) 27 54 27 54 (by decide) (by decide) (by decide) (by decide)
  have e4 : own_v4_41_3 (own_f3 s) = (own_v3_16_0 s) ^^^ (((own_v3_16_0 s).toUInt64 >>> ((30 : Int32) &&& 0x3f).toInt64.toUInt64).toInt64) := by
    unfold own_v4_41_3; rw [e3]; unfold own_v3_27_1; rw [Int64.mul_assoc, own_inv2, Int64.mul_one]
  unfold own_v4_53_4; rw [e4]; exact own_unL (own_v3_16_0 s) 30 60 30 60 (by decide) (by decide) (by decide) (by decide)
theorem own_plain (s : Int64) : own_f0 s = 1 := by
  unfold own_f0
  rw [if_pos (own_back s), if_pos (show own_v4_53_4 (own_v0_26_0 s) = _ by
    show own_v4_53_4 (own_f3 (s + (-7046029254386353131 : Int64))) = _
    rw [own_back, Int64.add_assoc]; rfl)]
set_option maxRecDepth 65536 in
set_option maxHeartbeats 40000000 in
theorem comes_1 {Post : Tables → Env → Array Value → State → Outcome → State → Prop} (hpost : ∀ tb e args s v u, (limb_1_1.after args s (.returned v) u = true ∧ limb_1_2.after args s (.returned v) u = true ∧ True) → FrameEnd s (.returned v) u (Jvm.fieldLocs frame_1_writes args s ++ Jvm.arrayLocs frame_1_arrays args s ++ Jvm.staticLocs frame_1_statics s) 16 128 → Post tb e args s (.returned v) u) :
    ArmFor flags0 classFile x code maxLocals ret World_1 tables_1 room_1 Calls_1 rest_1 Pre_1 Post := by
  intro l hfl _ _ p e ha hc hk s m args below hf hA hF happ hP
  obtain ⟨hcalls, hrest, hpre⟩ := hP
  obtain ⟨-, -, -, hnamed, -, -, -, hat⟩ := (Spec.applies_iff hf).mp happ
  obtain ⟨hg, hn⟩ := and_e (Cond.before_iff.mp (show (Jvm.Cond.and given_1 narrow_1).before args s = true from hpre))
  obtain ⟨gc, gr0⟩ := and_e hg
  have ga0 := gr0
  obtain ⟨w0, rfl⟩ : ∃ w0 : Value, args = #[w0] := by
    have hs : args.size = 1 := by simpa [Cond.value, given_1] using gc
    obtain ⟨L⟩ := args
    match L, hs with
    | [w0], _ => exact ⟨w0, rfl⟩
  have hw := fun d (hd : d ∈ tables_1) => atoms_spec (ws := Jvm.Cond.code x code maxLocals ret :: tables_1) hat d (List.mem_cons_of_mem _ hd)
  obtain ⟨i0, ei0⟩ := isL_v ga0
  obtain rfl : w0 = (.long i0) := Option.some.inj ei0
  obtain ⟨n, o, h1, h2, h3, _, L, rfl, ⟨hv, N⟩, hq⟩ := own_rm0 l s _ hw tables_1 i0 s.heap s.heap.size (Nat.le_refl _) p e ha hc hk s m _ below hf ((Spec.applies_iff_loose hf).mp happ).1 ⟨rfl, State.Warmed39.refl s, rfl⟩ trivial
  rw [show (own_f0 i0) = (1 : Int32) from own_plain i0] at hv
  subst hv
  refine ⟨n, _, h1, h2, h3, hpost _ _ _ _ _ _ ⟨Cond.after_iff.mpr rfl, Cond.after_iff.mpr (eq_i res_at (Term.int_eval (1)) rfl), trivial⟩ ⟨hq.1, hq.2.1, (hq.2.2.sift fun y hy => Or.inr (N y hy)).mono (by decide) (by decide)⟩⟩
theorem main_1_1 : Claimed_1_1 := comes_1 fun _ _ _ _ _ _ h hF => ⟨h.1, hF⟩
theorem main_1_2 : Claimed_1_2 := comes_1 fun _ _ _ _ _ _ h hF => ⟨h.2.1, hF⟩
end Jvm.Pilot.@@N@@
namespace Jvm.Pilot.@@N@@
open Jvm Jvm.ClassFile Sem Op Lib Jvm.Free Jvm.Stand Jvm.Pilot.@@N@@.Jvm.D
/-! MADE BY PROGRAM (witnessworld.py) out of the Statement's table words and the real class files: 9 classes; the members and pool entries that the words name. The judged class is class 1, her method 3. -/
namespace start1
open Jvm.ClassFile
def u (s : String) : CpInfo := .utf8 (stringToUtf16 s)
/-- a pool by its gaps: so many unusable entries, then the entry; so many at the end -/
def gap : Nat → List CpInfo → List CpInfo
  | 0, r => r
  | n + 1, r => .unusable :: gap n r
def poolList (es : List (Nat × CpInfo)) (last : Nat) : List CpInfo := es.foldr (fun e r => gap e.1 (e.2 :: r)) (gap last [])
def pool (es : List (Nat × CpInfo)) (last : Nat) : Array CpInfo := ⟨poolList es last⟩
def fileOf (pool : Array CpInfo) (this : Nat) (attrs : Array Attribute := #[]) (ms : Array MethodInfo := #[]) (fl : Nat := 33) (sup : Nat := 0) (ifs : Array Nat := #[]) (fds : Array FieldInfo := #[]) : ClassFile where
  minorVersion := 0
  majorVersion := 65
  constantPool := pool
  accessFlags := fl
  thisClass := this
  superClass := sup
  interfaces := ifs
  fields := fds
  methods := ms
  attributes := attrs
def plain (name : String) (sup : Option ClassId) : Class where
  name := name
  kind := .ordinary
  loader := none
  accessFlags := 33
  super := sup
  interfaces := #[]
  cf := none
  fields := #[]
  methods := #[]
  instanceTypes := #[]
  staticTypes := #[]
  resolved := #[]
  callSites := []
  init := .initialized
  statics := none
  mirror := none

def pool0 : Array CpInfo := pool [(5, u "<init>"), (0, u "()V"), (1, .class_ 10), (1, u "java/lang/Object")] 113

def k0c0 : Code := { maxStack := 0, maxLocals := 1, code := object_method_1_code, exceptionTable := #[], attributes := #[] }
def k0m0 : Method := { name := "<init>", desc := "()V", sig := { parameters := [], returnType := none }, accessFlags := 1, code := some k0c0 }
/-- java/lang/Object -/
def k0 : Class := { plain "java/lang/Object" none with
  accessFlags := 33
  interfaces := #[]
  cf := some (fileOf pool0 8 #[] #[{ accessFlags := 1, nameIndex := 5, descriptorIndex := 6, attributes := #[] }] 33 0 #[] #[])
  fields := #[]
  methods := #[k0m0]
  instanceTypes := #[]
  staticTypes := #[]
  resolved := Array.replicate 124 none
  statics := none }

def pool1 : Array CpInfo := pool [(2, .class_ 4), (1, u "java/lang/Object"), (0, u "<init>"), (0, u "()V"), (0, .long 2), (1, .long 10723151780598845931), (1, .methodref 12 13), (0, .class_ 14), (0, .nameAndType 15 16), (0, u "com/example/trickchest/trickchest/SeededRandomNextLongPinLaw"), (0, u "inverse"), (0, u "(J)J"), (0, .long 13787848793156543929), (1, .long 11400714819323198485), (1, .class_ 22), (0, u "com/example/trickchest/trickchest/SeededRandom"), (0, .methodref 21 24), (0, .nameAndType 5 25), (0, u "(J)V"), (0, .methodref 21 27), (0, .nameAndType 28 29), (0, u "nextLong"), (0, u "()J"), (0, .methodref 12 31), (0, .nameAndType 32 16), (0, u "unmix"), (2, u "law"), (0, u "(J)Z")] 3

def k1m0 : Method := { name := "<init>", desc := "()V", sig := { parameters := [], returnType := none }, accessFlags := 1, code := none }
def k1c1 : Code := { maxStack := 8, maxLocals := 4, code := method_2_code, exceptionTable := #[], attributes := #[] }
def k1m1 : Method := { name := "inverse", desc := "(J)J", sig := { parameters := [.long], returnType := some .long }, accessFlags := 10, code := some k1c1 }
def k1c2 : Code := { maxStack := 5, maxLocals := 4, code := method_3_code, exceptionTable := #[], attributes := #[] }
def k1m2 : Method := { name := "unmix", desc := "(J)J", sig := { parameters := [.long], returnType := some .long }, accessFlags := 10, code := some k1c2 }
def k1c3 : Code := { maxStack := 8, maxLocals := 9, code := code, exceptionTable := #[], attributes := #[] }
def k1m3 : Method := { name := "law", desc := "(J)Z", sig := { parameters := [.long], returnType := some .boolean }, accessFlags := 9, code := some k1c3 }
/-- com/example/trickchest/trickchest/SeededRandomNextLongPinLaw -/
def k1 : Class := { plain "com/example/trickchest/trickchest/SeededRandomNextLongPinLaw" (some 0) with
  accessFlags := 49
  interfaces := #[]
  cf := some (fileOf pool1 12 #[] #[{ accessFlags := 1, nameIndex := 5, descriptorIndex := 6, attributes := #[] }, { accessFlags := 10, nameIndex := 15, descriptorIndex := 16, attributes := #[] }, { accessFlags := 10, nameIndex := 32, descriptorIndex := 16, attributes := #[] }, { accessFlags := 9, nameIndex := 35, descriptorIndex := 36, attributes := #[] }] 49 2 #[] #[])
  fields := #[]
  methods := #[k1m0, k1m1, k1m2, k1m3]
  instanceTypes := #[]
  staticTypes := #[]
  resolved := Array.replicate 40 none
  statics := none }

def pool2 : Array CpInfo := pool [(1, .methodref 2 3), (0, .class_ 4), (0, .nameAndType 5 6), (0, u "java/lang/Object"), (0, u "<init>"), (0, u "()V"), (0, .fieldref 8 9), (0, .class_ 10), (0, .nameAndType 11 12), (0, u "com/example/trickchest/trickchest/SeededRandom"), (0, u "state"), (0, u "J"), (4, u "(J)V"), (0, .long 11400714819323198485), (1, .long 13787848793156543929), (1, .long 10723151780598845931), (12, u "nextLong"), (0, u "()J"), (4, u "GAMMA"), (1, u "LOW_32_BITS")] 24

def k2c0 : Code := { maxStack := 3, maxLocals := 3, code := prog_22_method_1_code, exceptionTable := #[], attributes := #[] }
def k2m0 : Method := { name := "<init>", desc := "(J)V", sig := { parameters := [.long], returnType := none }, accessFlags := 1, code := some k2c0 }
def k2c1 : Code := { maxStack := 5, maxLocals := 3, code := prog_22_method_3_code, exceptionTable := #[], attributes := #[] }
def k2m1 : Method := { name := "nextLong", desc := "()J", sig := { parameters := [], returnType := some .long }, accessFlags := 1, code := some k2c1 }
/-- com/example/trickchest/trickchest/SeededRandom -/
def k2 : Class := { plain "com/example/trickchest/trickchest/SeededRandom" (some 0) with
  accessFlags := 49
  interfaces := #[]
  cf := some (fileOf pool2 8 #[] #[{ accessFlags := 1, nameIndex := 5, descriptorIndex := 17, attributes := #[] }, { accessFlags := 1, nameIndex := 35, descriptorIndex := 36, attributes := #[] }] 49 2 #[] #[{ accessFlags := 26, nameIndex := 41, descriptorIndex := 12, attributes := #[] }, { accessFlags := 26, nameIndex := 43, descriptorIndex := 12, attributes := #[] }, { accessFlags := 2, nameIndex := 11, descriptorIndex := 12, attributes := #[] }])
  fields := #[{ name := "GAMMA", type := .long, accessFlags := 26, slot := 0, constantValue := 0 }, { name := "LOW_32_BITS", type := .long, accessFlags := 26, slot := 1, constantValue := 0 }, { name := "state", type := .long, accessFlags := 2, slot := 0, constantValue := 0 }]
  methods := #[k2m0, k2m1]
  instanceTypes := #[.long]
  staticTypes := #[.long, .long]
  resolved := Array.replicate 68 none
  statics := none }

def pool3 : Array CpInfo := pool [(1, u "java/lang/Cloneable"), (0, .class_ 1), (0, u "java/lang/Object"), (0, .class_ 3)] 3

/-- java/lang/Cloneable -/
def k3 : Class := { plain "java/lang/Cloneable" (some 0) with
  accessFlags := 1537
  interfaces := #[]
  cf := some (fileOf pool3 2 #[] #[] 1537 4 #[] #[])
  fields := #[]
  methods := #[]
  instanceTypes := #[]
  staticTypes := #[]
  resolved := Array.replicate 8 none
  statics := none }

def pool4 : Array CpInfo := pool [(1, u "java/io/Serializable"), (0, .class_ 1), (0, u "java/lang/Object"), (0, .class_ 3)] 3

/-- java/io/Serializable -/
def k4 : Class := { plain "java/io/Serializable" (some 0) with
  accessFlags := 1537
  interfaces := #[]
  cf := some (fileOf pool4 2 #[] #[] 1537 4 #[] #[])
  fields := #[]
  methods := #[]
  instanceTypes := #[]
  staticTypes := #[]
  resolved := Array.replicate 8 none
  statics := none }

/-- the primitive byte -/
def k5 : Class := { plain "byte" none with kind := .primitive 'B', accessFlags := 0x411 }
/-- [B -/
def k6 : Class := { plain "[B" (some 0) with kind := .array 5 .byte, interfaces := #[3, 4], accessFlags := 1041 }

/-- the primitive int -/
def k7 : Class := { plain "int" none with kind := .primitive 'I', accessFlags := 0x411 }
/-- [I -/
def k8 : Class := { plain "[I" (some 0) with kind := .array 7 .int, interfaces := #[3, 4], accessFlags := 1041 }

def heap : Heap := #[]
def classes : Array Class := #[k0, k1, k2, k3, k4, k5, k6, k7, k8]
def interned : List (Array UInt16 × Addr) := []
def slotsUsed : Nat := 0
def theMethod : MethodId := ⟨1, 3⟩
def args0 : Array Value := #[.long 5]
def aboutOver (below : List Frame) : State where
  vm := { classes := classes, interned := interned.toArray }
  heap := heap
  slotsUsed := slotsUsed
  threads := #[{ frames := .invoking theMethod args0 :: below }]
def below0 : List Frame := [.native { method := ⟨0, 0⟩, args := #[] }]
def about1 : State := aboutOver below0
def p0 : Program := .bare "" "" ""
def e0 : Env := launch0.env 0 0 0
theorem w_frames : about1.frames = Frame.invoking theMethod args0 :: below0 := rfl
set_option maxRecDepth 65536 in
theorem w_args : argsFit about1.vm theMethod args0 = true := by decide +kernel
set_option maxRecDepth 65536 in
theorem w_heap : heapFits about1 = true := by decide +kernel
set_option maxRecDepth 65536 in
theorem w_runnable : about1.curStatus? = some .runnable := by decide +kernel
set_option maxRecDepth 65536 in
theorem w_alone : about1.alone = true := by decide +kernel
set_option maxRecDepth 65536 in
theorem w_named : about1.methodNamed? x = some theMethod := by decide +kernel
set_option maxRecDepth 65536 in
theorem w_hears : about1.hears theMethod below0 = true := by decide +kernel
set_option maxRecDepth 65536 in
theorem w_ripe : about1.ripe theMethod args0 below0 = true := by decide +kernel
theorem w_running : about1.status = .running := rfl
set_option maxRecDepth 65536 in
theorem w_room : about1.hasRoom e0.platform room_1 = true :=
  launch0.hasRoom_least _ room_1 (by decide +kernel) (by decide +kernel) (by decide +kernel) (by decide +kernel) (by decide +kernel) (by decide +kernel)
theorem allAtoms_all (ts : List Jvm.Cond) (a : Array Jvm.Value) (st : Jvm.State) : (allAtoms ts).before a st = ts.all (fun c => c.before a st) := by
  induction ts with
  | nil => rfl
  | cons c t ih =>
    show (Jvm.Cond.and c (allAtoms t)).before a st = _
    rw [Jvm.Cond.before_and, ih, List.all_cons]
def words1 : List Jvm.Cond := Jvm.Cond.code x code maxLocals ret :: tables_1
/-- a 'code' word, met by the world's own term for the bytes: nothing is compared byte by byte -/
theorem code_word {y : MethodName} {bytes : ByteArray} {mx : Nat} {rt : Option FieldType} {a : Array Value} {s : State} {m : MethodId} {meth : Method} {c : Code} (h1 : s.methodNamed? y = some m) (h2 : s.vm.method? m = some meth) (h3 : meth.code = some c) (h4 : c.code = bytes)
    (h5 : (c.maxLocals == mx && c.exceptionTable.isEmpty && decide (c.maxStack ≤ mostOperands) && decide (meth.sig.returnType = rt) && !meth.locks && decide (parseMethodDescriptor y.desc = some meth.sig)) = true) : (Jvm.Cond.code y bytes mx rt).before a s = true := by
  simp only [Bool.and_eq_true, beq_iff_eq, Bool.not_eq_true', decide_eq_true_eq] at h5
  obtain ⟨⟨⟨⟨⟨g1, g2⟩, g3⟩, g4⟩, g5⟩, g6⟩ := h5
  simp [Cond.before, Cond.holds, Cond.value, h1, h2, h3, h4, g1, g2, g3, g4, g5, g6]
def isCode : Jvm.Cond → Bool
  | .code _ _ _ _ => true
  | _ => false
theorem all_split {L : List Jvm.Cond} {P : Jvm.Cond → Bool} (h1 : L.all (fun c => isCode c || P c) = true) (h2 : ∀ c ∈ L.filter isCode, P c = true) : L.all P = true := by
  refine List.all_eq_true.mpr fun c hc => ?_
  have h := List.all_eq_true.mp h1 c hc
  rcases Bool.eq_false_or_eq_true (isCode c) with hi | hi
  · exact h2 c (List.mem_filter.mpr ⟨hc, hi⟩)
  · simpa [hi] using h
set_option maxRecDepth 65536 in
theorem w_c0 : (Jvm.Cond.code x code maxLocals ret).before args0 about1 = true := code_word (m := ⟨1, 3⟩) (meth := k1m3) (c := k1c3) (by decide +kernel) rfl rfl rfl (by decide +kernel)
set_option maxRecDepth 65536 in
theorem w_c1 : (Jvm.Cond.code ({ cls := "com/example/trickchest/trickchest/SeededRandom", name := "<init>", desc := "(J)V" } : Jvm.MethodName) prog_22_method_1_code (3 : Nat) (Option.none : Option Jvm.ClassFile.FieldType)).before args0 about1 = true := code_word (m := ⟨2, 0⟩) (meth := k2m0) (c := k2c0) (by decide +kernel) rfl rfl rfl (by decide +kernel)
set_option maxRecDepth 65536 in
theorem w_c2 : (Jvm.Cond.code ({ cls := "java/lang/Object", name := "<init>", desc := "()V" } : Jvm.MethodName) object_method_1_code (1 : Nat) (Option.none : Option Jvm.ClassFile.FieldType)).before args0 about1 = true := code_word (m := ⟨0, 0⟩) (meth := k0m0) (c := k0c0) (by decide +kernel) rfl rfl rfl (by decide +kernel)
set_option maxRecDepth 65536 in
theorem w_c3 : (Jvm.Cond.code ({ cls := "com/example/trickchest/trickchest/SeededRandom", name := "nextLong", desc := "()J" } : Jvm.MethodName) prog_22_method_3_code (3 : Nat) (Option.some Jvm.ClassFile.FieldType.long)).before args0 about1 = true := code_word (m := ⟨2, 1⟩) (meth := k2m1) (c := k2c1) (by decide +kernel) rfl rfl rfl (by decide +kernel)
set_option maxRecDepth 65536 in
theorem w_c4 : (Jvm.Cond.code ({ cls := "com/example/trickchest/trickchest/SeededRandomNextLongPinLaw", name := "unmix", desc := "(J)J" } : Jvm.MethodName) method_3_code (4 : Nat) (Option.some Jvm.ClassFile.FieldType.long)).before args0 about1 = true := code_word (m := ⟨1, 2⟩) (meth := k1m2) (c := k1c2) (by decide +kernel) rfl rfl rfl (by decide +kernel)
set_option maxRecDepth 65536 in
theorem w_c5 : (Jvm.Cond.code ({ cls := "com/example/trickchest/trickchest/SeededRandomNextLongPinLaw", name := "inverse", desc := "(J)J" } : Jvm.MethodName) method_2_code (4 : Nat) (Option.some Jvm.ClassFile.FieldType.long)).before args0 about1 = true := code_word (m := ⟨1, 1⟩) (meth := k1m1) (c := k1c1) (by decide +kernel) rfl rfl rfl (by decide +kernel)
def codes1 : List Jvm.Cond := [Jvm.Cond.code x code maxLocals ret, Jvm.Cond.code ({ cls := "com/example/trickchest/trickchest/SeededRandom", name := "<init>", desc := "(J)V" } : Jvm.MethodName) prog_22_method_1_code (3 : Nat) (Option.none : Option Jvm.ClassFile.FieldType), Jvm.Cond.code ({ cls := "java/lang/Object", name := "<init>", desc := "()V" } : Jvm.MethodName) object_method_1_code (1 : Nat) (Option.none : Option Jvm.ClassFile.FieldType), Jvm.Cond.code ({ cls := "com/example/trickchest/trickchest/SeededRandom", name := "nextLong", desc := "()J" } : Jvm.MethodName) prog_22_method_3_code (3 : Nat) (Option.some Jvm.ClassFile.FieldType.long), Jvm.Cond.code ({ cls := "com/example/trickchest/trickchest/SeededRandomNextLongPinLaw", name := "unmix", desc := "(J)J" } : Jvm.MethodName) method_3_code (4 : Nat) (Option.some Jvm.ClassFile.FieldType.long), Jvm.Cond.code ({ cls := "com/example/trickchest/trickchest/SeededRandomNextLongPinLaw", name := "inverse", desc := "(J)J" } : Jvm.MethodName) method_2_code (4 : Nat) (Option.some Jvm.ClassFile.FieldType.long)]
set_option maxRecDepth 65536 in
theorem codes_eq : words1.filter isCode = codes1 := rfl
theorem w_codes : ∀ c ∈ words1.filter isCode, c.before args0 about1 = true := by
  rw [codes_eq]
  intro c hc
  simp only [codes1, List.mem_cons, List.not_mem_nil, or_false] at hc
  rcases hc with rfl | rfl | rfl | rfl | rfl | rfl
  · exact w_c0
  · exact w_c1
  · exact w_c2
  · exact w_c3
  · exact w_c4
  · exact w_c5
set_option maxRecDepth 65536 in
theorem w_t1 : (words1.take 24).all (fun c => isCode c || c.before args0 about1) = true := by decide +kernel
set_option maxRecDepth 65536 in
theorem w_t2 : (words1.drop 24).all (fun c => isCode c || c.before args0 about1) = true := by decide +kernel
theorem w_tables : (allAtoms (Jvm.Cond.code x code maxLocals ret :: tables_1)).before args0 about1 = true := by
  rw [allAtoms_all]
  show words1.all (fun c => c.before args0 about1) = true
  refine all_split ?_ w_codes
  rw [← List.take_append_drop 24 words1, List.all_append, w_t1, w_t2]
  rfl
set_option maxRecDepth 65536 in
theorem w_case : (Jvm.Cond.and given_1 narrow_1).before args0 about1 = true := by decide +kernel
theorem w_applies : (headSpec (Jvm.Cond.code x code maxLocals ret :: tables_1) room_1).applies x e0.platform about1 = true :=
  (Spec.applies_iff w_frames).mpr ⟨w_running, w_runnable, w_alone, w_named, w_hears, w_ripe, w_room, w_tables⟩
theorem atStart : AtStart classFile x code maxLocals ret World_1 tables_1 room_1 Calls_1 rest_1 Pre_1 launch0 p0 e0 about1 theMethod args0 below0 :=
  ⟨lists_1, trivial, launch0.admits_env _ _ _, launch0.least_env, fairChoices_fair.cas, fairChoices_fair.clock, w_frames, w_args, w_heap, w_applies, trivial, trivial, w_case⟩
end start1
theorem witness_1 : WitnessClaimed_1 := ⟨start1.p0, start1.e0, start1.about1, start1.theMethod, start1.args0, start1.below0, start1.atStart⟩
end Jvm.Pilot.@@N@@
