import JvmDerived
import JvmDerived.Pilot.@@N@@Statement
import JvmDerived.Pilot.@@N@@Code
set_option linter.unusedVariables false
set_option linter.unusedSimpArgs false
namespace Jvm.RoadKit
open Sem ClassFile Op Lib Jvm.Stand Jvm.Free Jvm.LawKit
section New
variable {p : Program} {l : Launch} {e : Env} {R : Room} {s : State} {m : MethodId} {args : Array Value} {below : List Frame} {meth : Method} {c : Code} {T : State} {locs : List Loc} {cells slots : Nat}
theorem retI (X : Stand p l e R s m args below meth c T locs cells slots) (hx : p.tables.exec = Jvm.exec) {pc : Nat} {Ls : Array Slot} {z : Int32} {rest : List Value} (hret : meth.sig.returnType = some .int) (hd : decode c.code pc = .ok (.ireturn, 1)) {fs : List Frame}
    (hl : ∀ (f : JFrame) (acts : List Action), f.method = m → f.locked = none → f.entered = [] → (doReturn e (T.setTop f) acts (some (.int z))).1 = T.setFrames fs) : Steps p.tables e below (T.setTop (mkF m pc Ls (.int z :: rest))) (T.setFrames fs) := by
  have hm' : T.vm.method? m = some meth := X.method'
  have hn : narrow .int (.int z) = .int z := rfl
  show Steps p.tables e below (T.setTop { method := m, pc := pc, locals := Ls, stack := _ :: rest, locked := none }) _
  jvm_step X.here [X.here.top, hx, hd, hm', hret, hn]
  first | (intro acts; rw [hl _ acts rfl rfl rfl]) | rw [hl _ _ rfl rfl rfl]
  exact Steps.refl _
end New
end Jvm.RoadKit
namespace Jvm.Pilot.@@N@@
open Jvm Jvm.ClassFile Sem Op Lib Jvm.Free Jvm.Stand Jvm.LawKit Jvm.RoadKit Bundle Jvm.Pilot.@@N@@.Jvm.D
theorem own_lw_lt (x y : Int64) : lcmpW x y < 0 ↔ x < y := by rw [lcW]; exact lc_lt x y
theorem own_lw_gt (x y : Int64) : 0 < lcmpW x y ↔ y < x := by rw [lcW]; exact lc_gt x y
theorem own_lw_eq (x y : Int64) : lcmpW x y = 0 ↔ x = y := by rw [lcW]; exact lc_eq x y
theorem own_retJ {p : Program} {l : Launch} {e : Env} {R : Room} {s : State} {m : MethodId} {args : Array Value} {below : List Frame} {meth : Method} {c : Code} {T : State} {locs : List Loc} {cells slots : Nat} (X : Stand p l e R s m args below meth c T locs cells slots) (hx : p.tables.exec = Jvm.exec) {pc : Nat} {Ls : Array Slot} {z : Int64} {rest : List Value} (hret : meth.sig.returnType = some .long) (hd : decode c.code pc = .ok (.lreturn, 1)) {fs : List Frame}
    (hl : ∀ (f : JFrame) (acts : List Action), f.method = m → f.locked = none → f.entered = [] → (doReturn e (T.setTop f) acts (some (.long z))).1 = T.setFrames fs) : Steps p.tables e below (T.setTop (mkF m pc Ls (.long z :: rest))) (T.setFrames fs) := by
  have hm' : T.vm.method? m = some meth := X.method'
  have hn : narrow .long (.long z) = .long z := rfl
  show Steps p.tables e below (T.setTop { method := m, pc := pc, locals := Ls, stack := _ :: rest, locked := none }) _
  jvm_step X.here [X.here.top, hx, hd, hm', hret, hn]
  first | (intro acts; rw [hl _ acts rfl rfl rfl]) | rw [hl _ _ rfl rfl rfl]
  exact Steps.refl _
theorem own_ne32 {k n : Int32} (h : ¬ k = n) : n.toInt ≠ k.toInt := fun e => h (Int32.toInt_inj.mp e.symm)
theorem own_d3_0 : decode jdk_30_method_1_code 0 = .ok (.aload_n 0, 1) := by decide +kernel
theorem own_d3_1 : decode jdk_30_method_1_code 1 = .ok (.invokespecial 1, 3) := by decide +kernel
theorem own_d3_4 : decode jdk_30_method_1_code 4 = .ok (.return_, 1) := by decide +kernel
theorem own_pn3 : plainName "java/lang/Record" = true := by first | (simp [plainName, overriddenIn]; done) | decide +kernel
theorem own_ef3 (m : MethodId) (x0 : Addr) : entryFrame m #[(.ref x0)] 1 = (mkF m 0 #[.val (.ref x0)] []) := by first | (simp [entryFrame, mkF, argsToLocals, Value.category]; done) | rfl
def own_Q3 (Z : State) (o0 : Addr) (h0 : Heap) (n0 : Nat) (v : Option Value) (h : Heap) (L : List Loc) : Prop := v = none ∧ Fr n0 L ∧ h = h0
set_option maxRecDepth 65536 in
set_option maxHeartbeats 40000000 in
theorem own_rm3 (l : Launch) (Z : State) (a0 : Array Value) (hw : ∀ d ∈ tables_1, d.before a0 Z = true) (ws : List Jvm.Cond) (o0 : Addr) (h0 : Heap) (n0 : Nat) (Z0 : n0 ≤ h0.size) :
    MetFree l (⟨"java/lang/Record", "<init>", "()V"⟩ : MethodName) (head1 (Jvm.Cond.code (⟨"java/lang/Record", "<init>", "()V"⟩ : MethodName) jdk_30_method_1_code 1 none :: ws) ({ frames := 1, cells := 0, slots := 0, locals := 12 } : Room)) (fun a U => a = #[(.ref o0)] ∧ Z.Warmed39 U.vm ∧ U.heap = h0) (fun _ _ _ _ _ => True) (fun _ U o U' => ∃ v L, o = .returned v ∧ own_Q3 Z o0 h0 n0 v U'.heap L ∧ FrameEnd U o U' L ({ frames := 1, cells := 0, slots := 0, locals := 12 } : Room).cells ({ frames := 1, cells := 0, slots := 0, locals := 12 } : Room).slots) := by
  refine MetFree.of_bodySF (plainFor_of_name own_pn3) hisR ?_
  intro p e s m args below meth c s₁ Bd hml0 hP hK
  obtain ⟨rfl, hZ, hh⟩ := hP
  have hx := Bd.exec
  have hlk : meth.locks = false := BodyLoose.notSynchronized Bd
  have hby := Bd.bytes
  have hml : c.maxLocals = 1 := hml0
  have hown : s.vm.findClass "java/lang/Record" = some m.cls := findClass_of_methodNamed Bd.named
  have hnm := (name_of_methodNamed Bd.named Bd.method).1
  have X0 : Stand p l e ({ frames := 1, cells := 0, slots := 0, locals := 12 } : Room) s m #[(.ref o0)] below meth c s₁ [] 0 0 := Stand.of_body Bd
  have e0 : s₁.heap = h0 := by rw [← hh, Bd.state]; rfl
  have N0 := Fr.nil n0
  have pre0 : ∀ t, Steps p.tables e below (s₁.setTop (mkF m 0 #[.val (.ref o0)] [])) t → Steps p.tables e below (s₁.setTop (entryFrame m #[(.ref o0)] 1)) t := fun t k => castTop (own_ef3 m o0) k
  obtain ⟨T1, X1, e1, st1⟩ := initO X0 hx hZ hown (hw _ (List.mem_of_getElem? (i := 14) rfl)) (hw _ (List.mem_of_getElem? (i := 15) rfl)) (hw _ (List.mem_of_getElem? (i := 16) rfl)) e0 (g := (mkF m 1 #[.val (.ref o0)] [(.ref o0)])) rfl (by rw [hml]; rfl) rfl (hb hby own_d3_1) (by decide) (W := 0) (by show 2 * 0 + _ ≤ _; exact Nat.le_of_eq rfl) (by decide)
  have pre2 : ∀ t, Steps p.tables e below (T1.setTop (mkF m 4 #[.val (.ref o0)] [])) t → Steps p.tables e below (s₁.setTop (entryFrame m #[(.ref o0)] 1)) t := fun t k => pre0 t (by
      refine XS.aloadN X0.here hx rfl (hb hby own_d3_0) rfl rfl ?_
      show Steps p.tables e below (s₁.setTop (mkF m 1 #[.val (.ref o0)] [(.ref o0)])) _
      refine st1 _ ?_
      show Steps p.tables e below (T1.setTop (mkF m 4 #[.val (.ref o0)] [])) _
      exact k)
  obtain ⟨fs, hr, hrun, hended, hW, hsame⟩ := X1.leave (v := none) (fun _ => rfl) (hlocks := hlk)
  refine ⟨_, _, pre2 _ ?_, hrun, hended, _, _, rfl, ?_, ⟨_, rfl⟩, hW, hsame.mono (by decide) (by decide)⟩
  · show Steps p.tables e below (T1.setTop (mkF m 4 #[.val (.ref o0)] [])) _
    exact X1.returnOut hx Bd.returns (hb hby own_d3_4) hr
  · show own_Q3 Z o0 h0 n0 _ T1.heap _; rw [e1]; exact ⟨rfl, N0, rfl⟩
theorem own_pd0 : parseMethodDescriptor "()V" = some ⟨[], none⟩ := by decide +kernel
theorem own_d2_0 : decode prog_6_method_1_code 0 = .ok (.aload_n 0, 1) := by decide +kernel
theorem own_d2_1 : decode prog_6_method_1_code 1 = .ok (.invokespecial 1, 3) := by decide +kernel
theorem own_d2_4 : decode prog_6_method_1_code 4 = .ok (.aload_n 0, 1) := by decide +kernel
theorem own_d2_5 : decode prog_6_method_1_code 5 = .ok (.iload_n 1, 1) := by decide +kernel
theorem own_d2_6 : decode prog_6_method_1_code 6 = .ok (.putfield 7, 3) := by decide +kernel
theorem own_d2_9 : decode prog_6_method_1_code 9 = .ok (.aload_n 0, 1) := by decide +kernel
theorem own_d2_10 : decode prog_6_method_1_code 10 = .ok (.lload_n 2, 1) := by decide +kernel
theorem own_d2_11 : decode prog_6_method_1_code 11 = .ok (.putfield 13, 3) := by decide +kernel
theorem own_d2_14 : decode prog_6_method_1_code 14 = .ok (.aload_n 0, 1) := by decide +kernel
theorem own_d2_15 : decode prog_6_method_1_code 15 = .ok (.lload 4, 2) := by decide +kernel
theorem own_d2_17 : decode prog_6_method_1_code 17 = .ok (.putfield 17, 3) := by decide +kernel
theorem own_d2_20 : decode prog_6_method_1_code 20 = .ok (.aload_n 0, 1) := by decide +kernel
theorem own_d2_21 : decode prog_6_method_1_code 21 = .ok (.aload 6, 2) := by decide +kernel
theorem own_d2_23 : decode prog_6_method_1_code 23 = .ok (.putfield 20, 3) := by decide +kernel
theorem own_d2_26 : decode prog_6_method_1_code 26 = .ok (.aload_n 0, 1) := by decide +kernel
theorem own_d2_27 : decode prog_6_method_1_code 27 = .ok (.lload 7, 2) := by decide +kernel
theorem own_d2_29 : decode prog_6_method_1_code 29 = .ok (.putfield 24, 3) := by decide +kernel
theorem own_d2_32 : decode prog_6_method_1_code 32 = .ok (.return_, 1) := by decide +kernel
theorem own_pn2 : plainName "com/example/ufunguo/ufunguo/lock/LockStore$Attempt" = true := by first | (simp [plainName, overriddenIn]; done) | decide +kernel
theorem own_ef2 (m : MethodId) (x0 : Addr) (x1 : Int32) (x2 : Int64) (x3 : Int64) (x4 : Addr) (x5 : Int64) : entryFrame m #[(.ref x0), (.int x1), (.long x2), (.long x3), (.ref x4), (.long x5)] 9 = (mkF m 0 #[.val (.ref x0), .val (.int x1), .val (.long x2), .second, .val (.long x3), .second, .val (.ref x4), .val (.long x5), .second] []) := by first | (simp [entryFrame, mkF, argsToLocals, Value.category]; done) | rfl
def own_Q2 (Z : State) (o0 : Addr) (p1 : Int32) (q2 : Int64) (q3 : Int64) (o4 : Addr) (q5 : Int64) (u_token_o0 : Value) (u_sleepNanos_o0 : Value) (u_holder_o0 : Value) (u_readMicros_o0 : Value) (u_taken_o0 : Value) (h0 : Heap) (n0 : Nat) (v : Option Value) (h : Heap) (L : List Loc) : Prop := v = none ∧ Fr n0 L ∧ Keep h0 h [o0] ∧ Fld Z h o0 "com/example/ufunguo/ufunguo/lock/LockStore$Attempt" "token" "J" (.long q2) ∧ Fld Z h o0 "com/example/ufunguo/ufunguo/lock/LockStore$Attempt" "sleepNanos" "J" (.long q3) ∧ Fld Z h o0 "com/example/ufunguo/ufunguo/lock/LockStore$Attempt" "holder" "[B" (.ref o4) ∧ Fld Z h o0 "com/example/ufunguo/ufunguo/lock/LockStore$Attempt" "readMicros" "J" (.long q5) ∧ Exa Z h o0 "com/example/ufunguo/ufunguo/lock/LockStore$Attempt" ∧ Fld Z h o0 "com/example/ufunguo/ufunguo/lock/LockStore$Attempt" "taken" "Z" (.int (nar .boolean p1))
set_option maxRecDepth 65536 in
set_option maxHeartbeats 40000000 in
theorem own_rm2 (l : Launch) (Z : State) (a0 : Array Value) (hw : ∀ d ∈ tables_1, d.before a0 Z = true) (ws : List Jvm.Cond) (o0 : Addr) (p1 : Int32) (q2 : Int64) (q3 : Int64) (o4 : Addr) (q5 : Int64) (u_token_o0 : Value) (u_sleepNanos_o0 : Value) (u_holder_o0 : Value) (u_readMicros_o0 : Value) (u_taken_o0 : Value) (h0 : Heap) (n0 : Nat) (Z0 : n0 ≤ h0.size) (P_F_o0_token : Fld Z h0 o0 "com/example/ufunguo/ufunguo/lock/LockStore$Attempt" "token" "J" u_token_o0) (P_F_o0_sleepNanos : Fld Z h0 o0 "com/example/ufunguo/ufunguo/lock/LockStore$Attempt" "sleepNanos" "J" u_sleepNanos_o0) (P_F_o0_holder : Fld Z h0 o0 "com/example/ufunguo/ufunguo/lock/LockStore$Attempt" "holder" "[B" u_holder_o0) (P_F_o0_readMicros : Fld Z h0 o0 "com/example/ufunguo/ufunguo/lock/LockStore$Attempt" "readMicros" "J" u_readMicros_o0) (P_E_o0 : Exa Z h0 o0 "com/example/ufunguo/ufunguo/lock/LockStore$Attempt") (P_F_o0_taken : Fld Z h0 o0 "com/example/ufunguo/ufunguo/lock/LockStore$Attempt" "taken" "Z" u_taken_o0) (G_o0 : n0 ≤ o0) :
    MetFree l (⟨"com/example/ufunguo/ufunguo/lock/LockStore$Attempt", "<init>", "(ZJJ[BJ)V"⟩ : MethodName) (head1 (Jvm.Cond.code (⟨"com/example/ufunguo/ufunguo/lock/LockStore$Attempt", "<init>", "(ZJJ[BJ)V"⟩ : MethodName) prog_6_method_1_code 9 none :: ws) ({ frames := 2, cells := 0, slots := 0, locals := 24 } : Room)) (fun a U => a = #[(.ref o0), (.int p1), (.long q2), (.long q3), (.ref o4), (.long q5)] ∧ Z.Warmed39 U.vm ∧ U.heap = h0) (fun _ _ _ _ _ => True) (fun _ U o U' => ∃ v L, o = .returned v ∧ own_Q2 Z o0 p1 q2 q3 o4 q5 u_token_o0 u_sleepNanos_o0 u_holder_o0 u_readMicros_o0 u_taken_o0 h0 n0 v U'.heap L ∧ FrameEnd U o U' L ({ frames := 2, cells := 0, slots := 0, locals := 24 } : Room).cells ({ frames := 2, cells := 0, slots := 0, locals := 24 } : Room).slots) := by
  refine MetFree.of_bodySF (plainFor_of_name own_pn2) hisR ?_
  intro p e s m args below meth c s₁ Bd hml0 hP hK
  obtain ⟨rfl, hZ, hh⟩ := hP
  have hx := Bd.exec
  have hlk : meth.locks = false := BodyLoose.notSynchronized Bd
  have hby := Bd.bytes
  have hml : c.maxLocals = 9 := hml0
  have hown : s.vm.findClass "com/example/ufunguo/ufunguo/lock/LockStore$Attempt" = some m.cls := findClass_of_methodNamed Bd.named
  have hnm := (name_of_methodNamed Bd.named Bd.method).1
  have X0 : Stand p l e ({ frames := 2, cells := 0, slots := 0, locals := 24 } : Room) s m #[(.ref o0), (.int p1), (.long q2), (.long q3), (.ref o4), (.long q5)] below meth c s₁ [] 0 0 := Stand.of_body Bd
  have e0 : s₁.heap = h0 := by rw [← hh, Bd.state]; rfl
  have N0 := Fr.nil n0
  have pre0 : ∀ t, Steps p.tables e below (s₁.setTop (mkF m 0 #[.val (.ref o0), .val (.int p1), .val (.long q2), .second, .val (.long q3), .second, .val (.ref o4), .val (.long q5), .second] [])) t → Steps p.tables e below (s₁.setTop (entryFrame m #[(.ref o0), (.int p1), (.long q2), (.long q3), (.ref o4), (.long q5)] 9)) t := fun t k => castTop (own_ef2 m o0 p1 q2 q3 o4 q5) k
  obtain ⟨_, _, ⟨T1, L1, k1, n1⟩, -, X1, ⟨Lc1, hQ1, l1, y1, z1⟩, st1⟩ := X0.specialBack hx (y := (⟨"java/lang/Record", "<init>", "()V"⟩ : MethodName)) rfl hown (mvT hZ (hw _ (List.mem_of_getElem? (i := 9) rfl))) (mvT hZ (hw _ (List.mem_of_getElem? (i := 10) rfl))) (mvT hZ (hw _ (List.mem_of_getElem? (i := 13) rfl))) (by decide) (backOf (W := 0) (own_rm3 l Z a0 hw [] o0 h0 n0 Z0 ) hZ (hw _ (List.mem_of_getElem? (i := 13) rfl)) (hw _ (List.mem_of_getElem? (i := 12) rfl)) (by decide) (by decide)) (g := (mkF m 1 #[.val (.ref o0), .val (.int p1), .val (.long q2), .second, .val (.long q3), .second, .val (.ref o4), .val (.long q5), .second] [(.ref o0)])) rfl (by rw [hml]; rfl) (Steps.refl _) (a := o0) (argsL := []) (rest := []) (lenOf own_pd0 rfl) rfl (by show 2 * 0 + _ ≤ _; exact Nat.le_of_eq rfl) (hb hby own_d2_1) (fun _ _ => ⟨rfl, e0, (by decide : 0 + 0 ≤ _), (by decide : 0 + 0 ≤ _)⟩)
  dsimp only [Pt.U, Pt.locs, Pt.cells, Pt.slots] at X1 l1 y1 z1 st1 hQ1
  subst l1 y1 z1
  obtain ⟨rfl, N1q, e1⟩ := hQ1
  have N2 := Fr.app N0 N1q
  obtain ⟨T3, h3, X3, e3, W3, st3⟩ := putFN X1 hx hZ hown (hw _ (List.mem_of_getElem? (i := 17) rfl)) Via.refl e1 P_F_o0_taken P_E_o0 (Or.inr ⟨(hw _ (List.mem_of_getElem? (i := 18) rfl)), rfl, hnm⟩) (hw _ (List.mem_of_getElem? (i := 5) rfl)) (ty := .boolean) (v' := (.int (nar .boolean p1))) (by decide) rfl (fits_nar_bool _) (g := (mkF m 6 #[.val (.ref o0), .val (.int p1), .val (.long q2), .second, .val (.long q3), .second, .val (.ref o4), .val (.long q5), .second] [(.int p1), (.ref o0)])) rfl rfl (hb hby own_d2_6)
  have f4 : Fld Z h3 o0 "com/example/ufunguo/ufunguo/lock/LockStore$Attempt" "token" "J" u_token_o0 := P_F_o0_token.other W3 (Or.inr (slot_ne (Or.inr (hw _ (List.mem_of_getElem? (i := 20) rfl))) (Or.inr (hw _ (List.mem_of_getElem? (i := 18) rfl))) (by decide) (t := .long) (t' := .boolean) (by decide) (by decide)))
  have f5 : Fld Z h3 o0 "com/example/ufunguo/ufunguo/lock/LockStore$Attempt" "sleepNanos" "J" u_sleepNanos_o0 := P_F_o0_sleepNanos.other W3 (Or.inr (slot_ne (Or.inr (hw _ (List.mem_of_getElem? (i := 22) rfl))) (Or.inr (hw _ (List.mem_of_getElem? (i := 18) rfl))) (by decide) (t := .long) (t' := .boolean) (by decide) (by decide)))
  have f6 : Fld Z h3 o0 "com/example/ufunguo/ufunguo/lock/LockStore$Attempt" "holder" "[B" u_holder_o0 := P_F_o0_holder.other W3 (Or.inr (slot_ne (Or.inr (hw _ (List.mem_of_getElem? (i := 24) rfl))) (Or.inr (hw _ (List.mem_of_getElem? (i := 18) rfl))) (by decide) (t := (.array .byte)) (t' := .boolean) (by decide) (by decide)))
  have f7 : Fld Z h3 o0 "com/example/ufunguo/ufunguo/lock/LockStore$Attempt" "readMicros" "J" u_readMicros_o0 := P_F_o0_readMicros.other W3 (Or.inr (slot_ne (Or.inr (hw _ (List.mem_of_getElem? (i := 26) rfl))) (Or.inr (hw _ (List.mem_of_getElem? (i := 18) rfl))) (by decide) (t := .long) (t' := .boolean) (by decide) (by decide)))
  have f8 : Exa Z h3 o0 "com/example/ufunguo/ufunguo/lock/LockStore$Attempt" := P_E_o0.wr W3
  have f9 : Fld Z h3 o0 "com/example/ufunguo/ufunguo/lock/LockStore$Attempt" "taken" "Z" (.int (nar .boolean p1)) := P_F_o0_taken.same W3
  have zs10 : n0 ≤ h3.size := Nat.le_trans Z0 (Keep.of_wr W3).1
  have N11 := Fr.snoc X3 N2 G_o0
  have K12 : Keep h0 h0 [o0] := Keep.refl h0 [o0]
  have K13 : Keep h0 h3 [o0] := K12.wr W3 (Or.inl (by simp))
  obtain ⟨T14, h14, X14, e14, W14, st14⟩ := putF X3 hx hZ hown (host := "") (Or.inl (hw _ (List.mem_of_getElem? (i := 19) rfl))) Via.refl e3 f4 f8 (Or.inr ⟨(hw _ (List.mem_of_getElem? (i := 20) rfl)), rfl, hnm⟩) (hw _ (List.mem_of_getElem? (i := 5) rfl)) (ty := .long) (by decide) rfl rfl (g := (mkF m 11 #[.val (.ref o0), .val (.int p1), .val (.long q2), .second, .val (.long q3), .second, .val (.ref o4), .val (.long q5), .second] [(.long q2), (.ref o0)])) rfl rfl (hb hby own_d2_11)
  have f15 : Fld Z h14 o0 "com/example/ufunguo/ufunguo/lock/LockStore$Attempt" "token" "J" (.long q2) := f4.same W14
  have f16 : Fld Z h14 o0 "com/example/ufunguo/ufunguo/lock/LockStore$Attempt" "sleepNanos" "J" u_sleepNanos_o0 := f5.other W14 (Or.inr (slot_ne (Or.inr (hw _ (List.mem_of_getElem? (i := 22) rfl))) (Or.inr (hw _ (List.mem_of_getElem? (i := 20) rfl))) (by decide) (t := .long) (t' := .long) (by decide) (by decide)))
  have f17 : Fld Z h14 o0 "com/example/ufunguo/ufunguo/lock/LockStore$Attempt" "holder" "[B" u_holder_o0 := f6.other W14 (Or.inr (slot_ne (Or.inr (hw _ (List.mem_of_getElem? (i := 24) rfl))) (Or.inr (hw _ (List.mem_of_getElem? (i := 20) rfl))) (by decide) (t := (.array .byte)) (t' := .long) (by decide) (by decide)))
  have f18 : Fld Z h14 o0 "com/example/ufunguo/ufunguo/lock/LockStore$Attempt" "readMicros" "J" u_readMicros_o0 := f7.other W14 (Or.inr (slot_ne (Or.inr (hw _ (List.mem_of_getElem? (i := 26) rfl))) (Or.inr (hw _ (List.mem_of_getElem? (i := 20) rfl))) (by decide) (t := .long) (t' := .long) (by decide) (by decide)))
  have f19 : Exa Z h14 o0 "com/example/ufunguo/ufunguo/lock/LockStore$Attempt" := f8.wr W14
  have f20 : Fld Z h14 o0 "com/example/ufunguo/ufunguo/lock/LockStore$Attempt" "taken" "Z" (.int (nar .boolean p1)) := f9.other W14 (Or.inr (slot_ne (Or.inr (hw _ (List.mem_of_getElem? (i := 18) rfl))) (Or.inr (hw _ (List.mem_of_getElem? (i := 20) rfl))) (by decide) (t := .boolean) (t' := .long) (by decide) (by decide)))
  have zs21 : n0 ≤ h14.size := Nat.le_trans zs10 (Keep.of_wr W14).1
  have N22 := Fr.snoc X14 N11 G_o0
  have K23 : Keep h0 h14 [o0] := K13.wr W14 (Or.inl (by simp))
  obtain ⟨T24, h24, X24, e24, W24, st24⟩ := putF X14 hx hZ hown (host := "") (Or.inl (hw _ (List.mem_of_getElem? (i := 21) rfl))) Via.refl e14 f16 f19 (Or.inr ⟨(hw _ (List.mem_of_getElem? (i := 22) rfl)), rfl, hnm⟩) (hw _ (List.mem_of_getElem? (i := 5) rfl)) (ty := .long) (by decide) rfl rfl (g := (mkF m 17 #[.val (.ref o0), .val (.int p1), .val (.long q2), .second, .val (.long q3), .second, .val (.ref o4), .val (.long q5), .second] [(.long q3), (.ref o0)])) rfl rfl (hb hby own_d2_17)
  have f25 : Fld Z h24 o0 "com/example/ufunguo/ufunguo/lock/LockStore$Attempt" "token" "J" (.long q2) := f15.other W24 (Or.inr (slot_ne (Or.inr (hw _ (List.mem_of_getElem? (i := 20) rfl))) (Or.inr (hw _ (List.mem_of_getElem? (i := 22) rfl))) (by decide) (t := .long) (t' := .long) (by decide) (by decide)))
  have f26 : Fld Z h24 o0 "com/example/ufunguo/ufunguo/lock/LockStore$Attempt" "sleepNanos" "J" (.long q3) := f16.same W24
  have f27 : Fld Z h24 o0 "com/example/ufunguo/ufunguo/lock/LockStore$Attempt" "holder" "[B" u_holder_o0 := f17.other W24 (Or.inr (slot_ne (Or.inr (hw _ (List.mem_of_getElem? (i := 24) rfl))) (Or.inr (hw _ (List.mem_of_getElem? (i := 22) rfl))) (by decide) (t := (.array .byte)) (t' := .long) (by decide) (by decide)))
  have f28 : Fld Z h24 o0 "com/example/ufunguo/ufunguo/lock/LockStore$Attempt" "readMicros" "J" u_readMicros_o0 := f18.other W24 (Or.inr (slot_ne (Or.inr (hw _ (List.mem_of_getElem? (i := 26) rfl))) (Or.inr (hw _ (List.mem_of_getElem? (i := 22) rfl))) (by decide) (t := .long) (t' := .long) (by decide) (by decide)))
  have f29 : Exa Z h24 o0 "com/example/ufunguo/ufunguo/lock/LockStore$Attempt" := f19.wr W24
  have f30 : Fld Z h24 o0 "com/example/ufunguo/ufunguo/lock/LockStore$Attempt" "taken" "Z" (.int (nar .boolean p1)) := f20.other W24 (Or.inr (slot_ne (Or.inr (hw _ (List.mem_of_getElem? (i := 18) rfl))) (Or.inr (hw _ (List.mem_of_getElem? (i := 22) rfl))) (by decide) (t := .boolean) (t' := .long) (by decide) (by decide)))
  have zs31 : n0 ≤ h24.size := Nat.le_trans zs21 (Keep.of_wr W24).1
  have N32 := Fr.snoc X24 N22 G_o0
  have K33 : Keep h0 h24 [o0] := K23.wr W24 (Or.inl (by simp))
  obtain ⟨T34, h34, X34, e34, W34, st34⟩ := putF X24 hx hZ hown (host := "") (Or.inl (hw _ (List.mem_of_getElem? (i := 23) rfl))) Via.refl e24 f27 f29 (Or.inr ⟨(hw _ (List.mem_of_getElem? (i := 24) rfl)), rfl, hnm⟩) (hw _ (List.mem_of_getElem? (i := 5) rfl)) (ty := (.array .byte)) (by decide) rfl rfl (g := (mkF m 23 #[.val (.ref o0), .val (.int p1), .val (.long q2), .second, .val (.long q3), .second, .val (.ref o4), .val (.long q5), .second] [(.ref o4), (.ref o0)])) rfl rfl (hb hby own_d2_23)
  have f35 : Fld Z h34 o0 "com/example/ufunguo/ufunguo/lock/LockStore$Attempt" "token" "J" (.long q2) := f25.other W34 (Or.inr (slot_ne (Or.inr (hw _ (List.mem_of_getElem? (i := 20) rfl))) (Or.inr (hw _ (List.mem_of_getElem? (i := 24) rfl))) (by decide) (t := .long) (t' := (.array .byte)) (by decide) (by decide)))
  have f36 : Fld Z h34 o0 "com/example/ufunguo/ufunguo/lock/LockStore$Attempt" "sleepNanos" "J" (.long q3) := f26.other W34 (Or.inr (slot_ne (Or.inr (hw _ (List.mem_of_getElem? (i := 22) rfl))) (Or.inr (hw _ (List.mem_of_getElem? (i := 24) rfl))) (by decide) (t := .long) (t' := (.array .byte)) (by decide) (by decide)))
  have f37 : Fld Z h34 o0 "com/example/ufunguo/ufunguo/lock/LockStore$Attempt" "holder" "[B" (.ref o4) := f27.same W34
  have f38 : Fld Z h34 o0 "com/example/ufunguo/ufunguo/lock/LockStore$Attempt" "readMicros" "J" u_readMicros_o0 := f28.other W34 (Or.inr (slot_ne (Or.inr (hw _ (List.mem_of_getElem? (i := 26) rfl))) (Or.inr (hw _ (List.mem_of_getElem? (i := 24) rfl))) (by decide) (t := .long) (t' := (.array .byte)) (by decide) (by decide)))
  have f39 : Exa Z h34 o0 "com/example/ufunguo/ufunguo/lock/LockStore$Attempt" := f29.wr W34
  have f40 : Fld Z h34 o0 "com/example/ufunguo/ufunguo/lock/LockStore$Attempt" "taken" "Z" (.int (nar .boolean p1)) := f30.other W34 (Or.inr (slot_ne (Or.inr (hw _ (List.mem_of_getElem? (i := 18) rfl))) (Or.inr (hw _ (List.mem_of_getElem? (i := 24) rfl))) (by decide) (t := .boolean) (t' := (.array .byte)) (by decide) (by decide)))
  have zs41 : n0 ≤ h34.size := Nat.le_trans zs31 (Keep.of_wr W34).1
  have N42 := Fr.snoc X34 N32 G_o0
  have K43 : Keep h0 h34 [o0] := K33.wr W34 (Or.inl (by simp))
  obtain ⟨T44, h44, X44, e44, W44, st44⟩ := putF X34 hx hZ hown (host := "") (Or.inl (hw _ (List.mem_of_getElem? (i := 25) rfl))) Via.refl e34 f38 f39 (Or.inr ⟨(hw _ (List.mem_of_getElem? (i := 26) rfl)), rfl, hnm⟩) (hw _ (List.mem_of_getElem? (i := 5) rfl)) (ty := .long) (by decide) rfl rfl (g := (mkF m 29 #[.val (.ref o0), .val (.int p1), .val (.long q2), .second, .val (.long q3), .second, .val (.ref o4), .val (.long q5), .second] [(.long q5), (.ref o0)])) rfl rfl (hb hby own_d2_29)
  have f45 : Fld Z h44 o0 "com/example/ufunguo/ufunguo/lock/LockStore$Attempt" "token" "J" (.long q2) := f35.other W44 (Or.inr (slot_ne (Or.inr (hw _ (List.mem_of_getElem? (i := 20) rfl))) (Or.inr (hw _ (List.mem_of_getElem? (i := 26) rfl))) (by decide) (t := .long) (t' := .long) (by decide) (by decide)))
  have f46 : Fld Z h44 o0 "com/example/ufunguo/ufunguo/lock/LockStore$Attempt" "sleepNanos" "J" (.long q3) := f36.other W44 (Or.inr (slot_ne (Or.inr (hw _ (List.mem_of_getElem? (i := 22) rfl))) (Or.inr (hw _ (List.mem_of_getElem? (i := 26) rfl))) (by decide) (t := .long) (t' := .long) (by decide) (by decide)))
  have f47 : Fld Z h44 o0 "com/example/ufunguo/ufunguo/lock/LockStore$Attempt" "holder" "[B" (.ref o4) := f37.other W44 (Or.inr (slot_ne (Or.inr (hw _ (List.mem_of_getElem? (i := 24) rfl))) (Or.inr (hw _ (List.mem_of_getElem? (i := 26) rfl))) (by decide) (t := (.array .byte)) (t' := .long) (by decide) (by decide)))
  have f48 : Fld Z h44 o0 "com/example/ufunguo/ufunguo/lock/LockStore$Attempt" "readMicros" "J" (.long q5) := f38.same W44
  have f49 : Exa Z h44 o0 "com/example/ufunguo/ufunguo/lock/LockStore$Attempt" := f39.wr W44
  have f50 : Fld Z h44 o0 "com/example/ufunguo/ufunguo/lock/LockStore$Attempt" "taken" "Z" (.int (nar .boolean p1)) := f40.other W44 (Or.inr (slot_ne (Or.inr (hw _ (List.mem_of_getElem? (i := 18) rfl))) (Or.inr (hw _ (List.mem_of_getElem? (i := 26) rfl))) (by decide) (t := .boolean) (t' := .long) (by decide) (by decide)))
  have zs51 : n0 ≤ h44.size := Nat.le_trans zs41 (Keep.of_wr W44).1
  have N52 := Fr.snoc X44 N42 G_o0
  have K53 : Keep h0 h44 [o0] := K43.wr W44 (Or.inl (by simp))
  have pre54 : ∀ t, Steps p.tables e below (T44.setTop (mkF m 32 #[.val (.ref o0), .val (.int p1), .val (.long q2), .second, .val (.long q3), .second, .val (.ref o4), .val (.long q5), .second] [])) t → Steps p.tables e below (s₁.setTop (entryFrame m #[(.ref o0), (.int p1), (.long q2), (.long q3), (.ref o4), (.long q5)] 9)) t := fun t k => pre0 t (by
      refine XS.aloadN X0.here hx rfl (hb hby own_d2_0) rfl rfl ?_
      show Steps p.tables e below (s₁.setTop (mkF m 1 #[.val (.ref o0), .val (.int p1), .val (.long q2), .second, .val (.long q3), .second, .val (.ref o4), .val (.long q5), .second] [(.ref o0)])) _
      refine st1.trans ?_
      show Steps p.tables e below (T1.setTop (mkF m 4 #[.val (.ref o0), .val (.int p1), .val (.long q2), .second, .val (.long q3), .second, .val (.ref o4), .val (.long q5), .second] [])) _
      refine XS.aloadN X1.here hx rfl (hb hby own_d2_4) rfl rfl ?_
      show Steps p.tables e below (T1.setTop (mkF m 5 #[.val (.ref o0), .val (.int p1), .val (.long q2), .second, .val (.long q3), .second, .val (.ref o4), .val (.long q5), .second] [(.ref o0)])) _
      refine XS.iloadN X1.here hx rfl (hb hby own_d2_5) rfl ?_
      show Steps p.tables e below (T1.setTop (mkF m 6 #[.val (.ref o0), .val (.int p1), .val (.long q2), .second, .val (.long q3), .second, .val (.ref o4), .val (.long q5), .second] [(.int p1), (.ref o0)])) _
      refine st3 _ ?_
      show Steps p.tables e below (T3.setTop (mkF m 9 #[.val (.ref o0), .val (.int p1), .val (.long q2), .second, .val (.long q3), .second, .val (.ref o4), .val (.long q5), .second] [])) _
      refine XS.aloadN X3.here hx rfl (hb hby own_d2_9) rfl rfl ?_
      show Steps p.tables e below (T3.setTop (mkF m 10 #[.val (.ref o0), .val (.int p1), .val (.long q2), .second, .val (.long q3), .second, .val (.ref o4), .val (.long q5), .second] [(.ref o0)])) _
      refine XS.lloadN X3.here hx rfl (hb hby own_d2_10) rfl ?_
      show Steps p.tables e below (T3.setTop (mkF m 11 #[.val (.ref o0), .val (.int p1), .val (.long q2), .second, .val (.long q3), .second, .val (.ref o4), .val (.long q5), .second] [(.long q2), (.ref o0)])) _
      refine st14 _ ?_
      show Steps p.tables e below (T14.setTop (mkF m 14 #[.val (.ref o0), .val (.int p1), .val (.long q2), .second, .val (.long q3), .second, .val (.ref o4), .val (.long q5), .second] [])) _
      refine XS.aloadN X14.here hx rfl (hb hby own_d2_14) rfl rfl ?_
      show Steps p.tables e below (T14.setTop (mkF m 15 #[.val (.ref o0), .val (.int p1), .val (.long q2), .second, .val (.long q3), .second, .val (.ref o4), .val (.long q5), .second] [(.ref o0)])) _
      refine XS.lload X14.here hx rfl (hb hby own_d2_15) rfl ?_
      show Steps p.tables e below (T14.setTop (mkF m 17 #[.val (.ref o0), .val (.int p1), .val (.long q2), .second, .val (.long q3), .second, .val (.ref o4), .val (.long q5), .second] [(.long q3), (.ref o0)])) _
      refine st24 _ ?_
      show Steps p.tables e below (T24.setTop (mkF m 20 #[.val (.ref o0), .val (.int p1), .val (.long q2), .second, .val (.long q3), .second, .val (.ref o4), .val (.long q5), .second] [])) _
      refine XS.aloadN X24.here hx rfl (hb hby own_d2_20) rfl rfl ?_
      show Steps p.tables e below (T24.setTop (mkF m 21 #[.val (.ref o0), .val (.int p1), .val (.long q2), .second, .val (.long q3), .second, .val (.ref o4), .val (.long q5), .second] [(.ref o0)])) _
      refine XS.aload X24.here hx rfl (hb hby own_d2_21) rfl rfl ?_
      show Steps p.tables e below (T24.setTop (mkF m 23 #[.val (.ref o0), .val (.int p1), .val (.long q2), .second, .val (.long q3), .second, .val (.ref o4), .val (.long q5), .second] [(.ref o4), (.ref o0)])) _
      refine st34 _ ?_
      show Steps p.tables e below (T34.setTop (mkF m 26 #[.val (.ref o0), .val (.int p1), .val (.long q2), .second, .val (.long q3), .second, .val (.ref o4), .val (.long q5), .second] [])) _
      refine XS.aloadN X34.here hx rfl (hb hby own_d2_26) rfl rfl ?_
      show Steps p.tables e below (T34.setTop (mkF m 27 #[.val (.ref o0), .val (.int p1), .val (.long q2), .second, .val (.long q3), .second, .val (.ref o4), .val (.long q5), .second] [(.ref o0)])) _
      refine XS.lload X34.here hx rfl (hb hby own_d2_27) rfl ?_
      show Steps p.tables e below (T34.setTop (mkF m 29 #[.val (.ref o0), .val (.int p1), .val (.long q2), .second, .val (.long q3), .second, .val (.ref o4), .val (.long q5), .second] [(.long q5), (.ref o0)])) _
      refine st44 _ ?_
      show Steps p.tables e below (T44.setTop (mkF m 32 #[.val (.ref o0), .val (.int p1), .val (.long q2), .second, .val (.long q3), .second, .val (.ref o4), .val (.long q5), .second] [])) _
      exact k)
  obtain ⟨fs, hr, hrun, hended, hW, hsame⟩ := X44.leave (v := none) (fun _ => rfl) (hlocks := hlk)
  refine ⟨_, _, pre54 _ ?_, hrun, hended, _, _, rfl, ?_, ⟨_, rfl⟩, hW, hsame.mono (by decide) (by decide)⟩
  · show Steps p.tables e below (T44.setTop (mkF m 32 #[.val (.ref o0), .val (.int p1), .val (.long q2), .second, .val (.long q3), .second, .val (.ref o4), .val (.long q5), .second] [])) _
    exact X44.returnOut hx Bd.returns (hb hby own_d2_32) hr
  · show own_Q2 Z o0 p1 q2 q3 o4 q5 u_token_o0 u_sleepNanos_o0 u_holder_o0 u_readMicros_o0 u_taken_o0 h0 n0 _ T44.heap _; rw [e44]; exact ⟨rfl, N52, K53, f45, f46, f47, f48, f49, f50⟩
theorem own_ef2n (m : MethodId) (x0 : Addr) (x1 : Int32) (x2 : Int64) (x3 : Int64) (x5 : Int64) : entryFrame m #[(.ref x0), (.int x1), (.long x2), (.long x3), .null, (.long x5)] 9 = (mkF m 0 #[.val (.ref x0), .val (.int x1), .val (.long x2), .second, .val (.long x3), .second, .val .null, .val (.long x5), .second] []) := by first | (simp [entryFrame, mkF, argsToLocals, Value.category]; done) | rfl
def own_Q2n (Z : State) (o0 : Addr) (p1 : Int32) (q2 : Int64) (q3 : Int64) (q5 : Int64) (u_token_o0 : Value) (u_sleepNanos_o0 : Value) (u_holder_o0 : Value) (u_readMicros_o0 : Value) (u_taken_o0 : Value) (h0 : Heap) (n0 : Nat) (v : Option Value) (h : Heap) (L : List Loc) : Prop := v = none ∧ Fr n0 L ∧ Keep h0 h [o0] ∧ Fld Z h o0 "com/example/ufunguo/ufunguo/lock/LockStore$Attempt" "token" "J" (.long q2) ∧ Fld Z h o0 "com/example/ufunguo/ufunguo/lock/LockStore$Attempt" "sleepNanos" "J" (.long q3) ∧ Fld Z h o0 "com/example/ufunguo/ufunguo/lock/LockStore$Attempt" "holder" "[B" .null ∧ Fld Z h o0 "com/example/ufunguo/ufunguo/lock/LockStore$Attempt" "readMicros" "J" (.long q5) ∧ Exa Z h o0 "com/example/ufunguo/ufunguo/lock/LockStore$Attempt" ∧ Fld Z h o0 "com/example/ufunguo/ufunguo/lock/LockStore$Attempt" "taken" "Z" (.int (nar .boolean p1))
set_option maxRecDepth 65536 in
set_option maxHeartbeats 40000000 in
theorem own_rm2n (l : Launch) (Z : State) (a0 : Array Value) (hw : ∀ d ∈ tables_1, d.before a0 Z = true) (ws : List Jvm.Cond) (o0 : Addr) (p1 : Int32) (q2 : Int64) (q3 : Int64) (q5 : Int64) (u_token_o0 : Value) (u_sleepNanos_o0 : Value) (u_holder_o0 : Value) (u_readMicros_o0 : Value) (u_taken_o0 : Value) (h0 : Heap) (n0 : Nat) (Z0 : n0 ≤ h0.size) (P_F_o0_token : Fld Z h0 o0 "com/example/ufunguo/ufunguo/lock/LockStore$Attempt" "token" "J" u_token_o0) (P_F_o0_sleepNanos : Fld Z h0 o0 "com/example/ufunguo/ufunguo/lock/LockStore$Attempt" "sleepNanos" "J" u_sleepNanos_o0) (P_F_o0_holder : Fld Z h0 o0 "com/example/ufunguo/ufunguo/lock/LockStore$Attempt" "holder" "[B" u_holder_o0) (P_F_o0_readMicros : Fld Z h0 o0 "com/example/ufunguo/ufunguo/lock/LockStore$Attempt" "readMicros" "J" u_readMicros_o0) (P_E_o0 : Exa Z h0 o0 "com/example/ufunguo/ufunguo/lock/LockStore$Attempt") (P_F_o0_taken : Fld Z h0 o0 "com/example/ufunguo/ufunguo/lock/LockStore$Attempt" "taken" "Z" u_taken_o0) (G_o0 : n0 ≤ o0) :
    MetFree l (⟨"com/example/ufunguo/ufunguo/lock/LockStore$Attempt", "<init>", "(ZJJ[BJ)V"⟩ : MethodName) (head1 (Jvm.Cond.code (⟨"com/example/ufunguo/ufunguo/lock/LockStore$Attempt", "<init>", "(ZJJ[BJ)V"⟩ : MethodName) prog_6_method_1_code 9 none :: ws) ({ frames := 2, cells := 0, slots := 0, locals := 24 } : Room)) (fun a U => a = #[(.ref o0), (.int p1), (.long q2), (.long q3), .null, (.long q5)] ∧ Z.Warmed39 U.vm ∧ U.heap = h0) (fun _ _ _ _ _ => True) (fun _ U o U' => ∃ v L, o = .returned v ∧ own_Q2n Z o0 p1 q2 q3 q5 u_token_o0 u_sleepNanos_o0 u_holder_o0 u_readMicros_o0 u_taken_o0 h0 n0 v U'.heap L ∧ FrameEnd U o U' L ({ frames := 2, cells := 0, slots := 0, locals := 24 } : Room).cells ({ frames := 2, cells := 0, slots := 0, locals := 24 } : Room).slots) := by
  refine MetFree.of_bodySF (plainFor_of_name own_pn2) hisR ?_
  intro p e s m args below meth c s₁ Bd hml0 hP hK
  obtain ⟨rfl, hZ, hh⟩ := hP
  have hx := Bd.exec
  have hlk : meth.locks = false := BodyLoose.notSynchronized Bd
  have hby := Bd.bytes
  have hml : c.maxLocals = 9 := hml0
  have hown : s.vm.findClass "com/example/ufunguo/ufunguo/lock/LockStore$Attempt" = some m.cls := findClass_of_methodNamed Bd.named
  have hnm := (name_of_methodNamed Bd.named Bd.method).1
  have X0 : Stand p l e ({ frames := 2, cells := 0, slots := 0, locals := 24 } : Room) s m #[(.ref o0), (.int p1), (.long q2), (.long q3), .null, (.long q5)] below meth c s₁ [] 0 0 := Stand.of_body Bd
  have e0 : s₁.heap = h0 := by rw [← hh, Bd.state]; rfl
  have N0 := Fr.nil n0
  have pre0 : ∀ t, Steps p.tables e below (s₁.setTop (mkF m 0 #[.val (.ref o0), .val (.int p1), .val (.long q2), .second, .val (.long q3), .second, .val .null, .val (.long q5), .second] [])) t → Steps p.tables e below (s₁.setTop (entryFrame m #[(.ref o0), (.int p1), (.long q2), (.long q3), .null, (.long q5)] 9)) t := fun t k => castTop (own_ef2n m o0 p1 q2 q3 q5) k
  obtain ⟨_, _, ⟨T1, L1, k1, n1⟩, -, X1, ⟨Lc1, hQ1, l1, y1, z1⟩, st1⟩ := X0.specialBack hx (y := (⟨"java/lang/Record", "<init>", "()V"⟩ : MethodName)) rfl hown (mvT hZ (hw _ (List.mem_of_getElem? (i := 9) rfl))) (mvT hZ (hw _ (List.mem_of_getElem? (i := 10) rfl))) (mvT hZ (hw _ (List.mem_of_getElem? (i := 13) rfl))) (by decide) (backOf (W := 0) (own_rm3 l Z a0 hw [] o0 h0 n0 Z0 ) hZ (hw _ (List.mem_of_getElem? (i := 13) rfl)) (hw _ (List.mem_of_getElem? (i := 12) rfl)) (by decide) (by decide)) (g := (mkF m 1 #[.val (.ref o0), .val (.int p1), .val (.long q2), .second, .val (.long q3), .second, .val .null, .val (.long q5), .second] [(.ref o0)])) rfl (by rw [hml]; rfl) (Steps.refl _) (a := o0) (argsL := []) (rest := []) (lenOf own_pd0 rfl) rfl (by show 2 * 0 + _ ≤ _; exact Nat.le_of_eq rfl) (hb hby own_d2_1) (fun _ _ => ⟨rfl, e0, (by decide : 0 + 0 ≤ _), (by decide : 0 + 0 ≤ _)⟩)
  dsimp only [Pt.U, Pt.locs, Pt.cells, Pt.slots] at X1 l1 y1 z1 st1 hQ1
  subst l1 y1 z1
  obtain ⟨rfl, N1q, e1⟩ := hQ1
  have N2 := Fr.app N0 N1q
  obtain ⟨T3, h3, X3, e3, W3, st3⟩ := putFN X1 hx hZ hown (hw _ (List.mem_of_getElem? (i := 17) rfl)) Via.refl e1 P_F_o0_taken P_E_o0 (Or.inr ⟨(hw _ (List.mem_of_getElem? (i := 18) rfl)), rfl, hnm⟩) (hw _ (List.mem_of_getElem? (i := 5) rfl)) (ty := .boolean) (v' := (.int (nar .boolean p1))) (by decide) rfl (fits_nar_bool _) (g := (mkF m 6 #[.val (.ref o0), .val (.int p1), .val (.long q2), .second, .val (.long q3), .second, .val .null, .val (.long q5), .second] [(.int p1), (.ref o0)])) rfl rfl (hb hby own_d2_6)
  have f4 : Fld Z h3 o0 "com/example/ufunguo/ufunguo/lock/LockStore$Attempt" "token" "J" u_token_o0 := P_F_o0_token.other W3 (Or.inr (slot_ne (Or.inr (hw _ (List.mem_of_getElem? (i := 20) rfl))) (Or.inr (hw _ (List.mem_of_getElem? (i := 18) rfl))) (by decide) (t := .long) (t' := .boolean) (by decide) (by decide)))
  have f5 : Fld Z h3 o0 "com/example/ufunguo/ufunguo/lock/LockStore$Attempt" "sleepNanos" "J" u_sleepNanos_o0 := P_F_o0_sleepNanos.other W3 (Or.inr (slot_ne (Or.inr (hw _ (List.mem_of_getElem? (i := 22) rfl))) (Or.inr (hw _ (List.mem_of_getElem? (i := 18) rfl))) (by decide) (t := .long) (t' := .boolean) (by decide) (by decide)))
  have f6 : Fld Z h3 o0 "com/example/ufunguo/ufunguo/lock/LockStore$Attempt" "holder" "[B" u_holder_o0 := P_F_o0_holder.other W3 (Or.inr (slot_ne (Or.inr (hw _ (List.mem_of_getElem? (i := 24) rfl))) (Or.inr (hw _ (List.mem_of_getElem? (i := 18) rfl))) (by decide) (t := (.array .byte)) (t' := .boolean) (by decide) (by decide)))
  have f7 : Fld Z h3 o0 "com/example/ufunguo/ufunguo/lock/LockStore$Attempt" "readMicros" "J" u_readMicros_o0 := P_F_o0_readMicros.other W3 (Or.inr (slot_ne (Or.inr (hw _ (List.mem_of_getElem? (i := 26) rfl))) (Or.inr (hw _ (List.mem_of_getElem? (i := 18) rfl))) (by decide) (t := .long) (t' := .boolean) (by decide) (by decide)))
  have f8 : Exa Z h3 o0 "com/example/ufunguo/ufunguo/lock/LockStore$Attempt" := P_E_o0.wr W3
  have f9 : Fld Z h3 o0 "com/example/ufunguo/ufunguo/lock/LockStore$Attempt" "taken" "Z" (.int (nar .boolean p1)) := P_F_o0_taken.same W3
  have zs10 : n0 ≤ h3.size := Nat.le_trans Z0 (Keep.of_wr W3).1
  have N11 := Fr.snoc X3 N2 G_o0
  have K12 : Keep h0 h0 [o0] := Keep.refl h0 [o0]
  have K13 : Keep h0 h3 [o0] := K12.wr W3 (Or.inl (by simp))
  obtain ⟨T14, h14, X14, e14, W14, st14⟩ := putF X3 hx hZ hown (host := "") (Or.inl (hw _ (List.mem_of_getElem? (i := 19) rfl))) Via.refl e3 f4 f8 (Or.inr ⟨(hw _ (List.mem_of_getElem? (i := 20) rfl)), rfl, hnm⟩) (hw _ (List.mem_of_getElem? (i := 5) rfl)) (ty := .long) (by decide) rfl rfl (g := (mkF m 11 #[.val (.ref o0), .val (.int p1), .val (.long q2), .second, .val (.long q3), .second, .val .null, .val (.long q5), .second] [(.long q2), (.ref o0)])) rfl rfl (hb hby own_d2_11)
  have f15 : Fld Z h14 o0 "com/example/ufunguo/ufunguo/lock/LockStore$Attempt" "token" "J" (.long q2) := f4.same W14
  have f16 : Fld Z h14 o0 "com/example/ufunguo/ufunguo/lock/LockStore$Attempt" "sleepNanos" "J" u_sleepNanos_o0 := f5.other W14 (Or.inr (slot_ne (Or.inr (hw _ (List.mem_of_getElem? (i := 22) rfl))) (Or.inr (hw _ (List.mem_of_getElem? (i := 20) rfl))) (by decide) (t := .long) (t' := .long) (by decide) (by decide)))
  have f17 : Fld Z h14 o0 "com/example/ufunguo/ufunguo/lock/LockStore$Attempt" "holder" "[B" u_holder_o0 := f6.other W14 (Or.inr (slot_ne (Or.inr (hw _ (List.mem_of_getElem? (i := 24) rfl))) (Or.inr (hw _ (List.mem_of_getElem? (i := 20) rfl))) (by decide) (t := (.array .byte)) (t' := .long) (by decide) (by decide)))
  have f18 : Fld Z h14 o0 "com/example/ufunguo/ufunguo/lock/LockStore$Attempt" "readMicros" "J" u_readMicros_o0 := f7.other W14 (Or.inr (slot_ne (Or.inr (hw _ (List.mem_of_getElem? (i := 26) rfl))) (Or.inr (hw _ (List.mem_of_getElem? (i := 20) rfl))) (by decide) (t := .long) (t' := .long) (by decide) (by decide)))
  have f19 : Exa Z h14 o0 "com/example/ufunguo/ufunguo/lock/LockStore$Attempt" := f8.wr W14
  have f20 : Fld Z h14 o0 "com/example/ufunguo/ufunguo/lock/LockStore$Attempt" "taken" "Z" (.int (nar .boolean p1)) := f9.other W14 (Or.inr (slot_ne (Or.inr (hw _ (List.mem_of_getElem? (i := 18) rfl))) (Or.inr (hw _ (List.mem_of_getElem? (i := 20) rfl))) (by decide) (t := .boolean) (t' := .long) (by decide) (by decide)))
  have zs21 : n0 ≤ h14.size := Nat.le_trans zs10 (Keep.of_wr W14).1
  have N22 := Fr.snoc X14 N11 G_o0
  have K23 : Keep h0 h14 [o0] := K13.wr W14 (Or.inl (by simp))
  obtain ⟨T24, h24, X24, e24, W24, st24⟩ := putF X14 hx hZ hown (host := "") (Or.inl (hw _ (List.mem_of_getElem? (i := 21) rfl))) Via.refl e14 f16 f19 (Or.inr ⟨(hw _ (List.mem_of_getElem? (i := 22) rfl)), rfl, hnm⟩) (hw _ (List.mem_of_getElem? (i := 5) rfl)) (ty := .long) (by decide) rfl rfl (g := (mkF m 17 #[.val (.ref o0), .val (.int p1), .val (.long q2), .second, .val (.long q3), .second, .val .null, .val (.long q5), .second] [(.long q3), (.ref o0)])) rfl rfl (hb hby own_d2_17)
  have f25 : Fld Z h24 o0 "com/example/ufunguo/ufunguo/lock/LockStore$Attempt" "token" "J" (.long q2) := f15.other W24 (Or.inr (slot_ne (Or.inr (hw _ (List.mem_of_getElem? (i := 20) rfl))) (Or.inr (hw _ (List.mem_of_getElem? (i := 22) rfl))) (by decide) (t := .long) (t' := .long) (by decide) (by decide)))
  have f26 : Fld Z h24 o0 "com/example/ufunguo/ufunguo/lock/LockStore$Attempt" "sleepNanos" "J" (.long q3) := f16.same W24
  have f27 : Fld Z h24 o0 "com/example/ufunguo/ufunguo/lock/LockStore$Attempt" "holder" "[B" u_holder_o0 := f17.other W24 (Or.inr (slot_ne (Or.inr (hw _ (List.mem_of_getElem? (i := 24) rfl))) (Or.inr (hw _ (List.mem_of_getElem? (i := 22) rfl))) (by decide) (t := (.array .byte)) (t' := .long) (by decide) (by decide)))
  have f28 : Fld Z h24 o0 "com/example/ufunguo/ufunguo/lock/LockStore$Attempt" "readMicros" "J" u_readMicros_o0 := f18.other W24 (Or.inr (slot_ne (Or.inr (hw _ (List.mem_of_getElem? (i := 26) rfl))) (Or.inr (hw _ (List.mem_of_getElem? (i := 22) rfl))) (by decide) (t := .long) (t' := .long) (by decide) (by decide)))
  have f29 : Exa Z h24 o0 "com/example/ufunguo/ufunguo/lock/LockStore$Attempt" := f19.wr W24
  have f30 : Fld Z h24 o0 "com/example/ufunguo/ufunguo/lock/LockStore$Attempt" "taken" "Z" (.int (nar .boolean p1)) := f20.other W24 (Or.inr (slot_ne (Or.inr (hw _ (List.mem_of_getElem? (i := 18) rfl))) (Or.inr (hw _ (List.mem_of_getElem? (i := 22) rfl))) (by decide) (t := .boolean) (t' := .long) (by decide) (by decide)))
  have zs31 : n0 ≤ h24.size := Nat.le_trans zs21 (Keep.of_wr W24).1
  have N32 := Fr.snoc X24 N22 G_o0
  have K33 : Keep h0 h24 [o0] := K23.wr W24 (Or.inl (by simp))
  obtain ⟨T34, h34, X34, e34, W34, st34⟩ := putF X24 hx hZ hown (host := "") (Or.inl (hw _ (List.mem_of_getElem? (i := 23) rfl))) Via.refl e24 f27 f29 (Or.inr ⟨(hw _ (List.mem_of_getElem? (i := 24) rfl)), rfl, hnm⟩) (hw _ (List.mem_of_getElem? (i := 5) rfl)) (ty := (.array .byte)) (by decide) rfl rfl (g := (mkF m 23 #[.val (.ref o0), .val (.int p1), .val (.long q2), .second, .val (.long q3), .second, .val .null, .val (.long q5), .second] [.null, (.ref o0)])) rfl rfl (hb hby own_d2_23)
  have f35 : Fld Z h34 o0 "com/example/ufunguo/ufunguo/lock/LockStore$Attempt" "token" "J" (.long q2) := f25.other W34 (Or.inr (slot_ne (Or.inr (hw _ (List.mem_of_getElem? (i := 20) rfl))) (Or.inr (hw _ (List.mem_of_getElem? (i := 24) rfl))) (by decide) (t := .long) (t' := (.array .byte)) (by decide) (by decide)))
  have f36 : Fld Z h34 o0 "com/example/ufunguo/ufunguo/lock/LockStore$Attempt" "sleepNanos" "J" (.long q3) := f26.other W34 (Or.inr (slot_ne (Or.inr (hw _ (List.mem_of_getElem? (i := 22) rfl))) (Or.inr (hw _ (List.mem_of_getElem? (i := 24) rfl))) (by decide) (t := .long) (t' := (.array .byte)) (by decide) (by decide)))
  have f37 : Fld Z h34 o0 "com/example/ufunguo/ufunguo/lock/LockStore$Attempt" "holder" "[B" .null := f27.same W34
  have f38 : Fld Z h34 o0 "com/example/ufunguo/ufunguo/lock/LockStore$Attempt" "readMicros" "J" u_readMicros_o0 := f28.other W34 (Or.inr (slot_ne (Or.inr (hw _ (List.mem_of_getElem? (i := 26) rfl))) (Or.inr (hw _ (List.mem_of_getElem? (i := 24) rfl))) (by decide) (t := .long) (t' := (.array .byte)) (by decide) (by decide)))
  have f39 : Exa Z h34 o0 "com/example/ufunguo/ufunguo/lock/LockStore$Attempt" := f29.wr W34
  have f40 : Fld Z h34 o0 "com/example/ufunguo/ufunguo/lock/LockStore$Attempt" "taken" "Z" (.int (nar .boolean p1)) := f30.other W34 (Or.inr (slot_ne (Or.inr (hw _ (List.mem_of_getElem? (i := 18) rfl))) (Or.inr (hw _ (List.mem_of_getElem? (i := 24) rfl))) (by decide) (t := .boolean) (t' := (.array .byte)) (by decide) (by decide)))
  have zs41 : n0 ≤ h34.size := Nat.le_trans zs31 (Keep.of_wr W34).1
  have N42 := Fr.snoc X34 N32 G_o0
  have K43 : Keep h0 h34 [o0] := K33.wr W34 (Or.inl (by simp))
  obtain ⟨T44, h44, X44, e44, W44, st44⟩ := putF X34 hx hZ hown (host := "") (Or.inl (hw _ (List.mem_of_getElem? (i := 25) rfl))) Via.refl e34 f38 f39 (Or.inr ⟨(hw _ (List.mem_of_getElem? (i := 26) rfl)), rfl, hnm⟩) (hw _ (List.mem_of_getElem? (i := 5) rfl)) (ty := .long) (by decide) rfl rfl (g := (mkF m 29 #[.val (.ref o0), .val (.int p1), .val (.long q2), .second, .val (.long q3), .second, .val .null, .val (.long q5), .second] [(.long q5), (.ref o0)])) rfl rfl (hb hby own_d2_29)
  have f45 : Fld Z h44 o0 "com/example/ufunguo/ufunguo/lock/LockStore$Attempt" "token" "J" (.long q2) := f35.other W44 (Or.inr (slot_ne (Or.inr (hw _ (List.mem_of_getElem? (i := 20) rfl))) (Or.inr (hw _ (List.mem_of_getElem? (i := 26) rfl))) (by decide) (t := .long) (t' := .long) (by decide) (by decide)))
  have f46 : Fld Z h44 o0 "com/example/ufunguo/ufunguo/lock/LockStore$Attempt" "sleepNanos" "J" (.long q3) := f36.other W44 (Or.inr (slot_ne (Or.inr (hw _ (List.mem_of_getElem? (i := 22) rfl))) (Or.inr (hw _ (List.mem_of_getElem? (i := 26) rfl))) (by decide) (t := .long) (t' := .long) (by decide) (by decide)))
  have f47 : Fld Z h44 o0 "com/example/ufunguo/ufunguo/lock/LockStore$Attempt" "holder" "[B" .null := f37.other W44 (Or.inr (slot_ne (Or.inr (hw _ (List.mem_of_getElem? (i := 24) rfl))) (Or.inr (hw _ (List.mem_of_getElem? (i := 26) rfl))) (by decide) (t := (.array .byte)) (t' := .long) (by decide) (by decide)))
  have f48 : Fld Z h44 o0 "com/example/ufunguo/ufunguo/lock/LockStore$Attempt" "readMicros" "J" (.long q5) := f38.same W44
  have f49 : Exa Z h44 o0 "com/example/ufunguo/ufunguo/lock/LockStore$Attempt" := f39.wr W44
  have f50 : Fld Z h44 o0 "com/example/ufunguo/ufunguo/lock/LockStore$Attempt" "taken" "Z" (.int (nar .boolean p1)) := f40.other W44 (Or.inr (slot_ne (Or.inr (hw _ (List.mem_of_getElem? (i := 18) rfl))) (Or.inr (hw _ (List.mem_of_getElem? (i := 26) rfl))) (by decide) (t := .boolean) (t' := .long) (by decide) (by decide)))
  have zs51 : n0 ≤ h44.size := Nat.le_trans zs41 (Keep.of_wr W44).1
  have N52 := Fr.snoc X44 N42 G_o0
  have K53 : Keep h0 h44 [o0] := K43.wr W44 (Or.inl (by simp))
  have pre54 : ∀ t, Steps p.tables e below (T44.setTop (mkF m 32 #[.val (.ref o0), .val (.int p1), .val (.long q2), .second, .val (.long q3), .second, .val .null, .val (.long q5), .second] [])) t → Steps p.tables e below (s₁.setTop (entryFrame m #[(.ref o0), (.int p1), (.long q2), (.long q3), .null, (.long q5)] 9)) t := fun t k => pre0 t (by
      refine XS.aloadN X0.here hx rfl (hb hby own_d2_0) rfl rfl ?_
      show Steps p.tables e below (s₁.setTop (mkF m 1 #[.val (.ref o0), .val (.int p1), .val (.long q2), .second, .val (.long q3), .second, .val .null, .val (.long q5), .second] [(.ref o0)])) _
      refine st1.trans ?_
      show Steps p.tables e below (T1.setTop (mkF m 4 #[.val (.ref o0), .val (.int p1), .val (.long q2), .second, .val (.long q3), .second, .val .null, .val (.long q5), .second] [])) _
      refine XS.aloadN X1.here hx rfl (hb hby own_d2_4) rfl rfl ?_
      show Steps p.tables e below (T1.setTop (mkF m 5 #[.val (.ref o0), .val (.int p1), .val (.long q2), .second, .val (.long q3), .second, .val .null, .val (.long q5), .second] [(.ref o0)])) _
      refine XS.iloadN X1.here hx rfl (hb hby own_d2_5) rfl ?_
      show Steps p.tables e below (T1.setTop (mkF m 6 #[.val (.ref o0), .val (.int p1), .val (.long q2), .second, .val (.long q3), .second, .val .null, .val (.long q5), .second] [(.int p1), (.ref o0)])) _
      refine st3 _ ?_
      show Steps p.tables e below (T3.setTop (mkF m 9 #[.val (.ref o0), .val (.int p1), .val (.long q2), .second, .val (.long q3), .second, .val .null, .val (.long q5), .second] [])) _
      refine XS.aloadN X3.here hx rfl (hb hby own_d2_9) rfl rfl ?_
      show Steps p.tables e below (T3.setTop (mkF m 10 #[.val (.ref o0), .val (.int p1), .val (.long q2), .second, .val (.long q3), .second, .val .null, .val (.long q5), .second] [(.ref o0)])) _
      refine XS.lloadN X3.here hx rfl (hb hby own_d2_10) rfl ?_
      show Steps p.tables e below (T3.setTop (mkF m 11 #[.val (.ref o0), .val (.int p1), .val (.long q2), .second, .val (.long q3), .second, .val .null, .val (.long q5), .second] [(.long q2), (.ref o0)])) _
      refine st14 _ ?_
      show Steps p.tables e below (T14.setTop (mkF m 14 #[.val (.ref o0), .val (.int p1), .val (.long q2), .second, .val (.long q3), .second, .val .null, .val (.long q5), .second] [])) _
      refine XS.aloadN X14.here hx rfl (hb hby own_d2_14) rfl rfl ?_
      show Steps p.tables e below (T14.setTop (mkF m 15 #[.val (.ref o0), .val (.int p1), .val (.long q2), .second, .val (.long q3), .second, .val .null, .val (.long q5), .second] [(.ref o0)])) _
      refine XS.lload X14.here hx rfl (hb hby own_d2_15) rfl ?_
      show Steps p.tables e below (T14.setTop (mkF m 17 #[.val (.ref o0), .val (.int p1), .val (.long q2), .second, .val (.long q3), .second, .val .null, .val (.long q5), .second] [(.long q3), (.ref o0)])) _
      refine st24 _ ?_
      show Steps p.tables e below (T24.setTop (mkF m 20 #[.val (.ref o0), .val (.int p1), .val (.long q2), .second, .val (.long q3), .second, .val .null, .val (.long q5), .second] [])) _
      refine XS.aloadN X24.here hx rfl (hb hby own_d2_20) rfl rfl ?_
      show Steps p.tables e below (T24.setTop (mkF m 21 #[.val (.ref o0), .val (.int p1), .val (.long q2), .second, .val (.long q3), .second, .val .null, .val (.long q5), .second] [(.ref o0)])) _
      refine XS.aload X24.here hx rfl (hb hby own_d2_21) rfl rfl ?_
      show Steps p.tables e below (T24.setTop (mkF m 23 #[.val (.ref o0), .val (.int p1), .val (.long q2), .second, .val (.long q3), .second, .val .null, .val (.long q5), .second] [.null, (.ref o0)])) _
      refine st34 _ ?_
      show Steps p.tables e below (T34.setTop (mkF m 26 #[.val (.ref o0), .val (.int p1), .val (.long q2), .second, .val (.long q3), .second, .val .null, .val (.long q5), .second] [])) _
      refine XS.aloadN X34.here hx rfl (hb hby own_d2_26) rfl rfl ?_
      show Steps p.tables e below (T34.setTop (mkF m 27 #[.val (.ref o0), .val (.int p1), .val (.long q2), .second, .val (.long q3), .second, .val .null, .val (.long q5), .second] [(.ref o0)])) _
      refine XS.lload X34.here hx rfl (hb hby own_d2_27) rfl ?_
      show Steps p.tables e below (T34.setTop (mkF m 29 #[.val (.ref o0), .val (.int p1), .val (.long q2), .second, .val (.long q3), .second, .val .null, .val (.long q5), .second] [(.long q5), (.ref o0)])) _
      refine st44 _ ?_
      show Steps p.tables e below (T44.setTop (mkF m 32 #[.val (.ref o0), .val (.int p1), .val (.long q2), .second, .val (.long q3), .second, .val .null, .val (.long q5), .second] [])) _
      exact k)
  obtain ⟨fs, hr, hrun, hended, hW, hsame⟩ := X44.leave (v := none) (fun _ => rfl) (hlocks := hlk)
  refine ⟨_, _, pre54 _ ?_, hrun, hended, _, _, rfl, ?_, ⟨_, rfl⟩, hW, hsame.mono (by decide) (by decide)⟩
  · show Steps p.tables e below (T44.setTop (mkF m 32 #[.val (.ref o0), .val (.int p1), .val (.long q2), .second, .val (.long q3), .second, .val .null, .val (.long q5), .second] [])) _
    exact X44.returnOut hx Bd.returns (hb hby own_d2_32) hr
  · show own_Q2n Z o0 p1 q2 q3 q5 u_token_o0 u_sleepNanos_o0 u_holder_o0 u_readMicros_o0 u_taken_o0 h0 n0 _ T44.heap _; rw [e44]; exact ⟨rfl, N52, K53, f45, f46, f47, f48, f49, f50⟩
theorem own_pd1 : parseMethodDescriptor "(ZJJ[BJ)V" = some ⟨[.boolean, .long, .long, (.array .byte), .long], none⟩ := by decide +kernel
theorem own_d1_0 : decode prog_6_method_3_code 0 = .ok (.new 8, 3) := by decide +kernel
theorem own_d1_3 : decode prog_6_method_3_code 3 = .ok (.dup, 1) := by decide +kernel
theorem own_d1_4 : decode prog_6_method_3_code 4 = .ok (.iconst 0, 1) := by decide +kernel
theorem own_d1_5 : decode prog_6_method_3_code 5 = .ok (.lconst 0, 1) := by decide +kernel
theorem own_d1_6 : decode prog_6_method_3_code 6 = .ok (.lload_n 0, 1) := by decide +kernel
theorem own_d1_7 : decode prog_6_method_3_code 7 = .ok (.aload_n 2, 1) := by decide +kernel
theorem own_d1_8 : decode prog_6_method_3_code 8 = .ok (.lload_n 3, 1) := by decide +kernel
theorem own_d1_9 : decode prog_6_method_3_code 9 = .ok (.invokespecial 27, 3) := by decide +kernel
theorem own_d1_12 : decode prog_6_method_3_code 12 = .ok (.areturn, 1) := by decide +kernel
theorem own_pn1 : plainName "com/example/ufunguo/ufunguo/lock/LockStore$Attempt" = true := by first | (simp [plainName, overriddenIn]; done) | decide +kernel
theorem own_ef1 (m : MethodId) (x0 : Int64) (x1 : Addr) (x2 : Int64) : entryFrame m #[(.long x0), (.ref x1), (.long x2)] 5 = (mkF m 0 #[.val (.long x0), .second, .val (.ref x1), .val (.long x2), .second] []) := by first | (simp [entryFrame, mkF, argsToLocals, Value.category]; done) | rfl
def own_Q1 (Z : State) (q0 : Int64) (o1 : Addr) (q2 : Int64) (h0 : Heap) (n0 : Nat) (v : Option Value) (h : Heap) (L : List Loc) : Prop := ∃ b1 : Addr, v = some (.ref b1) ∧ Fr n0 L ∧ Keep h0 h [] ∧ h0.size ≤ b1 ∧ Exa Z h b1 "com/example/ufunguo/ufunguo/lock/LockStore$Attempt" ∧ Fld Z h b1 "com/example/ufunguo/ufunguo/lock/LockStore$Attempt" "taken" "Z" (.int (nar .boolean (0 : Int32))) ∧ Fld Z h b1 "com/example/ufunguo/ufunguo/lock/LockStore$Attempt" "token" "J" (.long (0 : Int64)) ∧ Fld Z h b1 "com/example/ufunguo/ufunguo/lock/LockStore$Attempt" "sleepNanos" "J" (.long q0) ∧ Fld Z h b1 "com/example/ufunguo/ufunguo/lock/LockStore$Attempt" "holder" "[B" (.ref o1) ∧ Fld Z h b1 "com/example/ufunguo/ufunguo/lock/LockStore$Attempt" "readMicros" "J" (.long q2)
set_option maxRecDepth 65536 in
set_option maxHeartbeats 40000000 in
theorem own_rm1 (l : Launch) (Z : State) (a0 : Array Value) (hw : ∀ d ∈ tables_1, d.before a0 Z = true) (ws : List Jvm.Cond) (q0 : Int64) (o1 : Addr) (q2 : Int64) (h0 : Heap) (n0 : Nat) (Z0 : n0 ≤ h0.size) :
    MetFree l (⟨"com/example/ufunguo/ufunguo/lock/LockStore$Attempt", "refused", "(J[BJ)Lcom/example/ufunguo/ufunguo/lock/LockStore$Attempt;"⟩ : MethodName) (head1 (Jvm.Cond.code (⟨"com/example/ufunguo/ufunguo/lock/LockStore$Attempt", "refused", "(J[BJ)Lcom/example/ufunguo/ufunguo/lock/LockStore$Attempt;"⟩ : MethodName) prog_6_method_3_code 5 (some (.object "com/example/ufunguo/ufunguo/lock/LockStore$Attempt")) :: ws) ({ frames := 3, cells := 1, slots := 5, locals := 45 } : Room)) (fun a U => a = #[(.long q0), (.ref o1), (.long q2)] ∧ Z.Warmed39 U.vm ∧ U.heap = h0) (fun _ _ _ _ _ => True) (fun _ U o U' => ∃ v L, o = .returned v ∧ own_Q1 Z q0 o1 q2 h0 n0 v U'.heap L ∧ FrameEnd U o U' L ({ frames := 3, cells := 1, slots := 5, locals := 45 } : Room).cells ({ frames := 3, cells := 1, slots := 5, locals := 45 } : Room).slots) := by
  refine MetFree.of_bodySF (plainFor_of_name own_pn1) hisR ?_
  intro p e s m args below meth c s₁ Bd hml0 hP hK
  obtain ⟨rfl, hZ, hh⟩ := hP
  have hx := Bd.exec
  have hlk : meth.locks = false := BodyLoose.notSynchronized Bd
  have hby := Bd.bytes
  have hml : c.maxLocals = 5 := hml0
  have hown : s.vm.findClass "com/example/ufunguo/ufunguo/lock/LockStore$Attempt" = some m.cls := findClass_of_methodNamed Bd.named
  have hnm := (name_of_methodNamed Bd.named Bd.method).1
  have X0 : Stand p l e ({ frames := 3, cells := 1, slots := 5, locals := 45 } : Room) s m #[(.long q0), (.ref o1), (.long q2)] below meth c s₁ [] 0 0 := Stand.of_body Bd
  have e0 : s₁.heap = h0 := by rw [← hh, Bd.state]; rfl
  have N0 := Fr.nil n0
  have pre0 : ∀ t, Steps p.tables e below (s₁.setTop (mkF m 0 #[.val (.long q0), .second, .val (.ref o1), .val (.long q2), .second] [])) t → Steps p.tables e below (s₁.setTop (entryFrame m #[(.long q0), (.ref o1), (.long q2)] 5)) t := fun t k => castTop (own_ef1 m q0 o1 q2) k
  obtain ⟨T1, h1, X1, e1, E1, A1, D1, -, st1⟩ := newO X0 hx hZ hown (hw _ (List.mem_of_getElem? (i := 4) rfl)) (hw _ (List.mem_of_getElem? (i := 5) rfl)) (hw _ (List.mem_of_getElem? (i := 2) rfl)) e0 (g := (mkF m 0 #[.val (.long q0), .second, .val (.ref o1), .val (.long q2), .second] [])) rfl (hb hby own_d1_0) (by decide) (by decide)
  obtain ⟨b1, g1⟩ : ∃ z, z = h0.size := ⟨_, rfl⟩
  rw [← g1] at A1 D1 st1
  have g_b1 : n0 ≤ b1 := Nat.le_trans Z0 (Nat.le_of_eq g1.symm)
  have K2 : Keep h0 h0 [] := Keep.refl h0 []
  have sz_b1 : h0.size ≤ b1 := Nat.le_trans K2.1 (Nat.le_of_eq g1.symm)
  have zs3 : n0 ≤ h1.size := Nat.le_trans Z0 E1.1
  have K4 : Keep h0 h1 [] := K2.ext E1
  have f5 : Fld Z h1 b1 "com/example/ufunguo/ufunguo/lock/LockStore$Attempt" "taken" "Z" (.int (0 : Int32)) := D1 (Or.inr (hw _ (List.mem_of_getElem? (i := 18) rfl))) (ty := .boolean) (by decide)
  have f6 : Fld Z h1 b1 "com/example/ufunguo/ufunguo/lock/LockStore$Attempt" "token" "J" (.long (0 : Int64)) := D1 (Or.inr (hw _ (List.mem_of_getElem? (i := 20) rfl))) (ty := .long) (by decide)
  have f7 : Fld Z h1 b1 "com/example/ufunguo/ufunguo/lock/LockStore$Attempt" "sleepNanos" "J" (.long (0 : Int64)) := D1 (Or.inr (hw _ (List.mem_of_getElem? (i := 22) rfl))) (ty := .long) (by decide)
  have f8 : Fld Z h1 b1 "com/example/ufunguo/ufunguo/lock/LockStore$Attempt" "holder" "[B" .null := D1 (Or.inr (hw _ (List.mem_of_getElem? (i := 24) rfl))) (ty := (.array .byte)) (by decide)
  have f9 : Fld Z h1 b1 "com/example/ufunguo/ufunguo/lock/LockStore$Attempt" "readMicros" "J" (.long (0 : Int64)) := D1 (Or.inr (hw _ (List.mem_of_getElem? (i := 26) rfl))) (ty := .long) (by decide)
  obtain ⟨_, _, ⟨T10, L10, k10, n10⟩, -, X10, ⟨Lc10, hQ10, l10, y10, z10⟩, st10⟩ := X1.specialBack hx (y := (⟨"com/example/ufunguo/ufunguo/lock/LockStore$Attempt", "<init>", "(ZJJ[BJ)V"⟩ : MethodName)) rfl hown (mvT hZ (hw _ (List.mem_of_getElem? (i := 6) rfl))) (mvT hZ (hw _ (List.mem_of_getElem? (i := 7) rfl))) (mvT hZ (hw _ (List.mem_of_getElem? (i := 8) rfl))) (by decide) (backOf (W := 1) (own_rm2 l Z a0 hw [] b1 (0 : Int32) (0 : Int64) q0 o1 q2 (.long (0 : Int64)) (.long (0 : Int64)) .null (.long (0 : Int64)) (.int (0 : Int32)) h1 n0 zs3 f6 f7 f8 f9 A1 f5 g_b1) hZ (hw _ (List.mem_of_getElem? (i := 8) rfl)) (hw _ (List.mem_of_getElem? (i := 2) rfl)) (by decide) (by decide)) (g := (mkF m 9 #[.val (.long q0), .second, .val (.ref o1), .val (.long q2), .second] [(.long q2), (.ref o1), (.long q0), (.long (0 : Int64)), (.int (0 : Int32)), (.ref b1), (.ref b1)])) rfl (by rw [hml]; rfl) (Steps.refl _) (a := b1) (argsL := [(.int (0 : Int32)), (.long (0 : Int64)), (.long q0), (.ref o1), (.long q2)]) (rest := [(.ref b1)]) (lenOf own_pd1 rfl) rfl (by show 2 * 0 + _ ≤ _; exact Nat.le_of_eq rfl) (hb hby own_d1_9) (fun _ _ => ⟨rfl, e1, (by decide : 1 + 0 ≤ _), (by decide : 5 + 0 ≤ _)⟩)
  dsimp only [Pt.U, Pt.locs, Pt.cells, Pt.slots] at X10 l10 y10 z10 st10 hQ10
  subst l10 y10 z10
  obtain ⟨rfl, N10q, K10, f11, f12, f13, f14, f15, f16⟩ := hQ10
  have zs17 : n0 ≤ T10.heap.size := Nat.le_trans zs3 K10.1
  have K18 : Keep h0 T10.heap [] := K4.trans K10 (allS (Or.inr sz_b1) all0)
  have N19 := Fr.app N0 N10q
  have pre20 : ∀ t, Steps p.tables e below (T10.setTop (mkF m 12 #[.val (.long q0), .second, .val (.ref o1), .val (.long q2), .second] [(.ref b1)])) t → Steps p.tables e below (s₁.setTop (entryFrame m #[(.long q0), (.ref o1), (.long q2)] 5)) t := fun t k => pre0 t (by
      refine st1 _ ?_
      show Steps p.tables e below (T1.setTop (mkF m 3 #[.val (.long q0), .second, .val (.ref o1), .val (.long q2), .second] [(.ref b1)])) _
      refine XS.dup X1.here hx rfl (hb hby own_d1_3) rfl rfl ?_
      show Steps p.tables e below (T1.setTop (mkF m 4 #[.val (.long q0), .second, .val (.ref o1), .val (.long q2), .second] [(.ref b1), (.ref b1)])) _
      refine XS.iconst X1.here hx rfl (hb hby own_d1_4) ?_
      show Steps p.tables e below (T1.setTop (mkF m 5 #[.val (.long q0), .second, .val (.ref o1), .val (.long q2), .second] [(.int (0 : Int32)), (.ref b1), (.ref b1)])) _
      refine XS.lconst X1.here hx rfl (hb hby own_d1_5) ?_
      show Steps p.tables e below (T1.setTop (mkF m 6 #[.val (.long q0), .second, .val (.ref o1), .val (.long q2), .second] [(.long (0 : Int64)), (.int (0 : Int32)), (.ref b1), (.ref b1)])) _
      refine XS.lloadN X1.here hx rfl (hb hby own_d1_6) rfl ?_
      show Steps p.tables e below (T1.setTop (mkF m 7 #[.val (.long q0), .second, .val (.ref o1), .val (.long q2), .second] [(.long q0), (.long (0 : Int64)), (.int (0 : Int32)), (.ref b1), (.ref b1)])) _
      refine XS.aloadN X1.here hx rfl (hb hby own_d1_7) rfl rfl ?_
      show Steps p.tables e below (T1.setTop (mkF m 8 #[.val (.long q0), .second, .val (.ref o1), .val (.long q2), .second] [(.ref o1), (.long q0), (.long (0 : Int64)), (.int (0 : Int32)), (.ref b1), (.ref b1)])) _
      refine XS.lloadN X1.here hx rfl (hb hby own_d1_8) rfl ?_
      show Steps p.tables e below (T1.setTop (mkF m 9 #[.val (.long q0), .second, .val (.ref o1), .val (.long q2), .second] [(.long q2), (.ref o1), (.long q0), (.long (0 : Int64)), (.int (0 : Int32)), (.ref b1), (.ref b1)])) _
      refine st10.trans ?_
      show Steps p.tables e below (T10.setTop (mkF m 12 #[.val (.long q0), .second, .val (.ref o1), .val (.long q2), .second] [(.ref b1)])) _
      exact k)
  obtain ⟨fs, hr, hrun, hended, hW, hsame⟩ := X10.leave (v := some (.ref b1)) (fun h => by rw [Bd.returns] at h; cases h) (hlocks := hlk)
  refine ⟨_, _, pre20 _ ?_, hrun, hended, _, _, rfl, ?_, ⟨_, rfl⟩, hW, hsame.mono (by decide) (by decide)⟩
  · show Steps p.tables e below (T10.setTop (mkF m 12 #[.val (.long q0), .second, .val (.ref o1), .val (.long q2), .second] [(.ref b1)])) _
    jvm_step X10.here [X10.here.top, hx, (hb hby own_d1_12), X10.method', Bd.returns, Value.isRef, FieldType.isReference]
    first | (intro acts; rw [hr _ acts rfl rfl rfl]) | rw [hr _ _ rfl rfl rfl]
    exact Steps.refl _
  · show own_Q1 Z q0 o1 q2 h0 n0 _ T10.heap _; exact ⟨b1, rfl, N19, K18, sz_b1, f15, f16, f11, f12, f13, f14⟩
theorem own_ef1n (m : MethodId) (x0 : Int64) (x2 : Int64) : entryFrame m #[(.long x0), .null, (.long x2)] 5 = (mkF m 0 #[.val (.long x0), .second, .val .null, .val (.long x2), .second] []) := by first | (simp [entryFrame, mkF, argsToLocals, Value.category]; done) | rfl
def own_Q1n (Z : State) (q0 : Int64) (q2 : Int64) (h0 : Heap) (n0 : Nat) (v : Option Value) (h : Heap) (L : List Loc) : Prop := ∃ b1 : Addr, v = some (.ref b1) ∧ Fr n0 L ∧ Keep h0 h [] ∧ h0.size ≤ b1 ∧ Exa Z h b1 "com/example/ufunguo/ufunguo/lock/LockStore$Attempt" ∧ Fld Z h b1 "com/example/ufunguo/ufunguo/lock/LockStore$Attempt" "taken" "Z" (.int (nar .boolean (0 : Int32))) ∧ Fld Z h b1 "com/example/ufunguo/ufunguo/lock/LockStore$Attempt" "token" "J" (.long (0 : Int64)) ∧ Fld Z h b1 "com/example/ufunguo/ufunguo/lock/LockStore$Attempt" "sleepNanos" "J" (.long q0) ∧ Fld Z h b1 "com/example/ufunguo/ufunguo/lock/LockStore$Attempt" "holder" "[B" .null ∧ Fld Z h b1 "com/example/ufunguo/ufunguo/lock/LockStore$Attempt" "readMicros" "J" (.long q2)
set_option maxRecDepth 65536 in
set_option maxHeartbeats 40000000 in
theorem own_rm1n (l : Launch) (Z : State) (a0 : Array Value) (hw : ∀ d ∈ tables_1, d.before a0 Z = true) (ws : List Jvm.Cond) (q0 : Int64) (q2 : Int64) (h0 : Heap) (n0 : Nat) (Z0 : n0 ≤ h0.size) :
    MetFree l (⟨"com/example/ufunguo/ufunguo/lock/LockStore$Attempt", "refused", "(J[BJ)Lcom/example/ufunguo/ufunguo/lock/LockStore$Attempt;"⟩ : MethodName) (head1 (Jvm.Cond.code (⟨"com/example/ufunguo/ufunguo/lock/LockStore$Attempt", "refused", "(J[BJ)Lcom/example/ufunguo/ufunguo/lock/LockStore$Attempt;"⟩ : MethodName) prog_6_method_3_code 5 (some (.object "com/example/ufunguo/ufunguo/lock/LockStore$Attempt")) :: ws) ({ frames := 3, cells := 1, slots := 5, locals := 45 } : Room)) (fun a U => a = #[(.long q0), .null, (.long q2)] ∧ Z.Warmed39 U.vm ∧ U.heap = h0) (fun _ _ _ _ _ => True) (fun _ U o U' => ∃ v L, o = .returned v ∧ own_Q1n Z q0 q2 h0 n0 v U'.heap L ∧ FrameEnd U o U' L ({ frames := 3, cells := 1, slots := 5, locals := 45 } : Room).cells ({ frames := 3, cells := 1, slots := 5, locals := 45 } : Room).slots) := by
  refine MetFree.of_bodySF (plainFor_of_name own_pn1) hisR ?_
  intro p e s m args below meth c s₁ Bd hml0 hP hK
  obtain ⟨rfl, hZ, hh⟩ := hP
  have hx := Bd.exec
  have hlk : meth.locks = false := BodyLoose.notSynchronized Bd
  have hby := Bd.bytes
  have hml : c.maxLocals = 5 := hml0
  have hown : s.vm.findClass "com/example/ufunguo/ufunguo/lock/LockStore$Attempt" = some m.cls := findClass_of_methodNamed Bd.named
  have hnm := (name_of_methodNamed Bd.named Bd.method).1
  have X0 : Stand p l e ({ frames := 3, cells := 1, slots := 5, locals := 45 } : Room) s m #[(.long q0), .null, (.long q2)] below meth c s₁ [] 0 0 := Stand.of_body Bd
  have e0 : s₁.heap = h0 := by rw [← hh, Bd.state]; rfl
  have N0 := Fr.nil n0
  have pre0 : ∀ t, Steps p.tables e below (s₁.setTop (mkF m 0 #[.val (.long q0), .second, .val .null, .val (.long q2), .second] [])) t → Steps p.tables e below (s₁.setTop (entryFrame m #[(.long q0), .null, (.long q2)] 5)) t := fun t k => castTop (own_ef1n m q0 q2) k
  obtain ⟨T1, h1, X1, e1, E1, A1, D1, -, st1⟩ := newO X0 hx hZ hown (hw _ (List.mem_of_getElem? (i := 4) rfl)) (hw _ (List.mem_of_getElem? (i := 5) rfl)) (hw _ (List.mem_of_getElem? (i := 2) rfl)) e0 (g := (mkF m 0 #[.val (.long q0), .second, .val .null, .val (.long q2), .second] [])) rfl (hb hby own_d1_0) (by decide) (by decide)
  obtain ⟨b1, g1⟩ : ∃ z, z = h0.size := ⟨_, rfl⟩
  rw [← g1] at A1 D1 st1
  have g_b1 : n0 ≤ b1 := Nat.le_trans Z0 (Nat.le_of_eq g1.symm)
  have K2 : Keep h0 h0 [] := Keep.refl h0 []
  have sz_b1 : h0.size ≤ b1 := Nat.le_trans K2.1 (Nat.le_of_eq g1.symm)
  have zs3 : n0 ≤ h1.size := Nat.le_trans Z0 E1.1
  have K4 : Keep h0 h1 [] := K2.ext E1
  have f5 : Fld Z h1 b1 "com/example/ufunguo/ufunguo/lock/LockStore$Attempt" "taken" "Z" (.int (0 : Int32)) := D1 (Or.inr (hw _ (List.mem_of_getElem? (i := 18) rfl))) (ty := .boolean) (by decide)
  have f6 : Fld Z h1 b1 "com/example/ufunguo/ufunguo/lock/LockStore$Attempt" "token" "J" (.long (0 : Int64)) := D1 (Or.inr (hw _ (List.mem_of_getElem? (i := 20) rfl))) (ty := .long) (by decide)
  have f7 : Fld Z h1 b1 "com/example/ufunguo/ufunguo/lock/LockStore$Attempt" "sleepNanos" "J" (.long (0 : Int64)) := D1 (Or.inr (hw _ (List.mem_of_getElem? (i := 22) rfl))) (ty := .long) (by decide)
  have f8 : Fld Z h1 b1 "com/example/ufunguo/ufunguo/lock/LockStore$Attempt" "holder" "[B" .null := D1 (Or.inr (hw _ (List.mem_of_getElem? (i := 24) rfl))) (ty := (.array .byte)) (by decide)
  have f9 : Fld Z h1 b1 "com/example/ufunguo/ufunguo/lock/LockStore$Attempt" "readMicros" "J" (.long (0 : Int64)) := D1 (Or.inr (hw _ (List.mem_of_getElem? (i := 26) rfl))) (ty := .long) (by decide)
  obtain ⟨_, _, ⟨T10, L10, k10, n10⟩, -, X10, ⟨Lc10, hQ10, l10, y10, z10⟩, st10⟩ := X1.specialBack hx (y := (⟨"com/example/ufunguo/ufunguo/lock/LockStore$Attempt", "<init>", "(ZJJ[BJ)V"⟩ : MethodName)) rfl hown (mvT hZ (hw _ (List.mem_of_getElem? (i := 6) rfl))) (mvT hZ (hw _ (List.mem_of_getElem? (i := 7) rfl))) (mvT hZ (hw _ (List.mem_of_getElem? (i := 8) rfl))) (by decide) (backOf (W := 1) (own_rm2n l Z a0 hw [] b1 (0 : Int32) (0 : Int64) q0 q2 (.long (0 : Int64)) (.long (0 : Int64)) .null (.long (0 : Int64)) (.int (0 : Int32)) h1 n0 zs3 f6 f7 f8 f9 A1 f5 g_b1) hZ (hw _ (List.mem_of_getElem? (i := 8) rfl)) (hw _ (List.mem_of_getElem? (i := 2) rfl)) (by decide) (by decide)) (g := (mkF m 9 #[.val (.long q0), .second, .val .null, .val (.long q2), .second] [(.long q2), .null, (.long q0), (.long (0 : Int64)), (.int (0 : Int32)), (.ref b1), (.ref b1)])) rfl (by rw [hml]; rfl) (Steps.refl _) (a := b1) (argsL := [(.int (0 : Int32)), (.long (0 : Int64)), (.long q0), .null, (.long q2)]) (rest := [(.ref b1)]) (lenOf own_pd1 rfl) rfl (by show 2 * 0 + _ ≤ _; exact Nat.le_of_eq rfl) (hb hby own_d1_9) (fun _ _ => ⟨rfl, e1, (by decide : 1 + 0 ≤ _), (by decide : 5 + 0 ≤ _)⟩)
  dsimp only [Pt.U, Pt.locs, Pt.cells, Pt.slots] at X10 l10 y10 z10 st10 hQ10
  subst l10 y10 z10
  obtain ⟨rfl, N10q, K10, f11, f12, f13, f14, f15, f16⟩ := hQ10
  have zs17 : n0 ≤ T10.heap.size := Nat.le_trans zs3 K10.1
  have K18 : Keep h0 T10.heap [] := K4.trans K10 (allS (Or.inr sz_b1) all0)
  have N19 := Fr.app N0 N10q
  have pre20 : ∀ t, Steps p.tables e below (T10.setTop (mkF m 12 #[.val (.long q0), .second, .val .null, .val (.long q2), .second] [(.ref b1)])) t → Steps p.tables e below (s₁.setTop (entryFrame m #[(.long q0), .null, (.long q2)] 5)) t := fun t k => pre0 t (by
      refine st1 _ ?_
      show Steps p.tables e below (T1.setTop (mkF m 3 #[.val (.long q0), .second, .val .null, .val (.long q2), .second] [(.ref b1)])) _
      refine XS.dup X1.here hx rfl (hb hby own_d1_3) rfl rfl ?_
      show Steps p.tables e below (T1.setTop (mkF m 4 #[.val (.long q0), .second, .val .null, .val (.long q2), .second] [(.ref b1), (.ref b1)])) _
      refine XS.iconst X1.here hx rfl (hb hby own_d1_4) ?_
      show Steps p.tables e below (T1.setTop (mkF m 5 #[.val (.long q0), .second, .val .null, .val (.long q2), .second] [(.int (0 : Int32)), (.ref b1), (.ref b1)])) _
      refine XS.lconst X1.here hx rfl (hb hby own_d1_5) ?_
      show Steps p.tables e below (T1.setTop (mkF m 6 #[.val (.long q0), .second, .val .null, .val (.long q2), .second] [(.long (0 : Int64)), (.int (0 : Int32)), (.ref b1), (.ref b1)])) _
      refine XS.lloadN X1.here hx rfl (hb hby own_d1_6) rfl ?_
      show Steps p.tables e below (T1.setTop (mkF m 7 #[.val (.long q0), .second, .val .null, .val (.long q2), .second] [(.long q0), (.long (0 : Int64)), (.int (0 : Int32)), (.ref b1), (.ref b1)])) _
      refine XS.aloadN X1.here hx rfl (hb hby own_d1_7) rfl rfl ?_
      show Steps p.tables e below (T1.setTop (mkF m 8 #[.val (.long q0), .second, .val .null, .val (.long q2), .second] [.null, (.long q0), (.long (0 : Int64)), (.int (0 : Int32)), (.ref b1), (.ref b1)])) _
      refine XS.lloadN X1.here hx rfl (hb hby own_d1_8) rfl ?_
      show Steps p.tables e below (T1.setTop (mkF m 9 #[.val (.long q0), .second, .val .null, .val (.long q2), .second] [(.long q2), .null, (.long q0), (.long (0 : Int64)), (.int (0 : Int32)), (.ref b1), (.ref b1)])) _
      refine st10.trans ?_
      show Steps p.tables e below (T10.setTop (mkF m 12 #[.val (.long q0), .second, .val .null, .val (.long q2), .second] [(.ref b1)])) _
      exact k)
  obtain ⟨fs, hr, hrun, hended, hW, hsame⟩ := X10.leave (v := some (.ref b1)) (fun h => by rw [Bd.returns] at h; cases h) (hlocks := hlk)
  refine ⟨_, _, pre20 _ ?_, hrun, hended, _, _, rfl, ?_, ⟨_, rfl⟩, hW, hsame.mono (by decide) (by decide)⟩
  · show Steps p.tables e below (T10.setTop (mkF m 12 #[.val (.long q0), .second, .val .null, .val (.long q2), .second] [(.ref b1)])) _
    jvm_step X10.here [X10.here.top, hx, (hb hby own_d1_12), X10.method', Bd.returns, Value.isRef, FieldType.isReference]
    first | (intro acts; rw [hr _ acts rfl rfl rfl]) | rw [hr _ _ rfl rfl rfl]
    exact Steps.refl _
  · show own_Q1n Z q0 q2 h0 n0 _ T10.heap _; exact ⟨b1, rfl, N19, K18, sz_b1, f15, f16, f11, f12, f13, f14⟩
theorem own_d5_0 : decode prog_6_method_7_code 0 = .ok (.aload_n 0, 1) := by decide +kernel
theorem own_d5_1 : decode prog_6_method_7_code 1 = .ok (.getfield 7, 3) := by decide +kernel
theorem own_d5_4 : decode prog_6_method_7_code 4 = .ok (.ireturn, 1) := by decide +kernel
theorem own_pn5 : plainName "com/example/ufunguo/ufunguo/lock/LockStore$Attempt" = true := by first | (simp [plainName, overriddenIn]; done) | decide +kernel
theorem own_ef5 (m : MethodId) (x0 : Addr) : entryFrame m #[(.ref x0)] 1 = (mkF m 0 #[.val (.ref x0)] []) := by first | (simp [entryFrame, mkF, argsToLocals, Value.category]; done) | rfl
def own_Q5 (Z : State) (o0 : Addr) (w_taken_o0 : Int32) (h0 : Heap) (n0 : Nat) (v : Option Value) (h : Heap) (L : List Loc) : Prop := v = some (.int (nar .boolean w_taken_o0)) ∧ Fr n0 L ∧ h = h0
set_option maxRecDepth 65536 in
set_option maxHeartbeats 40000000 in
theorem own_rm5 (l : Launch) (Z : State) (a0 : Array Value) (hw : ∀ d ∈ tables_1, d.before a0 Z = true) (ws : List Jvm.Cond) (o0 : Addr) (w_taken_o0 : Int32) (h0 : Heap) (n0 : Nat) (Z0 : n0 ≤ h0.size) (P_F_o0_taken : Fld Z h0 o0 "com/example/ufunguo/ufunguo/lock/LockStore$Attempt" "taken" "Z" (.int w_taken_o0)) :
    MetFree l (⟨"com/example/ufunguo/ufunguo/lock/LockStore$Attempt", "taken", "()Z"⟩ : MethodName) (head1 (Jvm.Cond.code (⟨"com/example/ufunguo/ufunguo/lock/LockStore$Attempt", "taken", "()Z"⟩ : MethodName) prog_6_method_7_code 1 (some .boolean) :: ws) ({ frames := 0, cells := 0, slots := 0, locals := 0 } : Room)) (fun a U => a = #[(.ref o0)] ∧ Z.Warmed39 U.vm ∧ U.heap = h0) (fun _ _ _ _ _ => True) (fun _ U o U' => ∃ v L, o = .returned v ∧ own_Q5 Z o0 w_taken_o0 h0 n0 v U'.heap L ∧ FrameEnd U o U' L ({ frames := 0, cells := 0, slots := 0, locals := 0 } : Room).cells ({ frames := 0, cells := 0, slots := 0, locals := 0 } : Room).slots) := by
  refine MetFree.of_bodySF (plainFor_of_name own_pn5) hisR ?_
  intro p e s m args below meth c s₁ Bd hml0 hP hK
  obtain ⟨rfl, hZ, hh⟩ := hP
  have hx := Bd.exec
  have hlk : meth.locks = false := BodyLoose.notSynchronized Bd
  have hby := Bd.bytes
  have hml : c.maxLocals = 1 := hml0
  have hown : s.vm.findClass "com/example/ufunguo/ufunguo/lock/LockStore$Attempt" = some m.cls := findClass_of_methodNamed Bd.named
  have hnm := (name_of_methodNamed Bd.named Bd.method).1
  have X0 : Stand p l e ({ frames := 0, cells := 0, slots := 0, locals := 0 } : Room) s m #[(.ref o0)] below meth c s₁ [] 0 0 := Stand.of_body Bd
  have e0 : s₁.heap = h0 := by rw [← hh, Bd.state]; rfl
  have N0 := Fr.nil n0
  have pre0 : ∀ t, Steps p.tables e below (s₁.setTop (mkF m 0 #[.val (.ref o0)] [])) t → Steps p.tables e below (s₁.setTop (entryFrame m #[(.ref o0)] 1)) t := fun t k => castTop (own_ef5 m o0) k
  obtain ⟨T1, X1, e1, st1⟩ := getF X0 hx hZ hown (host := "") (Or.inl (hw _ (List.mem_of_getElem? (i := 17) rfl))) Via.refl e0 P_F_o0_taken (g := (mkF m 1 #[.val (.ref o0)] [(.ref o0)])) rfl rfl (hb hby own_d5_1)
  have pre2 : ∀ t, Steps p.tables e below (T1.setTop (mkF m 4 #[.val (.ref o0)] [(.int w_taken_o0)])) t → Steps p.tables e below (s₁.setTop (entryFrame m #[(.ref o0)] 1)) t := fun t k => pre0 t (by
      refine XS.aloadN X0.here hx rfl (hb hby own_d5_0) rfl rfl ?_
      show Steps p.tables e below (s₁.setTop (mkF m 1 #[.val (.ref o0)] [(.ref o0)])) _
      refine st1 _ ?_
      show Steps p.tables e below (T1.setTop (mkF m 4 #[.val (.ref o0)] [(.int w_taken_o0)])) _
      exact k)
  obtain ⟨fs, hr, hrun, hended, hW, hsame⟩ := X1.leave (v := some (.int (nar .boolean w_taken_o0))) (fun h => by rw [Bd.returns] at h; cases h) (hlocks := hlk)
  refine ⟨_, _, pre2 _ ?_, hrun, hended, _, _, rfl, ?_, ⟨_, rfl⟩, hW, hsame.mono (by decide) (by decide)⟩
  · show Steps p.tables e below (T1.setTop (mkF m 4 #[.val (.ref o0)] [(.int w_taken_o0)])) _
    exact retN X1 hx (t := .boolean) Bd.returns (by simp) (hb hby own_d5_4) hr
  · show own_Q5 Z o0 w_taken_o0 h0 n0 _ T1.heap _; rw [e1]; exact ⟨rfl, N0, rfl⟩
theorem own_d6_0 : decode prog_6_method_8_code 0 = .ok (.aload_n 0, 1) := by decide +kernel
theorem own_d6_1 : decode prog_6_method_8_code 1 = .ok (.getfield 13, 3) := by decide +kernel
theorem own_d6_4 : decode prog_6_method_8_code 4 = .ok (.lreturn, 1) := by decide +kernel
theorem own_pn6 : plainName "com/example/ufunguo/ufunguo/lock/LockStore$Attempt" = true := by first | (simp [plainName, overriddenIn]; done) | decide +kernel
theorem own_ef6 (m : MethodId) (x0 : Addr) : entryFrame m #[(.ref x0)] 1 = (mkF m 0 #[.val (.ref x0)] []) := by first | (simp [entryFrame, mkF, argsToLocals, Value.category]; done) | rfl
def own_Q6 (Z : State) (o0 : Addr) (w_token_o0 : Int64) (h0 : Heap) (n0 : Nat) (v : Option Value) (h : Heap) (L : List Loc) : Prop := v = some (.long w_token_o0) ∧ Fr n0 L ∧ h = h0
set_option maxRecDepth 65536 in
set_option maxHeartbeats 40000000 in
theorem own_rm6 (l : Launch) (Z : State) (a0 : Array Value) (hw : ∀ d ∈ tables_1, d.before a0 Z = true) (ws : List Jvm.Cond) (o0 : Addr) (w_token_o0 : Int64) (h0 : Heap) (n0 : Nat) (Z0 : n0 ≤ h0.size) (P_F_o0_token : Fld Z h0 o0 "com/example/ufunguo/ufunguo/lock/LockStore$Attempt" "token" "J" (.long w_token_o0)) :
    MetFree l (⟨"com/example/ufunguo/ufunguo/lock/LockStore$Attempt", "token", "()J"⟩ : MethodName) (head1 (Jvm.Cond.code (⟨"com/example/ufunguo/ufunguo/lock/LockStore$Attempt", "token", "()J"⟩ : MethodName) prog_6_method_8_code 1 (some .long) :: ws) ({ frames := 0, cells := 0, slots := 0, locals := 0 } : Room)) (fun a U => a = #[(.ref o0)] ∧ Z.Warmed39 U.vm ∧ U.heap = h0) (fun _ _ _ _ _ => True) (fun _ U o U' => ∃ v L, o = .returned v ∧ own_Q6 Z o0 w_token_o0 h0 n0 v U'.heap L ∧ FrameEnd U o U' L ({ frames := 0, cells := 0, slots := 0, locals := 0 } : Room).cells ({ frames := 0, cells := 0, slots := 0, locals := 0 } : Room).slots) := by
  refine MetFree.of_bodySF (plainFor_of_name own_pn6) hisR ?_
  intro p e s m args below meth c s₁ Bd hml0 hP hK
  obtain ⟨rfl, hZ, hh⟩ := hP
  have hx := Bd.exec
  have hlk : meth.locks = false := BodyLoose.notSynchronized Bd
  have hby := Bd.bytes
  have hml : c.maxLocals = 1 := hml0
  have hown : s.vm.findClass "com/example/ufunguo/ufunguo/lock/LockStore$Attempt" = some m.cls := findClass_of_methodNamed Bd.named
  have hnm := (name_of_methodNamed Bd.named Bd.method).1
  have X0 : Stand p l e ({ frames := 0, cells := 0, slots := 0, locals := 0 } : Room) s m #[(.ref o0)] below meth c s₁ [] 0 0 := Stand.of_body Bd
  have e0 : s₁.heap = h0 := by rw [← hh, Bd.state]; rfl
  have N0 := Fr.nil n0
  have pre0 : ∀ t, Steps p.tables e below (s₁.setTop (mkF m 0 #[.val (.ref o0)] [])) t → Steps p.tables e below (s₁.setTop (entryFrame m #[(.ref o0)] 1)) t := fun t k => castTop (own_ef6 m o0) k
  obtain ⟨T1, X1, e1, st1⟩ := getF X0 hx hZ hown (host := "") (Or.inl (hw _ (List.mem_of_getElem? (i := 19) rfl))) Via.refl e0 P_F_o0_token (g := (mkF m 1 #[.val (.ref o0)] [(.ref o0)])) rfl rfl (hb hby own_d6_1)
  have pre2 : ∀ t, Steps p.tables e below (T1.setTop (mkF m 4 #[.val (.ref o0)] [(.long w_token_o0)])) t → Steps p.tables e below (s₁.setTop (entryFrame m #[(.ref o0)] 1)) t := fun t k => pre0 t (by
      refine XS.aloadN X0.here hx rfl (hb hby own_d6_0) rfl rfl ?_
      show Steps p.tables e below (s₁.setTop (mkF m 1 #[.val (.ref o0)] [(.ref o0)])) _
      refine st1 _ ?_
      show Steps p.tables e below (T1.setTop (mkF m 4 #[.val (.ref o0)] [(.long w_token_o0)])) _
      exact k)
  obtain ⟨fs, hr, hrun, hended, hW, hsame⟩ := X1.leave (v := some (.long w_token_o0)) (fun h => by rw [Bd.returns] at h; cases h) (hlocks := hlk)
  refine ⟨_, _, pre2 _ ?_, hrun, hended, _, _, rfl, ?_, ⟨_, rfl⟩, hW, hsame.mono (by decide) (by decide)⟩
  · show Steps p.tables e below (T1.setTop (mkF m 4 #[.val (.ref o0)] [(.long w_token_o0)])) _
    exact own_retJ X1 hx Bd.returns (hb hby own_d6_4) hr
  · show own_Q6 Z o0 w_token_o0 h0 n0 _ T1.heap _; rw [e1]; exact ⟨rfl, N0, rfl⟩
theorem own_d7_0 : decode prog_6_method_9_code 0 = .ok (.aload_n 0, 1) := by decide +kernel
theorem own_d7_1 : decode prog_6_method_9_code 1 = .ok (.getfield 17, 3) := by decide +kernel
theorem own_d7_4 : decode prog_6_method_9_code 4 = .ok (.lreturn, 1) := by decide +kernel
theorem own_pn7 : plainName "com/example/ufunguo/ufunguo/lock/LockStore$Attempt" = true := by first | (simp [plainName, overriddenIn]; done) | decide +kernel
theorem own_ef7 (m : MethodId) (x0 : Addr) : entryFrame m #[(.ref x0)] 1 = (mkF m 0 #[.val (.ref x0)] []) := by first | (simp [entryFrame, mkF, argsToLocals, Value.category]; done) | rfl
def own_Q7 (Z : State) (o0 : Addr) (w_sleepNanos_o0 : Int64) (h0 : Heap) (n0 : Nat) (v : Option Value) (h : Heap) (L : List Loc) : Prop := v = some (.long w_sleepNanos_o0) ∧ Fr n0 L ∧ h = h0
set_option maxRecDepth 65536 in
set_option maxHeartbeats 40000000 in
theorem own_rm7 (l : Launch) (Z : State) (a0 : Array Value) (hw : ∀ d ∈ tables_1, d.before a0 Z = true) (ws : List Jvm.Cond) (o0 : Addr) (w_sleepNanos_o0 : Int64) (h0 : Heap) (n0 : Nat) (Z0 : n0 ≤ h0.size) (P_F_o0_sleepNanos : Fld Z h0 o0 "com/example/ufunguo/ufunguo/lock/LockStore$Attempt" "sleepNanos" "J" (.long w_sleepNanos_o0)) :
    MetFree l (⟨"com/example/ufunguo/ufunguo/lock/LockStore$Attempt", "sleepNanos", "()J"⟩ : MethodName) (head1 (Jvm.Cond.code (⟨"com/example/ufunguo/ufunguo/lock/LockStore$Attempt", "sleepNanos", "()J"⟩ : MethodName) prog_6_method_9_code 1 (some .long) :: ws) ({ frames := 0, cells := 0, slots := 0, locals := 0 } : Room)) (fun a U => a = #[(.ref o0)] ∧ Z.Warmed39 U.vm ∧ U.heap = h0) (fun _ _ _ _ _ => True) (fun _ U o U' => ∃ v L, o = .returned v ∧ own_Q7 Z o0 w_sleepNanos_o0 h0 n0 v U'.heap L ∧ FrameEnd U o U' L ({ frames := 0, cells := 0, slots := 0, locals := 0 } : Room).cells ({ frames := 0, cells := 0, slots := 0, locals := 0 } : Room).slots) := by
  refine MetFree.of_bodySF (plainFor_of_name own_pn7) hisR ?_
  intro p e s m args below meth c s₁ Bd hml0 hP hK
  obtain ⟨rfl, hZ, hh⟩ := hP
  have hx := Bd.exec
  have hlk : meth.locks = false := BodyLoose.notSynchronized Bd
  have hby := Bd.bytes
  have hml : c.maxLocals = 1 := hml0
  have hown : s.vm.findClass "com/example/ufunguo/ufunguo/lock/LockStore$Attempt" = some m.cls := findClass_of_methodNamed Bd.named
  have hnm := (name_of_methodNamed Bd.named Bd.method).1
  have X0 : Stand p l e ({ frames := 0, cells := 0, slots := 0, locals := 0 } : Room) s m #[(.ref o0)] below meth c s₁ [] 0 0 := Stand.of_body Bd
  have e0 : s₁.heap = h0 := by rw [← hh, Bd.state]; rfl
  have N0 := Fr.nil n0
  have pre0 : ∀ t, Steps p.tables e below (s₁.setTop (mkF m 0 #[.val (.ref o0)] [])) t → Steps p.tables e below (s₁.setTop (entryFrame m #[(.ref o0)] 1)) t := fun t k => castTop (own_ef7 m o0) k
  obtain ⟨T1, X1, e1, st1⟩ := getF X0 hx hZ hown (host := "") (Or.inl (hw _ (List.mem_of_getElem? (i := 21) rfl))) Via.refl e0 P_F_o0_sleepNanos (g := (mkF m 1 #[.val (.ref o0)] [(.ref o0)])) rfl rfl (hb hby own_d7_1)
  have pre2 : ∀ t, Steps p.tables e below (T1.setTop (mkF m 4 #[.val (.ref o0)] [(.long w_sleepNanos_o0)])) t → Steps p.tables e below (s₁.setTop (entryFrame m #[(.ref o0)] 1)) t := fun t k => pre0 t (by
      refine XS.aloadN X0.here hx rfl (hb hby own_d7_0) rfl rfl ?_
      show Steps p.tables e below (s₁.setTop (mkF m 1 #[.val (.ref o0)] [(.ref o0)])) _
      refine st1 _ ?_
      show Steps p.tables e below (T1.setTop (mkF m 4 #[.val (.ref o0)] [(.long w_sleepNanos_o0)])) _
      exact k)
  obtain ⟨fs, hr, hrun, hended, hW, hsame⟩ := X1.leave (v := some (.long w_sleepNanos_o0)) (fun h => by rw [Bd.returns] at h; cases h) (hlocks := hlk)
  refine ⟨_, _, pre2 _ ?_, hrun, hended, _, _, rfl, ?_, ⟨_, rfl⟩, hW, hsame.mono (by decide) (by decide)⟩
  · show Steps p.tables e below (T1.setTop (mkF m 4 #[.val (.ref o0)] [(.long w_sleepNanos_o0)])) _
    exact own_retJ X1 hx Bd.returns (hb hby own_d7_4) hr
  · show own_Q7 Z o0 w_sleepNanos_o0 h0 n0 _ T1.heap _; rw [e1]; exact ⟨rfl, N0, rfl⟩
theorem own_d8_0 : decode prog_6_method_11_code 0 = .ok (.aload_n 0, 1) := by decide +kernel
theorem own_d8_1 : decode prog_6_method_11_code 1 = .ok (.getfield 24, 3) := by decide +kernel
theorem own_d8_4 : decode prog_6_method_11_code 4 = .ok (.lreturn, 1) := by decide +kernel
theorem own_pn8 : plainName "com/example/ufunguo/ufunguo/lock/LockStore$Attempt" = true := by first | (simp [plainName, overriddenIn]; done) | decide +kernel
theorem own_ef8 (m : MethodId) (x0 : Addr) : entryFrame m #[(.ref x0)] 1 = (mkF m 0 #[.val (.ref x0)] []) := by first | (simp [entryFrame, mkF, argsToLocals, Value.category]; done) | rfl
def own_Q8 (Z : State) (o0 : Addr) (w_readMicros_o0 : Int64) (h0 : Heap) (n0 : Nat) (v : Option Value) (h : Heap) (L : List Loc) : Prop := v = some (.long w_readMicros_o0) ∧ Fr n0 L ∧ h = h0
set_option maxRecDepth 65536 in
set_option maxHeartbeats 40000000 in
theorem own_rm8 (l : Launch) (Z : State) (a0 : Array Value) (hw : ∀ d ∈ tables_1, d.before a0 Z = true) (ws : List Jvm.Cond) (o0 : Addr) (w_readMicros_o0 : Int64) (h0 : Heap) (n0 : Nat) (Z0 : n0 ≤ h0.size) (P_F_o0_readMicros : Fld Z h0 o0 "com/example/ufunguo/ufunguo/lock/LockStore$Attempt" "readMicros" "J" (.long w_readMicros_o0)) :
    MetFree l (⟨"com/example/ufunguo/ufunguo/lock/LockStore$Attempt", "readMicros", "()J"⟩ : MethodName) (head1 (Jvm.Cond.code (⟨"com/example/ufunguo/ufunguo/lock/LockStore$Attempt", "readMicros", "()J"⟩ : MethodName) prog_6_method_11_code 1 (some .long) :: ws) ({ frames := 0, cells := 0, slots := 0, locals := 0 } : Room)) (fun a U => a = #[(.ref o0)] ∧ Z.Warmed39 U.vm ∧ U.heap = h0) (fun _ _ _ _ _ => True) (fun _ U o U' => ∃ v L, o = .returned v ∧ own_Q8 Z o0 w_readMicros_o0 h0 n0 v U'.heap L ∧ FrameEnd U o U' L ({ frames := 0, cells := 0, slots := 0, locals := 0 } : Room).cells ({ frames := 0, cells := 0, slots := 0, locals := 0 } : Room).slots) := by
  refine MetFree.of_bodySF (plainFor_of_name own_pn8) hisR ?_
  intro p e s m args below meth c s₁ Bd hml0 hP hK
  obtain ⟨rfl, hZ, hh⟩ := hP
  have hx := Bd.exec
  have hlk : meth.locks = false := BodyLoose.notSynchronized Bd
  have hby := Bd.bytes
  have hml : c.maxLocals = 1 := hml0
  have hown : s.vm.findClass "com/example/ufunguo/ufunguo/lock/LockStore$Attempt" = some m.cls := findClass_of_methodNamed Bd.named
  have hnm := (name_of_methodNamed Bd.named Bd.method).1
  have X0 : Stand p l e ({ frames := 0, cells := 0, slots := 0, locals := 0 } : Room) s m #[(.ref o0)] below meth c s₁ [] 0 0 := Stand.of_body Bd
  have e0 : s₁.heap = h0 := by rw [← hh, Bd.state]; rfl
  have N0 := Fr.nil n0
  have pre0 : ∀ t, Steps p.tables e below (s₁.setTop (mkF m 0 #[.val (.ref o0)] [])) t → Steps p.tables e below (s₁.setTop (entryFrame m #[(.ref o0)] 1)) t := fun t k => castTop (own_ef8 m o0) k
  obtain ⟨T1, X1, e1, st1⟩ := getF X0 hx hZ hown (host := "") (Or.inl (hw _ (List.mem_of_getElem? (i := 25) rfl))) Via.refl e0 P_F_o0_readMicros (g := (mkF m 1 #[.val (.ref o0)] [(.ref o0)])) rfl rfl (hb hby own_d8_1)
  have pre2 : ∀ t, Steps p.tables e below (T1.setTop (mkF m 4 #[.val (.ref o0)] [(.long w_readMicros_o0)])) t → Steps p.tables e below (s₁.setTop (entryFrame m #[(.ref o0)] 1)) t := fun t k => pre0 t (by
      refine XS.aloadN X0.here hx rfl (hb hby own_d8_0) rfl rfl ?_
      show Steps p.tables e below (s₁.setTop (mkF m 1 #[.val (.ref o0)] [(.ref o0)])) _
      refine st1 _ ?_
      show Steps p.tables e below (T1.setTop (mkF m 4 #[.val (.ref o0)] [(.long w_readMicros_o0)])) _
      exact k)
  obtain ⟨fs, hr, hrun, hended, hW, hsame⟩ := X1.leave (v := some (.long w_readMicros_o0)) (fun h => by rw [Bd.returns] at h; cases h) (hlocks := hlk)
  refine ⟨_, _, pre2 _ ?_, hrun, hended, _, _, rfl, ?_, ⟨_, rfl⟩, hW, hsame.mono (by decide) (by decide)⟩
  · show Steps p.tables e below (T1.setTop (mkF m 4 #[.val (.ref o0)] [(.long w_readMicros_o0)])) _
    exact own_retJ X1 hx Bd.returns (hb hby own_d8_4) hr
  · show own_Q8 Z o0 w_readMicros_o0 h0 n0 _ T1.heap _; rw [e1]; exact ⟨rfl, N0, rfl⟩
theorem own_d9_0 : decode prog_6_method_10_code 0 = .ok (.aload_n 0, 1) := by decide +kernel
theorem own_d9_1 : decode prog_6_method_10_code 1 = .ok (.getfield 20, 3) := by decide +kernel
theorem own_d9_4 : decode prog_6_method_10_code 4 = .ok (.areturn, 1) := by decide +kernel
theorem own_pn9 : plainName "com/example/ufunguo/ufunguo/lock/LockStore$Attempt" = true := by first | (simp [plainName, overriddenIn]; done) | decide +kernel
theorem own_ef9 (m : MethodId) (x0 : Addr) : entryFrame m #[(.ref x0)] 1 = (mkF m 0 #[.val (.ref x0)] []) := by first | (simp [entryFrame, mkF, argsToLocals, Value.category]; done) | rfl
def own_Q9 (Z : State) (o0 : Addr) (w_holder_o0 : Addr) (h0 : Heap) (n0 : Nat) (v : Option Value) (h : Heap) (L : List Loc) : Prop := v = some (.ref w_holder_o0) ∧ Fr n0 L ∧ h = h0
set_option maxRecDepth 65536 in
set_option maxHeartbeats 40000000 in
theorem own_rm9 (l : Launch) (Z : State) (a0 : Array Value) (hw : ∀ d ∈ tables_1, d.before a0 Z = true) (ws : List Jvm.Cond) (o0 : Addr) (w_holder_o0 : Addr) (h0 : Heap) (n0 : Nat) (Z0 : n0 ≤ h0.size) (P_F_o0_holder : Fld Z h0 o0 "com/example/ufunguo/ufunguo/lock/LockStore$Attempt" "holder" "[B" (.ref w_holder_o0)) :
    MetFree l (⟨"com/example/ufunguo/ufunguo/lock/LockStore$Attempt", "holder", "()[B"⟩ : MethodName) (head1 (Jvm.Cond.code (⟨"com/example/ufunguo/ufunguo/lock/LockStore$Attempt", "holder", "()[B"⟩ : MethodName) prog_6_method_10_code 1 (some (.array .byte)) :: ws) ({ frames := 0, cells := 0, slots := 0, locals := 0 } : Room)) (fun a U => a = #[(.ref o0)] ∧ Z.Warmed39 U.vm ∧ U.heap = h0) (fun _ _ _ _ _ => True) (fun _ U o U' => ∃ v L, o = .returned v ∧ own_Q9 Z o0 w_holder_o0 h0 n0 v U'.heap L ∧ FrameEnd U o U' L ({ frames := 0, cells := 0, slots := 0, locals := 0 } : Room).cells ({ frames := 0, cells := 0, slots := 0, locals := 0 } : Room).slots) := by
  refine MetFree.of_bodySF (plainFor_of_name own_pn9) hisR ?_
  intro p e s m args below meth c s₁ Bd hml0 hP hK
  obtain ⟨rfl, hZ, hh⟩ := hP
  have hx := Bd.exec
  have hlk : meth.locks = false := BodyLoose.notSynchronized Bd
  have hby := Bd.bytes
  have hml : c.maxLocals = 1 := hml0
  have hown : s.vm.findClass "com/example/ufunguo/ufunguo/lock/LockStore$Attempt" = some m.cls := findClass_of_methodNamed Bd.named
  have hnm := (name_of_methodNamed Bd.named Bd.method).1
  have X0 : Stand p l e ({ frames := 0, cells := 0, slots := 0, locals := 0 } : Room) s m #[(.ref o0)] below meth c s₁ [] 0 0 := Stand.of_body Bd
  have e0 : s₁.heap = h0 := by rw [← hh, Bd.state]; rfl
  have N0 := Fr.nil n0
  have pre0 : ∀ t, Steps p.tables e below (s₁.setTop (mkF m 0 #[.val (.ref o0)] [])) t → Steps p.tables e below (s₁.setTop (entryFrame m #[(.ref o0)] 1)) t := fun t k => castTop (own_ef9 m o0) k
  obtain ⟨T1, X1, e1, st1⟩ := getF X0 hx hZ hown (host := "") (Or.inl (hw _ (List.mem_of_getElem? (i := 23) rfl))) Via.refl e0 P_F_o0_holder (g := (mkF m 1 #[.val (.ref o0)] [(.ref o0)])) rfl rfl (hb hby own_d9_1)
  have pre2 : ∀ t, Steps p.tables e below (T1.setTop (mkF m 4 #[.val (.ref o0)] [(.ref w_holder_o0)])) t → Steps p.tables e below (s₁.setTop (entryFrame m #[(.ref o0)] 1)) t := fun t k => pre0 t (by
      refine XS.aloadN X0.here hx rfl (hb hby own_d9_0) rfl rfl ?_
      show Steps p.tables e below (s₁.setTop (mkF m 1 #[.val (.ref o0)] [(.ref o0)])) _
      refine st1 _ ?_
      show Steps p.tables e below (T1.setTop (mkF m 4 #[.val (.ref o0)] [(.ref w_holder_o0)])) _
      exact k)
  obtain ⟨fs, hr, hrun, hended, hW, hsame⟩ := X1.leave (v := some (.ref w_holder_o0)) (fun h => by rw [Bd.returns] at h; cases h) (hlocks := hlk)
  refine ⟨_, _, pre2 _ ?_, hrun, hended, _, _, rfl, ?_, ⟨_, rfl⟩, hW, hsame.mono (by decide) (by decide)⟩
  · show Steps p.tables e below (T1.setTop (mkF m 4 #[.val (.ref o0)] [(.ref w_holder_o0)])) _
    jvm_step X1.here [X1.here.top, hx, (hb hby own_d9_4), X1.method', Bd.returns, Value.isRef, FieldType.isReference]
    first | (intro acts; rw [hr _ acts rfl rfl rfl]) | rw [hr _ _ rfl rfl rfl]
    exact Steps.refl _
  · show own_Q9 Z o0 w_holder_o0 h0 n0 _ T1.heap _; rw [e1]; exact ⟨rfl, N0, rfl⟩
theorem own_ef9n (m : MethodId) (x0 : Addr) : entryFrame m #[(.ref x0)] 1 = (mkF m 0 #[.val (.ref x0)] []) := by first | (simp [entryFrame, mkF, argsToLocals, Value.category]; done) | rfl
def own_Q9n (Z : State) (o0 : Addr) (h0 : Heap) (n0 : Nat) (v : Option Value) (h : Heap) (L : List Loc) : Prop := v = some .null ∧ Fr n0 L ∧ h = h0
set_option maxRecDepth 65536 in
set_option maxHeartbeats 40000000 in
theorem own_rm9n (l : Launch) (Z : State) (a0 : Array Value) (hw : ∀ d ∈ tables_1, d.before a0 Z = true) (ws : List Jvm.Cond) (o0 : Addr) (h0 : Heap) (n0 : Nat) (Z0 : n0 ≤ h0.size) (P_F_o0_holder : Fld Z h0 o0 "com/example/ufunguo/ufunguo/lock/LockStore$Attempt" "holder" "[B" .null) :
    MetFree l (⟨"com/example/ufunguo/ufunguo/lock/LockStore$Attempt", "holder", "()[B"⟩ : MethodName) (head1 (Jvm.Cond.code (⟨"com/example/ufunguo/ufunguo/lock/LockStore$Attempt", "holder", "()[B"⟩ : MethodName) prog_6_method_10_code 1 (some (.array .byte)) :: ws) ({ frames := 0, cells := 0, slots := 0, locals := 0 } : Room)) (fun a U => a = #[(.ref o0)] ∧ Z.Warmed39 U.vm ∧ U.heap = h0) (fun _ _ _ _ _ => True) (fun _ U o U' => ∃ v L, o = .returned v ∧ own_Q9n Z o0 h0 n0 v U'.heap L ∧ FrameEnd U o U' L ({ frames := 0, cells := 0, slots := 0, locals := 0 } : Room).cells ({ frames := 0, cells := 0, slots := 0, locals := 0 } : Room).slots) := by
  refine MetFree.of_bodySF (plainFor_of_name own_pn9) hisR ?_
  intro p e s m args below meth c s₁ Bd hml0 hP hK
  obtain ⟨rfl, hZ, hh⟩ := hP
  have hx := Bd.exec
  have hlk : meth.locks = false := BodyLoose.notSynchronized Bd
  have hby := Bd.bytes
  have hml : c.maxLocals = 1 := hml0
  have hown : s.vm.findClass "com/example/ufunguo/ufunguo/lock/LockStore$Attempt" = some m.cls := findClass_of_methodNamed Bd.named
  have hnm := (name_of_methodNamed Bd.named Bd.method).1
  have X0 : Stand p l e ({ frames := 0, cells := 0, slots := 0, locals := 0 } : Room) s m #[(.ref o0)] below meth c s₁ [] 0 0 := Stand.of_body Bd
  have e0 : s₁.heap = h0 := by rw [← hh, Bd.state]; rfl
  have N0 := Fr.nil n0
  have pre0 : ∀ t, Steps p.tables e below (s₁.setTop (mkF m 0 #[.val (.ref o0)] [])) t → Steps p.tables e below (s₁.setTop (entryFrame m #[(.ref o0)] 1)) t := fun t k => castTop (own_ef9n m o0) k
  obtain ⟨T1, X1, e1, st1⟩ := getF X0 hx hZ hown (host := "") (Or.inl (hw _ (List.mem_of_getElem? (i := 23) rfl))) Via.refl e0 P_F_o0_holder (g := (mkF m 1 #[.val (.ref o0)] [(.ref o0)])) rfl rfl (hb hby own_d9_1)
  have pre2 : ∀ t, Steps p.tables e below (T1.setTop (mkF m 4 #[.val (.ref o0)] [.null])) t → Steps p.tables e below (s₁.setTop (entryFrame m #[(.ref o0)] 1)) t := fun t k => pre0 t (by
      refine XS.aloadN X0.here hx rfl (hb hby own_d9_0) rfl rfl ?_
      show Steps p.tables e below (s₁.setTop (mkF m 1 #[.val (.ref o0)] [(.ref o0)])) _
      refine st1 _ ?_
      show Steps p.tables e below (T1.setTop (mkF m 4 #[.val (.ref o0)] [.null])) _
      exact k)
  obtain ⟨fs, hr, hrun, hended, hW, hsame⟩ := X1.leave (v := some .null) (fun h => by rw [Bd.returns] at h; cases h) (hlocks := hlk)
  refine ⟨_, _, pre2 _ ?_, hrun, hended, _, _, rfl, ?_, ⟨_, rfl⟩, hW, hsame.mono (by decide) (by decide)⟩
  · show Steps p.tables e below (T1.setTop (mkF m 4 #[.val (.ref o0)] [.null])) _
    jvm_step X1.here [X1.here.top, hx, (hb hby own_d9_4), X1.method', Bd.returns, Value.isRef, FieldType.isReference]
    first | (intro acts; rw [hr _ acts rfl rfl rfl]) | rw [hr _ _ rfl rfl rfl]
    exact Steps.refl _
  · show own_Q9n Z o0 h0 n0 _ T1.heap _; rw [e1]; exact ⟨rfl, N0, rfl⟩
theorem own_pd2 : parseMethodDescriptor "(J[BJ)Lcom/example/ufunguo/ufunguo/lock/LockStore$Attempt;" = some ⟨[.long, (.array .byte), .long], some (.object "com/example/ufunguo/ufunguo/lock/LockStore$Attempt")⟩ := by decide +kernel
theorem own_pd3 : parseMethodDescriptor "()Z" = some ⟨[], some .boolean⟩ := by decide +kernel
theorem own_pd4 : parseMethodDescriptor "()J" = some ⟨[], some .long⟩ := by decide +kernel
theorem own_pd5 : parseMethodDescriptor "()[B" = some ⟨[], some (.array .byte)⟩ := by decide +kernel
theorem own_pn0 : plainName "com/example/ufunguo/ufunguo/lock/AttemptRefusedPinLaw" = true := by first | (simp [plainName, overriddenIn]; done) | decide +kernel
theorem own_ef0 (m : MethodId) (x0 : Int64) (x1 : Int64) (x2 : Int32) (x3 : Int32) : entryFrame m #[(.long x0), (.long x1), (.int x2), (.int x3)] maxLocals = (mkF m 0 #[.val (.long x0), .second, .val (.long x1), .second, .val (.int x2), .val (.int x3), .unset, .unset, .unset, .unset, .unset] []) := by first | (simp [entryFrame, mkF, argsToLocals, Value.category, maxLocals]; done) | rfl
def own_v0_25_0 (p3 : Int32) : Int32 := ((p3 >>> ((8 : Int32) &&& 31)).toInt8.toInt32)
def own_f0 (p2 : Int32) (p3 : Int32) : Int32 := (if (p2 &&& (1 : Int32)) = (0 : Int32) then (if (nar .boolean (nar .boolean (0 : Int32))) = (0 : Int32) then (1 : Int32) else (0 : Int32)) else (if (nar .boolean (nar .boolean (0 : Int32))) = (0 : Int32) then (if (nar .byte (p3.toInt8.toInt32)) = (p3.toInt8.toInt32) then (if (nar .byte (own_v0_25_0 p3)) = (own_v0_25_0 p3) then (1 : Int32) else (0 : Int32)) else (0 : Int32)) else (0 : Int32)))
def own_Q0 (Z : State) (q0 : Int64) (q1 : Int64) (p2 : Int32) (p3 : Int32) (h0 : Heap) (n0 : Nat) (v : Option Value) (h : Heap) (L : List Loc) : Prop := v = some (.int (own_f0 p2 p3)) ∧ Fr n0 L
set_option maxRecDepth 65536 in
set_option maxHeartbeats 40000000 in
theorem own_rm0 (l : Launch) (Z : State) (a0 : Array Value) (hw : ∀ d ∈ tables_1, d.before a0 Z = true) (ws : List Jvm.Cond) (q0 : Int64) (q1 : Int64) (p2 : Int32) (p3 : Int32) (h0 : Heap) (n0 : Nat) (Z0 : n0 ≤ h0.size) :
    MetFree l x (head1 (Jvm.Cond.code x code maxLocals ret :: ws) room_1) (fun a U => a = #[(.long q0), (.long q1), (.int p2), (.int p3)] ∧ Z.Warmed39 U.vm ∧ U.heap = h0) (fun _ _ _ _ _ => True) (fun _ U o U' => ∃ v L, o = .returned v ∧ own_Q0 Z q0 q1 p2 p3 h0 n0 v U'.heap L ∧ FrameEnd U o U' L room_1.cells room_1.slots) := by
  refine MetFree.of_bodySF (plainFor_of_name own_pn0) hisR ?_
  intro p e s m args below meth c s₁ Bd hml0 hP hK
  obtain ⟨rfl, hZ, hh⟩ := hP
  have hx := Bd.exec
  have hlk : meth.locks = false := BodyLoose.notSynchronized Bd
  have hby := Bd.bytes
  have hml : c.maxLocals = 11 := hml0
  have hown : s.vm.findClass "com/example/ufunguo/ufunguo/lock/AttemptRefusedPinLaw" = some m.cls := findClass_of_methodNamed Bd.named
  have hnm := (name_of_methodNamed Bd.named Bd.method).1
  have X0 : Stand p l e room_1 s m #[(.long q0), (.long q1), (.int p2), (.int p3)] below meth c s₁ [] 0 0 := Stand.of_body Bd
  have e0 : s₁.heap = h0 := by rw [← hh, Bd.state]; rfl
  have N0 := Fr.nil n0
  have pre0 : ∀ t, Steps p.tables e below (s₁.setTop (mkF m 0 #[.val (.long q0), .second, .val (.long q1), .second, .val (.int p2), .val (.int p3), .unset, .unset, .unset, .unset, .unset] [])) t → Steps p.tables e below (s₁.setTop (entryFrame m #[(.long q0), (.long q1), (.int p2), (.int p3)] maxLocals)) t := fun t k => castTop (own_ef0 m q0 q1 p2 p3) k
  have pre1 : ∀ t, Steps p.tables e below (s₁.setTop (mkF m 4 #[.val (.long q0), .second, .val (.long q1), .second, .val (.int p2), .val (.int p3), .unset, .unset, .unset, .unset, .unset] [(.int (p2 &&& (1 : Int32)))])) t → Steps p.tables e below (s₁.setTop (entryFrame m #[(.long q0), (.long q1), (.int p2), (.int p3)] maxLocals)) t := fun t k => pre0 t (by
      refine XS.iload X0.here hx rfl (hb hby at_0) rfl ?_
      show Steps p.tables e below (s₁.setTop (mkF m 2 #[.val (.long q0), .second, .val (.long q1), .second, .val (.int p2), .val (.int p3), .unset, .unset, .unset, .unset, .unset] [(.int p2)])) _
      refine XS.iconst X0.here hx rfl (hb hby at_2) ?_
      show Steps p.tables e below (s₁.setTop (mkF m 3 #[.val (.long q0), .second, .val (.long q1), .second, .val (.int p2), .val (.int p3), .unset, .unset, .unset, .unset, .unset] [(.int (1 : Int32)), (.int p2)])) _
      refine XS.iand X0.here hx rfl (hb hby at_3) rfl ?_
      show Steps p.tables e below (s₁.setTop (mkF m 4 #[.val (.long q0), .second, .val (.long q1), .second, .val (.int p2), .val (.int p3), .unset, .unset, .unset, .unset, .unset] [(.int (p2 &&& (1 : Int32)))])) _
      exact k)
  by_cases hc2 : (p2 &&& (1 : Int32)) = (0 : Int32)
  · obtain ⟨_, _, ⟨T3, L3, k3, n3⟩, -, X3, ⟨Lc3, hQ3, l3, y3, z3⟩, st3⟩ := Jvm.LawKit.callS X0 hx (y := (⟨"com/example/ufunguo/ufunguo/lock/LockStore$Attempt", "refused", "(J[BJ)Lcom/example/ufunguo/ufunguo/lock/LockStore$Attempt;"⟩ : MethodName)) hown (mvT hZ (hw _ (List.mem_of_getElem? (i := 0) rfl))) (mvT hZ (hw _ (List.mem_of_getElem? (i := 1) rfl))) (mvT hZ (hw _ (List.mem_of_getElem? (i := 2) rfl))) (mvT hZ (hw _ (List.mem_of_getElem? (i := 3) rfl))) (by decide) (backOf (W := 0) (own_rm1n l Z a0 hw [] q0 q1 h0 n0 Z0 ) hZ (hw _ (List.mem_of_getElem? (i := 3) rfl)) (hw _ (List.mem_of_getElem? (i := 2) rfl)) (by decide) (by decide)) (g := (mkF m 54 #[.val (.long q0), .second, .val (.long q1), .second, .val (.int p2), .val (.int p3), .val (.int (0 : Int32)), .val (.int (p3.toInt8.toInt32)), .val (.int (own_v0_25_0 p3)), .val .null, .unset] [(.long q1), .null, (.long q0)])) rfl (by rw [hml]; rfl) (argsL := [(.long q0), .null, (.long q1)]) (rest := []) (lenOf own_pd2 rfl) rfl (by show 2 * 0 + _ ≤ _; exact Nat.le_of_eq rfl) (hb hby at_54) (fun _ _ => ⟨rfl, e0, (by decide : 0 + 1 ≤ _), (by decide : 0 + 5 ≤ _)⟩)
    dsimp only [Pt.U, Pt.locs, Pt.cells, Pt.slots] at X3 l3 y3 z3 st3 hQ3
    subst l3 y3 z3
    obtain ⟨b1_3, rfl, N3q, K3, sqb1_3_3, f4, f5, f6, f7, f8, f9⟩ := hQ3
    have g_b1_3 : n0 ≤ b1_3 := Nat.le_trans Z0 sqb1_3_3
    have sz_b1_3 : h0.size ≤ b1_3 := Nat.le_trans (Nat.le_refl _) sqb1_3_3
    have zs10 : n0 ≤ T3.heap.size := Nat.le_trans Z0 K3.1
    have K11 : Keep h0 h0 [] := Keep.refl h0 []
    have K12 : Keep h0 T3.heap [] := K11.trans K3 all0
    have N13 := Fr.app N0 N3q
    obtain ⟨cq14, kq14, q14a, q14b, q14c⟩ := isOf hZ rfl f4
    obtain ⟨_, _, ⟨T14, L14, k14, n14⟩, -, X14, ⟨Lc14, hQ14, l14, y14, z14⟩, st14⟩ := X3.virtualBack hx (y := (⟨"com/example/ufunguo/ufunguo/lock/LockStore$Attempt", "taken", "()Z"⟩ : MethodName)) (z := (⟨"com/example/ufunguo/ufunguo/lock/LockStore$Attempt", "taken", "()Z"⟩ : MethodName)) hown (mvT hZ (hw _ (List.mem_of_getElem? (i := 27) rfl))) (mvT hZ (hw _ (List.mem_of_getElem? (i := 28) rfl))) (notFace_of_selects (args := #[]) (mvT hZ (hw _ (List.mem_of_getElem? (i := 30) rfl)))) (mvT hZ (hw _ (List.mem_of_getElem? (i := 30) rfl))) (mvT hZ (hw _ (List.mem_of_getElem? (i := 29) rfl))) (by decide) (backOf (W := 0) (own_rm5 l Z a0 hw [] b1_3 (nar .boolean (0 : Int32)) T3.heap n0 zs10 f5) hZ (hw _ (List.mem_of_getElem? (i := 31) rfl)) (hw _ (List.mem_of_getElem? (i := 2) rfl)) (by decide) (by decide)) q14a q14c (g := (mkF m 61 #[.val (.long q0), .second, .val (.long q1), .second, .val (.int p2), .val (.int p3), .val (.int (0 : Int32)), .val (.int (p3.toInt8.toInt32)), .val (.int (own_v0_25_0 p3)), .val .null, .val (.ref b1_3)] [(.ref b1_3)])) rfl (by rw [hml]; rfl) (Steps.refl _) (argsL := []) (rest := []) (lenOf own_pd3 rfl) rfl (by show 2 * 0 + _ ≤ _; exact Nat.le_of_eq rfl) (hb hby at_61) (fun _ _ => ⟨rfl, rfl, (by decide : 1 + 0 ≤ _), (by decide : 5 + 0 ≤ _)⟩)
    dsimp only [Pt.U, Pt.locs, Pt.cells, Pt.slots] at X14 l14 y14 z14 st14 hQ14
    subst l14 y14 z14
    obtain ⟨rfl, N14q, e14⟩ := hQ14
    have N15 := Fr.app N13 N14q
    have pre16 : ∀ t, Steps p.tables e below (T14.setTop (mkF m 64 #[.val (.long q0), .second, .val (.long q1), .second, .val (.int p2), .val (.int p3), .val (.int (0 : Int32)), .val (.int (p3.toInt8.toInt32)), .val (.int (own_v0_25_0 p3)), .val .null, .val (.ref b1_3)] [(.int (nar .boolean (nar .boolean (0 : Int32))))])) t → Steps p.tables e below (s₁.setTop (entryFrame m #[(.long q0), (.long q1), (.int p2), (.int p3)] maxLocals)) t := fun t k => pre1 t (by
        refine XS.ifYes X0.here hx rfl (pc0 := 4) (pc' := 11) rfl (hb hby at_4) rfl ((if0 _ _).trans (teq hc2).1) (by decide) (by decide) ?_
        show Steps p.tables e below (s₁.setTop (mkF m 11 #[.val (.long q0), .second, .val (.long q1), .second, .val (.int p2), .val (.int p3), .unset, .unset, .unset, .unset, .unset] [])) _
        refine XS.iconst X0.here hx rfl (hb hby at_11) ?_
        show Steps p.tables e below (s₁.setTop (mkF m 12 #[.val (.long q0), .second, .val (.long q1), .second, .val (.int p2), .val (.int p3), .unset, .unset, .unset, .unset, .unset] [(.int (0 : Int32))])) _
        refine XS.istore X0.here hx rfl (hb hby at_12) rfl (l' := #[.val (.long q0), .second, .val (.long q1), .second, .val (.int p2), .val (.int p3), .val (.int (0 : Int32)), .unset, .unset, .unset, .unset]) rfl ?_
        show Steps p.tables e below (s₁.setTop (mkF m 14 #[.val (.long q0), .second, .val (.long q1), .second, .val (.int p2), .val (.int p3), .val (.int (0 : Int32)), .unset, .unset, .unset, .unset] [])) _
        refine XS.iload X0.here hx rfl (hb hby at_14) rfl ?_
        show Steps p.tables e below (s₁.setTop (mkF m 16 #[.val (.long q0), .second, .val (.long q1), .second, .val (.int p2), .val (.int p3), .val (.int (0 : Int32)), .unset, .unset, .unset, .unset] [(.int p3)])) _
        refine XS.i2b X0.here hx rfl (hb hby at_16) rfl ?_
        show Steps p.tables e below (s₁.setTop (mkF m 17 #[.val (.long q0), .second, .val (.long q1), .second, .val (.int p2), .val (.int p3), .val (.int (0 : Int32)), .unset, .unset, .unset, .unset] [(.int (p3.toInt8.toInt32))])) _
        refine XS.istore X0.here hx rfl (hb hby at_17) rfl (l' := #[.val (.long q0), .second, .val (.long q1), .second, .val (.int p2), .val (.int p3), .val (.int (0 : Int32)), .val (.int (p3.toInt8.toInt32)), .unset, .unset, .unset]) rfl ?_
        show Steps p.tables e below (s₁.setTop (mkF m 19 #[.val (.long q0), .second, .val (.long q1), .second, .val (.int p2), .val (.int p3), .val (.int (0 : Int32)), .val (.int (p3.toInt8.toInt32)), .unset, .unset, .unset] [])) _
        refine XS.iload X0.here hx rfl (hb hby at_19) rfl ?_
        show Steps p.tables e below (s₁.setTop (mkF m 21 #[.val (.long q0), .second, .val (.long q1), .second, .val (.int p2), .val (.int p3), .val (.int (0 : Int32)), .val (.int (p3.toInt8.toInt32)), .unset, .unset, .unset] [(.int p3)])) _
        refine XS.bipush X0.here hx rfl (hb hby at_21) ?_
        show Steps p.tables e below (s₁.setTop (mkF m 23 #[.val (.long q0), .second, .val (.long q1), .second, .val (.int p2), .val (.int p3), .val (.int (0 : Int32)), .val (.int (p3.toInt8.toInt32)), .unset, .unset, .unset] [(.int (8 : Int32)), (.int p3)])) _
        refine XS.ishr X0.here hx rfl (hb hby at_23) rfl ?_
        show Steps p.tables e below (s₁.setTop (mkF m 24 #[.val (.long q0), .second, .val (.long q1), .second, .val (.int p2), .val (.int p3), .val (.int (0 : Int32)), .val (.int (p3.toInt8.toInt32)), .unset, .unset, .unset] [(.int (p3 >>> ((8 : Int32) &&& 31)))])) _
        refine XS.i2b X0.here hx rfl (hb hby at_24) rfl ?_
        show Steps p.tables e below (s₁.setTop (mkF m 25 #[.val (.long q0), .second, .val (.long q1), .second, .val (.int p2), .val (.int p3), .val (.int (0 : Int32)), .val (.int (p3.toInt8.toInt32)), .unset, .unset, .unset] [(.int ((p3 >>> ((8 : Int32) &&& 31)).toInt8.toInt32))])) _
        refine XS.istore X0.here hx rfl (hb hby at_25) rfl (l' := #[.val (.long q0), .second, .val (.long q1), .second, .val (.int p2), .val (.int p3), .val (.int (0 : Int32)), .val (.int (p3.toInt8.toInt32)), .val (.int (own_v0_25_0 p3)), .unset, .unset]) rfl ?_
        show Steps p.tables e below (s₁.setTop (mkF m 27 #[.val (.long q0), .second, .val (.long q1), .second, .val (.int p2), .val (.int p3), .val (.int (0 : Int32)), .val (.int (p3.toInt8.toInt32)), .val (.int (own_v0_25_0 p3)), .unset, .unset] [])) _
        refine XS.aconstNull X0.here hx rfl (hb hby at_27) ?_
        show Steps p.tables e below (s₁.setTop (mkF m 28 #[.val (.long q0), .second, .val (.long q1), .second, .val (.int p2), .val (.int p3), .val (.int (0 : Int32)), .val (.int (p3.toInt8.toInt32)), .val (.int (own_v0_25_0 p3)), .unset, .unset] [.null])) _
        refine XS.astore X0.here hx rfl (hb hby at_28) rfl rfl (l' := #[.val (.long q0), .second, .val (.long q1), .second, .val (.int p2), .val (.int p3), .val (.int (0 : Int32)), .val (.int (p3.toInt8.toInt32)), .val (.int (own_v0_25_0 p3)), .val .null, .unset]) rfl ?_
        show Steps p.tables e below (s₁.setTop (mkF m 30 #[.val (.long q0), .second, .val (.long q1), .second, .val (.int p2), .val (.int p3), .val (.int (0 : Int32)), .val (.int (p3.toInt8.toInt32)), .val (.int (own_v0_25_0 p3)), .val .null, .unset] [])) _
        refine XS.iload X0.here hx rfl (hb hby at_30) rfl ?_
        show Steps p.tables e below (s₁.setTop (mkF m 32 #[.val (.long q0), .second, .val (.long q1), .second, .val (.int p2), .val (.int p3), .val (.int (0 : Int32)), .val (.int (p3.toInt8.toInt32)), .val (.int (own_v0_25_0 p3)), .val .null, .unset] [(.int (0 : Int32))])) _
        refine XS.ifYes X0.here hx rfl (pc0 := 32) (pc' := 50) rfl (hb hby at_32) rfl ((if0 _ _).trans (teq (by decide : (0 : Int32) = (0 : Int32))).1) (by decide) (by decide) ?_
        show Steps p.tables e below (s₁.setTop (mkF m 50 #[.val (.long q0), .second, .val (.long q1), .second, .val (.int p2), .val (.int p3), .val (.int (0 : Int32)), .val (.int (p3.toInt8.toInt32)), .val (.int (own_v0_25_0 p3)), .val .null, .unset] [])) _
        refine XS.lloadN X0.here hx rfl (hb hby at_50) rfl ?_
        show Steps p.tables e below (s₁.setTop (mkF m 51 #[.val (.long q0), .second, .val (.long q1), .second, .val (.int p2), .val (.int p3), .val (.int (0 : Int32)), .val (.int (p3.toInt8.toInt32)), .val (.int (own_v0_25_0 p3)), .val .null, .unset] [(.long q0)])) _
        refine XS.aload X0.here hx rfl (hb hby at_51) rfl rfl ?_
        show Steps p.tables e below (s₁.setTop (mkF m 53 #[.val (.long q0), .second, .val (.long q1), .second, .val (.int p2), .val (.int p3), .val (.int (0 : Int32)), .val (.int (p3.toInt8.toInt32)), .val (.int (own_v0_25_0 p3)), .val .null, .unset] [.null, (.long q0)])) _
        refine XS.lloadN X0.here hx rfl (hb hby at_53) rfl ?_
        show Steps p.tables e below (s₁.setTop (mkF m 54 #[.val (.long q0), .second, .val (.long q1), .second, .val (.int p2), .val (.int p3), .val (.int (0 : Int32)), .val (.int (p3.toInt8.toInt32)), .val (.int (own_v0_25_0 p3)), .val .null, .unset] [(.long q1), .null, (.long q0)])) _
        refine st3 _ ?_
        show Steps p.tables e below (T3.setTop (mkF m 57 #[.val (.long q0), .second, .val (.long q1), .second, .val (.int p2), .val (.int p3), .val (.int (0 : Int32)), .val (.int (p3.toInt8.toInt32)), .val (.int (own_v0_25_0 p3)), .val .null, .unset] [(.ref b1_3)])) _
        refine XS.astore X3.here hx rfl (hb hby at_57) rfl rfl (l' := #[.val (.long q0), .second, .val (.long q1), .second, .val (.int p2), .val (.int p3), .val (.int (0 : Int32)), .val (.int (p3.toInt8.toInt32)), .val (.int (own_v0_25_0 p3)), .val .null, .val (.ref b1_3)]) rfl ?_
        show Steps p.tables e below (T3.setTop (mkF m 59 #[.val (.long q0), .second, .val (.long q1), .second, .val (.int p2), .val (.int p3), .val (.int (0 : Int32)), .val (.int (p3.toInt8.toInt32)), .val (.int (own_v0_25_0 p3)), .val .null, .val (.ref b1_3)] [])) _
        refine XS.aload X3.here hx rfl (hb hby at_59) rfl rfl ?_
        show Steps p.tables e below (T3.setTop (mkF m 61 #[.val (.long q0), .second, .val (.long q1), .second, .val (.int p2), .val (.int p3), .val (.int (0 : Int32)), .val (.int (p3.toInt8.toInt32)), .val (.int (own_v0_25_0 p3)), .val .null, .val (.ref b1_3)] [(.ref b1_3)])) _
        refine st14.trans ?_
        show Steps p.tables e below (T14.setTop (mkF m 64 #[.val (.long q0), .second, .val (.long q1), .second, .val (.int p2), .val (.int p3), .val (.int (0 : Int32)), .val (.int (p3.toInt8.toInt32)), .val (.int (own_v0_25_0 p3)), .val .null, .val (.ref b1_3)] [(.int (nar .boolean (nar .boolean (0 : Int32))))])) _
        exact k)
    by_cases hc17 : (nar .boolean (nar .boolean (0 : Int32))) = (0 : Int32)
    · obtain ⟨cq18, kq18, q18a, q18b, q18c⟩ := isOf hZ e14 f4
      obtain ⟨_, _, ⟨T18, L18, k18, n18⟩, -, X18, ⟨Lc18, hQ18, l18, y18, z18⟩, st18⟩ := X14.virtualBack hx (y := (⟨"com/example/ufunguo/ufunguo/lock/LockStore$Attempt", "token", "()J"⟩ : MethodName)) (z := (⟨"com/example/ufunguo/ufunguo/lock/LockStore$Attempt", "token", "()J"⟩ : MethodName)) hown (mvT hZ (hw _ (List.mem_of_getElem? (i := 32) rfl))) (mvT hZ (hw _ (List.mem_of_getElem? (i := 33) rfl))) (notFace_of_selects (args := #[]) (mvT hZ (hw _ (List.mem_of_getElem? (i := 35) rfl)))) (mvT hZ (hw _ (List.mem_of_getElem? (i := 35) rfl))) (mvT hZ (hw _ (List.mem_of_getElem? (i := 34) rfl))) (by decide) (backOf (W := 0) (own_rm6 l Z a0 hw [] b1_3 (0 : Int64) T3.heap n0 zs10 f6) hZ (hw _ (List.mem_of_getElem? (i := 36) rfl)) (hw _ (List.mem_of_getElem? (i := 2) rfl)) (by decide) (by decide)) q18a q18c (g := (mkF m 71 #[.val (.long q0), .second, .val (.long q1), .second, .val (.int p2), .val (.int p3), .val (.int (0 : Int32)), .val (.int (p3.toInt8.toInt32)), .val (.int (own_v0_25_0 p3)), .val .null, .val (.ref b1_3)] [(.ref b1_3)])) rfl (by rw [hml]; rfl) (Steps.refl _) (argsL := []) (rest := []) (lenOf own_pd4 rfl) rfl (by show 2 * 0 + _ ≤ _; exact Nat.le_of_eq rfl) (hb hby at_71) (fun _ _ => ⟨rfl, e14, (by decide : 1 + 0 ≤ _), (by decide : 5 + 0 ≤ _)⟩)
      dsimp only [Pt.U, Pt.locs, Pt.cells, Pt.slots] at X18 l18 y18 z18 st18 hQ18
      subst l18 y18 z18
      obtain ⟨rfl, N18q, e18⟩ := hQ18
      have N19 := Fr.app N15 N18q
      obtain ⟨cq20, kq20, q20a, q20b, q20c⟩ := isOf hZ e18 f4
      obtain ⟨_, _, ⟨T20, L20, k20, n20⟩, -, X20, ⟨Lc20, hQ20, l20, y20, z20⟩, st20⟩ := X18.virtualBack hx (y := (⟨"com/example/ufunguo/ufunguo/lock/LockStore$Attempt", "sleepNanos", "()J"⟩ : MethodName)) (z := (⟨"com/example/ufunguo/ufunguo/lock/LockStore$Attempt", "sleepNanos", "()J"⟩ : MethodName)) hown (mvT hZ (hw _ (List.mem_of_getElem? (i := 37) rfl))) (mvT hZ (hw _ (List.mem_of_getElem? (i := 38) rfl))) (notFace_of_selects (args := #[]) (mvT hZ (hw _ (List.mem_of_getElem? (i := 40) rfl)))) (mvT hZ (hw _ (List.mem_of_getElem? (i := 40) rfl))) (mvT hZ (hw _ (List.mem_of_getElem? (i := 39) rfl))) (by decide) (backOf (W := 0) (own_rm7 l Z a0 hw [] b1_3 q0 T3.heap n0 zs10 f7) hZ (hw _ (List.mem_of_getElem? (i := 41) rfl)) (hw _ (List.mem_of_getElem? (i := 2) rfl)) (by decide) (by decide)) q20a q20c (g := (mkF m 83 #[.val (.long q0), .second, .val (.long q1), .second, .val (.int p2), .val (.int p3), .val (.int (0 : Int32)), .val (.int (p3.toInt8.toInt32)), .val (.int (own_v0_25_0 p3)), .val .null, .val (.ref b1_3)] [(.ref b1_3)])) rfl (by rw [hml]; rfl) (Steps.refl _) (argsL := []) (rest := []) (lenOf own_pd4 rfl) rfl (by show 2 * 0 + _ ≤ _; exact Nat.le_of_eq rfl) (hb hby at_83) (fun _ _ => ⟨rfl, e18, (by decide : 1 + 0 ≤ _), (by decide : 5 + 0 ≤ _)⟩)
      dsimp only [Pt.U, Pt.locs, Pt.cells, Pt.slots] at X20 l20 y20 z20 st20 hQ20
      subst l20 y20 z20
      obtain ⟨rfl, N20q, e20⟩ := hQ20
      have N21 := Fr.app N19 N20q
      obtain ⟨cq22, kq22, q22a, q22b, q22c⟩ := isOf hZ e20 f4
      obtain ⟨_, _, ⟨T22, L22, k22, n22⟩, -, X22, ⟨Lc22, hQ22, l22, y22, z22⟩, st22⟩ := X20.virtualBack hx (y := (⟨"com/example/ufunguo/ufunguo/lock/LockStore$Attempt", "readMicros", "()J"⟩ : MethodName)) (z := (⟨"com/example/ufunguo/ufunguo/lock/LockStore$Attempt", "readMicros", "()J"⟩ : MethodName)) hown (mvT hZ (hw _ (List.mem_of_getElem? (i := 42) rfl))) (mvT hZ (hw _ (List.mem_of_getElem? (i := 43) rfl))) (notFace_of_selects (args := #[]) (mvT hZ (hw _ (List.mem_of_getElem? (i := 45) rfl)))) (mvT hZ (hw _ (List.mem_of_getElem? (i := 45) rfl))) (mvT hZ (hw _ (List.mem_of_getElem? (i := 44) rfl))) (by decide) (backOf (W := 0) (own_rm8 l Z a0 hw [] b1_3 q1 T3.heap n0 zs10 f9) hZ (hw _ (List.mem_of_getElem? (i := 46) rfl)) (hw _ (List.mem_of_getElem? (i := 2) rfl)) (by decide) (by decide)) q22a q22c (g := (mkF m 95 #[.val (.long q0), .second, .val (.long q1), .second, .val (.int p2), .val (.int p3), .val (.int (0 : Int32)), .val (.int (p3.toInt8.toInt32)), .val (.int (own_v0_25_0 p3)), .val .null, .val (.ref b1_3)] [(.ref b1_3)])) rfl (by rw [hml]; rfl) (Steps.refl _) (argsL := []) (rest := []) (lenOf own_pd4 rfl) rfl (by show 2 * 0 + _ ≤ _; exact Nat.le_of_eq rfl) (hb hby at_95) (fun _ _ => ⟨rfl, e20, (by decide : 1 + 0 ≤ _), (by decide : 5 + 0 ≤ _)⟩)
      dsimp only [Pt.U, Pt.locs, Pt.cells, Pt.slots] at X22 l22 y22 z22 st22 hQ22
      subst l22 y22 z22
      obtain ⟨rfl, N22q, e22⟩ := hQ22
      have N23 := Fr.app N21 N22q
      obtain ⟨cq24, kq24, q24a, q24b, q24c⟩ := isOf hZ e22 f4
      obtain ⟨_, _, ⟨T24, L24, k24, n24⟩, -, X24, ⟨Lc24, hQ24, l24, y24, z24⟩, st24⟩ := X22.virtualBack hx (y := (⟨"com/example/ufunguo/ufunguo/lock/LockStore$Attempt", "holder", "()[B"⟩ : MethodName)) (z := (⟨"com/example/ufunguo/ufunguo/lock/LockStore$Attempt", "holder", "()[B"⟩ : MethodName)) hown (mvT hZ (hw _ (List.mem_of_getElem? (i := 47) rfl))) (mvT hZ (hw _ (List.mem_of_getElem? (i := 48) rfl))) (notFace_of_selects (args := #[]) (mvT hZ (hw _ (List.mem_of_getElem? (i := 50) rfl)))) (mvT hZ (hw _ (List.mem_of_getElem? (i := 50) rfl))) (mvT hZ (hw _ (List.mem_of_getElem? (i := 49) rfl))) (by decide) (backOf (W := 0) (own_rm9n l Z a0 hw [] b1_3 T3.heap n0 zs10 f8) hZ (hw _ (List.mem_of_getElem? (i := 51) rfl)) (hw _ (List.mem_of_getElem? (i := 2) rfl)) (by decide) (by decide)) q24a q24c (g := (mkF m 107 #[.val (.long q0), .second, .val (.long q1), .second, .val (.int p2), .val (.int p3), .val (.int (0 : Int32)), .val (.int (p3.toInt8.toInt32)), .val (.int (own_v0_25_0 p3)), .val .null, .val (.ref b1_3)] [(.ref b1_3)])) rfl (by rw [hml]; rfl) (Steps.refl _) (argsL := []) (rest := []) (lenOf own_pd5 rfl) rfl (by show 2 * 0 + _ ≤ _; exact Nat.le_of_eq rfl) (hb hby at_107) (fun _ _ => ⟨rfl, e22, (by decide : 1 + 0 ≤ _), (by decide : 5 + 0 ≤ _)⟩)
      dsimp only [Pt.U, Pt.locs, Pt.cells, Pt.slots] at X24 l24 y24 z24 st24 hQ24
      subst l24 y24 z24
      obtain ⟨rfl, N24q, e24⟩ := hQ24
      have N25 := Fr.app N23 N24q
      have pre26 : ∀ t, Steps p.tables e below (T24.setTop (mkF m 143 #[.val (.long q0), .second, .val (.long q1), .second, .val (.int p2), .val (.int p3), .val (.int (0 : Int32)), .val (.int (p3.toInt8.toInt32)), .val (.int (own_v0_25_0 p3)), .val .null, .val (.ref b1_3)] [(.int (1 : Int32))])) t → Steps p.tables e below (s₁.setTop (entryFrame m #[(.long q0), (.long q1), (.int p2), (.int p3)] maxLocals)) t := fun t k => pre16 t (by
          refine XS.ifYes X14.here hx rfl (pc0 := 64) (pc' := 69) rfl (hb hby at_64) rfl ((if0 _ _).trans (teq hc17).1) (by decide) (by decide) ?_
          show Steps p.tables e below (T14.setTop (mkF m 69 #[.val (.long q0), .second, .val (.long q1), .second, .val (.int p2), .val (.int p3), .val (.int (0 : Int32)), .val (.int (p3.toInt8.toInt32)), .val (.int (own_v0_25_0 p3)), .val .null, .val (.ref b1_3)] [])) _
          refine XS.aload X14.here hx rfl (hb hby at_69) rfl rfl ?_
          show Steps p.tables e below (T14.setTop (mkF m 71 #[.val (.long q0), .second, .val (.long q1), .second, .val (.int p2), .val (.int p3), .val (.int (0 : Int32)), .val (.int (p3.toInt8.toInt32)), .val (.int (own_v0_25_0 p3)), .val .null, .val (.ref b1_3)] [(.ref b1_3)])) _
          refine st18.trans ?_
          show Steps p.tables e below (T18.setTop (mkF m 74 #[.val (.long q0), .second, .val (.long q1), .second, .val (.int p2), .val (.int p3), .val (.int (0 : Int32)), .val (.int (p3.toInt8.toInt32)), .val (.int (own_v0_25_0 p3)), .val .null, .val (.ref b1_3)] [(.long (0 : Int64))])) _
          refine XS.lconst X18.here hx rfl (hb hby at_74) ?_
          show Steps p.tables e below (T18.setTop (mkF m 75 #[.val (.long q0), .second, .val (.long q1), .second, .val (.int p2), .val (.int p3), .val (.int (0 : Int32)), .val (.int (p3.toInt8.toInt32)), .val (.int (own_v0_25_0 p3)), .val .null, .val (.ref b1_3)] [(.long (0 : Int64)), (.long (0 : Int64))])) _
          refine XS.lcmp X18.here hx rfl (hb hby at_75) rfl ?_
          show Steps p.tables e below (T18.setTop (mkF m 76 #[.val (.long q0), .second, .val (.long q1), .second, .val (.int p2), .val (.int p3), .val (.int (0 : Int32)), .val (.int (p3.toInt8.toInt32)), .val (.int (own_v0_25_0 p3)), .val .null, .val (.ref b1_3)] [(.int (lcmpW (0 : Int64) (0 : Int64)))])) _
          refine XS.ifYes X18.here hx rfl (pc0 := 76) (pc' := 81) rfl (hb hby at_76) rfl ((if0 _ _).trans (teq ((own_lw_eq _ _).mpr (by decide : (0 : Int64) = (0 : Int64)))).1) (by decide) (by decide) ?_
          show Steps p.tables e below (T18.setTop (mkF m 81 #[.val (.long q0), .second, .val (.long q1), .second, .val (.int p2), .val (.int p3), .val (.int (0 : Int32)), .val (.int (p3.toInt8.toInt32)), .val (.int (own_v0_25_0 p3)), .val .null, .val (.ref b1_3)] [])) _
          refine XS.aload X18.here hx rfl (hb hby at_81) rfl rfl ?_
          show Steps p.tables e below (T18.setTop (mkF m 83 #[.val (.long q0), .second, .val (.long q1), .second, .val (.int p2), .val (.int p3), .val (.int (0 : Int32)), .val (.int (p3.toInt8.toInt32)), .val (.int (own_v0_25_0 p3)), .val .null, .val (.ref b1_3)] [(.ref b1_3)])) _
          refine st20.trans ?_
          show Steps p.tables e below (T20.setTop (mkF m 86 #[.val (.long q0), .second, .val (.long q1), .second, .val (.int p2), .val (.int p3), .val (.int (0 : Int32)), .val (.int (p3.toInt8.toInt32)), .val (.int (own_v0_25_0 p3)), .val .null, .val (.ref b1_3)] [(.long q0)])) _
          refine XS.lloadN X20.here hx rfl (hb hby at_86) rfl ?_
          show Steps p.tables e below (T20.setTop (mkF m 87 #[.val (.long q0), .second, .val (.long q1), .second, .val (.int p2), .val (.int p3), .val (.int (0 : Int32)), .val (.int (p3.toInt8.toInt32)), .val (.int (own_v0_25_0 p3)), .val .null, .val (.ref b1_3)] [(.long q0), (.long q0)])) _
          refine XS.lcmp X20.here hx rfl (hb hby at_87) rfl ?_
          show Steps p.tables e below (T20.setTop (mkF m 88 #[.val (.long q0), .second, .val (.long q1), .second, .val (.int p2), .val (.int p3), .val (.int (0 : Int32)), .val (.int (p3.toInt8.toInt32)), .val (.int (own_v0_25_0 p3)), .val .null, .val (.ref b1_3)] [(.int (lcmpW q0 q0))])) _
          refine XS.ifYes X20.here hx rfl (pc0 := 88) (pc' := 93) rfl (hb hby at_88) rfl ((if0 _ _).trans (teq ((own_lw_eq _ _).mpr (rfl : q0 = q0))).1) (by decide) (by decide) ?_
          show Steps p.tables e below (T20.setTop (mkF m 93 #[.val (.long q0), .second, .val (.long q1), .second, .val (.int p2), .val (.int p3), .val (.int (0 : Int32)), .val (.int (p3.toInt8.toInt32)), .val (.int (own_v0_25_0 p3)), .val .null, .val (.ref b1_3)] [])) _
          refine XS.aload X20.here hx rfl (hb hby at_93) rfl rfl ?_
          show Steps p.tables e below (T20.setTop (mkF m 95 #[.val (.long q0), .second, .val (.long q1), .second, .val (.int p2), .val (.int p3), .val (.int (0 : Int32)), .val (.int (p3.toInt8.toInt32)), .val (.int (own_v0_25_0 p3)), .val .null, .val (.ref b1_3)] [(.ref b1_3)])) _
          refine st22.trans ?_
          show Steps p.tables e below (T22.setTop (mkF m 98 #[.val (.long q0), .second, .val (.long q1), .second, .val (.int p2), .val (.int p3), .val (.int (0 : Int32)), .val (.int (p3.toInt8.toInt32)), .val (.int (own_v0_25_0 p3)), .val .null, .val (.ref b1_3)] [(.long q1)])) _
          refine XS.lloadN X22.here hx rfl (hb hby at_98) rfl ?_
          show Steps p.tables e below (T22.setTop (mkF m 99 #[.val (.long q0), .second, .val (.long q1), .second, .val (.int p2), .val (.int p3), .val (.int (0 : Int32)), .val (.int (p3.toInt8.toInt32)), .val (.int (own_v0_25_0 p3)), .val .null, .val (.ref b1_3)] [(.long q1), (.long q1)])) _
          refine XS.lcmp X22.here hx rfl (hb hby at_99) rfl ?_
          show Steps p.tables e below (T22.setTop (mkF m 100 #[.val (.long q0), .second, .val (.long q1), .second, .val (.int p2), .val (.int p3), .val (.int (0 : Int32)), .val (.int (p3.toInt8.toInt32)), .val (.int (own_v0_25_0 p3)), .val .null, .val (.ref b1_3)] [(.int (lcmpW q1 q1))])) _
          refine XS.ifYes X22.here hx rfl (pc0 := 100) (pc' := 105) rfl (hb hby at_100) rfl ((if0 _ _).trans (teq ((own_lw_eq _ _).mpr (rfl : q1 = q1))).1) (by decide) (by decide) ?_
          show Steps p.tables e below (T22.setTop (mkF m 105 #[.val (.long q0), .second, .val (.long q1), .second, .val (.int p2), .val (.int p3), .val (.int (0 : Int32)), .val (.int (p3.toInt8.toInt32)), .val (.int (own_v0_25_0 p3)), .val .null, .val (.ref b1_3)] [])) _
          refine XS.aload X22.here hx rfl (hb hby at_105) rfl rfl ?_
          show Steps p.tables e below (T22.setTop (mkF m 107 #[.val (.long q0), .second, .val (.long q1), .second, .val (.int p2), .val (.int p3), .val (.int (0 : Int32)), .val (.int (p3.toInt8.toInt32)), .val (.int (own_v0_25_0 p3)), .val .null, .val (.ref b1_3)] [(.ref b1_3)])) _
          refine st24.trans ?_
          show Steps p.tables e below (T24.setTop (mkF m 110 #[.val (.long q0), .second, .val (.long q1), .second, .val (.int p2), .val (.int p3), .val (.int (0 : Int32)), .val (.int (p3.toInt8.toInt32)), .val (.int (own_v0_25_0 p3)), .val .null, .val (.ref b1_3)] [.null])) _
          refine XS.aload X24.here hx rfl (hb hby at_110) rfl rfl ?_
          show Steps p.tables e below (T24.setTop (mkF m 112 #[.val (.long q0), .second, .val (.long q1), .second, .val (.int p2), .val (.int p3), .val (.int (0 : Int32)), .val (.int (p3.toInt8.toInt32)), .val (.int (own_v0_25_0 p3)), .val .null, .val (.ref b1_3)] [.null, .null])) _
          refine Jvm.RoadKit.acmp (g := (mkF m 112 #[.val (.long q0), .second, .val (.long q1), .second, .val (.int p2), .val (.int p3), .val (.int (0 : Int32)), .val (.int (p3.toInt8.toInt32)), .val (.int (own_v0_25_0 p3)), .val .null, .val (.ref b1_3)] [.null, .null])) X24 hx rfl rfl rfl (pc0 := 112) (pc' := 117) (same := true) rfl (hb hby at_112) rfl (decide_eq_true rfl) (by decide) (by decide) ?_
          show Steps p.tables e below (T24.setTop (mkF m 117 #[.val (.long q0), .second, .val (.long q1), .second, .val (.int p2), .val (.int p3), .val (.int (0 : Int32)), .val (.int (p3.toInt8.toInt32)), .val (.int (own_v0_25_0 p3)), .val .null, .val (.ref b1_3)] [])) _
          refine XS.iload X24.here hx rfl (hb hby at_117) rfl ?_
          show Steps p.tables e below (T24.setTop (mkF m 119 #[.val (.long q0), .second, .val (.long q1), .second, .val (.int p2), .val (.int p3), .val (.int (0 : Int32)), .val (.int (p3.toInt8.toInt32)), .val (.int (own_v0_25_0 p3)), .val .null, .val (.ref b1_3)] [(.int (0 : Int32))])) _
          refine XS.ifYes X24.here hx rfl (pc0 := 119) (pc' := 142) rfl (hb hby at_119) rfl ((if0 _ _).trans (teq (by decide : (0 : Int32) = (0 : Int32))).1) (by decide) (by decide) ?_
          show Steps p.tables e below (T24.setTop (mkF m 142 #[.val (.long q0), .second, .val (.long q1), .second, .val (.int p2), .val (.int p3), .val (.int (0 : Int32)), .val (.int (p3.toInt8.toInt32)), .val (.int (own_v0_25_0 p3)), .val .null, .val (.ref b1_3)] [])) _
          refine XS.iconst X24.here hx rfl (hb hby at_142) ?_
          show Steps p.tables e below (T24.setTop (mkF m 143 #[.val (.long q0), .second, .val (.long q1), .second, .val (.int p2), .val (.int p3), .val (.int (0 : Int32)), .val (.int (p3.toInt8.toInt32)), .val (.int (own_v0_25_0 p3)), .val .null, .val (.ref b1_3)] [(.int (1 : Int32))])) _
          exact k)
      obtain ⟨fs, hr, hrun, hended, hW, hsame⟩ := X24.leave (v := some (.int (1 : Int32))) (fun h => by rw [Bd.returns] at h; cases h) (hlocks := hlk)
      refine ⟨_, _, pre26 _ ?_, hrun, hended, _, _, rfl, ?_, ⟨_, rfl⟩, hW, hsame.mono (by decide) (by decide)⟩
      · show Steps p.tables e below (T24.setTop (mkF m 143 #[.val (.long q0), .second, .val (.long q1), .second, .val (.int p2), .val (.int p3), .val (.int (0 : Int32)), .val (.int (p3.toInt8.toInt32)), .val (.int (own_v0_25_0 p3)), .val .null, .val (.ref b1_3)] [(.int (1 : Int32))])) _
        exact retN X24 hx (t := .boolean) Bd.returns (by simp) (hb hby at_143) hr
      · show own_Q0 Z q0 q1 p2 p3 h0 n0 _ T24.heap _; exact ⟨(by show some (Value.int _) = some (.int (own_f0 p2 p3)); unfold own_f0; rw [if_pos hc2, if_pos hc17]), N25⟩
    · have pre27 : ∀ t, Steps p.tables e below (T14.setTop (mkF m 68 #[.val (.long q0), .second, .val (.long q1), .second, .val (.int p2), .val (.int p3), .val (.int (0 : Int32)), .val (.int (p3.toInt8.toInt32)), .val (.int (own_v0_25_0 p3)), .val .null, .val (.ref b1_3)] [(.int (0 : Int32))])) t → Steps p.tables e below (s₁.setTop (entryFrame m #[(.long q0), (.long q1), (.int p2), (.int p3)] maxLocals)) t := fun t k => pre16 t (by
          refine XS.ifNo X14.here hx rfl (hb hby at_64) rfl ((if0 _ _).trans (feq hc17).1) ?_
          show Steps p.tables e below (T14.setTop (mkF m 67 #[.val (.long q0), .second, .val (.long q1), .second, .val (.int p2), .val (.int p3), .val (.int (0 : Int32)), .val (.int (p3.toInt8.toInt32)), .val (.int (own_v0_25_0 p3)), .val .null, .val (.ref b1_3)] [])) _
          refine XS.iconst X14.here hx rfl (hb hby at_67) ?_
          show Steps p.tables e below (T14.setTop (mkF m 68 #[.val (.long q0), .second, .val (.long q1), .second, .val (.int p2), .val (.int p3), .val (.int (0 : Int32)), .val (.int (p3.toInt8.toInt32)), .val (.int (own_v0_25_0 p3)), .val .null, .val (.ref b1_3)] [(.int (0 : Int32))])) _
          exact k)
      obtain ⟨fs, hr, hrun, hended, hW, hsame⟩ := X14.leave (v := some (.int (0 : Int32))) (fun h => by rw [Bd.returns] at h; cases h) (hlocks := hlk)
      refine ⟨_, _, pre27 _ ?_, hrun, hended, _, _, rfl, ?_, ⟨_, rfl⟩, hW, hsame.mono (by decide) (by decide)⟩
      · show Steps p.tables e below (T14.setTop (mkF m 68 #[.val (.long q0), .second, .val (.long q1), .second, .val (.int p2), .val (.int p3), .val (.int (0 : Int32)), .val (.int (p3.toInt8.toInt32)), .val (.int (own_v0_25_0 p3)), .val .null, .val (.ref b1_3)] [(.int (0 : Int32))])) _
        exact retN X14 hx (t := .boolean) Bd.returns (by simp) (hb hby at_68) hr
      · show own_Q0 Z q0 q1 p2 p3 h0 n0 _ T14.heap _; exact ⟨(by show some (Value.int _) = some (.int (own_f0 p2 p3)); unfold own_f0; rw [if_pos hc2, if_neg hc17]), N15⟩
  · obtain ⟨T28, h28, k28, X28, e28, E28, A28, st28⟩ := newP X0 hx hZ (hw _ (List.mem_of_getElem? (i := 52) rfl)) e0 (g := (mkF m 36 #[.val (.long q0), .second, .val (.long q1), .second, .val (.int p2), .val (.int p3), .val (.int (1 : Int32)), .val (.int (p3.toInt8.toInt32)), .val (.int (own_v0_25_0 p3)), .val .null, .unset] [(.int (2 : Int32))])) rfl (hb hby at_36) rfl (by decide) (cap := 2) (by decide) (by decide) (by decide) (by decide)
    obtain ⟨b28, g28⟩ : ∃ z, z = h0.size := ⟨_, rfl⟩
    rw [← g28] at A28 st28
    have g_b28 : n0 ≤ b28 := Nat.le_trans Z0 (Nat.le_of_eq g28.symm)
    have K29 : Keep h0 h0 [] := Keep.refl h0 []
    have sz_b28 : h0.size ≤ b28 := Nat.le_trans K29.1 (Nat.le_of_eq g28.symm)
    have zs30 : n0 ≤ h28.size := Nat.le_trans Z0 E28.1
    have K31 : Keep h0 h28 [] := K29.ext E28
    have f32 : Arv Z h28 b28 k28 .byte (2 : Int32) [(.int (0 : Int32)), (.int (0 : Int32))] (.int (0 : Int32)) := (Arv.new A28 (by decide)).pad (pad_rep [] (.int (0 : Int32)) 2)
    obtain ⟨cl33, Ar33, q33, S33, N_33, Ha33, G33⟩ := id f32
    have hin33 : ¬ ((0 : Int32) < 0 ∨ cl33.slots.size ≤ ((0 : Int32)).toNatClampNeg) := inb_of S33 ⟨by decide, by decide⟩
    obtain ⟨T34, h34, X34, e34, W34, st34⟩ := stB X28 hx hZ e28 Ar33 (j := (0 : Int32)) hin33 (g := (mkF m 42 #[.val (.long q0), .second, .val (.long q1), .second, .val (.int p2), .val (.int p3), .val (.int (1 : Int32)), .val (.int (p3.toInt8.toInt32)), .val (.int (own_v0_25_0 p3)), .val .null, .unset] [(.int (p3.toInt8.toInt32)), (.int (0 : Int32)), (.ref b28), (.ref b28)])) rfl rfl (hb hby at_42)
    have f35 : Arv Z h34 b28 k28 .byte (2 : Int32) [(.int (nar .byte (p3.toInt8.toInt32))), (.int (0 : Int32))] (.int (0 : Int32)) := Arv.set Ar33 q33 S33 N_33 Ha33 G33 (fits_nar_byte _) W34 0 rfl (Nat.le_of_ble_eq_true rfl)
    have zs36 : n0 ≤ h34.size := Nat.le_trans zs30 (Keep.of_wr W34).1
    have N37 := Fr.snoc X34 N0 g_b28
    have K38 : Keep h0 h34 [] := K31.wr W34 (Or.inr sz_b28)
    obtain ⟨cl39, Ar39, q39, S39, N_39, Ha39, G39⟩ := id f35
    have hin39 : ¬ ((1 : Int32) < 0 ∨ cl39.slots.size ≤ ((1 : Int32)).toNatClampNeg) := inb_of S39 ⟨by decide, by decide⟩
    obtain ⟨T40, h40, X40, e40, W40, st40⟩ := stB X34 hx hZ e34 Ar39 (j := (1 : Int32)) hin39 (g := (mkF m 47 #[.val (.long q0), .second, .val (.long q1), .second, .val (.int p2), .val (.int p3), .val (.int (1 : Int32)), .val (.int (p3.toInt8.toInt32)), .val (.int (own_v0_25_0 p3)), .val .null, .unset] [(.int (own_v0_25_0 p3)), (.int (1 : Int32)), (.ref b28), (.ref b28)])) rfl rfl (hb hby at_47)
    have f41 : Arv Z h40 b28 k28 .byte (2 : Int32) [(.int (nar .byte (p3.toInt8.toInt32))), (.int (nar .byte (own_v0_25_0 p3)))] (.int (0 : Int32)) := Arv.set Ar39 q39 S39 N_39 Ha39 G39 (fits_nar_byte _) W40 1 rfl (Nat.le_of_ble_eq_true rfl)
    have zs42 : n0 ≤ h40.size := Nat.le_trans zs36 (Keep.of_wr W40).1
    have N43 := Fr.snoc X40 N37 g_b28
    have K44 : Keep h0 h40 [] := K38.wr W40 (Or.inr sz_b28)
    obtain ⟨_, _, ⟨T45, L45, k45, n45⟩, -, X45, ⟨Lc45, hQ45, l45, y45, z45⟩, st45⟩ := Jvm.LawKit.callS X40 hx (y := (⟨"com/example/ufunguo/ufunguo/lock/LockStore$Attempt", "refused", "(J[BJ)Lcom/example/ufunguo/ufunguo/lock/LockStore$Attempt;"⟩ : MethodName)) hown (mvT hZ (hw _ (List.mem_of_getElem? (i := 0) rfl))) (mvT hZ (hw _ (List.mem_of_getElem? (i := 1) rfl))) (mvT hZ (hw _ (List.mem_of_getElem? (i := 2) rfl))) (mvT hZ (hw _ (List.mem_of_getElem? (i := 3) rfl))) (by decide) (backOf (W := 0) (own_rm1 l Z a0 hw [] q0 b28 q1 h40 n0 zs42 ) hZ (hw _ (List.mem_of_getElem? (i := 3) rfl)) (hw _ (List.mem_of_getElem? (i := 2) rfl)) (by decide) (by decide)) (g := (mkF m 54 #[.val (.long q0), .second, .val (.long q1), .second, .val (.int p2), .val (.int p3), .val (.int (1 : Int32)), .val (.int (p3.toInt8.toInt32)), .val (.int (own_v0_25_0 p3)), .val (.ref b28), .unset] [(.long q1), (.ref b28), (.long q0)])) rfl (by rw [hml]; rfl) (argsL := [(.long q0), (.ref b28), (.long q1)]) (rest := []) (lenOf own_pd2 rfl) rfl (by show 2 * 0 + _ ≤ _; exact Nat.le_of_eq rfl) (hb hby at_54) (fun _ _ => ⟨rfl, e40, (by decide : 1 + 1 ≤ _), (by decide : 2 + 5 ≤ _)⟩)
    dsimp only [Pt.U, Pt.locs, Pt.cells, Pt.slots] at X45 l45 y45 z45 st45 hQ45
    subst l45 y45 z45
    obtain ⟨b1_45, rfl, N45q, K45, sqb1_45_45, f46, f47, f48, f49, f50, f51⟩ := hQ45
    have g_b1_45 : n0 ≤ b1_45 := Nat.le_trans zs42 sqb1_45_45
    have sz_b1_45 : h0.size ≤ b1_45 := Nat.le_trans K44.1 sqb1_45_45
    have lt52 : b28 < b1_45 := Nat.lt_of_lt_of_le f41.lt sqb1_45_45
    have f53 : Arv Z T45.heap b28 k28 .byte (2 : Int32) [(.int (nar .byte (p3.toInt8.toInt32))), (.int (nar .byte (own_v0_25_0 p3)))] (.int (0 : Int32)) := f41.keep K45 nin0
    have zs54 : n0 ≤ T45.heap.size := Nat.le_trans zs42 K45.1
    have K55 : Keep h0 T45.heap [] := K44.trans K45 all0
    have N56 := Fr.app N43 N45q
    obtain ⟨cq57, kq57, q57a, q57b, q57c⟩ := isOf hZ rfl f46
    obtain ⟨_, _, ⟨T57, L57, k57, n57⟩, -, X57, ⟨Lc57, hQ57, l57, y57, z57⟩, st57⟩ := X45.virtualBack hx (y := (⟨"com/example/ufunguo/ufunguo/lock/LockStore$Attempt", "taken", "()Z"⟩ : MethodName)) (z := (⟨"com/example/ufunguo/ufunguo/lock/LockStore$Attempt", "taken", "()Z"⟩ : MethodName)) hown (mvT hZ (hw _ (List.mem_of_getElem? (i := 27) rfl))) (mvT hZ (hw _ (List.mem_of_getElem? (i := 28) rfl))) (notFace_of_selects (args := #[]) (mvT hZ (hw _ (List.mem_of_getElem? (i := 30) rfl)))) (mvT hZ (hw _ (List.mem_of_getElem? (i := 30) rfl))) (mvT hZ (hw _ (List.mem_of_getElem? (i := 29) rfl))) (by decide) (backOf (W := 0) (own_rm5 l Z a0 hw [] b1_45 (nar .boolean (0 : Int32)) T45.heap n0 zs54 f47) hZ (hw _ (List.mem_of_getElem? (i := 31) rfl)) (hw _ (List.mem_of_getElem? (i := 2) rfl)) (by decide) (by decide)) q57a q57c (g := (mkF m 61 #[.val (.long q0), .second, .val (.long q1), .second, .val (.int p2), .val (.int p3), .val (.int (1 : Int32)), .val (.int (p3.toInt8.toInt32)), .val (.int (own_v0_25_0 p3)), .val (.ref b28), .val (.ref b1_45)] [(.ref b1_45)])) rfl (by rw [hml]; rfl) (Steps.refl _) (argsL := []) (rest := []) (lenOf own_pd3 rfl) rfl (by show 2 * 0 + _ ≤ _; exact Nat.le_of_eq rfl) (hb hby at_61) (fun _ _ => ⟨rfl, rfl, (by decide : 2 + 0 ≤ _), (by decide : 7 + 0 ≤ _)⟩)
    dsimp only [Pt.U, Pt.locs, Pt.cells, Pt.slots] at X57 l57 y57 z57 st57 hQ57
    subst l57 y57 z57
    obtain ⟨rfl, N57q, e57⟩ := hQ57
    have N58 := Fr.app N56 N57q
    have pre59 : ∀ t, Steps p.tables e below (T57.setTop (mkF m 64 #[.val (.long q0), .second, .val (.long q1), .second, .val (.int p2), .val (.int p3), .val (.int (1 : Int32)), .val (.int (p3.toInt8.toInt32)), .val (.int (own_v0_25_0 p3)), .val (.ref b28), .val (.ref b1_45)] [(.int (nar .boolean (nar .boolean (0 : Int32))))])) t → Steps p.tables e below (s₁.setTop (entryFrame m #[(.long q0), (.long q1), (.int p2), (.int p3)] maxLocals)) t := fun t k => pre1 t (by
        refine XS.ifNo X0.here hx rfl (hb hby at_4) rfl ((if0 _ _).trans (feq hc2).1) ?_
        show Steps p.tables e below (s₁.setTop (mkF m 7 #[.val (.long q0), .second, .val (.long q1), .second, .val (.int p2), .val (.int p3), .unset, .unset, .unset, .unset, .unset] [])) _
        refine XS.iconst X0.here hx rfl (hb hby at_7) ?_
        show Steps p.tables e below (s₁.setTop (mkF m 8 #[.val (.long q0), .second, .val (.long q1), .second, .val (.int p2), .val (.int p3), .unset, .unset, .unset, .unset, .unset] [(.int (1 : Int32))])) _
        refine XS.goto X0.here hx rfl (pc0 := 8) (pc' := 12) rfl (hb hby at_8) (by decide) (by decide) ?_
        show Steps p.tables e below (s₁.setTop (mkF m 12 #[.val (.long q0), .second, .val (.long q1), .second, .val (.int p2), .val (.int p3), .unset, .unset, .unset, .unset, .unset] [(.int (1 : Int32))])) _
        refine XS.istore X0.here hx rfl (hb hby at_12) rfl (l' := #[.val (.long q0), .second, .val (.long q1), .second, .val (.int p2), .val (.int p3), .val (.int (1 : Int32)), .unset, .unset, .unset, .unset]) rfl ?_
        show Steps p.tables e below (s₁.setTop (mkF m 14 #[.val (.long q0), .second, .val (.long q1), .second, .val (.int p2), .val (.int p3), .val (.int (1 : Int32)), .unset, .unset, .unset, .unset] [])) _
        refine XS.iload X0.here hx rfl (hb hby at_14) rfl ?_
        show Steps p.tables e below (s₁.setTop (mkF m 16 #[.val (.long q0), .second, .val (.long q1), .second, .val (.int p2), .val (.int p3), .val (.int (1 : Int32)), .unset, .unset, .unset, .unset] [(.int p3)])) _
        refine XS.i2b X0.here hx rfl (hb hby at_16) rfl ?_
        show Steps p.tables e below (s₁.setTop (mkF m 17 #[.val (.long q0), .second, .val (.long q1), .second, .val (.int p2), .val (.int p3), .val (.int (1 : Int32)), .unset, .unset, .unset, .unset] [(.int (p3.toInt8.toInt32))])) _
        refine XS.istore X0.here hx rfl (hb hby at_17) rfl (l' := #[.val (.long q0), .second, .val (.long q1), .second, .val (.int p2), .val (.int p3), .val (.int (1 : Int32)), .val (.int (p3.toInt8.toInt32)), .unset, .unset, .unset]) rfl ?_
        show Steps p.tables e below (s₁.setTop (mkF m 19 #[.val (.long q0), .second, .val (.long q1), .second, .val (.int p2), .val (.int p3), .val (.int (1 : Int32)), .val (.int (p3.toInt8.toInt32)), .unset, .unset, .unset] [])) _
        refine XS.iload X0.here hx rfl (hb hby at_19) rfl ?_
        show Steps p.tables e below (s₁.setTop (mkF m 21 #[.val (.long q0), .second, .val (.long q1), .second, .val (.int p2), .val (.int p3), .val (.int (1 : Int32)), .val (.int (p3.toInt8.toInt32)), .unset, .unset, .unset] [(.int p3)])) _
        refine XS.bipush X0.here hx rfl (hb hby at_21) ?_
        show Steps p.tables e below (s₁.setTop (mkF m 23 #[.val (.long q0), .second, .val (.long q1), .second, .val (.int p2), .val (.int p3), .val (.int (1 : Int32)), .val (.int (p3.toInt8.toInt32)), .unset, .unset, .unset] [(.int (8 : Int32)), (.int p3)])) _
        refine XS.ishr X0.here hx rfl (hb hby at_23) rfl ?_
        show Steps p.tables e below (s₁.setTop (mkF m 24 #[.val (.long q0), .second, .val (.long q1), .second, .val (.int p2), .val (.int p3), .val (.int (1 : Int32)), .val (.int (p3.toInt8.toInt32)), .unset, .unset, .unset] [(.int (p3 >>> ((8 : Int32) &&& 31)))])) _
        refine XS.i2b X0.here hx rfl (hb hby at_24) rfl ?_
        show Steps p.tables e below (s₁.setTop (mkF m 25 #[.val (.long q0), .second, .val (.long q1), .second, .val (.int p2), .val (.int p3), .val (.int (1 : Int32)), .val (.int (p3.toInt8.toInt32)), .unset, .unset, .unset] [(.int ((p3 >>> ((8 : Int32) &&& 31)).toInt8.toInt32))])) _
        refine XS.istore X0.here hx rfl (hb hby at_25) rfl (l' := #[.val (.long q0), .second, .val (.long q1), .second, .val (.int p2), .val (.int p3), .val (.int (1 : Int32)), .val (.int (p3.toInt8.toInt32)), .val (.int (own_v0_25_0 p3)), .unset, .unset]) rfl ?_
        show Steps p.tables e below (s₁.setTop (mkF m 27 #[.val (.long q0), .second, .val (.long q1), .second, .val (.int p2), .val (.int p3), .val (.int (1 : Int32)), .val (.int (p3.toInt8.toInt32)), .val (.int (own_v0_25_0 p3)), .unset, .unset] [])) _
        refine XS.aconstNull X0.here hx rfl (hb hby at_27) ?_
        show Steps p.tables e below (s₁.setTop (mkF m 28 #[.val (.long q0), .second, .val (.long q1), .second, .val (.int p2), .val (.int p3), .val (.int (1 : Int32)), .val (.int (p3.toInt8.toInt32)), .val (.int (own_v0_25_0 p3)), .unset, .unset] [.null])) _
        refine XS.astore X0.here hx rfl (hb hby at_28) rfl rfl (l' := #[.val (.long q0), .second, .val (.long q1), .second, .val (.int p2), .val (.int p3), .val (.int (1 : Int32)), .val (.int (p3.toInt8.toInt32)), .val (.int (own_v0_25_0 p3)), .val .null, .unset]) rfl ?_
        show Steps p.tables e below (s₁.setTop (mkF m 30 #[.val (.long q0), .second, .val (.long q1), .second, .val (.int p2), .val (.int p3), .val (.int (1 : Int32)), .val (.int (p3.toInt8.toInt32)), .val (.int (own_v0_25_0 p3)), .val .null, .unset] [])) _
        refine XS.iload X0.here hx rfl (hb hby at_30) rfl ?_
        show Steps p.tables e below (s₁.setTop (mkF m 32 #[.val (.long q0), .second, .val (.long q1), .second, .val (.int p2), .val (.int p3), .val (.int (1 : Int32)), .val (.int (p3.toInt8.toInt32)), .val (.int (own_v0_25_0 p3)), .val .null, .unset] [(.int (1 : Int32))])) _
        refine XS.ifNo X0.here hx rfl (hb hby at_32) rfl ((if0 _ _).trans (feq (by decide : ¬ ((1 : Int32) = (0 : Int32)))).1) ?_
        show Steps p.tables e below (s₁.setTop (mkF m 35 #[.val (.long q0), .second, .val (.long q1), .second, .val (.int p2), .val (.int p3), .val (.int (1 : Int32)), .val (.int (p3.toInt8.toInt32)), .val (.int (own_v0_25_0 p3)), .val .null, .unset] [])) _
        refine XS.iconst X0.here hx rfl (hb hby at_35) ?_
        show Steps p.tables e below (s₁.setTop (mkF m 36 #[.val (.long q0), .second, .val (.long q1), .second, .val (.int p2), .val (.int p3), .val (.int (1 : Int32)), .val (.int (p3.toInt8.toInt32)), .val (.int (own_v0_25_0 p3)), .val .null, .unset] [(.int (2 : Int32))])) _
        refine st28 _ ?_
        show Steps p.tables e below (T28.setTop (mkF m 38 #[.val (.long q0), .second, .val (.long q1), .second, .val (.int p2), .val (.int p3), .val (.int (1 : Int32)), .val (.int (p3.toInt8.toInt32)), .val (.int (own_v0_25_0 p3)), .val .null, .unset] [(.ref b28)])) _
        refine XS.dup X28.here hx rfl (hb hby at_38) rfl rfl ?_
        show Steps p.tables e below (T28.setTop (mkF m 39 #[.val (.long q0), .second, .val (.long q1), .second, .val (.int p2), .val (.int p3), .val (.int (1 : Int32)), .val (.int (p3.toInt8.toInt32)), .val (.int (own_v0_25_0 p3)), .val .null, .unset] [(.ref b28), (.ref b28)])) _
        refine XS.iconst X28.here hx rfl (hb hby at_39) ?_
        show Steps p.tables e below (T28.setTop (mkF m 40 #[.val (.long q0), .second, .val (.long q1), .second, .val (.int p2), .val (.int p3), .val (.int (1 : Int32)), .val (.int (p3.toInt8.toInt32)), .val (.int (own_v0_25_0 p3)), .val .null, .unset] [(.int (0 : Int32)), (.ref b28), (.ref b28)])) _
        refine XS.iload X28.here hx rfl (hb hby at_40) rfl ?_
        show Steps p.tables e below (T28.setTop (mkF m 42 #[.val (.long q0), .second, .val (.long q1), .second, .val (.int p2), .val (.int p3), .val (.int (1 : Int32)), .val (.int (p3.toInt8.toInt32)), .val (.int (own_v0_25_0 p3)), .val .null, .unset] [(.int (p3.toInt8.toInt32)), (.int (0 : Int32)), (.ref b28), (.ref b28)])) _
        refine st34 _ ?_
        show Steps p.tables e below (T34.setTop (mkF m 43 #[.val (.long q0), .second, .val (.long q1), .second, .val (.int p2), .val (.int p3), .val (.int (1 : Int32)), .val (.int (p3.toInt8.toInt32)), .val (.int (own_v0_25_0 p3)), .val .null, .unset] [(.ref b28)])) _
        refine XS.dup X34.here hx rfl (hb hby at_43) rfl rfl ?_
        show Steps p.tables e below (T34.setTop (mkF m 44 #[.val (.long q0), .second, .val (.long q1), .second, .val (.int p2), .val (.int p3), .val (.int (1 : Int32)), .val (.int (p3.toInt8.toInt32)), .val (.int (own_v0_25_0 p3)), .val .null, .unset] [(.ref b28), (.ref b28)])) _
        refine XS.iconst X34.here hx rfl (hb hby at_44) ?_
        show Steps p.tables e below (T34.setTop (mkF m 45 #[.val (.long q0), .second, .val (.long q1), .second, .val (.int p2), .val (.int p3), .val (.int (1 : Int32)), .val (.int (p3.toInt8.toInt32)), .val (.int (own_v0_25_0 p3)), .val .null, .unset] [(.int (1 : Int32)), (.ref b28), (.ref b28)])) _
        refine XS.iload X34.here hx rfl (hb hby at_45) rfl ?_
        show Steps p.tables e below (T34.setTop (mkF m 47 #[.val (.long q0), .second, .val (.long q1), .second, .val (.int p2), .val (.int p3), .val (.int (1 : Int32)), .val (.int (p3.toInt8.toInt32)), .val (.int (own_v0_25_0 p3)), .val .null, .unset] [(.int (own_v0_25_0 p3)), (.int (1 : Int32)), (.ref b28), (.ref b28)])) _
        refine st40 _ ?_
        show Steps p.tables e below (T40.setTop (mkF m 48 #[.val (.long q0), .second, .val (.long q1), .second, .val (.int p2), .val (.int p3), .val (.int (1 : Int32)), .val (.int (p3.toInt8.toInt32)), .val (.int (own_v0_25_0 p3)), .val .null, .unset] [(.ref b28)])) _
        refine XS.astore X40.here hx rfl (hb hby at_48) rfl rfl (l' := #[.val (.long q0), .second, .val (.long q1), .second, .val (.int p2), .val (.int p3), .val (.int (1 : Int32)), .val (.int (p3.toInt8.toInt32)), .val (.int (own_v0_25_0 p3)), .val (.ref b28), .unset]) rfl ?_
        show Steps p.tables e below (T40.setTop (mkF m 50 #[.val (.long q0), .second, .val (.long q1), .second, .val (.int p2), .val (.int p3), .val (.int (1 : Int32)), .val (.int (p3.toInt8.toInt32)), .val (.int (own_v0_25_0 p3)), .val (.ref b28), .unset] [])) _
        refine XS.lloadN X40.here hx rfl (hb hby at_50) rfl ?_
        show Steps p.tables e below (T40.setTop (mkF m 51 #[.val (.long q0), .second, .val (.long q1), .second, .val (.int p2), .val (.int p3), .val (.int (1 : Int32)), .val (.int (p3.toInt8.toInt32)), .val (.int (own_v0_25_0 p3)), .val (.ref b28), .unset] [(.long q0)])) _
        refine XS.aload X40.here hx rfl (hb hby at_51) rfl rfl ?_
        show Steps p.tables e below (T40.setTop (mkF m 53 #[.val (.long q0), .second, .val (.long q1), .second, .val (.int p2), .val (.int p3), .val (.int (1 : Int32)), .val (.int (p3.toInt8.toInt32)), .val (.int (own_v0_25_0 p3)), .val (.ref b28), .unset] [(.ref b28), (.long q0)])) _
        refine XS.lloadN X40.here hx rfl (hb hby at_53) rfl ?_
        show Steps p.tables e below (T40.setTop (mkF m 54 #[.val (.long q0), .second, .val (.long q1), .second, .val (.int p2), .val (.int p3), .val (.int (1 : Int32)), .val (.int (p3.toInt8.toInt32)), .val (.int (own_v0_25_0 p3)), .val (.ref b28), .unset] [(.long q1), (.ref b28), (.long q0)])) _
        refine st45 _ ?_
        show Steps p.tables e below (T45.setTop (mkF m 57 #[.val (.long q0), .second, .val (.long q1), .second, .val (.int p2), .val (.int p3), .val (.int (1 : Int32)), .val (.int (p3.toInt8.toInt32)), .val (.int (own_v0_25_0 p3)), .val (.ref b28), .unset] [(.ref b1_45)])) _
        refine XS.astore X45.here hx rfl (hb hby at_57) rfl rfl (l' := #[.val (.long q0), .second, .val (.long q1), .second, .val (.int p2), .val (.int p3), .val (.int (1 : Int32)), .val (.int (p3.toInt8.toInt32)), .val (.int (own_v0_25_0 p3)), .val (.ref b28), .val (.ref b1_45)]) rfl ?_
        show Steps p.tables e below (T45.setTop (mkF m 59 #[.val (.long q0), .second, .val (.long q1), .second, .val (.int p2), .val (.int p3), .val (.int (1 : Int32)), .val (.int (p3.toInt8.toInt32)), .val (.int (own_v0_25_0 p3)), .val (.ref b28), .val (.ref b1_45)] [])) _
        refine XS.aload X45.here hx rfl (hb hby at_59) rfl rfl ?_
        show Steps p.tables e below (T45.setTop (mkF m 61 #[.val (.long q0), .second, .val (.long q1), .second, .val (.int p2), .val (.int p3), .val (.int (1 : Int32)), .val (.int (p3.toInt8.toInt32)), .val (.int (own_v0_25_0 p3)), .val (.ref b28), .val (.ref b1_45)] [(.ref b1_45)])) _
        refine st57.trans ?_
        show Steps p.tables e below (T57.setTop (mkF m 64 #[.val (.long q0), .second, .val (.long q1), .second, .val (.int p2), .val (.int p3), .val (.int (1 : Int32)), .val (.int (p3.toInt8.toInt32)), .val (.int (own_v0_25_0 p3)), .val (.ref b28), .val (.ref b1_45)] [(.int (nar .boolean (nar .boolean (0 : Int32))))])) _
        exact k)
    by_cases hc60 : (nar .boolean (nar .boolean (0 : Int32))) = (0 : Int32)
    · obtain ⟨cq61, kq61, q61a, q61b, q61c⟩ := isOf hZ e57 f46
      obtain ⟨_, _, ⟨T61, L61, k61, n61⟩, -, X61, ⟨Lc61, hQ61, l61, y61, z61⟩, st61⟩ := X57.virtualBack hx (y := (⟨"com/example/ufunguo/ufunguo/lock/LockStore$Attempt", "token", "()J"⟩ : MethodName)) (z := (⟨"com/example/ufunguo/ufunguo/lock/LockStore$Attempt", "token", "()J"⟩ : MethodName)) hown (mvT hZ (hw _ (List.mem_of_getElem? (i := 32) rfl))) (mvT hZ (hw _ (List.mem_of_getElem? (i := 33) rfl))) (notFace_of_selects (args := #[]) (mvT hZ (hw _ (List.mem_of_getElem? (i := 35) rfl)))) (mvT hZ (hw _ (List.mem_of_getElem? (i := 35) rfl))) (mvT hZ (hw _ (List.mem_of_getElem? (i := 34) rfl))) (by decide) (backOf (W := 0) (own_rm6 l Z a0 hw [] b1_45 (0 : Int64) T45.heap n0 zs54 f48) hZ (hw _ (List.mem_of_getElem? (i := 36) rfl)) (hw _ (List.mem_of_getElem? (i := 2) rfl)) (by decide) (by decide)) q61a q61c (g := (mkF m 71 #[.val (.long q0), .second, .val (.long q1), .second, .val (.int p2), .val (.int p3), .val (.int (1 : Int32)), .val (.int (p3.toInt8.toInt32)), .val (.int (own_v0_25_0 p3)), .val (.ref b28), .val (.ref b1_45)] [(.ref b1_45)])) rfl (by rw [hml]; rfl) (Steps.refl _) (argsL := []) (rest := []) (lenOf own_pd4 rfl) rfl (by show 2 * 0 + _ ≤ _; exact Nat.le_of_eq rfl) (hb hby at_71) (fun _ _ => ⟨rfl, e57, (by decide : 2 + 0 ≤ _), (by decide : 7 + 0 ≤ _)⟩)
      dsimp only [Pt.U, Pt.locs, Pt.cells, Pt.slots] at X61 l61 y61 z61 st61 hQ61
      subst l61 y61 z61
      obtain ⟨rfl, N61q, e61⟩ := hQ61
      have N62 := Fr.app N58 N61q
      obtain ⟨cq63, kq63, q63a, q63b, q63c⟩ := isOf hZ e61 f46
      obtain ⟨_, _, ⟨T63, L63, k63, n63⟩, -, X63, ⟨Lc63, hQ63, l63, y63, z63⟩, st63⟩ := X61.virtualBack hx (y := (⟨"com/example/ufunguo/ufunguo/lock/LockStore$Attempt", "sleepNanos", "()J"⟩ : MethodName)) (z := (⟨"com/example/ufunguo/ufunguo/lock/LockStore$Attempt", "sleepNanos", "()J"⟩ : MethodName)) hown (mvT hZ (hw _ (List.mem_of_getElem? (i := 37) rfl))) (mvT hZ (hw _ (List.mem_of_getElem? (i := 38) rfl))) (notFace_of_selects (args := #[]) (mvT hZ (hw _ (List.mem_of_getElem? (i := 40) rfl)))) (mvT hZ (hw _ (List.mem_of_getElem? (i := 40) rfl))) (mvT hZ (hw _ (List.mem_of_getElem? (i := 39) rfl))) (by decide) (backOf (W := 0) (own_rm7 l Z a0 hw [] b1_45 q0 T45.heap n0 zs54 f49) hZ (hw _ (List.mem_of_getElem? (i := 41) rfl)) (hw _ (List.mem_of_getElem? (i := 2) rfl)) (by decide) (by decide)) q63a q63c (g := (mkF m 83 #[.val (.long q0), .second, .val (.long q1), .second, .val (.int p2), .val (.int p3), .val (.int (1 : Int32)), .val (.int (p3.toInt8.toInt32)), .val (.int (own_v0_25_0 p3)), .val (.ref b28), .val (.ref b1_45)] [(.ref b1_45)])) rfl (by rw [hml]; rfl) (Steps.refl _) (argsL := []) (rest := []) (lenOf own_pd4 rfl) rfl (by show 2 * 0 + _ ≤ _; exact Nat.le_of_eq rfl) (hb hby at_83) (fun _ _ => ⟨rfl, e61, (by decide : 2 + 0 ≤ _), (by decide : 7 + 0 ≤ _)⟩)
      dsimp only [Pt.U, Pt.locs, Pt.cells, Pt.slots] at X63 l63 y63 z63 st63 hQ63
      subst l63 y63 z63
      obtain ⟨rfl, N63q, e63⟩ := hQ63
      have N64 := Fr.app N62 N63q
      obtain ⟨cq65, kq65, q65a, q65b, q65c⟩ := isOf hZ e63 f46
      obtain ⟨_, _, ⟨T65, L65, k65, n65⟩, -, X65, ⟨Lc65, hQ65, l65, y65, z65⟩, st65⟩ := X63.virtualBack hx (y := (⟨"com/example/ufunguo/ufunguo/lock/LockStore$Attempt", "readMicros", "()J"⟩ : MethodName)) (z := (⟨"com/example/ufunguo/ufunguo/lock/LockStore$Attempt", "readMicros", "()J"⟩ : MethodName)) hown (mvT hZ (hw _ (List.mem_of_getElem? (i := 42) rfl))) (mvT hZ (hw _ (List.mem_of_getElem? (i := 43) rfl))) (notFace_of_selects (args := #[]) (mvT hZ (hw _ (List.mem_of_getElem? (i := 45) rfl)))) (mvT hZ (hw _ (List.mem_of_getElem? (i := 45) rfl))) (mvT hZ (hw _ (List.mem_of_getElem? (i := 44) rfl))) (by decide) (backOf (W := 0) (own_rm8 l Z a0 hw [] b1_45 q1 T45.heap n0 zs54 f51) hZ (hw _ (List.mem_of_getElem? (i := 46) rfl)) (hw _ (List.mem_of_getElem? (i := 2) rfl)) (by decide) (by decide)) q65a q65c (g := (mkF m 95 #[.val (.long q0), .second, .val (.long q1), .second, .val (.int p2), .val (.int p3), .val (.int (1 : Int32)), .val (.int (p3.toInt8.toInt32)), .val (.int (own_v0_25_0 p3)), .val (.ref b28), .val (.ref b1_45)] [(.ref b1_45)])) rfl (by rw [hml]; rfl) (Steps.refl _) (argsL := []) (rest := []) (lenOf own_pd4 rfl) rfl (by show 2 * 0 + _ ≤ _; exact Nat.le_of_eq rfl) (hb hby at_95) (fun _ _ => ⟨rfl, e63, (by decide : 2 + 0 ≤ _), (by decide : 7 + 0 ≤ _)⟩)
      dsimp only [Pt.U, Pt.locs, Pt.cells, Pt.slots] at X65 l65 y65 z65 st65 hQ65
      subst l65 y65 z65
      obtain ⟨rfl, N65q, e65⟩ := hQ65
      have N66 := Fr.app N64 N65q
      obtain ⟨cq67, kq67, q67a, q67b, q67c⟩ := isOf hZ e65 f46
      obtain ⟨_, _, ⟨T67, L67, k67, n67⟩, -, X67, ⟨Lc67, hQ67, l67, y67, z67⟩, st67⟩ := X65.virtualBack hx (y := (⟨"com/example/ufunguo/ufunguo/lock/LockStore$Attempt", "holder", "()[B"⟩ : MethodName)) (z := (⟨"com/example/ufunguo/ufunguo/lock/LockStore$Attempt", "holder", "()[B"⟩ : MethodName)) hown (mvT hZ (hw _ (List.mem_of_getElem? (i := 47) rfl))) (mvT hZ (hw _ (List.mem_of_getElem? (i := 48) rfl))) (notFace_of_selects (args := #[]) (mvT hZ (hw _ (List.mem_of_getElem? (i := 50) rfl)))) (mvT hZ (hw _ (List.mem_of_getElem? (i := 50) rfl))) (mvT hZ (hw _ (List.mem_of_getElem? (i := 49) rfl))) (by decide) (backOf (W := 0) (own_rm9 l Z a0 hw [] b1_45 b28 T45.heap n0 zs54 f50) hZ (hw _ (List.mem_of_getElem? (i := 51) rfl)) (hw _ (List.mem_of_getElem? (i := 2) rfl)) (by decide) (by decide)) q67a q67c (g := (mkF m 107 #[.val (.long q0), .second, .val (.long q1), .second, .val (.int p2), .val (.int p3), .val (.int (1 : Int32)), .val (.int (p3.toInt8.toInt32)), .val (.int (own_v0_25_0 p3)), .val (.ref b28), .val (.ref b1_45)] [(.ref b1_45)])) rfl (by rw [hml]; rfl) (Steps.refl _) (argsL := []) (rest := []) (lenOf own_pd5 rfl) rfl (by show 2 * 0 + _ ≤ _; exact Nat.le_of_eq rfl) (hb hby at_107) (fun _ _ => ⟨rfl, e65, (by decide : 2 + 0 ≤ _), (by decide : 7 + 0 ≤ _)⟩)
      dsimp only [Pt.U, Pt.locs, Pt.cells, Pt.slots] at X67 l67 y67 z67 st67 hQ67
      subst l67 y67 z67
      obtain ⟨rfl, N67q, e67⟩ := hQ67
      have N68 := Fr.app N66 N67q
      obtain ⟨cl69, Ar69, q69, S69, N_69, Ha69, G69⟩ := id f53
      have hin69 : ¬ ((0 : Int32) < 0 ∨ cl69.slots.size ≤ ((0 : Int32)).toNatClampNeg) := inb_of S69 ⟨by decide, by decide⟩
      have pre70 : ∀ t, Steps p.tables e below (T67.setTop (mkF m 128 #[.val (.long q0), .second, .val (.long q1), .second, .val (.int p2), .val (.int p3), .val (.int (1 : Int32)), .val (.int (p3.toInt8.toInt32)), .val (.int (own_v0_25_0 p3)), .val (.ref b28), .val (.ref b1_45)] [(.int (p3.toInt8.toInt32)), (.int (nar .byte (p3.toInt8.toInt32)))])) t → Steps p.tables e below (s₁.setTop (entryFrame m #[(.long q0), (.long q1), (.int p2), (.int p3)] maxLocals)) t := fun t k => pre59 t (by
          refine XS.ifYes X57.here hx rfl (pc0 := 64) (pc' := 69) rfl (hb hby at_64) rfl ((if0 _ _).trans (teq hc60).1) (by decide) (by decide) ?_
          show Steps p.tables e below (T57.setTop (mkF m 69 #[.val (.long q0), .second, .val (.long q1), .second, .val (.int p2), .val (.int p3), .val (.int (1 : Int32)), .val (.int (p3.toInt8.toInt32)), .val (.int (own_v0_25_0 p3)), .val (.ref b28), .val (.ref b1_45)] [])) _
          refine XS.aload X57.here hx rfl (hb hby at_69) rfl rfl ?_
          show Steps p.tables e below (T57.setTop (mkF m 71 #[.val (.long q0), .second, .val (.long q1), .second, .val (.int p2), .val (.int p3), .val (.int (1 : Int32)), .val (.int (p3.toInt8.toInt32)), .val (.int (own_v0_25_0 p3)), .val (.ref b28), .val (.ref b1_45)] [(.ref b1_45)])) _
          refine st61.trans ?_
          show Steps p.tables e below (T61.setTop (mkF m 74 #[.val (.long q0), .second, .val (.long q1), .second, .val (.int p2), .val (.int p3), .val (.int (1 : Int32)), .val (.int (p3.toInt8.toInt32)), .val (.int (own_v0_25_0 p3)), .val (.ref b28), .val (.ref b1_45)] [(.long (0 : Int64))])) _
          refine XS.lconst X61.here hx rfl (hb hby at_74) ?_
          show Steps p.tables e below (T61.setTop (mkF m 75 #[.val (.long q0), .second, .val (.long q1), .second, .val (.int p2), .val (.int p3), .val (.int (1 : Int32)), .val (.int (p3.toInt8.toInt32)), .val (.int (own_v0_25_0 p3)), .val (.ref b28), .val (.ref b1_45)] [(.long (0 : Int64)), (.long (0 : Int64))])) _
          refine XS.lcmp X61.here hx rfl (hb hby at_75) rfl ?_
          show Steps p.tables e below (T61.setTop (mkF m 76 #[.val (.long q0), .second, .val (.long q1), .second, .val (.int p2), .val (.int p3), .val (.int (1 : Int32)), .val (.int (p3.toInt8.toInt32)), .val (.int (own_v0_25_0 p3)), .val (.ref b28), .val (.ref b1_45)] [(.int (lcmpW (0 : Int64) (0 : Int64)))])) _
          refine XS.ifYes X61.here hx rfl (pc0 := 76) (pc' := 81) rfl (hb hby at_76) rfl ((if0 _ _).trans (teq ((own_lw_eq _ _).mpr (by decide : (0 : Int64) = (0 : Int64)))).1) (by decide) (by decide) ?_
          show Steps p.tables e below (T61.setTop (mkF m 81 #[.val (.long q0), .second, .val (.long q1), .second, .val (.int p2), .val (.int p3), .val (.int (1 : Int32)), .val (.int (p3.toInt8.toInt32)), .val (.int (own_v0_25_0 p3)), .val (.ref b28), .val (.ref b1_45)] [])) _
          refine XS.aload X61.here hx rfl (hb hby at_81) rfl rfl ?_
          show Steps p.tables e below (T61.setTop (mkF m 83 #[.val (.long q0), .second, .val (.long q1), .second, .val (.int p2), .val (.int p3), .val (.int (1 : Int32)), .val (.int (p3.toInt8.toInt32)), .val (.int (own_v0_25_0 p3)), .val (.ref b28), .val (.ref b1_45)] [(.ref b1_45)])) _
          refine st63.trans ?_
          show Steps p.tables e below (T63.setTop (mkF m 86 #[.val (.long q0), .second, .val (.long q1), .second, .val (.int p2), .val (.int p3), .val (.int (1 : Int32)), .val (.int (p3.toInt8.toInt32)), .val (.int (own_v0_25_0 p3)), .val (.ref b28), .val (.ref b1_45)] [(.long q0)])) _
          refine XS.lloadN X63.here hx rfl (hb hby at_86) rfl ?_
          show Steps p.tables e below (T63.setTop (mkF m 87 #[.val (.long q0), .second, .val (.long q1), .second, .val (.int p2), .val (.int p3), .val (.int (1 : Int32)), .val (.int (p3.toInt8.toInt32)), .val (.int (own_v0_25_0 p3)), .val (.ref b28), .val (.ref b1_45)] [(.long q0), (.long q0)])) _
          refine XS.lcmp X63.here hx rfl (hb hby at_87) rfl ?_
          show Steps p.tables e below (T63.setTop (mkF m 88 #[.val (.long q0), .second, .val (.long q1), .second, .val (.int p2), .val (.int p3), .val (.int (1 : Int32)), .val (.int (p3.toInt8.toInt32)), .val (.int (own_v0_25_0 p3)), .val (.ref b28), .val (.ref b1_45)] [(.int (lcmpW q0 q0))])) _
          refine XS.ifYes X63.here hx rfl (pc0 := 88) (pc' := 93) rfl (hb hby at_88) rfl ((if0 _ _).trans (teq ((own_lw_eq _ _).mpr (rfl : q0 = q0))).1) (by decide) (by decide) ?_
          show Steps p.tables e below (T63.setTop (mkF m 93 #[.val (.long q0), .second, .val (.long q1), .second, .val (.int p2), .val (.int p3), .val (.int (1 : Int32)), .val (.int (p3.toInt8.toInt32)), .val (.int (own_v0_25_0 p3)), .val (.ref b28), .val (.ref b1_45)] [])) _
          refine XS.aload X63.here hx rfl (hb hby at_93) rfl rfl ?_
          show Steps p.tables e below (T63.setTop (mkF m 95 #[.val (.long q0), .second, .val (.long q1), .second, .val (.int p2), .val (.int p3), .val (.int (1 : Int32)), .val (.int (p3.toInt8.toInt32)), .val (.int (own_v0_25_0 p3)), .val (.ref b28), .val (.ref b1_45)] [(.ref b1_45)])) _
          refine st65.trans ?_
          show Steps p.tables e below (T65.setTop (mkF m 98 #[.val (.long q0), .second, .val (.long q1), .second, .val (.int p2), .val (.int p3), .val (.int (1 : Int32)), .val (.int (p3.toInt8.toInt32)), .val (.int (own_v0_25_0 p3)), .val (.ref b28), .val (.ref b1_45)] [(.long q1)])) _
          refine XS.lloadN X65.here hx rfl (hb hby at_98) rfl ?_
          show Steps p.tables e below (T65.setTop (mkF m 99 #[.val (.long q0), .second, .val (.long q1), .second, .val (.int p2), .val (.int p3), .val (.int (1 : Int32)), .val (.int (p3.toInt8.toInt32)), .val (.int (own_v0_25_0 p3)), .val (.ref b28), .val (.ref b1_45)] [(.long q1), (.long q1)])) _
          refine XS.lcmp X65.here hx rfl (hb hby at_99) rfl ?_
          show Steps p.tables e below (T65.setTop (mkF m 100 #[.val (.long q0), .second, .val (.long q1), .second, .val (.int p2), .val (.int p3), .val (.int (1 : Int32)), .val (.int (p3.toInt8.toInt32)), .val (.int (own_v0_25_0 p3)), .val (.ref b28), .val (.ref b1_45)] [(.int (lcmpW q1 q1))])) _
          refine XS.ifYes X65.here hx rfl (pc0 := 100) (pc' := 105) rfl (hb hby at_100) rfl ((if0 _ _).trans (teq ((own_lw_eq _ _).mpr (rfl : q1 = q1))).1) (by decide) (by decide) ?_
          show Steps p.tables e below (T65.setTop (mkF m 105 #[.val (.long q0), .second, .val (.long q1), .second, .val (.int p2), .val (.int p3), .val (.int (1 : Int32)), .val (.int (p3.toInt8.toInt32)), .val (.int (own_v0_25_0 p3)), .val (.ref b28), .val (.ref b1_45)] [])) _
          refine XS.aload X65.here hx rfl (hb hby at_105) rfl rfl ?_
          show Steps p.tables e below (T65.setTop (mkF m 107 #[.val (.long q0), .second, .val (.long q1), .second, .val (.int p2), .val (.int p3), .val (.int (1 : Int32)), .val (.int (p3.toInt8.toInt32)), .val (.int (own_v0_25_0 p3)), .val (.ref b28), .val (.ref b1_45)] [(.ref b1_45)])) _
          refine st67.trans ?_
          show Steps p.tables e below (T67.setTop (mkF m 110 #[.val (.long q0), .second, .val (.long q1), .second, .val (.int p2), .val (.int p3), .val (.int (1 : Int32)), .val (.int (p3.toInt8.toInt32)), .val (.int (own_v0_25_0 p3)), .val (.ref b28), .val (.ref b1_45)] [(.ref b28)])) _
          refine XS.aload X67.here hx rfl (hb hby at_110) rfl rfl ?_
          show Steps p.tables e below (T67.setTop (mkF m 112 #[.val (.long q0), .second, .val (.long q1), .second, .val (.int p2), .val (.int p3), .val (.int (1 : Int32)), .val (.int (p3.toInt8.toInt32)), .val (.int (own_v0_25_0 p3)), .val (.ref b28), .val (.ref b1_45)] [(.ref b28), (.ref b28)])) _
          refine Jvm.RoadKit.acmp (g := (mkF m 112 #[.val (.long q0), .second, .val (.long q1), .second, .val (.int p2), .val (.int p3), .val (.int (1 : Int32)), .val (.int (p3.toInt8.toInt32)), .val (.int (own_v0_25_0 p3)), .val (.ref b28), .val (.ref b1_45)] [(.ref b28), (.ref b28)])) X67 hx rfl rfl rfl (pc0 := 112) (pc' := 117) (same := true) rfl (hb hby at_112) rfl (decide_eq_true rfl) (by decide) (by decide) ?_
          show Steps p.tables e below (T67.setTop (mkF m 117 #[.val (.long q0), .second, .val (.long q1), .second, .val (.int p2), .val (.int p3), .val (.int (1 : Int32)), .val (.int (p3.toInt8.toInt32)), .val (.int (own_v0_25_0 p3)), .val (.ref b28), .val (.ref b1_45)] [])) _
          refine XS.iload X67.here hx rfl (hb hby at_117) rfl ?_
          show Steps p.tables e below (T67.setTop (mkF m 119 #[.val (.long q0), .second, .val (.long q1), .second, .val (.int p2), .val (.int p3), .val (.int (1 : Int32)), .val (.int (p3.toInt8.toInt32)), .val (.int (own_v0_25_0 p3)), .val (.ref b28), .val (.ref b1_45)] [(.int (1 : Int32))])) _
          refine XS.ifNo X67.here hx rfl (hb hby at_119) rfl ((if0 _ _).trans (feq (by decide : ¬ ((1 : Int32) = (0 : Int32)))).1) ?_
          show Steps p.tables e below (T67.setTop (mkF m 122 #[.val (.long q0), .second, .val (.long q1), .second, .val (.int p2), .val (.int p3), .val (.int (1 : Int32)), .val (.int (p3.toInt8.toInt32)), .val (.int (own_v0_25_0 p3)), .val (.ref b28), .val (.ref b1_45)] [])) _
          refine XS.aload X67.here hx rfl (hb hby at_122) rfl rfl ?_
          show Steps p.tables e below (T67.setTop (mkF m 124 #[.val (.long q0), .second, .val (.long q1), .second, .val (.int p2), .val (.int p3), .val (.int (1 : Int32)), .val (.int (p3.toInt8.toInt32)), .val (.int (own_v0_25_0 p3)), .val (.ref b28), .val (.ref b1_45)] [(.ref b28)])) _
          refine XS.iconst X67.here hx rfl (hb hby at_124) ?_
          show Steps p.tables e below (T67.setTop (mkF m 125 #[.val (.long q0), .second, .val (.long q1), .second, .val (.int p2), .val (.int p3), .val (.int (1 : Int32)), .val (.int (p3.toInt8.toInt32)), .val (.int (own_v0_25_0 p3)), .val (.ref b28), .val (.ref b1_45)] [(.int (0 : Int32)), (.ref b28)])) _
          refine X67.baloadBytes hx (j := (0 : Int32)) (v := (.int (nar .byte (p3.toInt8.toInt32)))) (by rw [e67]; exact Ar69.1) (State.isArrayOf_alike hZ.alike Ar69.2.1) Ar69.2.2 hin69 (Has.at Ha69 hin69 (rfl : (_ : Value) = (.int (nar .byte (p3.toInt8.toInt32))))) (g := (mkF m 125 #[.val (.long q0), .second, .val (.long q1), .second, .val (.int p2), .val (.int p3), .val (.int (1 : Int32)), .val (.int (p3.toInt8.toInt32)), .val (.int (own_v0_25_0 p3)), .val (.ref b28), .val (.ref b1_45)] [(.int (0 : Int32)), (.ref b28)])) rfl rfl (hb hby at_125) _ ?_
          show Steps p.tables e below (T67.setTop (mkF m 126 #[.val (.long q0), .second, .val (.long q1), .second, .val (.int p2), .val (.int p3), .val (.int (1 : Int32)), .val (.int (p3.toInt8.toInt32)), .val (.int (own_v0_25_0 p3)), .val (.ref b28), .val (.ref b1_45)] [(.int (nar .byte (p3.toInt8.toInt32)))])) _
          refine XS.iload X67.here hx rfl (hb hby at_126) rfl ?_
          show Steps p.tables e below (T67.setTop (mkF m 128 #[.val (.long q0), .second, .val (.long q1), .second, .val (.int p2), .val (.int p3), .val (.int (1 : Int32)), .val (.int (p3.toInt8.toInt32)), .val (.int (own_v0_25_0 p3)), .val (.ref b28), .val (.ref b1_45)] [(.int (p3.toInt8.toInt32)), (.int (nar .byte (p3.toInt8.toInt32)))])) _
          exact k)
      by_cases hc71 : (nar .byte (p3.toInt8.toInt32)) = (p3.toInt8.toInt32)
      · obtain ⟨cl72, Ar72, q72, S72, N_72, Ha72, G72⟩ := id f53
        have hin72 : ¬ ((1 : Int32) < 0 ∨ cl72.slots.size ≤ ((1 : Int32)).toNatClampNeg) := inb_of S72 ⟨by decide, by decide⟩
        have pre73 : ∀ t, Steps p.tables e below (T67.setTop (mkF m 137 #[.val (.long q0), .second, .val (.long q1), .second, .val (.int p2), .val (.int p3), .val (.int (1 : Int32)), .val (.int (p3.toInt8.toInt32)), .val (.int (own_v0_25_0 p3)), .val (.ref b28), .val (.ref b1_45)] [(.int (own_v0_25_0 p3)), (.int (nar .byte (own_v0_25_0 p3)))])) t → Steps p.tables e below (s₁.setTop (entryFrame m #[(.long q0), (.long q1), (.int p2), (.int p3)] maxLocals)) t := fun t k => pre70 t (by
            refine XS.icmpNo X67.here hx rfl (hb hby at_128) rfl (teq hc71).2 ?_
            show Steps p.tables e below (T67.setTop (mkF m 131 #[.val (.long q0), .second, .val (.long q1), .second, .val (.int p2), .val (.int p3), .val (.int (1 : Int32)), .val (.int (p3.toInt8.toInt32)), .val (.int (own_v0_25_0 p3)), .val (.ref b28), .val (.ref b1_45)] [])) _
            refine XS.aload X67.here hx rfl (hb hby at_131) rfl rfl ?_
            show Steps p.tables e below (T67.setTop (mkF m 133 #[.val (.long q0), .second, .val (.long q1), .second, .val (.int p2), .val (.int p3), .val (.int (1 : Int32)), .val (.int (p3.toInt8.toInt32)), .val (.int (own_v0_25_0 p3)), .val (.ref b28), .val (.ref b1_45)] [(.ref b28)])) _
            refine XS.iconst X67.here hx rfl (hb hby at_133) ?_
            show Steps p.tables e below (T67.setTop (mkF m 134 #[.val (.long q0), .second, .val (.long q1), .second, .val (.int p2), .val (.int p3), .val (.int (1 : Int32)), .val (.int (p3.toInt8.toInt32)), .val (.int (own_v0_25_0 p3)), .val (.ref b28), .val (.ref b1_45)] [(.int (1 : Int32)), (.ref b28)])) _
            refine X67.baloadBytes hx (j := (1 : Int32)) (v := (.int (nar .byte (own_v0_25_0 p3)))) (by rw [e67]; exact Ar72.1) (State.isArrayOf_alike hZ.alike Ar72.2.1) Ar72.2.2 hin72 (Has.at Ha72 hin72 (rfl : (_ : Value) = (.int (nar .byte (own_v0_25_0 p3))))) (g := (mkF m 134 #[.val (.long q0), .second, .val (.long q1), .second, .val (.int p2), .val (.int p3), .val (.int (1 : Int32)), .val (.int (p3.toInt8.toInt32)), .val (.int (own_v0_25_0 p3)), .val (.ref b28), .val (.ref b1_45)] [(.int (1 : Int32)), (.ref b28)])) rfl rfl (hb hby at_134) _ ?_
            show Steps p.tables e below (T67.setTop (mkF m 135 #[.val (.long q0), .second, .val (.long q1), .second, .val (.int p2), .val (.int p3), .val (.int (1 : Int32)), .val (.int (p3.toInt8.toInt32)), .val (.int (own_v0_25_0 p3)), .val (.ref b28), .val (.ref b1_45)] [(.int (nar .byte (own_v0_25_0 p3)))])) _
            refine XS.iload X67.here hx rfl (hb hby at_135) rfl ?_
            show Steps p.tables e below (T67.setTop (mkF m 137 #[.val (.long q0), .second, .val (.long q1), .second, .val (.int p2), .val (.int p3), .val (.int (1 : Int32)), .val (.int (p3.toInt8.toInt32)), .val (.int (own_v0_25_0 p3)), .val (.ref b28), .val (.ref b1_45)] [(.int (own_v0_25_0 p3)), (.int (nar .byte (own_v0_25_0 p3)))])) _
            exact k)
        by_cases hc74 : (nar .byte (own_v0_25_0 p3)) = (own_v0_25_0 p3)
        · have pre75 : ∀ t, Steps p.tables e below (T67.setTop (mkF m 143 #[.val (.long q0), .second, .val (.long q1), .second, .val (.int p2), .val (.int p3), .val (.int (1 : Int32)), .val (.int (p3.toInt8.toInt32)), .val (.int (own_v0_25_0 p3)), .val (.ref b28), .val (.ref b1_45)] [(.int (1 : Int32))])) t → Steps p.tables e below (s₁.setTop (entryFrame m #[(.long q0), (.long q1), (.int p2), (.int p3)] maxLocals)) t := fun t k => pre73 t (by
              refine XS.icmpYes X67.here hx rfl (pc0 := 137) (pc' := 142) rfl (hb hby at_137) rfl (teq hc74).1 (by decide) (by decide) ?_
              show Steps p.tables e below (T67.setTop (mkF m 142 #[.val (.long q0), .second, .val (.long q1), .second, .val (.int p2), .val (.int p3), .val (.int (1 : Int32)), .val (.int (p3.toInt8.toInt32)), .val (.int (own_v0_25_0 p3)), .val (.ref b28), .val (.ref b1_45)] [])) _
              refine XS.iconst X67.here hx rfl (hb hby at_142) ?_
              show Steps p.tables e below (T67.setTop (mkF m 143 #[.val (.long q0), .second, .val (.long q1), .second, .val (.int p2), .val (.int p3), .val (.int (1 : Int32)), .val (.int (p3.toInt8.toInt32)), .val (.int (own_v0_25_0 p3)), .val (.ref b28), .val (.ref b1_45)] [(.int (1 : Int32))])) _
              exact k)
          obtain ⟨fs, hr, hrun, hended, hW, hsame⟩ := X67.leave (v := some (.int (1 : Int32))) (fun h => by rw [Bd.returns] at h; cases h) (hlocks := hlk)
          refine ⟨_, _, pre75 _ ?_, hrun, hended, _, _, rfl, ?_, ⟨_, rfl⟩, hW, hsame.mono (by decide) (by decide)⟩
          · show Steps p.tables e below (T67.setTop (mkF m 143 #[.val (.long q0), .second, .val (.long q1), .second, .val (.int p2), .val (.int p3), .val (.int (1 : Int32)), .val (.int (p3.toInt8.toInt32)), .val (.int (own_v0_25_0 p3)), .val (.ref b28), .val (.ref b1_45)] [(.int (1 : Int32))])) _
            exact retN X67 hx (t := .boolean) Bd.returns (by simp) (hb hby at_143) hr
          · show own_Q0 Z q0 q1 p2 p3 h0 n0 _ T67.heap _; exact ⟨(by show some (Value.int _) = some (.int (own_f0 p2 p3)); unfold own_f0; rw [if_neg hc2, if_pos hc60, if_pos hc71, if_pos hc74]), N68⟩
        · have pre76 : ∀ t, Steps p.tables e below (T67.setTop (mkF m 141 #[.val (.long q0), .second, .val (.long q1), .second, .val (.int p2), .val (.int p3), .val (.int (1 : Int32)), .val (.int (p3.toInt8.toInt32)), .val (.int (own_v0_25_0 p3)), .val (.ref b28), .val (.ref b1_45)] [(.int (0 : Int32))])) t → Steps p.tables e below (s₁.setTop (entryFrame m #[(.long q0), (.long q1), (.int p2), (.int p3)] maxLocals)) t := fun t k => pre73 t (by
              refine XS.icmpNo X67.here hx rfl (hb hby at_137) rfl (feq hc74).1 ?_
              show Steps p.tables e below (T67.setTop (mkF m 140 #[.val (.long q0), .second, .val (.long q1), .second, .val (.int p2), .val (.int p3), .val (.int (1 : Int32)), .val (.int (p3.toInt8.toInt32)), .val (.int (own_v0_25_0 p3)), .val (.ref b28), .val (.ref b1_45)] [])) _
              refine XS.iconst X67.here hx rfl (hb hby at_140) ?_
              show Steps p.tables e below (T67.setTop (mkF m 141 #[.val (.long q0), .second, .val (.long q1), .second, .val (.int p2), .val (.int p3), .val (.int (1 : Int32)), .val (.int (p3.toInt8.toInt32)), .val (.int (own_v0_25_0 p3)), .val (.ref b28), .val (.ref b1_45)] [(.int (0 : Int32))])) _
              exact k)
          obtain ⟨fs, hr, hrun, hended, hW, hsame⟩ := X67.leave (v := some (.int (0 : Int32))) (fun h => by rw [Bd.returns] at h; cases h) (hlocks := hlk)
          refine ⟨_, _, pre76 _ ?_, hrun, hended, _, _, rfl, ?_, ⟨_, rfl⟩, hW, hsame.mono (by decide) (by decide)⟩
          · show Steps p.tables e below (T67.setTop (mkF m 141 #[.val (.long q0), .second, .val (.long q1), .second, .val (.int p2), .val (.int p3), .val (.int (1 : Int32)), .val (.int (p3.toInt8.toInt32)), .val (.int (own_v0_25_0 p3)), .val (.ref b28), .val (.ref b1_45)] [(.int (0 : Int32))])) _
            exact retN X67 hx (t := .boolean) Bd.returns (by simp) (hb hby at_141) hr
          · show own_Q0 Z q0 q1 p2 p3 h0 n0 _ T67.heap _; exact ⟨(by show some (Value.int _) = some (.int (own_f0 p2 p3)); unfold own_f0; rw [if_neg hc2, if_pos hc60, if_pos hc71, if_neg hc74]), N68⟩
      · have pre77 : ∀ t, Steps p.tables e below (T67.setTop (mkF m 141 #[.val (.long q0), .second, .val (.long q1), .second, .val (.int p2), .val (.int p3), .val (.int (1 : Int32)), .val (.int (p3.toInt8.toInt32)), .val (.int (own_v0_25_0 p3)), .val (.ref b28), .val (.ref b1_45)] [(.int (0 : Int32))])) t → Steps p.tables e below (s₁.setTop (entryFrame m #[(.long q0), (.long q1), (.int p2), (.int p3)] maxLocals)) t := fun t k => pre70 t (by
            refine XS.icmpYes X67.here hx rfl (pc0 := 128) (pc' := 140) rfl (hb hby at_128) rfl (feq hc71).2 (by decide) (by decide) ?_
            show Steps p.tables e below (T67.setTop (mkF m 140 #[.val (.long q0), .second, .val (.long q1), .second, .val (.int p2), .val (.int p3), .val (.int (1 : Int32)), .val (.int (p3.toInt8.toInt32)), .val (.int (own_v0_25_0 p3)), .val (.ref b28), .val (.ref b1_45)] [])) _
            refine XS.iconst X67.here hx rfl (hb hby at_140) ?_
            show Steps p.tables e below (T67.setTop (mkF m 141 #[.val (.long q0), .second, .val (.long q1), .second, .val (.int p2), .val (.int p3), .val (.int (1 : Int32)), .val (.int (p3.toInt8.toInt32)), .val (.int (own_v0_25_0 p3)), .val (.ref b28), .val (.ref b1_45)] [(.int (0 : Int32))])) _
            exact k)
        obtain ⟨fs, hr, hrun, hended, hW, hsame⟩ := X67.leave (v := some (.int (0 : Int32))) (fun h => by rw [Bd.returns] at h; cases h) (hlocks := hlk)
        refine ⟨_, _, pre77 _ ?_, hrun, hended, _, _, rfl, ?_, ⟨_, rfl⟩, hW, hsame.mono (by decide) (by decide)⟩
        · show Steps p.tables e below (T67.setTop (mkF m 141 #[.val (.long q0), .second, .val (.long q1), .second, .val (.int p2), .val (.int p3), .val (.int (1 : Int32)), .val (.int (p3.toInt8.toInt32)), .val (.int (own_v0_25_0 p3)), .val (.ref b28), .val (.ref b1_45)] [(.int (0 : Int32))])) _
          exact retN X67 hx (t := .boolean) Bd.returns (by simp) (hb hby at_141) hr
        · show own_Q0 Z q0 q1 p2 p3 h0 n0 _ T67.heap _; exact ⟨(by show some (Value.int _) = some (.int (own_f0 p2 p3)); unfold own_f0; rw [if_neg hc2, if_pos hc60, if_neg hc71]), N68⟩
    · have pre78 : ∀ t, Steps p.tables e below (T57.setTop (mkF m 68 #[.val (.long q0), .second, .val (.long q1), .second, .val (.int p2), .val (.int p3), .val (.int (1 : Int32)), .val (.int (p3.toInt8.toInt32)), .val (.int (own_v0_25_0 p3)), .val (.ref b28), .val (.ref b1_45)] [(.int (0 : Int32))])) t → Steps p.tables e below (s₁.setTop (entryFrame m #[(.long q0), (.long q1), (.int p2), (.int p3)] maxLocals)) t := fun t k => pre59 t (by
          refine XS.ifNo X57.here hx rfl (hb hby at_64) rfl ((if0 _ _).trans (feq hc60).1) ?_
          show Steps p.tables e below (T57.setTop (mkF m 67 #[.val (.long q0), .second, .val (.long q1), .second, .val (.int p2), .val (.int p3), .val (.int (1 : Int32)), .val (.int (p3.toInt8.toInt32)), .val (.int (own_v0_25_0 p3)), .val (.ref b28), .val (.ref b1_45)] [])) _
          refine XS.iconst X57.here hx rfl (hb hby at_67) ?_
          show Steps p.tables e below (T57.setTop (mkF m 68 #[.val (.long q0), .second, .val (.long q1), .second, .val (.int p2), .val (.int p3), .val (.int (1 : Int32)), .val (.int (p3.toInt8.toInt32)), .val (.int (own_v0_25_0 p3)), .val (.ref b28), .val (.ref b1_45)] [(.int (0 : Int32))])) _
          exact k)
      obtain ⟨fs, hr, hrun, hended, hW, hsame⟩ := X57.leave (v := some (.int (0 : Int32))) (fun h => by rw [Bd.returns] at h; cases h) (hlocks := hlk)
      refine ⟨_, _, pre78 _ ?_, hrun, hended, _, _, rfl, ?_, ⟨_, rfl⟩, hW, hsame.mono (by decide) (by decide)⟩
      · show Steps p.tables e below (T57.setTop (mkF m 68 #[.val (.long q0), .second, .val (.long q1), .second, .val (.int p2), .val (.int p3), .val (.int (1 : Int32)), .val (.int (p3.toInt8.toInt32)), .val (.int (own_v0_25_0 p3)), .val (.ref b28), .val (.ref b1_45)] [(.int (0 : Int32))])) _
        exact retN X57 hx (t := .boolean) Bd.returns (by simp) (hb hby at_68) hr
      · show own_Q0 Z q0 q1 p2 p3 h0 n0 _ T57.heap _; exact ⟨(by show some (Value.int _) = some (.int (own_f0 p2 p3)); unfold own_f0; rw [if_neg hc2, if_neg hc60]), N58⟩
theorem own_e32 {a b : Int32} : a = b ↔ a.toInt = b.toInt := Int32.toInt_inj.symm
theorem own_e64 {a b : Int64} : a = b ↔ a.toInt = b.toInt := Int64.toInt_inj.symm
theorem own_narb (x : Int32) : nar .byte x = x.toInt8.toInt32 := rfl
theorem own_idem (x : Int32) : nar .byte (x.toInt8.toInt32) = x.toInt8.toInt32 := by
  rw [own_narb, own_e32]
  have a1 := c_i2b x
  have a2 := c_i2b (x.toInt8.toInt32)
  omega
theorem own_plain (x y : Int32) : own_f0 x y = 1 := by
  unfold own_f0
  have h1 : nar .boolean (nar .boolean (0 : Int32)) = (0 : Int32) := by decide
  have h2 := own_idem y
  have h3 : nar .byte (own_v0_25_0 y) = own_v0_25_0 y := own_idem _
  simp only [if_pos h1, if_pos h2, if_pos h3, ite_self]
set_option maxRecDepth 65536 in
set_option maxHeartbeats 40000000 in
theorem comes_1 {Post : Tables → Env → Array Value → State → Outcome → State → Prop} (hpost : ∀ tb e args s v u, (limb_1_1.after args s (.returned v) u = true ∧ limb_1_2.after args s (.returned v) u = true ∧ True) → FrameEnd s (.returned v) u (Jvm.fieldLocs frame_1_writes args s ++ Jvm.arrayLocs frame_1_arrays args s ++ Jvm.staticLocs frame_1_statics s) 16 128 → Post tb e args s (.returned v) u) :
    ArmFor flags0 classFile x code maxLocals ret World_1 tables_1 room_1 Calls_1 rest_1 Pre_1 Post := by
  intro l hfl _ _ p e ha hc hk s m args below hf hA hF happ hP
  obtain ⟨hcalls, hrest, hpre⟩ := hP
  obtain ⟨-, -, -, hnamed, -, -, -, hat⟩ := (Spec.applies_iff hf).mp happ
  obtain ⟨hg, hn⟩ := and_e (Cond.before_iff.mp (show (Jvm.Cond.and given_1 narrow_1).before args s = true from hpre))
  obtain ⟨gc, gr0⟩ := and_e hg
  obtain ⟨ga0, gr1⟩ := and_e gr0
  obtain ⟨ga1, gr2⟩ := and_e gr1
  obtain ⟨ga2, gr3⟩ := and_e gr2
  have ga3 := gr3
  obtain ⟨w0, w1, w2, w3, rfl⟩ : ∃ w0 w1 w2 w3 : Value, args = #[w0, w1, w2, w3] := by
    have hs : args.size = 4 := by simpa [Cond.value, given_1] using gc
    obtain ⟨L⟩ := args
    match L, hs with
    | [w0, w1, w2, w3], _ => exact ⟨w0, w1, w2, w3, rfl⟩
  have hw := fun d (hd : d ∈ tables_1) => atoms_spec (ws := Jvm.Cond.code x code maxLocals ret :: tables_1) hat d (List.mem_cons_of_mem _ hd)
  obtain ⟨i0, ei0⟩ := isL_v ga0
  obtain rfl : w0 = (.long i0) := Option.some.inj ei0
  obtain ⟨i1, ei1⟩ := isL_v ga1
  obtain rfl : w1 = (.long i1) := Option.some.inj ei1
  obtain ⟨i2, ei2⟩ := is_v ga2
  obtain rfl : w2 = (.int i2) := Option.some.inj ei2
  obtain ⟨i3, ei3⟩ := is_v ga3
  obtain rfl : w3 = (.int i3) := Option.some.inj ei3
  obtain ⟨n, o, h1, h2, h3, _, L, rfl, ⟨hv, N⟩, hq⟩ := own_rm0 l s _ hw tables_1 i0 i1 i2 i3 s.heap s.heap.size (Nat.le_refl _) p e ha hc hk s m _ below hf ((Spec.applies_iff_loose hf).mp happ).1 ⟨rfl, State.Warmed39.refl s, rfl⟩ trivial
  rw [show (own_f0 i2 i3) = (1 : Int32) from own_plain i2 i3] at hv
  subst hv
  refine ⟨n, _, h1, h2, h3, hpost _ _ _ _ _ _ ⟨Cond.after_iff.mpr rfl, Cond.after_iff.mpr (eq_i res_at (Term.int_eval (1)) rfl), trivial⟩ ⟨hq.1, hq.2.1, (hq.2.2.sift fun y hy => Or.inr (N y hy)).mono (by decide) (by decide)⟩⟩
theorem main_1_1 : Claimed_1_1 := comes_1 fun _ _ _ _ _ _ h hF => ⟨h.1, hF⟩
theorem main_1_2 : Claimed_1_2 := comes_1 fun _ _ _ _ _ _ h hF => ⟨h.2.1, hF⟩
end Jvm.Pilot.@@N@@
namespace Jvm.Pilot.@@N@@
open Jvm Jvm.ClassFile Sem Op Lib Jvm.Free Jvm.Stand Jvm.Pilot.@@N@@.Jvm.D
/-! MADE BY PROGRAM (witnessworld.py) out of the Statement's table words and the real class files: 10 classes; the members and pool entries that the words name. The judged class is class 1, her method 1. -/
namespace start1
open Jvm.ClassFile
def u (s : String) : CpInfo := .utf8 (stringToUtf16 s)
/-- a pool by its gaps: so many unusable entries, then the entry; so many at the end -/
def gap : Nat → List CpInfo → List CpInfo
  | 0, r => r
  | n + 1, r => .unusable :: gap n r
def poolList (es : List (Nat × CpInfo)) (last : Nat) : List CpInfo := es.foldr (fun e r => gap e.1 (e.2 :: r)) (gap last [])
def pool (es : List (Nat × CpInfo)) (last : Nat) : Array CpInfo := ⟨poolList es last⟩
def fileOf (pool : Array CpInfo) (this : Nat) (attrs : Array Attribute := #[]) (ms : Array MethodInfo := #[]) (fl : Nat := 33) (sup : Nat := 0) (ifs : Array Nat := #[]) (fds : Array FieldInfo := #[]) : ClassFile where
  minorVersion := 0
  majorVersion := 65
  constantPool := pool
  accessFlags := fl
  thisClass := this
  superClass := sup
  interfaces := ifs
  fields := fds
  methods := ms
  attributes := attrs
def plain (name : String) (sup : Option ClassId) : Class where
  name := name
  kind := .ordinary
  loader := none
  accessFlags := 33
  super := sup
  interfaces := #[]
  cf := none
  fields := #[]
  methods := #[]
  instanceTypes := #[]
  staticTypes := #[]
  resolved := #[]
  callSites := []
  init := .initialized
  statics := none
  mirror := none

def pool0 : Array CpInfo := pool [(5, u "<init>"), (0, u "()V"), (1, .class_ 10), (1, u "java/lang/Object")] 113

def k0c0 : Code := { maxStack := 0, maxLocals := 1, code := object_method_1_code, exceptionTable := #[], attributes := #[] }
def k0m0 : Method := { name := "<init>", desc := "()V", sig := { parameters := [], returnType := none }, accessFlags := 1, code := some k0c0 }
/-- java/lang/Object -/
def k0 : Class := { plain "java/lang/Object" none with
  accessFlags := 33
  interfaces := #[]
  cf := some (fileOf pool0 8 #[] #[{ accessFlags := 1, nameIndex := 5, descriptorIndex := 6, attributes := #[] }] 33 0 #[] #[])
  fields := #[]
  methods := #[k0m0]
  instanceTypes := #[]
  staticTypes := #[]
  resolved := Array.replicate 124 none
  statics := none }

def pool1 : Array CpInfo := pool [(2, .class_ 4), (1, u "java/lang/Object"), (0, u "<init>"), (0, u "()V"), (0, .methodref 8 9), (0, .class_ 10), (0, .nameAndType 11 12), (0, u "com/example/ufunguo/ufunguo/lock/LockStore$Attempt"), (0, u "refused"), (0, u "(J[BJ)Lcom/example/ufunguo/ufunguo/lock/LockStore$Attempt;"), (0, .methodref 8 14), (0, .nameAndType 15 16), (0, u "taken"), (0, u "()Z"), (0, .methodref 8 18), (0, .nameAndType 19 20), (0, u "token"), (0, u "()J"), (0, .methodref 8 22), (0, .nameAndType 23 20), (0, u "sleepNanos"), (0, .methodref 8 25), (0, .nameAndType 26 20), (0, u "readMicros"), (0, .methodref 8 28), (0, .nameAndType 29 30), (0, u "holder"), (0, u "()[B"), (0, .class_ 32), (0, u "com/example/ufunguo/ufunguo/lock/AttemptRefusedPinLaw"), (2, u "law"), (0, u "(JJII)Z")] 9

def k1m0 : Method := { name := "<init>", desc := "()V", sig := { parameters := [], returnType := none }, accessFlags := 1, code := none }
def k1c1 : Code := { maxStack := 5, maxLocals := 11, code := code, exceptionTable := #[], attributes := #[] }
def k1m1 : Method := { name := "law", desc := "(JJII)Z", sig := { parameters := [.long, .long, .int, .int], returnType := some .boolean }, accessFlags := 9, code := some k1c1 }
/-- com/example/ufunguo/ufunguo/lock/AttemptRefusedPinLaw -/
def k1 : Class := { plain "com/example/ufunguo/ufunguo/lock/AttemptRefusedPinLaw" (some 0) with
  accessFlags := 49
  interfaces := #[]
  cf := some (fileOf pool1 31 #[] #[{ accessFlags := 1, nameIndex := 5, descriptorIndex := 6, attributes := #[] }, { accessFlags := 9, nameIndex := 35, descriptorIndex := 36, attributes := #[] }] 49 2 #[] #[])
  fields := #[]
  methods := #[k1m0, k1m1]
  instanceTypes := #[]
  staticTypes := #[]
  resolved := Array.replicate 46 none
  statics := none }

def pool2 : Array CpInfo := pool [(1, .methodref 2 3), (0, .class_ 4), (0, .nameAndType 5 6), (0, u "java/lang/Object"), (0, u "<init>"), (0, u "()V"), (0, .class_ 8), (0, u "java/lang/Record")] 13

def k2c0 : Code := { maxStack := 1, maxLocals := 1, code := jdk_30_method_1_code, exceptionTable := #[], attributes := #[] }
def k2m0 : Method := { name := "<init>", desc := "()V", sig := { parameters := [], returnType := none }, accessFlags := 4, code := some k2c0 }
/-- java/lang/Record -/
def k2 : Class := { plain "java/lang/Record" (some 0) with
  accessFlags := 1057
  interfaces := #[]
  cf := some (fileOf pool2 7 #[] #[{ accessFlags := 4, nameIndex := 5, descriptorIndex := 6, attributes := #[] }] 1057 2 #[] #[])
  fields := #[]
  methods := #[k2m0]
  instanceTypes := #[]
  staticTypes := #[]
  resolved := Array.replicate 22 none
  statics := none }

def pool3 : Array CpInfo := pool [(1, .methodref 2 3), (0, .class_ 4), (0, .nameAndType 5 6), (0, u "java/lang/Record"), (0, u "<init>"), (0, u "()V"), (0, .fieldref 8 9), (0, .class_ 10), (0, .nameAndType 11 12), (0, u "com/example/ufunguo/ufunguo/lock/LockStore$Attempt"), (0, u "taken"), (0, u "Z"), (0, .fieldref 8 14), (0, .nameAndType 15 16), (0, u "token"), (0, u "J"), (0, .fieldref 8 18), (0, .nameAndType 19 16), (0, u "sleepNanos"), (0, .fieldref 8 21), (0, .nameAndType 22 23), (0, u "holder"), (0, u "[B"), (0, .fieldref 8 25), (0, .nameAndType 26 16), (0, u "readMicros"), (0, .methodref 8 28), (0, .nameAndType 5 29), (0, u "(ZJJ[BJ)V"), (16, u "refused"), (0, u "(J[BJ)Lcom/example/ufunguo/ufunguo/lock/LockStore$Attempt;"), (3, u "()Z"), (0, u "()J"), (0, u "()[B"), (3, .class_ 58), (0, u "com/example/ufunguo/ufunguo/lock/LockStore")] 23

def k3c0 : Code := { maxStack := 3, maxLocals := 9, code := prog_6_method_1_code, exceptionTable := #[], attributes := #[] }
def k3m0 : Method := { name := "<init>", desc := "(ZJJ[BJ)V", sig := { parameters := [.boolean, .long, .long, (.array .byte), .long], returnType := none }, accessFlags := 1, code := some k3c0 }
def k3c1 : Code := { maxStack := 10, maxLocals := 5, code := prog_6_method_3_code, exceptionTable := #[], attributes := #[] }
def k3m1 : Method := { name := "refused", desc := "(J[BJ)Lcom/example/ufunguo/ufunguo/lock/LockStore$Attempt;", sig := { parameters := [.long, (.array .byte), .long], returnType := some (.object "com/example/ufunguo/ufunguo/lock/LockStore$Attempt") }, accessFlags := 9, code := some k3c1 }
def k3c2 : Code := { maxStack := 1, maxLocals := 1, code := prog_6_method_7_code, exceptionTable := #[], attributes := #[] }
def k3m2 : Method := { name := "taken", desc := "()Z", sig := { parameters := [], returnType := some .boolean }, accessFlags := 1, code := some k3c2 }
def k3c3 : Code := { maxStack := 2, maxLocals := 1, code := prog_6_method_8_code, exceptionTable := #[], attributes := #[] }
def k3m3 : Method := { name := "token", desc := "()J", sig := { parameters := [], returnType := some .long }, accessFlags := 1, code := some k3c3 }
def k3c4 : Code := { maxStack := 2, maxLocals := 1, code := prog_6_method_9_code, exceptionTable := #[], attributes := #[] }
def k3m4 : Method := { name := "sleepNanos", desc := "()J", sig := { parameters := [], returnType := some .long }, accessFlags := 1, code := some k3c4 }
def k3c5 : Code := { maxStack := 1, maxLocals := 1, code := prog_6_method_10_code, exceptionTable := #[], attributes := #[] }
def k3m5 : Method := { name := "holder", desc := "()[B", sig := { parameters := [], returnType := some (.array .byte) }, accessFlags := 1, code := some k3c5 }
def k3c6 : Code := { maxStack := 2, maxLocals := 1, code := prog_6_method_11_code, exceptionTable := #[], attributes := #[] }
def k3m6 : Method := { name := "readMicros", desc := "()J", sig := { parameters := [], returnType := some .long }, accessFlags := 1, code := some k3c6 }
/-- com/example/ufunguo/ufunguo/lock/LockStore$Attempt -/
def k3 : Class := { plain "com/example/ufunguo/ufunguo/lock/LockStore$Attempt" (some 2) with
  accessFlags := 49
  interfaces := #[]
  cf := some (fileOf pool3 8 #[.nestHost 57] #[{ accessFlags := 1, nameIndex := 5, descriptorIndex := 29, attributes := #[] }, { accessFlags := 9, nameIndex := 46, descriptorIndex := 47, attributes := #[] }, { accessFlags := 1, nameIndex := 11, descriptorIndex := 51, attributes := #[] }, { accessFlags := 1, nameIndex := 15, descriptorIndex := 52, attributes := #[] }, { accessFlags := 1, nameIndex := 19, descriptorIndex := 52, attributes := #[] }, { accessFlags := 1, nameIndex := 22, descriptorIndex := 53, attributes := #[] }, { accessFlags := 1, nameIndex := 26, descriptorIndex := 52, attributes := #[] }] 49 2 #[] #[{ accessFlags := 18, nameIndex := 11, descriptorIndex := 12, attributes := #[] }, { accessFlags := 18, nameIndex := 15, descriptorIndex := 16, attributes := #[] }, { accessFlags := 18, nameIndex := 19, descriptorIndex := 16, attributes := #[] }, { accessFlags := 18, nameIndex := 22, descriptorIndex := 23, attributes := #[] }, { accessFlags := 18, nameIndex := 26, descriptorIndex := 16, attributes := #[] }])
  fields := #[{ name := "taken", type := .boolean, accessFlags := 18, slot := 0, constantValue := 0 }, { name := "token", type := .long, accessFlags := 18, slot := 1, constantValue := 0 }, { name := "sleepNanos", type := .long, accessFlags := 18, slot := 2, constantValue := 0 }, { name := "holder", type := (.array .byte), accessFlags := 18, slot := 3, constantValue := 0 }, { name := "readMicros", type := .long, accessFlags := 18, slot := 4, constantValue := 0 }]
  methods := #[k3m0, k3m1, k3m2, k3m3, k3m4, k3m5, k3m6]
  instanceTypes := #[.boolean, .long, .long, (.array .byte), .long]
  staticTypes := #[]
  resolved := Array.replicate 82 none
  statics := none }

def pool4 : Array CpInfo := pool [(1, u "java/lang/Cloneable"), (0, .class_ 1), (0, u "java/lang/Object"), (0, .class_ 3)] 3

/-- java/lang/Cloneable -/
def k4 : Class := { plain "java/lang/Cloneable" (some 0) with
  accessFlags := 1537
  interfaces := #[]
  cf := some (fileOf pool4 2 #[] #[] 1537 4 #[] #[])
  fields := #[]
  methods := #[]
  instanceTypes := #[]
  staticTypes := #[]
  resolved := Array.replicate 8 none
  statics := none }

def pool5 : Array CpInfo := pool [(1, u "java/io/Serializable"), (0, .class_ 1), (0, u "java/lang/Object"), (0, .class_ 3)] 3

/-- java/io/Serializable -/
def k5 : Class := { plain "java/io/Serializable" (some 0) with
  accessFlags := 1537
  interfaces := #[]
  cf := some (fileOf pool5 2 #[] #[] 1537 4 #[] #[])
  fields := #[]
  methods := #[]
  instanceTypes := #[]
  staticTypes := #[]
  resolved := Array.replicate 8 none
  statics := none }

/-- the primitive byte -/
def k6 : Class := { plain "byte" none with kind := .primitive 'B', accessFlags := 0x411 }
/-- [B -/
def k7 : Class := { plain "[B" (some 0) with kind := .array 6 .byte, interfaces := #[4, 5], accessFlags := 1041 }

/-- the primitive int -/
def k8 : Class := { plain "int" none with kind := .primitive 'I', accessFlags := 0x411 }
/-- [I -/
def k9 : Class := { plain "[I" (some 0) with kind := .array 8 .int, interfaces := #[4, 5], accessFlags := 1041 }

def heap : Heap := #[]
def classes : Array Class := #[k0, k1, k2, k3, k4, k5, k6, k7, k8, k9]
def interned : List (Array UInt16 × Addr) := []
def slotsUsed : Nat := 0
def theMethod : MethodId := ⟨1, 1⟩
def args0 : Array Value := #[.long 5, .long 6, .int 1, .int 7]
def aboutOver (below : List Frame) : State where
  vm := { classes := classes, interned := interned.toArray }
  heap := heap
  slotsUsed := slotsUsed
  threads := #[{ frames := .invoking theMethod args0 :: below }]
def below0 : List Frame := [.native { method := ⟨0, 0⟩, args := #[] }]
def about1 : State := aboutOver below0
def p0 : Program := .bare "" "" ""
def e0 : Env := launch0.env 0 0 0
theorem w_frames : about1.frames = Frame.invoking theMethod args0 :: below0 := rfl
set_option maxRecDepth 65536 in
theorem w_args : argsFit about1.vm theMethod args0 = true := by decide +kernel
set_option maxRecDepth 65536 in
theorem w_heap : heapFits about1 = true := by decide +kernel
set_option maxRecDepth 65536 in
theorem w_runnable : about1.curStatus? = some .runnable := by decide +kernel
set_option maxRecDepth 65536 in
theorem w_alone : about1.alone = true := by decide +kernel
set_option maxRecDepth 65536 in
theorem w_named : about1.methodNamed? x = some theMethod := by decide +kernel
set_option maxRecDepth 65536 in
theorem w_hears : about1.hears theMethod below0 = true := by decide +kernel
set_option maxRecDepth 65536 in
theorem w_ripe : about1.ripe theMethod args0 below0 = true := by decide +kernel
theorem w_running : about1.status = .running := rfl
set_option maxRecDepth 65536 in
theorem w_room : about1.hasRoom e0.platform room_1 = true :=
  launch0.hasRoom_least _ room_1 (by decide +kernel) (by decide +kernel) (by decide +kernel) (by decide +kernel) (by decide +kernel) (by decide +kernel)
theorem allAtoms_all (ts : List Jvm.Cond) (a : Array Jvm.Value) (st : Jvm.State) : (allAtoms ts).before a st = ts.all (fun c => c.before a st) := by
  induction ts with
  | nil => rfl
  | cons c t ih =>
    show (Jvm.Cond.and c (allAtoms t)).before a st = _
    rw [Jvm.Cond.before_and, ih, List.all_cons]
def words1 : List Jvm.Cond := Jvm.Cond.code x code maxLocals ret :: tables_1
/-- a 'code' word, met by the world's own term for the bytes: nothing is compared byte by byte -/
theorem code_word {y : MethodName} {bytes : ByteArray} {mx : Nat} {rt : Option FieldType} {a : Array Value} {s : State} {m : MethodId} {meth : Method} {c : Code} (h1 : s.methodNamed? y = some m) (h2 : s.vm.method? m = some meth) (h3 : meth.code = some c) (h4 : c.code = bytes)
    (h5 : (c.maxLocals == mx && c.exceptionTable.isEmpty && decide (c.maxStack ≤ mostOperands) && decide (meth.sig.returnType = rt) && !meth.locks && decide (parseMethodDescriptor y.desc = some meth.sig)) = true) : (Jvm.Cond.code y bytes mx rt).before a s = true := by
  simp only [Bool.and_eq_true, beq_iff_eq, Bool.not_eq_true', decide_eq_true_eq] at h5
  obtain ⟨⟨⟨⟨⟨g1, g2⟩, g3⟩, g4⟩, g5⟩, g6⟩ := h5
  simp [Cond.before, Cond.holds, Cond.value, h1, h2, h3, h4, g1, g2, g3, g4, g5, g6]
def isCode : Jvm.Cond → Bool
  | .code _ _ _ _ => true
  | _ => false
theorem all_split {L : List Jvm.Cond} {P : Jvm.Cond → Bool} (h1 : L.all (fun c => isCode c || P c) = true) (h2 : ∀ c ∈ L.filter isCode, P c = true) : L.all P = true := by
  refine List.all_eq_true.mpr fun c hc => ?_
  have h := List.all_eq_true.mp h1 c hc
  rcases Bool.eq_false_or_eq_true (isCode c) with hi | hi
  · exact h2 c (List.mem_filter.mpr ⟨hc, hi⟩)
  · simpa [hi] using h
set_option maxRecDepth 65536 in
theorem w_c0 : (Jvm.Cond.code x code maxLocals ret).before args0 about1 = true := code_word (m := ⟨1, 1⟩) (meth := k1m1) (c := k1c1) (by decide +kernel) rfl rfl rfl (by decide +kernel)
set_option maxRecDepth 65536 in
theorem w_c1 : (Jvm.Cond.code ({ cls := "com/example/ufunguo/ufunguo/lock/LockStore$Attempt", name := "refused", desc := "(J[BJ)Lcom/example/ufunguo/ufunguo/lock/LockStore$Attempt;" } : Jvm.MethodName) prog_6_method_3_code (5 : Nat) (Option.some (Jvm.ClassFile.FieldType.object "com/example/ufunguo/ufunguo/lock/LockStore$Attempt"))).before args0 about1 = true := code_word (m := ⟨3, 1⟩) (meth := k3m1) (c := k3c1) (by decide +kernel) rfl rfl rfl (by decide +kernel)
set_option maxRecDepth 65536 in
theorem w_c2 : (Jvm.Cond.code ({ cls := "com/example/ufunguo/ufunguo/lock/LockStore$Attempt", name := "<init>", desc := "(ZJJ[BJ)V" } : Jvm.MethodName) prog_6_method_1_code (9 : Nat) (Option.none : Option Jvm.ClassFile.FieldType)).before args0 about1 = true := code_word (m := ⟨3, 0⟩) (meth := k3m0) (c := k3c0) (by decide +kernel) rfl rfl rfl (by decide +kernel)
set_option maxRecDepth 65536 in
theorem w_c3 : (Jvm.Cond.code ({ cls := "java/lang/Record", name := "<init>", desc := "()V" } : Jvm.MethodName) jdk_30_method_1_code (1 : Nat) (Option.none : Option Jvm.ClassFile.FieldType)).before args0 about1 = true := code_word (m := ⟨2, 0⟩) (meth := k2m0) (c := k2c0) (by decide +kernel) rfl rfl rfl (by decide +kernel)
set_option maxRecDepth 65536 in
theorem w_c4 : (Jvm.Cond.code ({ cls := "java/lang/Object", name := "<init>", desc := "()V" } : Jvm.MethodName) object_method_1_code (1 : Nat) (Option.none : Option Jvm.ClassFile.FieldType)).before args0 about1 = true := code_word (m := ⟨0, 0⟩) (meth := k0m0) (c := k0c0) (by decide +kernel) rfl rfl rfl (by decide +kernel)
set_option maxRecDepth 65536 in
theorem w_c5 : (Jvm.Cond.code ({ cls := "com/example/ufunguo/ufunguo/lock/LockStore$Attempt", name := "taken", desc := "()Z" } : Jvm.MethodName) prog_6_method_7_code (1 : Nat) (Option.some Jvm.ClassFile.FieldType.boolean)).before args0 about1 = true := code_word (m := ⟨3, 2⟩) (meth := k3m2) (c := k3c2) (by decide +kernel) rfl rfl rfl (by decide +kernel)
set_option maxRecDepth 65536 in
theorem w_c6 : (Jvm.Cond.code ({ cls := "com/example/ufunguo/ufunguo/lock/LockStore$Attempt", name := "token", desc := "()J" } : Jvm.MethodName) prog_6_method_8_code (1 : Nat) (Option.some Jvm.ClassFile.FieldType.long)).before args0 about1 = true := code_word (m := ⟨3, 3⟩) (meth := k3m3) (c := k3c3) (by decide +kernel) rfl rfl rfl (by decide +kernel)
set_option maxRecDepth 65536 in
theorem w_c7 : (Jvm.Cond.code ({ cls := "com/example/ufunguo/ufunguo/lock/LockStore$Attempt", name := "sleepNanos", desc := "()J" } : Jvm.MethodName) prog_6_method_9_code (1 : Nat) (Option.some Jvm.ClassFile.FieldType.long)).before args0 about1 = true := code_word (m := ⟨3, 4⟩) (meth := k3m4) (c := k3c4) (by decide +kernel) rfl rfl rfl (by decide +kernel)
set_option maxRecDepth 65536 in
theorem w_c8 : (Jvm.Cond.code ({ cls := "com/example/ufunguo/ufunguo/lock/LockStore$Attempt", name := "readMicros", desc := "()J" } : Jvm.MethodName) prog_6_method_11_code (1 : Nat) (Option.some Jvm.ClassFile.FieldType.long)).before args0 about1 = true := code_word (m := ⟨3, 6⟩) (meth := k3m6) (c := k3c6) (by decide +kernel) rfl rfl rfl (by decide +kernel)
set_option maxRecDepth 65536 in
theorem w_c9 : (Jvm.Cond.code ({ cls := "com/example/ufunguo/ufunguo/lock/LockStore$Attempt", name := "holder", desc := "()[B" } : Jvm.MethodName) prog_6_method_10_code (1 : Nat) (Option.some (Jvm.ClassFile.FieldType.array Jvm.ClassFile.FieldType.byte))).before args0 about1 = true := code_word (m := ⟨3, 5⟩) (meth := k3m5) (c := k3c5) (by decide +kernel) rfl rfl rfl (by decide +kernel)
def codes1 : List Jvm.Cond := [Jvm.Cond.code x code maxLocals ret, Jvm.Cond.code ({ cls := "com/example/ufunguo/ufunguo/lock/LockStore$Attempt", name := "refused", desc := "(J[BJ)Lcom/example/ufunguo/ufunguo/lock/LockStore$Attempt;" } : Jvm.MethodName) prog_6_method_3_code (5 : Nat) (Option.some (Jvm.ClassFile.FieldType.object "com/example/ufunguo/ufunguo/lock/LockStore$Attempt")), Jvm.Cond.code ({ cls := "com/example/ufunguo/ufunguo/lock/LockStore$Attempt", name := "<init>", desc := "(ZJJ[BJ)V" } : Jvm.MethodName) prog_6_method_1_code (9 : Nat) (Option.none : Option Jvm.ClassFile.FieldType), Jvm.Cond.code ({ cls := "java/lang/Record", name := "<init>", desc := "()V" } : Jvm.MethodName) jdk_30_method_1_code (1 : Nat) (Option.none : Option Jvm.ClassFile.FieldType), Jvm.Cond.code ({ cls := "java/lang/Object", name := "<init>", desc := "()V" } : Jvm.MethodName) object_method_1_code (1 : Nat) (Option.none : Option Jvm.ClassFile.FieldType), Jvm.Cond.code ({ cls := "com/example/ufunguo/ufunguo/lock/LockStore$Attempt", name := "taken", desc := "()Z" } : Jvm.MethodName) prog_6_method_7_code (1 : Nat) (Option.some Jvm.ClassFile.FieldType.boolean), Jvm.Cond.code ({ cls := "com/example/ufunguo/ufunguo/lock/LockStore$Attempt", name := "token", desc := "()J" } : Jvm.MethodName) prog_6_method_8_code (1 : Nat) (Option.some Jvm.ClassFile.FieldType.long), Jvm.Cond.code ({ cls := "com/example/ufunguo/ufunguo/lock/LockStore$Attempt", name := "sleepNanos", desc := "()J" } : Jvm.MethodName) prog_6_method_9_code (1 : Nat) (Option.some Jvm.ClassFile.FieldType.long), Jvm.Cond.code ({ cls := "com/example/ufunguo/ufunguo/lock/LockStore$Attempt", name := "readMicros", desc := "()J" } : Jvm.MethodName) prog_6_method_11_code (1 : Nat) (Option.some Jvm.ClassFile.FieldType.long), Jvm.Cond.code ({ cls := "com/example/ufunguo/ufunguo/lock/LockStore$Attempt", name := "holder", desc := "()[B" } : Jvm.MethodName) prog_6_method_10_code (1 : Nat) (Option.some (Jvm.ClassFile.FieldType.array Jvm.ClassFile.FieldType.byte))]
set_option maxRecDepth 65536 in
theorem codes_eq : words1.filter isCode = codes1 := rfl
theorem w_codes : ∀ c ∈ words1.filter isCode, c.before args0 about1 = true := by
  rw [codes_eq]
  intro c hc
  simp only [codes1, List.mem_cons, List.not_mem_nil, or_false] at hc
  rcases hc with rfl | rfl | rfl | rfl | rfl | rfl | rfl | rfl | rfl | rfl
  · exact w_c0
  · exact w_c1
  · exact w_c2
  · exact w_c3
  · exact w_c4
  · exact w_c5
  · exact w_c6
  · exact w_c7
  · exact w_c8
  · exact w_c9
set_option maxRecDepth 65536 in
theorem w_t1 : (words1.take 24).all (fun c => isCode c || c.before args0 about1) = true := by decide +kernel
set_option maxRecDepth 65536 in
theorem w_t2 : ((words1.drop 24).take 24).all (fun c => isCode c || c.before args0 about1) = true := by decide +kernel
set_option maxRecDepth 65536 in
theorem w_t3 : ((words1.drop 24).drop 24).all (fun c => isCode c || c.before args0 about1) = true := by decide +kernel
theorem w_tables : (allAtoms (Jvm.Cond.code x code maxLocals ret :: tables_1)).before args0 about1 = true := by
  rw [allAtoms_all]
  show words1.all (fun c => c.before args0 about1) = true
  refine all_split ?_ w_codes
  rw [← List.take_append_drop 24 words1, List.all_append, w_t1, ← List.take_append_drop 24 (words1.drop 24), List.all_append, w_t2, w_t3]
  rfl
set_option maxRecDepth 65536 in
theorem w_case : (Jvm.Cond.and given_1 narrow_1).before args0 about1 = true := by decide +kernel
theorem w_applies : (headSpec (Jvm.Cond.code x code maxLocals ret :: tables_1) room_1).applies x e0.platform about1 = true :=
  (Spec.applies_iff w_frames).mpr ⟨w_running, w_runnable, w_alone, w_named, w_hears, w_ripe, w_room, w_tables⟩
theorem atStart : AtStart classFile x code maxLocals ret World_1 tables_1 room_1 Calls_1 rest_1 Pre_1 launch0 p0 e0 about1 theMethod args0 below0 :=
  ⟨lists_1, trivial, launch0.admits_env _ _ _, launch0.least_env, fairChoices_fair.cas, fairChoices_fair.clock, w_frames, w_args, w_heap, w_applies, trivial, trivial, w_case⟩
end start1
theorem witness_1 : WitnessClaimed_1 := ⟨start1.p0, start1.e0, start1.about1, start1.theMethod, start1.args0, start1.below0, start1.atStart⟩
end Jvm.Pilot.@@N@@
