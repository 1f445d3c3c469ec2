import JvmDerived
import JvmDerived.Pilot.@@N@@Statement
import JvmDerived.Pilot.@@N@@Code
set_option linter.unusedVariables false
set_option linter.unusedSimpArgs false
namespace Jvm.RoadKit
open Sem ClassFile Op Lib Jvm.Stand Jvm.Free Jvm.LawKit
section New
variable {p : Program} {l : Launch} {e : Env} {R : Room} {s : State} {m : MethodId} {args : Array Value} {below : List Frame} {meth : Method} {c : Code} {T : State} {locs : List Loc} {cells slots : Nat}
theorem retI (X : Stand p l e R s m args below meth c T locs cells slots) (hx : p.tables.exec = Jvm.exec) {pc : Nat} {Ls : Array Slot} {z : Int32} {rest : List Value} (hret : meth.sig.returnType = some .int) (hd : decode c.code pc = .ok (.ireturn, 1)) {fs : List Frame}
    (hl : ∀ (f : JFrame) (acts : List Action), f.method = m → f.locked = none → f.entered = [] → (doReturn e (T.setTop f) acts (some (.int z))).1 = T.setFrames fs) : Steps p.tables e below (T.setTop (mkF m pc Ls (.int z :: rest))) (T.setFrames fs) := by
  have hm' : T.vm.method? m = some meth := X.method'
  have hn : narrow .int (.int z) = .int z := rfl
  show Steps p.tables e below (T.setTop { method := m, pc := pc, locals := Ls, stack := _ :: rest, locked := none }) _
  jvm_step X.here [X.here.top, hx, hd, hm', hret, hn]
  first | (intro acts; rw [hl _ acts rfl rfl rfl]) | rw [hl _ _ rfl rfl rfl]
  exact Steps.refl _
end New
end Jvm.RoadKit
namespace Jvm.Pilot.@@N@@
open Jvm Jvm.ClassFile Sem Op Lib Jvm.Free Jvm.Stand Jvm.LawKit Jvm.RoadKit Bundle Jvm.Pilot.@@N@@.Jvm.D
theorem own_lw_lt (x y : Int64) : lcmpW x y < 0 ↔ x < y := by rw [lcW]; exact lc_lt x y
theorem own_lw_gt (x y : Int64) : 0 < lcmpW x y ↔ y < x := by rw [lcW]; exact lc_gt x y
theorem own_lw_eq (x y : Int64) : lcmpW x y = 0 ↔ x = y := by rw [lcW]; exact lc_eq x y
theorem own_retJ {p : Program} {l : Launch} {e : Env} {R : Room} {s : State} {m : MethodId} {args : Array Value} {below : List Frame} {meth : Method} {c : Code} {T : State} {locs : List Loc} {cells slots : Nat} (X : Stand p l e R s m args below meth c T locs cells slots) (hx : p.tables.exec = Jvm.exec) {pc : Nat} {Ls : Array Slot} {z : Int64} {rest : List Value} (hret : meth.sig.returnType = some .long) (hd : decode c.code pc = .ok (.lreturn, 1)) {fs : List Frame}
    (hl : ∀ (f : JFrame) (acts : List Action), f.method = m → f.locked = none → f.entered = [] → (doReturn e (T.setTop f) acts (some (.long z))).1 = T.setFrames fs) : Steps p.tables e below (T.setTop (mkF m pc Ls (.long z :: rest))) (T.setFrames fs) := by
  have hm' : T.vm.method? m = some meth := X.method'
  have hn : narrow .long (.long z) = .long z := rfl
  show Steps p.tables e below (T.setTop { method := m, pc := pc, locals := Ls, stack := _ :: rest, locked := none }) _
  jvm_step X.here [X.here.top, hx, hd, hm', hret, hn]
  first | (intro acts; rw [hl _ acts rfl rfl rfl]) | rw [hl _ _ rfl rfl rfl]
  exact Steps.refl _
theorem own_ne32 {k n : Int32} (h : ¬ k = n) : n.toInt ≠ k.toInt := fun e => h (Int32.toInt_inj.mp e.symm)
theorem own_d2_0 : decode prog_13_method_1_code 0 = .ok (.aload_n 0, 1) := by decide +kernel
theorem own_d2_1 : decode prog_13_method_1_code 1 = .ok (.invokespecial 1, 3) := by decide +kernel
theorem own_d2_4 : decode prog_13_method_1_code 4 = .ok (.aload_n 0, 1) := by decide +kernel
theorem own_d2_5 : decode prog_13_method_1_code 5 = .ok (.iload_n 1, 1) := by decide +kernel
theorem own_d2_6 : decode prog_13_method_1_code 6 = .ok (.putfield 7, 3) := by decide +kernel
theorem own_d2_9 : decode prog_13_method_1_code 9 = .ok (.aload_n 0, 1) := by decide +kernel
theorem own_d2_10 : decode prog_13_method_1_code 10 = .ok (.aload_n 2, 1) := by decide +kernel
theorem own_d2_11 : decode prog_13_method_1_code 11 = .ok (.putfield 13, 3) := by decide +kernel
theorem own_d2_14 : decode prog_13_method_1_code 14 = .ok (.aload_n 0, 1) := by decide +kernel
theorem own_d2_15 : decode prog_13_method_1_code 15 = .ok (.iload_n 3, 1) := by decide +kernel
theorem own_d2_16 : decode prog_13_method_1_code 16 = .ok (.putfield 17, 3) := by decide +kernel
theorem own_d2_19 : decode prog_13_method_1_code 19 = .ok (.return_, 1) := by decide +kernel
theorem own_pn2 : plainName "com/example/firm_query/firmquery/IRegexpParser$CharClass" = true := by first | (simp [plainName, overriddenIn]; done) | decide +kernel
theorem own_ef2 (m : MethodId) (x0 : Addr) (x1 : Int32) (x2 : Addr) (x3 : Int32) : entryFrame m #[(.ref x0), (.int x1), (.ref x2), (.int x3)] 4 = (mkF m 0 #[.val (.ref x0), .val (.int x1), .val (.ref x2), .val (.int x3)] []) := by first | (simp [entryFrame, mkF, argsToLocals, Value.category]; done) | rfl
def own_Q2 (Z : State) (o0 : Addr) (p1 : Int32) (o2 : Addr) (p3 : Int32) (u_ranges_o0 : Value) (u_categories_o0 : Value) (u_negated_o0 : Value) (h0 : Heap) (n0 : Nat) (v : Option Value) (h : Heap) (L : List Loc) : Prop := v = none ∧ Fr n0 L ∧ Keep h0 h [o0] ∧ Fld Z h o0 "com/example/firm_query/firmquery/IRegexpParser$CharClass" "ranges" "[I" (.ref o2) ∧ Fld Z h o0 "com/example/firm_query/firmquery/IRegexpParser$CharClass" "categories" "I" (.int p3) ∧ Exa Z h o0 "com/example/firm_query/firmquery/IRegexpParser$CharClass" ∧ Fld Z h o0 "com/example/firm_query/firmquery/IRegexpParser$CharClass" "negated" "Z" (.int (nar .boolean p1))
set_option maxRecDepth 65536 in
set_option maxHeartbeats 40000000 in
theorem own_rm2 (l : Launch) (Z : State) (a0 : Array Value) (hw : ∀ d ∈ tables_1, d.before a0 Z = true) (ws : List Jvm.Cond) (o0 : Addr) (p1 : Int32) (o2 : Addr) (p3 : Int32) (u_ranges_o0 : Value) (u_categories_o0 : Value) (u_negated_o0 : Value) (h0 : Heap) (n0 : Nat) (Z0 : n0 ≤ h0.size) (P_F_o0_ranges : Fld Z h0 o0 "com/example/firm_query/firmquery/IRegexpParser$CharClass" "ranges" "[I" u_ranges_o0) (P_F_o0_categories : Fld Z h0 o0 "com/example/firm_query/firmquery/IRegexpParser$CharClass" "categories" "I" u_categories_o0) (P_E_o0 : Exa Z h0 o0 "com/example/firm_query/firmquery/IRegexpParser$CharClass") (P_F_o0_negated : Fld Z h0 o0 "com/example/firm_query/firmquery/IRegexpParser$CharClass" "negated" "Z" u_negated_o0) (G_o0 : n0 ≤ o0) :
    MetFree l (⟨"com/example/firm_query/firmquery/IRegexpParser$CharClass", "<init>", "(Z[II)V"⟩ : MethodName) (head1 (Jvm.Cond.code (⟨"com/example/firm_query/firmquery/IRegexpParser$CharClass", "<init>", "(Z[II)V"⟩ : MethodName) prog_13_method_1_code 4 none :: ws) ({ frames := 1, cells := 0, slots := 0, locals := 12 } : Room)) (fun a U => a = #[(.ref o0), (.int p1), (.ref o2), (.int p3)] ∧ Z.Warmed39 U.vm ∧ U.heap = h0) (fun _ _ _ _ _ => True) (fun _ U o U' => ∃ v L, o = .returned v ∧ own_Q2 Z o0 p1 o2 p3 u_ranges_o0 u_categories_o0 u_negated_o0 h0 n0 v U'.heap L ∧ FrameEnd U o U' L ({ frames := 1, cells := 0, slots := 0, locals := 12 } : Room).cells ({ frames := 1, cells := 0, slots := 0, locals := 12 } : Room).slots) := by
  refine MetFree.of_bodySF (plainFor_of_name own_pn2) hisR ?_
  intro p e s m args below meth c s₁ Bd hml0 hP hK
  obtain ⟨rfl, hZ, hh⟩ := hP
  have hx := Bd.exec
  have hlk : meth.locks = false := BodyLoose.notSynchronized Bd
  have hby := Bd.bytes
  have hml : c.maxLocals = 4 := hml0
  have hown : s.vm.findClass "com/example/firm_query/firmquery/IRegexpParser$CharClass" = some m.cls := findClass_of_methodNamed Bd.named
  have hnm := (name_of_methodNamed Bd.named Bd.method).1
  have X0 : Stand p l e ({ frames := 1, cells := 0, slots := 0, locals := 12 } : Room) s m #[(.ref o0), (.int p1), (.ref o2), (.int p3)] below meth c s₁ [] 0 0 := Stand.of_body Bd
  have e0 : s₁.heap = h0 := by rw [← hh, Bd.state]; rfl
  have N0 := Fr.nil n0
  have pre0 : ∀ t, Steps p.tables e below (s₁.setTop (mkF m 0 #[.val (.ref o0), .val (.int p1), .val (.ref o2), .val (.int p3)] [])) t → Steps p.tables e below (s₁.setTop (entryFrame m #[(.ref o0), (.int p1), (.ref o2), (.int p3)] 4)) t := fun t k => castTop (own_ef2 m o0 p1 o2 p3) k
  obtain ⟨T1, X1, e1, st1⟩ := initO X0 hx hZ hown (hw _ (List.mem_of_getElem? (i := 10) rfl)) (hw _ (List.mem_of_getElem? (i := 11) rfl)) (hw _ (List.mem_of_getElem? (i := 12) rfl)) e0 (g := (mkF m 1 #[.val (.ref o0), .val (.int p1), .val (.ref o2), .val (.int p3)] [(.ref o0)])) rfl (by rw [hml]; rfl) rfl (hb hby own_d2_1) (by decide) (W := 0) (by show 2 * 0 + _ ≤ _; exact Nat.le_of_eq rfl) (by decide)
  obtain ⟨T2, h2, X2, e2, W2, st2⟩ := putFN X1 hx hZ hown (hw _ (List.mem_of_getElem? (i := 13) rfl)) Via.refl e1 P_F_o0_negated P_E_o0 (Or.inr ⟨(hw _ (List.mem_of_getElem? (i := 14) rfl)), rfl, hnm⟩) (hw _ (List.mem_of_getElem? (i := 5) rfl)) (ty := .boolean) (v' := (.int (nar .boolean p1))) (by decide) rfl (fits_nar_bool _) (g := (mkF m 6 #[.val (.ref o0), .val (.int p1), .val (.ref o2), .val (.int p3)] [(.int p1), (.ref o0)])) rfl rfl (hb hby own_d2_6)
  have f3 : Fld Z h2 o0 "com/example/firm_query/firmquery/IRegexpParser$CharClass" "ranges" "[I" u_ranges_o0 := P_F_o0_ranges.other W2 (Or.inr (slot_ne (Or.inr (hw _ (List.mem_of_getElem? (i := 16) rfl))) (Or.inr (hw _ (List.mem_of_getElem? (i := 14) rfl))) (by decide) (t := (.array .int)) (t' := .boolean) (by decide) (by decide)))
  have f4 : Fld Z h2 o0 "com/example/firm_query/firmquery/IRegexpParser$CharClass" "categories" "I" u_categories_o0 := P_F_o0_categories.other W2 (Or.inr (slot_ne (Or.inr (hw _ (List.mem_of_getElem? (i := 18) rfl))) (Or.inr (hw _ (List.mem_of_getElem? (i := 14) rfl))) (by decide) (t := .int) (t' := .boolean) (by decide) (by decide)))
  have f5 : Exa Z h2 o0 "com/example/firm_query/firmquery/IRegexpParser$CharClass" := P_E_o0.wr W2
  have f6 : Fld Z h2 o0 "com/example/firm_query/firmquery/IRegexpParser$CharClass" "negated" "Z" (.int (nar .boolean p1)) := P_F_o0_negated.same W2
  have zs7 : n0 ≤ h2.size := Nat.le_trans Z0 (Keep.of_wr W2).1
  have N8 := Fr.snoc X2 N0 G_o0
  have K9 : Keep h0 h0 [o0] := Keep.refl h0 [o0]
  have K10 : Keep h0 h2 [o0] := K9.wr W2 (Or.inl (by simp))
  obtain ⟨T11, h11, X11, e11, W11, st11⟩ := putF X2 hx hZ hown (host := "") (Or.inl (hw _ (List.mem_of_getElem? (i := 15) rfl))) Via.refl e2 f3 f5 (Or.inr ⟨(hw _ (List.mem_of_getElem? (i := 16) rfl)), rfl, hnm⟩) (hw _ (List.mem_of_getElem? (i := 5) rfl)) (ty := (.array .int)) (by decide) rfl rfl (g := (mkF m 11 #[.val (.ref o0), .val (.int p1), .val (.ref o2), .val (.int p3)] [(.ref o2), (.ref o0)])) rfl rfl (hb hby own_d2_11)
  have f12 : Fld Z h11 o0 "com/example/firm_query/firmquery/IRegexpParser$CharClass" "ranges" "[I" (.ref o2) := f3.same W11
  have f13 : Fld Z h11 o0 "com/example/firm_query/firmquery/IRegexpParser$CharClass" "categories" "I" u_categories_o0 := f4.other W11 (Or.inr (slot_ne (Or.inr (hw _ (List.mem_of_getElem? (i := 18) rfl))) (Or.inr (hw _ (List.mem_of_getElem? (i := 16) rfl))) (by decide) (t := .int) (t' := (.array .int)) (by decide) (by decide)))
  have f14 : Exa Z h11 o0 "com/example/firm_query/firmquery/IRegexpParser$CharClass" := f5.wr W11
  have f15 : Fld Z h11 o0 "com/example/firm_query/firmquery/IRegexpParser$CharClass" "negated" "Z" (.int (nar .boolean p1)) := f6.other W11 (Or.inr (slot_ne (Or.inr (hw _ (List.mem_of_getElem? (i := 14) rfl))) (Or.inr (hw _ (List.mem_of_getElem? (i := 16) rfl))) (by decide) (t := .boolean) (t' := (.array .int)) (by decide) (by decide)))
  have zs16 : n0 ≤ h11.size := Nat.le_trans zs7 (Keep.of_wr W11).1
  have N17 := Fr.snoc X11 N8 G_o0
  have K18 : Keep h0 h11 [o0] := K10.wr W11 (Or.inl (by simp))
  obtain ⟨T19, h19, X19, e19, W19, st19⟩ := putF X11 hx hZ hown (host := "") (Or.inl (hw _ (List.mem_of_getElem? (i := 17) rfl))) Via.refl e11 f13 f14 (Or.inr ⟨(hw _ (List.mem_of_getElem? (i := 18) rfl)), rfl, hnm⟩) (hw _ (List.mem_of_getElem? (i := 5) rfl)) (ty := .int) (by decide) rfl rfl (g := (mkF m 16 #[.val (.ref o0), .val (.int p1), .val (.ref o2), .val (.int p3)] [(.int p3), (.ref o0)])) rfl rfl (hb hby own_d2_16)
  have f20 : Fld Z h19 o0 "com/example/firm_query/firmquery/IRegexpParser$CharClass" "ranges" "[I" (.ref o2) := f12.other W19 (Or.inr (slot_ne (Or.inr (hw _ (List.mem_of_getElem? (i := 16) rfl))) (Or.inr (hw _ (List.mem_of_getElem? (i := 18) rfl))) (by decide) (t := (.array .int)) (t' := .int) (by decide) (by decide)))
  have f21 : Fld Z h19 o0 "com/example/firm_query/firmquery/IRegexpParser$CharClass" "categories" "I" (.int p3) := f13.same W19
  have f22 : Exa Z h19 o0 "com/example/firm_query/firmquery/IRegexpParser$CharClass" := f14.wr W19
  have f23 : Fld Z h19 o0 "com/example/firm_query/firmquery/IRegexpParser$CharClass" "negated" "Z" (.int (nar .boolean p1)) := f15.other W19 (Or.inr (slot_ne (Or.inr (hw _ (List.mem_of_getElem? (i := 14) rfl))) (Or.inr (hw _ (List.mem_of_getElem? (i := 18) rfl))) (by decide) (t := .boolean) (t' := .int) (by decide) (by decide)))
  have zs24 : n0 ≤ h19.size := Nat.le_trans zs16 (Keep.of_wr W19).1
  have N25 := Fr.snoc X19 N17 G_o0
  have K26 : Keep h0 h19 [o0] := K18.wr W19 (Or.inl (by simp))
  have pre27 : ∀ t, Steps p.tables e below (T19.setTop (mkF m 19 #[.val (.ref o0), .val (.int p1), .val (.ref o2), .val (.int p3)] [])) t → Steps p.tables e below (s₁.setTop (entryFrame m #[(.ref o0), (.int p1), (.ref o2), (.int p3)] 4)) t := fun t k => pre0 t (by
      refine XS.aloadN X0.here hx rfl (hb hby own_d2_0) rfl rfl ?_
      show Steps p.tables e below (s₁.setTop (mkF m 1 #[.val (.ref o0), .val (.int p1), .val (.ref o2), .val (.int p3)] [(.ref o0)])) _
      refine st1 _ ?_
      show Steps p.tables e below (T1.setTop (mkF m 4 #[.val (.ref o0), .val (.int p1), .val (.ref o2), .val (.int p3)] [])) _
      refine XS.aloadN X1.here hx rfl (hb hby own_d2_4) rfl rfl ?_
      show Steps p.tables e below (T1.setTop (mkF m 5 #[.val (.ref o0), .val (.int p1), .val (.ref o2), .val (.int p3)] [(.ref o0)])) _
      refine XS.iloadN X1.here hx rfl (hb hby own_d2_5) rfl ?_
      show Steps p.tables e below (T1.setTop (mkF m 6 #[.val (.ref o0), .val (.int p1), .val (.ref o2), .val (.int p3)] [(.int p1), (.ref o0)])) _
      refine st2 _ ?_
      show Steps p.tables e below (T2.setTop (mkF m 9 #[.val (.ref o0), .val (.int p1), .val (.ref o2), .val (.int p3)] [])) _
      refine XS.aloadN X2.here hx rfl (hb hby own_d2_9) rfl rfl ?_
      show Steps p.tables e below (T2.setTop (mkF m 10 #[.val (.ref o0), .val (.int p1), .val (.ref o2), .val (.int p3)] [(.ref o0)])) _
      refine XS.aloadN X2.here hx rfl (hb hby own_d2_10) rfl rfl ?_
      show Steps p.tables e below (T2.setTop (mkF m 11 #[.val (.ref o0), .val (.int p1), .val (.ref o2), .val (.int p3)] [(.ref o2), (.ref o0)])) _
      refine st11 _ ?_
      show Steps p.tables e below (T11.setTop (mkF m 14 #[.val (.ref o0), .val (.int p1), .val (.ref o2), .val (.int p3)] [])) _
      refine XS.aloadN X11.here hx rfl (hb hby own_d2_14) rfl rfl ?_
      show Steps p.tables e below (T11.setTop (mkF m 15 #[.val (.ref o0), .val (.int p1), .val (.ref o2), .val (.int p3)] [(.ref o0)])) _
      refine XS.iloadN X11.here hx rfl (hb hby own_d2_15) rfl ?_
      show Steps p.tables e below (T11.setTop (mkF m 16 #[.val (.ref o0), .val (.int p1), .val (.ref o2), .val (.int p3)] [(.int p3), (.ref o0)])) _
      refine st19 _ ?_
      show Steps p.tables e below (T19.setTop (mkF m 19 #[.val (.ref o0), .val (.int p1), .val (.ref o2), .val (.int p3)] [])) _
      exact k)
  obtain ⟨fs, hr, hrun, hended, hW, hsame⟩ := X19.leave (v := none) (fun _ => rfl) (hlocks := hlk)
  refine ⟨_, _, pre27 _ ?_, hrun, hended, _, _, rfl, ?_, ⟨_, rfl⟩, hW, hsame.mono (by decide) (by decide)⟩
  · show Steps p.tables e below (T19.setTop (mkF m 19 #[.val (.ref o0), .val (.int p1), .val (.ref o2), .val (.int p3)] [])) _
    exact X19.returnOut hx Bd.returns (hb hby own_d2_19) hr
  · show own_Q2 Z o0 p1 o2 p3 u_ranges_o0 u_categories_o0 u_negated_o0 h0 n0 _ T19.heap _; rw [e19]; exact ⟨rfl, N25, K26, f20, f21, f22, f23⟩
theorem own_pd0 : parseMethodDescriptor "(Z[II)V" = some ⟨[.boolean, (.array .int), .int], none⟩ := by decide +kernel
theorem own_d1_0 : decode prog_13_method_2_code 0 = .ok (.new 8, 3) := by decide +kernel
theorem own_d1_3 : decode prog_13_method_2_code 3 = .ok (.dup, 1) := by decide +kernel
theorem own_d1_4 : decode prog_13_method_2_code 4 = .ok (.iconst 0, 1) := by decide +kernel
theorem own_d1_5 : decode prog_13_method_2_code 5 = .ok (.iconst 2, 1) := by decide +kernel
theorem own_d1_6 : decode prog_13_method_2_code 6 = .ok (.newarray .int, 2) := by decide +kernel
theorem own_d1_8 : decode prog_13_method_2_code 8 = .ok (.dup, 1) := by decide +kernel
theorem own_d1_9 : decode prog_13_method_2_code 9 = .ok (.iconst 0, 1) := by decide +kernel
theorem own_d1_10 : decode prog_13_method_2_code 10 = .ok (.iload_n 0, 1) := by decide +kernel
theorem own_d1_11 : decode prog_13_method_2_code 11 = .ok (.iastore, 1) := by decide +kernel
theorem own_d1_12 : decode prog_13_method_2_code 12 = .ok (.dup, 1) := by decide +kernel
theorem own_d1_13 : decode prog_13_method_2_code 13 = .ok (.iconst 1, 1) := by decide +kernel
theorem own_d1_14 : decode prog_13_method_2_code 14 = .ok (.iload_n 0, 1) := by decide +kernel
theorem own_d1_15 : decode prog_13_method_2_code 15 = .ok (.iastore, 1) := by decide +kernel
theorem own_d1_16 : decode prog_13_method_2_code 16 = .ok (.iconst 0, 1) := by decide +kernel
theorem own_d1_17 : decode prog_13_method_2_code 17 = .ok (.invokespecial 21, 3) := by decide +kernel
theorem own_d1_20 : decode prog_13_method_2_code 20 = .ok (.areturn, 1) := by decide +kernel
theorem own_pn1 : plainName "com/example/firm_query/firmquery/IRegexpParser$CharClass" = true := by first | (simp [plainName, overriddenIn]; done) | decide +kernel
theorem own_ef1 (m : MethodId) (x0 : Int32) : entryFrame m #[(.int x0)] 1 = (mkF m 0 #[.val (.int x0)] []) := by first | (simp [entryFrame, mkF, argsToLocals, Value.category]; done) | rfl
def own_Q1 (Z : State) (p0 : Int32) (h0 : Heap) (n0 : Nat) (v : Option Value) (h : Heap) (L : List Loc) : Prop := ∃ b1 : Addr, ∃ b8 : Addr, ∃ k8 : ClassId, v = some (.ref b1) ∧ Fr n0 L ∧ Keep h0 h [] ∧ h0.size ≤ b1 ∧ h0.size ≤ b8 ∧ Exa Z h b1 "com/example/firm_query/firmquery/IRegexpParser$CharClass" ∧ Fld Z h b1 "com/example/firm_query/firmquery/IRegexpParser$CharClass" "negated" "Z" (.int (nar .boolean (0 : Int32))) ∧ Fld Z h b1 "com/example/firm_query/firmquery/IRegexpParser$CharClass" "ranges" "[I" (.ref b8) ∧ Fld Z h b1 "com/example/firm_query/firmquery/IRegexpParser$CharClass" "categories" "I" (.int (0 : Int32)) ∧ Arv Z h b8 k8 .int (2 : Int32) [(.int p0), (.int p0)] (.int (0 : Int32))
set_option maxRecDepth 65536 in
set_option maxHeartbeats 40000000 in
theorem own_rm1 (l : Launch) (Z : State) (a0 : Array Value) (hw : ∀ d ∈ tables_1, d.before a0 Z = true) (ws : List Jvm.Cond) (p0 : Int32) (h0 : Heap) (n0 : Nat) (Z0 : n0 ≤ h0.size) :
    MetFree l (⟨"com/example/firm_query/firmquery/IRegexpParser$CharClass", "of", "(I)Lcom/example/firm_query/firmquery/IRegexpParser$CharClass;"⟩ : MethodName) (head1 (Jvm.Cond.code (⟨"com/example/firm_query/firmquery/IRegexpParser$CharClass", "of", "(I)Lcom/example/firm_query/firmquery/IRegexpParser$CharClass;"⟩ : MethodName) prog_13_method_2_code 1 (some (.object "com/example/firm_query/firmquery/IRegexpParser$CharClass")) :: ws) ({ frames := 2, cells := 2, slots := 5, locals := 28 } : Room)) (fun a U => a = #[(.int p0)] ∧ Z.Warmed39 U.vm ∧ U.heap = h0) (fun _ _ _ _ _ => True) (fun _ U o U' => ∃ v L, o = .returned v ∧ own_Q1 Z p0 h0 n0 v U'.heap L ∧ FrameEnd U o U' L ({ frames := 2, cells := 2, slots := 5, locals := 28 } : Room).cells ({ frames := 2, cells := 2, slots := 5, locals := 28 } : Room).slots) := by
  refine MetFree.of_bodySF (plainFor_of_name own_pn1) hisR ?_
  intro p e s m args below meth c s₁ Bd hml0 hP hK
  obtain ⟨rfl, hZ, hh⟩ := hP
  have hx := Bd.exec
  have hlk : meth.locks = false := BodyLoose.notSynchronized Bd
  have hby := Bd.bytes
  have hml : c.maxLocals = 1 := hml0
  have hown : s.vm.findClass "com/example/firm_query/firmquery/IRegexpParser$CharClass" = some m.cls := findClass_of_methodNamed Bd.named
  have hnm := (name_of_methodNamed Bd.named Bd.method).1
  have X0 : Stand p l e ({ frames := 2, cells := 2, slots := 5, locals := 28 } : Room) s m #[(.int p0)] below meth c s₁ [] 0 0 := Stand.of_body Bd
  have e0 : s₁.heap = h0 := by rw [← hh, Bd.state]; rfl
  have N0 := Fr.nil n0
  have pre0 : ∀ t, Steps p.tables e below (s₁.setTop (mkF m 0 #[.val (.int p0)] [])) t → Steps p.tables e below (s₁.setTop (entryFrame m #[(.int p0)] 1)) t := fun t k => castTop (own_ef1 m p0) k
  obtain ⟨T1, h1, X1, e1, E1, A1, D1, -, st1⟩ := newO X0 hx hZ hown (hw _ (List.mem_of_getElem? (i := 4) rfl)) (hw _ (List.mem_of_getElem? (i := 5) rfl)) (hw _ (List.mem_of_getElem? (i := 2) rfl)) e0 (g := (mkF m 0 #[.val (.int p0)] [])) rfl (hb hby own_d1_0) (by decide) (by decide)
  obtain ⟨b1, g1⟩ : ∃ z, z = h0.size := ⟨_, rfl⟩
  rw [← g1] at A1 D1 st1
  have g_b1 : n0 ≤ b1 := Nat.le_trans Z0 (Nat.le_of_eq g1.symm)
  have K2 : Keep h0 h0 [] := Keep.refl h0 []
  have sz_b1 : h0.size ≤ b1 := Nat.le_trans K2.1 (Nat.le_of_eq g1.symm)
  have zs3 : n0 ≤ h1.size := Nat.le_trans Z0 E1.1
  have K4 : Keep h0 h1 [] := K2.ext E1
  have f5 : Fld Z h1 b1 "com/example/firm_query/firmquery/IRegexpParser$CharClass" "negated" "Z" (.int (0 : Int32)) := D1 (Or.inr (hw _ (List.mem_of_getElem? (i := 14) rfl))) (ty := .boolean) (by decide)
  have f6 : Fld Z h1 b1 "com/example/firm_query/firmquery/IRegexpParser$CharClass" "ranges" "[I" .null := D1 (Or.inr (hw _ (List.mem_of_getElem? (i := 16) rfl))) (ty := (.array .int)) (by decide)
  have f7 : Fld Z h1 b1 "com/example/firm_query/firmquery/IRegexpParser$CharClass" "categories" "I" (.int (0 : Int32)) := D1 (Or.inr (hw _ (List.mem_of_getElem? (i := 18) rfl))) (ty := .int) (by decide)
  obtain ⟨T8, h8, k8, X8, e8, E8, A8, st8⟩ := newP X1 hx hZ (hw _ (List.mem_of_getElem? (i := 6) rfl)) e1 (g := (mkF m 6 #[.val (.int p0)] [(.int (2 : Int32)), (.int (0 : Int32)), (.ref b1), (.ref b1)])) rfl (hb hby own_d1_6) rfl (by decide) (cap := 2) (by decide) (by decide) (by decide) (by decide)
  obtain ⟨b8, g8⟩ : ∃ z, z = h1.size := ⟨_, rfl⟩
  rw [← g8] at A8 st8
  have g_b8 : n0 ≤ b8 := Nat.le_trans zs3 (Nat.le_of_eq g8.symm)
  have sz_b8 : h0.size ≤ b8 := Nat.le_trans K4.1 (Nat.le_of_eq g8.symm)
  have lt9 : b1 < b8 := Nat.lt_of_lt_of_le f7.lt (Nat.le_of_eq g8.symm)
  have f10 : Exa Z h8 b1 "com/example/firm_query/firmquery/IRegexpParser$CharClass" := A1.ext E8
  have f11 : Fld Z h8 b1 "com/example/firm_query/firmquery/IRegexpParser$CharClass" "negated" "Z" (.int (0 : Int32)) := f5.ext E8
  have f12 : Fld Z h8 b1 "com/example/firm_query/firmquery/IRegexpParser$CharClass" "ranges" "[I" .null := f6.ext E8
  have f13 : Fld Z h8 b1 "com/example/firm_query/firmquery/IRegexpParser$CharClass" "categories" "I" (.int (0 : Int32)) := f7.ext E8
  have zs14 : n0 ≤ h8.size := Nat.le_trans zs3 E8.1
  have K15 : Keep h0 h8 [] := K4.ext E8
  have f16 : Arv Z h8 b8 k8 .int (2 : Int32) [(.int (0 : Int32)), (.int (0 : Int32))] (.int (0 : Int32)) := (Arv.new A8 (by decide)).pad (pad_rep [] (.int (0 : Int32)) 2)
  obtain ⟨cl17, Ar17, q17, S17, N_17, Ha17, G17⟩ := id f16
  have hin17 : ¬ ((0 : Int32) < 0 ∨ cl17.slots.size ≤ ((0 : Int32)).toNatClampNeg) := inb_of S17 ⟨by decide, by decide⟩
  obtain ⟨T18, h18, X18, e18, W18, st18⟩ := stI X8 hx hZ e8 Ar17 (j := (0 : Int32)) hin17 (g := (mkF m 11 #[.val (.int p0)] [(.int p0), (.int (0 : Int32)), (.ref b8), (.ref b8), (.int (0 : Int32)), (.ref b1), (.ref b1)])) rfl rfl (hb hby own_d1_11)
  have f19 : Arv Z h18 b8 k8 .int (2 : Int32) [(.int p0), (.int (0 : Int32))] (.int (0 : Int32)) := Arv.set Ar17 q17 S17 N_17 Ha17 G17 rfl W18 0 rfl (Nat.le_of_ble_eq_true rfl)
  have f20 : Exa Z h18 b1 "com/example/firm_query/firmquery/IRegexpParser$CharClass" := f10.wr W18
  have f21 : Fld Z h18 b1 "com/example/firm_query/firmquery/IRegexpParser$CharClass" "negated" "Z" (.int (0 : Int32)) := f11.other W18 (Or.inl (Nat.ne_of_lt lt9))
  have f22 : Fld Z h18 b1 "com/example/firm_query/firmquery/IRegexpParser$CharClass" "ranges" "[I" .null := f12.other W18 (Or.inl (Nat.ne_of_lt lt9))
  have f23 : Fld Z h18 b1 "com/example/firm_query/firmquery/IRegexpParser$CharClass" "categories" "I" (.int (0 : Int32)) := f13.other W18 (Or.inl (Nat.ne_of_lt lt9))
  have zs24 : n0 ≤ h18.size := Nat.le_trans zs14 (Keep.of_wr W18).1
  have N25 := Fr.snoc X18 N0 g_b8
  have K26 : Keep h0 h18 [] := K15.wr W18 (Or.inr sz_b8)
  obtain ⟨cl27, Ar27, q27, S27, N_27, Ha27, G27⟩ := id f19
  have hin27 : ¬ ((1 : Int32) < 0 ∨ cl27.slots.size ≤ ((1 : Int32)).toNatClampNeg) := inb_of S27 ⟨by decide, by decide⟩
  obtain ⟨T28, h28, X28, e28, W28, st28⟩ := stI X18 hx hZ e18 Ar27 (j := (1 : Int32)) hin27 (g := (mkF m 15 #[.val (.int p0)] [(.int p0), (.int (1 : Int32)), (.ref b8), (.ref b8), (.int (0 : Int32)), (.ref b1), (.ref b1)])) rfl rfl (hb hby own_d1_15)
  have f29 : Arv Z h28 b8 k8 .int (2 : Int32) [(.int p0), (.int p0)] (.int (0 : Int32)) := Arv.set Ar27 q27 S27 N_27 Ha27 G27 rfl W28 1 rfl (Nat.le_of_ble_eq_true rfl)
  have f30 : Exa Z h28 b1 "com/example/firm_query/firmquery/IRegexpParser$CharClass" := f20.wr W28
  have f31 : Fld Z h28 b1 "com/example/firm_query/firmquery/IRegexpParser$CharClass" "negated" "Z" (.int (0 : Int32)) := f21.other W28 (Or.inl (Nat.ne_of_lt lt9))
  have f32 : Fld Z h28 b1 "com/example/firm_query/firmquery/IRegexpParser$CharClass" "ranges" "[I" .null := f22.other W28 (Or.inl (Nat.ne_of_lt lt9))
  have f33 : Fld Z h28 b1 "com/example/firm_query/firmquery/IRegexpParser$CharClass" "categories" "I" (.int (0 : Int32)) := f23.other W28 (Or.inl (Nat.ne_of_lt lt9))
  have zs34 : n0 ≤ h28.size := Nat.le_trans zs24 (Keep.of_wr W28).1
  have N35 := Fr.snoc X28 N25 g_b8
  have K36 : Keep h0 h28 [] := K26.wr W28 (Or.inr sz_b8)
  obtain ⟨_, _, ⟨T37, L37, k37, n37⟩, -, X37, ⟨Lc37, hQ37, l37, y37, z37⟩, st37⟩ := X28.specialBack hx (y := (⟨"com/example/firm_query/firmquery/IRegexpParser$CharClass", "<init>", "(Z[II)V"⟩ : MethodName)) rfl hown (mvT hZ (hw _ (List.mem_of_getElem? (i := 7) rfl))) (mvT hZ (hw _ (List.mem_of_getElem? (i := 8) rfl))) (mvT hZ (hw _ (List.mem_of_getElem? (i := 9) rfl))) (by decide) (backOf (W := 1) (own_rm2 l Z a0 hw [] b1 (0 : Int32) b8 (0 : Int32) .null (.int (0 : Int32)) (.int (0 : Int32)) h28 n0 zs34 f32 f33 f30 f31 g_b1) hZ (hw _ (List.mem_of_getElem? (i := 9) rfl)) (hw _ (List.mem_of_getElem? (i := 2) rfl)) (by decide) (by decide)) (g := (mkF m 17 #[.val (.int p0)] [(.int (0 : Int32)), (.ref b8), (.int (0 : Int32)), (.ref b1), (.ref b1)])) rfl (by rw [hml]; rfl) (Steps.refl _) (a := b1) (argsL := [(.int (0 : Int32)), (.ref b8), (.int (0 : Int32))]) (rest := [(.ref b1)]) (lenOf own_pd0 rfl) rfl (by show 2 * 0 + _ ≤ _; exact Nat.le_of_eq rfl) (hb hby own_d1_17) (fun _ _ => ⟨rfl, e28, (by decide : 2 + 0 ≤ _), (by decide : 5 + 0 ≤ _)⟩)
  dsimp only [Pt.U, Pt.locs, Pt.cells, Pt.slots] at X37 l37 y37 z37 st37 hQ37
  subst l37 y37 z37
  obtain ⟨rfl, N37q, K37, f38, f39, f40, f41⟩ := hQ37
  have f42 : Arv Z T37.heap b8 k8 .int (2 : Int32) [(.int p0), (.int p0)] (.int (0 : Int32)) := f29.keep K37 (ninS (Nat.ne_of_gt lt9) nin0)
  have zs43 : n0 ≤ T37.heap.size := Nat.le_trans zs34 K37.1
  have K44 : Keep h0 T37.heap [] := K36.trans K37 (allS (Or.inr sz_b1) all0)
  have N45 := Fr.app N35 N37q
  have pre46 : ∀ t, Steps p.tables e below (T37.setTop (mkF m 20 #[.val (.int p0)] [(.ref b1)])) t → Steps p.tables e below (s₁.setTop (entryFrame m #[(.int p0)] 1)) t := fun t k => pre0 t (by
      refine st1 _ ?_
      show Steps p.tables e below (T1.setTop (mkF m 3 #[.val (.int p0)] [(.ref b1)])) _
      refine XS.dup X1.here hx rfl (hb hby own_d1_3) rfl rfl ?_
      show Steps p.tables e below (T1.setTop (mkF m 4 #[.val (.int p0)] [(.ref b1), (.ref b1)])) _
      refine XS.iconst X1.here hx rfl (hb hby own_d1_4) ?_
      show Steps p.tables e below (T1.setTop (mkF m 5 #[.val (.int p0)] [(.int (0 : Int32)), (.ref b1), (.ref b1)])) _
      refine XS.iconst X1.here hx rfl (hb hby own_d1_5) ?_
      show Steps p.tables e below (T1.setTop (mkF m 6 #[.val (.int p0)] [(.int (2 : Int32)), (.int (0 : Int32)), (.ref b1), (.ref b1)])) _
      refine st8 _ ?_
      show Steps p.tables e below (T8.setTop (mkF m 8 #[.val (.int p0)] [(.ref b8), (.int (0 : Int32)), (.ref b1), (.ref b1)])) _
      refine XS.dup X8.here hx rfl (hb hby own_d1_8) rfl rfl ?_
      show Steps p.tables e below (T8.setTop (mkF m 9 #[.val (.int p0)] [(.ref b8), (.ref b8), (.int (0 : Int32)), (.ref b1), (.ref b1)])) _
      refine XS.iconst X8.here hx rfl (hb hby own_d1_9) ?_
      show Steps p.tables e below (T8.setTop (mkF m 10 #[.val (.int p0)] [(.int (0 : Int32)), (.ref b8), (.ref b8), (.int (0 : Int32)), (.ref b1), (.ref b1)])) _
      refine XS.iloadN X8.here hx rfl (hb hby own_d1_10) rfl ?_
      show Steps p.tables e below (T8.setTop (mkF m 11 #[.val (.int p0)] [(.int p0), (.int (0 : Int32)), (.ref b8), (.ref b8), (.int (0 : Int32)), (.ref b1), (.ref b1)])) _
      refine st18 _ ?_
      show Steps p.tables e below (T18.setTop (mkF m 12 #[.val (.int p0)] [(.ref b8), (.int (0 : Int32)), (.ref b1), (.ref b1)])) _
      refine XS.dup X18.here hx rfl (hb hby own_d1_12) rfl rfl ?_
      show Steps p.tables e below (T18.setTop (mkF m 13 #[.val (.int p0)] [(.ref b8), (.ref b8), (.int (0 : Int32)), (.ref b1), (.ref b1)])) _
      refine XS.iconst X18.here hx rfl (hb hby own_d1_13) ?_
      show Steps p.tables e below (T18.setTop (mkF m 14 #[.val (.int p0)] [(.int (1 : Int32)), (.ref b8), (.ref b8), (.int (0 : Int32)), (.ref b1), (.ref b1)])) _
      refine XS.iloadN X18.here hx rfl (hb hby own_d1_14) rfl ?_
      show Steps p.tables e below (T18.setTop (mkF m 15 #[.val (.int p0)] [(.int p0), (.int (1 : Int32)), (.ref b8), (.ref b8), (.int (0 : Int32)), (.ref b1), (.ref b1)])) _
      refine st28 _ ?_
      show Steps p.tables e below (T28.setTop (mkF m 16 #[.val (.int p0)] [(.ref b8), (.int (0 : Int32)), (.ref b1), (.ref b1)])) _
      refine XS.iconst X28.here hx rfl (hb hby own_d1_16) ?_
      show Steps p.tables e below (T28.setTop (mkF m 17 #[.val (.int p0)] [(.int (0 : Int32)), (.ref b8), (.int (0 : Int32)), (.ref b1), (.ref b1)])) _
      refine st37.trans ?_
      show Steps p.tables e below (T37.setTop (mkF m 20 #[.val (.int p0)] [(.ref b1)])) _
      exact k)
  obtain ⟨fs, hr, hrun, hended, hW, hsame⟩ := X37.leave (v := some (.ref b1)) (fun h => by rw [Bd.returns] at h; cases h) (hlocks := hlk)
  refine ⟨_, _, pre46 _ ?_, hrun, hended, _, _, rfl, ?_, ⟨_, rfl⟩, hW, hsame.mono (by decide) (by decide)⟩
  · show Steps p.tables e below (T37.setTop (mkF m 20 #[.val (.int p0)] [(.ref b1)])) _
    jvm_step X37.here [X37.here.top, hx, (hb hby own_d1_20), X37.method', Bd.returns, Value.isRef, FieldType.isReference]
    first | (intro acts; rw [hr _ acts rfl rfl rfl]) | rw [hr _ _ rfl rfl rfl]
    exact Steps.refl _
  · show own_Q1 Z p0 h0 n0 _ T37.heap _; exact ⟨b1, b8, k8, rfl, N45, K44, sz_b1, sz_b8, f40, f41, f38, f39, f42⟩
theorem own_d5_0 : decode prog_13_method_4_code 0 = .ok (.iconst 0, 1) := by decide +kernel
theorem own_d5_1 : decode prog_13_method_4_code 1 = .ok (.istore_n 2, 1) := by decide +kernel
theorem own_d5_2 : decode prog_13_method_4_code 2 = .ok (.aload_n 0, 1) := by decide +kernel
theorem own_d5_3 : decode prog_13_method_4_code 3 = .ok (.getfield 13, 3) := by decide +kernel
theorem own_d5_6 : decode prog_13_method_4_code 6 = .ok (.arraylength, 1) := by decide +kernel
theorem own_d5_7 : decode prog_13_method_4_code 7 = .ok (.iconst 2, 1) := by decide +kernel
theorem own_d5_8 : decode prog_13_method_4_code 8 = .ok (.idiv, 1) := by decide +kernel
theorem own_d5_9 : decode prog_13_method_4_code 9 = .ok (.iconst 1, 1) := by decide +kernel
theorem own_d5_10 : decode prog_13_method_4_code 10 = .ok (.isub, 1) := by decide +kernel
theorem own_d5_11 : decode prog_13_method_4_code 11 = .ok (.istore_n 3, 1) := by decide +kernel
theorem own_d5_12 : decode prog_13_method_4_code 12 = .ok (.iload_n 2, 1) := by decide +kernel
theorem own_d5_13 : decode prog_13_method_4_code 13 = .ok (.iload_n 3, 1) := by decide +kernel
theorem own_d5_14 : decode prog_13_method_4_code 14 = .ok (.if_icmp .gt 59, 3) := by decide +kernel
theorem own_d5_17 : decode prog_13_method_4_code 17 = .ok (.iload_n 2, 1) := by decide +kernel
theorem own_d5_18 : decode prog_13_method_4_code 18 = .ok (.iload_n 3, 1) := by decide +kernel
theorem own_d5_19 : decode prog_13_method_4_code 19 = .ok (.iadd, 1) := by decide +kernel
theorem own_d5_20 : decode prog_13_method_4_code 20 = .ok (.iconst 1, 1) := by decide +kernel
theorem own_d5_21 : decode prog_13_method_4_code 21 = .ok (.iushr, 1) := by decide +kernel
theorem own_d5_22 : decode prog_13_method_4_code 22 = .ok (.istore 4, 2) := by decide +kernel
theorem own_d5_24 : decode prog_13_method_4_code 24 = .ok (.iload_n 1, 1) := by decide +kernel
theorem own_d5_25 : decode prog_13_method_4_code 25 = .ok (.aload_n 0, 1) := by decide +kernel
theorem own_d5_26 : decode prog_13_method_4_code 26 = .ok (.getfield 13, 3) := by decide +kernel
theorem own_d5_29 : decode prog_13_method_4_code 29 = .ok (.iconst 2, 1) := by decide +kernel
theorem own_d5_30 : decode prog_13_method_4_code 30 = .ok (.iload 4, 2) := by decide +kernel
theorem own_d5_32 : decode prog_13_method_4_code 32 = .ok (.imul, 1) := by decide +kernel
theorem own_d5_33 : decode prog_13_method_4_code 33 = .ok (.iaload, 1) := by decide +kernel
theorem own_d5_34 : decode prog_13_method_4_code 34 = .ok (.if_icmp .ge 11, 3) := by decide +kernel
theorem own_d5_37 : decode prog_13_method_4_code 37 = .ok (.iload 4, 2) := by decide +kernel
theorem own_d5_39 : decode prog_13_method_4_code 39 = .ok (.iconst 1, 1) := by decide +kernel
theorem own_d5_40 : decode prog_13_method_4_code 40 = .ok (.isub, 1) := by decide +kernel
theorem own_d5_41 : decode prog_13_method_4_code 41 = .ok (.istore_n 3, 1) := by decide +kernel
theorem own_d5_42 : decode prog_13_method_4_code 42 = .ok (.goto 28, 3) := by decide +kernel
theorem own_d5_45 : decode prog_13_method_4_code 45 = .ok (.iload_n 1, 1) := by decide +kernel
theorem own_d5_46 : decode prog_13_method_4_code 46 = .ok (.aload_n 0, 1) := by decide +kernel
theorem own_d5_47 : decode prog_13_method_4_code 47 = .ok (.getfield 13, 3) := by decide +kernel
theorem own_d5_50 : decode prog_13_method_4_code 50 = .ok (.iconst 2, 1) := by decide +kernel
theorem own_d5_51 : decode prog_13_method_4_code 51 = .ok (.iload 4, 2) := by decide +kernel
theorem own_d5_53 : decode prog_13_method_4_code 53 = .ok (.imul, 1) := by decide +kernel
theorem own_d5_54 : decode prog_13_method_4_code 54 = .ok (.iconst 1, 1) := by decide +kernel
theorem own_d5_55 : decode prog_13_method_4_code 55 = .ok (.iadd, 1) := by decide +kernel
theorem own_d5_56 : decode prog_13_method_4_code 56 = .ok (.iaload, 1) := by decide +kernel
theorem own_d5_57 : decode prog_13_method_4_code 57 = .ok (.if_icmp .le 11, 3) := by decide +kernel
theorem own_d5_60 : decode prog_13_method_4_code 60 = .ok (.iload 4, 2) := by decide +kernel
theorem own_d5_62 : decode prog_13_method_4_code 62 = .ok (.iconst 1, 1) := by decide +kernel
theorem own_d5_63 : decode prog_13_method_4_code 63 = .ok (.iadd, 1) := by decide +kernel
theorem own_d5_64 : decode prog_13_method_4_code 64 = .ok (.istore_n 2, 1) := by decide +kernel
theorem own_d5_65 : decode prog_13_method_4_code 65 = .ok (.goto 5, 3) := by decide +kernel
theorem own_d5_68 : decode prog_13_method_4_code 68 = .ok (.iconst 1, 1) := by decide +kernel
theorem own_d5_69 : decode prog_13_method_4_code 69 = .ok (.ireturn, 1) := by decide +kernel
theorem own_d5_70 : decode prog_13_method_4_code 70 = .ok (.goto (-58), 3) := by decide +kernel
theorem own_d5_73 : decode prog_13_method_4_code 73 = .ok (.iconst 0, 1) := by decide +kernel
theorem own_d5_74 : decode prog_13_method_4_code 74 = .ok (.ireturn, 1) := by decide +kernel
theorem own_pn5 : plainName "com/example/firm_query/firmquery/IRegexpParser$CharClass" = true := by first | (simp [plainName, overriddenIn]; done) | decide +kernel
theorem own_ef5 (m : MethodId) (x0 : Addr) (x1 : Int32) : entryFrame m #[(.ref x0), (.int x1)] 5 = (mkF m 0 #[.val (.ref x0), .val (.int x1), .unset, .unset, .unset] []) := by first | (simp [entryFrame, mkF, argsToLocals, Value.category]; done) | rfl
def own_f5 (p1 : Int32) (c0 : Int32) (c1 : Int32) : Int32 := (if p1 < c0 then (0 : Int32) else (if c1 < p1 then (0 : Int32) else (1 : Int32)))
def own_Q5 (Z : State) (o0 : Addr) (p1 : Int32) (w_ranges_o0 : Addr) (k_r : ClassId) (c0 : Int32) (c1 : Int32) (h0 : Heap) (n0 : Nat) (v : Option Value) (h : Heap) (L : List Loc) : Prop := v = some (.int (own_f5 p1 c0 c1)) ∧ Fr n0 L ∧ h = h0
set_option maxRecDepth 65536 in
set_option maxHeartbeats 40000000 in
theorem own_rm5 (l : Launch) (Z : State) (a0 : Array Value) (hw : ∀ d ∈ tables_1, d.before a0 Z = true) (ws : List Jvm.Cond) (o0 : Addr) (p1 : Int32) (w_ranges_o0 : Addr) (k_r : ClassId) (c0 : Int32) (c1 : Int32) (h0 : Heap) (n0 : Nat) (Z0 : n0 ≤ h0.size) (P_F_o0_ranges : Fld Z h0 o0 "com/example/firm_query/firmquery/IRegexpParser$CharClass" "ranges" "[I" (.ref w_ranges_o0)) (P_V_w_ranges_o0 : Arv Z h0 w_ranges_o0 k_r .int (2 : Int32) [(.int c0), (.int c1)] (.int (0 : Int32))) :
    MetFree l (⟨"com/example/firm_query/firmquery/IRegexpParser$CharClass", "inRanges", "(I)Z"⟩ : MethodName) (head1 (Jvm.Cond.code (⟨"com/example/firm_query/firmquery/IRegexpParser$CharClass", "inRanges", "(I)Z"⟩ : MethodName) prog_13_method_4_code 5 (some .boolean) :: ws) ({ frames := 0, cells := 0, slots := 0, locals := 0 } : Room)) (fun a U => a = #[(.ref o0), (.int p1)] ∧ Z.Warmed39 U.vm ∧ U.heap = h0) (fun _ _ _ _ _ => True) (fun _ U o U' => ∃ v L, o = .returned v ∧ own_Q5 Z o0 p1 w_ranges_o0 k_r c0 c1 h0 n0 v U'.heap L ∧ FrameEnd U o U' L ({ frames := 0, cells := 0, slots := 0, locals := 0 } : Room).cells ({ frames := 0, cells := 0, slots := 0, locals := 0 } : Room).slots) := by
  refine MetFree.of_bodySF (plainFor_of_name own_pn5) hisR ?_
  intro p e s m args below meth c s₁ Bd hml0 hP hK
  obtain ⟨rfl, hZ, hh⟩ := hP
  have hx := Bd.exec
  have hlk : meth.locks = false := BodyLoose.notSynchronized Bd
  have hby := Bd.bytes
  have hml : c.maxLocals = 5 := hml0
  have hown : s.vm.findClass "com/example/firm_query/firmquery/IRegexpParser$CharClass" = some m.cls := findClass_of_methodNamed Bd.named
  have hnm := (name_of_methodNamed Bd.named Bd.method).1
  have X0 : Stand p l e ({ frames := 0, cells := 0, slots := 0, locals := 0 } : Room) s m #[(.ref o0), (.int p1)] below meth c s₁ [] 0 0 := Stand.of_body Bd
  have e0 : s₁.heap = h0 := by rw [← hh, Bd.state]; rfl
  have N0 := Fr.nil n0
  have pre0 : ∀ t, Steps p.tables e below (s₁.setTop (mkF m 0 #[.val (.ref o0), .val (.int p1), .unset, .unset, .unset] [])) t → Steps p.tables e below (s₁.setTop (entryFrame m #[(.ref o0), (.int p1)] 5)) t := fun t k => castTop (own_ef5 m o0 p1) k
  obtain ⟨T1, X1, e1, st1⟩ := getF X0 hx hZ hown (host := "") (Or.inl (hw _ (List.mem_of_getElem? (i := 15) rfl))) Via.refl e0 P_F_o0_ranges (g := (mkF m 3 #[.val (.ref o0), .val (.int p1), .val (.int (0 : Int32)), .unset, .unset] [(.ref o0)])) rfl rfl (hb hby own_d5_3)
  obtain ⟨cl2, Ar2, q2, S2, N_2, Ha2, G2⟩ := id P_V_w_ranges_o0
  obtain ⟨T3, X3, e3, st3⟩ := getF X1 hx hZ hown (host := "") (Or.inl (hw _ (List.mem_of_getElem? (i := 15) rfl))) Via.refl e1 P_F_o0_ranges (g := (mkF m 26 #[.val (.ref o0), .val (.int p1), .val (.int (0 : Int32)), .val (.int (0 : Int32)), .val (.int (0 : Int32))] [(.ref o0), (.int p1)])) rfl rfl (hb hby own_d5_26)
  obtain ⟨cl4, Ar4, q4, S4, N_4, Ha4, G4⟩ := id P_V_w_ranges_o0
  have hin4 : ¬ ((0 : Int32) < 0 ∨ cl4.slots.size ≤ ((0 : Int32)).toNatClampNeg) := inb_of S4 ⟨by decide, by decide⟩
  have pre5 : ∀ t, Steps p.tables e below (T3.setTop (mkF m 34 #[.val (.ref o0), .val (.int p1), .val (.int (0 : Int32)), .val (.int (0 : Int32)), .val (.int (0 : Int32))] [(.int c0), (.int p1)])) t → Steps p.tables e below (s₁.setTop (entryFrame m #[(.ref o0), (.int p1)] 5)) t := fun t k => pre0 t (by
      refine XS.iconst X0.here hx rfl (hb hby own_d5_0) ?_
      show Steps p.tables e below (s₁.setTop (mkF m 1 #[.val (.ref o0), .val (.int p1), .unset, .unset, .unset] [(.int (0 : Int32))])) _
      refine XS.istoreN X0.here hx rfl (hb hby own_d5_1) rfl (l' := #[.val (.ref o0), .val (.int p1), .val (.int (0 : Int32)), .unset, .unset]) rfl ?_
      show Steps p.tables e below (s₁.setTop (mkF m 2 #[.val (.ref o0), .val (.int p1), .val (.int (0 : Int32)), .unset, .unset] [])) _
      refine XS.aloadN X0.here hx rfl (hb hby own_d5_2) rfl rfl ?_
      show Steps p.tables e below (s₁.setTop (mkF m 3 #[.val (.ref o0), .val (.int p1), .val (.int (0 : Int32)), .unset, .unset] [(.ref o0)])) _
      refine st1 _ ?_
      show Steps p.tables e below (T1.setTop (mkF m 6 #[.val (.ref o0), .val (.int p1), .val (.int (0 : Int32)), .unset, .unset] [(.ref w_ranges_o0)])) _
      refine X1.arraylength hx (by rw [e1]; exact Ar2.1) (State.isArrayOf_alike hZ.alike Ar2.2.1) (g := (mkF m 6 #[.val (.ref o0), .val (.int p1), .val (.int (0 : Int32)), .unset, .unset] [(.ref w_ranges_o0)])) rfl rfl (hb hby own_d5_6) _ ?_
      rw [len_of S2 N_2]
      show Steps p.tables e below (T1.setTop (mkF m 7 #[.val (.ref o0), .val (.int p1), .val (.int (0 : Int32)), .unset, .unset] [(.int (2 : Int32))])) _
      refine XS.iconst X1.here hx rfl (hb hby own_d5_7) ?_
      show Steps p.tables e below (T1.setTop (mkF m 8 #[.val (.ref o0), .val (.int p1), .val (.int (0 : Int32)), .unset, .unset] [(.int (2 : Int32)), (.int (2 : Int32))])) _
      refine XS.idiv X1.here hx rfl (hb hby own_d5_8) rfl (by decide) ?_
      show Steps p.tables e below (T1.setTop (mkF m 9 #[.val (.ref o0), .val (.int p1), .val (.int (0 : Int32)), .unset, .unset] [(.int (1 : Int32))])) _
      refine XS.iconst X1.here hx rfl (hb hby own_d5_9) ?_
      show Steps p.tables e below (T1.setTop (mkF m 10 #[.val (.ref o0), .val (.int p1), .val (.int (0 : Int32)), .unset, .unset] [(.int (1 : Int32)), (.int (1 : Int32))])) _
      refine XS.isub X1.here hx rfl (hb hby own_d5_10) rfl ?_
      show Steps p.tables e below (T1.setTop (mkF m 11 #[.val (.ref o0), .val (.int p1), .val (.int (0 : Int32)), .unset, .unset] [(.int (0 : Int32))])) _
      refine XS.istoreN X1.here hx rfl (hb hby own_d5_11) rfl (l' := #[.val (.ref o0), .val (.int p1), .val (.int (0 : Int32)), .val (.int (0 : Int32)), .unset]) rfl ?_
      show Steps p.tables e below (T1.setTop (mkF m 12 #[.val (.ref o0), .val (.int p1), .val (.int (0 : Int32)), .val (.int (0 : Int32)), .unset] [])) _
      refine XS.iloadN X1.here hx rfl (hb hby own_d5_12) rfl ?_
      show Steps p.tables e below (T1.setTop (mkF m 13 #[.val (.ref o0), .val (.int p1), .val (.int (0 : Int32)), .val (.int (0 : Int32)), .unset] [(.int (0 : Int32))])) _
      refine XS.iloadN X1.here hx rfl (hb hby own_d5_13) rfl ?_
      show Steps p.tables e below (T1.setTop (mkF m 14 #[.val (.ref o0), .val (.int p1), .val (.int (0 : Int32)), .val (.int (0 : Int32)), .unset] [(.int (0 : Int32)), (.int (0 : Int32))])) _
      refine XS.icmpNo X1.here hx rfl (hb hby own_d5_14) rfl (flt (by decide : ¬ ((0 : Int32) < (0 : Int32)))).2.2.1 ?_
      show Steps p.tables e below (T1.setTop (mkF m 17 #[.val (.ref o0), .val (.int p1), .val (.int (0 : Int32)), .val (.int (0 : Int32)), .unset] [])) _
      refine XS.iloadN X1.here hx rfl (hb hby own_d5_17) rfl ?_
      show Steps p.tables e below (T1.setTop (mkF m 18 #[.val (.ref o0), .val (.int p1), .val (.int (0 : Int32)), .val (.int (0 : Int32)), .unset] [(.int (0 : Int32))])) _
      refine XS.iloadN X1.here hx rfl (hb hby own_d5_18) rfl ?_
      show Steps p.tables e below (T1.setTop (mkF m 19 #[.val (.ref o0), .val (.int p1), .val (.int (0 : Int32)), .val (.int (0 : Int32)), .unset] [(.int (0 : Int32)), (.int (0 : Int32))])) _
      refine XS.iadd X1.here hx rfl (hb hby own_d5_19) rfl ?_
      show Steps p.tables e below (T1.setTop (mkF m 20 #[.val (.ref o0), .val (.int p1), .val (.int (0 : Int32)), .val (.int (0 : Int32)), .unset] [(.int (0 : Int32))])) _
      refine XS.iconst X1.here hx rfl (hb hby own_d5_20) ?_
      show Steps p.tables e below (T1.setTop (mkF m 21 #[.val (.ref o0), .val (.int p1), .val (.int (0 : Int32)), .val (.int (0 : Int32)), .unset] [(.int (1 : Int32)), (.int (0 : Int32))])) _
      refine XS.iushr X1.here hx rfl (hb hby own_d5_21) rfl ?_
      show Steps p.tables e below (T1.setTop (mkF m 22 #[.val (.ref o0), .val (.int p1), .val (.int (0 : Int32)), .val (.int (0 : Int32)), .unset] [(.int (0 : Int32))])) _
      refine XS.istore X1.here hx rfl (hb hby own_d5_22) rfl (l' := #[.val (.ref o0), .val (.int p1), .val (.int (0 : Int32)), .val (.int (0 : Int32)), .val (.int (0 : Int32))]) rfl ?_
      show Steps p.tables e below (T1.setTop (mkF m 24 #[.val (.ref o0), .val (.int p1), .val (.int (0 : Int32)), .val (.int (0 : Int32)), .val (.int (0 : Int32))] [])) _
      refine XS.iloadN X1.here hx rfl (hb hby own_d5_24) rfl ?_
      show Steps p.tables e below (T1.setTop (mkF m 25 #[.val (.ref o0), .val (.int p1), .val (.int (0 : Int32)), .val (.int (0 : Int32)), .val (.int (0 : Int32))] [(.int p1)])) _
      refine XS.aloadN X1.here hx rfl (hb hby own_d5_25) rfl rfl ?_
      show Steps p.tables e below (T1.setTop (mkF m 26 #[.val (.ref o0), .val (.int p1), .val (.int (0 : Int32)), .val (.int (0 : Int32)), .val (.int (0 : Int32))] [(.ref o0), (.int p1)])) _
      refine st3 _ ?_
      show Steps p.tables e below (T3.setTop (mkF m 29 #[.val (.ref o0), .val (.int p1), .val (.int (0 : Int32)), .val (.int (0 : Int32)), .val (.int (0 : Int32))] [(.ref w_ranges_o0), (.int p1)])) _
      refine XS.iconst X3.here hx rfl (hb hby own_d5_29) ?_
      show Steps p.tables e below (T3.setTop (mkF m 30 #[.val (.ref o0), .val (.int p1), .val (.int (0 : Int32)), .val (.int (0 : Int32)), .val (.int (0 : Int32))] [(.int (2 : Int32)), (.ref w_ranges_o0), (.int p1)])) _
      refine XS.iload X3.here hx rfl (hb hby own_d5_30) rfl ?_
      show Steps p.tables e below (T3.setTop (mkF m 32 #[.val (.ref o0), .val (.int p1), .val (.int (0 : Int32)), .val (.int (0 : Int32)), .val (.int (0 : Int32))] [(.int (0 : Int32)), (.int (2 : Int32)), (.ref w_ranges_o0), (.int p1)])) _
      refine XS.imul X3.here hx rfl (hb hby own_d5_32) rfl ?_
      show Steps p.tables e below (T3.setTop (mkF m 33 #[.val (.ref o0), .val (.int p1), .val (.int (0 : Int32)), .val (.int (0 : Int32)), .val (.int (0 : Int32))] [(.int (0 : Int32)), (.ref w_ranges_o0), (.int p1)])) _
      refine X3.iaload hx (j := (0 : Int32)) (v := (.int c0)) (by rw [e3]; exact Ar4.1) (State.isArrayOf_alike hZ.alike Ar4.2.1) Ar4.2.2 hin4 (Has.at Ha4 hin4 (rfl : (_ : Value) = (.int c0))) (g := (mkF m 33 #[.val (.ref o0), .val (.int p1), .val (.int (0 : Int32)), .val (.int (0 : Int32)), .val (.int (0 : Int32))] [(.int (0 : Int32)), (.ref w_ranges_o0), (.int p1)])) rfl rfl (hb hby own_d5_33) _ ?_
      show Steps p.tables e below (T3.setTop (mkF m 34 #[.val (.ref o0), .val (.int p1), .val (.int (0 : Int32)), .val (.int (0 : Int32)), .val (.int (0 : Int32))] [(.int c0), (.int p1)])) _
      exact k)
  by_cases hc6 : p1 < c0
  · have pre7 : ∀ t, Steps p.tables e below (T3.setTop (mkF m 74 #[.val (.ref o0), .val (.int p1), .val (.int (0 : Int32)), .val (.int (-1 : Int32)), .val (.int (0 : Int32))] [(.int (0 : Int32))])) t → Steps p.tables e below (s₁.setTop (entryFrame m #[(.ref o0), (.int p1)] 5)) t := fun t k => pre5 t (by
        refine XS.icmpNo X3.here hx rfl (hb hby own_d5_34) rfl (tlt hc6).2.1 ?_
        show Steps p.tables e below (T3.setTop (mkF m 37 #[.val (.ref o0), .val (.int p1), .val (.int (0 : Int32)), .val (.int (0 : Int32)), .val (.int (0 : Int32))] [])) _
        refine XS.iload X3.here hx rfl (hb hby own_d5_37) rfl ?_
        show Steps p.tables e below (T3.setTop (mkF m 39 #[.val (.ref o0), .val (.int p1), .val (.int (0 : Int32)), .val (.int (0 : Int32)), .val (.int (0 : Int32))] [(.int (0 : Int32))])) _
        refine XS.iconst X3.here hx rfl (hb hby own_d5_39) ?_
        show Steps p.tables e below (T3.setTop (mkF m 40 #[.val (.ref o0), .val (.int p1), .val (.int (0 : Int32)), .val (.int (0 : Int32)), .val (.int (0 : Int32))] [(.int (1 : Int32)), (.int (0 : Int32))])) _
        refine XS.isub X3.here hx rfl (hb hby own_d5_40) rfl ?_
        show Steps p.tables e below (T3.setTop (mkF m 41 #[.val (.ref o0), .val (.int p1), .val (.int (0 : Int32)), .val (.int (0 : Int32)), .val (.int (0 : Int32))] [(.int (-1 : Int32))])) _
        refine XS.istoreN X3.here hx rfl (hb hby own_d5_41) rfl (l' := #[.val (.ref o0), .val (.int p1), .val (.int (0 : Int32)), .val (.int (-1 : Int32)), .val (.int (0 : Int32))]) rfl ?_
        show Steps p.tables e below (T3.setTop (mkF m 42 #[.val (.ref o0), .val (.int p1), .val (.int (0 : Int32)), .val (.int (-1 : Int32)), .val (.int (0 : Int32))] [])) _
        refine XS.goto X3.here hx rfl (pc0 := 42) (pc' := 70) rfl (hb hby own_d5_42) (by decide) (by decide) ?_
        show Steps p.tables e below (T3.setTop (mkF m 70 #[.val (.ref o0), .val (.int p1), .val (.int (0 : Int32)), .val (.int (-1 : Int32)), .val (.int (0 : Int32))] [])) _
        refine XS.goto X3.here hx rfl (pc0 := 70) (pc' := 12) rfl (hb hby own_d5_70) (by decide) (by decide) ?_
        show Steps p.tables e below (T3.setTop (mkF m 12 #[.val (.ref o0), .val (.int p1), .val (.int (0 : Int32)), .val (.int (-1 : Int32)), .val (.int (0 : Int32))] [])) _
        refine XS.iloadN X3.here hx rfl (hb hby own_d5_12) rfl ?_
        show Steps p.tables e below (T3.setTop (mkF m 13 #[.val (.ref o0), .val (.int p1), .val (.int (0 : Int32)), .val (.int (-1 : Int32)), .val (.int (0 : Int32))] [(.int (0 : Int32))])) _
        refine XS.iloadN X3.here hx rfl (hb hby own_d5_13) rfl ?_
        show Steps p.tables e below (T3.setTop (mkF m 14 #[.val (.ref o0), .val (.int p1), .val (.int (0 : Int32)), .val (.int (-1 : Int32)), .val (.int (0 : Int32))] [(.int (-1 : Int32)), (.int (0 : Int32))])) _
        refine XS.icmpYes X3.here hx rfl (pc0 := 14) (pc' := 73) rfl (hb hby own_d5_14) rfl (tlt (by decide : (-1 : Int32) < (0 : Int32))).2.2.1 (by decide) (by decide) ?_
        show Steps p.tables e below (T3.setTop (mkF m 73 #[.val (.ref o0), .val (.int p1), .val (.int (0 : Int32)), .val (.int (-1 : Int32)), .val (.int (0 : Int32))] [])) _
        refine XS.iconst X3.here hx rfl (hb hby own_d5_73) ?_
        show Steps p.tables e below (T3.setTop (mkF m 74 #[.val (.ref o0), .val (.int p1), .val (.int (0 : Int32)), .val (.int (-1 : Int32)), .val (.int (0 : Int32))] [(.int (0 : Int32))])) _
        exact k)
    obtain ⟨fs, hr, hrun, hended, hW, hsame⟩ := X3.leave (v := some (.int (0 : Int32))) (fun h => by rw [Bd.returns] at h; cases h) (hlocks := hlk)
    refine ⟨_, _, pre7 _ ?_, hrun, hended, _, _, rfl, ?_, ⟨_, rfl⟩, hW, hsame.mono (by decide) (by decide)⟩
    · show Steps p.tables e below (T3.setTop (mkF m 74 #[.val (.ref o0), .val (.int p1), .val (.int (0 : Int32)), .val (.int (-1 : Int32)), .val (.int (0 : Int32))] [(.int (0 : Int32))])) _
      exact retN X3 hx (t := .boolean) Bd.returns (by simp) (hb hby own_d5_74) hr
    · show own_Q5 Z o0 p1 w_ranges_o0 k_r c0 c1 h0 n0 _ T3.heap _; rw [e3]; exact ⟨(by show some (Value.int _) = some (.int (own_f5 p1 c0 c1)); unfold own_f5; rw [if_pos hc6]), N0, rfl⟩
  · obtain ⟨T8, X8, e8, st8⟩ := getF X3 hx hZ hown (host := "") (Or.inl (hw _ (List.mem_of_getElem? (i := 15) rfl))) Via.refl e3 P_F_o0_ranges (g := (mkF m 47 #[.val (.ref o0), .val (.int p1), .val (.int (0 : Int32)), .val (.int (0 : Int32)), .val (.int (0 : Int32))] [(.ref o0), (.int p1)])) rfl rfl (hb hby own_d5_47)
    obtain ⟨cl9, Ar9, q9, S9, N_9, Ha9, G9⟩ := id P_V_w_ranges_o0
    have hin9 : ¬ ((1 : Int32) < 0 ∨ cl9.slots.size ≤ ((1 : Int32)).toNatClampNeg) := inb_of S9 ⟨by decide, by decide⟩
    have pre10 : ∀ t, Steps p.tables e below (T8.setTop (mkF m 57 #[.val (.ref o0), .val (.int p1), .val (.int (0 : Int32)), .val (.int (0 : Int32)), .val (.int (0 : Int32))] [(.int c1), (.int p1)])) t → Steps p.tables e below (s₁.setTop (entryFrame m #[(.ref o0), (.int p1)] 5)) t := fun t k => pre5 t (by
        refine XS.icmpYes X3.here hx rfl (pc0 := 34) (pc' := 45) rfl (hb hby own_d5_34) rfl (flt hc6).2.1 (by decide) (by decide) ?_
        show Steps p.tables e below (T3.setTop (mkF m 45 #[.val (.ref o0), .val (.int p1), .val (.int (0 : Int32)), .val (.int (0 : Int32)), .val (.int (0 : Int32))] [])) _
        refine XS.iloadN X3.here hx rfl (hb hby own_d5_45) rfl ?_
        show Steps p.tables e below (T3.setTop (mkF m 46 #[.val (.ref o0), .val (.int p1), .val (.int (0 : Int32)), .val (.int (0 : Int32)), .val (.int (0 : Int32))] [(.int p1)])) _
        refine XS.aloadN X3.here hx rfl (hb hby own_d5_46) rfl rfl ?_
        show Steps p.tables e below (T3.setTop (mkF m 47 #[.val (.ref o0), .val (.int p1), .val (.int (0 : Int32)), .val (.int (0 : Int32)), .val (.int (0 : Int32))] [(.ref o0), (.int p1)])) _
        refine st8 _ ?_
        show Steps p.tables e below (T8.setTop (mkF m 50 #[.val (.ref o0), .val (.int p1), .val (.int (0 : Int32)), .val (.int (0 : Int32)), .val (.int (0 : Int32))] [(.ref w_ranges_o0), (.int p1)])) _
        refine XS.iconst X8.here hx rfl (hb hby own_d5_50) ?_
        show Steps p.tables e below (T8.setTop (mkF m 51 #[.val (.ref o0), .val (.int p1), .val (.int (0 : Int32)), .val (.int (0 : Int32)), .val (.int (0 : Int32))] [(.int (2 : Int32)), (.ref w_ranges_o0), (.int p1)])) _
        refine XS.iload X8.here hx rfl (hb hby own_d5_51) rfl ?_
        show Steps p.tables e below (T8.setTop (mkF m 53 #[.val (.ref o0), .val (.int p1), .val (.int (0 : Int32)), .val (.int (0 : Int32)), .val (.int (0 : Int32))] [(.int (0 : Int32)), (.int (2 : Int32)), (.ref w_ranges_o0), (.int p1)])) _
        refine XS.imul X8.here hx rfl (hb hby own_d5_53) rfl ?_
        show Steps p.tables e below (T8.setTop (mkF m 54 #[.val (.ref o0), .val (.int p1), .val (.int (0 : Int32)), .val (.int (0 : Int32)), .val (.int (0 : Int32))] [(.int (0 : Int32)), (.ref w_ranges_o0), (.int p1)])) _
        refine XS.iconst X8.here hx rfl (hb hby own_d5_54) ?_
        show Steps p.tables e below (T8.setTop (mkF m 55 #[.val (.ref o0), .val (.int p1), .val (.int (0 : Int32)), .val (.int (0 : Int32)), .val (.int (0 : Int32))] [(.int (1 : Int32)), (.int (0 : Int32)), (.ref w_ranges_o0), (.int p1)])) _
        refine XS.iadd X8.here hx rfl (hb hby own_d5_55) rfl ?_
        show Steps p.tables e below (T8.setTop (mkF m 56 #[.val (.ref o0), .val (.int p1), .val (.int (0 : Int32)), .val (.int (0 : Int32)), .val (.int (0 : Int32))] [(.int (1 : Int32)), (.ref w_ranges_o0), (.int p1)])) _
        refine X8.iaload hx (j := (1 : Int32)) (v := (.int c1)) (by rw [e8]; exact Ar9.1) (State.isArrayOf_alike hZ.alike Ar9.2.1) Ar9.2.2 hin9 (Has.at Ha9 hin9 (rfl : (_ : Value) = (.int c1))) (g := (mkF m 56 #[.val (.ref o0), .val (.int p1), .val (.int (0 : Int32)), .val (.int (0 : Int32)), .val (.int (0 : Int32))] [(.int (1 : Int32)), (.ref w_ranges_o0), (.int p1)])) rfl rfl (hb hby own_d5_56) _ ?_
        show Steps p.tables e below (T8.setTop (mkF m 57 #[.val (.ref o0), .val (.int p1), .val (.int (0 : Int32)), .val (.int (0 : Int32)), .val (.int (0 : Int32))] [(.int c1), (.int p1)])) _
        exact k)
    by_cases hc11 : c1 < p1
    · have pre12 : ∀ t, Steps p.tables e below (T8.setTop (mkF m 74 #[.val (.ref o0), .val (.int p1), .val (.int (1 : Int32)), .val (.int (0 : Int32)), .val (.int (0 : Int32))] [(.int (0 : Int32))])) t → Steps p.tables e below (s₁.setTop (entryFrame m #[(.ref o0), (.int p1)] 5)) t := fun t k => pre10 t (by
          refine XS.icmpNo X8.here hx rfl (hb hby own_d5_57) rfl (tlt hc11).2.2.2 ?_
          show Steps p.tables e below (T8.setTop (mkF m 60 #[.val (.ref o0), .val (.int p1), .val (.int (0 : Int32)), .val (.int (0 : Int32)), .val (.int (0 : Int32))] [])) _
          refine XS.iload X8.here hx rfl (hb hby own_d5_60) rfl ?_
          show Steps p.tables e below (T8.setTop (mkF m 62 #[.val (.ref o0), .val (.int p1), .val (.int (0 : Int32)), .val (.int (0 : Int32)), .val (.int (0 : Int32))] [(.int (0 : Int32))])) _
          refine XS.iconst X8.here hx rfl (hb hby own_d5_62) ?_
          show Steps p.tables e below (T8.setTop (mkF m 63 #[.val (.ref o0), .val (.int p1), .val (.int (0 : Int32)), .val (.int (0 : Int32)), .val (.int (0 : Int32))] [(.int (1 : Int32)), (.int (0 : Int32))])) _
          refine XS.iadd X8.here hx rfl (hb hby own_d5_63) rfl ?_
          show Steps p.tables e below (T8.setTop (mkF m 64 #[.val (.ref o0), .val (.int p1), .val (.int (0 : Int32)), .val (.int (0 : Int32)), .val (.int (0 : Int32))] [(.int (1 : Int32))])) _
          refine XS.istoreN X8.here hx rfl (hb hby own_d5_64) rfl (l' := #[.val (.ref o0), .val (.int p1), .val (.int (1 : Int32)), .val (.int (0 : Int32)), .val (.int (0 : Int32))]) rfl ?_
          show Steps p.tables e below (T8.setTop (mkF m 65 #[.val (.ref o0), .val (.int p1), .val (.int (1 : Int32)), .val (.int (0 : Int32)), .val (.int (0 : Int32))] [])) _
          refine XS.goto X8.here hx rfl (pc0 := 65) (pc' := 70) rfl (hb hby own_d5_65) (by decide) (by decide) ?_
          show Steps p.tables e below (T8.setTop (mkF m 70 #[.val (.ref o0), .val (.int p1), .val (.int (1 : Int32)), .val (.int (0 : Int32)), .val (.int (0 : Int32))] [])) _
          refine XS.goto X8.here hx rfl (pc0 := 70) (pc' := 12) rfl (hb hby own_d5_70) (by decide) (by decide) ?_
          show Steps p.tables e below (T8.setTop (mkF m 12 #[.val (.ref o0), .val (.int p1), .val (.int (1 : Int32)), .val (.int (0 : Int32)), .val (.int (0 : Int32))] [])) _
          refine XS.iloadN X8.here hx rfl (hb hby own_d5_12) rfl ?_
          show Steps p.tables e below (T8.setTop (mkF m 13 #[.val (.ref o0), .val (.int p1), .val (.int (1 : Int32)), .val (.int (0 : Int32)), .val (.int (0 : Int32))] [(.int (1 : Int32))])) _
          refine XS.iloadN X8.here hx rfl (hb hby own_d5_13) rfl ?_
          show Steps p.tables e below (T8.setTop (mkF m 14 #[.val (.ref o0), .val (.int p1), .val (.int (1 : Int32)), .val (.int (0 : Int32)), .val (.int (0 : Int32))] [(.int (0 : Int32)), (.int (1 : Int32))])) _
          refine XS.icmpYes X8.here hx rfl (pc0 := 14) (pc' := 73) rfl (hb hby own_d5_14) rfl (tlt (by decide : (0 : Int32) < (1 : Int32))).2.2.1 (by decide) (by decide) ?_
          show Steps p.tables e below (T8.setTop (mkF m 73 #[.val (.ref o0), .val (.int p1), .val (.int (1 : Int32)), .val (.int (0 : Int32)), .val (.int (0 : Int32))] [])) _
          refine XS.iconst X8.here hx rfl (hb hby own_d5_73) ?_
          show Steps p.tables e below (T8.setTop (mkF m 74 #[.val (.ref o0), .val (.int p1), .val (.int (1 : Int32)), .val (.int (0 : Int32)), .val (.int (0 : Int32))] [(.int (0 : Int32))])) _
          exact k)
      obtain ⟨fs, hr, hrun, hended, hW, hsame⟩ := X8.leave (v := some (.int (0 : Int32))) (fun h => by rw [Bd.returns] at h; cases h) (hlocks := hlk)
      refine ⟨_, _, pre12 _ ?_, hrun, hended, _, _, rfl, ?_, ⟨_, rfl⟩, hW, hsame.mono (by decide) (by decide)⟩
      · show Steps p.tables e below (T8.setTop (mkF m 74 #[.val (.ref o0), .val (.int p1), .val (.int (1 : Int32)), .val (.int (0 : Int32)), .val (.int (0 : Int32))] [(.int (0 : Int32))])) _
        exact retN X8 hx (t := .boolean) Bd.returns (by simp) (hb hby own_d5_74) hr
      · show own_Q5 Z o0 p1 w_ranges_o0 k_r c0 c1 h0 n0 _ T8.heap _; rw [e8]; exact ⟨(by show some (Value.int _) = some (.int (own_f5 p1 c0 c1)); unfold own_f5; rw [if_neg hc6, if_pos hc11]), N0, rfl⟩
    · have pre13 : ∀ t, Steps p.tables e below (T8.setTop (mkF m 69 #[.val (.ref o0), .val (.int p1), .val (.int (0 : Int32)), .val (.int (0 : Int32)), .val (.int (0 : Int32))] [(.int (1 : Int32))])) t → Steps p.tables e below (s₁.setTop (entryFrame m #[(.ref o0), (.int p1)] 5)) t := fun t k => pre10 t (by
          refine XS.icmpYes X8.here hx rfl (pc0 := 57) (pc' := 68) rfl (hb hby own_d5_57) rfl (flt hc11).2.2.2 (by decide) (by decide) ?_
          show Steps p.tables e below (T8.setTop (mkF m 68 #[.val (.ref o0), .val (.int p1), .val (.int (0 : Int32)), .val (.int (0 : Int32)), .val (.int (0 : Int32))] [])) _
          refine XS.iconst X8.here hx rfl (hb hby own_d5_68) ?_
          show Steps p.tables e below (T8.setTop (mkF m 69 #[.val (.ref o0), .val (.int p1), .val (.int (0 : Int32)), .val (.int (0 : Int32)), .val (.int (0 : Int32))] [(.int (1 : Int32))])) _
          exact k)
      obtain ⟨fs, hr, hrun, hended, hW, hsame⟩ := X8.leave (v := some (.int (1 : Int32))) (fun h => by rw [Bd.returns] at h; cases h) (hlocks := hlk)
      refine ⟨_, _, pre13 _ ?_, hrun, hended, _, _, rfl, ?_, ⟨_, rfl⟩, hW, hsame.mono (by decide) (by decide)⟩
      · show Steps p.tables e below (T8.setTop (mkF m 69 #[.val (.ref o0), .val (.int p1), .val (.int (0 : Int32)), .val (.int (0 : Int32)), .val (.int (0 : Int32))] [(.int (1 : Int32))])) _
        exact retN X8 hx (t := .boolean) Bd.returns (by simp) (hb hby own_d5_69) hr
      · show own_Q5 Z o0 p1 w_ranges_o0 k_r c0 c1 h0 n0 _ T8.heap _; rw [e8]; exact ⟨(by show some (Value.int _) = some (.int (own_f5 p1 c0 c1)); unfold own_f5; rw [if_neg hc6, if_neg hc11]), N0, rfl⟩
theorem own_pd1 : parseMethodDescriptor "(I)Z" = some ⟨[.int], some .boolean⟩ := by decide +kernel
theorem own_sel0 (Z : State) (a0 : Array Value) (hw : ∀ d ∈ tables_1, d.before a0 Z = true) : (Jvm.Cond.selects "com/example/firm_query/firmquery/IRegexpParser$CharClass" (⟨"com/example/firm_query/firmquery/IRegexpParser$CharClass", "inRanges", "(I)Z"⟩ : MethodName) (⟨"com/example/firm_query/firmquery/IRegexpParser$CharClass", "inRanges", "(I)Z"⟩ : MethodName)).before a0 Z = true := by
  obtain ⟨c, k, h1, h2, -, h4, -⟩ := Cond.instantiable_spec (hw _ (List.mem_of_getElem? (i := 5) rfl))
  exact selects_self_of_private h1 h2 (Bool.or_eq_false_iff.mp h4).1 (Cond.privateMethod_at (hw _ (List.mem_of_getElem? (i := 26) rfl))) (hw _ (List.mem_of_getElem? (i := 25) rfl)) (by decide)
theorem own_d4_0 : decode prog_13_method_3_code 0 = .ok (.aload_n 0, 1) := by decide +kernel
theorem own_d4_1 : decode prog_13_method_3_code 1 = .ok (.iload_n 1, 1) := by decide +kernel
theorem own_d4_2 : decode prog_13_method_3_code 2 = .ok (.invokevirtual 24, 3) := by decide +kernel
theorem own_d4_5 : decode prog_13_method_3_code 5 = .ok (.ifCond .ne 24, 3) := by decide +kernel
theorem own_d4_8 : decode prog_13_method_3_code 8 = .ok (.aload_n 0, 1) := by decide +kernel
theorem own_d4_9 : decode prog_13_method_3_code 9 = .ok (.getfield 17, 3) := by decide +kernel
theorem own_d4_12 : decode prog_13_method_3_code 12 = .ok (.ifCond .eq 21, 3) := by decide +kernel
theorem own_d4_29 : decode prog_13_method_3_code 29 = .ok (.iconst 1, 1) := by decide +kernel
theorem own_d4_30 : decode prog_13_method_3_code 30 = .ok (.goto 4, 3) := by decide +kernel
theorem own_d4_33 : decode prog_13_method_3_code 33 = .ok (.iconst 0, 1) := by decide +kernel
theorem own_d4_34 : decode prog_13_method_3_code 34 = .ok (.istore_n 2, 1) := by decide +kernel
theorem own_d4_35 : decode prog_13_method_3_code 35 = .ok (.iload_n 2, 1) := by decide +kernel
theorem own_d4_36 : decode prog_13_method_3_code 36 = .ok (.aload_n 0, 1) := by decide +kernel
theorem own_d4_37 : decode prog_13_method_3_code 37 = .ok (.getfield 7, 3) := by decide +kernel
theorem own_d4_40 : decode prog_13_method_3_code 40 = .ok (.if_icmp .eq 7, 3) := by decide +kernel
theorem own_d4_43 : decode prog_13_method_3_code 43 = .ok (.iconst 1, 1) := by decide +kernel
theorem own_d4_44 : decode prog_13_method_3_code 44 = .ok (.goto 4, 3) := by decide +kernel
theorem own_d4_47 : decode prog_13_method_3_code 47 = .ok (.iconst 0, 1) := by decide +kernel
theorem own_d4_48 : decode prog_13_method_3_code 48 = .ok (.ireturn, 1) := by decide +kernel
theorem own_pn4 : plainName "com/example/firm_query/firmquery/IRegexpParser$CharClass" = true := by first | (simp [plainName, overriddenIn]; done) | decide +kernel
theorem own_ef4 (m : MethodId) (x0 : Addr) (x1 : Int32) : entryFrame m #[(.ref x0), (.int x1)] 3 = (mkF m 0 #[.val (.ref x0), .val (.int x1), .unset] []) := by first | (simp [entryFrame, mkF, argsToLocals, Value.category]; done) | rfl
def own_f4 (p1 : Int32) (c0 : Int32) (c1 : Int32) (w_negated_o0 : Int32) : Int32 := (if (own_f5 p1 c0 c1) = (0 : Int32) then (if (0 : Int32) = w_negated_o0 then (0 : Int32) else (1 : Int32)) else (if (1 : Int32) = w_negated_o0 then (0 : Int32) else (1 : Int32)))
def own_Q4 (Z : State) (o0 : Addr) (p1 : Int32) (w_ranges_o0 : Addr) (k_r : ClassId) (c0 : Int32) (c1 : Int32) (w_negated_o0 : Int32) (h0 : Heap) (n0 : Nat) (v : Option Value) (h : Heap) (L : List Loc) : Prop := v = some (.int (own_f4 p1 c0 c1 w_negated_o0)) ∧ Fr n0 L ∧ h = h0
set_option maxRecDepth 65536 in
set_option maxHeartbeats 40000000 in
theorem own_rm4 (l : Launch) (Z : State) (a0 : Array Value) (hw : ∀ d ∈ tables_1, d.before a0 Z = true) (ws : List Jvm.Cond) (o0 : Addr) (p1 : Int32) (w_ranges_o0 : Addr) (k_r : ClassId) (c0 : Int32) (c1 : Int32) (w_negated_o0 : Int32) (h0 : Heap) (n0 : Nat) (Z0 : n0 ≤ h0.size) (P_F_o0_categories : Fld Z h0 o0 "com/example/firm_query/firmquery/IRegexpParser$CharClass" "categories" "I" (.int (0 : Int32))) (P_F_o0_ranges : Fld Z h0 o0 "com/example/firm_query/firmquery/IRegexpParser$CharClass" "ranges" "[I" (.ref w_ranges_o0)) (P_V_w_ranges_o0 : Arv Z h0 w_ranges_o0 k_r .int (2 : Int32) [(.int c0), (.int c1)] (.int (0 : Int32))) (P_E_o0 : Exa Z h0 o0 "com/example/firm_query/firmquery/IRegexpParser$CharClass") (P_F_o0_negated : Fld Z h0 o0 "com/example/firm_query/firmquery/IRegexpParser$CharClass" "negated" "Z" (.int w_negated_o0)) :
    MetFree l (⟨"com/example/firm_query/firmquery/IRegexpParser$CharClass", "contains", "(I)Z"⟩ : MethodName) (head1 (Jvm.Cond.code (⟨"com/example/firm_query/firmquery/IRegexpParser$CharClass", "contains", "(I)Z"⟩ : MethodName) prog_13_method_3_code 3 (some .boolean) :: ws) ({ frames := 1, cells := 0, slots := 0, locals := 16 } : Room)) (fun a U => a = #[(.ref o0), (.int p1)] ∧ Z.Warmed39 U.vm ∧ U.heap = h0) (fun _ _ _ _ _ => True) (fun _ U o U' => ∃ v L, o = .returned v ∧ own_Q4 Z o0 p1 w_ranges_o0 k_r c0 c1 w_negated_o0 h0 n0 v U'.heap L ∧ FrameEnd U o U' L ({ frames := 1, cells := 0, slots := 0, locals := 16 } : Room).cells ({ frames := 1, cells := 0, slots := 0, locals := 16 } : Room).slots) := by
  refine MetFree.of_bodySF (plainFor_of_name own_pn4) hisR ?_
  intro p e s m args below meth c s₁ Bd hml0 hP hK
  obtain ⟨rfl, hZ, hh⟩ := hP
  have hx := Bd.exec
  have hlk : meth.locks = false := BodyLoose.notSynchronized Bd
  have hby := Bd.bytes
  have hml : c.maxLocals = 3 := hml0
  have hown : s.vm.findClass "com/example/firm_query/firmquery/IRegexpParser$CharClass" = some m.cls := findClass_of_methodNamed Bd.named
  have hnm := (name_of_methodNamed Bd.named Bd.method).1
  have X0 : Stand p l e ({ frames := 1, cells := 0, slots := 0, locals := 16 } : Room) s m #[(.ref o0), (.int p1)] below meth c s₁ [] 0 0 := Stand.of_body Bd
  have e0 : s₁.heap = h0 := by rw [← hh, Bd.state]; rfl
  have N0 := Fr.nil n0
  have pre0 : ∀ t, Steps p.tables e below (s₁.setTop (mkF m 0 #[.val (.ref o0), .val (.int p1), .unset] [])) t → Steps p.tables e below (s₁.setTop (entryFrame m #[(.ref o0), (.int p1)] 3)) t := fun t k => castTop (own_ef4 m o0 p1) k
  obtain ⟨cq1, q1, q1'⟩ := P_E_o0.cell
  obtain ⟨_, _, ⟨T1, L1, k1, n1⟩, -, X1, ⟨Lc1, hQ1, l1, y1, z1⟩, st1⟩ := X0.privateBack hx (y := (⟨"com/example/firm_query/firmquery/IRegexpParser$CharClass", "inRanges", "(I)Z"⟩ : MethodName)) hown (mvT hZ (hw _ (List.mem_of_getElem? (i := 24) rfl))) (mvT hZ (hw _ (List.mem_of_getElem? (i := 25) rfl))) (mvT hZ (own_sel0 Z a0 hw)) (Cond.privateMethod_at (mvP hZ (hw _ (List.mem_of_getElem? (i := 26) rfl)) (args := #[]))) (mvT hZ (hw _ (List.mem_of_getElem? (i := 27) rfl))) (by decide) (backOf (W := 0) (own_rm5 l Z a0 hw [] o0 p1 w_ranges_o0 k_r c0 c1 h0 n0 Z0 P_F_o0_ranges P_V_w_ranges_o0) hZ (hw _ (List.mem_of_getElem? (i := 27) rfl)) (hw _ (List.mem_of_getElem? (i := 2) rfl)) (by decide) (by decide)) (g := (mkF m 2 #[.val (.ref o0), .val (.int p1), .unset] [(.int p1), (.ref o0)])) rfl (by rw [hml]; rfl) (Steps.refl _) (a := o0) (by rw [e0]; exact q1) q1' (argsL := [(.int p1)]) (rest := []) (lenOf own_pd1 rfl) rfl (by show 2 * 0 + _ ≤ _; exact Nat.le_of_eq rfl) (hb hby own_d4_2) (fun _ _ => ⟨rfl, e0, (by decide : 0 + 0 ≤ _), (by decide : 0 + 0 ≤ _)⟩)
  dsimp only [Pt.U, Pt.locs, Pt.cells, Pt.slots] at X1 l1 y1 z1 st1 hQ1
  subst l1 y1 z1
  obtain ⟨rfl, N1q, e1⟩ := hQ1
  have N2 := Fr.app N0 N1q
  have pre3 : ∀ t, Steps p.tables e below (T1.setTop (mkF m 5 #[.val (.ref o0), .val (.int p1), .unset] [(.int (own_f5 p1 c0 c1))])) t → Steps p.tables e below (s₁.setTop (entryFrame m #[(.ref o0), (.int p1)] 3)) t := fun t k => pre0 t (by
      refine XS.aloadN X0.here hx rfl (hb hby own_d4_0) rfl rfl ?_
      show Steps p.tables e below (s₁.setTop (mkF m 1 #[.val (.ref o0), .val (.int p1), .unset] [(.ref o0)])) _
      refine XS.iloadN X0.here hx rfl (hb hby own_d4_1) rfl ?_
      show Steps p.tables e below (s₁.setTop (mkF m 2 #[.val (.ref o0), .val (.int p1), .unset] [(.int p1), (.ref o0)])) _
      refine st1.trans ?_
      show Steps p.tables e below (T1.setTop (mkF m 5 #[.val (.ref o0), .val (.int p1), .unset] [(.int (own_f5 p1 c0 c1))])) _
      exact k)
  by_cases hc4 : (own_f5 p1 c0 c1) = (0 : Int32)
  · obtain ⟨T5, X5, e5, st5⟩ := getF X1 hx hZ hown (host := "") (Or.inl (hw _ (List.mem_of_getElem? (i := 17) rfl))) Via.refl e1 P_F_o0_categories (g := (mkF m 9 #[.val (.ref o0), .val (.int p1), .unset] [(.ref o0)])) rfl rfl (hb hby own_d4_9)
    obtain ⟨T6, X6, e6, st6⟩ := getF X5 hx hZ hown (host := "") (Or.inl (hw _ (List.mem_of_getElem? (i := 13) rfl))) Via.refl e5 P_F_o0_negated (g := (mkF m 37 #[.val (.ref o0), .val (.int p1), .val (.int (0 : Int32))] [(.ref o0), (.int (0 : Int32))])) rfl rfl (hb hby own_d4_37)
    have pre7 : ∀ t, Steps p.tables e below (T6.setTop (mkF m 40 #[.val (.ref o0), .val (.int p1), .val (.int (0 : Int32))] [(.int w_negated_o0), (.int (0 : Int32))])) t → Steps p.tables e below (s₁.setTop (entryFrame m #[(.ref o0), (.int p1)] 3)) t := fun t k => pre3 t (by
        refine XS.ifNo X1.here hx rfl (hb hby own_d4_5) rfl ((if0 _ _).trans (teq hc4).2) ?_
        show Steps p.tables e below (T1.setTop (mkF m 8 #[.val (.ref o0), .val (.int p1), .unset] [])) _
        refine XS.aloadN X1.here hx rfl (hb hby own_d4_8) rfl rfl ?_
        show Steps p.tables e below (T1.setTop (mkF m 9 #[.val (.ref o0), .val (.int p1), .unset] [(.ref o0)])) _
        refine st5 _ ?_
        show Steps p.tables e below (T5.setTop (mkF m 12 #[.val (.ref o0), .val (.int p1), .unset] [(.int (0 : Int32))])) _
        refine XS.ifYes X5.here hx rfl (pc0 := 12) (pc' := 33) rfl (hb hby own_d4_12) rfl ((if0 _ _).trans (teq (by decide : (0 : Int32) = (0 : Int32))).1) (by decide) (by decide) ?_
        show Steps p.tables e below (T5.setTop (mkF m 33 #[.val (.ref o0), .val (.int p1), .unset] [])) _
        refine XS.iconst X5.here hx rfl (hb hby own_d4_33) ?_
        show Steps p.tables e below (T5.setTop (mkF m 34 #[.val (.ref o0), .val (.int p1), .unset] [(.int (0 : Int32))])) _
        refine XS.istoreN X5.here hx rfl (hb hby own_d4_34) rfl (l' := #[.val (.ref o0), .val (.int p1), .val (.int (0 : Int32))]) rfl ?_
        show Steps p.tables e below (T5.setTop (mkF m 35 #[.val (.ref o0), .val (.int p1), .val (.int (0 : Int32))] [])) _
        refine XS.iloadN X5.here hx rfl (hb hby own_d4_35) rfl ?_
        show Steps p.tables e below (T5.setTop (mkF m 36 #[.val (.ref o0), .val (.int p1), .val (.int (0 : Int32))] [(.int (0 : Int32))])) _
        refine XS.aloadN X5.here hx rfl (hb hby own_d4_36) rfl rfl ?_
        show Steps p.tables e below (T5.setTop (mkF m 37 #[.val (.ref o0), .val (.int p1), .val (.int (0 : Int32))] [(.ref o0), (.int (0 : Int32))])) _
        refine st6 _ ?_
        show Steps p.tables e below (T6.setTop (mkF m 40 #[.val (.ref o0), .val (.int p1), .val (.int (0 : Int32))] [(.int w_negated_o0), (.int (0 : Int32))])) _
        exact k)
    by_cases hc8 : (0 : Int32) = w_negated_o0
    · have pre9 : ∀ t, Steps p.tables e below (T6.setTop (mkF m 48 #[.val (.ref o0), .val (.int p1), .val (.int (0 : Int32))] [(.int (0 : Int32))])) t → Steps p.tables e below (s₁.setTop (entryFrame m #[(.ref o0), (.int p1)] 3)) t := fun t k => pre7 t (by
          refine XS.icmpYes X6.here hx rfl (pc0 := 40) (pc' := 47) rfl (hb hby own_d4_40) rfl (teq hc8).1 (by decide) (by decide) ?_
          show Steps p.tables e below (T6.setTop (mkF m 47 #[.val (.ref o0), .val (.int p1), .val (.int (0 : Int32))] [])) _
          refine XS.iconst X6.here hx rfl (hb hby own_d4_47) ?_
          show Steps p.tables e below (T6.setTop (mkF m 48 #[.val (.ref o0), .val (.int p1), .val (.int (0 : Int32))] [(.int (0 : Int32))])) _
          exact k)
      obtain ⟨fs, hr, hrun, hended, hW, hsame⟩ := X6.leave (v := some (.int (0 : Int32))) (fun h => by rw [Bd.returns] at h; cases h) (hlocks := hlk)
      refine ⟨_, _, pre9 _ ?_, hrun, hended, _, _, rfl, ?_, ⟨_, rfl⟩, hW, hsame.mono (by decide) (by decide)⟩
      · show Steps p.tables e below (T6.setTop (mkF m 48 #[.val (.ref o0), .val (.int p1), .val (.int (0 : Int32))] [(.int (0 : Int32))])) _
        exact retN X6 hx (t := .boolean) Bd.returns (by simp) (hb hby own_d4_48) hr
      · show own_Q4 Z o0 p1 w_ranges_o0 k_r c0 c1 w_negated_o0 h0 n0 _ T6.heap _; rw [e6]; exact ⟨(by show some (Value.int _) = some (.int (own_f4 p1 c0 c1 w_negated_o0)); unfold own_f4; rw [if_pos hc4, if_pos hc8]), N2, rfl⟩
    · have pre10 : ∀ t, Steps p.tables e below (T6.setTop (mkF m 48 #[.val (.ref o0), .val (.int p1), .val (.int (0 : Int32))] [(.int (1 : Int32))])) t → Steps p.tables e below (s₁.setTop (entryFrame m #[(.ref o0), (.int p1)] 3)) t := fun t k => pre7 t (by
          refine XS.icmpNo X6.here hx rfl (hb hby own_d4_40) rfl (feq hc8).1 ?_
          show Steps p.tables e below (T6.setTop (mkF m 43 #[.val (.ref o0), .val (.int p1), .val (.int (0 : Int32))] [])) _
          refine XS.iconst X6.here hx rfl (hb hby own_d4_43) ?_
          show Steps p.tables e below (T6.setTop (mkF m 44 #[.val (.ref o0), .val (.int p1), .val (.int (0 : Int32))] [(.int (1 : Int32))])) _
          refine XS.goto X6.here hx rfl (pc0 := 44) (pc' := 48) rfl (hb hby own_d4_44) (by decide) (by decide) ?_
          show Steps p.tables e below (T6.setTop (mkF m 48 #[.val (.ref o0), .val (.int p1), .val (.int (0 : Int32))] [(.int (1 : Int32))])) _
          exact k)
      obtain ⟨fs, hr, hrun, hended, hW, hsame⟩ := X6.leave (v := some (.int (1 : Int32))) (fun h => by rw [Bd.returns] at h; cases h) (hlocks := hlk)
      refine ⟨_, _, pre10 _ ?_, hrun, hended, _, _, rfl, ?_, ⟨_, rfl⟩, hW, hsame.mono (by decide) (by decide)⟩
      · show Steps p.tables e below (T6.setTop (mkF m 48 #[.val (.ref o0), .val (.int p1), .val (.int (0 : Int32))] [(.int (1 : Int32))])) _
        exact retN X6 hx (t := .boolean) Bd.returns (by simp) (hb hby own_d4_48) hr
      · show own_Q4 Z o0 p1 w_ranges_o0 k_r c0 c1 w_negated_o0 h0 n0 _ T6.heap _; rw [e6]; exact ⟨(by show some (Value.int _) = some (.int (own_f4 p1 c0 c1 w_negated_o0)); unfold own_f4; rw [if_pos hc4, if_neg hc8]), N2, rfl⟩
  · obtain ⟨T11, X11, e11, st11⟩ := getF X1 hx hZ hown (host := "") (Or.inl (hw _ (List.mem_of_getElem? (i := 13) rfl))) Via.refl e1 P_F_o0_negated (g := (mkF m 37 #[.val (.ref o0), .val (.int p1), .val (.int (1 : Int32))] [(.ref o0), (.int (1 : Int32))])) rfl rfl (hb hby own_d4_37)
    have pre12 : ∀ t, Steps p.tables e below (T11.setTop (mkF m 40 #[.val (.ref o0), .val (.int p1), .val (.int (1 : Int32))] [(.int w_negated_o0), (.int (1 : Int32))])) t → Steps p.tables e below (s₁.setTop (entryFrame m #[(.ref o0), (.int p1)] 3)) t := fun t k => pre3 t (by
        refine XS.ifYes X1.here hx rfl (pc0 := 5) (pc' := 29) rfl (hb hby own_d4_5) rfl ((if0 _ _).trans (feq hc4).2) (by decide) (by decide) ?_
        show Steps p.tables e below (T1.setTop (mkF m 29 #[.val (.ref o0), .val (.int p1), .unset] [])) _
        refine XS.iconst X1.here hx rfl (hb hby own_d4_29) ?_
        show Steps p.tables e below (T1.setTop (mkF m 30 #[.val (.ref o0), .val (.int p1), .unset] [(.int (1 : Int32))])) _
        refine XS.goto X1.here hx rfl (pc0 := 30) (pc' := 34) rfl (hb hby own_d4_30) (by decide) (by decide) ?_
        show Steps p.tables e below (T1.setTop (mkF m 34 #[.val (.ref o0), .val (.int p1), .unset] [(.int (1 : Int32))])) _
        refine XS.istoreN X1.here hx rfl (hb hby own_d4_34) rfl (l' := #[.val (.ref o0), .val (.int p1), .val (.int (1 : Int32))]) rfl ?_
        show Steps p.tables e below (T1.setTop (mkF m 35 #[.val (.ref o0), .val (.int p1), .val (.int (1 : Int32))] [])) _
        refine XS.iloadN X1.here hx rfl (hb hby own_d4_35) rfl ?_
        show Steps p.tables e below (T1.setTop (mkF m 36 #[.val (.ref o0), .val (.int p1), .val (.int (1 : Int32))] [(.int (1 : Int32))])) _
        refine XS.aloadN X1.here hx rfl (hb hby own_d4_36) rfl rfl ?_
        show Steps p.tables e below (T1.setTop (mkF m 37 #[.val (.ref o0), .val (.int p1), .val (.int (1 : Int32))] [(.ref o0), (.int (1 : Int32))])) _
        refine st11 _ ?_
        show Steps p.tables e below (T11.setTop (mkF m 40 #[.val (.ref o0), .val (.int p1), .val (.int (1 : Int32))] [(.int w_negated_o0), (.int (1 : Int32))])) _
        exact k)
    by_cases hc13 : (1 : Int32) = w_negated_o0
    · have pre14 : ∀ t, Steps p.tables e below (T11.setTop (mkF m 48 #[.val (.ref o0), .val (.int p1), .val (.int (1 : Int32))] [(.int (0 : Int32))])) t → Steps p.tables e below (s₁.setTop (entryFrame m #[(.ref o0), (.int p1)] 3)) t := fun t k => pre12 t (by
          refine XS.icmpYes X11.here hx rfl (pc0 := 40) (pc' := 47) rfl (hb hby own_d4_40) rfl (teq hc13).1 (by decide) (by decide) ?_
          show Steps p.tables e below (T11.setTop (mkF m 47 #[.val (.ref o0), .val (.int p1), .val (.int (1 : Int32))] [])) _
          refine XS.iconst X11.here hx rfl (hb hby own_d4_47) ?_
          show Steps p.tables e below (T11.setTop (mkF m 48 #[.val (.ref o0), .val (.int p1), .val (.int (1 : Int32))] [(.int (0 : Int32))])) _
          exact k)
      obtain ⟨fs, hr, hrun, hended, hW, hsame⟩ := X11.leave (v := some (.int (0 : Int32))) (fun h => by rw [Bd.returns] at h; cases h) (hlocks := hlk)
      refine ⟨_, _, pre14 _ ?_, hrun, hended, _, _, rfl, ?_, ⟨_, rfl⟩, hW, hsame.mono (by decide) (by decide)⟩
      · show Steps p.tables e below (T11.setTop (mkF m 48 #[.val (.ref o0), .val (.int p1), .val (.int (1 : Int32))] [(.int (0 : Int32))])) _
        exact retN X11 hx (t := .boolean) Bd.returns (by simp) (hb hby own_d4_48) hr
      · show own_Q4 Z o0 p1 w_ranges_o0 k_r c0 c1 w_negated_o0 h0 n0 _ T11.heap _; rw [e11]; exact ⟨(by show some (Value.int _) = some (.int (own_f4 p1 c0 c1 w_negated_o0)); unfold own_f4; rw [if_neg hc4, if_pos hc13]), N2, rfl⟩
    · have pre15 : ∀ t, Steps p.tables e below (T11.setTop (mkF m 48 #[.val (.ref o0), .val (.int p1), .val (.int (1 : Int32))] [(.int (1 : Int32))])) t → Steps p.tables e below (s₁.setTop (entryFrame m #[(.ref o0), (.int p1)] 3)) t := fun t k => pre12 t (by
          refine XS.icmpNo X11.here hx rfl (hb hby own_d4_40) rfl (feq hc13).1 ?_
          show Steps p.tables e below (T11.setTop (mkF m 43 #[.val (.ref o0), .val (.int p1), .val (.int (1 : Int32))] [])) _
          refine XS.iconst X11.here hx rfl (hb hby own_d4_43) ?_
          show Steps p.tables e below (T11.setTop (mkF m 44 #[.val (.ref o0), .val (.int p1), .val (.int (1 : Int32))] [(.int (1 : Int32))])) _
          refine XS.goto X11.here hx rfl (pc0 := 44) (pc' := 48) rfl (hb hby own_d4_44) (by decide) (by decide) ?_
          show Steps p.tables e below (T11.setTop (mkF m 48 #[.val (.ref o0), .val (.int p1), .val (.int (1 : Int32))] [(.int (1 : Int32))])) _
          exact k)
      obtain ⟨fs, hr, hrun, hended, hW, hsame⟩ := X11.leave (v := some (.int (1 : Int32))) (fun h => by rw [Bd.returns] at h; cases h) (hlocks := hlk)
      refine ⟨_, _, pre15 _ ?_, hrun, hended, _, _, rfl, ?_, ⟨_, rfl⟩, hW, hsame.mono (by decide) (by decide)⟩
      · show Steps p.tables e below (T11.setTop (mkF m 48 #[.val (.ref o0), .val (.int p1), .val (.int (1 : Int32))] [(.int (1 : Int32))])) _
        exact retN X11 hx (t := .boolean) Bd.returns (by simp) (hb hby own_d4_48) hr
      · show own_Q4 Z o0 p1 w_ranges_o0 k_r c0 c1 w_negated_o0 h0 n0 _ T11.heap _; rw [e11]; exact ⟨(by show some (Value.int _) = some (.int (own_f4 p1 c0 c1 w_negated_o0)); unfold own_f4; rw [if_neg hc4, if_neg hc13]), N2, rfl⟩
theorem own_pd2 : parseMethodDescriptor "(I)Lcom/example/firm_query/firmquery/IRegexpParser$CharClass;" = some ⟨[.int], some (.object "com/example/firm_query/firmquery/IRegexpParser$CharClass")⟩ := by decide +kernel
theorem own_pn0 : plainName "com/example/firm_query/firmquery/CharClassOfPinLaw" = true := by first | (simp [plainName, overriddenIn]; done) | decide +kernel
theorem own_ef0 (m : MethodId) (x0 : Int32) (x1 : Int32) (x2 : Int32) : entryFrame m #[(.int x0), (.int x1), (.int x2)] maxLocals = (mkF m 0 #[.val (.int x0), .val (.int x1), .val (.int x2), .unset, .unset, .unset, .unset, .unset] []) := by first | (simp [entryFrame, mkF, argsToLocals, Value.category, maxLocals]; done) | rfl
def own_v0_55_0 (p0 : Int32) : Int32 := (own_f4 p0 p0 p0 (nar .boolean (0 : Int32)))
def own_v0_64_1 (p0 : Int32) : Int32 := (own_f4 (p0 + (1 : Int32)) p0 p0 (nar .boolean (0 : Int32)))
def own_v0_64_2 (p0 : Int32) : Int32 := (own_f4 (p0 - (1 : Int32)) p0 p0 (nar .boolean (0 : Int32)))
def own_v0_64_3 (p0 : Int32) (p1 : Int32) : Int32 := (own_f4 p1 p0 p0 (nar .boolean (0 : Int32)))
def own_f0 (p0 : Int32) (p1 : Int32) (p2 : Int32) : Int32 := (if (p2 &&& (3 : Int32)) = (0 : Int32) then (if (own_v0_55_0 p0) = (0 : Int32) then (0 : Int32) else (if (own_v0_55_0 p0) = (1 : Int32) then (1 : Int32) else (0 : Int32))) else (if (p2 &&& (3 : Int32)) = (1 : Int32) then (if (own_v0_55_0 p0) = (0 : Int32) then (0 : Int32) else (if (p0 + (1 : Int32)) = p0 then (if (own_v0_64_1 p0) = (1 : Int32) then (1 : Int32) else (0 : Int32)) else (if (own_v0_64_1 p0) = (0 : Int32) then (1 : Int32) else (0 : Int32)))) else (if (p2 &&& (3 : Int32)) = (2 : Int32) then (if (own_v0_55_0 p0) = (0 : Int32) then (0 : Int32) else (if (p0 - (1 : Int32)) = p0 then (if (own_v0_64_2 p0) = (1 : Int32) then (1 : Int32) else (0 : Int32)) else (if (own_v0_64_2 p0) = (0 : Int32) then (1 : Int32) else (0 : Int32)))) else (if (own_v0_55_0 p0) = (0 : Int32) then (0 : Int32) else (if p1 = p0 then (if (own_v0_64_3 p0 p1) = (1 : Int32) then (1 : Int32) else (0 : Int32)) else (if (own_v0_64_3 p0 p1) = (0 : Int32) then (1 : Int32) else (0 : Int32)))))))
def own_Q0 (Z : State) (p0 : Int32) (p1 : Int32) (p2 : Int32) (h0 : Heap) (n0 : Nat) (v : Option Value) (h : Heap) (L : List Loc) : Prop := v = some (.int (own_f0 p0 p1 p2)) ∧ Fr n0 L
set_option maxRecDepth 65536 in
set_option maxHeartbeats 40000000 in
theorem own_rm0 (l : Launch) (Z : State) (a0 : Array Value) (hw : ∀ d ∈ tables_1, d.before a0 Z = true) (ws : List Jvm.Cond) (p0 : Int32) (p1 : Int32) (p2 : Int32) (h0 : Heap) (n0 : Nat) (Z0 : n0 ≤ h0.size) :
    MetFree l x (head1 (Jvm.Cond.code x code maxLocals ret :: ws) room_1) (fun a U => a = #[(.int p0), (.int p1), (.int p2)] ∧ Z.Warmed39 U.vm ∧ U.heap = h0) (fun _ _ _ _ _ => True) (fun _ U o U' => ∃ v L, o = .returned v ∧ own_Q0 Z p0 p1 p2 h0 n0 v U'.heap L ∧ FrameEnd U o U' L room_1.cells room_1.slots) := by
  refine MetFree.of_bodySF (plainFor_of_name own_pn0) hisR ?_
  intro p e s m args below meth c s₁ Bd hml0 hP hK
  obtain ⟨rfl, hZ, hh⟩ := hP
  have hx := Bd.exec
  have hlk : meth.locks = false := BodyLoose.notSynchronized Bd
  have hby := Bd.bytes
  have hml : c.maxLocals = 8 := hml0
  have hown : s.vm.findClass "com/example/firm_query/firmquery/CharClassOfPinLaw" = some m.cls := findClass_of_methodNamed Bd.named
  have hnm := (name_of_methodNamed Bd.named Bd.method).1
  have X0 : Stand p l e room_1 s m #[(.int p0), (.int p1), (.int p2)] below meth c s₁ [] 0 0 := Stand.of_body Bd
  have e0 : s₁.heap = h0 := by rw [← hh, Bd.state]; rfl
  have N0 := Fr.nil n0
  have pre0 : ∀ t, Steps p.tables e below (s₁.setTop (mkF m 0 #[.val (.int p0), .val (.int p1), .val (.int p2), .unset, .unset, .unset, .unset, .unset] [])) t → Steps p.tables e below (s₁.setTop (entryFrame m #[(.int p0), (.int p1), (.int p2)] maxLocals)) t := fun t k => castTop (own_ef0 m p0 p1 p2) k
  have pre1 : ∀ t, Steps p.tables e below (s₁.setTop (mkF m 5 #[.val (.int p0), .val (.int p1), .val (.int p2), .val (.int (p2 &&& (3 : Int32))), .unset, .unset, .unset, .unset] [(.int (p2 &&& (3 : Int32)))])) t → Steps p.tables e below (s₁.setTop (entryFrame m #[(.int p0), (.int p1), (.int p2)] maxLocals)) t := fun t k => pre0 t (by
      refine XS.iloadN X0.here hx rfl (hb hby at_0) rfl ?_
      show Steps p.tables e below (s₁.setTop (mkF m 1 #[.val (.int p0), .val (.int p1), .val (.int p2), .unset, .unset, .unset, .unset, .unset] [(.int p2)])) _
      refine XS.iconst X0.here hx rfl (hb hby at_1) ?_
      show Steps p.tables e below (s₁.setTop (mkF m 2 #[.val (.int p0), .val (.int p1), .val (.int p2), .unset, .unset, .unset, .unset, .unset] [(.int (3 : Int32)), (.int p2)])) _
      refine XS.iand X0.here hx rfl (hb hby at_2) rfl ?_
      show Steps p.tables e below (s₁.setTop (mkF m 3 #[.val (.int p0), .val (.int p1), .val (.int p2), .unset, .unset, .unset, .unset, .unset] [(.int (p2 &&& (3 : Int32)))])) _
      refine XS.istoreN X0.here hx rfl (hb hby at_3) rfl (l' := #[.val (.int p0), .val (.int p1), .val (.int p2), .val (.int (p2 &&& (3 : Int32))), .unset, .unset, .unset, .unset]) rfl ?_
      show Steps p.tables e below (s₁.setTop (mkF m 4 #[.val (.int p0), .val (.int p1), .val (.int p2), .val (.int (p2 &&& (3 : Int32))), .unset, .unset, .unset, .unset] [])) _
      refine XS.iloadN X0.here hx rfl (hb hby at_4) rfl ?_
      show Steps p.tables e below (s₁.setTop (mkF m 5 #[.val (.int p0), .val (.int p1), .val (.int p2), .val (.int (p2 &&& (3 : Int32))), .unset, .unset, .unset, .unset] [(.int (p2 &&& (3 : Int32)))])) _
      exact k)
  by_cases hc2 : (p2 &&& (3 : Int32)) = (0 : Int32)
  · obtain ⟨_, _, ⟨T3, L3, k3, n3⟩, -, X3, ⟨Lc3, hQ3, l3, y3, z3⟩, st3⟩ := Jvm.LawKit.callS X0 hx (y := (⟨"com/example/firm_query/firmquery/IRegexpParser$CharClass", "of", "(I)Lcom/example/firm_query/firmquery/IRegexpParser$CharClass;"⟩ : MethodName)) hown (mvT hZ (hw _ (List.mem_of_getElem? (i := 0) rfl))) (mvT hZ (hw _ (List.mem_of_getElem? (i := 1) rfl))) (mvT hZ (hw _ (List.mem_of_getElem? (i := 2) rfl))) (mvT hZ (hw _ (List.mem_of_getElem? (i := 3) rfl))) (by decide) (backOf (W := 0) (own_rm1 l Z a0 hw [] p0 h0 n0 Z0 ) hZ (hw _ (List.mem_of_getElem? (i := 3) rfl)) (hw _ (List.mem_of_getElem? (i := 2) rfl)) (by decide) (by decide)) (g := (mkF m 44 #[.val (.int p0), .val (.int p1), .val (.int p2), .val (.int (p2 &&& (3 : Int32))), .val (.int p0), .unset, .unset, .unset] [(.int p0)])) rfl (by rw [hml]; rfl) (argsL := [(.int p0)]) (rest := []) (lenOf own_pd2 rfl) rfl (by show 2 * 0 + _ ≤ _; exact Nat.le_of_eq rfl) (hb hby at_44) (fun _ _ => ⟨rfl, e0, (by decide : 0 + 2 ≤ _), (by decide : 0 + 5 ≤ _)⟩)
    dsimp only [Pt.U, Pt.locs, Pt.cells, Pt.slots] at X3 l3 y3 z3 st3 hQ3
    subst l3 y3 z3
    obtain ⟨b1_3, b8_3, k8_3, rfl, N3q, K3, sqb1_3_3, sqb8_3_3, f4, f5, f6, f7, f8⟩ := hQ3
    have g_b1_3 : n0 ≤ b1_3 := Nat.le_trans Z0 sqb1_3_3
    have sz_b1_3 : h0.size ≤ b1_3 := Nat.le_trans (Nat.le_refl _) sqb1_3_3
    have g_b8_3 : n0 ≤ b8_3 := Nat.le_trans Z0 sqb8_3_3
    have sz_b8_3 : h0.size ≤ b8_3 := Nat.le_trans (Nat.le_refl _) sqb8_3_3
    have zs9 : n0 ≤ T3.heap.size := Nat.le_trans Z0 K3.1
    have K10 : Keep h0 h0 [] := Keep.refl h0 []
    have K11 : Keep h0 T3.heap [] := K10.trans K3 all0
    have N12 := Fr.app N0 N3q
    obtain ⟨cq13, kq13, q13a, q13b, q13c⟩ := isOf hZ rfl f4
    obtain ⟨_, _, ⟨T13, L13, k13, n13⟩, -, X13, ⟨Lc13, hQ13, l13, y13, z13⟩, st13⟩ := X3.virtualBack hx (y := (⟨"com/example/firm_query/firmquery/IRegexpParser$CharClass", "contains", "(I)Z"⟩ : MethodName)) (z := (⟨"com/example/firm_query/firmquery/IRegexpParser$CharClass", "contains", "(I)Z"⟩ : MethodName)) hown (mvT hZ (hw _ (List.mem_of_getElem? (i := 19) rfl))) (mvT hZ (hw _ (List.mem_of_getElem? (i := 20) rfl))) (notFace_of_selects (args := #[]) (mvT hZ (hw _ (List.mem_of_getElem? (i := 22) rfl)))) (mvT hZ (hw _ (List.mem_of_getElem? (i := 22) rfl))) (mvT hZ (hw _ (List.mem_of_getElem? (i := 21) rfl))) (by decide) (backOf (W := 0) (own_rm4 l Z a0 hw [] b1_3 p0 b8_3 k8_3 p0 p0 (nar .boolean (0 : Int32)) T3.heap n0 zs9 f7 f6 f8 f4 f5) hZ (hw _ (List.mem_of_getElem? (i := 23) rfl)) (hw _ (List.mem_of_getElem? (i := 2) rfl)) (by decide) (by decide)) q13a q13c (g := (mkF m 52 #[.val (.int p0), .val (.int p1), .val (.int p2), .val (.int (p2 &&& (3 : Int32))), .val (.int p0), .val (.ref b1_3), .unset, .unset] [(.int p0), (.ref b1_3)])) rfl (by rw [hml]; rfl) (Steps.refl _) (argsL := [(.int p0)]) (rest := []) (lenOf own_pd1 rfl) rfl (by show 2 * 0 + _ ≤ _; exact Nat.le_of_eq rfl) (hb hby at_52) (fun _ _ => ⟨rfl, rfl, (by decide : 2 + 0 ≤ _), (by decide : 5 + 0 ≤ _)⟩)
    dsimp only [Pt.U, Pt.locs, Pt.cells, Pt.slots] at X13 l13 y13 z13 st13 hQ13
    subst l13 y13 z13
    obtain ⟨rfl, N13q, e13⟩ := hQ13
    have N14 := Fr.app N12 N13q
    obtain ⟨cq15, kq15, q15a, q15b, q15c⟩ := isOf hZ e13 f4
    obtain ⟨_, _, ⟨T15, L15, k15, n15⟩, -, X15, ⟨Lc15, hQ15, l15, y15, z15⟩, st15⟩ := X13.virtualBack hx (y := (⟨"com/example/firm_query/firmquery/IRegexpParser$CharClass", "contains", "(I)Z"⟩ : MethodName)) (z := (⟨"com/example/firm_query/firmquery/IRegexpParser$CharClass", "contains", "(I)Z"⟩ : MethodName)) hown (mvT hZ (hw _ (List.mem_of_getElem? (i := 19) rfl))) (mvT hZ (hw _ (List.mem_of_getElem? (i := 20) rfl))) (notFace_of_selects (args := #[]) (mvT hZ (hw _ (List.mem_of_getElem? (i := 22) rfl)))) (mvT hZ (hw _ (List.mem_of_getElem? (i := 22) rfl))) (mvT hZ (hw _ (List.mem_of_getElem? (i := 21) rfl))) (by decide) (backOf (W := 0) (own_rm4 l Z a0 hw [] b1_3 p0 b8_3 k8_3 p0 p0 (nar .boolean (0 : Int32)) T3.heap n0 zs9 f7 f6 f8 f4 f5) hZ (hw _ (List.mem_of_getElem? (i := 23) rfl)) (hw _ (List.mem_of_getElem? (i := 2) rfl)) (by decide) (by decide)) q15a q15c (g := (mkF m 61 #[.val (.int p0), .val (.int p1), .val (.int p2), .val (.int (p2 &&& (3 : Int32))), .val (.int p0), .val (.ref b1_3), .val (.int (own_v0_55_0 p0)), .unset] [(.int p0), (.ref b1_3)])) rfl (by rw [hml]; rfl) (Steps.refl _) (argsL := [(.int p0)]) (rest := []) (lenOf own_pd1 rfl) rfl (by show 2 * 0 + _ ≤ _; exact Nat.le_of_eq rfl) (hb hby at_61) (fun _ _ => ⟨rfl, e13, (by decide : 2 + 0 ≤ _), (by decide : 5 + 0 ≤ _)⟩)
    dsimp only [Pt.U, Pt.locs, Pt.cells, Pt.slots] at X15 l15 y15 z15 st15 hQ15
    subst l15 y15 z15
    obtain ⟨rfl, N15q, e15⟩ := hQ15
    have N16 := Fr.app N14 N15q
    have pre17 : ∀ t, Steps p.tables e below (T15.setTop (mkF m 68 #[.val (.int p0), .val (.int p1), .val (.int p2), .val (.int (p2 &&& (3 : Int32))), .val (.int p0), .val (.ref b1_3), .val (.int (own_v0_55_0 p0)), .val (.int (own_v0_55_0 p0))] [(.int (own_v0_55_0 p0))])) t → Steps p.tables e below (s₁.setTop (entryFrame m #[(.int p0), (.int p1), (.int p2)] maxLocals)) t := fun t k => pre1 t (by
        refine XS.ifNo X0.here hx rfl (hb hby at_5) rfl ((if0 _ _).trans (teq hc2).2) ?_
        show Steps p.tables e below (s₁.setTop (mkF m 8 #[.val (.int p0), .val (.int p1), .val (.int p2), .val (.int (p2 &&& (3 : Int32))), .unset, .unset, .unset, .unset] [])) _
        refine XS.iloadN X0.here hx rfl (hb hby at_8) rfl ?_
        show Steps p.tables e below (s₁.setTop (mkF m 9 #[.val (.int p0), .val (.int p1), .val (.int p2), .val (.int (p2 &&& (3 : Int32))), .unset, .unset, .unset, .unset] [(.int p0)])) _
        refine XS.istore X0.here hx rfl (hb hby at_9) rfl (l' := #[.val (.int p0), .val (.int p1), .val (.int p2), .val (.int (p2 &&& (3 : Int32))), .val (.int p0), .unset, .unset, .unset]) rfl ?_
        show Steps p.tables e below (s₁.setTop (mkF m 11 #[.val (.int p0), .val (.int p1), .val (.int p2), .val (.int (p2 &&& (3 : Int32))), .val (.int p0), .unset, .unset, .unset] [])) _
        refine XS.goto X0.here hx rfl (pc0 := 11) (pc' := 43) rfl (hb hby at_11) (by decide) (by decide) ?_
        show Steps p.tables e below (s₁.setTop (mkF m 43 #[.val (.int p0), .val (.int p1), .val (.int p2), .val (.int (p2 &&& (3 : Int32))), .val (.int p0), .unset, .unset, .unset] [])) _
        refine XS.iloadN X0.here hx rfl (hb hby at_43) rfl ?_
        show Steps p.tables e below (s₁.setTop (mkF m 44 #[.val (.int p0), .val (.int p1), .val (.int p2), .val (.int (p2 &&& (3 : Int32))), .val (.int p0), .unset, .unset, .unset] [(.int p0)])) _
        refine st3 _ ?_
        show Steps p.tables e below (T3.setTop (mkF m 47 #[.val (.int p0), .val (.int p1), .val (.int p2), .val (.int (p2 &&& (3 : Int32))), .val (.int p0), .unset, .unset, .unset] [(.ref b1_3)])) _
        refine XS.astore X3.here hx rfl (hb hby at_47) rfl rfl (l' := #[.val (.int p0), .val (.int p1), .val (.int p2), .val (.int (p2 &&& (3 : Int32))), .val (.int p0), .val (.ref b1_3), .unset, .unset]) rfl ?_
        show Steps p.tables e below (T3.setTop (mkF m 49 #[.val (.int p0), .val (.int p1), .val (.int p2), .val (.int (p2 &&& (3 : Int32))), .val (.int p0), .val (.ref b1_3), .unset, .unset] [])) _
        refine XS.aload X3.here hx rfl (hb hby at_49) rfl rfl ?_
        show Steps p.tables e below (T3.setTop (mkF m 51 #[.val (.int p0), .val (.int p1), .val (.int p2), .val (.int (p2 &&& (3 : Int32))), .val (.int p0), .val (.ref b1_3), .unset, .unset] [(.ref b1_3)])) _
        refine XS.iloadN X3.here hx rfl (hb hby at_51) rfl ?_
        show Steps p.tables e below (T3.setTop (mkF m 52 #[.val (.int p0), .val (.int p1), .val (.int p2), .val (.int (p2 &&& (3 : Int32))), .val (.int p0), .val (.ref b1_3), .unset, .unset] [(.int p0), (.ref b1_3)])) _
        refine st13.trans ?_
        show Steps p.tables e below (T13.setTop (mkF m 55 #[.val (.int p0), .val (.int p1), .val (.int p2), .val (.int (p2 &&& (3 : Int32))), .val (.int p0), .val (.ref b1_3), .unset, .unset] [(.int (own_f4 p0 p0 p0 (nar .boolean (0 : Int32))))])) _
        refine XS.istore X13.here hx rfl (hb hby at_55) rfl (l' := #[.val (.int p0), .val (.int p1), .val (.int p2), .val (.int (p2 &&& (3 : Int32))), .val (.int p0), .val (.ref b1_3), .val (.int (own_v0_55_0 p0)), .unset]) rfl ?_
        show Steps p.tables e below (T13.setTop (mkF m 57 #[.val (.int p0), .val (.int p1), .val (.int p2), .val (.int (p2 &&& (3 : Int32))), .val (.int p0), .val (.ref b1_3), .val (.int (own_v0_55_0 p0)), .unset] [])) _
        refine XS.aload X13.here hx rfl (hb hby at_57) rfl rfl ?_
        show Steps p.tables e below (T13.setTop (mkF m 59 #[.val (.int p0), .val (.int p1), .val (.int p2), .val (.int (p2 &&& (3 : Int32))), .val (.int p0), .val (.ref b1_3), .val (.int (own_v0_55_0 p0)), .unset] [(.ref b1_3)])) _
        refine XS.iload X13.here hx rfl (hb hby at_59) rfl ?_
        show Steps p.tables e below (T13.setTop (mkF m 61 #[.val (.int p0), .val (.int p1), .val (.int p2), .val (.int (p2 &&& (3 : Int32))), .val (.int p0), .val (.ref b1_3), .val (.int (own_v0_55_0 p0)), .unset] [(.int p0), (.ref b1_3)])) _
        refine st15.trans ?_
        show Steps p.tables e below (T15.setTop (mkF m 64 #[.val (.int p0), .val (.int p1), .val (.int p2), .val (.int (p2 &&& (3 : Int32))), .val (.int p0), .val (.ref b1_3), .val (.int (own_v0_55_0 p0)), .unset] [(.int (own_f4 p0 p0 p0 (nar .boolean (0 : Int32))))])) _
        refine XS.istore X15.here hx rfl (hb hby at_64) rfl (l' := #[.val (.int p0), .val (.int p1), .val (.int p2), .val (.int (p2 &&& (3 : Int32))), .val (.int p0), .val (.ref b1_3), .val (.int (own_v0_55_0 p0)), .val (.int (own_v0_55_0 p0))]) rfl ?_
        show Steps p.tables e below (T15.setTop (mkF m 66 #[.val (.int p0), .val (.int p1), .val (.int p2), .val (.int (p2 &&& (3 : Int32))), .val (.int p0), .val (.ref b1_3), .val (.int (own_v0_55_0 p0)), .val (.int (own_v0_55_0 p0))] [])) _
        refine XS.iload X15.here hx rfl (hb hby at_66) rfl ?_
        show Steps p.tables e below (T15.setTop (mkF m 68 #[.val (.int p0), .val (.int p1), .val (.int p2), .val (.int (p2 &&& (3 : Int32))), .val (.int p0), .val (.ref b1_3), .val (.int (own_v0_55_0 p0)), .val (.int (own_v0_55_0 p0))] [(.int (own_v0_55_0 p0))])) _
        exact k)
    by_cases hc18 : (own_v0_55_0 p0) = (0 : Int32)
    · have pre19 : ∀ t, Steps p.tables e below (T15.setTop (mkF m 92 #[.val (.int p0), .val (.int p1), .val (.int p2), .val (.int (p2 &&& (3 : Int32))), .val (.int p0), .val (.ref b1_3), .val (.int (own_v0_55_0 p0)), .val (.int (own_v0_55_0 p0))] [(.int (0 : Int32))])) t → Steps p.tables e below (s₁.setTop (entryFrame m #[(.int p0), (.int p1), (.int p2)] maxLocals)) t := fun t k => pre17 t (by
          refine XS.ifYes X15.here hx rfl (pc0 := 68) (pc' := 91) rfl (hb hby at_68) rfl ((if0 _ _).trans (teq hc18).1) (by decide) (by decide) ?_
          show Steps p.tables e below (T15.setTop (mkF m 91 #[.val (.int p0), .val (.int p1), .val (.int p2), .val (.int (p2 &&& (3 : Int32))), .val (.int p0), .val (.ref b1_3), .val (.int (own_v0_55_0 p0)), .val (.int (own_v0_55_0 p0))] [])) _
          refine XS.iconst X15.here hx rfl (hb hby at_91) ?_
          show Steps p.tables e below (T15.setTop (mkF m 92 #[.val (.int p0), .val (.int p1), .val (.int p2), .val (.int (p2 &&& (3 : Int32))), .val (.int p0), .val (.ref b1_3), .val (.int (own_v0_55_0 p0)), .val (.int (own_v0_55_0 p0))] [(.int (0 : Int32))])) _
          exact k)
      obtain ⟨fs, hr, hrun, hended, hW, hsame⟩ := X15.leave (v := some (.int (0 : Int32))) (fun h => by rw [Bd.returns] at h; cases h) (hlocks := hlk)
      refine ⟨_, _, pre19 _ ?_, hrun, hended, _, _, rfl, ?_, ⟨_, rfl⟩, hW, hsame.mono (by decide) (by decide)⟩
      · show Steps p.tables e below (T15.setTop (mkF m 92 #[.val (.int p0), .val (.int p1), .val (.int p2), .val (.int (p2 &&& (3 : Int32))), .val (.int p0), .val (.ref b1_3), .val (.int (own_v0_55_0 p0)), .val (.int (own_v0_55_0 p0))] [(.int (0 : Int32))])) _
        exact retN X15 hx (t := .boolean) Bd.returns (by simp) (hb hby at_92) hr
      · show own_Q0 Z p0 p1 p2 h0 n0 _ T15.heap _; exact ⟨(by show some (Value.int _) = some (.int (own_f0 p0 p1 p2)); unfold own_f0; rw [if_pos hc2, if_pos hc18]), N16⟩
    · have pre20 : ∀ t, Steps p.tables e below (T15.setTop (mkF m 84 #[.val (.int p0), .val (.int p1), .val (.int p2), .val (.int (p2 &&& (3 : Int32))), .val (.int p0), .val (.ref b1_3), .val (.int (own_v0_55_0 p0)), .val (.int (own_v0_55_0 p0))] [(.int (1 : Int32)), (.int (own_v0_55_0 p0))])) t → Steps p.tables e below (s₁.setTop (entryFrame m #[(.int p0), (.int p1), (.int p2)] maxLocals)) t := fun t k => pre17 t (by
          refine XS.ifNo X15.here hx rfl (hb hby at_68) rfl ((if0 _ _).trans (feq hc18).1) ?_
          show Steps p.tables e below (T15.setTop (mkF m 71 #[.val (.int p0), .val (.int p1), .val (.int p2), .val (.int (p2 &&& (3 : Int32))), .val (.int p0), .val (.ref b1_3), .val (.int (own_v0_55_0 p0)), .val (.int (own_v0_55_0 p0))] [])) _
          refine XS.iload X15.here hx rfl (hb hby at_71) rfl ?_
          show Steps p.tables e below (T15.setTop (mkF m 73 #[.val (.int p0), .val (.int p1), .val (.int p2), .val (.int (p2 &&& (3 : Int32))), .val (.int p0), .val (.ref b1_3), .val (.int (own_v0_55_0 p0)), .val (.int (own_v0_55_0 p0))] [(.int (own_v0_55_0 p0))])) _
          refine XS.iload X15.here hx rfl (hb hby at_73) rfl ?_
          show Steps p.tables e below (T15.setTop (mkF m 75 #[.val (.int p0), .val (.int p1), .val (.int p2), .val (.int (p2 &&& (3 : Int32))), .val (.int p0), .val (.ref b1_3), .val (.int (own_v0_55_0 p0)), .val (.int (own_v0_55_0 p0))] [(.int p0), (.int (own_v0_55_0 p0))])) _
          refine XS.iloadN X15.here hx rfl (hb hby at_75) rfl ?_
          show Steps p.tables e below (T15.setTop (mkF m 76 #[.val (.int p0), .val (.int p1), .val (.int p2), .val (.int (p2 &&& (3 : Int32))), .val (.int p0), .val (.ref b1_3), .val (.int (own_v0_55_0 p0)), .val (.int (own_v0_55_0 p0))] [(.int p0), (.int p0), (.int (own_v0_55_0 p0))])) _
          refine XS.icmpNo X15.here hx rfl (hb hby at_76) rfl (teq (rfl : p0 = p0)).2 ?_
          show Steps p.tables e below (T15.setTop (mkF m 79 #[.val (.int p0), .val (.int p1), .val (.int p2), .val (.int (p2 &&& (3 : Int32))), .val (.int p0), .val (.ref b1_3), .val (.int (own_v0_55_0 p0)), .val (.int (own_v0_55_0 p0))] [(.int (own_v0_55_0 p0))])) _
          refine XS.iconst X15.here hx rfl (hb hby at_79) ?_
          show Steps p.tables e below (T15.setTop (mkF m 80 #[.val (.int p0), .val (.int p1), .val (.int p2), .val (.int (p2 &&& (3 : Int32))), .val (.int p0), .val (.ref b1_3), .val (.int (own_v0_55_0 p0)), .val (.int (own_v0_55_0 p0))] [(.int (1 : Int32)), (.int (own_v0_55_0 p0))])) _
          refine XS.goto X15.here hx rfl (pc0 := 80) (pc' := 84) rfl (hb hby at_80) (by decide) (by decide) ?_
          show Steps p.tables e below (T15.setTop (mkF m 84 #[.val (.int p0), .val (.int p1), .val (.int p2), .val (.int (p2 &&& (3 : Int32))), .val (.int p0), .val (.ref b1_3), .val (.int (own_v0_55_0 p0)), .val (.int (own_v0_55_0 p0))] [(.int (1 : Int32)), (.int (own_v0_55_0 p0))])) _
          exact k)
      by_cases hc21 : (own_v0_55_0 p0) = (1 : Int32)
      · have pre22 : ∀ t, Steps p.tables e below (T15.setTop (mkF m 92 #[.val (.int p0), .val (.int p1), .val (.int p2), .val (.int (p2 &&& (3 : Int32))), .val (.int p0), .val (.ref b1_3), .val (.int (own_v0_55_0 p0)), .val (.int (own_v0_55_0 p0))] [(.int (1 : Int32))])) t → Steps p.tables e below (s₁.setTop (entryFrame m #[(.int p0), (.int p1), (.int p2)] maxLocals)) t := fun t k => pre20 t (by
            refine XS.icmpNo X15.here hx rfl (hb hby at_84) rfl (teq hc21).2 ?_
            show Steps p.tables e below (T15.setTop (mkF m 87 #[.val (.int p0), .val (.int p1), .val (.int p2), .val (.int (p2 &&& (3 : Int32))), .val (.int p0), .val (.ref b1_3), .val (.int (own_v0_55_0 p0)), .val (.int (own_v0_55_0 p0))] [])) _
            refine XS.iconst X15.here hx rfl (hb hby at_87) ?_
            show Steps p.tables e below (T15.setTop (mkF m 88 #[.val (.int p0), .val (.int p1), .val (.int p2), .val (.int (p2 &&& (3 : Int32))), .val (.int p0), .val (.ref b1_3), .val (.int (own_v0_55_0 p0)), .val (.int (own_v0_55_0 p0))] [(.int (1 : Int32))])) _
            refine XS.goto X15.here hx rfl (pc0 := 88) (pc' := 92) rfl (hb hby at_88) (by decide) (by decide) ?_
            show Steps p.tables e below (T15.setTop (mkF m 92 #[.val (.int p0), .val (.int p1), .val (.int p2), .val (.int (p2 &&& (3 : Int32))), .val (.int p0), .val (.ref b1_3), .val (.int (own_v0_55_0 p0)), .val (.int (own_v0_55_0 p0))] [(.int (1 : Int32))])) _
            exact k)
        obtain ⟨fs, hr, hrun, hended, hW, hsame⟩ := X15.leave (v := some (.int (1 : Int32))) (fun h => by rw [Bd.returns] at h; cases h) (hlocks := hlk)
        refine ⟨_, _, pre22 _ ?_, hrun, hended, _, _, rfl, ?_, ⟨_, rfl⟩, hW, hsame.mono (by decide) (by decide)⟩
        · show Steps p.tables e below (T15.setTop (mkF m 92 #[.val (.int p0), .val (.int p1), .val (.int p2), .val (.int (p2 &&& (3 : Int32))), .val (.int p0), .val (.ref b1_3), .val (.int (own_v0_55_0 p0)), .val (.int (own_v0_55_0 p0))] [(.int (1 : Int32))])) _
          exact retN X15 hx (t := .boolean) Bd.returns (by simp) (hb hby at_92) hr
        · show own_Q0 Z p0 p1 p2 h0 n0 _ T15.heap _; exact ⟨(by show some (Value.int _) = some (.int (own_f0 p0 p1 p2)); unfold own_f0; rw [if_pos hc2, if_neg hc18, if_pos hc21]), N16⟩
      · have pre23 : ∀ t, Steps p.tables e below (T15.setTop (mkF m 92 #[.val (.int p0), .val (.int p1), .val (.int p2), .val (.int (p2 &&& (3 : Int32))), .val (.int p0), .val (.ref b1_3), .val (.int (own_v0_55_0 p0)), .val (.int (own_v0_55_0 p0))] [(.int (0 : Int32))])) t → Steps p.tables e below (s₁.setTop (entryFrame m #[(.int p0), (.int p1), (.int p2)] maxLocals)) t := fun t k => pre20 t (by
            refine XS.icmpYes X15.here hx rfl (pc0 := 84) (pc' := 91) rfl (hb hby at_84) rfl (feq hc21).2 (by decide) (by decide) ?_
            show Steps p.tables e below (T15.setTop (mkF m 91 #[.val (.int p0), .val (.int p1), .val (.int p2), .val (.int (p2 &&& (3 : Int32))), .val (.int p0), .val (.ref b1_3), .val (.int (own_v0_55_0 p0)), .val (.int (own_v0_55_0 p0))] [])) _
            refine XS.iconst X15.here hx rfl (hb hby at_91) ?_
            show Steps p.tables e below (T15.setTop (mkF m 92 #[.val (.int p0), .val (.int p1), .val (.int p2), .val (.int (p2 &&& (3 : Int32))), .val (.int p0), .val (.ref b1_3), .val (.int (own_v0_55_0 p0)), .val (.int (own_v0_55_0 p0))] [(.int (0 : Int32))])) _
            exact k)
        obtain ⟨fs, hr, hrun, hended, hW, hsame⟩ := X15.leave (v := some (.int (0 : Int32))) (fun h => by rw [Bd.returns] at h; cases h) (hlocks := hlk)
        refine ⟨_, _, pre23 _ ?_, hrun, hended, _, _, rfl, ?_, ⟨_, rfl⟩, hW, hsame.mono (by decide) (by decide)⟩
        · show Steps p.tables e below (T15.setTop (mkF m 92 #[.val (.int p0), .val (.int p1), .val (.int p2), .val (.int (p2 &&& (3 : Int32))), .val (.int p0), .val (.ref b1_3), .val (.int (own_v0_55_0 p0)), .val (.int (own_v0_55_0 p0))] [(.int (0 : Int32))])) _
          exact retN X15 hx (t := .boolean) Bd.returns (by simp) (hb hby at_92) hr
        · show own_Q0 Z p0 p1 p2 h0 n0 _ T15.heap _; exact ⟨(by show some (Value.int _) = some (.int (own_f0 p0 p1 p2)); unfold own_f0; rw [if_pos hc2, if_neg hc18, if_neg hc21]), N16⟩
  · have pre24 : ∀ t, Steps p.tables e below (s₁.setTop (mkF m 16 #[.val (.int p0), .val (.int p1), .val (.int p2), .val (.int (p2 &&& (3 : Int32))), .unset, .unset, .unset, .unset] [(.int (1 : Int32)), (.int (p2 &&& (3 : Int32)))])) t → Steps p.tables e below (s₁.setTop (entryFrame m #[(.int p0), (.int p1), (.int p2)] maxLocals)) t := fun t k => pre1 t (by
        refine XS.ifYes X0.here hx rfl (pc0 := 5) (pc' := 14) rfl (hb hby at_5) rfl ((if0 _ _).trans (feq hc2).2) (by decide) (by decide) ?_
        show Steps p.tables e below (s₁.setTop (mkF m 14 #[.val (.int p0), .val (.int p1), .val (.int p2), .val (.int (p2 &&& (3 : Int32))), .unset, .unset, .unset, .unset] [])) _
        refine XS.iloadN X0.here hx rfl (hb hby at_14) rfl ?_
        show Steps p.tables e below (s₁.setTop (mkF m 15 #[.val (.int p0), .val (.int p1), .val (.int p2), .val (.int (p2 &&& (3 : Int32))), .unset, .unset, .unset, .unset] [(.int (p2 &&& (3 : Int32)))])) _
        refine XS.iconst X0.here hx rfl (hb hby at_15) ?_
        show Steps p.tables e below (s₁.setTop (mkF m 16 #[.val (.int p0), .val (.int p1), .val (.int p2), .val (.int (p2 &&& (3 : Int32))), .unset, .unset, .unset, .unset] [(.int (1 : Int32)), (.int (p2 &&& (3 : Int32)))])) _
        exact k)
    by_cases hc25 : (p2 &&& (3 : Int32)) = (1 : Int32)
    · obtain ⟨_, _, ⟨T26, L26, k26, n26⟩, -, X26, ⟨Lc26, hQ26, l26, y26, z26⟩, st26⟩ := Jvm.LawKit.callS X0 hx (y := (⟨"com/example/firm_query/firmquery/IRegexpParser$CharClass", "of", "(I)Lcom/example/firm_query/firmquery/IRegexpParser$CharClass;"⟩ : MethodName)) hown (mvT hZ (hw _ (List.mem_of_getElem? (i := 0) rfl))) (mvT hZ (hw _ (List.mem_of_getElem? (i := 1) rfl))) (mvT hZ (hw _ (List.mem_of_getElem? (i := 2) rfl))) (mvT hZ (hw _ (List.mem_of_getElem? (i := 3) rfl))) (by decide) (backOf (W := 0) (own_rm1 l Z a0 hw [] p0 h0 n0 Z0 ) hZ (hw _ (List.mem_of_getElem? (i := 3) rfl)) (hw _ (List.mem_of_getElem? (i := 2) rfl)) (by decide) (by decide)) (g := (mkF m 44 #[.val (.int p0), .val (.int p1), .val (.int p2), .val (.int (p2 &&& (3 : Int32))), .val (.int (p0 + (1 : Int32))), .unset, .unset, .unset] [(.int p0)])) rfl (by rw [hml]; rfl) (argsL := [(.int p0)]) (rest := []) (lenOf own_pd2 rfl) rfl (by show 2 * 0 + _ ≤ _; exact Nat.le_of_eq rfl) (hb hby at_44) (fun _ _ => ⟨rfl, e0, (by decide : 0 + 2 ≤ _), (by decide : 0 + 5 ≤ _)⟩)
      dsimp only [Pt.U, Pt.locs, Pt.cells, Pt.slots] at X26 l26 y26 z26 st26 hQ26
      subst l26 y26 z26
      obtain ⟨b1_26, b8_26, k8_26, rfl, N26q, K26, sqb1_26_26, sqb8_26_26, f27, f28, f29, f30, f31⟩ := hQ26
      have g_b1_26 : n0 ≤ b1_26 := Nat.le_trans Z0 sqb1_26_26
      have sz_b1_26 : h0.size ≤ b1_26 := Nat.le_trans (Nat.le_refl _) sqb1_26_26
      have g_b8_26 : n0 ≤ b8_26 := Nat.le_trans Z0 sqb8_26_26
      have sz_b8_26 : h0.size ≤ b8_26 := Nat.le_trans (Nat.le_refl _) sqb8_26_26
      have zs32 : n0 ≤ T26.heap.size := Nat.le_trans Z0 K26.1
      have K33 : Keep h0 h0 [] := Keep.refl h0 []
      have K34 : Keep h0 T26.heap [] := K33.trans K26 all0
      have N35 := Fr.app N0 N26q
      obtain ⟨cq36, kq36, q36a, q36b, q36c⟩ := isOf hZ rfl f27
      obtain ⟨_, _, ⟨T36, L36, k36, n36⟩, -, X36, ⟨Lc36, hQ36, l36, y36, z36⟩, st36⟩ := X26.virtualBack hx (y := (⟨"com/example/firm_query/firmquery/IRegexpParser$CharClass", "contains", "(I)Z"⟩ : MethodName)) (z := (⟨"com/example/firm_query/firmquery/IRegexpParser$CharClass", "contains", "(I)Z"⟩ : MethodName)) hown (mvT hZ (hw _ (List.mem_of_getElem? (i := 19) rfl))) (mvT hZ (hw _ (List.mem_of_getElem? (i := 20) rfl))) (notFace_of_selects (args := #[]) (mvT hZ (hw _ (List.mem_of_getElem? (i := 22) rfl)))) (mvT hZ (hw _ (List.mem_of_getElem? (i := 22) rfl))) (mvT hZ (hw _ (List.mem_of_getElem? (i := 21) rfl))) (by decide) (backOf (W := 0) (own_rm4 l Z a0 hw [] b1_26 p0 b8_26 k8_26 p0 p0 (nar .boolean (0 : Int32)) T26.heap n0 zs32 f30 f29 f31 f27 f28) hZ (hw _ (List.mem_of_getElem? (i := 23) rfl)) (hw _ (List.mem_of_getElem? (i := 2) rfl)) (by decide) (by decide)) q36a q36c (g := (mkF m 52 #[.val (.int p0), .val (.int p1), .val (.int p2), .val (.int (p2 &&& (3 : Int32))), .val (.int (p0 + (1 : Int32))), .val (.ref b1_26), .unset, .unset] [(.int p0), (.ref b1_26)])) rfl (by rw [hml]; rfl) (Steps.refl _) (argsL := [(.int p0)]) (rest := []) (lenOf own_pd1 rfl) rfl (by show 2 * 0 + _ ≤ _; exact Nat.le_of_eq rfl) (hb hby at_52) (fun _ _ => ⟨rfl, rfl, (by decide : 2 + 0 ≤ _), (by decide : 5 + 0 ≤ _)⟩)
      dsimp only [Pt.U, Pt.locs, Pt.cells, Pt.slots] at X36 l36 y36 z36 st36 hQ36
      subst l36 y36 z36
      obtain ⟨rfl, N36q, e36⟩ := hQ36
      have N37 := Fr.app N35 N36q
      obtain ⟨cq38, kq38, q38a, q38b, q38c⟩ := isOf hZ e36 f27
      obtain ⟨_, _, ⟨T38, L38, k38, n38⟩, -, X38, ⟨Lc38, hQ38, l38, y38, z38⟩, st38⟩ := X36.virtualBack hx (y := (⟨"com/example/firm_query/firmquery/IRegexpParser$CharClass", "contains", "(I)Z"⟩ : MethodName)) (z := (⟨"com/example/firm_query/firmquery/IRegexpParser$CharClass", "contains", "(I)Z"⟩ : MethodName)) hown (mvT hZ (hw _ (List.mem_of_getElem? (i := 19) rfl))) (mvT hZ (hw _ (List.mem_of_getElem? (i := 20) rfl))) (notFace_of_selects (args := #[]) (mvT hZ (hw _ (List.mem_of_getElem? (i := 22) rfl)))) (mvT hZ (hw _ (List.mem_of_getElem? (i := 22) rfl))) (mvT hZ (hw _ (List.mem_of_getElem? (i := 21) rfl))) (by decide) (backOf (W := 0) (own_rm4 l Z a0 hw [] b1_26 (p0 + (1 : Int32)) b8_26 k8_26 p0 p0 (nar .boolean (0 : Int32)) T26.heap n0 zs32 f30 f29 f31 f27 f28) hZ (hw _ (List.mem_of_getElem? (i := 23) rfl)) (hw _ (List.mem_of_getElem? (i := 2) rfl)) (by decide) (by decide)) q38a q38c (g := (mkF m 61 #[.val (.int p0), .val (.int p1), .val (.int p2), .val (.int (p2 &&& (3 : Int32))), .val (.int (p0 + (1 : Int32))), .val (.ref b1_26), .val (.int (own_v0_55_0 p0)), .unset] [(.int (p0 + (1 : Int32))), (.ref b1_26)])) rfl (by rw [hml]; rfl) (Steps.refl _) (argsL := [(.int (p0 + (1 : Int32)))]) (rest := []) (lenOf own_pd1 rfl) rfl (by show 2 * 0 + _ ≤ _; exact Nat.le_of_eq rfl) (hb hby at_61) (fun _ _ => ⟨rfl, e36, (by decide : 2 + 0 ≤ _), (by decide : 5 + 0 ≤ _)⟩)
      dsimp only [Pt.U, Pt.locs, Pt.cells, Pt.slots] at X38 l38 y38 z38 st38 hQ38
      subst l38 y38 z38
      obtain ⟨rfl, N38q, e38⟩ := hQ38
      have N39 := Fr.app N37 N38q
      have pre40 : ∀ t, Steps p.tables e below (T38.setTop (mkF m 68 #[.val (.int p0), .val (.int p1), .val (.int p2), .val (.int (p2 &&& (3 : Int32))), .val (.int (p0 + (1 : Int32))), .val (.ref b1_26), .val (.int (own_v0_55_0 p0)), .val (.int (own_v0_64_1 p0))] [(.int (own_v0_55_0 p0))])) t → Steps p.tables e below (s₁.setTop (entryFrame m #[(.int p0), (.int p1), (.int p2)] maxLocals)) t := fun t k => pre24 t (by
          refine XS.icmpNo X0.here hx rfl (hb hby at_16) rfl (teq hc25).2 ?_
          show Steps p.tables e below (s₁.setTop (mkF m 19 #[.val (.int p0), .val (.int p1), .val (.int p2), .val (.int (p2 &&& (3 : Int32))), .unset, .unset, .unset, .unset] [])) _
          refine XS.iloadN X0.here hx rfl (hb hby at_19) rfl ?_
          show Steps p.tables e below (s₁.setTop (mkF m 20 #[.val (.int p0), .val (.int p1), .val (.int p2), .val (.int (p2 &&& (3 : Int32))), .unset, .unset, .unset, .unset] [(.int p0)])) _
          refine XS.iconst X0.here hx rfl (hb hby at_20) ?_
          show Steps p.tables e below (s₁.setTop (mkF m 21 #[.val (.int p0), .val (.int p1), .val (.int p2), .val (.int (p2 &&& (3 : Int32))), .unset, .unset, .unset, .unset] [(.int (1 : Int32)), (.int p0)])) _
          refine XS.iadd X0.here hx rfl (hb hby at_21) rfl ?_
          show Steps p.tables e below (s₁.setTop (mkF m 22 #[.val (.int p0), .val (.int p1), .val (.int p2), .val (.int (p2 &&& (3 : Int32))), .unset, .unset, .unset, .unset] [(.int (p0 + (1 : Int32)))])) _
          refine XS.istore X0.here hx rfl (hb hby at_22) rfl (l' := #[.val (.int p0), .val (.int p1), .val (.int p2), .val (.int (p2 &&& (3 : Int32))), .val (.int (p0 + (1 : Int32))), .unset, .unset, .unset]) rfl ?_
          show Steps p.tables e below (s₁.setTop (mkF m 24 #[.val (.int p0), .val (.int p1), .val (.int p2), .val (.int (p2 &&& (3 : Int32))), .val (.int (p0 + (1 : Int32))), .unset, .unset, .unset] [])) _
          refine XS.goto X0.here hx rfl (pc0 := 24) (pc' := 43) rfl (hb hby at_24) (by decide) (by decide) ?_
          show Steps p.tables e below (s₁.setTop (mkF m 43 #[.val (.int p0), .val (.int p1), .val (.int p2), .val (.int (p2 &&& (3 : Int32))), .val (.int (p0 + (1 : Int32))), .unset, .unset, .unset] [])) _
          refine XS.iloadN X0.here hx rfl (hb hby at_43) rfl ?_
          show Steps p.tables e below (s₁.setTop (mkF m 44 #[.val (.int p0), .val (.int p1), .val (.int p2), .val (.int (p2 &&& (3 : Int32))), .val (.int (p0 + (1 : Int32))), .unset, .unset, .unset] [(.int p0)])) _
          refine st26 _ ?_
          show Steps p.tables e below (T26.setTop (mkF m 47 #[.val (.int p0), .val (.int p1), .val (.int p2), .val (.int (p2 &&& (3 : Int32))), .val (.int (p0 + (1 : Int32))), .unset, .unset, .unset] [(.ref b1_26)])) _
          refine XS.astore X26.here hx rfl (hb hby at_47) rfl rfl (l' := #[.val (.int p0), .val (.int p1), .val (.int p2), .val (.int (p2 &&& (3 : Int32))), .val (.int (p0 + (1 : Int32))), .val (.ref b1_26), .unset, .unset]) rfl ?_
          show Steps p.tables e below (T26.setTop (mkF m 49 #[.val (.int p0), .val (.int p1), .val (.int p2), .val (.int (p2 &&& (3 : Int32))), .val (.int (p0 + (1 : Int32))), .val (.ref b1_26), .unset, .unset] [])) _
          refine XS.aload X26.here hx rfl (hb hby at_49) rfl rfl ?_
          show Steps p.tables e below (T26.setTop (mkF m 51 #[.val (.int p0), .val (.int p1), .val (.int p2), .val (.int (p2 &&& (3 : Int32))), .val (.int (p0 + (1 : Int32))), .val (.ref b1_26), .unset, .unset] [(.ref b1_26)])) _
          refine XS.iloadN X26.here hx rfl (hb hby at_51) rfl ?_
          show Steps p.tables e below (T26.setTop (mkF m 52 #[.val (.int p0), .val (.int p1), .val (.int p2), .val (.int (p2 &&& (3 : Int32))), .val (.int (p0 + (1 : Int32))), .val (.ref b1_26), .unset, .unset] [(.int p0), (.ref b1_26)])) _
          refine st36.trans ?_
          show Steps p.tables e below (T36.setTop (mkF m 55 #[.val (.int p0), .val (.int p1), .val (.int p2), .val (.int (p2 &&& (3 : Int32))), .val (.int (p0 + (1 : Int32))), .val (.ref b1_26), .unset, .unset] [(.int (own_f4 p0 p0 p0 (nar .boolean (0 : Int32))))])) _
          refine XS.istore X36.here hx rfl (hb hby at_55) rfl (l' := #[.val (.int p0), .val (.int p1), .val (.int p2), .val (.int (p2 &&& (3 : Int32))), .val (.int (p0 + (1 : Int32))), .val (.ref b1_26), .val (.int (own_v0_55_0 p0)), .unset]) rfl ?_
          show Steps p.tables e below (T36.setTop (mkF m 57 #[.val (.int p0), .val (.int p1), .val (.int p2), .val (.int (p2 &&& (3 : Int32))), .val (.int (p0 + (1 : Int32))), .val (.ref b1_26), .val (.int (own_v0_55_0 p0)), .unset] [])) _
          refine XS.aload X36.here hx rfl (hb hby at_57) rfl rfl ?_
          show Steps p.tables e below (T36.setTop (mkF m 59 #[.val (.int p0), .val (.int p1), .val (.int p2), .val (.int (p2 &&& (3 : Int32))), .val (.int (p0 + (1 : Int32))), .val (.ref b1_26), .val (.int (own_v0_55_0 p0)), .unset] [(.ref b1_26)])) _
          refine XS.iload X36.here hx rfl (hb hby at_59) rfl ?_
          show Steps p.tables e below (T36.setTop (mkF m 61 #[.val (.int p0), .val (.int p1), .val (.int p2), .val (.int (p2 &&& (3 : Int32))), .val (.int (p0 + (1 : Int32))), .val (.ref b1_26), .val (.int (own_v0_55_0 p0)), .unset] [(.int (p0 + (1 : Int32))), (.ref b1_26)])) _
          refine st38.trans ?_
          show Steps p.tables e below (T38.setTop (mkF m 64 #[.val (.int p0), .val (.int p1), .val (.int p2), .val (.int (p2 &&& (3 : Int32))), .val (.int (p0 + (1 : Int32))), .val (.ref b1_26), .val (.int (own_v0_55_0 p0)), .unset] [(.int (own_f4 (p0 + (1 : Int32)) p0 p0 (nar .boolean (0 : Int32))))])) _
          refine XS.istore X38.here hx rfl (hb hby at_64) rfl (l' := #[.val (.int p0), .val (.int p1), .val (.int p2), .val (.int (p2 &&& (3 : Int32))), .val (.int (p0 + (1 : Int32))), .val (.ref b1_26), .val (.int (own_v0_55_0 p0)), .val (.int (own_v0_64_1 p0))]) rfl ?_
          show Steps p.tables e below (T38.setTop (mkF m 66 #[.val (.int p0), .val (.int p1), .val (.int p2), .val (.int (p2 &&& (3 : Int32))), .val (.int (p0 + (1 : Int32))), .val (.ref b1_26), .val (.int (own_v0_55_0 p0)), .val (.int (own_v0_64_1 p0))] [])) _
          refine XS.iload X38.here hx rfl (hb hby at_66) rfl ?_
          show Steps p.tables e below (T38.setTop (mkF m 68 #[.val (.int p0), .val (.int p1), .val (.int p2), .val (.int (p2 &&& (3 : Int32))), .val (.int (p0 + (1 : Int32))), .val (.ref b1_26), .val (.int (own_v0_55_0 p0)), .val (.int (own_v0_64_1 p0))] [(.int (own_v0_55_0 p0))])) _
          exact k)
      by_cases hc41 : (own_v0_55_0 p0) = (0 : Int32)
      · have pre42 : ∀ t, Steps p.tables e below (T38.setTop (mkF m 92 #[.val (.int p0), .val (.int p1), .val (.int p2), .val (.int (p2 &&& (3 : Int32))), .val (.int (p0 + (1 : Int32))), .val (.ref b1_26), .val (.int (own_v0_55_0 p0)), .val (.int (own_v0_64_1 p0))] [(.int (0 : Int32))])) t → Steps p.tables e below (s₁.setTop (entryFrame m #[(.int p0), (.int p1), (.int p2)] maxLocals)) t := fun t k => pre40 t (by
            refine XS.ifYes X38.here hx rfl (pc0 := 68) (pc' := 91) rfl (hb hby at_68) rfl ((if0 _ _).trans (teq hc41).1) (by decide) (by decide) ?_
            show Steps p.tables e below (T38.setTop (mkF m 91 #[.val (.int p0), .val (.int p1), .val (.int p2), .val (.int (p2 &&& (3 : Int32))), .val (.int (p0 + (1 : Int32))), .val (.ref b1_26), .val (.int (own_v0_55_0 p0)), .val (.int (own_v0_64_1 p0))] [])) _
            refine XS.iconst X38.here hx rfl (hb hby at_91) ?_
            show Steps p.tables e below (T38.setTop (mkF m 92 #[.val (.int p0), .val (.int p1), .val (.int p2), .val (.int (p2 &&& (3 : Int32))), .val (.int (p0 + (1 : Int32))), .val (.ref b1_26), .val (.int (own_v0_55_0 p0)), .val (.int (own_v0_64_1 p0))] [(.int (0 : Int32))])) _
            exact k)
        obtain ⟨fs, hr, hrun, hended, hW, hsame⟩ := X38.leave (v := some (.int (0 : Int32))) (fun h => by rw [Bd.returns] at h; cases h) (hlocks := hlk)
        refine ⟨_, _, pre42 _ ?_, hrun, hended, _, _, rfl, ?_, ⟨_, rfl⟩, hW, hsame.mono (by decide) (by decide)⟩
        · show Steps p.tables e below (T38.setTop (mkF m 92 #[.val (.int p0), .val (.int p1), .val (.int p2), .val (.int (p2 &&& (3 : Int32))), .val (.int (p0 + (1 : Int32))), .val (.ref b1_26), .val (.int (own_v0_55_0 p0)), .val (.int (own_v0_64_1 p0))] [(.int (0 : Int32))])) _
          exact retN X38 hx (t := .boolean) Bd.returns (by simp) (hb hby at_92) hr
        · show own_Q0 Z p0 p1 p2 h0 n0 _ T38.heap _; exact ⟨(by show some (Value.int _) = some (.int (own_f0 p0 p1 p2)); unfold own_f0; rw [if_neg hc2, if_pos hc25, if_pos hc41]), N39⟩
      · have pre43 : ∀ t, Steps p.tables e below (T38.setTop (mkF m 76 #[.val (.int p0), .val (.int p1), .val (.int p2), .val (.int (p2 &&& (3 : Int32))), .val (.int (p0 + (1 : Int32))), .val (.ref b1_26), .val (.int (own_v0_55_0 p0)), .val (.int (own_v0_64_1 p0))] [(.int p0), (.int (p0 + (1 : Int32))), (.int (own_v0_64_1 p0))])) t → Steps p.tables e below (s₁.setTop (entryFrame m #[(.int p0), (.int p1), (.int p2)] maxLocals)) t := fun t k => pre40 t (by
            refine XS.ifNo X38.here hx rfl (hb hby at_68) rfl ((if0 _ _).trans (feq hc41).1) ?_
            show Steps p.tables e below (T38.setTop (mkF m 71 #[.val (.int p0), .val (.int p1), .val (.int p2), .val (.int (p2 &&& (3 : Int32))), .val (.int (p0 + (1 : Int32))), .val (.ref b1_26), .val (.int (own_v0_55_0 p0)), .val (.int (own_v0_64_1 p0))] [])) _
            refine XS.iload X38.here hx rfl (hb hby at_71) rfl ?_
            show Steps p.tables e below (T38.setTop (mkF m 73 #[.val (.int p0), .val (.int p1), .val (.int p2), .val (.int (p2 &&& (3 : Int32))), .val (.int (p0 + (1 : Int32))), .val (.ref b1_26), .val (.int (own_v0_55_0 p0)), .val (.int (own_v0_64_1 p0))] [(.int (own_v0_64_1 p0))])) _
            refine XS.iload X38.here hx rfl (hb hby at_73) rfl ?_
            show Steps p.tables e below (T38.setTop (mkF m 75 #[.val (.int p0), .val (.int p1), .val (.int p2), .val (.int (p2 &&& (3 : Int32))), .val (.int (p0 + (1 : Int32))), .val (.ref b1_26), .val (.int (own_v0_55_0 p0)), .val (.int (own_v0_64_1 p0))] [(.int (p0 + (1 : Int32))), (.int (own_v0_64_1 p0))])) _
            refine XS.iloadN X38.here hx rfl (hb hby at_75) rfl ?_
            show Steps p.tables e below (T38.setTop (mkF m 76 #[.val (.int p0), .val (.int p1), .val (.int p2), .val (.int (p2 &&& (3 : Int32))), .val (.int (p0 + (1 : Int32))), .val (.ref b1_26), .val (.int (own_v0_55_0 p0)), .val (.int (own_v0_64_1 p0))] [(.int p0), (.int (p0 + (1 : Int32))), (.int (own_v0_64_1 p0))])) _
            exact k)
        by_cases hc44 : (p0 + (1 : Int32)) = p0
        · have pre45 : ∀ t, Steps p.tables e below (T38.setTop (mkF m 84 #[.val (.int p0), .val (.int p1), .val (.int p2), .val (.int (p2 &&& (3 : Int32))), .val (.int (p0 + (1 : Int32))), .val (.ref b1_26), .val (.int (own_v0_55_0 p0)), .val (.int (own_v0_64_1 p0))] [(.int (1 : Int32)), (.int (own_v0_64_1 p0))])) t → Steps p.tables e below (s₁.setTop (entryFrame m #[(.int p0), (.int p1), (.int p2)] maxLocals)) t := fun t k => pre43 t (by
              refine XS.icmpNo X38.here hx rfl (hb hby at_76) rfl (teq hc44).2 ?_
              show Steps p.tables e below (T38.setTop (mkF m 79 #[.val (.int p0), .val (.int p1), .val (.int p2), .val (.int (p2 &&& (3 : Int32))), .val (.int (p0 + (1 : Int32))), .val (.ref b1_26), .val (.int (own_v0_55_0 p0)), .val (.int (own_v0_64_1 p0))] [(.int (own_v0_64_1 p0))])) _
              refine XS.iconst X38.here hx rfl (hb hby at_79) ?_
              show Steps p.tables e below (T38.setTop (mkF m 80 #[.val (.int p0), .val (.int p1), .val (.int p2), .val (.int (p2 &&& (3 : Int32))), .val (.int (p0 + (1 : Int32))), .val (.ref b1_26), .val (.int (own_v0_55_0 p0)), .val (.int (own_v0_64_1 p0))] [(.int (1 : Int32)), (.int (own_v0_64_1 p0))])) _
              refine XS.goto X38.here hx rfl (pc0 := 80) (pc' := 84) rfl (hb hby at_80) (by decide) (by decide) ?_
              show Steps p.tables e below (T38.setTop (mkF m 84 #[.val (.int p0), .val (.int p1), .val (.int p2), .val (.int (p2 &&& (3 : Int32))), .val (.int (p0 + (1 : Int32))), .val (.ref b1_26), .val (.int (own_v0_55_0 p0)), .val (.int (own_v0_64_1 p0))] [(.int (1 : Int32)), (.int (own_v0_64_1 p0))])) _
              exact k)
          by_cases hc46 : (own_v0_64_1 p0) = (1 : Int32)
          · have pre47 : ∀ t, Steps p.tables e below (T38.setTop (mkF m 92 #[.val (.int p0), .val (.int p1), .val (.int p2), .val (.int (p2 &&& (3 : Int32))), .val (.int (p0 + (1 : Int32))), .val (.ref b1_26), .val (.int (own_v0_55_0 p0)), .val (.int (own_v0_64_1 p0))] [(.int (1 : Int32))])) t → Steps p.tables e below (s₁.setTop (entryFrame m #[(.int p0), (.int p1), (.int p2)] maxLocals)) t := fun t k => pre45 t (by
                refine XS.icmpNo X38.here hx rfl (hb hby at_84) rfl (teq hc46).2 ?_
                show Steps p.tables e below (T38.setTop (mkF m 87 #[.val (.int p0), .val (.int p1), .val (.int p2), .val (.int (p2 &&& (3 : Int32))), .val (.int (p0 + (1 : Int32))), .val (.ref b1_26), .val (.int (own_v0_55_0 p0)), .val (.int (own_v0_64_1 p0))] [])) _
                refine XS.iconst X38.here hx rfl (hb hby at_87) ?_
                show Steps p.tables e below (T38.setTop (mkF m 88 #[.val (.int p0), .val (.int p1), .val (.int p2), .val (.int (p2 &&& (3 : Int32))), .val (.int (p0 + (1 : Int32))), .val (.ref b1_26), .val (.int (own_v0_55_0 p0)), .val (.int (own_v0_64_1 p0))] [(.int (1 : Int32))])) _
                refine XS.goto X38.here hx rfl (pc0 := 88) (pc' := 92) rfl (hb hby at_88) (by decide) (by decide) ?_
                show Steps p.tables e below (T38.setTop (mkF m 92 #[.val (.int p0), .val (.int p1), .val (.int p2), .val (.int (p2 &&& (3 : Int32))), .val (.int (p0 + (1 : Int32))), .val (.ref b1_26), .val (.int (own_v0_55_0 p0)), .val (.int (own_v0_64_1 p0))] [(.int (1 : Int32))])) _
                exact k)
            obtain ⟨fs, hr, hrun, hended, hW, hsame⟩ := X38.leave (v := some (.int (1 : Int32))) (fun h => by rw [Bd.returns] at h; cases h) (hlocks := hlk)
            refine ⟨_, _, pre47 _ ?_, hrun, hended, _, _, rfl, ?_, ⟨_, rfl⟩, hW, hsame.mono (by decide) (by decide)⟩
            · show Steps p.tables e below (T38.setTop (mkF m 92 #[.val (.int p0), .val (.int p1), .val (.int p2), .val (.int (p2 &&& (3 : Int32))), .val (.int (p0 + (1 : Int32))), .val (.ref b1_26), .val (.int (own_v0_55_0 p0)), .val (.int (own_v0_64_1 p0))] [(.int (1 : Int32))])) _
              exact retN X38 hx (t := .boolean) Bd.returns (by simp) (hb hby at_92) hr
            · show own_Q0 Z p0 p1 p2 h0 n0 _ T38.heap _; exact ⟨(by show some (Value.int _) = some (.int (own_f0 p0 p1 p2)); unfold own_f0; rw [if_neg hc2, if_pos hc25, if_neg hc41, if_pos hc44, if_pos hc46]), N39⟩
          · have pre48 : ∀ t, Steps p.tables e below (T38.setTop (mkF m 92 #[.val (.int p0), .val (.int p1), .val (.int p2), .val (.int (p2 &&& (3 : Int32))), .val (.int (p0 + (1 : Int32))), .val (.ref b1_26), .val (.int (own_v0_55_0 p0)), .val (.int (own_v0_64_1 p0))] [(.int (0 : Int32))])) t → Steps p.tables e below (s₁.setTop (entryFrame m #[(.int p0), (.int p1), (.int p2)] maxLocals)) t := fun t k => pre45 t (by
                refine XS.icmpYes X38.here hx rfl (pc0 := 84) (pc' := 91) rfl (hb hby at_84) rfl (feq hc46).2 (by decide) (by decide) ?_
                show Steps p.tables e below (T38.setTop (mkF m 91 #[.val (.int p0), .val (.int p1), .val (.int p2), .val (.int (p2 &&& (3 : Int32))), .val (.int (p0 + (1 : Int32))), .val (.ref b1_26), .val (.int (own_v0_55_0 p0)), .val (.int (own_v0_64_1 p0))] [])) _
                refine XS.iconst X38.here hx rfl (hb hby at_91) ?_
                show Steps p.tables e below (T38.setTop (mkF m 92 #[.val (.int p0), .val (.int p1), .val (.int p2), .val (.int (p2 &&& (3 : Int32))), .val (.int (p0 + (1 : Int32))), .val (.ref b1_26), .val (.int (own_v0_55_0 p0)), .val (.int (own_v0_64_1 p0))] [(.int (0 : Int32))])) _
                exact k)
            obtain ⟨fs, hr, hrun, hended, hW, hsame⟩ := X38.leave (v := some (.int (0 : Int32))) (fun h => by rw [Bd.returns] at h; cases h) (hlocks := hlk)
            refine ⟨_, _, pre48 _ ?_, hrun, hended, _, _, rfl, ?_, ⟨_, rfl⟩, hW, hsame.mono (by decide) (by decide)⟩
            · show Steps p.tables e below (T38.setTop (mkF m 92 #[.val (.int p0), .val (.int p1), .val (.int p2), .val (.int (p2 &&& (3 : Int32))), .val (.int (p0 + (1 : Int32))), .val (.ref b1_26), .val (.int (own_v0_55_0 p0)), .val (.int (own_v0_64_1 p0))] [(.int (0 : Int32))])) _
              exact retN X38 hx (t := .boolean) Bd.returns (by simp) (hb hby at_92) hr
            · show own_Q0 Z p0 p1 p2 h0 n0 _ T38.heap _; exact ⟨(by show some (Value.int _) = some (.int (own_f0 p0 p1 p2)); unfold own_f0; rw [if_neg hc2, if_pos hc25, if_neg hc41, if_pos hc44, if_neg hc46]), N39⟩
        · have pre49 : ∀ t, Steps p.tables e below (T38.setTop (mkF m 84 #[.val (.int p0), .val (.int p1), .val (.int p2), .val (.int (p2 &&& (3 : Int32))), .val (.int (p0 + (1 : Int32))), .val (.ref b1_26), .val (.int (own_v0_55_0 p0)), .val (.int (own_v0_64_1 p0))] [(.int (0 : Int32)), (.int (own_v0_64_1 p0))])) t → Steps p.tables e below (s₁.setTop (entryFrame m #[(.int p0), (.int p1), (.int p2)] maxLocals)) t := fun t k => pre43 t (by
              refine XS.icmpYes X38.here hx rfl (pc0 := 76) (pc' := 83) rfl (hb hby at_76) rfl (feq hc44).2 (by decide) (by decide) ?_
              show Steps p.tables e below (T38.setTop (mkF m 83 #[.val (.int p0), .val (.int p1), .val (.int p2), .val (.int (p2 &&& (3 : Int32))), .val (.int (p0 + (1 : Int32))), .val (.ref b1_26), .val (.int (own_v0_55_0 p0)), .val (.int (own_v0_64_1 p0))] [(.int (own_v0_64_1 p0))])) _
              refine XS.iconst X38.here hx rfl (hb hby at_83) ?_
              show Steps p.tables e below (T38.setTop (mkF m 84 #[.val (.int p0), .val (.int p1), .val (.int p2), .val (.int (p2 &&& (3 : Int32))), .val (.int (p0 + (1 : Int32))), .val (.ref b1_26), .val (.int (own_v0_55_0 p0)), .val (.int (own_v0_64_1 p0))] [(.int (0 : Int32)), (.int (own_v0_64_1 p0))])) _
              exact k)
          by_cases hc50 : (own_v0_64_1 p0) = (0 : Int32)
          · have pre51 : ∀ t, Steps p.tables e below (T38.setTop (mkF m 92 #[.val (.int p0), .val (.int p1), .val (.int p2), .val (.int (p2 &&& (3 : Int32))), .val (.int (p0 + (1 : Int32))), .val (.ref b1_26), .val (.int (own_v0_55_0 p0)), .val (.int (own_v0_64_1 p0))] [(.int (1 : Int32))])) t → Steps p.tables e below (s₁.setTop (entryFrame m #[(.int p0), (.int p1), (.int p2)] maxLocals)) t := fun t k => pre49 t (by
                refine XS.icmpNo X38.here hx rfl (hb hby at_84) rfl (teq hc50).2 ?_
                show Steps p.tables e below (T38.setTop (mkF m 87 #[.val (.int p0), .val (.int p1), .val (.int p2), .val (.int (p2 &&& (3 : Int32))), .val (.int (p0 + (1 : Int32))), .val (.ref b1_26), .val (.int (own_v0_55_0 p0)), .val (.int (own_v0_64_1 p0))] [])) _
                refine XS.iconst X38.here hx rfl (hb hby at_87) ?_
                show Steps p.tables e below (T38.setTop (mkF m 88 #[.val (.int p0), .val (.int p1), .val (.int p2), .val (.int (p2 &&& (3 : Int32))), .val (.int (p0 + (1 : Int32))), .val (.ref b1_26), .val (.int (own_v0_55_0 p0)), .val (.int (own_v0_64_1 p0))] [(.int (1 : Int32))])) _
                refine XS.goto X38.here hx rfl (pc0 := 88) (pc' := 92) rfl (hb hby at_88) (by decide) (by decide) ?_
                show Steps p.tables e below (T38.setTop (mkF m 92 #[.val (.int p0), .val (.int p1), .val (.int p2), .val (.int (p2 &&& (3 : Int32))), .val (.int (p0 + (1 : Int32))), .val (.ref b1_26), .val (.int (own_v0_55_0 p0)), .val (.int (own_v0_64_1 p0))] [(.int (1 : Int32))])) _
                exact k)
            obtain ⟨fs, hr, hrun, hended, hW, hsame⟩ := X38.leave (v := some (.int (1 : Int32))) (fun h => by rw [Bd.returns] at h; cases h) (hlocks := hlk)
            refine ⟨_, _, pre51 _ ?_, hrun, hended, _, _, rfl, ?_, ⟨_, rfl⟩, hW, hsame.mono (by decide) (by decide)⟩
            · show Steps p.tables e below (T38.setTop (mkF m 92 #[.val (.int p0), .val (.int p1), .val (.int p2), .val (.int (p2 &&& (3 : Int32))), .val (.int (p0 + (1 : Int32))), .val (.ref b1_26), .val (.int (own_v0_55_0 p0)), .val (.int (own_v0_64_1 p0))] [(.int (1 : Int32))])) _
              exact retN X38 hx (t := .boolean) Bd.returns (by simp) (hb hby at_92) hr
            · show own_Q0 Z p0 p1 p2 h0 n0 _ T38.heap _; exact ⟨(by show some (Value.int _) = some (.int (own_f0 p0 p1 p2)); unfold own_f0; rw [if_neg hc2, if_pos hc25, if_neg hc41, if_neg hc44, if_pos hc50]), N39⟩
          · have pre52 : ∀ t, Steps p.tables e below (T38.setTop (mkF m 92 #[.val (.int p0), .val (.int p1), .val (.int p2), .val (.int (p2 &&& (3 : Int32))), .val (.int (p0 + (1 : Int32))), .val (.ref b1_26), .val (.int (own_v0_55_0 p0)), .val (.int (own_v0_64_1 p0))] [(.int (0 : Int32))])) t → Steps p.tables e below (s₁.setTop (entryFrame m #[(.int p0), (.int p1), (.int p2)] maxLocals)) t := fun t k => pre49 t (by
                refine XS.icmpYes X38.here hx rfl (pc0 := 84) (pc' := 91) rfl (hb hby at_84) rfl (feq hc50).2 (by decide) (by decide) ?_
                show Steps p.tables e below (T38.setTop (mkF m 91 #[.val (.int p0), .val (.int p1), .val (.int p2), .val (.int (p2 &&& (3 : Int32))), .val (.int (p0 + (1 : Int32))), .val (.ref b1_26), .val (.int (own_v0_55_0 p0)), .val (.int (own_v0_64_1 p0))] [])) _
                refine XS.iconst X38.here hx rfl (hb hby at_91) ?_
                show Steps p.tables e below (T38.setTop (mkF m 92 #[.val (.int p0), .val (.int p1), .val (.int p2), .val (.int (p2 &&& (3 : Int32))), .val (.int (p0 + (1 : Int32))), .val (.ref b1_26), .val (.int (own_v0_55_0 p0)), .val (.int (own_v0_64_1 p0))] [(.int (0 : Int32))])) _
                exact k)
            obtain ⟨fs, hr, hrun, hended, hW, hsame⟩ := X38.leave (v := some (.int (0 : Int32))) (fun h => by rw [Bd.returns] at h; cases h) (hlocks := hlk)
            refine ⟨_, _, pre52 _ ?_, hrun, hended, _, _, rfl, ?_, ⟨_, rfl⟩, hW, hsame.mono (by decide) (by decide)⟩
            · show Steps p.tables e below (T38.setTop (mkF m 92 #[.val (.int p0), .val (.int p1), .val (.int p2), .val (.int (p2 &&& (3 : Int32))), .val (.int (p0 + (1 : Int32))), .val (.ref b1_26), .val (.int (own_v0_55_0 p0)), .val (.int (own_v0_64_1 p0))] [(.int (0 : Int32))])) _
              exact retN X38 hx (t := .boolean) Bd.returns (by simp) (hb hby at_92) hr
            · show own_Q0 Z p0 p1 p2 h0 n0 _ T38.heap _; exact ⟨(by show some (Value.int _) = some (.int (own_f0 p0 p1 p2)); unfold own_f0; rw [if_neg hc2, if_pos hc25, if_neg hc41, if_neg hc44, if_neg hc50]), N39⟩
    · have pre53 : ∀ t, Steps p.tables e below (s₁.setTop (mkF m 29 #[.val (.int p0), .val (.int p1), .val (.int p2), .val (.int (p2 &&& (3 : Int32))), .unset, .unset, .unset, .unset] [(.int (2 : Int32)), (.int (p2 &&& (3 : Int32)))])) t → Steps p.tables e below (s₁.setTop (entryFrame m #[(.int p0), (.int p1), (.int p2)] maxLocals)) t := fun t k => pre24 t (by
          refine XS.icmpYes X0.here hx rfl (pc0 := 16) (pc' := 27) rfl (hb hby at_16) rfl (feq hc25).2 (by decide) (by decide) ?_
          show Steps p.tables e below (s₁.setTop (mkF m 27 #[.val (.int p0), .val (.int p1), .val (.int p2), .val (.int (p2 &&& (3 : Int32))), .unset, .unset, .unset, .unset] [])) _
          refine XS.iloadN X0.here hx rfl (hb hby at_27) rfl ?_
          show Steps p.tables e below (s₁.setTop (mkF m 28 #[.val (.int p0), .val (.int p1), .val (.int p2), .val (.int (p2 &&& (3 : Int32))), .unset, .unset, .unset, .unset] [(.int (p2 &&& (3 : Int32)))])) _
          refine XS.iconst X0.here hx rfl (hb hby at_28) ?_
          show Steps p.tables e below (s₁.setTop (mkF m 29 #[.val (.int p0), .val (.int p1), .val (.int p2), .val (.int (p2 &&& (3 : Int32))), .unset, .unset, .unset, .unset] [(.int (2 : Int32)), (.int (p2 &&& (3 : Int32)))])) _
          exact k)
      by_cases hc54 : (p2 &&& (3 : Int32)) = (2 : Int32)
      · obtain ⟨_, _, ⟨T55, L55, k55, n55⟩, -, X55, ⟨Lc55, hQ55, l55, y55, z55⟩, st55⟩ := Jvm.LawKit.callS X0 hx (y := (⟨"com/example/firm_query/firmquery/IRegexpParser$CharClass", "of", "(I)Lcom/example/firm_query/firmquery/IRegexpParser$CharClass;"⟩ : MethodName)) hown (mvT hZ (hw _ (List.mem_of_getElem? (i := 0) rfl))) (mvT hZ (hw _ (List.mem_of_getElem? (i := 1) rfl))) (mvT hZ (hw _ (List.mem_of_getElem? (i := 2) rfl))) (mvT hZ (hw _ (List.mem_of_getElem? (i := 3) rfl))) (by decide) (backOf (W := 0) (own_rm1 l Z a0 hw [] p0 h0 n0 Z0 ) hZ (hw _ (List.mem_of_getElem? (i := 3) rfl)) (hw _ (List.mem_of_getElem? (i := 2) rfl)) (by decide) (by decide)) (g := (mkF m 44 #[.val (.int p0), .val (.int p1), .val (.int p2), .val (.int (p2 &&& (3 : Int32))), .val (.int (p0 - (1 : Int32))), .unset, .unset, .unset] [(.int p0)])) rfl (by rw [hml]; rfl) (argsL := [(.int p0)]) (rest := []) (lenOf own_pd2 rfl) rfl (by show 2 * 0 + _ ≤ _; exact Nat.le_of_eq rfl) (hb hby at_44) (fun _ _ => ⟨rfl, e0, (by decide : 0 + 2 ≤ _), (by decide : 0 + 5 ≤ _)⟩)
        dsimp only [Pt.U, Pt.locs, Pt.cells, Pt.slots] at X55 l55 y55 z55 st55 hQ55
        subst l55 y55 z55
        obtain ⟨b1_55, b8_55, k8_55, rfl, N55q, K55, sqb1_55_55, sqb8_55_55, f56, f57, f58, f59, f60⟩ := hQ55
        have g_b1_55 : n0 ≤ b1_55 := Nat.le_trans Z0 sqb1_55_55
        have sz_b1_55 : h0.size ≤ b1_55 := Nat.le_trans (Nat.le_refl _) sqb1_55_55
        have g_b8_55 : n0 ≤ b8_55 := Nat.le_trans Z0 sqb8_55_55
        have sz_b8_55 : h0.size ≤ b8_55 := Nat.le_trans (Nat.le_refl _) sqb8_55_55
        have zs61 : n0 ≤ T55.heap.size := Nat.le_trans Z0 K55.1
        have K62 : Keep h0 h0 [] := Keep.refl h0 []
        have K63 : Keep h0 T55.heap [] := K62.trans K55 all0
        have N64 := Fr.app N0 N55q
        obtain ⟨cq65, kq65, q65a, q65b, q65c⟩ := isOf hZ rfl f56
        obtain ⟨_, _, ⟨T65, L65, k65, n65⟩, -, X65, ⟨Lc65, hQ65, l65, y65, z65⟩, st65⟩ := X55.virtualBack hx (y := (⟨"com/example/firm_query/firmquery/IRegexpParser$CharClass", "contains", "(I)Z"⟩ : MethodName)) (z := (⟨"com/example/firm_query/firmquery/IRegexpParser$CharClass", "contains", "(I)Z"⟩ : MethodName)) hown (mvT hZ (hw _ (List.mem_of_getElem? (i := 19) rfl))) (mvT hZ (hw _ (List.mem_of_getElem? (i := 20) rfl))) (notFace_of_selects (args := #[]) (mvT hZ (hw _ (List.mem_of_getElem? (i := 22) rfl)))) (mvT hZ (hw _ (List.mem_of_getElem? (i := 22) rfl))) (mvT hZ (hw _ (List.mem_of_getElem? (i := 21) rfl))) (by decide) (backOf (W := 0) (own_rm4 l Z a0 hw [] b1_55 p0 b8_55 k8_55 p0 p0 (nar .boolean (0 : Int32)) T55.heap n0 zs61 f59 f58 f60 f56 f57) hZ (hw _ (List.mem_of_getElem? (i := 23) rfl)) (hw _ (List.mem_of_getElem? (i := 2) rfl)) (by decide) (by decide)) q65a q65c (g := (mkF m 52 #[.val (.int p0), .val (.int p1), .val (.int p2), .val (.int (p2 &&& (3 : Int32))), .val (.int (p0 - (1 : Int32))), .val (.ref b1_55), .unset, .unset] [(.int p0), (.ref b1_55)])) rfl (by rw [hml]; rfl) (Steps.refl _) (argsL := [(.int p0)]) (rest := []) (lenOf own_pd1 rfl) rfl (by show 2 * 0 + _ ≤ _; exact Nat.le_of_eq rfl) (hb hby at_52) (fun _ _ => ⟨rfl, rfl, (by decide : 2 + 0 ≤ _), (by decide : 5 + 0 ≤ _)⟩)
        dsimp only [Pt.U, Pt.locs, Pt.cells, Pt.slots] at X65 l65 y65 z65 st65 hQ65
        subst l65 y65 z65
        obtain ⟨rfl, N65q, e65⟩ := hQ65
        have N66 := Fr.app N64 N65q
        obtain ⟨cq67, kq67, q67a, q67b, q67c⟩ := isOf hZ e65 f56
        obtain ⟨_, _, ⟨T67, L67, k67, n67⟩, -, X67, ⟨Lc67, hQ67, l67, y67, z67⟩, st67⟩ := X65.virtualBack hx (y := (⟨"com/example/firm_query/firmquery/IRegexpParser$CharClass", "contains", "(I)Z"⟩ : MethodName)) (z := (⟨"com/example/firm_query/firmquery/IRegexpParser$CharClass", "contains", "(I)Z"⟩ : MethodName)) hown (mvT hZ (hw _ (List.mem_of_getElem? (i := 19) rfl))) (mvT hZ (hw _ (List.mem_of_getElem? (i := 20) rfl))) (notFace_of_selects (args := #[]) (mvT hZ (hw _ (List.mem_of_getElem? (i := 22) rfl)))) (mvT hZ (hw _ (List.mem_of_getElem? (i := 22) rfl))) (mvT hZ (hw _ (List.mem_of_getElem? (i := 21) rfl))) (by decide) (backOf (W := 0) (own_rm4 l Z a0 hw [] b1_55 (p0 - (1 : Int32)) b8_55 k8_55 p0 p0 (nar .boolean (0 : Int32)) T55.heap n0 zs61 f59 f58 f60 f56 f57) hZ (hw _ (List.mem_of_getElem? (i := 23) rfl)) (hw _ (List.mem_of_getElem? (i := 2) rfl)) (by decide) (by decide)) q67a q67c (g := (mkF m 61 #[.val (.int p0), .val (.int p1), .val (.int p2), .val (.int (p2 &&& (3 : Int32))), .val (.int (p0 - (1 : Int32))), .val (.ref b1_55), .val (.int (own_v0_55_0 p0)), .unset] [(.int (p0 - (1 : Int32))), (.ref b1_55)])) rfl (by rw [hml]; rfl) (Steps.refl _) (argsL := [(.int (p0 - (1 : Int32)))]) (rest := []) (lenOf own_pd1 rfl) rfl (by show 2 * 0 + _ ≤ _; exact Nat.le_of_eq rfl) (hb hby at_61) (fun _ _ => ⟨rfl, e65, (by decide : 2 + 0 ≤ _), (by decide : 5 + 0 ≤ _)⟩)
        dsimp only [Pt.U, Pt.locs, Pt.cells, Pt.slots] at X67 l67 y67 z67 st67 hQ67
        subst l67 y67 z67
        obtain ⟨rfl, N67q, e67⟩ := hQ67
        have N68 := Fr.app N66 N67q
        have pre69 : ∀ t, Steps p.tables e below (T67.setTop (mkF m 68 #[.val (.int p0), .val (.int p1), .val (.int p2), .val (.int (p2 &&& (3 : Int32))), .val (.int (p0 - (1 : Int32))), .val (.ref b1_55), .val (.int (own_v0_55_0 p0)), .val (.int (own_v0_64_2 p0))] [(.int (own_v0_55_0 p0))])) t → Steps p.tables e below (s₁.setTop (entryFrame m #[(.int p0), (.int p1), (.int p2)] maxLocals)) t := fun t k => pre53 t (by
            refine XS.icmpNo X0.here hx rfl (hb hby at_29) rfl (teq hc54).2 ?_
            show Steps p.tables e below (s₁.setTop (mkF m 32 #[.val (.int p0), .val (.int p1), .val (.int p2), .val (.int (p2 &&& (3 : Int32))), .unset, .unset, .unset, .unset] [])) _
            refine XS.iloadN X0.here hx rfl (hb hby at_32) rfl ?_
            show Steps p.tables e below (s₁.setTop (mkF m 33 #[.val (.int p0), .val (.int p1), .val (.int p2), .val (.int (p2 &&& (3 : Int32))), .unset, .unset, .unset, .unset] [(.int p0)])) _
            refine XS.iconst X0.here hx rfl (hb hby at_33) ?_
            show Steps p.tables e below (s₁.setTop (mkF m 34 #[.val (.int p0), .val (.int p1), .val (.int p2), .val (.int (p2 &&& (3 : Int32))), .unset, .unset, .unset, .unset] [(.int (1 : Int32)), (.int p0)])) _
            refine XS.isub X0.here hx rfl (hb hby at_34) rfl ?_
            show Steps p.tables e below (s₁.setTop (mkF m 35 #[.val (.int p0), .val (.int p1), .val (.int p2), .val (.int (p2 &&& (3 : Int32))), .unset, .unset, .unset, .unset] [(.int (p0 - (1 : Int32)))])) _
            refine XS.istore X0.here hx rfl (hb hby at_35) rfl (l' := #[.val (.int p0), .val (.int p1), .val (.int p2), .val (.int (p2 &&& (3 : Int32))), .val (.int (p0 - (1 : Int32))), .unset, .unset, .unset]) rfl ?_
            show Steps p.tables e below (s₁.setTop (mkF m 37 #[.val (.int p0), .val (.int p1), .val (.int p2), .val (.int (p2 &&& (3 : Int32))), .val (.int (p0 - (1 : Int32))), .unset, .unset, .unset] [])) _
            refine XS.goto X0.here hx rfl (pc0 := 37) (pc' := 43) rfl (hb hby at_37) (by decide) (by decide) ?_
            show Steps p.tables e below (s₁.setTop (mkF m 43 #[.val (.int p0), .val (.int p1), .val (.int p2), .val (.int (p2 &&& (3 : Int32))), .val (.int (p0 - (1 : Int32))), .unset, .unset, .unset] [])) _
            refine XS.iloadN X0.here hx rfl (hb hby at_43) rfl ?_
            show Steps p.tables e below (s₁.setTop (mkF m 44 #[.val (.int p0), .val (.int p1), .val (.int p2), .val (.int (p2 &&& (3 : Int32))), .val (.int (p0 - (1 : Int32))), .unset, .unset, .unset] [(.int p0)])) _
            refine st55 _ ?_
            show Steps p.tables e below (T55.setTop (mkF m 47 #[.val (.int p0), .val (.int p1), .val (.int p2), .val (.int (p2 &&& (3 : Int32))), .val (.int (p0 - (1 : Int32))), .unset, .unset, .unset] [(.ref b1_55)])) _
            refine XS.astore X55.here hx rfl (hb hby at_47) rfl rfl (l' := #[.val (.int p0), .val (.int p1), .val (.int p2), .val (.int (p2 &&& (3 : Int32))), .val (.int (p0 - (1 : Int32))), .val (.ref b1_55), .unset, .unset]) rfl ?_
            show Steps p.tables e below (T55.setTop (mkF m 49 #[.val (.int p0), .val (.int p1), .val (.int p2), .val (.int (p2 &&& (3 : Int32))), .val (.int (p0 - (1 : Int32))), .val (.ref b1_55), .unset, .unset] [])) _
            refine XS.aload X55.here hx rfl (hb hby at_49) rfl rfl ?_
            show Steps p.tables e below (T55.setTop (mkF m 51 #[.val (.int p0), .val (.int p1), .val (.int p2), .val (.int (p2 &&& (3 : Int32))), .val (.int (p0 - (1 : Int32))), .val (.ref b1_55), .unset, .unset] [(.ref b1_55)])) _
            refine XS.iloadN X55.here hx rfl (hb hby at_51) rfl ?_
            show Steps p.tables e below (T55.setTop (mkF m 52 #[.val (.int p0), .val (.int p1), .val (.int p2), .val (.int (p2 &&& (3 : Int32))), .val (.int (p0 - (1 : Int32))), .val (.ref b1_55), .unset, .unset] [(.int p0), (.ref b1_55)])) _
            refine st65.trans ?_
            show Steps p.tables e below (T65.setTop (mkF m 55 #[.val (.int p0), .val (.int p1), .val (.int p2), .val (.int (p2 &&& (3 : Int32))), .val (.int (p0 - (1 : Int32))), .val (.ref b1_55), .unset, .unset] [(.int (own_f4 p0 p0 p0 (nar .boolean (0 : Int32))))])) _
            refine XS.istore X65.here hx rfl (hb hby at_55) rfl (l' := #[.val (.int p0), .val (.int p1), .val (.int p2), .val (.int (p2 &&& (3 : Int32))), .val (.int (p0 - (1 : Int32))), .val (.ref b1_55), .val (.int (own_v0_55_0 p0)), .unset]) rfl ?_
            show Steps p.tables e below (T65.setTop (mkF m 57 #[.val (.int p0), .val (.int p1), .val (.int p2), .val (.int (p2 &&& (3 : Int32))), .val (.int (p0 - (1 : Int32))), .val (.ref b1_55), .val (.int (own_v0_55_0 p0)), .unset] [])) _
            refine XS.aload X65.here hx rfl (hb hby at_57) rfl rfl ?_
            show Steps p.tables e below (T65.setTop (mkF m 59 #[.val (.int p0), .val (.int p1), .val (.int p2), .val (.int (p2 &&& (3 : Int32))), .val (.int (p0 - (1 : Int32))), .val (.ref b1_55), .val (.int (own_v0_55_0 p0)), .unset] [(.ref b1_55)])) _
            refine XS.iload X65.here hx rfl (hb hby at_59) rfl ?_
            show Steps p.tables e below (T65.setTop (mkF m 61 #[.val (.int p0), .val (.int p1), .val (.int p2), .val (.int (p2 &&& (3 : Int32))), .val (.int (p0 - (1 : Int32))), .val (.ref b1_55), .val (.int (own_v0_55_0 p0)), .unset] [(.int (p0 - (1 : Int32))), (.ref b1_55)])) _
            refine st67.trans ?_
            show Steps p.tables e below (T67.setTop (mkF m 64 #[.val (.int p0), .val (.int p1), .val (.int p2), .val (.int (p2 &&& (3 : Int32))), .val (.int (p0 - (1 : Int32))), .val (.ref b1_55), .val (.int (own_v0_55_0 p0)), .unset] [(.int (own_f4 (p0 - (1 : Int32)) p0 p0 (nar .boolean (0 : Int32))))])) _
            refine XS.istore X67.here hx rfl (hb hby at_64) rfl (l' := #[.val (.int p0), .val (.int p1), .val (.int p2), .val (.int (p2 &&& (3 : Int32))), .val (.int (p0 - (1 : Int32))), .val (.ref b1_55), .val (.int (own_v0_55_0 p0)), .val (.int (own_v0_64_2 p0))]) rfl ?_
            show Steps p.tables e below (T67.setTop (mkF m 66 #[.val (.int p0), .val (.int p1), .val (.int p2), .val (.int (p2 &&& (3 : Int32))), .val (.int (p0 - (1 : Int32))), .val (.ref b1_55), .val (.int (own_v0_55_0 p0)), .val (.int (own_v0_64_2 p0))] [])) _
            refine XS.iload X67.here hx rfl (hb hby at_66) rfl ?_
            show Steps p.tables e below (T67.setTop (mkF m 68 #[.val (.int p0), .val (.int p1), .val (.int p2), .val (.int (p2 &&& (3 : Int32))), .val (.int (p0 - (1 : Int32))), .val (.ref b1_55), .val (.int (own_v0_55_0 p0)), .val (.int (own_v0_64_2 p0))] [(.int (own_v0_55_0 p0))])) _
            exact k)
        by_cases hc70 : (own_v0_55_0 p0) = (0 : Int32)
        · have pre71 : ∀ t, Steps p.tables e below (T67.setTop (mkF m 92 #[.val (.int p0), .val (.int p1), .val (.int p2), .val (.int (p2 &&& (3 : Int32))), .val (.int (p0 - (1 : Int32))), .val (.ref b1_55), .val (.int (own_v0_55_0 p0)), .val (.int (own_v0_64_2 p0))] [(.int (0 : Int32))])) t → Steps p.tables e below (s₁.setTop (entryFrame m #[(.int p0), (.int p1), (.int p2)] maxLocals)) t := fun t k => pre69 t (by
              refine XS.ifYes X67.here hx rfl (pc0 := 68) (pc' := 91) rfl (hb hby at_68) rfl ((if0 _ _).trans (teq hc70).1) (by decide) (by decide) ?_
              show Steps p.tables e below (T67.setTop (mkF m 91 #[.val (.int p0), .val (.int p1), .val (.int p2), .val (.int (p2 &&& (3 : Int32))), .val (.int (p0 - (1 : Int32))), .val (.ref b1_55), .val (.int (own_v0_55_0 p0)), .val (.int (own_v0_64_2 p0))] [])) _
              refine XS.iconst X67.here hx rfl (hb hby at_91) ?_
              show Steps p.tables e below (T67.setTop (mkF m 92 #[.val (.int p0), .val (.int p1), .val (.int p2), .val (.int (p2 &&& (3 : Int32))), .val (.int (p0 - (1 : Int32))), .val (.ref b1_55), .val (.int (own_v0_55_0 p0)), .val (.int (own_v0_64_2 p0))] [(.int (0 : Int32))])) _
              exact k)
          obtain ⟨fs, hr, hrun, hended, hW, hsame⟩ := X67.leave (v := some (.int (0 : Int32))) (fun h => by rw [Bd.returns] at h; cases h) (hlocks := hlk)
          refine ⟨_, _, pre71 _ ?_, hrun, hended, _, _, rfl, ?_, ⟨_, rfl⟩, hW, hsame.mono (by decide) (by decide)⟩
          · show Steps p.tables e below (T67.setTop (mkF m 92 #[.val (.int p0), .val (.int p1), .val (.int p2), .val (.int (p2 &&& (3 : Int32))), .val (.int (p0 - (1 : Int32))), .val (.ref b1_55), .val (.int (own_v0_55_0 p0)), .val (.int (own_v0_64_2 p0))] [(.int (0 : Int32))])) _
            exact retN X67 hx (t := .boolean) Bd.returns (by simp) (hb hby at_92) hr
          · show own_Q0 Z p0 p1 p2 h0 n0 _ T67.heap _; exact ⟨(by show some (Value.int _) = some (.int (own_f0 p0 p1 p2)); unfold own_f0; rw [if_neg hc2, if_neg hc25, if_pos hc54, if_pos hc70]), N68⟩
        · have pre72 : ∀ t, Steps p.tables e below (T67.setTop (mkF m 76 #[.val (.int p0), .val (.int p1), .val (.int p2), .val (.int (p2 &&& (3 : Int32))), .val (.int (p0 - (1 : Int32))), .val (.ref b1_55), .val (.int (own_v0_55_0 p0)), .val (.int (own_v0_64_2 p0))] [(.int p0), (.int (p0 - (1 : Int32))), (.int (own_v0_64_2 p0))])) t → Steps p.tables e below (s₁.setTop (entryFrame m #[(.int p0), (.int p1), (.int p2)] maxLocals)) t := fun t k => pre69 t (by
              refine XS.ifNo X67.here hx rfl (hb hby at_68) rfl ((if0 _ _).trans (feq hc70).1) ?_
              show Steps p.tables e below (T67.setTop (mkF m 71 #[.val (.int p0), .val (.int p1), .val (.int p2), .val (.int (p2 &&& (3 : Int32))), .val (.int (p0 - (1 : Int32))), .val (.ref b1_55), .val (.int (own_v0_55_0 p0)), .val (.int (own_v0_64_2 p0))] [])) _
              refine XS.iload X67.here hx rfl (hb hby at_71) rfl ?_
              show Steps p.tables e below (T67.setTop (mkF m 73 #[.val (.int p0), .val (.int p1), .val (.int p2), .val (.int (p2 &&& (3 : Int32))), .val (.int (p0 - (1 : Int32))), .val (.ref b1_55), .val (.int (own_v0_55_0 p0)), .val (.int (own_v0_64_2 p0))] [(.int (own_v0_64_2 p0))])) _
              refine XS.iload X67.here hx rfl (hb hby at_73) rfl ?_
              show Steps p.tables e below (T67.setTop (mkF m 75 #[.val (.int p0), .val (.int p1), .val (.int p2), .val (.int (p2 &&& (3 : Int32))), .val (.int (p0 - (1 : Int32))), .val (.ref b1_55), .val (.int (own_v0_55_0 p0)), .val (.int (own_v0_64_2 p0))] [(.int (p0 - (1 : Int32))), (.int (own_v0_64_2 p0))])) _
              refine XS.iloadN X67.here hx rfl (hb hby at_75) rfl ?_
              show Steps p.tables e below (T67.setTop (mkF m 76 #[.val (.int p0), .val (.int p1), .val (.int p2), .val (.int (p2 &&& (3 : Int32))), .val (.int (p0 - (1 : Int32))), .val (.ref b1_55), .val (.int (own_v0_55_0 p0)), .val (.int (own_v0_64_2 p0))] [(.int p0), (.int (p0 - (1 : Int32))), (.int (own_v0_64_2 p0))])) _
              exact k)
          by_cases hc73 : (p0 - (1 : Int32)) = p0
          · have pre74 : ∀ t, Steps p.tables e below (T67.setTop (mkF m 84 #[.val (.int p0), .val (.int p1), .val (.int p2), .val (.int (p2 &&& (3 : Int32))), .val (.int (p0 - (1 : Int32))), .val (.ref b1_55), .val (.int (own_v0_55_0 p0)), .val (.int (own_v0_64_2 p0))] [(.int (1 : Int32)), (.int (own_v0_64_2 p0))])) t → Steps p.tables e below (s₁.setTop (entryFrame m #[(.int p0), (.int p1), (.int p2)] maxLocals)) t := fun t k => pre72 t (by
                refine XS.icmpNo X67.here hx rfl (hb hby at_76) rfl (teq hc73).2 ?_
                show Steps p.tables e below (T67.setTop (mkF m 79 #[.val (.int p0), .val (.int p1), .val (.int p2), .val (.int (p2 &&& (3 : Int32))), .val (.int (p0 - (1 : Int32))), .val (.ref b1_55), .val (.int (own_v0_55_0 p0)), .val (.int (own_v0_64_2 p0))] [(.int (own_v0_64_2 p0))])) _
                refine XS.iconst X67.here hx rfl (hb hby at_79) ?_
                show Steps p.tables e below (T67.setTop (mkF m 80 #[.val (.int p0), .val (.int p1), .val (.int p2), .val (.int (p2 &&& (3 : Int32))), .val (.int (p0 - (1 : Int32))), .val (.ref b1_55), .val (.int (own_v0_55_0 p0)), .val (.int (own_v0_64_2 p0))] [(.int (1 : Int32)), (.int (own_v0_64_2 p0))])) _
                refine XS.goto X67.here hx rfl (pc0 := 80) (pc' := 84) rfl (hb hby at_80) (by decide) (by decide) ?_
                show Steps p.tables e below (T67.setTop (mkF m 84 #[.val (.int p0), .val (.int p1), .val (.int p2), .val (.int (p2 &&& (3 : Int32))), .val (.int (p0 - (1 : Int32))), .val (.ref b1_55), .val (.int (own_v0_55_0 p0)), .val (.int (own_v0_64_2 p0))] [(.int (1 : Int32)), (.int (own_v0_64_2 p0))])) _
                exact k)
            by_cases hc75 : (own_v0_64_2 p0) = (1 : Int32)
            · have pre76 : ∀ t, Steps p.tables e below (T67.setTop (mkF m 92 #[.val (.int p0), .val (.int p1), .val (.int p2), .val (.int (p2 &&& (3 : Int32))), .val (.int (p0 - (1 : Int32))), .val (.ref b1_55), .val (.int (own_v0_55_0 p0)), .val (.int (own_v0_64_2 p0))] [(.int (1 : Int32))])) t → Steps p.tables e below (s₁.setTop (entryFrame m #[(.int p0), (.int p1), (.int p2)] maxLocals)) t := fun t k => pre74 t (by
                  refine XS.icmpNo X67.here hx rfl (hb hby at_84) rfl (teq hc75).2 ?_
                  show Steps p.tables e below (T67.setTop (mkF m 87 #[.val (.int p0), .val (.int p1), .val (.int p2), .val (.int (p2 &&& (3 : Int32))), .val (.int (p0 - (1 : Int32))), .val (.ref b1_55), .val (.int (own_v0_55_0 p0)), .val (.int (own_v0_64_2 p0))] [])) _
                  refine XS.iconst X67.here hx rfl (hb hby at_87) ?_
                  show Steps p.tables e below (T67.setTop (mkF m 88 #[.val (.int p0), .val (.int p1), .val (.int p2), .val (.int (p2 &&& (3 : Int32))), .val (.int (p0 - (1 : Int32))), .val (.ref b1_55), .val (.int (own_v0_55_0 p0)), .val (.int (own_v0_64_2 p0))] [(.int (1 : Int32))])) _
                  refine XS.goto X67.here hx rfl (pc0 := 88) (pc' := 92) rfl (hb hby at_88) (by decide) (by decide) ?_
                  show Steps p.tables e below (T67.setTop (mkF m 92 #[.val (.int p0), .val (.int p1), .val (.int p2), .val (.int (p2 &&& (3 : Int32))), .val (.int (p0 - (1 : Int32))), .val (.ref b1_55), .val (.int (own_v0_55_0 p0)), .val (.int (own_v0_64_2 p0))] [(.int (1 : Int32))])) _
                  exact k)
              obtain ⟨fs, hr, hrun, hended, hW, hsame⟩ := X67.leave (v := some (.int (1 : Int32))) (fun h => by rw [Bd.returns] at h; cases h) (hlocks := hlk)
              refine ⟨_, _, pre76 _ ?_, hrun, hended, _, _, rfl, ?_, ⟨_, rfl⟩, hW, hsame.mono (by decide) (by decide)⟩
              · show Steps p.tables e below (T67.setTop (mkF m 92 #[.val (.int p0), .val (.int p1), .val (.int p2), .val (.int (p2 &&& (3 : Int32))), .val (.int (p0 - (1 : Int32))), .val (.ref b1_55), .val (.int (own_v0_55_0 p0)), .val (.int (own_v0_64_2 p0))] [(.int (1 : Int32))])) _
                exact retN X67 hx (t := .boolean) Bd.returns (by simp) (hb hby at_92) hr
              · show own_Q0 Z p0 p1 p2 h0 n0 _ T67.heap _; exact ⟨(by show some (Value.int _) = some (.int (own_f0 p0 p1 p2)); unfold own_f0; rw [if_neg hc2, if_neg hc25, if_pos hc54, if_neg hc70, if_pos hc73, if_pos hc75]), N68⟩
            · have pre77 : ∀ t, Steps p.tables e below (T67.setTop (mkF m 92 #[.val (.int p0), .val (.int p1), .val (.int p2), .val (.int (p2 &&& (3 : Int32))), .val (.int (p0 - (1 : Int32))), .val (.ref b1_55), .val (.int (own_v0_55_0 p0)), .val (.int (own_v0_64_2 p0))] [(.int (0 : Int32))])) t → Steps p.tables e below (s₁.setTop (entryFrame m #[(.int p0), (.int p1), (.int p2)] maxLocals)) t := fun t k => pre74 t (by
                  refine XS.icmpYes X67.here hx rfl (pc0 := 84) (pc' := 91) rfl (hb hby at_84) rfl (feq hc75).2 (by decide) (by decide) ?_
                  show Steps p.tables e below (T67.setTop (mkF m 91 #[.val (.int p0), .val (.int p1), .val (.int p2), .val (.int (p2 &&& (3 : Int32))), .val (.int (p0 - (1 : Int32))), .val (.ref b1_55), .val (.int (own_v0_55_0 p0)), .val (.int (own_v0_64_2 p0))] [])) _
                  refine XS.iconst X67.here hx rfl (hb hby at_91) ?_
                  show Steps p.tables e below (T67.setTop (mkF m 92 #[.val (.int p0), .val (.int p1), .val (.int p2), .val (.int (p2 &&& (3 : Int32))), .val (.int (p0 - (1 : Int32))), .val (.ref b1_55), .val (.int (own_v0_55_0 p0)), .val (.int (own_v0_64_2 p0))] [(.int (0 : Int32))])) _
                  exact k)
              obtain ⟨fs, hr, hrun, hended, hW, hsame⟩ := X67.leave (v := some (.int (0 : Int32))) (fun h => by rw [Bd.returns] at h; cases h) (hlocks := hlk)
              refine ⟨_, _, pre77 _ ?_, hrun, hended, _, _, rfl, ?_, ⟨_, rfl⟩, hW, hsame.mono (by decide) (by decide)⟩
              · show Steps p.tables e below (T67.setTop (mkF m 92 #[.val (.int p0), .val (.int p1), .val (.int p2), .val (.int (p2 &&& (3 : Int32))), .val (.int (p0 - (1 : Int32))), .val (.ref b1_55), .val (.int (own_v0_55_0 p0)), .val (.int (own_v0_64_2 p0))] [(.int (0 : Int32))])) _
                exact retN X67 hx (t := .boolean) Bd.returns (by simp) (hb hby at_92) hr
              · show own_Q0 Z p0 p1 p2 h0 n0 _ T67.heap _; exact ⟨(by show some (Value.int _) = some (.int (own_f0 p0 p1 p2)); unfold own_f0; rw [if_neg hc2, if_neg hc25, if_pos hc54, if_neg hc70, if_pos hc73, if_neg hc75]), N68⟩
          · have pre78 : ∀ t, Steps p.tables e below (T67.setTop (mkF m 84 #[.val (.int p0), .val (.int p1), .val (.int p2), .val (.int (p2 &&& (3 : Int32))), .val (.int (p0 - (1 : Int32))), .val (.ref b1_55), .val (.int (own_v0_55_0 p0)), .val (.int (own_v0_64_2 p0))] [(.int (0 : Int32)), (.int (own_v0_64_2 p0))])) t → Steps p.tables e below (s₁.setTop (entryFrame m #[(.int p0), (.int p1), (.int p2)] maxLocals)) t := fun t k => pre72 t (by
                refine XS.icmpYes X67.here hx rfl (pc0 := 76) (pc' := 83) rfl (hb hby at_76) rfl (feq hc73).2 (by decide) (by decide) ?_
                show Steps p.tables e below (T67.setTop (mkF m 83 #[.val (.int p0), .val (.int p1), .val (.int p2), .val (.int (p2 &&& (3 : Int32))), .val (.int (p0 - (1 : Int32))), .val (.ref b1_55), .val (.int (own_v0_55_0 p0)), .val (.int (own_v0_64_2 p0))] [(.int (own_v0_64_2 p0))])) _
                refine XS.iconst X67.here hx rfl (hb hby at_83) ?_
                show Steps p.tables e below (T67.setTop (mkF m 84 #[.val (.int p0), .val (.int p1), .val (.int p2), .val (.int (p2 &&& (3 : Int32))), .val (.int (p0 - (1 : Int32))), .val (.ref b1_55), .val (.int (own_v0_55_0 p0)), .val (.int (own_v0_64_2 p0))] [(.int (0 : Int32)), (.int (own_v0_64_2 p0))])) _
                exact k)
            by_cases hc79 : (own_v0_64_2 p0) = (0 : Int32)
            · have pre80 : ∀ t, Steps p.tables e below (T67.setTop (mkF m 92 #[.val (.int p0), .val (.int p1), .val (.int p2), .val (.int (p2 &&& (3 : Int32))), .val (.int (p0 - (1 : Int32))), .val (.ref b1_55), .val (.int (own_v0_55_0 p0)), .val (.int (own_v0_64_2 p0))] [(.int (1 : Int32))])) t → Steps p.tables e below (s₁.setTop (entryFrame m #[(.int p0), (.int p1), (.int p2)] maxLocals)) t := fun t k => pre78 t (by
                  refine XS.icmpNo X67.here hx rfl (hb hby at_84) rfl (teq hc79).2 ?_
                  show Steps p.tables e below (T67.setTop (mkF m 87 #[.val (.int p0), .val (.int p1), .val (.int p2), .val (.int (p2 &&& (3 : Int32))), .val (.int (p0 - (1 : Int32))), .val (.ref b1_55), .val (.int (own_v0_55_0 p0)), .val (.int (own_v0_64_2 p0))] [])) _
                  refine XS.iconst X67.here hx rfl (hb hby at_87) ?_
                  show Steps p.tables e below (T67.setTop (mkF m 88 #[.val (.int p0), .val (.int p1), .val (.int p2), .val (.int (p2 &&& (3 : Int32))), .val (.int (p0 - (1 : Int32))), .val (.ref b1_55), .val (.int (own_v0_55_0 p0)), .val (.int (own_v0_64_2 p0))] [(.int (1 : Int32))])) _
                  refine XS.goto X67.here hx rfl (pc0 := 88) (pc' := 92) rfl (hb hby at_88) (by decide) (by decide) ?_
                  show Steps p.tables e below (T67.setTop (mkF m 92 #[.val (.int p0), .val (.int p1), .val (.int p2), .val (.int (p2 &&& (3 : Int32))), .val (.int (p0 - (1 : Int32))), .val (.ref b1_55), .val (.int (own_v0_55_0 p0)), .val (.int (own_v0_64_2 p0))] [(.int (1 : Int32))])) _
                  exact k)
              obtain ⟨fs, hr, hrun, hended, hW, hsame⟩ := X67.leave (v := some (.int (1 : Int32))) (fun h => by rw [Bd.returns] at h; cases h) (hlocks := hlk)
              refine ⟨_, _, pre80 _ ?_, hrun, hended, _, _, rfl, ?_, ⟨_, rfl⟩, hW, hsame.mono (by decide) (by decide)⟩
              · show Steps p.tables e below (T67.setTop (mkF m 92 #[.val (.int p0), .val (.int p1), .val (.int p2), .val (.int (p2 &&& (3 : Int32))), .val (.int (p0 - (1 : Int32))), .val (.ref b1_55), .val (.int (own_v0_55_0 p0)), .val (.int (own_v0_64_2 p0))] [(.int (1 : Int32))])) _
                exact retN X67 hx (t := .boolean) Bd.returns (by simp) (hb hby at_92) hr
              · show own_Q0 Z p0 p1 p2 h0 n0 _ T67.heap _; exact ⟨(by show some (Value.int _) = some (.int (own_f0 p0 p1 p2)); unfold own_f0; rw [if_neg hc2, if_neg hc25, if_pos hc54, if_neg hc70, if_neg hc73, if_pos hc79]), N68⟩
            · have pre81 : ∀ t, Steps p.tables e below (T67.setTop (mkF m 92 #[.val (.int p0), .val (.int p1), .val (.int p2), .val (.int (p2 &&& (3 : Int32))), .val (.int (p0 - (1 : Int32))), .val (.ref b1_55), .val (.int (own_v0_55_0 p0)), .val (.int (own_v0_64_2 p0))] [(.int (0 : Int32))])) t → Steps p.tables e below (s₁.setTop (entryFrame m #[(.int p0), (.int p1), (.int p2)] maxLocals)) t := fun t k => pre78 t (by
                  refine XS.icmpYes X67.here hx rfl (pc0 := 84) (pc' := 91) rfl (hb hby at_84) rfl (feq hc79).2 (by decide) (by decide) ?_
                  show Steps p.tables e below (T67.setTop (mkF m 91 #[.val (.int p0), .val (.int p1), .val (.int p2), .val (.int (p2 &&& (3 : Int32))), .val (.int (p0 - (1 : Int32))), .val (.ref b1_55), .val (.int (own_v0_55_0 p0)), .val (.int (own_v0_64_2 p0))] [])) _
                  refine XS.iconst X67.here hx rfl (hb hby at_91) ?_
                  show Steps p.tables e below (T67.setTop (mkF m 92 #[.val (.int p0), .val (.int p1), .val (.int p2), .val (.int (p2 &&& (3 : Int32))), .val (.int (p0 - (1 : Int32))), .val (.ref b1_55), .val (.int (own_v0_55_0 p0)), .val (.int (own_v0_64_2 p0))] [(.int (0 : Int32))])) _
                  exact k)
              obtain ⟨fs, hr, hrun, hended, hW, hsame⟩ := X67.leave (v := some (.int (0 : Int32))) (fun h => by rw [Bd.returns] at h; cases h) (hlocks := hlk)
              refine ⟨_, _, pre81 _ ?_, hrun, hended, _, _, rfl, ?_, ⟨_, rfl⟩, hW, hsame.mono (by decide) (by decide)⟩
              · show Steps p.tables e below (T67.setTop (mkF m 92 #[.val (.int p0), .val (.int p1), .val (.int p2), .val (.int (p2 &&& (3 : Int32))), .val (.int (p0 - (1 : Int32))), .val (.ref b1_55), .val (.int (own_v0_55_0 p0)), .val (.int (own_v0_64_2 p0))] [(.int (0 : Int32))])) _
                exact retN X67 hx (t := .boolean) Bd.returns (by simp) (hb hby at_92) hr
              · show own_Q0 Z p0 p1 p2 h0 n0 _ T67.heap _; exact ⟨(by show some (Value.int _) = some (.int (own_f0 p0 p1 p2)); unfold own_f0; rw [if_neg hc2, if_neg hc25, if_pos hc54, if_neg hc70, if_neg hc73, if_neg hc79]), N68⟩
      · obtain ⟨_, _, ⟨T82, L82, k82, n82⟩, -, X82, ⟨Lc82, hQ82, l82, y82, z82⟩, st82⟩ := Jvm.LawKit.callS X0 hx (y := (⟨"com/example/firm_query/firmquery/IRegexpParser$CharClass", "of", "(I)Lcom/example/firm_query/firmquery/IRegexpParser$CharClass;"⟩ : MethodName)) hown (mvT hZ (hw _ (List.mem_of_getElem? (i := 0) rfl))) (mvT hZ (hw _ (List.mem_of_getElem? (i := 1) rfl))) (mvT hZ (hw _ (List.mem_of_getElem? (i := 2) rfl))) (mvT hZ (hw _ (List.mem_of_getElem? (i := 3) rfl))) (by decide) (backOf (W := 0) (own_rm1 l Z a0 hw [] p0 h0 n0 Z0 ) hZ (hw _ (List.mem_of_getElem? (i := 3) rfl)) (hw _ (List.mem_of_getElem? (i := 2) rfl)) (by decide) (by decide)) (g := (mkF m 44 #[.val (.int p0), .val (.int p1), .val (.int p2), .val (.int (p2 &&& (3 : Int32))), .val (.int p1), .unset, .unset, .unset] [(.int p0)])) rfl (by rw [hml]; rfl) (argsL := [(.int p0)]) (rest := []) (lenOf own_pd2 rfl) rfl (by show 2 * 0 + _ ≤ _; exact Nat.le_of_eq rfl) (hb hby at_44) (fun _ _ => ⟨rfl, e0, (by decide : 0 + 2 ≤ _), (by decide : 0 + 5 ≤ _)⟩)
        dsimp only [Pt.U, Pt.locs, Pt.cells, Pt.slots] at X82 l82 y82 z82 st82 hQ82
        subst l82 y82 z82
        obtain ⟨b1_82, b8_82, k8_82, rfl, N82q, K82, sqb1_82_82, sqb8_82_82, f83, f84, f85, f86, f87⟩ := hQ82
        have g_b1_82 : n0 ≤ b1_82 := Nat.le_trans Z0 sqb1_82_82
        have sz_b1_82 : h0.size ≤ b1_82 := Nat.le_trans (Nat.le_refl _) sqb1_82_82
        have g_b8_82 : n0 ≤ b8_82 := Nat.le_trans Z0 sqb8_82_82
        have sz_b8_82 : h0.size ≤ b8_82 := Nat.le_trans (Nat.le_refl _) sqb8_82_82
        have zs88 : n0 ≤ T82.heap.size := Nat.le_trans Z0 K82.1
        have K89 : Keep h0 h0 [] := Keep.refl h0 []
        have K90 : Keep h0 T82.heap [] := K89.trans K82 all0
        have N91 := Fr.app N0 N82q
        obtain ⟨cq92, kq92, q92a, q92b, q92c⟩ := isOf hZ rfl f83
        obtain ⟨_, _, ⟨T92, L92, k92, n92⟩, -, X92, ⟨Lc92, hQ92, l92, y92, z92⟩, st92⟩ := X82.virtualBack hx (y := (⟨"com/example/firm_query/firmquery/IRegexpParser$CharClass", "contains", "(I)Z"⟩ : MethodName)) (z := (⟨"com/example/firm_query/firmquery/IRegexpParser$CharClass", "contains", "(I)Z"⟩ : MethodName)) hown (mvT hZ (hw _ (List.mem_of_getElem? (i := 19) rfl))) (mvT hZ (hw _ (List.mem_of_getElem? (i := 20) rfl))) (notFace_of_selects (args := #[]) (mvT hZ (hw _ (List.mem_of_getElem? (i := 22) rfl)))) (mvT hZ (hw _ (List.mem_of_getElem? (i := 22) rfl))) (mvT hZ (hw _ (List.mem_of_getElem? (i := 21) rfl))) (by decide) (backOf (W := 0) (own_rm4 l Z a0 hw [] b1_82 p0 b8_82 k8_82 p0 p0 (nar .boolean (0 : Int32)) T82.heap n0 zs88 f86 f85 f87 f83 f84) hZ (hw _ (List.mem_of_getElem? (i := 23) rfl)) (hw _ (List.mem_of_getElem? (i := 2) rfl)) (by decide) (by decide)) q92a q92c (g := (mkF m 52 #[.val (.int p0), .val (.int p1), .val (.int p2), .val (.int (p2 &&& (3 : Int32))), .val (.int p1), .val (.ref b1_82), .unset, .unset] [(.int p0), (.ref b1_82)])) rfl (by rw [hml]; rfl) (Steps.refl _) (argsL := [(.int p0)]) (rest := []) (lenOf own_pd1 rfl) rfl (by show 2 * 0 + _ ≤ _; exact Nat.le_of_eq rfl) (hb hby at_52) (fun _ _ => ⟨rfl, rfl, (by decide : 2 + 0 ≤ _), (by decide : 5 + 0 ≤ _)⟩)
        dsimp only [Pt.U, Pt.locs, Pt.cells, Pt.slots] at X92 l92 y92 z92 st92 hQ92
        subst l92 y92 z92
        obtain ⟨rfl, N92q, e92⟩ := hQ92
        have N93 := Fr.app N91 N92q
        obtain ⟨cq94, kq94, q94a, q94b, q94c⟩ := isOf hZ e92 f83
        obtain ⟨_, _, ⟨T94, L94, k94, n94⟩, -, X94, ⟨Lc94, hQ94, l94, y94, z94⟩, st94⟩ := X92.virtualBack hx (y := (⟨"com/example/firm_query/firmquery/IRegexpParser$CharClass", "contains", "(I)Z"⟩ : MethodName)) (z := (⟨"com/example/firm_query/firmquery/IRegexpParser$CharClass", "contains", "(I)Z"⟩ : MethodName)) hown (mvT hZ (hw _ (List.mem_of_getElem? (i := 19) rfl))) (mvT hZ (hw _ (List.mem_of_getElem? (i := 20) rfl))) (notFace_of_selects (args := #[]) (mvT hZ (hw _ (List.mem_of_getElem? (i := 22) rfl)))) (mvT hZ (hw _ (List.mem_of_getElem? (i := 22) rfl))) (mvT hZ (hw _ (List.mem_of_getElem? (i := 21) rfl))) (by decide) (backOf (W := 0) (own_rm4 l Z a0 hw [] b1_82 p1 b8_82 k8_82 p0 p0 (nar .boolean (0 : Int32)) T82.heap n0 zs88 f86 f85 f87 f83 f84) hZ (hw _ (List.mem_of_getElem? (i := 23) rfl)) (hw _ (List.mem_of_getElem? (i := 2) rfl)) (by decide) (by decide)) q94a q94c (g := (mkF m 61 #[.val (.int p0), .val (.int p1), .val (.int p2), .val (.int (p2 &&& (3 : Int32))), .val (.int p1), .val (.ref b1_82), .val (.int (own_v0_55_0 p0)), .unset] [(.int p1), (.ref b1_82)])) rfl (by rw [hml]; rfl) (Steps.refl _) (argsL := [(.int p1)]) (rest := []) (lenOf own_pd1 rfl) rfl (by show 2 * 0 + _ ≤ _; exact Nat.le_of_eq rfl) (hb hby at_61) (fun _ _ => ⟨rfl, e92, (by decide : 2 + 0 ≤ _), (by decide : 5 + 0 ≤ _)⟩)
        dsimp only [Pt.U, Pt.locs, Pt.cells, Pt.slots] at X94 l94 y94 z94 st94 hQ94
        subst l94 y94 z94
        obtain ⟨rfl, N94q, e94⟩ := hQ94
        have N95 := Fr.app N93 N94q
        have pre96 : ∀ t, Steps p.tables e below (T94.setTop (mkF m 68 #[.val (.int p0), .val (.int p1), .val (.int p2), .val (.int (p2 &&& (3 : Int32))), .val (.int p1), .val (.ref b1_82), .val (.int (own_v0_55_0 p0)), .val (.int (own_v0_64_3 p0 p1))] [(.int (own_v0_55_0 p0))])) t → Steps p.tables e below (s₁.setTop (entryFrame m #[(.int p0), (.int p1), (.int p2)] maxLocals)) t := fun t k => pre53 t (by
            refine XS.icmpYes X0.here hx rfl (pc0 := 29) (pc' := 40) rfl (hb hby at_29) rfl (feq hc54).2 (by decide) (by decide) ?_
            show Steps p.tables e below (s₁.setTop (mkF m 40 #[.val (.int p0), .val (.int p1), .val (.int p2), .val (.int (p2 &&& (3 : Int32))), .unset, .unset, .unset, .unset] [])) _
            refine XS.iloadN X0.here hx rfl (hb hby at_40) rfl ?_
            show Steps p.tables e below (s₁.setTop (mkF m 41 #[.val (.int p0), .val (.int p1), .val (.int p2), .val (.int (p2 &&& (3 : Int32))), .unset, .unset, .unset, .unset] [(.int p1)])) _
            refine XS.istore X0.here hx rfl (hb hby at_41) rfl (l' := #[.val (.int p0), .val (.int p1), .val (.int p2), .val (.int (p2 &&& (3 : Int32))), .val (.int p1), .unset, .unset, .unset]) rfl ?_
            show Steps p.tables e below (s₁.setTop (mkF m 43 #[.val (.int p0), .val (.int p1), .val (.int p2), .val (.int (p2 &&& (3 : Int32))), .val (.int p1), .unset, .unset, .unset] [])) _
            refine XS.iloadN X0.here hx rfl (hb hby at_43) rfl ?_
            show Steps p.tables e below (s₁.setTop (mkF m 44 #[.val (.int p0), .val (.int p1), .val (.int p2), .val (.int (p2 &&& (3 : Int32))), .val (.int p1), .unset, .unset, .unset] [(.int p0)])) _
            refine st82 _ ?_
            show Steps p.tables e below (T82.setTop (mkF m 47 #[.val (.int p0), .val (.int p1), .val (.int p2), .val (.int (p2 &&& (3 : Int32))), .val (.int p1), .unset, .unset, .unset] [(.ref b1_82)])) _
            refine XS.astore X82.here hx rfl (hb hby at_47) rfl rfl (l' := #[.val (.int p0), .val (.int p1), .val (.int p2), .val (.int (p2 &&& (3 : Int32))), .val (.int p1), .val (.ref b1_82), .unset, .unset]) rfl ?_
            show Steps p.tables e below (T82.setTop (mkF m 49 #[.val (.int p0), .val (.int p1), .val (.int p2), .val (.int (p2 &&& (3 : Int32))), .val (.int p1), .val (.ref b1_82), .unset, .unset] [])) _
            refine XS.aload X82.here hx rfl (hb hby at_49) rfl rfl ?_
            show Steps p.tables e below (T82.setTop (mkF m 51 #[.val (.int p0), .val (.int p1), .val (.int p2), .val (.int (p2 &&& (3 : Int32))), .val (.int p1), .val (.ref b1_82), .unset, .unset] [(.ref b1_82)])) _
            refine XS.iloadN X82.here hx rfl (hb hby at_51) rfl ?_
            show Steps p.tables e below (T82.setTop (mkF m 52 #[.val (.int p0), .val (.int p1), .val (.int p2), .val (.int (p2 &&& (3 : Int32))), .val (.int p1), .val (.ref b1_82), .unset, .unset] [(.int p0), (.ref b1_82)])) _
            refine st92.trans ?_
            show Steps p.tables e below (T92.setTop (mkF m 55 #[.val (.int p0), .val (.int p1), .val (.int p2), .val (.int (p2 &&& (3 : Int32))), .val (.int p1), .val (.ref b1_82), .unset, .unset] [(.int (own_f4 p0 p0 p0 (nar .boolean (0 : Int32))))])) _
            refine XS.istore X92.here hx rfl (hb hby at_55) rfl (l' := #[.val (.int p0), .val (.int p1), .val (.int p2), .val (.int (p2 &&& (3 : Int32))), .val (.int p1), .val (.ref b1_82), .val (.int (own_v0_55_0 p0)), .unset]) rfl ?_
            show Steps p.tables e below (T92.setTop (mkF m 57 #[.val (.int p0), .val (.int p1), .val (.int p2), .val (.int (p2 &&& (3 : Int32))), .val (.int p1), .val (.ref b1_82), .val (.int (own_v0_55_0 p0)), .unset] [])) _
            refine XS.aload X92.here hx rfl (hb hby at_57) rfl rfl ?_
            show Steps p.tables e below (T92.setTop (mkF m 59 #[.val (.int p0), .val (.int p1), .val (.int p2), .val (.int (p2 &&& (3 : Int32))), .val (.int p1), .val (.ref b1_82), .val (.int (own_v0_55_0 p0)), .unset] [(.ref b1_82)])) _
            refine XS.iload X92.here hx rfl (hb hby at_59) rfl ?_
            show Steps p.tables e below (T92.setTop (mkF m 61 #[.val (.int p0), .val (.int p1), .val (.int p2), .val (.int (p2 &&& (3 : Int32))), .val (.int p1), .val (.ref b1_82), .val (.int (own_v0_55_0 p0)), .unset] [(.int p1), (.ref b1_82)])) _
            refine st94.trans ?_
            show Steps p.tables e below (T94.setTop (mkF m 64 #[.val (.int p0), .val (.int p1), .val (.int p2), .val (.int (p2 &&& (3 : Int32))), .val (.int p1), .val (.ref b1_82), .val (.int (own_v0_55_0 p0)), .unset] [(.int (own_f4 p1 p0 p0 (nar .boolean (0 : Int32))))])) _
            refine XS.istore X94.here hx rfl (hb hby at_64) rfl (l' := #[.val (.int p0), .val (.int p1), .val (.int p2), .val (.int (p2 &&& (3 : Int32))), .val (.int p1), .val (.ref b1_82), .val (.int (own_v0_55_0 p0)), .val (.int (own_v0_64_3 p0 p1))]) rfl ?_
            show Steps p.tables e below (T94.setTop (mkF m 66 #[.val (.int p0), .val (.int p1), .val (.int p2), .val (.int (p2 &&& (3 : Int32))), .val (.int p1), .val (.ref b1_82), .val (.int (own_v0_55_0 p0)), .val (.int (own_v0_64_3 p0 p1))] [])) _
            refine XS.iload X94.here hx rfl (hb hby at_66) rfl ?_
            show Steps p.tables e below (T94.setTop (mkF m 68 #[.val (.int p0), .val (.int p1), .val (.int p2), .val (.int (p2 &&& (3 : Int32))), .val (.int p1), .val (.ref b1_82), .val (.int (own_v0_55_0 p0)), .val (.int (own_v0_64_3 p0 p1))] [(.int (own_v0_55_0 p0))])) _
            exact k)
        by_cases hc97 : (own_v0_55_0 p0) = (0 : Int32)
        · have pre98 : ∀ t, Steps p.tables e below (T94.setTop (mkF m 92 #[.val (.int p0), .val (.int p1), .val (.int p2), .val (.int (p2 &&& (3 : Int32))), .val (.int p1), .val (.ref b1_82), .val (.int (own_v0_55_0 p0)), .val (.int (own_v0_64_3 p0 p1))] [(.int (0 : Int32))])) t → Steps p.tables e below (s₁.setTop (entryFrame m #[(.int p0), (.int p1), (.int p2)] maxLocals)) t := fun t k => pre96 t (by
              refine XS.ifYes X94.here hx rfl (pc0 := 68) (pc' := 91) rfl (hb hby at_68) rfl ((if0 _ _).trans (teq hc97).1) (by decide) (by decide) ?_
              show Steps p.tables e below (T94.setTop (mkF m 91 #[.val (.int p0), .val (.int p1), .val (.int p2), .val (.int (p2 &&& (3 : Int32))), .val (.int p1), .val (.ref b1_82), .val (.int (own_v0_55_0 p0)), .val (.int (own_v0_64_3 p0 p1))] [])) _
              refine XS.iconst X94.here hx rfl (hb hby at_91) ?_
              show Steps p.tables e below (T94.setTop (mkF m 92 #[.val (.int p0), .val (.int p1), .val (.int p2), .val (.int (p2 &&& (3 : Int32))), .val (.int p1), .val (.ref b1_82), .val (.int (own_v0_55_0 p0)), .val (.int (own_v0_64_3 p0 p1))] [(.int (0 : Int32))])) _
              exact k)
          obtain ⟨fs, hr, hrun, hended, hW, hsame⟩ := X94.leave (v := some (.int (0 : Int32))) (fun h => by rw [Bd.returns] at h; cases h) (hlocks := hlk)
          refine ⟨_, _, pre98 _ ?_, hrun, hended, _, _, rfl, ?_, ⟨_, rfl⟩, hW, hsame.mono (by decide) (by decide)⟩
          · show Steps p.tables e below (T94.setTop (mkF m 92 #[.val (.int p0), .val (.int p1), .val (.int p2), .val (.int (p2 &&& (3 : Int32))), .val (.int p1), .val (.ref b1_82), .val (.int (own_v0_55_0 p0)), .val (.int (own_v0_64_3 p0 p1))] [(.int (0 : Int32))])) _
            exact retN X94 hx (t := .boolean) Bd.returns (by simp) (hb hby at_92) hr
          · show own_Q0 Z p0 p1 p2 h0 n0 _ T94.heap _; exact ⟨(by show some (Value.int _) = some (.int (own_f0 p0 p1 p2)); unfold own_f0; rw [if_neg hc2, if_neg hc25, if_neg hc54, if_pos hc97]), N95⟩
        · have pre99 : ∀ t, Steps p.tables e below (T94.setTop (mkF m 76 #[.val (.int p0), .val (.int p1), .val (.int p2), .val (.int (p2 &&& (3 : Int32))), .val (.int p1), .val (.ref b1_82), .val (.int (own_v0_55_0 p0)), .val (.int (own_v0_64_3 p0 p1))] [(.int p0), (.int p1), (.int (own_v0_64_3 p0 p1))])) t → Steps p.tables e below (s₁.setTop (entryFrame m #[(.int p0), (.int p1), (.int p2)] maxLocals)) t := fun t k => pre96 t (by
              refine XS.ifNo X94.here hx rfl (hb hby at_68) rfl ((if0 _ _).trans (feq hc97).1) ?_
              show Steps p.tables e below (T94.setTop (mkF m 71 #[.val (.int p0), .val (.int p1), .val (.int p2), .val (.int (p2 &&& (3 : Int32))), .val (.int p1), .val (.ref b1_82), .val (.int (own_v0_55_0 p0)), .val (.int (own_v0_64_3 p0 p1))] [])) _
              refine XS.iload X94.here hx rfl (hb hby at_71) rfl ?_
              show Steps p.tables e below (T94.setTop (mkF m 73 #[.val (.int p0), .val (.int p1), .val (.int p2), .val (.int (p2 &&& (3 : Int32))), .val (.int p1), .val (.ref b1_82), .val (.int (own_v0_55_0 p0)), .val (.int (own_v0_64_3 p0 p1))] [(.int (own_v0_64_3 p0 p1))])) _
              refine XS.iload X94.here hx rfl (hb hby at_73) rfl ?_
              show Steps p.tables e below (T94.setTop (mkF m 75 #[.val (.int p0), .val (.int p1), .val (.int p2), .val (.int (p2 &&& (3 : Int32))), .val (.int p1), .val (.ref b1_82), .val (.int (own_v0_55_0 p0)), .val (.int (own_v0_64_3 p0 p1))] [(.int p1), (.int (own_v0_64_3 p0 p1))])) _
              refine XS.iloadN X94.here hx rfl (hb hby at_75) rfl ?_
              show Steps p.tables e below (T94.setTop (mkF m 76 #[.val (.int p0), .val (.int p1), .val (.int p2), .val (.int (p2 &&& (3 : Int32))), .val (.int p1), .val (.ref b1_82), .val (.int (own_v0_55_0 p0)), .val (.int (own_v0_64_3 p0 p1))] [(.int p0), (.int p1), (.int (own_v0_64_3 p0 p1))])) _
              exact k)
          by_cases hc100 : p1 = p0
          · have pre101 : ∀ t, Steps p.tables e below (T94.setTop (mkF m 84 #[.val (.int p0), .val (.int p1), .val (.int p2), .val (.int (p2 &&& (3 : Int32))), .val (.int p1), .val (.ref b1_82), .val (.int (own_v0_55_0 p0)), .val (.int (own_v0_64_3 p0 p1))] [(.int (1 : Int32)), (.int (own_v0_64_3 p0 p1))])) t → Steps p.tables e below (s₁.setTop (entryFrame m #[(.int p0), (.int p1), (.int p2)] maxLocals)) t := fun t k => pre99 t (by
                refine XS.icmpNo X94.here hx rfl (hb hby at_76) rfl (teq hc100).2 ?_
                show Steps p.tables e below (T94.setTop (mkF m 79 #[.val (.int p0), .val (.int p1), .val (.int p2), .val (.int (p2 &&& (3 : Int32))), .val (.int p1), .val (.ref b1_82), .val (.int (own_v0_55_0 p0)), .val (.int (own_v0_64_3 p0 p1))] [(.int (own_v0_64_3 p0 p1))])) _
                refine XS.iconst X94.here hx rfl (hb hby at_79) ?_
                show Steps p.tables e below (T94.setTop (mkF m 80 #[.val (.int p0), .val (.int p1), .val (.int p2), .val (.int (p2 &&& (3 : Int32))), .val (.int p1), .val (.ref b1_82), .val (.int (own_v0_55_0 p0)), .val (.int (own_v0_64_3 p0 p1))] [(.int (1 : Int32)), (.int (own_v0_64_3 p0 p1))])) _
                refine XS.goto X94.here hx rfl (pc0 := 80) (pc' := 84) rfl (hb hby at_80) (by decide) (by decide) ?_
                show Steps p.tables e below (T94.setTop (mkF m 84 #[.val (.int p0), .val (.int p1), .val (.int p2), .val (.int (p2 &&& (3 : Int32))), .val (.int p1), .val (.ref b1_82), .val (.int (own_v0_55_0 p0)), .val (.int (own_v0_64_3 p0 p1))] [(.int (1 : Int32)), (.int (own_v0_64_3 p0 p1))])) _
                exact k)
            by_cases hc102 : (own_v0_64_3 p0 p1) = (1 : Int32)
            · have pre103 : ∀ t, Steps p.tables e below (T94.setTop (mkF m 92 #[.val (.int p0), .val (.int p1), .val (.int p2), .val (.int (p2 &&& (3 : Int32))), .val (.int p1), .val (.ref b1_82), .val (.int (own_v0_55_0 p0)), .val (.int (own_v0_64_3 p0 p1))] [(.int (1 : Int32))])) t → Steps p.tables e below (s₁.setTop (entryFrame m #[(.int p0), (.int p1), (.int p2)] maxLocals)) t := fun t k => pre101 t (by
                  refine XS.icmpNo X94.here hx rfl (hb hby at_84) rfl (teq hc102).2 ?_
                  show Steps p.tables e below (T94.setTop (mkF m 87 #[.val (.int p0), .val (.int p1), .val (.int p2), .val (.int (p2 &&& (3 : Int32))), .val (.int p1), .val (.ref b1_82), .val (.int (own_v0_55_0 p0)), .val (.int (own_v0_64_3 p0 p1))] [])) _
                  refine XS.iconst X94.here hx rfl (hb hby at_87) ?_
                  show Steps p.tables e below (T94.setTop (mkF m 88 #[.val (.int p0), .val (.int p1), .val (.int p2), .val (.int (p2 &&& (3 : Int32))), .val (.int p1), .val (.ref b1_82), .val (.int (own_v0_55_0 p0)), .val (.int (own_v0_64_3 p0 p1))] [(.int (1 : Int32))])) _
                  refine XS.goto X94.here hx rfl (pc0 := 88) (pc' := 92) rfl (hb hby at_88) (by decide) (by decide) ?_
                  show Steps p.tables e below (T94.setTop (mkF m 92 #[.val (.int p0), .val (.int p1), .val (.int p2), .val (.int (p2 &&& (3 : Int32))), .val (.int p1), .val (.ref b1_82), .val (.int (own_v0_55_0 p0)), .val (.int (own_v0_64_3 p0 p1))] [(.int (1 : Int32))])) _
                  exact k)
              obtain ⟨fs, hr, hrun, hended, hW, hsame⟩ := X94.leave (v := some (.int (1 : Int32))) (fun h => by rw [Bd.returns] at h; cases h) (hlocks := hlk)
              refine ⟨_, _, pre103 _ ?_, hrun, hended, _, _, rfl, ?_, ⟨_, rfl⟩, hW, hsame.mono (by decide) (by decide)⟩
              · show Steps p.tables e below (T94.setTop (mkF m 92 #[.val (.int p0), .val (.int p1), .val (.int p2), .val (.int (p2 &&& (3 : Int32))), .val (.int p1), .val (.ref b1_82), .val (.int (own_v0_55_0 p0)), .val (.int (own_v0_64_3 p0 p1))] [(.int (1 : Int32))])) _
                exact retN X94 hx (t := .boolean) Bd.returns (by simp) (hb hby at_92) hr
              · show own_Q0 Z p0 p1 p2 h0 n0 _ T94.heap _; exact ⟨(by show some (Value.int _) = some (.int (own_f0 p0 p1 p2)); unfold own_f0; rw [if_neg hc2, if_neg hc25, if_neg hc54, if_neg hc97, if_pos hc100, if_pos hc102]), N95⟩
            · have pre104 : ∀ t, Steps p.tables e below (T94.setTop (mkF m 92 #[.val (.int p0), .val (.int p1), .val (.int p2), .val (.int (p2 &&& (3 : Int32))), .val (.int p1), .val (.ref b1_82), .val (.int (own_v0_55_0 p0)), .val (.int (own_v0_64_3 p0 p1))] [(.int (0 : Int32))])) t → Steps p.tables e below (s₁.setTop (entryFrame m #[(.int p0), (.int p1), (.int p2)] maxLocals)) t := fun t k => pre101 t (by
                  refine XS.icmpYes X94.here hx rfl (pc0 := 84) (pc' := 91) rfl (hb hby at_84) rfl (feq hc102).2 (by decide) (by decide) ?_
                  show Steps p.tables e below (T94.setTop (mkF m 91 #[.val (.int p0), .val (.int p1), .val (.int p2), .val (.int (p2 &&& (3 : Int32))), .val (.int p1), .val (.ref b1_82), .val (.int (own_v0_55_0 p0)), .val (.int (own_v0_64_3 p0 p1))] [])) _
                  refine XS.iconst X94.here hx rfl (hb hby at_91) ?_
                  show Steps p.tables e below (T94.setTop (mkF m 92 #[.val (.int p0), .val (.int p1), .val (.int p2), .val (.int (p2 &&& (3 : Int32))), .val (.int p1), .val (.ref b1_82), .val (.int (own_v0_55_0 p0)), .val (.int (own_v0_64_3 p0 p1))] [(.int (0 : Int32))])) _
                  exact k)
              obtain ⟨fs, hr, hrun, hended, hW, hsame⟩ := X94.leave (v := some (.int (0 : Int32))) (fun h => by rw [Bd.returns] at h; cases h) (hlocks := hlk)
              refine ⟨_, _, pre104 _ ?_, hrun, hended, _, _, rfl, ?_, ⟨_, rfl⟩, hW, hsame.mono (by decide) (by decide)⟩
              · show Steps p.tables e below (T94.setTop (mkF m 92 #[.val (.int p0), .val (.int p1), .val (.int p2), .val (.int (p2 &&& (3 : Int32))), .val (.int p1), .val (.ref b1_82), .val (.int (own_v0_55_0 p0)), .val (.int (own_v0_64_3 p0 p1))] [(.int (0 : Int32))])) _
                exact retN X94 hx (t := .boolean) Bd.returns (by simp) (hb hby at_92) hr
              · show own_Q0 Z p0 p1 p2 h0 n0 _ T94.heap _; exact ⟨(by show some (Value.int _) = some (.int (own_f0 p0 p1 p2)); unfold own_f0; rw [if_neg hc2, if_neg hc25, if_neg hc54, if_neg hc97, if_pos hc100, if_neg hc102]), N95⟩
          · have pre105 : ∀ t, Steps p.tables e below (T94.setTop (mkF m 84 #[.val (.int p0), .val (.int p1), .val (.int p2), .val (.int (p2 &&& (3 : Int32))), .val (.int p1), .val (.ref b1_82), .val (.int (own_v0_55_0 p0)), .val (.int (own_v0_64_3 p0 p1))] [(.int (0 : Int32)), (.int (own_v0_64_3 p0 p1))])) t → Steps p.tables e below (s₁.setTop (entryFrame m #[(.int p0), (.int p1), (.int p2)] maxLocals)) t := fun t k => pre99 t (by
                refine XS.icmpYes X94.here hx rfl (pc0 := 76) (pc' := 83) rfl (hb hby at_76) rfl (feq hc100).2 (by decide) (by decide) ?_
                show Steps p.tables e below (T94.setTop (mkF m 83 #[.val (.int p0), .val (.int p1), .val (.int p2), .val (.int (p2 &&& (3 : Int32))), .val (.int p1), .val (.ref b1_82), .val (.int (own_v0_55_0 p0)), .val (.int (own_v0_64_3 p0 p1))] [(.int (own_v0_64_3 p0 p1))])) _
                refine XS.iconst X94.here hx rfl (hb hby at_83) ?_
                show Steps p.tables e below (T94.setTop (mkF m 84 #[.val (.int p0), .val (.int p1), .val (.int p2), .val (.int (p2 &&& (3 : Int32))), .val (.int p1), .val (.ref b1_82), .val (.int (own_v0_55_0 p0)), .val (.int (own_v0_64_3 p0 p1))] [(.int (0 : Int32)), (.int (own_v0_64_3 p0 p1))])) _
                exact k)
            by_cases hc106 : (own_v0_64_3 p0 p1) = (0 : Int32)
            · have pre107 : ∀ t, Steps p.tables e below (T94.setTop (mkF m 92 #[.val (.int p0), .val (.int p1), .val (.int p2), .val (.int (p2 &&& (3 : Int32))), .val (.int p1), .val (.ref b1_82), .val (.int (own_v0_55_0 p0)), .val (.int (own_v0_64_3 p0 p1))] [(.int (1 : Int32))])) t → Steps p.tables e below (s₁.setTop (entryFrame m #[(.int p0), (.int p1), (.int p2)] maxLocals)) t := fun t k => pre105 t (by
                  refine XS.icmpNo X94.here hx rfl (hb hby at_84) rfl (teq hc106).2 ?_
                  show Steps p.tables e below (T94.setTop (mkF m 87 #[.val (.int p0), .val (.int p1), .val (.int p2), .val (.int (p2 &&& (3 : Int32))), .val (.int p1), .val (.ref b1_82), .val (.int (own_v0_55_0 p0)), .val (.int (own_v0_64_3 p0 p1))] [])) _
                  refine XS.iconst X94.here hx rfl (hb hby at_87) ?_
                  show Steps p.tables e below (T94.setTop (mkF m 88 #[.val (.int p0), .val (.int p1), .val (.int p2), .val (.int (p2 &&& (3 : Int32))), .val (.int p1), .val (.ref b1_82), .val (.int (own_v0_55_0 p0)), .val (.int (own_v0_64_3 p0 p1))] [(.int (1 : Int32))])) _
                  refine XS.goto X94.here hx rfl (pc0 := 88) (pc' := 92) rfl (hb hby at_88) (by decide) (by decide) ?_
                  show Steps p.tables e below (T94.setTop (mkF m 92 #[.val (.int p0), .val (.int p1), .val (.int p2), .val (.int (p2 &&& (3 : Int32))), .val (.int p1), .val (.ref b1_82), .val (.int (own_v0_55_0 p0)), .val (.int (own_v0_64_3 p0 p1))] [(.int (1 : Int32))])) _
                  exact k)
              obtain ⟨fs, hr, hrun, hended, hW, hsame⟩ := X94.leave (v := some (.int (1 : Int32))) (fun h => by rw [Bd.returns] at h; cases h) (hlocks := hlk)
              refine ⟨_, _, pre107 _ ?_, hrun, hended, _, _, rfl, ?_, ⟨_, rfl⟩, hW, hsame.mono (by decide) (by decide)⟩
              · show Steps p.tables e below (T94.setTop (mkF m 92 #[.val (.int p0), .val (.int p1), .val (.int p2), .val (.int (p2 &&& (3 : Int32))), .val (.int p1), .val (.ref b1_82), .val (.int (own_v0_55_0 p0)), .val (.int (own_v0_64_3 p0 p1))] [(.int (1 : Int32))])) _
                exact retN X94 hx (t := .boolean) Bd.returns (by simp) (hb hby at_92) hr
              · show own_Q0 Z p0 p1 p2 h0 n0 _ T94.heap _; exact ⟨(by show some (Value.int _) = some (.int (own_f0 p0 p1 p2)); unfold own_f0; rw [if_neg hc2, if_neg hc25, if_neg hc54, if_neg hc97, if_neg hc100, if_pos hc106]), N95⟩
            · have pre108 : ∀ t, Steps p.tables e below (T94.setTop (mkF m 92 #[.val (.int p0), .val (.int p1), .val (.int p2), .val (.int (p2 &&& (3 : Int32))), .val (.int p1), .val (.ref b1_82), .val (.int (own_v0_55_0 p0)), .val (.int (own_v0_64_3 p0 p1))] [(.int (0 : Int32))])) t → Steps p.tables e below (s₁.setTop (entryFrame m #[(.int p0), (.int p1), (.int p2)] maxLocals)) t := fun t k => pre105 t (by
                  refine XS.icmpYes X94.here hx rfl (pc0 := 84) (pc' := 91) rfl (hb hby at_84) rfl (feq hc106).2 (by decide) (by decide) ?_
                  show Steps p.tables e below (T94.setTop (mkF m 91 #[.val (.int p0), .val (.int p1), .val (.int p2), .val (.int (p2 &&& (3 : Int32))), .val (.int p1), .val (.ref b1_82), .val (.int (own_v0_55_0 p0)), .val (.int (own_v0_64_3 p0 p1))] [])) _
                  refine XS.iconst X94.here hx rfl (hb hby at_91) ?_
                  show Steps p.tables e below (T94.setTop (mkF m 92 #[.val (.int p0), .val (.int p1), .val (.int p2), .val (.int (p2 &&& (3 : Int32))), .val (.int p1), .val (.ref b1_82), .val (.int (own_v0_55_0 p0)), .val (.int (own_v0_64_3 p0 p1))] [(.int (0 : Int32))])) _
                  exact k)
              obtain ⟨fs, hr, hrun, hended, hW, hsame⟩ := X94.leave (v := some (.int (0 : Int32))) (fun h => by rw [Bd.returns] at h; cases h) (hlocks := hlk)
              refine ⟨_, _, pre108 _ ?_, hrun, hended, _, _, rfl, ?_, ⟨_, rfl⟩, hW, hsame.mono (by decide) (by decide)⟩
              · show Steps p.tables e below (T94.setTop (mkF m 92 #[.val (.int p0), .val (.int p1), .val (.int p2), .val (.int (p2 &&& (3 : Int32))), .val (.int p1), .val (.ref b1_82), .val (.int (own_v0_55_0 p0)), .val (.int (own_v0_64_3 p0 p1))] [(.int (0 : Int32))])) _
                exact retN X94 hx (t := .boolean) Bd.returns (by simp) (hb hby at_92) hr
              · show own_Q0 Z p0 p1 p2 h0 n0 _ T94.heap _; exact ⟨(by show some (Value.int _) = some (.int (own_f0 p0 p1 p2)); unfold own_f0; rw [if_neg hc2, if_neg hc25, if_neg hc54, if_neg hc97, if_neg hc100, if_neg hc106]), N95⟩
theorem own_e32 {a b : Int32} : a = b ↔ a.toInt = b.toInt := Int32.toInt_inj.symm
theorem own_e64 {a b : Int64} : a = b ↔ a.toInt = b.toInt := Int64.toInt_inj.symm
theorem own_has (c d : Int32) : own_f4 d c c (nar .boolean (0 : Int32)) = (if d = c then (1 : Int32) else (0 : Int32)) := by
  have e : nar .boolean (0 : Int32) = (0 : Int32) := by decide
  rw [e]
  unfold own_f4 own_f5
  by_cases h : d = c
  · subst h
    have : ¬ d < d := by rw [Int32.lt_iff_toInt_lt]; omega
    rw [if_neg this, if_neg this, if_pos rfl, if_pos (rfl : d = d)]; decide
  · rw [if_neg h]
    have : d < c ∨ c < d := by
      rw [own_e32] at h
      rw [Int32.lt_iff_toInt_lt, Int32.lt_iff_toInt_lt]; omega
    by_cases q2 : d < c
    · rw [if_pos q2]; decide
    · rw [if_neg q2, if_pos (this.resolve_left q2)]; decide
theorem own_leg (c d : Int32) : (if (own_f4 c c c (nar .boolean (0 : Int32))) = (0 : Int32) then (0 : Int32) else (if d = c then (if (own_f4 d c c (nar .boolean (0 : Int32))) = (1 : Int32) then (1 : Int32) else (0 : Int32)) else (if (own_f4 d c c (nar .boolean (0 : Int32))) = (0 : Int32) then (1 : Int32) else (0 : Int32)))) = 1 := by
  rw [own_has c c, own_has c d, if_pos (rfl : c = c), if_neg (by decide)]
  by_cases h : d = c
  · rw [if_pos h, if_pos h, if_pos rfl]
  · rw [if_neg h, if_neg h, if_pos rfl]
theorem own_plain (p0 p1 p2 : Int32) : own_f0 p0 p1 p2 = 1 := by
  unfold own_f0
  by_cases c1 : (p2 &&& (3 : Int32)) = (0 : Int32)
  · rw [if_pos c1]
    have e : own_v0_55_0 p0 = 1 := by
      show own_f4 p0 p0 p0 (nar .boolean (0 : Int32)) = 1
      rw [own_has, if_pos rfl]
    rw [e]; decide
  · rw [if_neg c1]
    by_cases c2 : (p2 &&& (3 : Int32)) = (1 : Int32)
    · rw [if_pos c2]; exact own_leg p0 (p0 + (1 : Int32))
    · rw [if_neg c2]
      by_cases c3 : (p2 &&& (3 : Int32)) = (2 : Int32)
      · rw [if_pos c3]; exact own_leg p0 (p0 - (1 : Int32))
      · rw [if_neg c3]; exact own_leg p0 p1
set_option maxRecDepth 65536 in
set_option maxHeartbeats 40000000 in
theorem comes_1 {Post : Tables → Env → Array Value → State → Outcome → State → Prop} (hpost : ∀ tb e args s v u, (limb_1_1.after args s (.returned v) u = true ∧ limb_1_2.after args s (.returned v) u = true ∧ True) → FrameEnd s (.returned v) u (Jvm.fieldLocs frame_1_writes args s ++ Jvm.arrayLocs frame_1_arrays args s ++ Jvm.staticLocs frame_1_statics s) 16 128 → Post tb e args s (.returned v) u) :
    ArmFor flags0 classFile x code maxLocals ret World_1 tables_1 room_1 Calls_1 rest_1 Pre_1 Post := by
  intro l hfl _ _ p e ha hc hk s m args below hf hA hF happ hP
  obtain ⟨hcalls, hrest, hpre⟩ := hP
  obtain ⟨-, -, -, hnamed, -, -, -, hat⟩ := (Spec.applies_iff hf).mp happ
  obtain ⟨hg, hn⟩ := and_e (Cond.before_iff.mp (show (Jvm.Cond.and given_1 narrow_1).before args s = true from hpre))
  obtain ⟨gc, gr0⟩ := and_e hg
  obtain ⟨ga0, gr1⟩ := and_e gr0
  obtain ⟨ga1, gr2⟩ := and_e gr1
  have ga2 := gr2
  obtain ⟨w0, w1, w2, rfl⟩ : ∃ w0 w1 w2 : Value, args = #[w0, w1, w2] := by
    have hs : args.size = 3 := by simpa [Cond.value, given_1] using gc
    obtain ⟨L⟩ := args
    match L, hs with
    | [w0, w1, w2], _ => exact ⟨w0, w1, w2, rfl⟩
  have hw := fun d (hd : d ∈ tables_1) => atoms_spec (ws := Jvm.Cond.code x code maxLocals ret :: tables_1) hat d (List.mem_cons_of_mem _ hd)
  obtain ⟨i0, ei0⟩ := is_v ga0
  obtain rfl : w0 = (.int i0) := Option.some.inj ei0
  obtain ⟨i1, ei1⟩ := is_v ga1
  obtain rfl : w1 = (.int i1) := Option.some.inj ei1
  obtain ⟨i2, ei2⟩ := is_v ga2
  obtain rfl : w2 = (.int i2) := Option.some.inj ei2
  obtain ⟨n, o, h1, h2, h3, _, L, rfl, ⟨hv, N⟩, hq⟩ := own_rm0 l s _ hw tables_1 i0 i1 i2 s.heap s.heap.size (Nat.le_refl _) p e ha hc hk s m _ below hf ((Spec.applies_iff_loose hf).mp happ).1 ⟨rfl, State.Warmed39.refl s, rfl⟩ trivial
  rw [show (own_f0 i0 i1 i2) = (1 : Int32) from own_plain i0 i1 i2] at hv
  subst hv
  refine ⟨n, _, h1, h2, h3, hpost _ _ _ _ _ _ ⟨Cond.after_iff.mpr rfl, Cond.after_iff.mpr (eq_i res_at (Term.int_eval (1)) rfl), trivial⟩ ⟨hq.1, hq.2.1, (hq.2.2.sift fun y hy => Or.inr (N y hy)).mono (by decide) (by decide)⟩⟩
theorem main_1_1 : Claimed_1_1 := comes_1 fun _ _ _ _ _ _ h hF => ⟨h.1, hF⟩
theorem main_1_2 : Claimed_1_2 := comes_1 fun _ _ _ _ _ _ h hF => ⟨h.2.1, hF⟩
end Jvm.Pilot.@@N@@
namespace Jvm.Pilot.@@N@@
open Jvm Jvm.ClassFile Sem Op Lib Jvm.Free Jvm.Stand Jvm.Pilot.@@N@@.Jvm.D
/-! MADE BY PROGRAM (witnessworld.py) out of the Statement's table words and the real class files: 9 classes; the members and pool entries that the words name. The judged class is class 1, her method 1. -/
namespace start1
open Jvm.ClassFile
def u (s : String) : CpInfo := .utf8 (stringToUtf16 s)
/-- a pool by its gaps: so many unusable entries, then the entry; so many at the end -/
def gap : Nat → List CpInfo → List CpInfo
  | 0, r => r
  | n + 1, r => .unusable :: gap n r
def poolList (es : List (Nat × CpInfo)) (last : Nat) : List CpInfo := es.foldr (fun e r => gap e.1 (e.2 :: r)) (gap last [])
def pool (es : List (Nat × CpInfo)) (last : Nat) : Array CpInfo := ⟨poolList es last⟩
def fileOf (pool : Array CpInfo) (this : Nat) (attrs : Array Attribute := #[]) (ms : Array MethodInfo := #[]) (fl : Nat := 33) (sup : Nat := 0) (ifs : Array Nat := #[]) (fds : Array FieldInfo := #[]) : ClassFile where
  minorVersion := 0
  majorVersion := 65
  constantPool := pool
  accessFlags := fl
  thisClass := this
  superClass := sup
  interfaces := ifs
  fields := fds
  methods := ms
  attributes := attrs
def plain (name : String) (sup : Option ClassId) : Class where
  name := name
  kind := .ordinary
  loader := none
  accessFlags := 33
  super := sup
  interfaces := #[]
  cf := none
  fields := #[]
  methods := #[]
  instanceTypes := #[]
  staticTypes := #[]
  resolved := #[]
  callSites := []
  init := .initialized
  statics := none
  mirror := none

def pool0 : Array CpInfo := pool [(5, u "<init>"), (0, u "()V"), (1, .class_ 10), (1, u "java/lang/Object")] 113

def k0c0 : Code := { maxStack := 0, maxLocals := 1, code := object_method_1_code, exceptionTable := #[], attributes := #[] }
def k0m0 : Method := { name := "<init>", desc := "()V", sig := { parameters := [], returnType := none }, accessFlags := 1, code := some k0c0 }
/-- java/lang/Object -/
def k0 : Class := { plain "java/lang/Object" none with
  accessFlags := 33
  interfaces := #[]
  cf := some (fileOf pool0 8 #[] #[{ accessFlags := 1, nameIndex := 5, descriptorIndex := 6, attributes := #[] }] 33 0 #[] #[])
  fields := #[]
  methods := #[k0m0]
  instanceTypes := #[]
  staticTypes := #[]
  resolved := Array.replicate 124 none
  statics := none }

def pool1 : Array CpInfo := pool [(2, .class_ 4), (1, u "java/lang/Object"), (0, u "<init>"), (0, u "()V"), (0, .methodref 8 9), (0, .class_ 10), (0, .nameAndType 11 12), (0, u "com/example/firm_query/firmquery/IRegexpParser$CharClass"), (0, u "of"), (0, u "(I)Lcom/example/firm_query/firmquery/IRegexpParser$CharClass;"), (0, .methodref 8 14), (0, .nameAndType 15 16), (0, u "contains"), (0, u "(I)Z"), (0, .class_ 18), (0, u "com/example/firm_query/firmquery/CharClassOfPinLaw"), (2, u "law"), (0, u "(III)Z")] 7

def k1m0 : Method := { name := "<init>", desc := "()V", sig := { parameters := [], returnType := none }, accessFlags := 2, code := none }
def k1c1 : Code := { maxStack := 3, maxLocals := 8, code := code, exceptionTable := #[], attributes := #[] }
def k1m1 : Method := { name := "law", desc := "(III)Z", sig := { parameters := [.int, .int, .int], returnType := some .boolean }, accessFlags := 9, code := some k1c1 }
/-- com/example/firm_query/firmquery/CharClassOfPinLaw -/
def k1 : Class := { plain "com/example/firm_query/firmquery/CharClassOfPinLaw" (some 0) with
  accessFlags := 49
  interfaces := #[]
  cf := some (fileOf pool1 17 #[] #[{ accessFlags := 2, nameIndex := 5, descriptorIndex := 6, attributes := #[] }, { accessFlags := 9, nameIndex := 21, descriptorIndex := 22, attributes := #[] }] 49 2 #[] #[])
  fields := #[]
  methods := #[k1m0, k1m1]
  instanceTypes := #[]
  staticTypes := #[]
  resolved := Array.replicate 30 none
  statics := none }

def pool2 : Array CpInfo := pool [(1, .methodref 2 3), (0, .class_ 4), (0, .nameAndType 5 6), (0, u "java/lang/Object"), (0, u "<init>"), (0, u "()V"), (0, .fieldref 8 9), (0, .class_ 10), (0, .nameAndType 11 12), (0, u "com/example/firm_query/firmquery/IRegexpParser$CharClass"), (0, u "negated"), (0, u "Z"), (0, .fieldref 8 14), (0, .nameAndType 15 16), (0, u "ranges"), (0, u "[I"), (0, .fieldref 8 18), (0, .nameAndType 19 20), (0, u "categories"), (0, u "I"), (0, .methodref 8 22), (0, .nameAndType 5 23), (0, u "(Z[II)V"), (0, .methodref 8 25), (0, .nameAndType 26 27), (0, u "inRanges"), (0, u "(I)Z"), (8, u "NOT_LINE_BREAK"), (0, u "Lcom/example/firm_query/firmquery/IRegexpParser$CharClass;"), (2, u "of"), (0, u "(I)Lcom/example/firm_query/firmquery/IRegexpParser$CharClass;"), (0, u "contains"), (5, .class_ 49), (0, u "com/example/firm_query/firmquery/IRegexpParser")] 2

def k2c0 : Code := { maxStack := 2, maxLocals := 4, code := prog_13_method_1_code, exceptionTable := #[], attributes := #[] }
def k2m0 : Method := { name := "<init>", desc := "(Z[II)V", sig := { parameters := [.boolean, (.array .int), .int], returnType := none }, accessFlags := 0, code := some k2c0 }
def k2c1 : Code := { maxStack := 7, maxLocals := 1, code := prog_13_method_2_code, exceptionTable := #[], attributes := #[] }
def k2m1 : Method := { name := "of", desc := "(I)Lcom/example/firm_query/firmquery/IRegexpParser$CharClass;", sig := { parameters := [.int], returnType := some (.object "com/example/firm_query/firmquery/IRegexpParser$CharClass") }, accessFlags := 8, code := some k2c1 }
def k2c2 : Code := { maxStack := 2, maxLocals := 3, code := prog_13_method_3_code, exceptionTable := #[], attributes := #[] }
def k2m2 : Method := { name := "contains", desc := "(I)Z", sig := { parameters := [.int], returnType := some .boolean }, accessFlags := 0, code := some k2c2 }
def k2c3 : Code := { maxStack := 4, maxLocals := 5, code := prog_13_method_4_code, exceptionTable := #[], attributes := #[] }
def k2m3 : Method := { name := "inRanges", desc := "(I)Z", sig := { parameters := [.int], returnType := some .boolean }, accessFlags := 2, code := some k2c3 }
/-- com/example/firm_query/firmquery/IRegexpParser$CharClass -/
def k2 : Class := { plain "com/example/firm_query/firmquery/IRegexpParser$CharClass" (some 0) with
  accessFlags := 48
  interfaces := #[]
  cf := some (fileOf pool2 8 #[.nestHost 48] #[{ accessFlags := 0, nameIndex := 5, descriptorIndex := 23, attributes := #[] }, { accessFlags := 8, nameIndex := 40, descriptorIndex := 41, attributes := #[] }, { accessFlags := 0, nameIndex := 42, descriptorIndex := 27, attributes := #[] }, { accessFlags := 2, nameIndex := 26, descriptorIndex := 27, attributes := #[] }] 48 2 #[] #[{ accessFlags := 24, nameIndex := 36, descriptorIndex := 37, attributes := #[] }, { accessFlags := 18, nameIndex := 11, descriptorIndex := 12, attributes := #[] }, { accessFlags := 18, nameIndex := 15, descriptorIndex := 16, attributes := #[] }, { accessFlags := 18, nameIndex := 19, descriptorIndex := 20, attributes := #[] }])
  fields := #[{ name := "NOT_LINE_BREAK", type := (.object "com/example/firm_query/firmquery/IRegexpParser$CharClass"), accessFlags := 24, slot := 0, constantValue := 0 }, { name := "negated", type := .boolean, accessFlags := 18, slot := 0, constantValue := 0 }, { name := "ranges", type := (.array .int), accessFlags := 18, slot := 1, constantValue := 0 }, { name := "categories", type := .int, accessFlags := 18, slot := 2, constantValue := 0 }]
  methods := #[k2m0, k2m1, k2m2, k2m3]
  instanceTypes := #[.boolean, (.array .int), .int]
  staticTypes := #[(.object "com/example/firm_query/firmquery/IRegexpParser$CharClass")]
  resolved := Array.replicate 52 none
  statics := none }

def pool3 : Array CpInfo := pool [(1, u "java/lang/Cloneable"), (0, .class_ 1), (0, u "java/lang/Object"), (0, .class_ 3)] 3

/-- java/lang/Cloneable -/
def k3 : Class := { plain "java/lang/Cloneable" (some 0) with
  accessFlags := 1537
  interfaces := #[]
  cf := some (fileOf pool3 2 #[] #[] 1537 4 #[] #[])
  fields := #[]
  methods := #[]
  instanceTypes := #[]
  staticTypes := #[]
  resolved := Array.replicate 8 none
  statics := none }

def pool4 : Array CpInfo := pool [(1, u "java/io/Serializable"), (0, .class_ 1), (0, u "java/lang/Object"), (0, .class_ 3)] 3

/-- java/io/Serializable -/
def k4 : Class := { plain "java/io/Serializable" (some 0) with
  accessFlags := 1537
  interfaces := #[]
  cf := some (fileOf pool4 2 #[] #[] 1537 4 #[] #[])
  fields := #[]
  methods := #[]
  instanceTypes := #[]
  staticTypes := #[]
  resolved := Array.replicate 8 none
  statics := none }

/-- the primitive byte -/
def k5 : Class := { plain "byte" none with kind := .primitive 'B', accessFlags := 0x411 }
/-- [B -/
def k6 : Class := { plain "[B" (some 0) with kind := .array 5 .byte, interfaces := #[3, 4], accessFlags := 1041 }

/-- the primitive int -/
def k7 : Class := { plain "int" none with kind := .primitive 'I', accessFlags := 0x411 }
/-- [I -/
def k8 : Class := { plain "[I" (some 0) with kind := .array 7 .int, interfaces := #[3, 4], accessFlags := 1041 }

def heap : Heap := #[]
def classes : Array Class := #[k0, k1, k2, k3, k4, k5, k6, k7, k8]
def interned : List (Array UInt16 × Addr) := []
def slotsUsed : Nat := 0
def theMethod : MethodId := ⟨1, 1⟩
def args0 : Array Value := #[.int 5, .int 6, .int 1]
def aboutOver (below : List Frame) : State where
  vm := { classes := classes, interned := interned.toArray }
  heap := heap
  slotsUsed := slotsUsed
  threads := #[{ frames := .invoking theMethod args0 :: below }]
def below0 : List Frame := [.native { method := ⟨0, 0⟩, args := #[] }]
def about1 : State := aboutOver below0
def p0 : Program := .bare "" "" ""
def e0 : Env := launch0.env 0 0 0
theorem w_frames : about1.frames = Frame.invoking theMethod args0 :: below0 := rfl
set_option maxRecDepth 65536 in
theorem w_args : argsFit about1.vm theMethod args0 = true := by decide +kernel
set_option maxRecDepth 65536 in
theorem w_heap : heapFits about1 = true := by decide +kernel
set_option maxRecDepth 65536 in
theorem w_runnable : about1.curStatus? = some .runnable := by decide +kernel
set_option maxRecDepth 65536 in
theorem w_alone : about1.alone = true := by decide +kernel
set_option maxRecDepth 65536 in
theorem w_named : about1.methodNamed? x = some theMethod := by decide +kernel
set_option maxRecDepth 65536 in
theorem w_hears : about1.hears theMethod below0 = true := by decide +kernel
set_option maxRecDepth 65536 in
theorem w_ripe : about1.ripe theMethod args0 below0 = true := by decide +kernel
theorem w_running : about1.status = .running := rfl
set_option maxRecDepth 65536 in
theorem w_room : about1.hasRoom e0.platform room_1 = true :=
  launch0.hasRoom_least _ room_1 (by decide +kernel) (by decide +kernel) (by decide +kernel) (by decide +kernel) (by decide +kernel) (by decide +kernel)
theorem allAtoms_all (ts : List Jvm.Cond) (a : Array Jvm.Value) (st : Jvm.State) : (allAtoms ts).before a st = ts.all (fun c => c.before a st) := by
  induction ts with
  | nil => rfl
  | cons c t ih =>
    show (Jvm.Cond.and c (allAtoms t)).before a st = _
    rw [Jvm.Cond.before_and, ih, List.all_cons]
def words1 : List Jvm.Cond := Jvm.Cond.code x code maxLocals ret :: tables_1
/-- a 'code' word, met by the world's own term for the bytes: nothing is compared byte by byte -/
theorem code_word {y : MethodName} {bytes : ByteArray} {mx : Nat} {rt : Option FieldType} {a : Array Value} {s : State} {m : MethodId} {meth : Method} {c : Code} (h1 : s.methodNamed? y = some m) (h2 : s.vm.method? m = some meth) (h3 : meth.code = some c) (h4 : c.code = bytes)
    (h5 : (c.maxLocals == mx && c.exceptionTable.isEmpty && decide (c.maxStack ≤ mostOperands) && decide (meth.sig.returnType = rt) && !meth.locks && decide (parseMethodDescriptor y.desc = some meth.sig)) = true) : (Jvm.Cond.code y bytes mx rt).before a s = true := by
  simp only [Bool.and_eq_true, beq_iff_eq, Bool.not_eq_true', decide_eq_true_eq] at h5
  obtain ⟨⟨⟨⟨⟨g1, g2⟩, g3⟩, g4⟩, g5⟩, g6⟩ := h5
  simp [Cond.before, Cond.holds, Cond.value, h1, h2, h3, h4, g1, g2, g3, g4, g5, g6]
def isCode : Jvm.Cond → Bool
  | .code _ _ _ _ => true
  | _ => false
theorem all_split {L : List Jvm.Cond} {P : Jvm.Cond → Bool} (h1 : L.all (fun c => isCode c || P c) = true) (h2 : ∀ c ∈ L.filter isCode, P c = true) : L.all P = true := by
  refine List.all_eq_true.mpr fun c hc => ?_
  have h := List.all_eq_true.mp h1 c hc
  rcases Bool.eq_false_or_eq_true (isCode c) with hi | hi
  · exact h2 c (List.mem_filter.mpr ⟨hc, hi⟩)
  · simpa [hi] using h
set_option maxRecDepth 65536 in
theorem w_c0 : (Jvm.Cond.code x code maxLocals ret).before args0 about1 = true := code_word (m := ⟨1, 1⟩) (meth := k1m1) (c := k1c1) (by decide +kernel) rfl rfl rfl (by decide +kernel)
set_option maxRecDepth 65536 in
theorem w_c1 : (Jvm.Cond.code ({ cls := "com/example/firm_query/firmquery/IRegexpParser$CharClass", name := "of", desc := "(I)Lcom/example/firm_query/firmquery/IRegexpParser$CharClass;" } : Jvm.MethodName) prog_13_method_2_code (1 : Nat) (Option.some (Jvm.ClassFile.FieldType.object "com/example/firm_query/firmquery/IRegexpParser$CharClass"))).before args0 about1 = true := code_word (m := ⟨2, 1⟩) (meth := k2m1) (c := k2c1) (by decide +kernel) rfl rfl rfl (by decide +kernel)
set_option maxRecDepth 65536 in
theorem w_c2 : (Jvm.Cond.code ({ cls := "com/example/firm_query/firmquery/IRegexpParser$CharClass", name := "<init>", desc := "(Z[II)V" } : Jvm.MethodName) prog_13_method_1_code (4 : Nat) (Option.none : Option Jvm.ClassFile.FieldType)).before args0 about1 = true := code_word (m := ⟨2, 0⟩) (meth := k2m0) (c := k2c0) (by decide +kernel) rfl rfl rfl (by decide +kernel)
set_option maxRecDepth 65536 in
theorem w_c3 : (Jvm.Cond.code ({ cls := "java/lang/Object", name := "<init>", desc := "()V" } : Jvm.MethodName) object_method_1_code (1 : Nat) (Option.none : Option Jvm.ClassFile.FieldType)).before args0 about1 = true := code_word (m := ⟨0, 0⟩) (meth := k0m0) (c := k0c0) (by decide +kernel) rfl rfl rfl (by decide +kernel)
set_option maxRecDepth 65536 in
theorem w_c4 : (Jvm.Cond.code ({ cls := "com/example/firm_query/firmquery/IRegexpParser$CharClass", name := "contains", desc := "(I)Z" } : Jvm.MethodName) prog_13_method_3_code (3 : Nat) (Option.some Jvm.ClassFile.FieldType.boolean)).before args0 about1 = true := code_word (m := ⟨2, 2⟩) (meth := k2m2) (c := k2c2) (by decide +kernel) rfl rfl rfl (by decide +kernel)
set_option maxRecDepth 65536 in
theorem w_c5 : (Jvm.Cond.code ({ cls := "com/example/firm_query/firmquery/IRegexpParser$CharClass", name := "inRanges", desc := "(I)Z" } : Jvm.MethodName) prog_13_method_4_code (5 : Nat) (Option.some Jvm.ClassFile.FieldType.boolean)).before args0 about1 = true := code_word (m := ⟨2, 3⟩) (meth := k2m3) (c := k2c3) (by decide +kernel) rfl rfl rfl (by decide +kernel)
def codes1 : List Jvm.Cond := [Jvm.Cond.code x code maxLocals ret, Jvm.Cond.code ({ cls := "com/example/firm_query/firmquery/IRegexpParser$CharClass", name := "of", desc := "(I)Lcom/example/firm_query/firmquery/IRegexpParser$CharClass;" } : Jvm.MethodName) prog_13_method_2_code (1 : Nat) (Option.some (Jvm.ClassFile.FieldType.object "com/example/firm_query/firmquery/IRegexpParser$CharClass")), Jvm.Cond.code ({ cls := "com/example/firm_query/firmquery/IRegexpParser$CharClass", name := "<init>", desc := "(Z[II)V" } : Jvm.MethodName) prog_13_method_1_code (4 : Nat) (Option.none : Option Jvm.ClassFile.FieldType), Jvm.Cond.code ({ cls := "java/lang/Object", name := "<init>", desc := "()V" } : Jvm.MethodName) object_method_1_code (1 : Nat) (Option.none : Option Jvm.ClassFile.FieldType), Jvm.Cond.code ({ cls := "com/example/firm_query/firmquery/IRegexpParser$CharClass", name := "contains", desc := "(I)Z" } : Jvm.MethodName) prog_13_method_3_code (3 : Nat) (Option.some Jvm.ClassFile.FieldType.boolean), Jvm.Cond.code ({ cls := "com/example/firm_query/firmquery/IRegexpParser$CharClass", name := "inRanges", desc := "(I)Z" } : Jvm.MethodName) prog_13_method_4_code (5 : Nat) (Option.some Jvm.ClassFile.FieldType.boolean)]
set_option maxRecDepth 65536 in
theorem codes_eq : words1.filter isCode = codes1 := rfl
theorem w_codes : ∀ c ∈ words1.filter isCode, c.before args0 about1 = true := by
  rw [codes_eq]
  intro c hc
  simp only [codes1, List.mem_cons, List.not_mem_nil, or_false] at hc
  rcases hc with rfl | rfl | rfl | rfl | rfl | rfl
  · exact w_c0
  · exact w_c1
  · exact w_c2
  · exact w_c3
  · exact w_c4
  · exact w_c5
set_option maxRecDepth 65536 in
theorem w_t1 : (words1.take 24).all (fun c => isCode c || c.before args0 about1) = true := by decide +kernel
set_option maxRecDepth 65536 in
theorem w_t2 : (words1.drop 24).all (fun c => isCode c || c.before args0 about1) = true := by decide +kernel
theorem w_tables : (allAtoms (Jvm.Cond.code x code maxLocals ret :: tables_1)).before args0 about1 = true := by
  rw [allAtoms_all]
  show words1.all (fun c => c.before args0 about1) = true
  refine all_split ?_ w_codes
  rw [← List.take_append_drop 24 words1, List.all_append, w_t1, w_t2]
  rfl
set_option maxRecDepth 65536 in
theorem w_case : (Jvm.Cond.and given_1 narrow_1).before args0 about1 = true := by decide +kernel
theorem w_applies : (headSpec (Jvm.Cond.code x code maxLocals ret :: tables_1) room_1).applies x e0.platform about1 = true :=
  (Spec.applies_iff w_frames).mpr ⟨w_running, w_runnable, w_alone, w_named, w_hears, w_ripe, w_room, w_tables⟩
theorem atStart : AtStart classFile x code maxLocals ret World_1 tables_1 room_1 Calls_1 rest_1 Pre_1 launch0 p0 e0 about1 theMethod args0 below0 :=
  ⟨lists_1, trivial, launch0.admits_env _ _ _, launch0.least_env, fairChoices_fair.cas, fairChoices_fair.clock, w_frames, w_args, w_heap, w_applies, trivial, trivial, w_case⟩
end start1
theorem witness_1 : WitnessClaimed_1 := ⟨start1.p0, start1.e0, start1.about1, start1.theMethod, start1.args0, start1.below0, start1.atStart⟩
end Jvm.Pilot.@@N@@
