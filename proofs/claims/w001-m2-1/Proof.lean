import JvmDerived
import JvmDerived.Pilot.@@N@@Statement
import JvmDerived.Pilot.@@N@@Code
set_option linter.unusedVariables false
set_option linter.unusedSimpArgs false
namespace Jvm.RoadKit
open Sem ClassFile Op Lib Jvm.Stand Jvm.Free Jvm.LawKit
section New
variable {p : Program} {l : Launch} {e : Env} {R : Room} {s : State} {m : MethodId} {args : Array Value} {below : List Frame} {meth : Method} {c : Code} {T : State} {locs : List Loc} {cells slots : Nat}
theorem retI (X : Stand p l e R s m args below meth c T locs cells slots) (hx : p.tables.exec = Jvm.exec) {pc : Nat} {Ls : Array Slot} {z : Int32} {rest : List Value} (hret : meth.sig.returnType = some .int) (hd : decode c.code pc = .ok (.ireturn, 1)) {fs : List Frame}
    (hl : ∀ (f : JFrame) (acts : List Action), f.method = m → f.locked = none → f.entered = [] → (doReturn e (T.setTop f) acts (some (.int z))).1 = T.setFrames fs) : Steps p.tables e below (T.setTop (mkF m pc Ls (.int z :: rest))) (T.setFrames fs) := by
  have hm' : T.vm.method? m = some meth := X.method'
  have hn : narrow .int (.int z) = .int z := rfl
  show Steps p.tables e below (T.setTop { method := m, pc := pc, locals := Ls, stack := _ :: rest, locked := none }) _
  jvm_step X.here [X.here.top, hx, hd, hm', hret, hn]
  first | (intro acts; rw [hl _ acts rfl rfl rfl]) | rw [hl _ _ rfl rfl rfl]
  exact Steps.refl _
end New
end Jvm.RoadKit
namespace Jvm.Pilot.@@N@@
open Jvm Jvm.ClassFile Sem Op Lib Jvm.Free Jvm.Stand Jvm.LawKit Jvm.RoadKit Bundle Jvm.Pilot.@@N@@.Jvm.D
theorem own_lw_lt (x y : Int64) : lcmpW x y < 0 ↔ x < y := by rw [lcW]; exact lc_lt x y
theorem own_lw_gt (x y : Int64) : 0 < lcmpW x y ↔ y < x := by rw [lcW]; exact lc_gt x y
theorem own_lw_eq (x y : Int64) : lcmpW x y = 0 ↔ x = y := by rw [lcW]; exact lc_eq x y
theorem own_retJ {p : Program} {l : Launch} {e : Env} {R : Room} {s : State} {m : MethodId} {args : Array Value} {below : List Frame} {meth : Method} {c : Code} {T : State} {locs : List Loc} {cells slots : Nat} (X : Stand p l e R s m args below meth c T locs cells slots) (hx : p.tables.exec = Jvm.exec) {pc : Nat} {Ls : Array Slot} {z : Int64} {rest : List Value} (hret : meth.sig.returnType = some .long) (hd : decode c.code pc = .ok (.lreturn, 1)) {fs : List Frame}
    (hl : ∀ (f : JFrame) (acts : List Action), f.method = m → f.locked = none → f.entered = [] → (doReturn e (T.setTop f) acts (some (.long z))).1 = T.setFrames fs) : Steps p.tables e below (T.setTop (mkF m pc Ls (.long z :: rest))) (T.setFrames fs) := by
  have hm' : T.vm.method? m = some meth := X.method'
  have hn : narrow .long (.long z) = .long z := rfl
  show Steps p.tables e below (T.setTop { method := m, pc := pc, locals := Ls, stack := _ :: rest, locked := none }) _
  jvm_step X.here [X.here.top, hx, hd, hm', hret, hn]
  first | (intro acts; rw [hl _ acts rfl rfl rfl]) | rw [hl _ _ rfl rfl rfl]
  exact Steps.refl _
theorem own_ne32 {k n : Int32} (h : ¬ k = n) : n.toInt ≠ k.toInt := fun e => h (Int32.toInt_inj.mp e.symm)
theorem own_d5_0 : decode jdk_52_method_21_code 0 = .ok (.iconst 0, 1) := by decide +kernel
theorem own_d5_1 : decode jdk_52_method_21_code 1 = .ok (.istore 5, 2) := by decide +kernel
theorem own_d5_3 : decode jdk_52_method_21_code 3 = .ok (.iload 5, 2) := by decide +kernel
theorem own_d5_5 : decode jdk_52_method_21_code 5 = .ok (.iload 4, 2) := by decide +kernel
theorem own_d5_7 : decode jdk_52_method_21_code 7 = .ok (.if_icmp .ge 37, 3) := by decide +kernel
theorem own_d5_10 : decode jdk_52_method_21_code 10 = .ok (.aload_n 0, 1) := by decide +kernel
theorem own_d5_11 : decode jdk_52_method_21_code 11 = .ok (.iload_n 1, 1) := by decide +kernel
theorem own_d5_12 : decode jdk_52_method_21_code 12 = .ok (.caload, 1) := by decide +kernel
theorem own_d5_13 : decode jdk_52_method_21_code 13 = .ok (.istore 6, 2) := by decide +kernel
theorem own_d5_15 : decode jdk_52_method_21_code 15 = .ok (.iload 6, 2) := by decide +kernel
theorem own_d5_17 : decode jdk_52_method_21_code 17 = .ok (.sipush 255, 3) := by decide +kernel
theorem own_d5_20 : decode jdk_52_method_21_code 20 = .ok (.if_icmp .le 6, 3) := by decide +kernel
theorem own_d5_26 : decode jdk_52_method_21_code 26 = .ok (.aload_n 2, 1) := by decide +kernel
theorem own_d5_27 : decode jdk_52_method_21_code 27 = .ok (.iload_n 3, 1) := by decide +kernel
theorem own_d5_28 : decode jdk_52_method_21_code 28 = .ok (.iload 6, 2) := by decide +kernel
theorem own_d5_30 : decode jdk_52_method_21_code 30 = .ok (.i2b, 1) := by decide +kernel
theorem own_d5_31 : decode jdk_52_method_21_code 31 = .ok (.bastore, 1) := by decide +kernel
theorem own_d5_32 : decode jdk_52_method_21_code 32 = .ok (.iinc 1 1, 3) := by decide +kernel
theorem own_d5_35 : decode jdk_52_method_21_code 35 = .ok (.iinc 3 1, 3) := by decide +kernel
theorem own_d5_38 : decode jdk_52_method_21_code 38 = .ok (.iinc 5 1, 3) := by decide +kernel
theorem own_d5_41 : decode jdk_52_method_21_code 41 = .ok (.goto (-38), 3) := by decide +kernel
theorem own_d5_44 : decode jdk_52_method_21_code 44 = .ok (.iload 4, 2) := by decide +kernel
theorem own_d5_46 : decode jdk_52_method_21_code 46 = .ok (.ireturn, 1) := by decide +kernel
theorem own_pn5 : plainName "java/lang/StringUTF16" = true := by first | (simp [plainName, overriddenIn]; done) | decide +kernel
theorem own_ef5 (m : MethodId) (x0 : Addr) (x2 : Addr) : entryFrame m #[(.ref x0), (.int (0 : Int32)), (.ref x2), (.int (0 : Int32)), (.int (2 : Int32))] 7 = (mkF m 0 #[.val (.ref x0), .val (.int (0 : Int32)), .val (.ref x2), .val (.int (0 : Int32)), .val (.int (2 : Int32)), .unset, .unset] []) := by first | (simp [entryFrame, mkF, argsToLocals, Value.category]; done) | rfl
def own_Q5 (Z : State) (o0 : Addr) (o2 : Addr) (k_o0 : ClassId) (c0 : Int32) (c1 : Int32) (k_o2 : ClassId) (h0 : Heap) (n0 : Nat) (v : Option Value) (h : Heap) (L : List Loc) : Prop := v = some (.int (2 : Int32)) ∧ Fr n0 L ∧ Keep h0 h [o2] ∧ Arv Z h o2 k_o2 .byte (2 : Int32) [(.int (nar .byte (c0.toInt8.toInt32))), (.int (nar .byte (c1.toInt8.toInt32)))] (.int (0 : Int32))
set_option maxRecDepth 65536 in
set_option maxHeartbeats 40000000 in
theorem own_rm5 (l : Launch) (Z : State) (a0 : Array Value) (hw : ∀ d ∈ tables_1, d.before a0 Z = true) (ws : List Jvm.Cond) (o0 : Addr) (o2 : Addr) (k_o0 : ClassId) (c0 : Int32) (c1 : Int32) (k_o2 : ClassId) (h0 : Heap) (n0 : Nat) (Z0 : n0 ≤ h0.size) (Hne : o0 ≠ o2) (H0 : ¬ ((255 : Int32) < c0)) (H1 : ¬ ((255 : Int32) < c1)) (P_V_o0 : Arv Z h0 o0 k_o0 .char (2 : Int32) [(.int c0), (.int c1)] (.int (0 : Int32))) (P_V_o2 : Arv Z h0 o2 k_o2 .byte (2 : Int32) [(.int (0 : Int32)), (.int (0 : Int32))] (.int (0 : Int32))) (G_o2 : n0 ≤ o2) :
    MetFree l (⟨"java/lang/StringUTF16", "compress", "([CI[BII)I"⟩ : MethodName) (head1 (Jvm.Cond.code (⟨"java/lang/StringUTF16", "compress", "([CI[BII)I"⟩ : MethodName) jdk_52_method_21_code 7 (some .int) :: ws) ({ frames := 0, cells := 0, slots := 0, locals := 0 } : Room)) (fun a U => a = #[(.ref o0), (.int (0 : Int32)), (.ref o2), (.int (0 : Int32)), (.int (2 : Int32))] ∧ Z.Warmed39 U.vm ∧ U.heap = h0) (fun _ _ _ _ _ => True) (fun _ U o U' => ∃ v L, o = .returned v ∧ own_Q5 Z o0 o2 k_o0 c0 c1 k_o2 h0 n0 v U'.heap L ∧ FrameEnd U o U' L ({ frames := 0, cells := 0, slots := 0, locals := 0 } : Room).cells ({ frames := 0, cells := 0, slots := 0, locals := 0 } : Room).slots) := by
  refine MetFree.of_bodySF (plainFor_of_name own_pn5) hisR ?_
  intro p e s m args below meth c s₁ Bd hml0 hP hK
  obtain ⟨rfl, hZ, hh⟩ := hP
  have hx := Bd.exec
  have hlk : meth.locks = false := BodyLoose.notSynchronized Bd
  have hby := Bd.bytes
  have hml : c.maxLocals = 7 := hml0
  have hown : s.vm.findClass "java/lang/StringUTF16" = some m.cls := findClass_of_methodNamed Bd.named
  have hnm := (name_of_methodNamed Bd.named Bd.method).1
  have X0 : Stand p l e ({ frames := 0, cells := 0, slots := 0, locals := 0 } : Room) s m #[(.ref o0), (.int (0 : Int32)), (.ref o2), (.int (0 : Int32)), (.int (2 : Int32))] below meth c s₁ [] 0 0 := Stand.of_body Bd
  have e0 : s₁.heap = h0 := by rw [← hh, Bd.state]; rfl
  have N0 := Fr.nil n0
  have pre0 : ∀ t, Steps p.tables e below (s₁.setTop (mkF m 0 #[.val (.ref o0), .val (.int (0 : Int32)), .val (.ref o2), .val (.int (0 : Int32)), .val (.int (2 : Int32)), .unset, .unset] [])) t → Steps p.tables e below (s₁.setTop (entryFrame m #[(.ref o0), (.int (0 : Int32)), (.ref o2), (.int (0 : Int32)), (.int (2 : Int32))] 7)) t := fun t k => castTop (own_ef5 m o0 o2) k
  obtain ⟨cl1, Ar1, q1, S1, N_1, Ha1, G1⟩ := id P_V_o0
  have hin1 : ¬ ((0 : Int32) < 0 ∨ cl1.slots.size ≤ ((0 : Int32)).toNatClampNeg) := inb_of S1 ⟨by decide, by decide⟩
  obtain ⟨cl2, Ar2, q2, S2, N_2, Ha2, G2⟩ := id P_V_o2
  have hin2 : ¬ ((0 : Int32) < 0 ∨ cl2.slots.size ≤ ((0 : Int32)).toNatClampNeg) := inb_of S2 ⟨by decide, by decide⟩
  obtain ⟨T3, h3, X3, e3, W3, st3⟩ := stB X0 hx hZ e0 Ar2 (j := (0 : Int32)) hin2 (g := (mkF m 31 #[.val (.ref o0), .val (.int (0 : Int32)), .val (.ref o2), .val (.int (0 : Int32)), .val (.int (2 : Int32)), .val (.int (0 : Int32)), .val (.int c0)] [(.int (c0.toInt8.toInt32)), (.int (0 : Int32)), (.ref o2)])) rfl rfl (hb hby own_d5_31)
  have f4 : Arv Z h3 o2 k_o2 .byte (2 : Int32) [(.int (nar .byte (c0.toInt8.toInt32))), (.int (0 : Int32))] (.int (0 : Int32)) := Arv.set Ar2 q2 S2 N_2 Ha2 G2 (fits_nar_byte _) W3 0 rfl (Nat.le_of_ble_eq_true rfl)
  have f5 : Arv Z h3 o0 k_o0 .char (2 : Int32) [(.int c0), (.int c1)] (.int (0 : Int32)) := P_V_o0.other W3 Hne
  have zs6 : n0 ≤ h3.size := Nat.le_trans Z0 (Keep.of_wr W3).1
  have N7 := Fr.snoc X3 N0 G_o2
  have K8 : Keep h0 h0 [o2] := Keep.refl h0 [o2]
  have K9 : Keep h0 h3 [o2] := K8.wr W3 (Or.inl (by simp))
  obtain ⟨cl10, Ar10, q10, S10, N_10, Ha10, G10⟩ := id f5
  have hin10 : ¬ ((1 : Int32) < 0 ∨ cl10.slots.size ≤ ((1 : Int32)).toNatClampNeg) := inb_of S10 ⟨by decide, by decide⟩
  obtain ⟨cl11, Ar11, q11, S11, N_11, Ha11, G11⟩ := id f4
  have hin11 : ¬ ((1 : Int32) < 0 ∨ cl11.slots.size ≤ ((1 : Int32)).toNatClampNeg) := inb_of S11 ⟨by decide, by decide⟩
  obtain ⟨T12, h12, X12, e12, W12, st12⟩ := stB X3 hx hZ e3 Ar11 (j := (1 : Int32)) hin11 (g := (mkF m 31 #[.val (.ref o0), .val (.int (1 : Int32)), .val (.ref o2), .val (.int (1 : Int32)), .val (.int (2 : Int32)), .val (.int (1 : Int32)), .val (.int c1)] [(.int (c1.toInt8.toInt32)), (.int (1 : Int32)), (.ref o2)])) rfl rfl (hb hby own_d5_31)
  have f13 : Arv Z h12 o2 k_o2 .byte (2 : Int32) [(.int (nar .byte (c0.toInt8.toInt32))), (.int (nar .byte (c1.toInt8.toInt32)))] (.int (0 : Int32)) := Arv.set Ar11 q11 S11 N_11 Ha11 G11 (fits_nar_byte _) W12 1 rfl (Nat.le_of_ble_eq_true rfl)
  have f14 : Arv Z h12 o0 k_o0 .char (2 : Int32) [(.int c0), (.int c1)] (.int (0 : Int32)) := f5.other W12 Hne
  have zs15 : n0 ≤ h12.size := Nat.le_trans zs6 (Keep.of_wr W12).1
  have N16 := Fr.snoc X12 N7 G_o2
  have K17 : Keep h0 h12 [o2] := K9.wr W12 (Or.inl (by simp))
  have pre18 : ∀ t, Steps p.tables e below (T12.setTop (mkF m 46 #[.val (.ref o0), .val (.int (2 : Int32)), .val (.ref o2), .val (.int (2 : Int32)), .val (.int (2 : Int32)), .val (.int (2 : Int32)), .val (.int c1)] [(.int (2 : Int32))])) t → Steps p.tables e below (s₁.setTop (entryFrame m #[(.ref o0), (.int (0 : Int32)), (.ref o2), (.int (0 : Int32)), (.int (2 : Int32))] 7)) t := fun t k => pre0 t (by
      refine XS.iconst X0.here hx rfl (hb hby own_d5_0) ?_
      show Steps p.tables e below (s₁.setTop (mkF m 1 #[.val (.ref o0), .val (.int (0 : Int32)), .val (.ref o2), .val (.int (0 : Int32)), .val (.int (2 : Int32)), .unset, .unset] [(.int (0 : Int32))])) _
      refine XS.istore X0.here hx rfl (hb hby own_d5_1) rfl (l' := #[.val (.ref o0), .val (.int (0 : Int32)), .val (.ref o2), .val (.int (0 : Int32)), .val (.int (2 : Int32)), .val (.int (0 : Int32)), .unset]) rfl ?_
      show Steps p.tables e below (s₁.setTop (mkF m 3 #[.val (.ref o0), .val (.int (0 : Int32)), .val (.ref o2), .val (.int (0 : Int32)), .val (.int (2 : Int32)), .val (.int (0 : Int32)), .unset] [])) _
      refine XS.iload X0.here hx rfl (hb hby own_d5_3) rfl ?_
      show Steps p.tables e below (s₁.setTop (mkF m 5 #[.val (.ref o0), .val (.int (0 : Int32)), .val (.ref o2), .val (.int (0 : Int32)), .val (.int (2 : Int32)), .val (.int (0 : Int32)), .unset] [(.int (0 : Int32))])) _
      refine XS.iload X0.here hx rfl (hb hby own_d5_5) rfl ?_
      show Steps p.tables e below (s₁.setTop (mkF m 7 #[.val (.ref o0), .val (.int (0 : Int32)), .val (.ref o2), .val (.int (0 : Int32)), .val (.int (2 : Int32)), .val (.int (0 : Int32)), .unset] [(.int (2 : Int32)), (.int (0 : Int32))])) _
      refine XS.icmpNo X0.here hx rfl (hb hby own_d5_7) rfl (tlt (by decide : (0 : Int32) < (2 : Int32))).2.1 ?_
      show Steps p.tables e below (s₁.setTop (mkF m 10 #[.val (.ref o0), .val (.int (0 : Int32)), .val (.ref o2), .val (.int (0 : Int32)), .val (.int (2 : Int32)), .val (.int (0 : Int32)), .unset] [])) _
      refine XS.aloadN X0.here hx rfl (hb hby own_d5_10) rfl rfl ?_
      show Steps p.tables e below (s₁.setTop (mkF m 11 #[.val (.ref o0), .val (.int (0 : Int32)), .val (.ref o2), .val (.int (0 : Int32)), .val (.int (2 : Int32)), .val (.int (0 : Int32)), .unset] [(.ref o0)])) _
      refine XS.iloadN X0.here hx rfl (hb hby own_d5_11) rfl ?_
      show Steps p.tables e below (s₁.setTop (mkF m 12 #[.val (.ref o0), .val (.int (0 : Int32)), .val (.ref o2), .val (.int (0 : Int32)), .val (.int (2 : Int32)), .val (.int (0 : Int32)), .unset] [(.int (0 : Int32)), (.ref o0)])) _
      refine X0.caload hx (j := (0 : Int32)) (v := (.int c0)) (by rw [e0]; exact Ar1.1) (State.isArrayOf_alike hZ.alike Ar1.2.1) Ar1.2.2 hin1 (Has.at Ha1 hin1 (rfl : (_ : Value) = (.int c0))) (g := (mkF m 12 #[.val (.ref o0), .val (.int (0 : Int32)), .val (.ref o2), .val (.int (0 : Int32)), .val (.int (2 : Int32)), .val (.int (0 : Int32)), .unset] [(.int (0 : Int32)), (.ref o0)])) rfl rfl (hb hby own_d5_12) _ ?_
      show Steps p.tables e below (s₁.setTop (mkF m 13 #[.val (.ref o0), .val (.int (0 : Int32)), .val (.ref o2), .val (.int (0 : Int32)), .val (.int (2 : Int32)), .val (.int (0 : Int32)), .unset] [(.int c0)])) _
      refine XS.istore X0.here hx rfl (hb hby own_d5_13) rfl (l' := #[.val (.ref o0), .val (.int (0 : Int32)), .val (.ref o2), .val (.int (0 : Int32)), .val (.int (2 : Int32)), .val (.int (0 : Int32)), .val (.int c0)]) rfl ?_
      show Steps p.tables e below (s₁.setTop (mkF m 15 #[.val (.ref o0), .val (.int (0 : Int32)), .val (.ref o2), .val (.int (0 : Int32)), .val (.int (2 : Int32)), .val (.int (0 : Int32)), .val (.int c0)] [])) _
      refine XS.iload X0.here hx rfl (hb hby own_d5_15) rfl ?_
      show Steps p.tables e below (s₁.setTop (mkF m 17 #[.val (.ref o0), .val (.int (0 : Int32)), .val (.ref o2), .val (.int (0 : Int32)), .val (.int (2 : Int32)), .val (.int (0 : Int32)), .val (.int c0)] [(.int c0)])) _
      refine XS.sipush X0.here hx rfl (hb hby own_d5_17) ?_
      show Steps p.tables e below (s₁.setTop (mkF m 20 #[.val (.ref o0), .val (.int (0 : Int32)), .val (.ref o2), .val (.int (0 : Int32)), .val (.int (2 : Int32)), .val (.int (0 : Int32)), .val (.int c0)] [(.int (255 : Int32)), (.int c0)])) _
      refine XS.icmpYes X0.here hx rfl (pc0 := 20) (pc' := 26) rfl (hb hby own_d5_20) rfl (flt H0).2.2.2 (by decide) (by decide) ?_
      show Steps p.tables e below (s₁.setTop (mkF m 26 #[.val (.ref o0), .val (.int (0 : Int32)), .val (.ref o2), .val (.int (0 : Int32)), .val (.int (2 : Int32)), .val (.int (0 : Int32)), .val (.int c0)] [])) _
      refine XS.aloadN X0.here hx rfl (hb hby own_d5_26) rfl rfl ?_
      show Steps p.tables e below (s₁.setTop (mkF m 27 #[.val (.ref o0), .val (.int (0 : Int32)), .val (.ref o2), .val (.int (0 : Int32)), .val (.int (2 : Int32)), .val (.int (0 : Int32)), .val (.int c0)] [(.ref o2)])) _
      refine XS.iloadN X0.here hx rfl (hb hby own_d5_27) rfl ?_
      show Steps p.tables e below (s₁.setTop (mkF m 28 #[.val (.ref o0), .val (.int (0 : Int32)), .val (.ref o2), .val (.int (0 : Int32)), .val (.int (2 : Int32)), .val (.int (0 : Int32)), .val (.int c0)] [(.int (0 : Int32)), (.ref o2)])) _
      refine XS.iload X0.here hx rfl (hb hby own_d5_28) rfl ?_
      show Steps p.tables e below (s₁.setTop (mkF m 30 #[.val (.ref o0), .val (.int (0 : Int32)), .val (.ref o2), .val (.int (0 : Int32)), .val (.int (2 : Int32)), .val (.int (0 : Int32)), .val (.int c0)] [(.int c0), (.int (0 : Int32)), (.ref o2)])) _
      refine XS.i2b X0.here hx rfl (hb hby own_d5_30) rfl ?_
      show Steps p.tables e below (s₁.setTop (mkF m 31 #[.val (.ref o0), .val (.int (0 : Int32)), .val (.ref o2), .val (.int (0 : Int32)), .val (.int (2 : Int32)), .val (.int (0 : Int32)), .val (.int c0)] [(.int (c0.toInt8.toInt32)), (.int (0 : Int32)), (.ref o2)])) _
      refine st3 _ ?_
      show Steps p.tables e below (T3.setTop (mkF m 32 #[.val (.ref o0), .val (.int (0 : Int32)), .val (.ref o2), .val (.int (0 : Int32)), .val (.int (2 : Int32)), .val (.int (0 : Int32)), .val (.int c0)] [])) _
      refine XS.iinc X3.here hx rfl (hb hby own_d5_32) rfl (l' := #[.val (.ref o0), .val (.int (1 : Int32)), .val (.ref o2), .val (.int (0 : Int32)), .val (.int (2 : Int32)), .val (.int (0 : Int32)), .val (.int c0)]) rfl ?_
      show Steps p.tables e below (T3.setTop (mkF m 35 #[.val (.ref o0), .val (.int (1 : Int32)), .val (.ref o2), .val (.int (0 : Int32)), .val (.int (2 : Int32)), .val (.int (0 : Int32)), .val (.int c0)] [])) _
      refine XS.iinc X3.here hx rfl (hb hby own_d5_35) rfl (l' := #[.val (.ref o0), .val (.int (1 : Int32)), .val (.ref o2), .val (.int (1 : Int32)), .val (.int (2 : Int32)), .val (.int (0 : Int32)), .val (.int c0)]) rfl ?_
      show Steps p.tables e below (T3.setTop (mkF m 38 #[.val (.ref o0), .val (.int (1 : Int32)), .val (.ref o2), .val (.int (1 : Int32)), .val (.int (2 : Int32)), .val (.int (0 : Int32)), .val (.int c0)] [])) _
      refine XS.iinc X3.here hx rfl (hb hby own_d5_38) rfl (l' := #[.val (.ref o0), .val (.int (1 : Int32)), .val (.ref o2), .val (.int (1 : Int32)), .val (.int (2 : Int32)), .val (.int (1 : Int32)), .val (.int c0)]) rfl ?_
      show Steps p.tables e below (T3.setTop (mkF m 41 #[.val (.ref o0), .val (.int (1 : Int32)), .val (.ref o2), .val (.int (1 : Int32)), .val (.int (2 : Int32)), .val (.int (1 : Int32)), .val (.int c0)] [])) _
      refine XS.goto X3.here hx rfl (pc0 := 41) (pc' := 3) rfl (hb hby own_d5_41) (by decide) (by decide) ?_
      show Steps p.tables e below (T3.setTop (mkF m 3 #[.val (.ref o0), .val (.int (1 : Int32)), .val (.ref o2), .val (.int (1 : Int32)), .val (.int (2 : Int32)), .val (.int (1 : Int32)), .val (.int c0)] [])) _
      refine XS.iload X3.here hx rfl (hb hby own_d5_3) rfl ?_
      show Steps p.tables e below (T3.setTop (mkF m 5 #[.val (.ref o0), .val (.int (1 : Int32)), .val (.ref o2), .val (.int (1 : Int32)), .val (.int (2 : Int32)), .val (.int (1 : Int32)), .val (.int c0)] [(.int (1 : Int32))])) _
      refine XS.iload X3.here hx rfl (hb hby own_d5_5) rfl ?_
      show Steps p.tables e below (T3.setTop (mkF m 7 #[.val (.ref o0), .val (.int (1 : Int32)), .val (.ref o2), .val (.int (1 : Int32)), .val (.int (2 : Int32)), .val (.int (1 : Int32)), .val (.int c0)] [(.int (2 : Int32)), (.int (1 : Int32))])) _
      refine XS.icmpNo X3.here hx rfl (hb hby own_d5_7) rfl (tlt (by decide : (1 : Int32) < (2 : Int32))).2.1 ?_
      show Steps p.tables e below (T3.setTop (mkF m 10 #[.val (.ref o0), .val (.int (1 : Int32)), .val (.ref o2), .val (.int (1 : Int32)), .val (.int (2 : Int32)), .val (.int (1 : Int32)), .val (.int c0)] [])) _
      refine XS.aloadN X3.here hx rfl (hb hby own_d5_10) rfl rfl ?_
      show Steps p.tables e below (T3.setTop (mkF m 11 #[.val (.ref o0), .val (.int (1 : Int32)), .val (.ref o2), .val (.int (1 : Int32)), .val (.int (2 : Int32)), .val (.int (1 : Int32)), .val (.int c0)] [(.ref o0)])) _
      refine XS.iloadN X3.here hx rfl (hb hby own_d5_11) rfl ?_
      show Steps p.tables e below (T3.setTop (mkF m 12 #[.val (.ref o0), .val (.int (1 : Int32)), .val (.ref o2), .val (.int (1 : Int32)), .val (.int (2 : Int32)), .val (.int (1 : Int32)), .val (.int c0)] [(.int (1 : Int32)), (.ref o0)])) _
      refine X3.caload hx (j := (1 : Int32)) (v := (.int c1)) (by rw [e3]; exact Ar10.1) (State.isArrayOf_alike hZ.alike Ar10.2.1) Ar10.2.2 hin10 (Has.at Ha10 hin10 (rfl : (_ : Value) = (.int c1))) (g := (mkF m 12 #[.val (.ref o0), .val (.int (1 : Int32)), .val (.ref o2), .val (.int (1 : Int32)), .val (.int (2 : Int32)), .val (.int (1 : Int32)), .val (.int c0)] [(.int (1 : Int32)), (.ref o0)])) rfl rfl (hb hby own_d5_12) _ ?_
      show Steps p.tables e below (T3.setTop (mkF m 13 #[.val (.ref o0), .val (.int (1 : Int32)), .val (.ref o2), .val (.int (1 : Int32)), .val (.int (2 : Int32)), .val (.int (1 : Int32)), .val (.int c0)] [(.int c1)])) _
      refine XS.istore X3.here hx rfl (hb hby own_d5_13) rfl (l' := #[.val (.ref o0), .val (.int (1 : Int32)), .val (.ref o2), .val (.int (1 : Int32)), .val (.int (2 : Int32)), .val (.int (1 : Int32)), .val (.int c1)]) rfl ?_
      show Steps p.tables e below (T3.setTop (mkF m 15 #[.val (.ref o0), .val (.int (1 : Int32)), .val (.ref o2), .val (.int (1 : Int32)), .val (.int (2 : Int32)), .val (.int (1 : Int32)), .val (.int c1)] [])) _
      refine XS.iload X3.here hx rfl (hb hby own_d5_15) rfl ?_
      show Steps p.tables e below (T3.setTop (mkF m 17 #[.val (.ref o0), .val (.int (1 : Int32)), .val (.ref o2), .val (.int (1 : Int32)), .val (.int (2 : Int32)), .val (.int (1 : Int32)), .val (.int c1)] [(.int c1)])) _
      refine XS.sipush X3.here hx rfl (hb hby own_d5_17) ?_
      show Steps p.tables e below (T3.setTop (mkF m 20 #[.val (.ref o0), .val (.int (1 : Int32)), .val (.ref o2), .val (.int (1 : Int32)), .val (.int (2 : Int32)), .val (.int (1 : Int32)), .val (.int c1)] [(.int (255 : Int32)), (.int c1)])) _
      refine XS.icmpYes X3.here hx rfl (pc0 := 20) (pc' := 26) rfl (hb hby own_d5_20) rfl (flt H1).2.2.2 (by decide) (by decide) ?_
      show Steps p.tables e below (T3.setTop (mkF m 26 #[.val (.ref o0), .val (.int (1 : Int32)), .val (.ref o2), .val (.int (1 : Int32)), .val (.int (2 : Int32)), .val (.int (1 : Int32)), .val (.int c1)] [])) _
      refine XS.aloadN X3.here hx rfl (hb hby own_d5_26) rfl rfl ?_
      show Steps p.tables e below (T3.setTop (mkF m 27 #[.val (.ref o0), .val (.int (1 : Int32)), .val (.ref o2), .val (.int (1 : Int32)), .val (.int (2 : Int32)), .val (.int (1 : Int32)), .val (.int c1)] [(.ref o2)])) _
      refine XS.iloadN X3.here hx rfl (hb hby own_d5_27) rfl ?_
      show Steps p.tables e below (T3.setTop (mkF m 28 #[.val (.ref o0), .val (.int (1 : Int32)), .val (.ref o2), .val (.int (1 : Int32)), .val (.int (2 : Int32)), .val (.int (1 : Int32)), .val (.int c1)] [(.int (1 : Int32)), (.ref o2)])) _
      refine XS.iload X3.here hx rfl (hb hby own_d5_28) rfl ?_
      show Steps p.tables e below (T3.setTop (mkF m 30 #[.val (.ref o0), .val (.int (1 : Int32)), .val (.ref o2), .val (.int (1 : Int32)), .val (.int (2 : Int32)), .val (.int (1 : Int32)), .val (.int c1)] [(.int c1), (.int (1 : Int32)), (.ref o2)])) _
      refine XS.i2b X3.here hx rfl (hb hby own_d5_30) rfl ?_
      show Steps p.tables e below (T3.setTop (mkF m 31 #[.val (.ref o0), .val (.int (1 : Int32)), .val (.ref o2), .val (.int (1 : Int32)), .val (.int (2 : Int32)), .val (.int (1 : Int32)), .val (.int c1)] [(.int (c1.toInt8.toInt32)), (.int (1 : Int32)), (.ref o2)])) _
      refine st12 _ ?_
      show Steps p.tables e below (T12.setTop (mkF m 32 #[.val (.ref o0), .val (.int (1 : Int32)), .val (.ref o2), .val (.int (1 : Int32)), .val (.int (2 : Int32)), .val (.int (1 : Int32)), .val (.int c1)] [])) _
      refine XS.iinc X12.here hx rfl (hb hby own_d5_32) rfl (l' := #[.val (.ref o0), .val (.int (2 : Int32)), .val (.ref o2), .val (.int (1 : Int32)), .val (.int (2 : Int32)), .val (.int (1 : Int32)), .val (.int c1)]) rfl ?_
      show Steps p.tables e below (T12.setTop (mkF m 35 #[.val (.ref o0), .val (.int (2 : Int32)), .val (.ref o2), .val (.int (1 : Int32)), .val (.int (2 : Int32)), .val (.int (1 : Int32)), .val (.int c1)] [])) _
      refine XS.iinc X12.here hx rfl (hb hby own_d5_35) rfl (l' := #[.val (.ref o0), .val (.int (2 : Int32)), .val (.ref o2), .val (.int (2 : Int32)), .val (.int (2 : Int32)), .val (.int (1 : Int32)), .val (.int c1)]) rfl ?_
      show Steps p.tables e below (T12.setTop (mkF m 38 #[.val (.ref o0), .val (.int (2 : Int32)), .val (.ref o2), .val (.int (2 : Int32)), .val (.int (2 : Int32)), .val (.int (1 : Int32)), .val (.int c1)] [])) _
      refine XS.iinc X12.here hx rfl (hb hby own_d5_38) rfl (l' := #[.val (.ref o0), .val (.int (2 : Int32)), .val (.ref o2), .val (.int (2 : Int32)), .val (.int (2 : Int32)), .val (.int (2 : Int32)), .val (.int c1)]) rfl ?_
      show Steps p.tables e below (T12.setTop (mkF m 41 #[.val (.ref o0), .val (.int (2 : Int32)), .val (.ref o2), .val (.int (2 : Int32)), .val (.int (2 : Int32)), .val (.int (2 : Int32)), .val (.int c1)] [])) _
      refine XS.goto X12.here hx rfl (pc0 := 41) (pc' := 3) rfl (hb hby own_d5_41) (by decide) (by decide) ?_
      show Steps p.tables e below (T12.setTop (mkF m 3 #[.val (.ref o0), .val (.int (2 : Int32)), .val (.ref o2), .val (.int (2 : Int32)), .val (.int (2 : Int32)), .val (.int (2 : Int32)), .val (.int c1)] [])) _
      refine XS.iload X12.here hx rfl (hb hby own_d5_3) rfl ?_
      show Steps p.tables e below (T12.setTop (mkF m 5 #[.val (.ref o0), .val (.int (2 : Int32)), .val (.ref o2), .val (.int (2 : Int32)), .val (.int (2 : Int32)), .val (.int (2 : Int32)), .val (.int c1)] [(.int (2 : Int32))])) _
      refine XS.iload X12.here hx rfl (hb hby own_d5_5) rfl ?_
      show Steps p.tables e below (T12.setTop (mkF m 7 #[.val (.ref o0), .val (.int (2 : Int32)), .val (.ref o2), .val (.int (2 : Int32)), .val (.int (2 : Int32)), .val (.int (2 : Int32)), .val (.int c1)] [(.int (2 : Int32)), (.int (2 : Int32))])) _
      refine XS.icmpYes X12.here hx rfl (pc0 := 7) (pc' := 44) rfl (hb hby own_d5_7) rfl (flt (by decide : ¬ ((2 : Int32) < (2 : Int32)))).2.1 (by decide) (by decide) ?_
      show Steps p.tables e below (T12.setTop (mkF m 44 #[.val (.ref o0), .val (.int (2 : Int32)), .val (.ref o2), .val (.int (2 : Int32)), .val (.int (2 : Int32)), .val (.int (2 : Int32)), .val (.int c1)] [])) _
      refine XS.iload X12.here hx rfl (hb hby own_d5_44) rfl ?_
      show Steps p.tables e below (T12.setTop (mkF m 46 #[.val (.ref o0), .val (.int (2 : Int32)), .val (.ref o2), .val (.int (2 : Int32)), .val (.int (2 : Int32)), .val (.int (2 : Int32)), .val (.int c1)] [(.int (2 : Int32))])) _
      exact k)
  obtain ⟨fs, hr, hrun, hended, hW, hsame⟩ := X12.leave (v := some (.int (2 : Int32))) (fun h => by rw [Bd.returns] at h; cases h) (hlocks := hlk)
  refine ⟨_, _, pre18 _ ?_, hrun, hended, _, _, rfl, ?_, ⟨_, rfl⟩, hW, hsame.mono (by decide) (by decide)⟩
  · show Steps p.tables e below (T12.setTop (mkF m 46 #[.val (.ref o0), .val (.int (2 : Int32)), .val (.ref o2), .val (.int (2 : Int32)), .val (.int (2 : Int32)), .val (.int (2 : Int32)), .val (.int c1)] [(.int (2 : Int32))])) _
    exact retI X12 hx Bd.returns (hb hby own_d5_46) hr
  · show own_Q5 Z o0 o2 k_o0 c0 c1 k_o2 h0 n0 _ T12.heap _; rw [e12]; exact ⟨rfl, N16, K17, f13⟩
theorem own_pd0 : parseMethodDescriptor "([CI[BII)I" = some ⟨[(.array .char), .int, (.array .byte), .int, .int], some .int⟩ := by decide +kernel
theorem own_d4_0 : decode jdk_52_method_16_code 0 = .ok (.iload_n 2, 1) := by decide +kernel
theorem own_d4_1 : decode jdk_52_method_16_code 1 = .ok (.newarray .byte, 2) := by decide +kernel
theorem own_d4_3 : decode jdk_52_method_16_code 3 = .ok (.astore_n 3, 1) := by decide +kernel
theorem own_d4_4 : decode jdk_52_method_16_code 4 = .ok (.aload_n 0, 1) := by decide +kernel
theorem own_d4_5 : decode jdk_52_method_16_code 5 = .ok (.iload_n 1, 1) := by decide +kernel
theorem own_d4_6 : decode jdk_52_method_16_code 6 = .ok (.aload_n 3, 1) := by decide +kernel
theorem own_d4_7 : decode jdk_52_method_16_code 7 = .ok (.iconst 0, 1) := by decide +kernel
theorem own_d4_8 : decode jdk_52_method_16_code 8 = .ok (.iload_n 2, 1) := by decide +kernel
theorem own_d4_9 : decode jdk_52_method_16_code 9 = .ok (.invokestatic 115, 3) := by decide +kernel
theorem own_d4_12 : decode jdk_52_method_16_code 12 = .ok (.istore 4, 2) := by decide +kernel
theorem own_d4_14 : decode jdk_52_method_16_code 14 = .ok (.iload 4, 2) := by decide +kernel
theorem own_d4_16 : decode jdk_52_method_16_code 16 = .ok (.iload_n 2, 1) := by decide +kernel
theorem own_d4_17 : decode jdk_52_method_16_code 17 = .ok (.if_icmp .eq 40, 3) := by decide +kernel
theorem own_d4_57 : decode jdk_52_method_16_code 57 = .ok (.aload_n 3, 1) := by decide +kernel
theorem own_d4_58 : decode jdk_52_method_16_code 58 = .ok (.areturn, 1) := by decide +kernel
theorem own_pn4 : plainName "java/lang/StringUTF16" = true := by first | (simp [plainName, overriddenIn]; done) | decide +kernel
theorem own_ef4 (m : MethodId) (x0 : Addr) : entryFrame m #[(.ref x0), (.int (0 : Int32)), (.int (2 : Int32))] 6 = (mkF m 0 #[.val (.ref x0), .val (.int (0 : Int32)), .val (.int (2 : Int32)), .unset, .unset, .unset] []) := by first | (simp [entryFrame, mkF, argsToLocals, Value.category]; done) | rfl
def own_Q4 (Z : State) (o0 : Addr) (k_o0 : ClassId) (c0 : Int32) (c1 : Int32) (h0 : Heap) (n0 : Nat) (v : Option Value) (h : Heap) (L : List Loc) : Prop := ∃ b1 : Addr, ∃ k1 : ClassId, v = some (.ref b1) ∧ Fr n0 L ∧ Keep h0 h [] ∧ h0.size ≤ b1 ∧ Arv Z h b1 k1 .byte (2 : Int32) [(.int (nar .byte (c0.toInt8.toInt32))), (.int (nar .byte (c1.toInt8.toInt32)))] (.int (0 : Int32))
set_option maxRecDepth 65536 in
set_option maxHeartbeats 40000000 in
theorem own_rm4 (l : Launch) (Z : State) (a0 : Array Value) (hw : ∀ d ∈ tables_1, d.before a0 Z = true) (ws : List Jvm.Cond) (o0 : Addr) (k_o0 : ClassId) (c0 : Int32) (c1 : Int32) (h0 : Heap) (n0 : Nat) (Z0 : n0 ≤ h0.size) (P_V_o0 : Arv Z h0 o0 k_o0 .char (2 : Int32) [(.int c0), (.int c1)] (.int (0 : Int32))) (H0_1 : ¬ ((255 : Int32) < c0)) (H1_2 : ¬ ((255 : Int32) < c1)) :
    MetFree l (⟨"java/lang/StringUTF16", "compress", "([CII)[B"⟩ : MethodName) (head1 (Jvm.Cond.code (⟨"java/lang/StringUTF16", "compress", "([CII)[B"⟩ : MethodName) jdk_52_method_16_code 6 (some (.array .byte)) :: ws) ({ frames := 1, cells := 1, slots := 2, locals := 18 } : Room)) (fun a U => a = #[(.ref o0), (.int (0 : Int32)), (.int (2 : Int32))] ∧ Z.Warmed39 U.vm ∧ U.heap = h0) (fun _ _ _ _ _ => True) (fun _ U o U' => ∃ v L, o = .returned v ∧ own_Q4 Z o0 k_o0 c0 c1 h0 n0 v U'.heap L ∧ FrameEnd U o U' L ({ frames := 1, cells := 1, slots := 2, locals := 18 } : Room).cells ({ frames := 1, cells := 1, slots := 2, locals := 18 } : Room).slots) := by
  refine MetFree.of_bodySF (plainFor_of_name own_pn4) hisR ?_
  intro p e s m args below meth c s₁ Bd hml0 hP hK
  obtain ⟨rfl, hZ, hh⟩ := hP
  have hx := Bd.exec
  have hlk : meth.locks = false := BodyLoose.notSynchronized Bd
  have hby := Bd.bytes
  have hml : c.maxLocals = 6 := hml0
  have hown : s.vm.findClass "java/lang/StringUTF16" = some m.cls := findClass_of_methodNamed Bd.named
  have hnm := (name_of_methodNamed Bd.named Bd.method).1
  have X0 : Stand p l e ({ frames := 1, cells := 1, slots := 2, locals := 18 } : Room) s m #[(.ref o0), (.int (0 : Int32)), (.int (2 : Int32))] below meth c s₁ [] 0 0 := Stand.of_body Bd
  have e0 : s₁.heap = h0 := by rw [← hh, Bd.state]; rfl
  have N0 := Fr.nil n0
  have pre0 : ∀ t, Steps p.tables e below (s₁.setTop (mkF m 0 #[.val (.ref o0), .val (.int (0 : Int32)), .val (.int (2 : Int32)), .unset, .unset, .unset] [])) t → Steps p.tables e below (s₁.setTop (entryFrame m #[(.ref o0), (.int (0 : Int32)), (.int (2 : Int32))] 6)) t := fun t k => castTop (own_ef4 m o0) k
  obtain ⟨T1, h1, k1, X1, e1, E1, A1, st1⟩ := newP X0 hx hZ (hw _ (List.mem_of_getElem? (i := 19) rfl)) e0 (g := (mkF m 1 #[.val (.ref o0), .val (.int (0 : Int32)), .val (.int (2 : Int32)), .unset, .unset, .unset] [(.int (2 : Int32))])) rfl (hb hby own_d4_1) rfl (by decide) (cap := 2) (by decide) (by decide) (by decide) (by decide)
  obtain ⟨b1, g1⟩ : ∃ z, z = h0.size := ⟨_, rfl⟩
  rw [← g1] at A1 st1
  have g_b1 : n0 ≤ b1 := Nat.le_trans Z0 (Nat.le_of_eq g1.symm)
  have K2 : Keep h0 h0 [] := Keep.refl h0 []
  have sz_b1 : h0.size ≤ b1 := Nat.le_trans K2.1 (Nat.le_of_eq g1.symm)
  have lt3 : o0 < b1 := Nat.lt_of_lt_of_le P_V_o0.lt (Nat.le_of_eq g1.symm)
  have f4 : Arv Z h1 o0 k_o0 .char (2 : Int32) [(.int c0), (.int c1)] (.int (0 : Int32)) := P_V_o0.ext E1
  have zs5 : n0 ≤ h1.size := Nat.le_trans Z0 E1.1
  have K6 : Keep h0 h1 [] := K2.ext E1
  have f7 : Arv Z h1 b1 k1 .byte (2 : Int32) [(.int (0 : Int32)), (.int (0 : Int32))] (.int (0 : Int32)) := (Arv.new A1 (by decide)).pad (pad_rep [] (.int (0 : Int32)) 2)
  obtain ⟨_, _, ⟨T8, L8, k8, n8⟩, -, X8, ⟨Lc8, hQ8, l8, y8, z8⟩, st8⟩ := Jvm.LawKit.callS X1 hx (y := (⟨"java/lang/StringUTF16", "compress", "([CI[BII)I"⟩ : MethodName)) hown (mvT hZ (hw _ (List.mem_of_getElem? (i := 20) rfl))) (mvT hZ (hw _ (List.mem_of_getElem? (i := 21) rfl))) (mvT hZ (hw _ (List.mem_of_getElem? (i := 17) rfl))) (mvT hZ (hw _ (List.mem_of_getElem? (i := 22) rfl))) (by decide) (backOf (W := 0) (own_rm5 l Z a0 hw [] o0 b1 k_o0 c0 c1 k1 h1 n0 zs5 (Nat.ne_of_lt lt3) H0_1 H1_2 f4 f7 g_b1) hZ (hw _ (List.mem_of_getElem? (i := 22) rfl)) (hw _ (List.mem_of_getElem? (i := 17) rfl)) (by decide) (by decide)) (g := (mkF m 9 #[.val (.ref o0), .val (.int (0 : Int32)), .val (.int (2 : Int32)), .val (.ref b1), .unset, .unset] [(.int (2 : Int32)), (.int (0 : Int32)), (.ref b1), (.int (0 : Int32)), (.ref o0)])) rfl (by rw [hml]; rfl) (argsL := [(.ref o0), (.int (0 : Int32)), (.ref b1), (.int (0 : Int32)), (.int (2 : Int32))]) (rest := []) (lenOf own_pd0 rfl) rfl (by show 2 * 0 + _ ≤ _; exact Nat.le_of_eq rfl) (hb hby own_d4_9) (fun _ _ => ⟨rfl, e1, (by decide : 1 + 0 ≤ _), (by decide : 2 + 0 ≤ _)⟩)
  dsimp only [Pt.U, Pt.locs, Pt.cells, Pt.slots] at X8 l8 y8 z8 st8 hQ8
  subst l8 y8 z8
  obtain ⟨rfl, N8q, K8, f9⟩ := hQ8
  have f10 : Arv Z T8.heap o0 k_o0 .char (2 : Int32) [(.int c0), (.int c1)] (.int (0 : Int32)) := f4.keep K8 (ninS (Nat.ne_of_lt lt3) nin0)
  have zs11 : n0 ≤ T8.heap.size := Nat.le_trans zs5 K8.1
  have K12 : Keep h0 T8.heap [] := K6.trans K8 (allS (Or.inr sz_b1) all0)
  have N13 := Fr.app N0 N8q
  have pre14 : ∀ t, Steps p.tables e below (T8.setTop (mkF m 58 #[.val (.ref o0), .val (.int (0 : Int32)), .val (.int (2 : Int32)), .val (.ref b1), .val (.int (2 : Int32)), .unset] [(.ref b1)])) t → Steps p.tables e below (s₁.setTop (entryFrame m #[(.ref o0), (.int (0 : Int32)), (.int (2 : Int32))] 6)) t := fun t k => pre0 t (by
      refine XS.iloadN X0.here hx rfl (hb hby own_d4_0) rfl ?_
      show Steps p.tables e below (s₁.setTop (mkF m 1 #[.val (.ref o0), .val (.int (0 : Int32)), .val (.int (2 : Int32)), .unset, .unset, .unset] [(.int (2 : Int32))])) _
      refine st1 _ ?_
      show Steps p.tables e below (T1.setTop (mkF m 3 #[.val (.ref o0), .val (.int (0 : Int32)), .val (.int (2 : Int32)), .unset, .unset, .unset] [(.ref b1)])) _
      refine XS.astoreN X1.here hx rfl (hb hby own_d4_3) rfl rfl (l' := #[.val (.ref o0), .val (.int (0 : Int32)), .val (.int (2 : Int32)), .val (.ref b1), .unset, .unset]) rfl ?_
      show Steps p.tables e below (T1.setTop (mkF m 4 #[.val (.ref o0), .val (.int (0 : Int32)), .val (.int (2 : Int32)), .val (.ref b1), .unset, .unset] [])) _
      refine XS.aloadN X1.here hx rfl (hb hby own_d4_4) rfl rfl ?_
      show Steps p.tables e below (T1.setTop (mkF m 5 #[.val (.ref o0), .val (.int (0 : Int32)), .val (.int (2 : Int32)), .val (.ref b1), .unset, .unset] [(.ref o0)])) _
      refine XS.iloadN X1.here hx rfl (hb hby own_d4_5) rfl ?_
      show Steps p.tables e below (T1.setTop (mkF m 6 #[.val (.ref o0), .val (.int (0 : Int32)), .val (.int (2 : Int32)), .val (.ref b1), .unset, .unset] [(.int (0 : Int32)), (.ref o0)])) _
      refine XS.aloadN X1.here hx rfl (hb hby own_d4_6) rfl rfl ?_
      show Steps p.tables e below (T1.setTop (mkF m 7 #[.val (.ref o0), .val (.int (0 : Int32)), .val (.int (2 : Int32)), .val (.ref b1), .unset, .unset] [(.ref b1), (.int (0 : Int32)), (.ref o0)])) _
      refine XS.iconst X1.here hx rfl (hb hby own_d4_7) ?_
      show Steps p.tables e below (T1.setTop (mkF m 8 #[.val (.ref o0), .val (.int (0 : Int32)), .val (.int (2 : Int32)), .val (.ref b1), .unset, .unset] [(.int (0 : Int32)), (.ref b1), (.int (0 : Int32)), (.ref o0)])) _
      refine XS.iloadN X1.here hx rfl (hb hby own_d4_8) rfl ?_
      show Steps p.tables e below (T1.setTop (mkF m 9 #[.val (.ref o0), .val (.int (0 : Int32)), .val (.int (2 : Int32)), .val (.ref b1), .unset, .unset] [(.int (2 : Int32)), (.int (0 : Int32)), (.ref b1), (.int (0 : Int32)), (.ref o0)])) _
      refine st8 _ ?_
      show Steps p.tables e below (T8.setTop (mkF m 12 #[.val (.ref o0), .val (.int (0 : Int32)), .val (.int (2 : Int32)), .val (.ref b1), .unset, .unset] [(.int (2 : Int32))])) _
      refine XS.istore X8.here hx rfl (hb hby own_d4_12) rfl (l' := #[.val (.ref o0), .val (.int (0 : Int32)), .val (.int (2 : Int32)), .val (.ref b1), .val (.int (2 : Int32)), .unset]) rfl ?_
      show Steps p.tables e below (T8.setTop (mkF m 14 #[.val (.ref o0), .val (.int (0 : Int32)), .val (.int (2 : Int32)), .val (.ref b1), .val (.int (2 : Int32)), .unset] [])) _
      refine XS.iload X8.here hx rfl (hb hby own_d4_14) rfl ?_
      show Steps p.tables e below (T8.setTop (mkF m 16 #[.val (.ref o0), .val (.int (0 : Int32)), .val (.int (2 : Int32)), .val (.ref b1), .val (.int (2 : Int32)), .unset] [(.int (2 : Int32))])) _
      refine XS.iloadN X8.here hx rfl (hb hby own_d4_16) rfl ?_
      show Steps p.tables e below (T8.setTop (mkF m 17 #[.val (.ref o0), .val (.int (0 : Int32)), .val (.int (2 : Int32)), .val (.ref b1), .val (.int (2 : Int32)), .unset] [(.int (2 : Int32)), (.int (2 : Int32))])) _
      refine XS.icmpYes X8.here hx rfl (pc0 := 17) (pc' := 57) rfl (hb hby own_d4_17) rfl (teq (by decide : (2 : Int32) = (2 : Int32))).1 (by decide) (by decide) ?_
      show Steps p.tables e below (T8.setTop (mkF m 57 #[.val (.ref o0), .val (.int (0 : Int32)), .val (.int (2 : Int32)), .val (.ref b1), .val (.int (2 : Int32)), .unset] [])) _
      refine XS.aloadN X8.here hx rfl (hb hby own_d4_57) rfl rfl ?_
      show Steps p.tables e below (T8.setTop (mkF m 58 #[.val (.ref o0), .val (.int (0 : Int32)), .val (.int (2 : Int32)), .val (.ref b1), .val (.int (2 : Int32)), .unset] [(.ref b1)])) _
      exact k)
  obtain ⟨fs, hr, hrun, hended, hW, hsame⟩ := X8.leave (v := some (.ref b1)) (fun h => by rw [Bd.returns] at h; cases h) (hlocks := hlk)
  refine ⟨_, _, pre14 _ ?_, hrun, hended, _, _, rfl, ?_, ⟨_, rfl⟩, hW, hsame.mono (by decide) (by decide)⟩
  · show Steps p.tables e below (T8.setTop (mkF m 58 #[.val (.ref o0), .val (.int (0 : Int32)), .val (.int (2 : Int32)), .val (.ref b1), .val (.int (2 : Int32)), .unset] [(.ref b1)])) _
    jvm_step X8.here [X8.here.top, hx, (hb hby own_d4_58), X8.method', Bd.returns, Value.isRef, FieldType.isReference]
    first | (intro acts; rw [hr _ acts rfl rfl rfl]) | rw [hr _ _ rfl rfl rfl]
    exact Steps.refl _
  · show own_Q4 Z o0 k_o0 c0 c1 h0 n0 _ T8.heap _; exact ⟨b1, k1, rfl, N13, K12, sz_b1, f9⟩
theorem own_d6_0 : decode jdk_52_method_15_code 0 = .ok (.iload_n 1, 1) := by decide +kernel
theorem own_d6_1 : decode jdk_52_method_15_code 1 = .ok (.aload_n 0, 1) := by decide +kernel
theorem own_d6_2 : decode jdk_52_method_15_code 2 = .ok (.arraylength, 1) := by decide +kernel
theorem own_d6_3 : decode jdk_52_method_15_code 3 = .ok (.isub, 1) := by decide +kernel
theorem own_d6_4 : decode jdk_52_method_15_code 4 = .ok (.bipush 31, 2) := by decide +kernel
theorem own_d6_6 : decode jdk_52_method_15_code 6 = .ok (.iushr, 1) := by decide +kernel
theorem own_d6_7 : decode jdk_52_method_15_code 7 = .ok (.i2b, 1) := by decide +kernel
theorem own_d6_8 : decode jdk_52_method_15_code 8 = .ok (.ireturn, 1) := by decide +kernel
theorem own_pn6 : plainName "java/lang/StringUTF16" = true := by first | (simp [plainName, overriddenIn]; done) | decide +kernel
theorem own_ef6 (m : MethodId) (x0 : Addr) : entryFrame m #[(.ref x0), (.int (2 : Int32))] 2 = (mkF m 0 #[.val (.ref x0), .val (.int (2 : Int32))] []) := by first | (simp [entryFrame, mkF, argsToLocals, Value.category]; done) | rfl
def own_Q6 (Z : State) (o0 : Addr) (k_o0 : ClassId) (d0 : Int32) (d1 : Int32) (h0 : Heap) (n0 : Nat) (v : Option Value) (h : Heap) (L : List Loc) : Prop := v = some (.int (0 : Int32)) ∧ Fr n0 L ∧ h = h0
set_option maxRecDepth 65536 in
set_option maxHeartbeats 40000000 in
theorem own_rm6 (l : Launch) (Z : State) (a0 : Array Value) (hw : ∀ d ∈ tables_1, d.before a0 Z = true) (ws : List Jvm.Cond) (o0 : Addr) (k_o0 : ClassId) (d0 : Int32) (d1 : Int32) (h0 : Heap) (n0 : Nat) (Z0 : n0 ≤ h0.size) (P_V_o0 : Arv Z h0 o0 k_o0 .byte (2 : Int32) [(.int d0), (.int d1)] (.int (0 : Int32))) :
    MetFree l (⟨"java/lang/StringUTF16", "coderFromArrayLen", "([BI)B"⟩ : MethodName) (head1 (Jvm.Cond.code (⟨"java/lang/StringUTF16", "coderFromArrayLen", "([BI)B"⟩ : MethodName) jdk_52_method_15_code 2 (some .byte) :: ws) ({ frames := 0, cells := 0, slots := 0, locals := 0 } : Room)) (fun a U => a = #[(.ref o0), (.int (2 : Int32))] ∧ Z.Warmed39 U.vm ∧ U.heap = h0) (fun _ _ _ _ _ => True) (fun _ U o U' => ∃ v L, o = .returned v ∧ own_Q6 Z o0 k_o0 d0 d1 h0 n0 v U'.heap L ∧ FrameEnd U o U' L ({ frames := 0, cells := 0, slots := 0, locals := 0 } : Room).cells ({ frames := 0, cells := 0, slots := 0, locals := 0 } : Room).slots) := by
  refine MetFree.of_bodySF (plainFor_of_name own_pn6) hisR ?_
  intro p e s m args below meth c s₁ Bd hml0 hP hK
  obtain ⟨rfl, hZ, hh⟩ := hP
  have hx := Bd.exec
  have hlk : meth.locks = false := BodyLoose.notSynchronized Bd
  have hby := Bd.bytes
  have hml : c.maxLocals = 2 := hml0
  have hown : s.vm.findClass "java/lang/StringUTF16" = some m.cls := findClass_of_methodNamed Bd.named
  have hnm := (name_of_methodNamed Bd.named Bd.method).1
  have X0 : Stand p l e ({ frames := 0, cells := 0, slots := 0, locals := 0 } : Room) s m #[(.ref o0), (.int (2 : Int32))] below meth c s₁ [] 0 0 := Stand.of_body Bd
  have e0 : s₁.heap = h0 := by rw [← hh, Bd.state]; rfl
  have N0 := Fr.nil n0
  have pre0 : ∀ t, Steps p.tables e below (s₁.setTop (mkF m 0 #[.val (.ref o0), .val (.int (2 : Int32))] [])) t → Steps p.tables e below (s₁.setTop (entryFrame m #[(.ref o0), (.int (2 : Int32))] 2)) t := fun t k => castTop (own_ef6 m o0) k
  obtain ⟨cl1, Ar1, q1, S1, N_1, Ha1, G1⟩ := id P_V_o0
  have pre2 : ∀ t, Steps p.tables e below (s₁.setTop (mkF m 8 #[.val (.ref o0), .val (.int (2 : Int32))] [(.int (0 : Int32))])) t → Steps p.tables e below (s₁.setTop (entryFrame m #[(.ref o0), (.int (2 : Int32))] 2)) t := fun t k => pre0 t (by
      refine XS.iloadN X0.here hx rfl (hb hby own_d6_0) rfl ?_
      show Steps p.tables e below (s₁.setTop (mkF m 1 #[.val (.ref o0), .val (.int (2 : Int32))] [(.int (2 : Int32))])) _
      refine XS.aloadN X0.here hx rfl (hb hby own_d6_1) rfl rfl ?_
      show Steps p.tables e below (s₁.setTop (mkF m 2 #[.val (.ref o0), .val (.int (2 : Int32))] [(.ref o0), (.int (2 : Int32))])) _
      refine X0.arraylength hx (by rw [e0]; exact Ar1.1) (State.isArrayOf_alike hZ.alike Ar1.2.1) (g := (mkF m 2 #[.val (.ref o0), .val (.int (2 : Int32))] [(.ref o0), (.int (2 : Int32))])) rfl rfl (hb hby own_d6_2) _ ?_
      rw [len_of S1 N_1]
      show Steps p.tables e below (s₁.setTop (mkF m 3 #[.val (.ref o0), .val (.int (2 : Int32))] [(.int (2 : Int32)), (.int (2 : Int32))])) _
      refine XS.isub X0.here hx rfl (hb hby own_d6_3) rfl ?_
      show Steps p.tables e below (s₁.setTop (mkF m 4 #[.val (.ref o0), .val (.int (2 : Int32))] [(.int (0 : Int32))])) _
      refine XS.bipush X0.here hx rfl (hb hby own_d6_4) ?_
      show Steps p.tables e below (s₁.setTop (mkF m 6 #[.val (.ref o0), .val (.int (2 : Int32))] [(.int (31 : Int32)), (.int (0 : Int32))])) _
      refine XS.iushr X0.here hx rfl (hb hby own_d6_6) rfl ?_
      show Steps p.tables e below (s₁.setTop (mkF m 7 #[.val (.ref o0), .val (.int (2 : Int32))] [(.int (0 : Int32))])) _
      refine XS.i2b X0.here hx rfl (hb hby own_d6_7) rfl ?_
      show Steps p.tables e below (s₁.setTop (mkF m 8 #[.val (.ref o0), .val (.int (2 : Int32))] [(.int (0 : Int32))])) _
      exact k)
  obtain ⟨fs, hr, hrun, hended, hW, hsame⟩ := X0.leave (v := some (.int (0 : Int32))) (fun h => by rw [Bd.returns] at h; cases h) (hlocks := hlk)
  refine ⟨_, _, pre2 _ ?_, hrun, hended, _, _, rfl, ?_, ⟨_, rfl⟩, hW, hsame.mono (by decide) (by decide)⟩
  · show Steps p.tables e below (s₁.setTop (mkF m 8 #[.val (.ref o0), .val (.int (2 : Int32))] [(.int (0 : Int32))])) _
    exact retN X0 hx (t := .byte) Bd.returns (by simp) (hb hby own_d6_8) hr
  · show own_Q6 Z o0 k_o0 d0 d1 h0 n0 _ s₁.heap _; rw [e0]; exact ⟨rfl, N0, rfl⟩
theorem own_pd1 : parseMethodDescriptor "([CII)[B" = some ⟨[(.array .char), .int, .int], some (.array .byte)⟩ := by decide +kernel
theorem own_pd2 : parseMethodDescriptor "([BI)B" = some ⟨[(.array .byte), .int], some .byte⟩ := by decide +kernel
theorem own_d2_0 : decode jdk_42_method_149_code 0 = .ok (.aload_n 0, 1) := by decide +kernel
theorem own_d2_1 : decode jdk_42_method_149_code 1 = .ok (.invokespecial 1, 3) := by decide +kernel
theorem own_d2_4 : decode jdk_42_method_149_code 4 = .ok (.iload_n 3, 1) := by decide +kernel
theorem own_d2_5 : decode jdk_42_method_149_code 5 = .ok (.ifCond .ne 22, 3) := by decide +kernel
theorem own_d2_27 : decode jdk_42_method_149_code 27 = .ok (.getstatic 38, 3) := by decide +kernel
theorem own_d2_30 : decode jdk_42_method_149_code 30 = .ok (.ifCond .eq 28, 3) := by decide +kernel
theorem own_d2_33 : decode jdk_42_method_149_code 33 = .ok (.aload_n 1, 1) := by decide +kernel
theorem own_d2_34 : decode jdk_42_method_149_code 34 = .ok (.iload_n 2, 1) := by decide +kernel
theorem own_d2_35 : decode jdk_42_method_149_code 35 = .ok (.iload_n 3, 1) := by decide +kernel
theorem own_d2_36 : decode jdk_42_method_149_code 36 = .ok (.invokestatic 177, 3) := by decide +kernel
theorem own_d2_39 : decode jdk_42_method_149_code 39 = .ok (.astore 5, 2) := by decide +kernel
theorem own_d2_41 : decode jdk_42_method_149_code 41 = .ok (.aload_n 0, 1) := by decide +kernel
theorem own_d2_42 : decode jdk_42_method_149_code 42 = .ok (.aload 5, 2) := by decide +kernel
theorem own_d2_44 : decode jdk_42_method_149_code 44 = .ok (.iload_n 3, 1) := by decide +kernel
theorem own_d2_45 : decode jdk_42_method_149_code 45 = .ok (.invokestatic 47, 3) := by decide +kernel
theorem own_d2_48 : decode jdk_42_method_149_code 48 = .ok (.putfield 15, 3) := by decide +kernel
theorem own_d2_51 : decode jdk_42_method_149_code 51 = .ok (.aload_n 0, 1) := by decide +kernel
theorem own_d2_52 : decode jdk_42_method_149_code 52 = .ok (.aload 5, 2) := by decide +kernel
theorem own_d2_54 : decode jdk_42_method_149_code 54 = .ok (.putfield 9, 3) := by decide +kernel
theorem own_d2_57 : decode jdk_42_method_149_code 57 = .ok (.return_, 1) := by decide +kernel
theorem own_pn2 : plainName "java/lang/String" = true := by first | (simp [plainName, overriddenIn]; done) | decide +kernel
theorem own_ef2 (m : MethodId) (x0 : Addr) (x1 : Addr) : entryFrame m #[(.ref x0), (.ref x1), (.int (0 : Int32)), (.int (2 : Int32)), .null] 6 = (mkF m 0 #[.val (.ref x0), .val (.ref x1), .val (.int (0 : Int32)), .val (.int (2 : Int32)), .val .null, .unset] []) := by first | (simp [entryFrame, mkF, argsToLocals, Value.category]; done) | rfl
def own_Q2 (Z : State) (o0 : Addr) (o1 : Addr) (k_o1 : ClassId) (c0 : Int32) (c1 : Int32) (z_COMPACT_STRINGS : Int32) (u_coder_o0 : Value) (u_value_o0 : Value) (h0 : Heap) (n0 : Nat) (v : Option Value) (h : Heap) (L : List Loc) : Prop := ∃ b1_3 : Addr, ∃ k1_3 : ClassId, v = none ∧ Fr n0 L ∧ Keep h0 h [o0] ∧ h0.size ≤ b1_3 ∧ Exa Z h o0 "java/lang/String" ∧ Fld Z h o0 "java/lang/String" "coder" "B" (.int (0 : Int32)) ∧ Fld Z h o0 "java/lang/String" "value" "[B" (.ref b1_3) ∧ Arv Z h b1_3 k1_3 .byte (2 : Int32) [(.int (nar .byte (c0.toInt8.toInt32))), (.int (nar .byte (c1.toInt8.toInt32)))] (.int (0 : Int32))
set_option maxRecDepth 65536 in
set_option maxHeartbeats 40000000 in
theorem own_rm2 (l : Launch) (Z : State) (a0 : Array Value) (hw : ∀ d ∈ tables_1, d.before a0 Z = true) (ws : List Jvm.Cond) (o0 : Addr) (o1 : Addr) (k_o1 : ClassId) (c0 : Int32) (c1 : Int32) (z_COMPACT_STRINGS : Int32) (u_coder_o0 : Value) (u_value_o0 : Value) (h0 : Heap) (n0 : Nat) (Z0 : n0 ≤ h0.size) (HC : ¬ (z_COMPACT_STRINGS = (0 : Int32))) (P_S_java_lang_String_COMPACT_STRINGS : Sta Z h0 "java/lang/String" "COMPACT_STRINGS" "Z" (.int z_COMPACT_STRINGS)) (P_V_o1 : Arv Z h0 o1 k_o1 .char (2 : Int32) [(.int c0), (.int c1)] (.int (0 : Int32))) (P_E_o0 : Exa Z h0 o0 "java/lang/String") (P_F_o0_coder : Fld Z h0 o0 "java/lang/String" "coder" "B" u_coder_o0) (P_F_o0_value : Fld Z h0 o0 "java/lang/String" "value" "[B" u_value_o0) (H0_1_6 : ¬ ((255 : Int32) < c0)) (H1_2_7 : ¬ ((255 : Int32) < c1)) (G_o0 : n0 ≤ o0) :
    MetFree l (⟨"java/lang/String", "<init>", "([CIILjava/lang/Void;)V"⟩ : MethodName) (head1 (Jvm.Cond.code (⟨"java/lang/String", "<init>", "([CIILjava/lang/Void;)V"⟩ : MethodName) jdk_42_method_149_code 6 none :: ws) ({ frames := 2, cells := 1, slots := 2, locals := 35 } : Room)) (fun a U => a = #[(.ref o0), (.ref o1), (.int (0 : Int32)), (.int (2 : Int32)), .null] ∧ Z.Warmed39 U.vm ∧ U.heap = h0) (fun _ _ _ _ _ => True) (fun _ U o U' => ∃ v L, o = .returned v ∧ own_Q2 Z o0 o1 k_o1 c0 c1 z_COMPACT_STRINGS u_coder_o0 u_value_o0 h0 n0 v U'.heap L ∧ FrameEnd U o U' L ({ frames := 2, cells := 1, slots := 2, locals := 35 } : Room).cells ({ frames := 2, cells := 1, slots := 2, locals := 35 } : Room).slots) := by
  refine MetFree.of_bodySF (plainFor_of_name own_pn2) hisR ?_
  intro p e s m args below meth c s₁ Bd hml0 hP hK
  obtain ⟨rfl, hZ, hh⟩ := hP
  have hx := Bd.exec
  have hlk : meth.locks = false := BodyLoose.notSynchronized Bd
  have hby := Bd.bytes
  have hml : c.maxLocals = 6 := hml0
  have hown : s.vm.findClass "java/lang/String" = some m.cls := findClass_of_methodNamed Bd.named
  have hnm := (name_of_methodNamed Bd.named Bd.method).1
  have X0 : Stand p l e ({ frames := 2, cells := 1, slots := 2, locals := 35 } : Room) s m #[(.ref o0), (.ref o1), (.int (0 : Int32)), (.int (2 : Int32)), .null] below meth c s₁ [] 0 0 := Stand.of_body Bd
  have e0 : s₁.heap = h0 := by rw [← hh, Bd.state]; rfl
  have N0 := Fr.nil n0
  have pre0 : ∀ t, Steps p.tables e below (s₁.setTop (mkF m 0 #[.val (.ref o0), .val (.ref o1), .val (.int (0 : Int32)), .val (.int (2 : Int32)), .val .null, .unset] [])) t → Steps p.tables e below (s₁.setTop (entryFrame m #[(.ref o0), (.ref o1), (.int (0 : Int32)), (.int (2 : Int32)), .null] 6)) t := fun t k => castTop (own_ef2 m o0 o1) k
  obtain ⟨T1, X1, e1, st1⟩ := initO X0 hx hZ hown (hw _ (List.mem_of_getElem? (i := 11) rfl)) (hw _ (List.mem_of_getElem? (i := 12) rfl)) (hw _ (List.mem_of_getElem? (i := 13) rfl)) e0 (g := (mkF m 1 #[.val (.ref o0), .val (.ref o1), .val (.int (0 : Int32)), .val (.int (2 : Int32)), .val .null, .unset] [(.ref o0)])) rfl (by rw [hml]; rfl) rfl (hb hby own_d2_1) (by decide) (W := 0) (by show 2 * 0 + _ ≤ _; exact Nat.le_of_eq rfl) (by decide)
  obtain ⟨T2, X2, e2, st2⟩ := getS2 X1 hx hZ hown (host := "") (Or.inl (hw _ (List.mem_of_getElem? (i := 14) rfl))) Via.refl e1 P_S_java_lang_String_COMPACT_STRINGS (g := (mkF m 27 #[.val (.ref o0), .val (.ref o1), .val (.int (0 : Int32)), .val (.int (2 : Int32)), .val .null, .unset] [])) rfl (hb hby own_d2_27)
  obtain ⟨_, _, ⟨T3, L3, k3, n3⟩, -, X3, ⟨Lc3, hQ3, l3, y3, z3⟩, st3⟩ := Jvm.LawKit.callS X2 hx (y := (⟨"java/lang/StringUTF16", "compress", "([CII)[B"⟩ : MethodName)) hown (mvT hZ (hw _ (List.mem_of_getElem? (i := 15) rfl))) (mvT hZ (hw _ (List.mem_of_getElem? (i := 16) rfl))) (mvT hZ (hw _ (List.mem_of_getElem? (i := 17) rfl))) (mvT hZ (hw _ (List.mem_of_getElem? (i := 18) rfl))) (by decide) (backOf (W := 0) (own_rm4 l Z a0 hw [] o1 k_o1 c0 c1 h0 n0 Z0 P_V_o1 H0_1_6 H1_2_7) hZ (hw _ (List.mem_of_getElem? (i := 18) rfl)) (hw _ (List.mem_of_getElem? (i := 17) rfl)) (by decide) (by decide)) (g := (mkF m 36 #[.val (.ref o0), .val (.ref o1), .val (.int (0 : Int32)), .val (.int (2 : Int32)), .val .null, .unset] [(.int (2 : Int32)), (.int (0 : Int32)), (.ref o1)])) rfl (by rw [hml]; rfl) (argsL := [(.ref o1), (.int (0 : Int32)), (.int (2 : Int32))]) (rest := []) (lenOf own_pd1 rfl) rfl (by show 2 * 0 + _ ≤ _; exact Nat.le_of_eq rfl) (hb hby own_d2_36) (fun _ _ => ⟨rfl, e2, (by decide : 0 + 1 ≤ _), (by decide : 0 + 2 ≤ _)⟩)
  dsimp only [Pt.U, Pt.locs, Pt.cells, Pt.slots] at X3 l3 y3 z3 st3 hQ3
  subst l3 y3 z3
  obtain ⟨b1_3, k1_3, rfl, N3q, K3, sqb1_3_3, f4⟩ := hQ3
  have g_b1_3 : n0 ≤ b1_3 := Nat.le_trans Z0 sqb1_3_3
  have sz_b1_3 : h0.size ≤ b1_3 := Nat.le_trans (Nat.le_refl _) sqb1_3_3
  have lt5 : o1 < b1_3 := Nat.lt_of_lt_of_le P_V_o1.lt sqb1_3_3
  have lt6 : o0 < b1_3 := Nat.lt_of_lt_of_le P_F_o0_value.lt sqb1_3_3
  have f7 : Arv Z T3.heap o1 k_o1 .char (2 : Int32) [(.int c0), (.int c1)] (.int (0 : Int32)) := P_V_o1.keep K3 nin0
  have f8 : Exa Z T3.heap o0 "java/lang/String" := P_E_o0.keep K3
  have f9 : Fld Z T3.heap o0 "java/lang/String" "coder" "B" u_coder_o0 := P_F_o0_coder.keep K3 nin0
  have f10 : Fld Z T3.heap o0 "java/lang/String" "value" "[B" u_value_o0 := P_F_o0_value.keep K3 nin0
  have zs11 : n0 ≤ T3.heap.size := Nat.le_trans Z0 K3.1
  have K12 : Keep h0 h0 [o0] := Keep.refl h0 [o0]
  have K13 : Keep h0 T3.heap [o0] := K12.trans K3 all0
  have N14 := Fr.app N0 N3q
  obtain ⟨_, _, ⟨T15, L15, k15, n15⟩, -, X15, ⟨Lc15, hQ15, l15, y15, z15⟩, st15⟩ := Jvm.LawKit.callS X3 hx (y := (⟨"java/lang/StringUTF16", "coderFromArrayLen", "([BI)B"⟩ : MethodName)) hown (mvT hZ (hw _ (List.mem_of_getElem? (i := 23) rfl))) (mvT hZ (hw _ (List.mem_of_getElem? (i := 24) rfl))) (mvT hZ (hw _ (List.mem_of_getElem? (i := 17) rfl))) (mvT hZ (hw _ (List.mem_of_getElem? (i := 25) rfl))) (by decide) (backOf (W := 1) (own_rm6 l Z a0 hw [] b1_3 k1_3 (nar .byte (c0.toInt8.toInt32)) (nar .byte (c1.toInt8.toInt32)) T3.heap n0 zs11 f4) hZ (hw _ (List.mem_of_getElem? (i := 25) rfl)) (hw _ (List.mem_of_getElem? (i := 17) rfl)) (by decide) (by decide)) (g := (mkF m 45 #[.val (.ref o0), .val (.ref o1), .val (.int (0 : Int32)), .val (.int (2 : Int32)), .val .null, .val (.ref b1_3)] [(.int (2 : Int32)), (.ref b1_3), (.ref o0)])) rfl (by rw [hml]; rfl) (argsL := [(.ref b1_3), (.int (2 : Int32))]) (rest := [(.ref o0)]) (lenOf own_pd2 rfl) rfl (by show 2 * 0 + _ ≤ _; exact Nat.le_of_eq rfl) (hb hby own_d2_45) (fun _ _ => ⟨rfl, rfl, (by decide : 1 + 0 ≤ _), (by decide : 2 + 0 ≤ _)⟩)
  dsimp only [Pt.U, Pt.locs, Pt.cells, Pt.slots] at X15 l15 y15 z15 st15 hQ15
  subst l15 y15 z15
  obtain ⟨rfl, N15q, e15⟩ := hQ15
  have N16 := Fr.app N14 N15q
  obtain ⟨T17, h17, X17, e17, W17, st17⟩ := putFN X15 hx hZ hown (hw _ (List.mem_of_getElem? (i := 26) rfl)) Via.refl e15 f9 f8 (Or.inr ⟨(hw _ (List.mem_of_getElem? (i := 27) rfl)), rfl, hnm⟩) (hw _ (List.mem_of_getElem? (i := 2) rfl)) (ty := .byte) (v' := (.int ((0 : Int32).toInt8.toInt32))) (by decide) rfl (fits_nar_byte _) (g := (mkF m 48 #[.val (.ref o0), .val (.ref o1), .val (.int (0 : Int32)), .val (.int (2 : Int32)), .val .null, .val (.ref b1_3)] [(.int (0 : Int32)), (.ref o0)])) rfl rfl (hb hby own_d2_48)
  have f18 : Arv Z h17 o1 k_o1 .char (2 : Int32) [(.int c0), (.int c1)] (.int (0 : Int32)) := f7.other W17 (Ne.symm (Exa.neArv f8 f7 (hw _ (List.mem_of_getElem? (i := 2) rfl))))
  have f19 : Exa Z h17 o0 "java/lang/String" := f8.wr W17
  have f20 : Fld Z h17 o0 "java/lang/String" "coder" "B" (.int (0 : Int32)) := f9.same W17
  have f21 : Fld Z h17 o0 "java/lang/String" "value" "[B" u_value_o0 := f10.other W17 (Or.inr (slot_ne (Or.inr (hw _ (List.mem_of_getElem? (i := 29) rfl))) (Or.inr (hw _ (List.mem_of_getElem? (i := 27) rfl))) (by decide) (t := (.array .byte)) (t' := .byte) (by decide) (by decide)))
  have f22 : Arv Z h17 b1_3 k1_3 .byte (2 : Int32) [(.int (nar .byte (c0.toInt8.toInt32))), (.int (nar .byte (c1.toInt8.toInt32)))] (.int (0 : Int32)) := f4.other W17 (Nat.ne_of_gt lt6)
  have zs23 : n0 ≤ h17.size := Nat.le_trans zs11 (Keep.of_wr W17).1
  have N24 := Fr.snoc X17 N16 G_o0
  have K25 : Keep h0 h17 [o0] := K13.wr W17 (Or.inl (by simp))
  obtain ⟨T26, h26, X26, e26, W26, st26⟩ := putF X17 hx hZ hown (host := "") (Or.inl (hw _ (List.mem_of_getElem? (i := 28) rfl))) Via.refl e17 f21 f19 (Or.inr ⟨(hw _ (List.mem_of_getElem? (i := 29) rfl)), rfl, hnm⟩) (hw _ (List.mem_of_getElem? (i := 2) rfl)) (ty := (.array .byte)) (by decide) rfl rfl (g := (mkF m 54 #[.val (.ref o0), .val (.ref o1), .val (.int (0 : Int32)), .val (.int (2 : Int32)), .val .null, .val (.ref b1_3)] [(.ref b1_3), (.ref o0)])) rfl rfl (hb hby own_d2_54)
  have f27 : Arv Z h26 o1 k_o1 .char (2 : Int32) [(.int c0), (.int c1)] (.int (0 : Int32)) := f18.other W26 (Ne.symm (Exa.neArv f19 f18 (hw _ (List.mem_of_getElem? (i := 2) rfl))))
  have f28 : Exa Z h26 o0 "java/lang/String" := f19.wr W26
  have f29 : Fld Z h26 o0 "java/lang/String" "coder" "B" (.int (0 : Int32)) := f20.other W26 (Or.inr (slot_ne (Or.inr (hw _ (List.mem_of_getElem? (i := 27) rfl))) (Or.inr (hw _ (List.mem_of_getElem? (i := 29) rfl))) (by decide) (t := .byte) (t' := (.array .byte)) (by decide) (by decide)))
  have f30 : Fld Z h26 o0 "java/lang/String" "value" "[B" (.ref b1_3) := f21.same W26
  have f31 : Arv Z h26 b1_3 k1_3 .byte (2 : Int32) [(.int (nar .byte (c0.toInt8.toInt32))), (.int (nar .byte (c1.toInt8.toInt32)))] (.int (0 : Int32)) := f22.other W26 (Nat.ne_of_gt lt6)
  have zs32 : n0 ≤ h26.size := Nat.le_trans zs23 (Keep.of_wr W26).1
  have N33 := Fr.snoc X26 N24 G_o0
  have K34 : Keep h0 h26 [o0] := K25.wr W26 (Or.inl (by simp))
  have pre35 : ∀ t, Steps p.tables e below (T26.setTop (mkF m 57 #[.val (.ref o0), .val (.ref o1), .val (.int (0 : Int32)), .val (.int (2 : Int32)), .val .null, .val (.ref b1_3)] [])) t → Steps p.tables e below (s₁.setTop (entryFrame m #[(.ref o0), (.ref o1), (.int (0 : Int32)), (.int (2 : Int32)), .null] 6)) t := fun t k => pre0 t (by
      refine XS.aloadN X0.here hx rfl (hb hby own_d2_0) rfl rfl ?_
      show Steps p.tables e below (s₁.setTop (mkF m 1 #[.val (.ref o0), .val (.ref o1), .val (.int (0 : Int32)), .val (.int (2 : Int32)), .val .null, .unset] [(.ref o0)])) _
      refine st1 _ ?_
      show Steps p.tables e below (T1.setTop (mkF m 4 #[.val (.ref o0), .val (.ref o1), .val (.int (0 : Int32)), .val (.int (2 : Int32)), .val .null, .unset] [])) _
      refine XS.iloadN X1.here hx rfl (hb hby own_d2_4) rfl ?_
      show Steps p.tables e below (T1.setTop (mkF m 5 #[.val (.ref o0), .val (.ref o1), .val (.int (0 : Int32)), .val (.int (2 : Int32)), .val .null, .unset] [(.int (2 : Int32))])) _
      refine XS.ifYes X1.here hx rfl (pc0 := 5) (pc' := 27) rfl (hb hby own_d2_5) rfl ((if0 _ _).trans (feq (by decide : ¬ ((2 : Int32) = (0 : Int32)))).2) (by decide) (by decide) ?_
      show Steps p.tables e below (T1.setTop (mkF m 27 #[.val (.ref o0), .val (.ref o1), .val (.int (0 : Int32)), .val (.int (2 : Int32)), .val .null, .unset] [])) _
      refine st2 _ ?_
      show Steps p.tables e below (T2.setTop (mkF m 30 #[.val (.ref o0), .val (.ref o1), .val (.int (0 : Int32)), .val (.int (2 : Int32)), .val .null, .unset] [(.int z_COMPACT_STRINGS)])) _
      refine XS.ifNo X2.here hx rfl (hb hby own_d2_30) rfl ((if0 _ _).trans (feq HC).1) ?_
      show Steps p.tables e below (T2.setTop (mkF m 33 #[.val (.ref o0), .val (.ref o1), .val (.int (0 : Int32)), .val (.int (2 : Int32)), .val .null, .unset] [])) _
      refine XS.aloadN X2.here hx rfl (hb hby own_d2_33) rfl rfl ?_
      show Steps p.tables e below (T2.setTop (mkF m 34 #[.val (.ref o0), .val (.ref o1), .val (.int (0 : Int32)), .val (.int (2 : Int32)), .val .null, .unset] [(.ref o1)])) _
      refine XS.iloadN X2.here hx rfl (hb hby own_d2_34) rfl ?_
      show Steps p.tables e below (T2.setTop (mkF m 35 #[.val (.ref o0), .val (.ref o1), .val (.int (0 : Int32)), .val (.int (2 : Int32)), .val .null, .unset] [(.int (0 : Int32)), (.ref o1)])) _
      refine XS.iloadN X2.here hx rfl (hb hby own_d2_35) rfl ?_
      show Steps p.tables e below (T2.setTop (mkF m 36 #[.val (.ref o0), .val (.ref o1), .val (.int (0 : Int32)), .val (.int (2 : Int32)), .val .null, .unset] [(.int (2 : Int32)), (.int (0 : Int32)), (.ref o1)])) _
      refine st3 _ ?_
      show Steps p.tables e below (T3.setTop (mkF m 39 #[.val (.ref o0), .val (.ref o1), .val (.int (0 : Int32)), .val (.int (2 : Int32)), .val .null, .unset] [(.ref b1_3)])) _
      refine XS.astore X3.here hx rfl (hb hby own_d2_39) rfl rfl (l' := #[.val (.ref o0), .val (.ref o1), .val (.int (0 : Int32)), .val (.int (2 : Int32)), .val .null, .val (.ref b1_3)]) rfl ?_
      show Steps p.tables e below (T3.setTop (mkF m 41 #[.val (.ref o0), .val (.ref o1), .val (.int (0 : Int32)), .val (.int (2 : Int32)), .val .null, .val (.ref b1_3)] [])) _
      refine XS.aloadN X3.here hx rfl (hb hby own_d2_41) rfl rfl ?_
      show Steps p.tables e below (T3.setTop (mkF m 42 #[.val (.ref o0), .val (.ref o1), .val (.int (0 : Int32)), .val (.int (2 : Int32)), .val .null, .val (.ref b1_3)] [(.ref o0)])) _
      refine XS.aload X3.here hx rfl (hb hby own_d2_42) rfl rfl ?_
      show Steps p.tables e below (T3.setTop (mkF m 44 #[.val (.ref o0), .val (.ref o1), .val (.int (0 : Int32)), .val (.int (2 : Int32)), .val .null, .val (.ref b1_3)] [(.ref b1_3), (.ref o0)])) _
      refine XS.iloadN X3.here hx rfl (hb hby own_d2_44) rfl ?_
      show Steps p.tables e below (T3.setTop (mkF m 45 #[.val (.ref o0), .val (.ref o1), .val (.int (0 : Int32)), .val (.int (2 : Int32)), .val .null, .val (.ref b1_3)] [(.int (2 : Int32)), (.ref b1_3), (.ref o0)])) _
      refine st15 _ ?_
      show Steps p.tables e below (T15.setTop (mkF m 48 #[.val (.ref o0), .val (.ref o1), .val (.int (0 : Int32)), .val (.int (2 : Int32)), .val .null, .val (.ref b1_3)] [(.int (0 : Int32)), (.ref o0)])) _
      refine st17 _ ?_
      show Steps p.tables e below (T17.setTop (mkF m 51 #[.val (.ref o0), .val (.ref o1), .val (.int (0 : Int32)), .val (.int (2 : Int32)), .val .null, .val (.ref b1_3)] [])) _
      refine XS.aloadN X17.here hx rfl (hb hby own_d2_51) rfl rfl ?_
      show Steps p.tables e below (T17.setTop (mkF m 52 #[.val (.ref o0), .val (.ref o1), .val (.int (0 : Int32)), .val (.int (2 : Int32)), .val .null, .val (.ref b1_3)] [(.ref o0)])) _
      refine XS.aload X17.here hx rfl (hb hby own_d2_52) rfl rfl ?_
      show Steps p.tables e below (T17.setTop (mkF m 54 #[.val (.ref o0), .val (.ref o1), .val (.int (0 : Int32)), .val (.int (2 : Int32)), .val .null, .val (.ref b1_3)] [(.ref b1_3), (.ref o0)])) _
      refine st26 _ ?_
      show Steps p.tables e below (T26.setTop (mkF m 57 #[.val (.ref o0), .val (.ref o1), .val (.int (0 : Int32)), .val (.int (2 : Int32)), .val .null, .val (.ref b1_3)] [])) _
      exact k)
  obtain ⟨fs, hr, hrun, hended, hW, hsame⟩ := X26.leave (v := none) (fun _ => rfl) (hlocks := hlk)
  refine ⟨_, _, pre35 _ ?_, hrun, hended, _, _, rfl, ?_, ⟨_, rfl⟩, hW, hsame.mono (by decide) (by decide)⟩
  · show Steps p.tables e below (T26.setTop (mkF m 57 #[.val (.ref o0), .val (.ref o1), .val (.int (0 : Int32)), .val (.int (2 : Int32)), .val .null, .val (.ref b1_3)] [])) _
    exact X26.returnOut hx Bd.returns (hb hby own_d2_57) hr
  · show own_Q2 Z o0 o1 k_o1 c0 c1 z_COMPACT_STRINGS u_coder_o0 u_value_o0 h0 n0 _ T26.heap _; rw [e26]; exact ⟨b1_3, k1_3, rfl, N33, K34, sz_b1_3, f28, f29, f30, f31⟩
theorem own_pd3 : parseMethodDescriptor "([CIILjava/lang/Void;)V" = some ⟨[(.array .char), .int, .int, (.object "java/lang/Void")], none⟩ := by decide +kernel
theorem own_d1_0 : decode jdk_42_method_3_code 0 = .ok (.aload_n 0, 1) := by decide +kernel
theorem own_d1_1 : decode jdk_42_method_3_code 1 = .ok (.aload_n 1, 1) := by decide +kernel
theorem own_d1_2 : decode jdk_42_method_3_code 2 = .ok (.iconst 0, 1) := by decide +kernel
theorem own_d1_3 : decode jdk_42_method_3_code 3 = .ok (.aload_n 1, 1) := by decide +kernel
theorem own_d1_4 : decode jdk_42_method_3_code 4 = .ok (.arraylength, 1) := by decide +kernel
theorem own_d1_5 : decode jdk_42_method_3_code 5 = .ok (.aconst_null, 1) := by decide +kernel
theorem own_d1_6 : decode jdk_42_method_3_code 6 = .ok (.invokespecial 27, 3) := by decide +kernel
theorem own_d1_9 : decode jdk_42_method_3_code 9 = .ok (.return_, 1) := by decide +kernel
theorem own_pn1 : plainName "java/lang/String" = true := by first | (simp [plainName, overriddenIn]; done) | decide +kernel
theorem own_ef1 (m : MethodId) (x0 : Addr) (x1 : Addr) : entryFrame m #[(.ref x0), (.ref x1)] 2 = (mkF m 0 #[.val (.ref x0), .val (.ref x1)] []) := by first | (simp [entryFrame, mkF, argsToLocals, Value.category]; done) | rfl
def own_Q1 (Z : State) (o0 : Addr) (o1 : Addr) (k_o1 : ClassId) (c0 : Int32) (c1 : Int32) (z_COMPACT_STRINGS : Int32) (u_coder_o0 : Value) (u_value_o0 : Value) (h0 : Heap) (n0 : Nat) (v : Option Value) (h : Heap) (L : List Loc) : Prop := ∃ b1_3_2 : Addr, ∃ k1_3_2 : ClassId, v = none ∧ Fr n0 L ∧ Keep h0 h [o0] ∧ h0.size ≤ b1_3_2 ∧ Exa Z h o0 "java/lang/String" ∧ Fld Z h o0 "java/lang/String" "coder" "B" (.int (0 : Int32)) ∧ Fld Z h o0 "java/lang/String" "value" "[B" (.ref b1_3_2) ∧ Arv Z h b1_3_2 k1_3_2 .byte (2 : Int32) [(.int (nar .byte (c0.toInt8.toInt32))), (.int (nar .byte (c1.toInt8.toInt32)))] (.int (0 : Int32))
set_option maxRecDepth 65536 in
set_option maxHeartbeats 40000000 in
theorem own_rm1 (l : Launch) (Z : State) (a0 : Array Value) (hw : ∀ d ∈ tables_1, d.before a0 Z = true) (ws : List Jvm.Cond) (o0 : Addr) (o1 : Addr) (k_o1 : ClassId) (c0 : Int32) (c1 : Int32) (z_COMPACT_STRINGS : Int32) (u_coder_o0 : Value) (u_value_o0 : Value) (h0 : Heap) (n0 : Nat) (Z0 : n0 ≤ h0.size) (P_V_o1 : Arv Z h0 o1 k_o1 .char (2 : Int32) [(.int c0), (.int c1)] (.int (0 : Int32))) (P_S_java_lang_String_COMPACT_STRINGS : Sta Z h0 "java/lang/String" "COMPACT_STRINGS" "Z" (.int z_COMPACT_STRINGS)) (P_E_o0 : Exa Z h0 o0 "java/lang/String") (P_F_o0_coder : Fld Z h0 o0 "java/lang/String" "coder" "B" u_coder_o0) (P_F_o0_value : Fld Z h0 o0 "java/lang/String" "value" "[B" u_value_o0) (HC_5 : ¬ (z_COMPACT_STRINGS = (0 : Int32))) (H0_1_6_6 : ¬ ((255 : Int32) < c0)) (H1_2_7_7 : ¬ ((255 : Int32) < c1)) (G_o0 : n0 ≤ o0) :
    MetFree l (⟨"java/lang/String", "<init>", "([C)V"⟩ : MethodName) (head1 (Jvm.Cond.code (⟨"java/lang/String", "<init>", "([C)V"⟩ : MethodName) jdk_42_method_3_code 2 none :: ws) ({ frames := 3, cells := 1, slots := 2, locals := 52 } : Room)) (fun a U => a = #[(.ref o0), (.ref o1)] ∧ Z.Warmed39 U.vm ∧ U.heap = h0) (fun _ _ _ _ _ => True) (fun _ U o U' => ∃ v L, o = .returned v ∧ own_Q1 Z o0 o1 k_o1 c0 c1 z_COMPACT_STRINGS u_coder_o0 u_value_o0 h0 n0 v U'.heap L ∧ FrameEnd U o U' L ({ frames := 3, cells := 1, slots := 2, locals := 52 } : Room).cells ({ frames := 3, cells := 1, slots := 2, locals := 52 } : Room).slots) := by
  refine MetFree.of_bodySF (plainFor_of_name own_pn1) hisR ?_
  intro p e s m args below meth c s₁ Bd hml0 hP hK
  obtain ⟨rfl, hZ, hh⟩ := hP
  have hx := Bd.exec
  have hlk : meth.locks = false := BodyLoose.notSynchronized Bd
  have hby := Bd.bytes
  have hml : c.maxLocals = 2 := hml0
  have hown : s.vm.findClass "java/lang/String" = some m.cls := findClass_of_methodNamed Bd.named
  have hnm := (name_of_methodNamed Bd.named Bd.method).1
  have X0 : Stand p l e ({ frames := 3, cells := 1, slots := 2, locals := 52 } : Room) s m #[(.ref o0), (.ref o1)] below meth c s₁ [] 0 0 := Stand.of_body Bd
  have e0 : s₁.heap = h0 := by rw [← hh, Bd.state]; rfl
  have N0 := Fr.nil n0
  have pre0 : ∀ t, Steps p.tables e below (s₁.setTop (mkF m 0 #[.val (.ref o0), .val (.ref o1)] [])) t → Steps p.tables e below (s₁.setTop (entryFrame m #[(.ref o0), (.ref o1)] 2)) t := fun t k => castTop (own_ef1 m o0 o1) k
  obtain ⟨cl1, Ar1, q1, S1, N_1, Ha1, G1⟩ := id P_V_o1
  obtain ⟨_, _, ⟨T2, L2, k2, n2⟩, -, X2, ⟨Lc2, hQ2, l2, y2, z2⟩, st2⟩ := X0.specialBack hx (y := (⟨"java/lang/String", "<init>", "([CIILjava/lang/Void;)V"⟩ : MethodName)) rfl hown (mvT hZ (hw _ (List.mem_of_getElem? (i := 7) rfl))) (mvT hZ (hw _ (List.mem_of_getElem? (i := 8) rfl))) (mvT hZ (hw _ (List.mem_of_getElem? (i := 10) rfl))) (by decide) (backOf (W := 0) (own_rm2 l Z a0 hw [] o0 o1 k_o1 c0 c1 z_COMPACT_STRINGS u_coder_o0 u_value_o0 h0 n0 Z0 HC_5 P_S_java_lang_String_COMPACT_STRINGS P_V_o1 P_E_o0 P_F_o0_coder P_F_o0_value H0_1_6_6 H1_2_7_7 G_o0) hZ (hw _ (List.mem_of_getElem? (i := 10) rfl)) (hw _ (List.mem_of_getElem? (i := 3) rfl)) (by decide) (by decide)) (g := (mkF m 6 #[.val (.ref o0), .val (.ref o1)] [.null, (.int (2 : Int32)), (.int (0 : Int32)), (.ref o1), (.ref o0)])) rfl (by rw [hml]; rfl) (Steps.refl _) (a := o0) (argsL := [(.ref o1), (.int (0 : Int32)), (.int (2 : Int32)), .null]) (rest := []) (lenOf own_pd3 rfl) rfl (by show 2 * 0 + _ ≤ _; exact Nat.le_of_eq rfl) (hb hby own_d1_6) (fun _ _ => ⟨rfl, e0, (by decide : 0 + 1 ≤ _), (by decide : 0 + 2 ≤ _)⟩)
  dsimp only [Pt.U, Pt.locs, Pt.cells, Pt.slots] at X2 l2 y2 z2 st2 hQ2
  subst l2 y2 z2
  obtain ⟨b1_3_2, k1_3_2, rfl, N2q, K2, sqb1_3_2_2, f3, f4, f5, f6⟩ := hQ2
  have g_b1_3_2 : n0 ≤ b1_3_2 := Nat.le_trans Z0 sqb1_3_2_2
  have sz_b1_3_2 : h0.size ≤ b1_3_2 := Nat.le_trans (Nat.le_refl _) sqb1_3_2_2
  have lt7 : o1 < b1_3_2 := Nat.lt_of_lt_of_le P_V_o1.lt sqb1_3_2_2
  have lt8 : o0 < b1_3_2 := Nat.lt_of_lt_of_le P_F_o0_value.lt sqb1_3_2_2
  have f9 : Arv Z T2.heap o1 k_o1 .char (2 : Int32) [(.int c0), (.int c1)] (.int (0 : Int32)) := P_V_o1.keep K2 (ninS (Ne.symm (Exa.neArv P_E_o0 P_V_o1 (hw _ (List.mem_of_getElem? (i := 2) rfl)))) nin0)
  have zs10 : n0 ≤ T2.heap.size := Nat.le_trans Z0 K2.1
  have K11 : Keep h0 h0 [o0] := Keep.refl h0 [o0]
  have K12 : Keep h0 T2.heap [o0] := K11.trans K2 (allS (Or.inl (by simp)) all0)
  have N13 := Fr.app N0 N2q
  have pre14 : ∀ t, Steps p.tables e below (T2.setTop (mkF m 9 #[.val (.ref o0), .val (.ref o1)] [])) t → Steps p.tables e below (s₁.setTop (entryFrame m #[(.ref o0), (.ref o1)] 2)) t := fun t k => pre0 t (by
      refine XS.aloadN X0.here hx rfl (hb hby own_d1_0) rfl rfl ?_
      show Steps p.tables e below (s₁.setTop (mkF m 1 #[.val (.ref o0), .val (.ref o1)] [(.ref o0)])) _
      refine XS.aloadN X0.here hx rfl (hb hby own_d1_1) rfl rfl ?_
      show Steps p.tables e below (s₁.setTop (mkF m 2 #[.val (.ref o0), .val (.ref o1)] [(.ref o1), (.ref o0)])) _
      refine XS.iconst X0.here hx rfl (hb hby own_d1_2) ?_
      show Steps p.tables e below (s₁.setTop (mkF m 3 #[.val (.ref o0), .val (.ref o1)] [(.int (0 : Int32)), (.ref o1), (.ref o0)])) _
      refine XS.aloadN X0.here hx rfl (hb hby own_d1_3) rfl rfl ?_
      show Steps p.tables e below (s₁.setTop (mkF m 4 #[.val (.ref o0), .val (.ref o1)] [(.ref o1), (.int (0 : Int32)), (.ref o1), (.ref o0)])) _
      refine X0.arraylength hx (by rw [e0]; exact Ar1.1) (State.isArrayOf_alike hZ.alike Ar1.2.1) (g := (mkF m 4 #[.val (.ref o0), .val (.ref o1)] [(.ref o1), (.int (0 : Int32)), (.ref o1), (.ref o0)])) rfl rfl (hb hby own_d1_4) _ ?_
      rw [len_of S1 N_1]
      show Steps p.tables e below (s₁.setTop (mkF m 5 #[.val (.ref o0), .val (.ref o1)] [(.int (2 : Int32)), (.int (0 : Int32)), (.ref o1), (.ref o0)])) _
      refine XS.aconstNull X0.here hx rfl (hb hby own_d1_5) ?_
      show Steps p.tables e below (s₁.setTop (mkF m 6 #[.val (.ref o0), .val (.ref o1)] [.null, (.int (2 : Int32)), (.int (0 : Int32)), (.ref o1), (.ref o0)])) _
      refine st2.trans ?_
      show Steps p.tables e below (T2.setTop (mkF m 9 #[.val (.ref o0), .val (.ref o1)] [])) _
      exact k)
  obtain ⟨fs, hr, hrun, hended, hW, hsame⟩ := X2.leave (v := none) (fun _ => rfl) (hlocks := hlk)
  refine ⟨_, _, pre14 _ ?_, hrun, hended, _, _, rfl, ?_, ⟨_, rfl⟩, hW, hsame.mono (by decide) (by decide)⟩
  · show Steps p.tables e below (T2.setTop (mkF m 9 #[.val (.ref o0), .val (.ref o1)] [])) _
    exact X2.returnOut hx Bd.returns (hb hby own_d1_9) hr
  · show own_Q1 Z o0 o1 k_o1 c0 c1 z_COMPACT_STRINGS u_coder_o0 u_value_o0 h0 n0 _ T2.heap _; exact ⟨b1_3_2, k1_3_2, rfl, N13, K12, sz_b1_3_2, f3, f4, f5, f6⟩
def own_J (Z : State) (vm : Vm) (h : Heap) : Prop := Z.Warmed39 vm ∧ (∃ a0, EW Z a0 consts_1) ∧ CHv Z consts_1 vm h
theorem own_J.warm {Z s : State} {vm vm1 : Vm} {h : Heap} (J : own_J Z vm h) (hW : (s.setVm vm).WarmedH vm1) : own_J Z vm1 h := by
  obtain ⟨h1, ⟨a0, h2⟩, h3⟩ := J
  exact ⟨State.Warmed39.trans (t := s.setVm vm) h1 hW.wide, ⟨a0, h2⟩, (CHv.later (h' := h) h1 (show (Wst Z vm h).Warmed39 vm1 from hW.wide) h2 ⟨Nat.le_refl _, fun _ _ q => q⟩ (Or.inl hW.interned_eq) h3).1⟩
theorem own_backJ {p : Program} {l : Launch} {e : Env} {R : Room} {s Z : State} {args a0 : Array Value} {below : List Frame} {h : Heap} {y : MethodName} {bytes : ByteArray} {maxL : Nat} {ret : Option FieldType} {rm : Room} {len W : Nat} {as' : Array Value} {Q : Option Value → Vm → Heap → List Loc → Prop}
    (hM : MetFree l y (head1 [Cond.code y bytes maxL ret] rm) (fun a U => a = as' ∧ Z.Warmed39 U.vm ∧ U.heap = h ∧ own_J Z U.vm h) (fun _ _ _ _ _ => True) (fun _ U o U' => ∃ v L, o = .returned v ∧ Q v U'.vm U'.heap L ∧ ReturnedEndW U o U' L rm.cells rm.slots))
    (hZ : Z.Warmed39 s.vm) (hJ : own_J Z s.vm h) (wc : (Cond.code y bytes maxL ret).before a0 Z = true) (wz : (Cond.initialized y.cls).before a0 Z = true) (hf : rm.frames + 1 ≤ R.frames) (hl : W + (maxL + 11) + rm.locals ≤ R.locals) :
    BackS l R p e below s args y len W (fun A a => a = as' ∧ A.U.heap = h ∧ A.cells + rm.cells ≤ R.cells ∧ A.slots + rm.slots ≤ R.slots)
      (fun A _ v B => ∃ L, Q v B.U.vm B.U.heap L ∧ B.locs = A.locs ++ L ∧ B.cells = A.cells + rm.cells ∧ B.slots = A.slots + rm.slots) := by
  refine BackS.of_freeW (bytes := bytes) (maxL := maxL) (ret := ret) (E := fun _ _ o t L k n => k = rm.cells ∧ n = rm.slots ∧ ∃ v, o = .returned v ∧ Q v t.vm t.heap L) hM hf hl ?_ ?_ (fun _ _ _ _ _ _ _ _ _ => trivial) ?_ ?_
  · intro m meth c A a Y hp
    have hU : Z.Warmed39 A.U.vm := wtrans hZ Y.warmed
    refine ⟨?_, mv hU wc, mv hU wz, hp.2.2.1, hp.2.2.2⟩
    show (Cond.and _ .tt).before a A.U = true
    rw [Cond.before_and, mv hU wc]; rfl
  · intro m meth c A a g mk Y hp
    exact ⟨hp.1, wtrans hZ Y.warmed, hp.2.1, own_J.warm (s := s) hJ Y.warmed⟩
  · rintro _ _ _ _ ⟨v, L, h1, h2, h3⟩
    exact ⟨L, _, _, h3, rfl, rfl, v, h1, h2⟩
  · rintro m meth c A a g mk v t L k n Y hp _ _ ⟨rfl, rfl, v', e3, e4⟩
    cases e3
    exact ⟨L, e4, rfl, rfl, rfl⟩

theorem own_wS (Z : State) (a0 : Array Value) (hw : ∀ d ∈ tables_1, d.before a0 Z = true) : ∀ a ∈ Bundle.stringAtoms, a.before a0 Z = true := by
  intro a ha
  have q : Bundle.stringAtoms = [Jvm.Cond.initialized "java/lang/String", Jvm.Cond.instantiable "java/lang/String" (4 : Nat), Jvm.Cond.arrayClass .byte, Jvm.Cond.laysFinal "java/lang/String" "java/lang/String" "value" "[B", Jvm.Cond.laysFinal "java/lang/String" "java/lang/String" "coder" "B", Jvm.Cond.soleField "java/lang/String" "value", Jvm.Cond.soleField "java/lang/String" "coder"] := rfl
  rw [q] at ha
  simp only [List.mem_cons, List.not_mem_nil, or_false] at ha
  rcases ha with rfl | rfl | rfl | rfl | rfl | rfl | rfl
  · exact (hw _ (List.mem_of_getElem? (i := 3) rfl))
  · exact (hw _ (List.mem_of_getElem? (i := 2) rfl))
  · exact (hw _ (List.mem_of_getElem? (i := 19) rfl))
  · exact (hw _ (List.mem_of_getElem? (i := 29) rfl))
  · exact (hw _ (List.mem_of_getElem? (i := 27) rfl))
  · exact (hw _ (List.mem_of_getElem? (i := 40) rfl))
  · exact (hw _ (List.mem_of_getElem? (i := 41) rfl))
theorem own_EW (Z : State) (a0 : Array Value) (hw : ∀ d ∈ tables_1, d.before a0 Z = true) : EW Z a0 consts_1 := EW.cons (text := "") (hw _ (List.mem_of_getElem? (i := 39) rfl)) (by decide) (EW.cons (text := "") (hw _ (List.mem_of_getElem? (i := 97) rfl)) (by decide) EW.nil)
theorem own_e32 {a b : Int32} : a = b ↔ a.toInt = b.toInt := Int32.toInt_inj.symm
theorem own_e64 {a b : Int64} : a = b ↔ a.toInt = b.toInt := Int64.toInt_inj.symm
theorem own_narc (x : Int32) : nar .char x = x.toUInt32.toUInt16.toUInt32.toInt32 := rfl
theorem own_n255 (x : Int32) : ¬ ((255 : Int32) < nar .char ((x &&& (255 : Int32)).toUInt32.toUInt16.toUInt32.toInt32)) := by
  rw [own_narc, i2c_mask, i2c_mask]
  have m1 : (x &&& (255 : Int32)).toInt = x.toInt % (2 ^ 8 : Nat) := c_mask x 255 8 (by decide) (by decide)
  rw [Int32.lt_iff_toInt_lt, show (255 : Int32).toInt = 255 from by decide]; omega
theorem own_d9_0 : decode jdk_30_method_1_code 0 = .ok (.aload_n 0, 1) := by decide +kernel
theorem own_d9_1 : decode jdk_30_method_1_code 1 = .ok (.invokespecial 1, 3) := by decide +kernel
theorem own_d9_4 : decode jdk_30_method_1_code 4 = .ok (.return_, 1) := by decide +kernel
theorem own_pn9 : plainName "java/lang/Record" = true := by first | (simp [plainName, overriddenIn]; done) | decide +kernel
theorem own_ef9 (m : MethodId) (x0 : Addr) : entryFrame m #[(.ref x0)] 1 = (mkF m 0 #[.val (.ref x0)] []) := by first | (simp [entryFrame, mkF, argsToLocals, Value.category]; done) | rfl
def own_Q9 (Z : State) (o0 : Addr) (h0 : Heap) (n0 : Nat) (v : Option Value) (h : Heap) (L : List Loc) : Prop := v = none ∧ Fr n0 L ∧ h = h0
set_option maxRecDepth 65536 in
set_option maxHeartbeats 40000000 in
theorem own_rm9 (l : Launch) (Z : State) (a0 : Array Value) (hw : ∀ d ∈ tables_1, d.before a0 Z = true) (ws : List Jvm.Cond) (o0 : Addr) (h0 : Heap) (n0 : Nat) (Z0 : n0 ≤ h0.size) :
    MetFree l (⟨"java/lang/Record", "<init>", "()V"⟩ : MethodName) (head1 (Jvm.Cond.code (⟨"java/lang/Record", "<init>", "()V"⟩ : MethodName) jdk_30_method_1_code 1 none :: ws) ({ frames := 1, cells := 0, slots := 0, locals := 12 } : Room)) (fun a U => a = #[(.ref o0)] ∧ Z.Warmed39 U.vm ∧ U.heap = h0) (fun _ _ _ _ _ => True) (fun _ U o U' => ∃ v L, o = .returned v ∧ own_Q9 Z o0 h0 n0 v U'.heap L ∧ FrameEnd U o U' L ({ frames := 1, cells := 0, slots := 0, locals := 12 } : Room).cells ({ frames := 1, cells := 0, slots := 0, locals := 12 } : Room).slots) := by
  refine MetFree.of_bodySF (plainFor_of_name own_pn9) hisR ?_
  intro p e s m args below meth c s₁ Bd hml0 hP hK
  obtain ⟨rfl, hZ, hh⟩ := hP
  have hx := Bd.exec
  have hlk : meth.locks = false := BodyLoose.notSynchronized Bd
  have hby := Bd.bytes
  have hml : c.maxLocals = 1 := hml0
  have hown : s.vm.findClass "java/lang/Record" = some m.cls := findClass_of_methodNamed Bd.named
  have hnm := (name_of_methodNamed Bd.named Bd.method).1
  have X0 : Stand p l e ({ frames := 1, cells := 0, slots := 0, locals := 12 } : Room) s m #[(.ref o0)] below meth c s₁ [] 0 0 := Stand.of_body Bd
  have e0 : s₁.heap = h0 := by rw [← hh, Bd.state]; rfl
  have N0 := Fr.nil n0
  have pre0 : ∀ t, Steps p.tables e below (s₁.setTop (mkF m 0 #[.val (.ref o0)] [])) t → Steps p.tables e below (s₁.setTop (entryFrame m #[(.ref o0)] 1)) t := fun t k => castTop (own_ef9 m o0) k
  obtain ⟨T1, X1, e1, st1⟩ := initO X0 hx hZ hown (hw _ (List.mem_of_getElem? (i := 50) rfl)) (hw _ (List.mem_of_getElem? (i := 12) rfl)) (hw _ (List.mem_of_getElem? (i := 13) rfl)) e0 (g := (mkF m 1 #[.val (.ref o0)] [(.ref o0)])) rfl (by rw [hml]; rfl) rfl (hb hby own_d9_1) (by decide) (W := 0) (by show 2 * 0 + _ ≤ _; exact Nat.le_of_eq rfl) (by decide)
  have pre2 : ∀ t, Steps p.tables e below (T1.setTop (mkF m 4 #[.val (.ref o0)] [])) t → Steps p.tables e below (s₁.setTop (entryFrame m #[(.ref o0)] 1)) t := fun t k => pre0 t (by
      refine XS.aloadN X0.here hx rfl (hb hby own_d9_0) rfl rfl ?_
      show Steps p.tables e below (s₁.setTop (mkF m 1 #[.val (.ref o0)] [(.ref o0)])) _
      refine st1 _ ?_
      show Steps p.tables e below (T1.setTop (mkF m 4 #[.val (.ref o0)] [])) _
      exact k)
  obtain ⟨fs, hr, hrun, hended, hW, hsame⟩ := X1.leave (v := none) (fun _ => rfl) (hlocks := hlk)
  refine ⟨_, _, pre2 _ ?_, hrun, hended, _, _, rfl, ?_, ⟨_, rfl⟩, hW, hsame.mono (by decide) (by decide)⟩
  · show Steps p.tables e below (T1.setTop (mkF m 4 #[.val (.ref o0)] [])) _
    exact X1.returnOut hx Bd.returns (hb hby own_d9_4) hr
  · show own_Q9 Z o0 h0 n0 _ T1.heap _; rw [e1]; exact ⟨rfl, N0, rfl⟩
theorem own_pd4 : parseMethodDescriptor "()V" = some ⟨[], none⟩ := by decide +kernel
theorem own_d8_0 : decode prog_61_method_1_code 0 = .ok (.aload_n 0, 1) := by decide +kernel
theorem own_d8_1 : decode prog_61_method_1_code 1 = .ok (.invokespecial 1, 3) := by decide +kernel
theorem own_d8_4 : decode prog_61_method_1_code 4 = .ok (.aload_n 0, 1) := by decide +kernel
theorem own_d8_5 : decode prog_61_method_1_code 5 = .ok (.aload_n 1, 1) := by decide +kernel
theorem own_d8_6 : decode prog_61_method_1_code 6 = .ok (.putfield 7, 3) := by decide +kernel
theorem own_d8_9 : decode prog_61_method_1_code 9 = .ok (.aload_n 0, 1) := by decide +kernel
theorem own_d8_10 : decode prog_61_method_1_code 10 = .ok (.aload_n 2, 1) := by decide +kernel
theorem own_d8_11 : decode prog_61_method_1_code 11 = .ok (.putfield 13, 3) := by decide +kernel
theorem own_d8_14 : decode prog_61_method_1_code 14 = .ok (.aload_n 0, 1) := by decide +kernel
theorem own_d8_15 : decode prog_61_method_1_code 15 = .ok (.aload_n 3, 1) := by decide +kernel
theorem own_d8_16 : decode prog_61_method_1_code 16 = .ok (.putfield 16, 3) := by decide +kernel
theorem own_d8_19 : decode prog_61_method_1_code 19 = .ok (.aload_n 0, 1) := by decide +kernel
theorem own_d8_20 : decode prog_61_method_1_code 20 = .ok (.aload 4, 2) := by decide +kernel
theorem own_d8_22 : decode prog_61_method_1_code 22 = .ok (.putfield 20, 3) := by decide +kernel
theorem own_d8_25 : decode prog_61_method_1_code 25 = .ok (.aload_n 0, 1) := by decide +kernel
theorem own_d8_26 : decode prog_61_method_1_code 26 = .ok (.aload 5, 2) := by decide +kernel
theorem own_d8_28 : decode prog_61_method_1_code 28 = .ok (.putfield 24, 3) := by decide +kernel
theorem own_d8_31 : decode prog_61_method_1_code 31 = .ok (.return_, 1) := by decide +kernel
theorem own_pn8 : plainName "com/example/casewright/engine/TestResult" = true := by first | (simp [plainName, overriddenIn]; done) | decide +kernel
theorem own_ef8 (m : MethodId) (x0 : Addr) (x1 : Addr) (x2 : Addr) (x3 : Addr) (x5 : Addr) : entryFrame m #[(.ref x0), (.ref x1), (.ref x2), (.ref x3), .null, (.ref x5)] 6 = (mkF m 0 #[.val (.ref x0), .val (.ref x1), .val (.ref x2), .val (.ref x3), .val .null, .val (.ref x5)] []) := by first | (simp [entryFrame, mkF, argsToLocals, Value.category]; done) | rfl
def own_Q8 (Z : State) (o0 : Addr) (o1 : Addr) (o2 : Addr) (o3 : Addr) (o5 : Addr) (u_methodName_o0 : Value) (u_status_o0 : Value) (u_problem_o0 : Value) (u_skipReason_o0 : Value) (u_className_o0 : Value) (h0 : Heap) (n0 : Nat) (v : Option Value) (h : Heap) (L : List Loc) : Prop := v = none ∧ Fr n0 L ∧ Keep h0 h [o0] ∧ Fld Z h o0 "com/example/casewright/engine/TestResult" "methodName" "Ljava/lang/String;" (.ref o2) ∧ Fld Z h o0 "com/example/casewright/engine/TestResult" "status" "Lcom/example/casewright/engine/TestResult$Status;" (.ref o3) ∧ Fld Z h o0 "com/example/casewright/engine/TestResult" "problem" "Ljava/lang/Throwable;" .null ∧ Fld Z h o0 "com/example/casewright/engine/TestResult" "skipReason" "Ljava/lang/String;" (.ref o5) ∧ Exa Z h o0 "com/example/casewright/engine/TestResult" ∧ Fld Z h o0 "com/example/casewright/engine/TestResult" "className" "Ljava/lang/String;" (.ref o1)
set_option maxRecDepth 65536 in
set_option maxHeartbeats 40000000 in
theorem own_rm8 (l : Launch) (Z : State) (a0 : Array Value) (hw : ∀ d ∈ tables_1, d.before a0 Z = true) (ws : List Jvm.Cond) (o0 : Addr) (o1 : Addr) (o2 : Addr) (o3 : Addr) (o5 : Addr) (u_methodName_o0 : Value) (u_status_o0 : Value) (u_problem_o0 : Value) (u_skipReason_o0 : Value) (u_className_o0 : Value) (h0 : Heap) (n0 : Nat) (Z0 : n0 ≤ h0.size) (P_F_o0_methodName : Fld Z h0 o0 "com/example/casewright/engine/TestResult" "methodName" "Ljava/lang/String;" u_methodName_o0) (P_F_o0_status : Fld Z h0 o0 "com/example/casewright/engine/TestResult" "status" "Lcom/example/casewright/engine/TestResult$Status;" u_status_o0) (P_F_o0_problem : Fld Z h0 o0 "com/example/casewright/engine/TestResult" "problem" "Ljava/lang/Throwable;" u_problem_o0) (P_F_o0_skipReason : Fld Z h0 o0 "com/example/casewright/engine/TestResult" "skipReason" "Ljava/lang/String;" u_skipReason_o0) (P_E_o0 : Exa Z h0 o0 "com/example/casewright/engine/TestResult") (P_F_o0_className : Fld Z h0 o0 "com/example/casewright/engine/TestResult" "className" "Ljava/lang/String;" u_className_o0) (G_o0 : n0 ≤ o0) :
    MetFree l (⟨"com/example/casewright/engine/TestResult", "<init>", "(Ljava/lang/String;Ljava/lang/String;Lcom/example/casewright/engine/TestResult$Status;Ljava/lang/Throwable;Ljava/lang/String;)V"⟩ : MethodName) (head1 (Jvm.Cond.code (⟨"com/example/casewright/engine/TestResult", "<init>", "(Ljava/lang/String;Ljava/lang/String;Lcom/example/casewright/engine/TestResult$Status;Ljava/lang/Throwable;Ljava/lang/String;)V"⟩ : MethodName) prog_61_method_1_code 6 none :: ws) ({ frames := 2, cells := 0, slots := 0, locals := 24 } : Room)) (fun a U => a = #[(.ref o0), (.ref o1), (.ref o2), (.ref o3), .null, (.ref o5)] ∧ Z.Warmed39 U.vm ∧ U.heap = h0) (fun _ _ _ _ _ => True) (fun _ U o U' => ∃ v L, o = .returned v ∧ own_Q8 Z o0 o1 o2 o3 o5 u_methodName_o0 u_status_o0 u_problem_o0 u_skipReason_o0 u_className_o0 h0 n0 v U'.heap L ∧ FrameEnd U o U' L ({ frames := 2, cells := 0, slots := 0, locals := 24 } : Room).cells ({ frames := 2, cells := 0, slots := 0, locals := 24 } : Room).slots) := by
  refine MetFree.of_bodySF (plainFor_of_name own_pn8) hisR ?_
  intro p e s m args below meth c s₁ Bd hml0 hP hK
  obtain ⟨rfl, hZ, hh⟩ := hP
  have hx := Bd.exec
  have hlk : meth.locks = false := BodyLoose.notSynchronized Bd
  have hby := Bd.bytes
  have hml : c.maxLocals = 6 := hml0
  have hown : s.vm.findClass "com/example/casewright/engine/TestResult" = some m.cls := findClass_of_methodNamed Bd.named
  have hnm := (name_of_methodNamed Bd.named Bd.method).1
  have X0 : Stand p l e ({ frames := 2, cells := 0, slots := 0, locals := 24 } : Room) s m #[(.ref o0), (.ref o1), (.ref o2), (.ref o3), .null, (.ref o5)] below meth c s₁ [] 0 0 := Stand.of_body Bd
  have e0 : s₁.heap = h0 := by rw [← hh, Bd.state]; rfl
  have N0 := Fr.nil n0
  have pre0 : ∀ t, Steps p.tables e below (s₁.setTop (mkF m 0 #[.val (.ref o0), .val (.ref o1), .val (.ref o2), .val (.ref o3), .val .null, .val (.ref o5)] [])) t → Steps p.tables e below (s₁.setTop (entryFrame m #[(.ref o0), (.ref o1), (.ref o2), (.ref o3), .null, (.ref o5)] 6)) t := fun t k => castTop (own_ef8 m o0 o1 o2 o3 o5) k
  obtain ⟨_, _, ⟨T1, L1, k1, n1⟩, -, X1, ⟨Lc1, hQ1, l1, y1, z1⟩, st1⟩ := X0.specialBack hx (y := (⟨"java/lang/Record", "<init>", "()V"⟩ : MethodName)) rfl hown (mvT hZ (hw _ (List.mem_of_getElem? (i := 45) rfl))) (mvT hZ (hw _ (List.mem_of_getElem? (i := 46) rfl))) (mvT hZ (hw _ (List.mem_of_getElem? (i := 49) rfl))) (by decide) (backOf (W := 0) (own_rm9 l Z a0 hw [] o0 h0 n0 Z0 ) hZ (hw _ (List.mem_of_getElem? (i := 49) rfl)) (hw _ (List.mem_of_getElem? (i := 48) rfl)) (by decide) (by decide)) (g := (mkF m 1 #[.val (.ref o0), .val (.ref o1), .val (.ref o2), .val (.ref o3), .val .null, .val (.ref o5)] [(.ref o0)])) rfl (by rw [hml]; rfl) (Steps.refl _) (a := o0) (argsL := []) (rest := []) (lenOf own_pd4 rfl) rfl (by show 2 * 0 + _ ≤ _; exact Nat.le_of_eq rfl) (hb hby own_d8_1) (fun _ _ => ⟨rfl, e0, (by decide : 0 + 0 ≤ _), (by decide : 0 + 0 ≤ _)⟩)
  dsimp only [Pt.U, Pt.locs, Pt.cells, Pt.slots] at X1 l1 y1 z1 st1 hQ1
  subst l1 y1 z1
  obtain ⟨rfl, N1q, e1⟩ := hQ1
  have N2 := Fr.app N0 N1q
  obtain ⟨T3, h3, X3, e3, W3, st3⟩ := putF X1 hx hZ hown (host := "") (Or.inl (hw _ (List.mem_of_getElem? (i := 51) rfl))) Via.refl e1 P_F_o0_className P_E_o0 (Or.inr ⟨(hw _ (List.mem_of_getElem? (i := 52) rfl)), rfl, hnm⟩) (hw _ (List.mem_of_getElem? (i := 35) rfl)) (ty := (.object "java/lang/String")) (by decide) rfl rfl (g := (mkF m 6 #[.val (.ref o0), .val (.ref o1), .val (.ref o2), .val (.ref o3), .val .null, .val (.ref o5)] [(.ref o1), (.ref o0)])) rfl rfl (hb hby own_d8_6)
  have f4 : Fld Z h3 o0 "com/example/casewright/engine/TestResult" "methodName" "Ljava/lang/String;" u_methodName_o0 := P_F_o0_methodName.other W3 (Or.inr (slot_ne (Or.inr (hw _ (List.mem_of_getElem? (i := 54) rfl))) (Or.inr (hw _ (List.mem_of_getElem? (i := 52) rfl))) (by decide) (t := (.object "java/lang/String")) (t' := (.object "java/lang/String")) (by decide) (by decide)))
  have f5 : Fld Z h3 o0 "com/example/casewright/engine/TestResult" "status" "Lcom/example/casewright/engine/TestResult$Status;" u_status_o0 := P_F_o0_status.other W3 (Or.inr (slot_ne (Or.inr (hw _ (List.mem_of_getElem? (i := 56) rfl))) (Or.inr (hw _ (List.mem_of_getElem? (i := 52) rfl))) (by decide) (t := (.object "com/example/casewright/engine/TestResult$Status")) (t' := (.object "java/lang/String")) (by decide) (by decide)))
  have f6 : Fld Z h3 o0 "com/example/casewright/engine/TestResult" "problem" "Ljava/lang/Throwable;" u_problem_o0 := P_F_o0_problem.other W3 (Or.inr (slot_ne (Or.inr (hw _ (List.mem_of_getElem? (i := 58) rfl))) (Or.inr (hw _ (List.mem_of_getElem? (i := 52) rfl))) (by decide) (t := (.object "java/lang/Throwable")) (t' := (.object "java/lang/String")) (by decide) (by decide)))
  have f7 : Fld Z h3 o0 "com/example/casewright/engine/TestResult" "skipReason" "Ljava/lang/String;" u_skipReason_o0 := P_F_o0_skipReason.other W3 (Or.inr (slot_ne (Or.inr (hw _ (List.mem_of_getElem? (i := 60) rfl))) (Or.inr (hw _ (List.mem_of_getElem? (i := 52) rfl))) (by decide) (t := (.object "java/lang/String")) (t' := (.object "java/lang/String")) (by decide) (by decide)))
  have f8 : Exa Z h3 o0 "com/example/casewright/engine/TestResult" := P_E_o0.wr W3
  have f9 : Fld Z h3 o0 "com/example/casewright/engine/TestResult" "className" "Ljava/lang/String;" (.ref o1) := P_F_o0_className.same W3
  have zs10 : n0 ≤ h3.size := Nat.le_trans Z0 (Keep.of_wr W3).1
  have N11 := Fr.snoc X3 N2 G_o0
  have K12 : Keep h0 h0 [o0] := Keep.refl h0 [o0]
  have K13 : Keep h0 h3 [o0] := K12.wr W3 (Or.inl (by simp))
  obtain ⟨T14, h14, X14, e14, W14, st14⟩ := putF X3 hx hZ hown (host := "") (Or.inl (hw _ (List.mem_of_getElem? (i := 53) rfl))) Via.refl e3 f4 f8 (Or.inr ⟨(hw _ (List.mem_of_getElem? (i := 54) rfl)), rfl, hnm⟩) (hw _ (List.mem_of_getElem? (i := 35) rfl)) (ty := (.object "java/lang/String")) (by decide) rfl rfl (g := (mkF m 11 #[.val (.ref o0), .val (.ref o1), .val (.ref o2), .val (.ref o3), .val .null, .val (.ref o5)] [(.ref o2), (.ref o0)])) rfl rfl (hb hby own_d8_11)
  have f15 : Fld Z h14 o0 "com/example/casewright/engine/TestResult" "methodName" "Ljava/lang/String;" (.ref o2) := f4.same W14
  have f16 : Fld Z h14 o0 "com/example/casewright/engine/TestResult" "status" "Lcom/example/casewright/engine/TestResult$Status;" u_status_o0 := f5.other W14 (Or.inr (slot_ne (Or.inr (hw _ (List.mem_of_getElem? (i := 56) rfl))) (Or.inr (hw _ (List.mem_of_getElem? (i := 54) rfl))) (by decide) (t := (.object "com/example/casewright/engine/TestResult$Status")) (t' := (.object "java/lang/String")) (by decide) (by decide)))
  have f17 : Fld Z h14 o0 "com/example/casewright/engine/TestResult" "problem" "Ljava/lang/Throwable;" u_problem_o0 := f6.other W14 (Or.inr (slot_ne (Or.inr (hw _ (List.mem_of_getElem? (i := 58) rfl))) (Or.inr (hw _ (List.mem_of_getElem? (i := 54) rfl))) (by decide) (t := (.object "java/lang/Throwable")) (t' := (.object "java/lang/String")) (by decide) (by decide)))
  have f18 : Fld Z h14 o0 "com/example/casewright/engine/TestResult" "skipReason" "Ljava/lang/String;" u_skipReason_o0 := f7.other W14 (Or.inr (slot_ne (Or.inr (hw _ (List.mem_of_getElem? (i := 60) rfl))) (Or.inr (hw _ (List.mem_of_getElem? (i := 54) rfl))) (by decide) (t := (.object "java/lang/String")) (t' := (.object "java/lang/String")) (by decide) (by decide)))
  have f19 : Exa Z h14 o0 "com/example/casewright/engine/TestResult" := f8.wr W14
  have f20 : Fld Z h14 o0 "com/example/casewright/engine/TestResult" "className" "Ljava/lang/String;" (.ref o1) := f9.other W14 (Or.inr (slot_ne (Or.inr (hw _ (List.mem_of_getElem? (i := 52) rfl))) (Or.inr (hw _ (List.mem_of_getElem? (i := 54) rfl))) (by decide) (t := (.object "java/lang/String")) (t' := (.object "java/lang/String")) (by decide) (by decide)))
  have zs21 : n0 ≤ h14.size := Nat.le_trans zs10 (Keep.of_wr W14).1
  have N22 := Fr.snoc X14 N11 G_o0
  have K23 : Keep h0 h14 [o0] := K13.wr W14 (Or.inl (by simp))
  obtain ⟨T24, h24, X24, e24, W24, st24⟩ := putF X14 hx hZ hown (host := "") (Or.inl (hw _ (List.mem_of_getElem? (i := 55) rfl))) Via.refl e14 f16 f19 (Or.inr ⟨(hw _ (List.mem_of_getElem? (i := 56) rfl)), rfl, hnm⟩) (hw _ (List.mem_of_getElem? (i := 35) rfl)) (ty := (.object "com/example/casewright/engine/TestResult$Status")) (by decide) rfl rfl (g := (mkF m 16 #[.val (.ref o0), .val (.ref o1), .val (.ref o2), .val (.ref o3), .val .null, .val (.ref o5)] [(.ref o3), (.ref o0)])) rfl rfl (hb hby own_d8_16)
  have f25 : Fld Z h24 o0 "com/example/casewright/engine/TestResult" "methodName" "Ljava/lang/String;" (.ref o2) := f15.other W24 (Or.inr (slot_ne (Or.inr (hw _ (List.mem_of_getElem? (i := 54) rfl))) (Or.inr (hw _ (List.mem_of_getElem? (i := 56) rfl))) (by decide) (t := (.object "java/lang/String")) (t' := (.object "com/example/casewright/engine/TestResult$Status")) (by decide) (by decide)))
  have f26 : Fld Z h24 o0 "com/example/casewright/engine/TestResult" "status" "Lcom/example/casewright/engine/TestResult$Status;" (.ref o3) := f16.same W24
  have f27 : Fld Z h24 o0 "com/example/casewright/engine/TestResult" "problem" "Ljava/lang/Throwable;" u_problem_o0 := f17.other W24 (Or.inr (slot_ne (Or.inr (hw _ (List.mem_of_getElem? (i := 58) rfl))) (Or.inr (hw _ (List.mem_of_getElem? (i := 56) rfl))) (by decide) (t := (.object "java/lang/Throwable")) (t' := (.object "com/example/casewright/engine/TestResult$Status")) (by decide) (by decide)))
  have f28 : Fld Z h24 o0 "com/example/casewright/engine/TestResult" "skipReason" "Ljava/lang/String;" u_skipReason_o0 := f18.other W24 (Or.inr (slot_ne (Or.inr (hw _ (List.mem_of_getElem? (i := 60) rfl))) (Or.inr (hw _ (List.mem_of_getElem? (i := 56) rfl))) (by decide) (t := (.object "java/lang/String")) (t' := (.object "com/example/casewright/engine/TestResult$Status")) (by decide) (by decide)))
  have f29 : Exa Z h24 o0 "com/example/casewright/engine/TestResult" := f19.wr W24
  have f30 : Fld Z h24 o0 "com/example/casewright/engine/TestResult" "className" "Ljava/lang/String;" (.ref o1) := f20.other W24 (Or.inr (slot_ne (Or.inr (hw _ (List.mem_of_getElem? (i := 52) rfl))) (Or.inr (hw _ (List.mem_of_getElem? (i := 56) rfl))) (by decide) (t := (.object "java/lang/String")) (t' := (.object "com/example/casewright/engine/TestResult$Status")) (by decide) (by decide)))
  have zs31 : n0 ≤ h24.size := Nat.le_trans zs21 (Keep.of_wr W24).1
  have N32 := Fr.snoc X24 N22 G_o0
  have K33 : Keep h0 h24 [o0] := K23.wr W24 (Or.inl (by simp))
  obtain ⟨T34, h34, X34, e34, W34, st34⟩ := putF X24 hx hZ hown (host := "") (Or.inl (hw _ (List.mem_of_getElem? (i := 57) rfl))) Via.refl e24 f27 f29 (Or.inr ⟨(hw _ (List.mem_of_getElem? (i := 58) rfl)), rfl, hnm⟩) (hw _ (List.mem_of_getElem? (i := 35) rfl)) (ty := (.object "java/lang/Throwable")) (by decide) rfl rfl (g := (mkF m 22 #[.val (.ref o0), .val (.ref o1), .val (.ref o2), .val (.ref o3), .val .null, .val (.ref o5)] [.null, (.ref o0)])) rfl rfl (hb hby own_d8_22)
  have f35 : Fld Z h34 o0 "com/example/casewright/engine/TestResult" "methodName" "Ljava/lang/String;" (.ref o2) := f25.other W34 (Or.inr (slot_ne (Or.inr (hw _ (List.mem_of_getElem? (i := 54) rfl))) (Or.inr (hw _ (List.mem_of_getElem? (i := 58) rfl))) (by decide) (t := (.object "java/lang/String")) (t' := (.object "java/lang/Throwable")) (by decide) (by decide)))
  have f36 : Fld Z h34 o0 "com/example/casewright/engine/TestResult" "status" "Lcom/example/casewright/engine/TestResult$Status;" (.ref o3) := f26.other W34 (Or.inr (slot_ne (Or.inr (hw _ (List.mem_of_getElem? (i := 56) rfl))) (Or.inr (hw _ (List.mem_of_getElem? (i := 58) rfl))) (by decide) (t := (.object "com/example/casewright/engine/TestResult$Status")) (t' := (.object "java/lang/Throwable")) (by decide) (by decide)))
  have f37 : Fld Z h34 o0 "com/example/casewright/engine/TestResult" "problem" "Ljava/lang/Throwable;" .null := f27.same W34
  have f38 : Fld Z h34 o0 "com/example/casewright/engine/TestResult" "skipReason" "Ljava/lang/String;" u_skipReason_o0 := f28.other W34 (Or.inr (slot_ne (Or.inr (hw _ (List.mem_of_getElem? (i := 60) rfl))) (Or.inr (hw _ (List.mem_of_getElem? (i := 58) rfl))) (by decide) (t := (.object "java/lang/String")) (t' := (.object "java/lang/Throwable")) (by decide) (by decide)))
  have f39 : Exa Z h34 o0 "com/example/casewright/engine/TestResult" := f29.wr W34
  have f40 : Fld Z h34 o0 "com/example/casewright/engine/TestResult" "className" "Ljava/lang/String;" (.ref o1) := f30.other W34 (Or.inr (slot_ne (Or.inr (hw _ (List.mem_of_getElem? (i := 52) rfl))) (Or.inr (hw _ (List.mem_of_getElem? (i := 58) rfl))) (by decide) (t := (.object "java/lang/String")) (t' := (.object "java/lang/Throwable")) (by decide) (by decide)))
  have zs41 : n0 ≤ h34.size := Nat.le_trans zs31 (Keep.of_wr W34).1
  have N42 := Fr.snoc X34 N32 G_o0
  have K43 : Keep h0 h34 [o0] := K33.wr W34 (Or.inl (by simp))
  obtain ⟨T44, h44, X44, e44, W44, st44⟩ := putF X34 hx hZ hown (host := "") (Or.inl (hw _ (List.mem_of_getElem? (i := 59) rfl))) Via.refl e34 f38 f39 (Or.inr ⟨(hw _ (List.mem_of_getElem? (i := 60) rfl)), rfl, hnm⟩) (hw _ (List.mem_of_getElem? (i := 35) rfl)) (ty := (.object "java/lang/String")) (by decide) rfl rfl (g := (mkF m 28 #[.val (.ref o0), .val (.ref o1), .val (.ref o2), .val (.ref o3), .val .null, .val (.ref o5)] [(.ref o5), (.ref o0)])) rfl rfl (hb hby own_d8_28)
  have f45 : Fld Z h44 o0 "com/example/casewright/engine/TestResult" "methodName" "Ljava/lang/String;" (.ref o2) := f35.other W44 (Or.inr (slot_ne (Or.inr (hw _ (List.mem_of_getElem? (i := 54) rfl))) (Or.inr (hw _ (List.mem_of_getElem? (i := 60) rfl))) (by decide) (t := (.object "java/lang/String")) (t' := (.object "java/lang/String")) (by decide) (by decide)))
  have f46 : Fld Z h44 o0 "com/example/casewright/engine/TestResult" "status" "Lcom/example/casewright/engine/TestResult$Status;" (.ref o3) := f36.other W44 (Or.inr (slot_ne (Or.inr (hw _ (List.mem_of_getElem? (i := 56) rfl))) (Or.inr (hw _ (List.mem_of_getElem? (i := 60) rfl))) (by decide) (t := (.object "com/example/casewright/engine/TestResult$Status")) (t' := (.object "java/lang/String")) (by decide) (by decide)))
  have f47 : Fld Z h44 o0 "com/example/casewright/engine/TestResult" "problem" "Ljava/lang/Throwable;" .null := f37.other W44 (Or.inr (slot_ne (Or.inr (hw _ (List.mem_of_getElem? (i := 58) rfl))) (Or.inr (hw _ (List.mem_of_getElem? (i := 60) rfl))) (by decide) (t := (.object "java/lang/Throwable")) (t' := (.object "java/lang/String")) (by decide) (by decide)))
  have f48 : Fld Z h44 o0 "com/example/casewright/engine/TestResult" "skipReason" "Ljava/lang/String;" (.ref o5) := f38.same W44
  have f49 : Exa Z h44 o0 "com/example/casewright/engine/TestResult" := f39.wr W44
  have f50 : Fld Z h44 o0 "com/example/casewright/engine/TestResult" "className" "Ljava/lang/String;" (.ref o1) := f40.other W44 (Or.inr (slot_ne (Or.inr (hw _ (List.mem_of_getElem? (i := 52) rfl))) (Or.inr (hw _ (List.mem_of_getElem? (i := 60) rfl))) (by decide) (t := (.object "java/lang/String")) (t' := (.object "java/lang/String")) (by decide) (by decide)))
  have zs51 : n0 ≤ h44.size := Nat.le_trans zs41 (Keep.of_wr W44).1
  have N52 := Fr.snoc X44 N42 G_o0
  have K53 : Keep h0 h44 [o0] := K43.wr W44 (Or.inl (by simp))
  have pre54 : ∀ t, Steps p.tables e below (T44.setTop (mkF m 31 #[.val (.ref o0), .val (.ref o1), .val (.ref o2), .val (.ref o3), .val .null, .val (.ref o5)] [])) t → Steps p.tables e below (s₁.setTop (entryFrame m #[(.ref o0), (.ref o1), (.ref o2), (.ref o3), .null, (.ref o5)] 6)) t := fun t k => pre0 t (by
      refine XS.aloadN X0.here hx rfl (hb hby own_d8_0) rfl rfl ?_
      show Steps p.tables e below (s₁.setTop (mkF m 1 #[.val (.ref o0), .val (.ref o1), .val (.ref o2), .val (.ref o3), .val .null, .val (.ref o5)] [(.ref o0)])) _
      refine st1.trans ?_
      show Steps p.tables e below (T1.setTop (mkF m 4 #[.val (.ref o0), .val (.ref o1), .val (.ref o2), .val (.ref o3), .val .null, .val (.ref o5)] [])) _
      refine XS.aloadN X1.here hx rfl (hb hby own_d8_4) rfl rfl ?_
      show Steps p.tables e below (T1.setTop (mkF m 5 #[.val (.ref o0), .val (.ref o1), .val (.ref o2), .val (.ref o3), .val .null, .val (.ref o5)] [(.ref o0)])) _
      refine XS.aloadN X1.here hx rfl (hb hby own_d8_5) rfl rfl ?_
      show Steps p.tables e below (T1.setTop (mkF m 6 #[.val (.ref o0), .val (.ref o1), .val (.ref o2), .val (.ref o3), .val .null, .val (.ref o5)] [(.ref o1), (.ref o0)])) _
      refine st3 _ ?_
      show Steps p.tables e below (T3.setTop (mkF m 9 #[.val (.ref o0), .val (.ref o1), .val (.ref o2), .val (.ref o3), .val .null, .val (.ref o5)] [])) _
      refine XS.aloadN X3.here hx rfl (hb hby own_d8_9) rfl rfl ?_
      show Steps p.tables e below (T3.setTop (mkF m 10 #[.val (.ref o0), .val (.ref o1), .val (.ref o2), .val (.ref o3), .val .null, .val (.ref o5)] [(.ref o0)])) _
      refine XS.aloadN X3.here hx rfl (hb hby own_d8_10) rfl rfl ?_
      show Steps p.tables e below (T3.setTop (mkF m 11 #[.val (.ref o0), .val (.ref o1), .val (.ref o2), .val (.ref o3), .val .null, .val (.ref o5)] [(.ref o2), (.ref o0)])) _
      refine st14 _ ?_
      show Steps p.tables e below (T14.setTop (mkF m 14 #[.val (.ref o0), .val (.ref o1), .val (.ref o2), .val (.ref o3), .val .null, .val (.ref o5)] [])) _
      refine XS.aloadN X14.here hx rfl (hb hby own_d8_14) rfl rfl ?_
      show Steps p.tables e below (T14.setTop (mkF m 15 #[.val (.ref o0), .val (.ref o1), .val (.ref o2), .val (.ref o3), .val .null, .val (.ref o5)] [(.ref o0)])) _
      refine XS.aloadN X14.here hx rfl (hb hby own_d8_15) rfl rfl ?_
      show Steps p.tables e below (T14.setTop (mkF m 16 #[.val (.ref o0), .val (.ref o1), .val (.ref o2), .val (.ref o3), .val .null, .val (.ref o5)] [(.ref o3), (.ref o0)])) _
      refine st24 _ ?_
      show Steps p.tables e below (T24.setTop (mkF m 19 #[.val (.ref o0), .val (.ref o1), .val (.ref o2), .val (.ref o3), .val .null, .val (.ref o5)] [])) _
      refine XS.aloadN X24.here hx rfl (hb hby own_d8_19) rfl rfl ?_
      show Steps p.tables e below (T24.setTop (mkF m 20 #[.val (.ref o0), .val (.ref o1), .val (.ref o2), .val (.ref o3), .val .null, .val (.ref o5)] [(.ref o0)])) _
      refine XS.aload X24.here hx rfl (hb hby own_d8_20) rfl rfl ?_
      show Steps p.tables e below (T24.setTop (mkF m 22 #[.val (.ref o0), .val (.ref o1), .val (.ref o2), .val (.ref o3), .val .null, .val (.ref o5)] [.null, (.ref o0)])) _
      refine st34 _ ?_
      show Steps p.tables e below (T34.setTop (mkF m 25 #[.val (.ref o0), .val (.ref o1), .val (.ref o2), .val (.ref o3), .val .null, .val (.ref o5)] [])) _
      refine XS.aloadN X34.here hx rfl (hb hby own_d8_25) rfl rfl ?_
      show Steps p.tables e below (T34.setTop (mkF m 26 #[.val (.ref o0), .val (.ref o1), .val (.ref o2), .val (.ref o3), .val .null, .val (.ref o5)] [(.ref o0)])) _
      refine XS.aload X34.here hx rfl (hb hby own_d8_26) rfl rfl ?_
      show Steps p.tables e below (T34.setTop (mkF m 28 #[.val (.ref o0), .val (.ref o1), .val (.ref o2), .val (.ref o3), .val .null, .val (.ref o5)] [(.ref o5), (.ref o0)])) _
      refine st44 _ ?_
      show Steps p.tables e below (T44.setTop (mkF m 31 #[.val (.ref o0), .val (.ref o1), .val (.ref o2), .val (.ref o3), .val .null, .val (.ref o5)] [])) _
      exact k)
  obtain ⟨fs, hr, hrun, hended, hW, hsame⟩ := X44.leave (v := none) (fun _ => rfl) (hlocks := hlk)
  refine ⟨_, _, pre54 _ ?_, hrun, hended, _, _, rfl, ?_, ⟨_, rfl⟩, hW, hsame.mono (by decide) (by decide)⟩
  · show Steps p.tables e below (T44.setTop (mkF m 31 #[.val (.ref o0), .val (.ref o1), .val (.ref o2), .val (.ref o3), .val .null, .val (.ref o5)] [])) _
    exact X44.returnOut hx Bd.returns (hb hby own_d8_31) hr
  · show own_Q8 Z o0 o1 o2 o3 o5 u_methodName_o0 u_status_o0 u_problem_o0 u_skipReason_o0 u_className_o0 h0 n0 _ T44.heap _; rw [e44]; exact ⟨rfl, N52, K53, f45, f46, f47, f48, f49, f50⟩
theorem own_pd5 : parseMethodDescriptor "(Ljava/lang/String;Ljava/lang/String;Lcom/example/casewright/engine/TestResult$Status;Ljava/lang/Throwable;Ljava/lang/String;)V" = some ⟨[(.object "java/lang/String"), (.object "java/lang/String"), (.object "com/example/casewright/engine/TestResult$Status"), (.object "java/lang/Throwable"), (.object "java/lang/String")], none⟩ := by decide +kernel
theorem own_d7_0 : decode prog_61_method_2_code 0 = .ok (.new 8, 3) := by decide +kernel
theorem own_d7_3 : decode prog_61_method_2_code 3 = .ok (.dup, 1) := by decide +kernel
theorem own_d7_4 : decode prog_61_method_2_code 4 = .ok (.aload_n 0, 1) := by decide +kernel
theorem own_d7_5 : decode prog_61_method_2_code 5 = .ok (.aload_n 1, 1) := by decide +kernel
theorem own_d7_6 : decode prog_61_method_2_code 6 = .ok (.getstatic 27, 3) := by decide +kernel
theorem own_d7_9 : decode prog_61_method_2_code 9 = .ok (.aconst_null, 1) := by decide +kernel
theorem own_d7_10 : decode prog_61_method_2_code 10 = .ok (.ldc 32, 2) := by decide +kernel
theorem own_d7_12 : decode prog_61_method_2_code 12 = .ok (.invokespecial 34, 3) := by decide +kernel
theorem own_d7_15 : decode prog_61_method_2_code 15 = .ok (.areturn, 1) := by decide +kernel
theorem own_pn7 : plainName "com/example/casewright/engine/TestResult" = true := by first | (simp [plainName, overriddenIn]; done) | decide +kernel
theorem own_ef7 (m : MethodId) (x0 : Addr) (x1 : Addr) : entryFrame m #[(.ref x0), (.ref x1)] 2 = (mkF m 0 #[.val (.ref x0), .val (.ref x1)] []) := by first | (simp [entryFrame, mkF, argsToLocals, Value.category]; done) | rfl
def own_Q7 (Z : State) (o0 : Addr) (o1 : Addr) (z_PA : Addr) (h0 : Heap) (n0 : Nat) (v : Option Value) (vm : Vm) (h : Heap) (L : List Loc) : Prop := ∃ b1 : Addr, ∃ kc15 : ClassId, ∃ ba15 : Addr, ∃ bb15 : Addr, v = some (.ref b1) ∧ Fr n0 L ∧ Keep h0 h [] ∧ h0.size ≤ b1 ∧ Exa Z h b1 "com/example/casewright/engine/TestResult" ∧ Fld Z h b1 "com/example/casewright/engine/TestResult" "className" "Ljava/lang/String;" (.ref o0) ∧ Fld Z h b1 "com/example/casewright/engine/TestResult" "methodName" "Ljava/lang/String;" (.ref o1) ∧ Fld Z h b1 "com/example/casewright/engine/TestResult" "status" "Lcom/example/casewright/engine/TestResult$Status;" (.ref z_PA) ∧ Fld Z h b1 "com/example/casewright/engine/TestResult" "problem" "Ljava/lang/Throwable;" .null ∧ Fld Z h b1 "com/example/casewright/engine/TestResult" "skipReason" "Ljava/lang/String;" (.ref ba15) ∧ Exa Z h ba15 "java/lang/String" ∧ Fld Z h ba15 "java/lang/String" "coder" "B" (.int (0 : Int32)) ∧ Fld Z h ba15 "java/lang/String" "value" "[B" (.ref bb15) ∧ Arv Z h bb15 kc15 .byte (0 : Int32) [] (.int (0 : Int32)) ∧ own_J Z vm h
set_option maxRecDepth 65536 in
set_option maxHeartbeats 40000000 in
theorem own_rm7 (l : Launch) (Z : State) (a0 : Array Value) (hw : ∀ d ∈ tables_1, d.before a0 Z = true) (ws : List Jvm.Cond) (o0 : Addr) (o1 : Addr) (z_PA : Addr) (h0 : Heap) (n0 : Nat) (Z0 : n0 ≤ h0.size) (P_O_ : Old Z n0 h0) (P_S_com_example_casewright_engine_TestResult_Status_PASSED : Sta Z h0 "com/example/casewright/engine/TestResult$Status" "PASSED" "Lcom/example/casewright/engine/TestResult$Status;" (.ref z_PA)) :
    MetFree l (⟨"com/example/casewright/engine/TestResult", "passed", "(Ljava/lang/String;Ljava/lang/String;)Lcom/example/casewright/engine/TestResult;"⟩ : MethodName) (head1 (Jvm.Cond.code (⟨"com/example/casewright/engine/TestResult", "passed", "(Ljava/lang/String;Ljava/lang/String;)Lcom/example/casewright/engine/TestResult;"⟩ : MethodName) prog_61_method_2_code 2 (some (.object "com/example/casewright/engine/TestResult")) :: ws) ({ frames := 3, cells := 3, slots := 13, locals := 42 } : Room)) (fun a U => a = #[(.ref o0), (.ref o1)] ∧ Z.Warmed39 U.vm ∧ U.heap = h0 ∧ own_J Z U.vm h0) (fun _ _ _ _ _ => True) (fun _ U o U' => ∃ v L, o = .returned v ∧ own_Q7 Z o0 o1 z_PA h0 n0 v U'.vm U'.heap L ∧ ReturnedEndW U o U' L ({ frames := 3, cells := 3, slots := 13, locals := 42 } : Room).cells ({ frames := 3, cells := 3, slots := 13, locals := 42 } : Room).slots) := by
  refine MetFree.of_bodySF (plainFor_of_name own_pn7) hisR ?_
  intro p e s m args below meth c s₁ Bd hml0 hP hK
  obtain ⟨rfl, hZ, hh, hJ⟩ := hP
  have hkeep : ∀ (b : Addr) (cl : Cell), Z.heap[b]? = some cl → s.heap[b]? = some cl := by rw [hh]; exact P_O_.2.2
  have hS0 : s.Since s.vm 0 := (State.WarmedH.refl s).since 0
  have hx := Bd.exec
  have hlk : meth.locks = false := BodyLoose.notSynchronized Bd
  have hby := Bd.bytes
  have hml : c.maxLocals = 2 := hml0
  have hown : s.vm.findClass "com/example/casewright/engine/TestResult" = some m.cls := findClass_of_methodNamed Bd.named
  have hnm := (name_of_methodNamed Bd.named Bd.method).1
  have X0 : Stand p l e ({ frames := 3, cells := 3, slots := 13, locals := 42 } : Room) s m #[(.ref o0), (.ref o1)] below meth c s₁ [] 0 0 := Stand.of_body Bd
  have e0 : s₁.heap = h0 := by rw [← hh, Bd.state]; rfl
  have N0 := Fr.nil n0
  have pre0 : ∀ t, Steps p.tables e below (s₁.setTop (mkF m 0 #[.val (.ref o0), .val (.ref o1)] [])) t → Steps p.tables e below (s₁.setTop (entryFrame m #[(.ref o0), (.ref o1)] 2)) t := fun t k => castTop (own_ef7 m o0 o1) k
  obtain ⟨T1, h1, X1, e1, E1, A1, D1, -, st1⟩ := newO X0 hx hZ hown (hw _ (List.mem_of_getElem? (i := 34) rfl)) (hw _ (List.mem_of_getElem? (i := 35) rfl)) (hw _ (List.mem_of_getElem? (i := 32) rfl)) e0 (g := (mkF m 0 #[.val (.ref o0), .val (.ref o1)] [])) rfl (hb hby own_d7_0) (by decide) (by decide)
  obtain ⟨b1, g1⟩ : ∃ z, z = h0.size := ⟨_, rfl⟩
  rw [← g1] at A1 D1 st1
  have g_b1 : n0 ≤ b1 := Nat.le_trans Z0 (Nat.le_of_eq g1.symm)
  have K2 : Keep h0 h0 [] := Keep.refl h0 []
  have sz_b1 : h0.size ≤ b1 := Nat.le_trans K2.1 (Nat.le_of_eq g1.symm)
  have C3 : CHv Z consts_1 s.vm h1 := CHv.ext E1 hJ.2.2
  have Sf4 : Safe Z consts_1 s.vm h1 b1 := Safe.ext E1 hJ.2.2 (Safe.new (Nat.le_of_eq g1.symm))
  have f5 : Old Z n0 h1 := P_O_.ext E1
  have f6 : Sta Z h1 "com/example/casewright/engine/TestResult$Status" "PASSED" "Lcom/example/casewright/engine/TestResult$Status;" (.ref z_PA) := P_S_com_example_casewright_engine_TestResult_Status_PASSED.ext E1
  have zs7 : n0 ≤ h1.size := Nat.le_trans Z0 E1.1
  have K8 : Keep h0 h1 [] := K2.ext E1
  have f9 : Fld Z h1 b1 "com/example/casewright/engine/TestResult" "className" "Ljava/lang/String;" .null := D1 (Or.inr (hw _ (List.mem_of_getElem? (i := 52) rfl))) (ty := (.object "java/lang/String")) (by decide)
  have f10 : Fld Z h1 b1 "com/example/casewright/engine/TestResult" "methodName" "Ljava/lang/String;" .null := D1 (Or.inr (hw _ (List.mem_of_getElem? (i := 54) rfl))) (ty := (.object "java/lang/String")) (by decide)
  have f11 : Fld Z h1 b1 "com/example/casewright/engine/TestResult" "status" "Lcom/example/casewright/engine/TestResult$Status;" .null := D1 (Or.inr (hw _ (List.mem_of_getElem? (i := 56) rfl))) (ty := (.object "com/example/casewright/engine/TestResult$Status")) (by decide)
  have f12 : Fld Z h1 b1 "com/example/casewright/engine/TestResult" "problem" "Ljava/lang/Throwable;" .null := D1 (Or.inr (hw _ (List.mem_of_getElem? (i := 58) rfl))) (ty := (.object "java/lang/Throwable")) (by decide)
  have f13 : Fld Z h1 b1 "com/example/casewright/engine/TestResult" "skipReason" "Ljava/lang/String;" .null := D1 (Or.inr (hw _ (List.mem_of_getElem? (i := 60) rfl))) (ty := (.object "java/lang/String")) (by decide)
  obtain ⟨T14, X14, e14, st14⟩ := getS2 X1 hx hZ hown (host := "") (Or.inl (hw _ (List.mem_of_getElem? (i := 36) rfl))) Via.refl e1 f6 (g := (mkF m 6 #[.val (.ref o0), .val (.ref o1)] [(.ref o1), (.ref o0), (.ref b1), (.ref b1)])) rfl (hb hby own_d7_6)
  obtain ⟨ba15, T15, h15, k115, bb15, kc15, X15, e15, E15, hS15, kk15, hZ15, hown15, fa15, fb15, fc15, fd15, -, -, hC15, -, -, st15⟩ := ldcCH (s := s) (vm0 := s.vm) X14 hx hZ hown (hw _ (List.mem_of_getElem? (i := 39) rfl)) (own_wS Z a0 hw) e14 hS0 (Nat.zero_le _) (own_EW Z a0 hw) (List.mem_of_getElem? (i := 0) rfl) C3 (vs := []) (z := (0 : Int32)) ⟨by decide, by decide⟩ (by decide) (by decide) (g := (mkF m 10 #[.val (.ref o0), .val (.ref o1)] [.null, (.ref z_PA), (.ref o1), (.ref o0), (.ref b1), (.ref b1)])) rfl (hb hby own_d7_10) (n := 4) (by decide) (by decide) (by decide) (by decide)
  have f16 : Old Z n0 h15 := f5.ext E15
  have f17 : Sta Z h15 "com/example/casewright/engine/TestResult$Status" "PASSED" "Lcom/example/casewright/engine/TestResult$Status;" (.ref z_PA) := f6.ext E15
  have f18 : Exa Z h15 b1 "com/example/casewright/engine/TestResult" := A1.ext E15
  have f19 : Fld Z h15 b1 "com/example/casewright/engine/TestResult" "className" "Ljava/lang/String;" .null := f9.ext E15
  have f20 : Fld Z h15 b1 "com/example/casewright/engine/TestResult" "methodName" "Ljava/lang/String;" .null := f10.ext E15
  have f21 : Fld Z h15 b1 "com/example/casewright/engine/TestResult" "status" "Lcom/example/casewright/engine/TestResult$Status;" .null := f11.ext E15
  have f22 : Fld Z h15 b1 "com/example/casewright/engine/TestResult" "problem" "Ljava/lang/Throwable;" .null := f12.ext E15
  have f23 : Fld Z h15 b1 "com/example/casewright/engine/TestResult" "skipReason" "Ljava/lang/String;" .null := f13.ext E15
  have zs24 : n0 ≤ h15.size := Nat.le_trans zs7 E15.1
  have K25 : Keep h0 h15 [] := K8.ext E15
  obtain ⟨_, _, ⟨T26, L26, k26, n26⟩, -, X26, ⟨Lc26, hQ26, l26, y26, z26⟩, st26⟩ := X15.specialBack hx (y := (⟨"com/example/casewright/engine/TestResult", "<init>", "(Ljava/lang/String;Ljava/lang/String;Lcom/example/casewright/engine/TestResult$Status;Ljava/lang/Throwable;Ljava/lang/String;)V"⟩ : MethodName)) rfl hown15 (mvT hZ15 (hw _ (List.mem_of_getElem? (i := 42) rfl))) (mvT hZ15 (hw _ (List.mem_of_getElem? (i := 43) rfl))) (mvT hZ15 (hw _ (List.mem_of_getElem? (i := 44) rfl))) (by decide) (backOf (W := 1) (own_rm8 l Z a0 hw [] b1 o0 o1 z_PA ba15 .null .null .null .null .null h15 n0 zs24 f20 f21 f22 f23 f18 f19 g_b1) hZ15 (hw _ (List.mem_of_getElem? (i := 44) rfl)) (hw _ (List.mem_of_getElem? (i := 32) rfl)) (by decide) (by decide)) (g := (mkF m 12 #[.val (.ref o0), .val (.ref o1)] [(.ref ba15), .null, (.ref z_PA), (.ref o1), (.ref o0), (.ref b1), (.ref b1)])) rfl (by rw [hml]; rfl) (Steps.refl _) (a := b1) (argsL := [(.ref o0), (.ref o1), (.ref z_PA), .null, (.ref ba15)]) (rest := [(.ref b1)]) (lenOf own_pd5 rfl) rfl (by show 2 * 0 + _ ≤ _; exact Nat.le_of_eq rfl) (hb hby own_d7_12) (fun _ _ => ⟨rfl, e15, (by decide : 3 + 0 ≤ _), (by decide : 13 + 0 ≤ _)⟩)
  dsimp only [Pt.U, Pt.locs, Pt.cells, Pt.slots] at X26 l26 y26 z26 st26 hQ26
  subst l26 y26 z26
  obtain ⟨rfl, N26q, K26, f27, f28, f29, f30, f31, f32⟩ := hQ26
  have C33 : CHv Z consts_1 T15.vm T26.heap := CHv.keep K26 (fun x hx => by rw [List.mem_singleton.mp hx]; exact Safe.exa hZ15.alike f18 (by decide) (by decide)) hC15.1
  have f34 : Old Z n0 T26.heap := f16.keep K26 (allS g_b1 all0)
  have f35 : Exa Z T26.heap ba15 "java/lang/String" := fa15.keep K26
  have f36 : Fld Z T26.heap ba15 "java/lang/String" "coder" "B" (.int (0 : Int32)) := fb15.keep K26 (ninS (Exa.ne fa15 f18 (by decide)) nin0)
  have f37 : Fld Z T26.heap ba15 "java/lang/String" "value" "[B" (.ref bb15) := fc15.keep K26 (ninS (Exa.ne fa15 f18 (by decide)) nin0)
  have f38 : Arv Z T26.heap bb15 kc15 .byte (0 : Int32) [] (.int (0 : Int32)) := fd15.keep K26 (ninS (Ne.symm (Exa.neArv f18 fd15 (hw _ (List.mem_of_getElem? (i := 35) rfl)))) nin0)
  have zs39 : n0 ≤ T26.heap.size := Nat.le_trans zs24 K26.1
  have kk_40 := Nat.le_trans kk15 K26.1
  have K41 : Keep h0 T26.heap [] := K25.trans K26 (allS (Or.inr sz_b1) all0)
  have N42 := Fr.app N0 N26q
  have pre43 : ∀ t, Steps p.tables e below (T26.setTop (mkF m 15 #[.val (.ref o0), .val (.ref o1)] [(.ref b1)])) t → Steps p.tables e below (s₁.setTop (entryFrame m #[(.ref o0), (.ref o1)] 2)) t := fun t k => pre0 t (by
      refine st1 _ ?_
      show Steps p.tables e below (T1.setTop (mkF m 3 #[.val (.ref o0), .val (.ref o1)] [(.ref b1)])) _
      refine XS.dup X1.here hx rfl (hb hby own_d7_3) rfl rfl ?_
      show Steps p.tables e below (T1.setTop (mkF m 4 #[.val (.ref o0), .val (.ref o1)] [(.ref b1), (.ref b1)])) _
      refine XS.aloadN X1.here hx rfl (hb hby own_d7_4) rfl rfl ?_
      show Steps p.tables e below (T1.setTop (mkF m 5 #[.val (.ref o0), .val (.ref o1)] [(.ref o0), (.ref b1), (.ref b1)])) _
      refine XS.aloadN X1.here hx rfl (hb hby own_d7_5) rfl rfl ?_
      show Steps p.tables e below (T1.setTop (mkF m 6 #[.val (.ref o0), .val (.ref o1)] [(.ref o1), (.ref o0), (.ref b1), (.ref b1)])) _
      refine st14 _ ?_
      show Steps p.tables e below (T14.setTop (mkF m 9 #[.val (.ref o0), .val (.ref o1)] [(.ref z_PA), (.ref o1), (.ref o0), (.ref b1), (.ref b1)])) _
      refine XS.aconstNull X14.here hx rfl (hb hby own_d7_9) ?_
      show Steps p.tables e below (T14.setTop (mkF m 10 #[.val (.ref o0), .val (.ref o1)] [.null, (.ref z_PA), (.ref o1), (.ref o0), (.ref b1), (.ref b1)])) _
      refine st15 _ ?_
      show Steps p.tables e below (T15.setTop (mkF m 12 #[.val (.ref o0), .val (.ref o1)] [(.ref ba15), .null, (.ref z_PA), (.ref o1), (.ref o0), (.ref b1), (.ref b1)])) _
      refine st26.trans ?_
      show Steps p.tables e below (T26.setTop (mkF m 15 #[.val (.ref o0), .val (.ref o1)] [(.ref b1)])) _
      exact k)
  obtain ⟨fs, hr, hrun, hended, hEnd⟩ := X26.leaveW (s := s) (vm₁ := T15.vm) hS15 kk_40 (v := some (.ref b1)) (fun h => by rw [Bd.returns] at h; cases h) (hlocks := hlk)
  refine ⟨_, _, pre43 _ ?_, hrun, hended, _, _, rfl, ?_, hEnd.1, hEnd.2.1, hEnd.2.2.1, hEnd.2.2.2.mono (by decide) (by decide)⟩
  · show Steps p.tables e below (T26.setTop (mkF m 15 #[.val (.ref o0), .val (.ref o1)] [(.ref b1)])) _
    jvm_step X26.here [X26.here.top, hx, (hb hby own_d7_15), X26.method', Bd.returns, Value.isRef, FieldType.isReference]
    first | (intro acts; rw [hr _ acts rfl rfl rfl]) | rw [hr _ _ rfl rfl rfl]
    exact Steps.refl _
  · show own_Q7 Z o0 o1 z_PA h0 n0 _ T26.vm T26.heap _; exact ⟨b1, kc15, ba15, bb15, rfl, N42, K41, sz_b1, f31, f32, f27, f28, f29, f30, f35, f36, f37, f38, (own_J.warm (s := s) (vm := T15.vm) ⟨hZ15, ⟨a0, own_EW Z a0 hw⟩, C33⟩ X26.warmed)⟩
theorem own_d10_0 : decode prog_61_method_12_code 0 = .ok (.aload_n 0, 1) := by decide +kernel
theorem own_d10_1 : decode prog_61_method_12_code 1 = .ok (.getfield 24, 3) := by decide +kernel
theorem own_d10_4 : decode prog_61_method_12_code 4 = .ok (.areturn, 1) := by decide +kernel
theorem own_pn10 : plainName "com/example/casewright/engine/TestResult" = true := by first | (simp [plainName, overriddenIn]; done) | decide +kernel
theorem own_ef10 (m : MethodId) (x0 : Addr) : entryFrame m #[(.ref x0)] 1 = (mkF m 0 #[.val (.ref x0)] []) := by first | (simp [entryFrame, mkF, argsToLocals, Value.category]; done) | rfl
def own_Q10 (Z : State) (o0 : Addr) (w_skipReason_o0 : Addr) (h0 : Heap) (n0 : Nat) (v : Option Value) (h : Heap) (L : List Loc) : Prop := v = some (.ref w_skipReason_o0) ∧ Fr n0 L ∧ h = h0
set_option maxRecDepth 65536 in
set_option maxHeartbeats 40000000 in
theorem own_rm10 (l : Launch) (Z : State) (a0 : Array Value) (hw : ∀ d ∈ tables_1, d.before a0 Z = true) (ws : List Jvm.Cond) (o0 : Addr) (w_skipReason_o0 : Addr) (h0 : Heap) (n0 : Nat) (Z0 : n0 ≤ h0.size) (P_F_o0_skipReason : Fld Z h0 o0 "com/example/casewright/engine/TestResult" "skipReason" "Ljava/lang/String;" (.ref w_skipReason_o0)) :
    MetFree l (⟨"com/example/casewright/engine/TestResult", "skipReason", "()Ljava/lang/String;"⟩ : MethodName) (head1 (Jvm.Cond.code (⟨"com/example/casewright/engine/TestResult", "skipReason", "()Ljava/lang/String;"⟩ : MethodName) prog_61_method_12_code 1 (some (.object "java/lang/String")) :: ws) ({ frames := 0, cells := 0, slots := 0, locals := 0 } : Room)) (fun a U => a = #[(.ref o0)] ∧ Z.Warmed39 U.vm ∧ U.heap = h0) (fun _ _ _ _ _ => True) (fun _ U o U' => ∃ v L, o = .returned v ∧ own_Q10 Z o0 w_skipReason_o0 h0 n0 v U'.heap L ∧ FrameEnd U o U' L ({ frames := 0, cells := 0, slots := 0, locals := 0 } : Room).cells ({ frames := 0, cells := 0, slots := 0, locals := 0 } : Room).slots) := by
  refine MetFree.of_bodySF (plainFor_of_name own_pn10) hisR ?_
  intro p e s m args below meth c s₁ Bd hml0 hP hK
  obtain ⟨rfl, hZ, hh⟩ := hP
  have hx := Bd.exec
  have hlk : meth.locks = false := BodyLoose.notSynchronized Bd
  have hby := Bd.bytes
  have hml : c.maxLocals = 1 := hml0
  have hown : s.vm.findClass "com/example/casewright/engine/TestResult" = some m.cls := findClass_of_methodNamed Bd.named
  have hnm := (name_of_methodNamed Bd.named Bd.method).1
  have X0 : Stand p l e ({ frames := 0, cells := 0, slots := 0, locals := 0 } : Room) s m #[(.ref o0)] below meth c s₁ [] 0 0 := Stand.of_body Bd
  have e0 : s₁.heap = h0 := by rw [← hh, Bd.state]; rfl
  have N0 := Fr.nil n0
  have pre0 : ∀ t, Steps p.tables e below (s₁.setTop (mkF m 0 #[.val (.ref o0)] [])) t → Steps p.tables e below (s₁.setTop (entryFrame m #[(.ref o0)] 1)) t := fun t k => castTop (own_ef10 m o0) k
  obtain ⟨T1, X1, e1, st1⟩ := getF X0 hx hZ hown (host := "") (Or.inl (hw _ (List.mem_of_getElem? (i := 59) rfl))) Via.refl e0 P_F_o0_skipReason (g := (mkF m 1 #[.val (.ref o0)] [(.ref o0)])) rfl rfl (hb hby own_d10_1)
  have pre2 : ∀ t, Steps p.tables e below (T1.setTop (mkF m 4 #[.val (.ref o0)] [(.ref w_skipReason_o0)])) t → Steps p.tables e below (s₁.setTop (entryFrame m #[(.ref o0)] 1)) t := fun t k => pre0 t (by
      refine XS.aloadN X0.here hx rfl (hb hby own_d10_0) rfl rfl ?_
      show Steps p.tables e below (s₁.setTop (mkF m 1 #[.val (.ref o0)] [(.ref o0)])) _
      refine st1 _ ?_
      show Steps p.tables e below (T1.setTop (mkF m 4 #[.val (.ref o0)] [(.ref w_skipReason_o0)])) _
      exact k)
  obtain ⟨fs, hr, hrun, hended, hW, hsame⟩ := X1.leave (v := some (.ref w_skipReason_o0)) (fun h => by rw [Bd.returns] at h; cases h) (hlocks := hlk)
  refine ⟨_, _, pre2 _ ?_, hrun, hended, _, _, rfl, ?_, ⟨_, rfl⟩, hW, hsame.mono (by decide) (by decide)⟩
  · show Steps p.tables e below (T1.setTop (mkF m 4 #[.val (.ref o0)] [(.ref w_skipReason_o0)])) _
    jvm_step X1.here [X1.here.top, hx, (hb hby own_d10_4), X1.method', Bd.returns, Value.isRef, FieldType.isReference]
    first | (intro acts; rw [hr _ acts rfl rfl rfl]) | rw [hr _ _ rfl rfl rfl]
    exact Steps.refl _
  · show own_Q10 Z o0 w_skipReason_o0 h0 n0 _ T1.heap _; rw [e1]; exact ⟨rfl, N0, rfl⟩
theorem own_d11_0 : decode prog_61_method_8_code 0 = .ok (.aload_n 0, 1) := by decide +kernel
theorem own_d11_1 : decode prog_61_method_8_code 1 = .ok (.getfield 7, 3) := by decide +kernel
theorem own_d11_4 : decode prog_61_method_8_code 4 = .ok (.areturn, 1) := by decide +kernel
theorem own_pn11 : plainName "com/example/casewright/engine/TestResult" = true := by first | (simp [plainName, overriddenIn]; done) | decide +kernel
theorem own_ef11 (m : MethodId) (x0 : Addr) : entryFrame m #[(.ref x0)] 1 = (mkF m 0 #[.val (.ref x0)] []) := by first | (simp [entryFrame, mkF, argsToLocals, Value.category]; done) | rfl
def own_Q11 (Z : State) (o0 : Addr) (w_className_o0 : Addr) (h0 : Heap) (n0 : Nat) (v : Option Value) (h : Heap) (L : List Loc) : Prop := v = some (.ref w_className_o0) ∧ Fr n0 L ∧ h = h0
set_option maxRecDepth 65536 in
set_option maxHeartbeats 40000000 in
theorem own_rm11 (l : Launch) (Z : State) (a0 : Array Value) (hw : ∀ d ∈ tables_1, d.before a0 Z = true) (ws : List Jvm.Cond) (o0 : Addr) (w_className_o0 : Addr) (h0 : Heap) (n0 : Nat) (Z0 : n0 ≤ h0.size) (P_F_o0_className : Fld Z h0 o0 "com/example/casewright/engine/TestResult" "className" "Ljava/lang/String;" (.ref w_className_o0)) :
    MetFree l (⟨"com/example/casewright/engine/TestResult", "className", "()Ljava/lang/String;"⟩ : MethodName) (head1 (Jvm.Cond.code (⟨"com/example/casewright/engine/TestResult", "className", "()Ljava/lang/String;"⟩ : MethodName) prog_61_method_8_code 1 (some (.object "java/lang/String")) :: ws) ({ frames := 0, cells := 0, slots := 0, locals := 0 } : Room)) (fun a U => a = #[(.ref o0)] ∧ Z.Warmed39 U.vm ∧ U.heap = h0) (fun _ _ _ _ _ => True) (fun _ U o U' => ∃ v L, o = .returned v ∧ own_Q11 Z o0 w_className_o0 h0 n0 v U'.heap L ∧ FrameEnd U o U' L ({ frames := 0, cells := 0, slots := 0, locals := 0 } : Room).cells ({ frames := 0, cells := 0, slots := 0, locals := 0 } : Room).slots) := by
  refine MetFree.of_bodySF (plainFor_of_name own_pn11) hisR ?_
  intro p e s m args below meth c s₁ Bd hml0 hP hK
  obtain ⟨rfl, hZ, hh⟩ := hP
  have hx := Bd.exec
  have hlk : meth.locks = false := BodyLoose.notSynchronized Bd
  have hby := Bd.bytes
  have hml : c.maxLocals = 1 := hml0
  have hown : s.vm.findClass "com/example/casewright/engine/TestResult" = some m.cls := findClass_of_methodNamed Bd.named
  have hnm := (name_of_methodNamed Bd.named Bd.method).1
  have X0 : Stand p l e ({ frames := 0, cells := 0, slots := 0, locals := 0 } : Room) s m #[(.ref o0)] below meth c s₁ [] 0 0 := Stand.of_body Bd
  have e0 : s₁.heap = h0 := by rw [← hh, Bd.state]; rfl
  have N0 := Fr.nil n0
  have pre0 : ∀ t, Steps p.tables e below (s₁.setTop (mkF m 0 #[.val (.ref o0)] [])) t → Steps p.tables e below (s₁.setTop (entryFrame m #[(.ref o0)] 1)) t := fun t k => castTop (own_ef11 m o0) k
  obtain ⟨T1, X1, e1, st1⟩ := getF X0 hx hZ hown (host := "") (Or.inl (hw _ (List.mem_of_getElem? (i := 51) rfl))) Via.refl e0 P_F_o0_className (g := (mkF m 1 #[.val (.ref o0)] [(.ref o0)])) rfl rfl (hb hby own_d11_1)
  have pre2 : ∀ t, Steps p.tables e below (T1.setTop (mkF m 4 #[.val (.ref o0)] [(.ref w_className_o0)])) t → Steps p.tables e below (s₁.setTop (entryFrame m #[(.ref o0)] 1)) t := fun t k => pre0 t (by
      refine XS.aloadN X0.here hx rfl (hb hby own_d11_0) rfl rfl ?_
      show Steps p.tables e below (s₁.setTop (mkF m 1 #[.val (.ref o0)] [(.ref o0)])) _
      refine st1 _ ?_
      show Steps p.tables e below (T1.setTop (mkF m 4 #[.val (.ref o0)] [(.ref w_className_o0)])) _
      exact k)
  obtain ⟨fs, hr, hrun, hended, hW, hsame⟩ := X1.leave (v := some (.ref w_className_o0)) (fun h => by rw [Bd.returns] at h; cases h) (hlocks := hlk)
  refine ⟨_, _, pre2 _ ?_, hrun, hended, _, _, rfl, ?_, ⟨_, rfl⟩, hW, hsame.mono (by decide) (by decide)⟩
  · show Steps p.tables e below (T1.setTop (mkF m 4 #[.val (.ref o0)] [(.ref w_className_o0)])) _
    jvm_step X1.here [X1.here.top, hx, (hb hby own_d11_4), X1.method', Bd.returns, Value.isRef, FieldType.isReference]
    first | (intro acts; rw [hr _ acts rfl rfl rfl]) | rw [hr _ _ rfl rfl rfl]
    exact Steps.refl _
  · show own_Q11 Z o0 w_className_o0 h0 n0 _ T1.heap _; rw [e1]; exact ⟨rfl, N0, rfl⟩
theorem own_d13_0 : decode prog_61_method_9_code 0 = .ok (.aload_n 0, 1) := by decide +kernel
theorem own_d13_1 : decode prog_61_method_9_code 1 = .ok (.getfield 13, 3) := by decide +kernel
theorem own_d13_4 : decode prog_61_method_9_code 4 = .ok (.areturn, 1) := by decide +kernel
theorem own_pn13 : plainName "com/example/casewright/engine/TestResult" = true := by first | (simp [plainName, overriddenIn]; done) | decide +kernel
theorem own_ef13 (m : MethodId) (x0 : Addr) : entryFrame m #[(.ref x0)] 1 = (mkF m 0 #[.val (.ref x0)] []) := by first | (simp [entryFrame, mkF, argsToLocals, Value.category]; done) | rfl
def own_Q13 (Z : State) (o0 : Addr) (w_methodName_o0 : Addr) (h0 : Heap) (n0 : Nat) (v : Option Value) (h : Heap) (L : List Loc) : Prop := v = some (.ref w_methodName_o0) ∧ Fr n0 L ∧ h = h0
set_option maxRecDepth 65536 in
set_option maxHeartbeats 40000000 in
theorem own_rm13 (l : Launch) (Z : State) (a0 : Array Value) (hw : ∀ d ∈ tables_1, d.before a0 Z = true) (ws : List Jvm.Cond) (o0 : Addr) (w_methodName_o0 : Addr) (h0 : Heap) (n0 : Nat) (Z0 : n0 ≤ h0.size) (P_F_o0_methodName : Fld Z h0 o0 "com/example/casewright/engine/TestResult" "methodName" "Ljava/lang/String;" (.ref w_methodName_o0)) :
    MetFree l (⟨"com/example/casewright/engine/TestResult", "methodName", "()Ljava/lang/String;"⟩ : MethodName) (head1 (Jvm.Cond.code (⟨"com/example/casewright/engine/TestResult", "methodName", "()Ljava/lang/String;"⟩ : MethodName) prog_61_method_9_code 1 (some (.object "java/lang/String")) :: ws) ({ frames := 0, cells := 0, slots := 0, locals := 0 } : Room)) (fun a U => a = #[(.ref o0)] ∧ Z.Warmed39 U.vm ∧ U.heap = h0) (fun _ _ _ _ _ => True) (fun _ U o U' => ∃ v L, o = .returned v ∧ own_Q13 Z o0 w_methodName_o0 h0 n0 v U'.heap L ∧ FrameEnd U o U' L ({ frames := 0, cells := 0, slots := 0, locals := 0 } : Room).cells ({ frames := 0, cells := 0, slots := 0, locals := 0 } : Room).slots) := by
  refine MetFree.of_bodySF (plainFor_of_name own_pn13) hisR ?_
  intro p e s m args below meth c s₁ Bd hml0 hP hK
  obtain ⟨rfl, hZ, hh⟩ := hP
  have hx := Bd.exec
  have hlk : meth.locks = false := BodyLoose.notSynchronized Bd
  have hby := Bd.bytes
  have hml : c.maxLocals = 1 := hml0
  have hown : s.vm.findClass "com/example/casewright/engine/TestResult" = some m.cls := findClass_of_methodNamed Bd.named
  have hnm := (name_of_methodNamed Bd.named Bd.method).1
  have X0 : Stand p l e ({ frames := 0, cells := 0, slots := 0, locals := 0 } : Room) s m #[(.ref o0)] below meth c s₁ [] 0 0 := Stand.of_body Bd
  have e0 : s₁.heap = h0 := by rw [← hh, Bd.state]; rfl
  have N0 := Fr.nil n0
  have pre0 : ∀ t, Steps p.tables e below (s₁.setTop (mkF m 0 #[.val (.ref o0)] [])) t → Steps p.tables e below (s₁.setTop (entryFrame m #[(.ref o0)] 1)) t := fun t k => castTop (own_ef13 m o0) k
  obtain ⟨T1, X1, e1, st1⟩ := getF X0 hx hZ hown (host := "") (Or.inl (hw _ (List.mem_of_getElem? (i := 53) rfl))) Via.refl e0 P_F_o0_methodName (g := (mkF m 1 #[.val (.ref o0)] [(.ref o0)])) rfl rfl (hb hby own_d13_1)
  have pre2 : ∀ t, Steps p.tables e below (T1.setTop (mkF m 4 #[.val (.ref o0)] [(.ref w_methodName_o0)])) t → Steps p.tables e below (s₁.setTop (entryFrame m #[(.ref o0)] 1)) t := fun t k => pre0 t (by
      refine XS.aloadN X0.here hx rfl (hb hby own_d13_0) rfl rfl ?_
      show Steps p.tables e below (s₁.setTop (mkF m 1 #[.val (.ref o0)] [(.ref o0)])) _
      refine st1 _ ?_
      show Steps p.tables e below (T1.setTop (mkF m 4 #[.val (.ref o0)] [(.ref w_methodName_o0)])) _
      exact k)
  obtain ⟨fs, hr, hrun, hended, hW, hsame⟩ := X1.leave (v := some (.ref w_methodName_o0)) (fun h => by rw [Bd.returns] at h; cases h) (hlocks := hlk)
  refine ⟨_, _, pre2 _ ?_, hrun, hended, _, _, rfl, ?_, ⟨_, rfl⟩, hW, hsame.mono (by decide) (by decide)⟩
  · show Steps p.tables e below (T1.setTop (mkF m 4 #[.val (.ref o0)] [(.ref w_methodName_o0)])) _
    jvm_step X1.here [X1.here.top, hx, (hb hby own_d13_4), X1.method', Bd.returns, Value.isRef, FieldType.isReference]
    first | (intro acts; rw [hr _ acts rfl rfl rfl]) | rw [hr _ _ rfl rfl rfl]
    exact Steps.refl _
  · show own_Q13 Z o0 w_methodName_o0 h0 n0 _ T1.heap _; rw [e1]; exact ⟨rfl, N0, rfl⟩
theorem own_d14_0 : decode prog_61_method_10_code 0 = .ok (.aload_n 0, 1) := by decide +kernel
theorem own_d14_1 : decode prog_61_method_10_code 1 = .ok (.getfield 16, 3) := by decide +kernel
theorem own_d14_4 : decode prog_61_method_10_code 4 = .ok (.areturn, 1) := by decide +kernel
theorem own_pn14 : plainName "com/example/casewright/engine/TestResult" = true := by first | (simp [plainName, overriddenIn]; done) | decide +kernel
theorem own_ef14 (m : MethodId) (x0 : Addr) : entryFrame m #[(.ref x0)] 1 = (mkF m 0 #[.val (.ref x0)] []) := by first | (simp [entryFrame, mkF, argsToLocals, Value.category]; done) | rfl
def own_Q14 (Z : State) (o0 : Addr) (w_status_o0 : Addr) (h0 : Heap) (n0 : Nat) (v : Option Value) (h : Heap) (L : List Loc) : Prop := v = some (.ref w_status_o0) ∧ Fr n0 L ∧ h = h0
set_option maxRecDepth 65536 in
set_option maxHeartbeats 40000000 in
theorem own_rm14 (l : Launch) (Z : State) (a0 : Array Value) (hw : ∀ d ∈ tables_1, d.before a0 Z = true) (ws : List Jvm.Cond) (o0 : Addr) (w_status_o0 : Addr) (h0 : Heap) (n0 : Nat) (Z0 : n0 ≤ h0.size) (P_F_o0_status : Fld Z h0 o0 "com/example/casewright/engine/TestResult" "status" "Lcom/example/casewright/engine/TestResult$Status;" (.ref w_status_o0)) :
    MetFree l (⟨"com/example/casewright/engine/TestResult", "status", "()Lcom/example/casewright/engine/TestResult$Status;"⟩ : MethodName) (head1 (Jvm.Cond.code (⟨"com/example/casewright/engine/TestResult", "status", "()Lcom/example/casewright/engine/TestResult$Status;"⟩ : MethodName) prog_61_method_10_code 1 (some (.object "com/example/casewright/engine/TestResult$Status")) :: ws) ({ frames := 0, cells := 0, slots := 0, locals := 0 } : Room)) (fun a U => a = #[(.ref o0)] ∧ Z.Warmed39 U.vm ∧ U.heap = h0) (fun _ _ _ _ _ => True) (fun _ U o U' => ∃ v L, o = .returned v ∧ own_Q14 Z o0 w_status_o0 h0 n0 v U'.heap L ∧ FrameEnd U o U' L ({ frames := 0, cells := 0, slots := 0, locals := 0 } : Room).cells ({ frames := 0, cells := 0, slots := 0, locals := 0 } : Room).slots) := by
  refine MetFree.of_bodySF (plainFor_of_name own_pn14) hisR ?_
  intro p e s m args below meth c s₁ Bd hml0 hP hK
  obtain ⟨rfl, hZ, hh⟩ := hP
  have hx := Bd.exec
  have hlk : meth.locks = false := BodyLoose.notSynchronized Bd
  have hby := Bd.bytes
  have hml : c.maxLocals = 1 := hml0
  have hown : s.vm.findClass "com/example/casewright/engine/TestResult" = some m.cls := findClass_of_methodNamed Bd.named
  have hnm := (name_of_methodNamed Bd.named Bd.method).1
  have X0 : Stand p l e ({ frames := 0, cells := 0, slots := 0, locals := 0 } : Room) s m #[(.ref o0)] below meth c s₁ [] 0 0 := Stand.of_body Bd
  have e0 : s₁.heap = h0 := by rw [← hh, Bd.state]; rfl
  have N0 := Fr.nil n0
  have pre0 : ∀ t, Steps p.tables e below (s₁.setTop (mkF m 0 #[.val (.ref o0)] [])) t → Steps p.tables e below (s₁.setTop (entryFrame m #[(.ref o0)] 1)) t := fun t k => castTop (own_ef14 m o0) k
  obtain ⟨T1, X1, e1, st1⟩ := getF X0 hx hZ hown (host := "") (Or.inl (hw _ (List.mem_of_getElem? (i := 55) rfl))) Via.refl e0 P_F_o0_status (g := (mkF m 1 #[.val (.ref o0)] [(.ref o0)])) rfl rfl (hb hby own_d14_1)
  have pre2 : ∀ t, Steps p.tables e below (T1.setTop (mkF m 4 #[.val (.ref o0)] [(.ref w_status_o0)])) t → Steps p.tables e below (s₁.setTop (entryFrame m #[(.ref o0)] 1)) t := fun t k => pre0 t (by
      refine XS.aloadN X0.here hx rfl (hb hby own_d14_0) rfl rfl ?_
      show Steps p.tables e below (s₁.setTop (mkF m 1 #[.val (.ref o0)] [(.ref o0)])) _
      refine st1 _ ?_
      show Steps p.tables e below (T1.setTop (mkF m 4 #[.val (.ref o0)] [(.ref w_status_o0)])) _
      exact k)
  obtain ⟨fs, hr, hrun, hended, hW, hsame⟩ := X1.leave (v := some (.ref w_status_o0)) (fun h => by rw [Bd.returns] at h; cases h) (hlocks := hlk)
  refine ⟨_, _, pre2 _ ?_, hrun, hended, _, _, rfl, ?_, ⟨_, rfl⟩, hW, hsame.mono (by decide) (by decide)⟩
  · show Steps p.tables e below (T1.setTop (mkF m 4 #[.val (.ref o0)] [(.ref w_status_o0)])) _
    jvm_step X1.here [X1.here.top, hx, (hb hby own_d14_4), X1.method', Bd.returns, Value.isRef, FieldType.isReference]
    first | (intro acts; rw [hr _ acts rfl rfl rfl]) | rw [hr _ _ rfl rfl rfl]
    exact Steps.refl _
  · show own_Q14 Z o0 w_status_o0 h0 n0 _ T1.heap _; rw [e1]; exact ⟨rfl, N0, rfl⟩
theorem own_d15_0 : decode prog_61_method_11_code 0 = .ok (.aload_n 0, 1) := by decide +kernel
theorem own_d15_1 : decode prog_61_method_11_code 1 = .ok (.getfield 20, 3) := by decide +kernel
theorem own_d15_4 : decode prog_61_method_11_code 4 = .ok (.areturn, 1) := by decide +kernel
theorem own_pn15 : plainName "com/example/casewright/engine/TestResult" = true := by first | (simp [plainName, overriddenIn]; done) | decide +kernel
theorem own_ef15 (m : MethodId) (x0 : Addr) : entryFrame m #[(.ref x0)] 1 = (mkF m 0 #[.val (.ref x0)] []) := by first | (simp [entryFrame, mkF, argsToLocals, Value.category]; done) | rfl
def own_Q15 (Z : State) (o0 : Addr) (h0 : Heap) (n0 : Nat) (v : Option Value) (h : Heap) (L : List Loc) : Prop := v = some .null ∧ Fr n0 L ∧ h = h0
set_option maxRecDepth 65536 in
set_option maxHeartbeats 40000000 in
theorem own_rm15 (l : Launch) (Z : State) (a0 : Array Value) (hw : ∀ d ∈ tables_1, d.before a0 Z = true) (ws : List Jvm.Cond) (o0 : Addr) (h0 : Heap) (n0 : Nat) (Z0 : n0 ≤ h0.size) (P_F_o0_problem : Fld Z h0 o0 "com/example/casewright/engine/TestResult" "problem" "Ljava/lang/Throwable;" .null) :
    MetFree l (⟨"com/example/casewright/engine/TestResult", "problem", "()Ljava/lang/Throwable;"⟩ : MethodName) (head1 (Jvm.Cond.code (⟨"com/example/casewright/engine/TestResult", "problem", "()Ljava/lang/Throwable;"⟩ : MethodName) prog_61_method_11_code 1 (some (.object "java/lang/Throwable")) :: ws) ({ frames := 0, cells := 0, slots := 0, locals := 0 } : Room)) (fun a U => a = #[(.ref o0)] ∧ Z.Warmed39 U.vm ∧ U.heap = h0) (fun _ _ _ _ _ => True) (fun _ U o U' => ∃ v L, o = .returned v ∧ own_Q15 Z o0 h0 n0 v U'.heap L ∧ FrameEnd U o U' L ({ frames := 0, cells := 0, slots := 0, locals := 0 } : Room).cells ({ frames := 0, cells := 0, slots := 0, locals := 0 } : Room).slots) := by
  refine MetFree.of_bodySF (plainFor_of_name own_pn15) hisR ?_
  intro p e s m args below meth c s₁ Bd hml0 hP hK
  obtain ⟨rfl, hZ, hh⟩ := hP
  have hx := Bd.exec
  have hlk : meth.locks = false := BodyLoose.notSynchronized Bd
  have hby := Bd.bytes
  have hml : c.maxLocals = 1 := hml0
  have hown : s.vm.findClass "com/example/casewright/engine/TestResult" = some m.cls := findClass_of_methodNamed Bd.named
  have hnm := (name_of_methodNamed Bd.named Bd.method).1
  have X0 : Stand p l e ({ frames := 0, cells := 0, slots := 0, locals := 0 } : Room) s m #[(.ref o0)] below meth c s₁ [] 0 0 := Stand.of_body Bd
  have e0 : s₁.heap = h0 := by rw [← hh, Bd.state]; rfl
  have N0 := Fr.nil n0
  have pre0 : ∀ t, Steps p.tables e below (s₁.setTop (mkF m 0 #[.val (.ref o0)] [])) t → Steps p.tables e below (s₁.setTop (entryFrame m #[(.ref o0)] 1)) t := fun t k => castTop (own_ef15 m o0) k
  obtain ⟨T1, X1, e1, st1⟩ := getF X0 hx hZ hown (host := "") (Or.inl (hw _ (List.mem_of_getElem? (i := 57) rfl))) Via.refl e0 P_F_o0_problem (g := (mkF m 1 #[.val (.ref o0)] [(.ref o0)])) rfl rfl (hb hby own_d15_1)
  have pre2 : ∀ t, Steps p.tables e below (T1.setTop (mkF m 4 #[.val (.ref o0)] [.null])) t → Steps p.tables e below (s₁.setTop (entryFrame m #[(.ref o0)] 1)) t := fun t k => pre0 t (by
      refine XS.aloadN X0.here hx rfl (hb hby own_d15_0) rfl rfl ?_
      show Steps p.tables e below (s₁.setTop (mkF m 1 #[.val (.ref o0)] [(.ref o0)])) _
      refine st1 _ ?_
      show Steps p.tables e below (T1.setTop (mkF m 4 #[.val (.ref o0)] [.null])) _
      exact k)
  obtain ⟨fs, hr, hrun, hended, hW, hsame⟩ := X1.leave (v := some .null) (fun h => by rw [Bd.returns] at h; cases h) (hlocks := hlk)
  refine ⟨_, _, pre2 _ ?_, hrun, hended, _, _, rfl, ?_, ⟨_, rfl⟩, hW, hsame.mono (by decide) (by decide)⟩
  · show Steps p.tables e below (T1.setTop (mkF m 4 #[.val (.ref o0)] [.null])) _
    jvm_step X1.here [X1.here.top, hx, (hb hby own_d15_4), X1.method', Bd.returns, Value.isRef, FieldType.isReference]
    first | (intro acts; rw [hr _ acts rfl rfl rfl]) | rw [hr _ _ rfl rfl rfl]
    exact Steps.refl _
  · show own_Q15 Z o0 h0 n0 _ T1.heap _; rw [e1]; exact ⟨rfl, N0, rfl⟩
theorem own_d12_0 : decode jdk_42_method_66_code 0 = .ok (.aload_n 0, 1) := by decide +kernel
theorem own_d12_1 : decode jdk_42_method_66_code 1 = .ok (.aload_n 1, 1) := by decide +kernel
theorem own_d12_2 : decode jdk_42_method_66_code 2 = .ok (.if_acmp .ne 5, 3) := by decide +kernel
theorem own_d12_5 : decode jdk_42_method_66_code 5 = .ok (.iconst 1, 1) := by decide +kernel
theorem own_d12_6 : decode jdk_42_method_66_code 6 = .ok (.ireturn, 1) := by decide +kernel
theorem own_pn12 : plainName "java/lang/String" = true := by first | (simp [plainName, overriddenIn]; done) | decide +kernel
theorem own_ef12 (m : MethodId) (x0 : Addr) : entryFrame m #[(.ref x0), (.ref x0)] 3 = (mkF m 0 #[.val (.ref x0), .val (.ref x0), .unset] []) := by first | (simp [entryFrame, mkF, argsToLocals, Value.category]; done) | rfl
def own_Q12 (Z : State) (o0 : Addr) (h0 : Heap) (n0 : Nat) (v : Option Value) (h : Heap) (L : List Loc) : Prop := v = some (.int (1 : Int32)) ∧ Fr n0 L ∧ h = h0
set_option maxRecDepth 65536 in
set_option maxHeartbeats 40000000 in
theorem own_rm12 (l : Launch) (Z : State) (a0 : Array Value) (hw : ∀ d ∈ tables_1, d.before a0 Z = true) (ws : List Jvm.Cond) (o0 : Addr) (h0 : Heap) (n0 : Nat) (Z0 : n0 ≤ h0.size) :
    MetFree l (⟨"java/lang/String", "equals", "(Ljava/lang/Object;)Z"⟩ : MethodName) (head1 (Jvm.Cond.code (⟨"java/lang/String", "equals", "(Ljava/lang/Object;)Z"⟩ : MethodName) jdk_42_method_66_code 3 (some .boolean) :: ws) ({ frames := 0, cells := 0, slots := 0, locals := 0 } : Room)) (fun a U => a = #[(.ref o0), (.ref o0)] ∧ Z.Warmed39 U.vm ∧ U.heap = h0) (fun _ _ _ _ _ => True) (fun _ U o U' => ∃ v L, o = .returned v ∧ own_Q12 Z o0 h0 n0 v U'.heap L ∧ FrameEnd U o U' L ({ frames := 0, cells := 0, slots := 0, locals := 0 } : Room).cells ({ frames := 0, cells := 0, slots := 0, locals := 0 } : Room).slots) := by
  refine MetFree.of_bodySF (plainFor_of_name own_pn12) hisR ?_
  intro p e s m args below meth c s₁ Bd hml0 hP hK
  obtain ⟨rfl, hZ, hh⟩ := hP
  have hx := Bd.exec
  have hlk : meth.locks = false := BodyLoose.notSynchronized Bd
  have hby := Bd.bytes
  have hml : c.maxLocals = 3 := hml0
  have hown : s.vm.findClass "java/lang/String" = some m.cls := findClass_of_methodNamed Bd.named
  have hnm := (name_of_methodNamed Bd.named Bd.method).1
  have X0 : Stand p l e ({ frames := 0, cells := 0, slots := 0, locals := 0 } : Room) s m #[(.ref o0), (.ref o0)] below meth c s₁ [] 0 0 := Stand.of_body Bd
  have e0 : s₁.heap = h0 := by rw [← hh, Bd.state]; rfl
  have N0 := Fr.nil n0
  have pre0 : ∀ t, Steps p.tables e below (s₁.setTop (mkF m 0 #[.val (.ref o0), .val (.ref o0), .unset] [])) t → Steps p.tables e below (s₁.setTop (entryFrame m #[(.ref o0), (.ref o0)] 3)) t := fun t k => castTop (own_ef12 m o0) k
  have pre1 : ∀ t, Steps p.tables e below (s₁.setTop (mkF m 6 #[.val (.ref o0), .val (.ref o0), .unset] [(.int (1 : Int32))])) t → Steps p.tables e below (s₁.setTop (entryFrame m #[(.ref o0), (.ref o0)] 3)) t := fun t k => pre0 t (by
      refine XS.aloadN X0.here hx rfl (hb hby own_d12_0) rfl rfl ?_
      show Steps p.tables e below (s₁.setTop (mkF m 1 #[.val (.ref o0), .val (.ref o0), .unset] [(.ref o0)])) _
      refine XS.aloadN X0.here hx rfl (hb hby own_d12_1) rfl rfl ?_
      show Steps p.tables e below (s₁.setTop (mkF m 2 #[.val (.ref o0), .val (.ref o0), .unset] [(.ref o0), (.ref o0)])) _
      refine Jvm.RoadKit.acmp (g := (mkF m 2 #[.val (.ref o0), .val (.ref o0), .unset] [(.ref o0), (.ref o0)])) X0 hx rfl rfl rfl (pc0 := 2) (pc' := 5) (same := true) rfl (hb hby own_d12_2) rfl (decide_eq_true rfl) (by decide) (by decide) ?_
      show Steps p.tables e below (s₁.setTop (mkF m 5 #[.val (.ref o0), .val (.ref o0), .unset] [])) _
      refine XS.iconst X0.here hx rfl (hb hby own_d12_5) ?_
      show Steps p.tables e below (s₁.setTop (mkF m 6 #[.val (.ref o0), .val (.ref o0), .unset] [(.int (1 : Int32))])) _
      exact k)
  obtain ⟨fs, hr, hrun, hended, hW, hsame⟩ := X0.leave (v := some (.int (1 : Int32))) (fun h => by rw [Bd.returns] at h; cases h) (hlocks := hlk)
  refine ⟨_, _, pre1 _ ?_, hrun, hended, _, _, rfl, ?_, ⟨_, rfl⟩, hW, hsame.mono (by decide) (by decide)⟩
  · show Steps p.tables e below (s₁.setTop (mkF m 6 #[.val (.ref o0), .val (.ref o0), .unset] [(.int (1 : Int32))])) _
    exact retN X0 hx (t := .boolean) Bd.returns (by simp) (hb hby own_d12_6) hr
  · show own_Q12 Z o0 h0 n0 _ s₁.heap _; rw [e0]; exact ⟨rfl, N0, rfl⟩
theorem own_d16_0 : decode jdk_42_method_55_code 0 = .ok (.aload_n 0, 1) := by decide +kernel
theorem own_d16_1 : decode jdk_42_method_55_code 1 = .ok (.getfield 9, 3) := by decide +kernel
theorem own_d16_4 : decode jdk_42_method_55_code 4 = .ok (.arraylength, 1) := by decide +kernel
theorem own_d16_5 : decode jdk_42_method_55_code 5 = .ok (.ifCond .ne 7, 3) := by decide +kernel
theorem own_d16_8 : decode jdk_42_method_55_code 8 = .ok (.iconst 1, 1) := by decide +kernel
theorem own_d16_9 : decode jdk_42_method_55_code 9 = .ok (.goto 4, 3) := by decide +kernel
theorem own_d16_12 : decode jdk_42_method_55_code 12 = .ok (.iconst 0, 1) := by decide +kernel
theorem own_d16_13 : decode jdk_42_method_55_code 13 = .ok (.ireturn, 1) := by decide +kernel
theorem own_pn16 : plainName "java/lang/String" = true := by first | (simp [plainName, overriddenIn]; done) | decide +kernel
theorem own_ef16 (m : MethodId) (x0 : Addr) : entryFrame m #[(.ref x0)] 1 = (mkF m 0 #[.val (.ref x0)] []) := by first | (simp [entryFrame, mkF, argsToLocals, Value.category]; done) | rfl
def own_f16 (n_w_value_o0 : Int32) : Int32 := (if n_w_value_o0 = (0 : Int32) then (1 : Int32) else (0 : Int32))
def own_Q16 (Z : State) (o0 : Addr) (w_value_o0 : Addr) (k_w_value_o0 : ClassId) (n_w_value_o0 : Int32) (vs_w_value_o0 : List Value) (h0 : Heap) (n0 : Nat) (v : Option Value) (h : Heap) (L : List Loc) : Prop := v = some (.int (own_f16 n_w_value_o0)) ∧ Fr n0 L ∧ h = h0
set_option maxRecDepth 65536 in
set_option maxHeartbeats 40000000 in
theorem own_rm16 (l : Launch) (Z : State) (a0 : Array Value) (hw : ∀ d ∈ tables_1, d.before a0 Z = true) (ws : List Jvm.Cond) (o0 : Addr) (w_value_o0 : Addr) (k_w_value_o0 : ClassId) (n_w_value_o0 : Int32) (vs_w_value_o0 : List Value) (h0 : Heap) (n0 : Nat) (Z0 : n0 ≤ h0.size) (P_F_o0_value : Fld Z h0 o0 "java/lang/String" "value" "[B" (.ref w_value_o0)) (P_V_w_value_o0 : Arv Z h0 w_value_o0 k_w_value_o0 .byte n_w_value_o0 vs_w_value_o0 (.int (0 : Int32))) :
    MetFree l (⟨"java/lang/String", "isEmpty", "()Z"⟩ : MethodName) (head1 (Jvm.Cond.code (⟨"java/lang/String", "isEmpty", "()Z"⟩ : MethodName) jdk_42_method_55_code 1 (some .boolean) :: ws) ({ frames := 0, cells := 0, slots := 0, locals := 0 } : Room)) (fun a U => a = #[(.ref o0)] ∧ Z.Warmed39 U.vm ∧ U.heap = h0) (fun _ _ _ _ _ => True) (fun _ U o U' => ∃ v L, o = .returned v ∧ own_Q16 Z o0 w_value_o0 k_w_value_o0 n_w_value_o0 vs_w_value_o0 h0 n0 v U'.heap L ∧ FrameEnd U o U' L ({ frames := 0, cells := 0, slots := 0, locals := 0 } : Room).cells ({ frames := 0, cells := 0, slots := 0, locals := 0 } : Room).slots) := by
  refine MetFree.of_bodySF (plainFor_of_name own_pn16) hisR ?_
  intro p e s m args below meth c s₁ Bd hml0 hP hK
  obtain ⟨rfl, hZ, hh⟩ := hP
  have hx := Bd.exec
  have hlk : meth.locks = false := BodyLoose.notSynchronized Bd
  have hby := Bd.bytes
  have hml : c.maxLocals = 1 := hml0
  have hown : s.vm.findClass "java/lang/String" = some m.cls := findClass_of_methodNamed Bd.named
  have hnm := (name_of_methodNamed Bd.named Bd.method).1
  have X0 : Stand p l e ({ frames := 0, cells := 0, slots := 0, locals := 0 } : Room) s m #[(.ref o0)] below meth c s₁ [] 0 0 := Stand.of_body Bd
  have e0 : s₁.heap = h0 := by rw [← hh, Bd.state]; rfl
  have N0 := Fr.nil n0
  have pre0 : ∀ t, Steps p.tables e below (s₁.setTop (mkF m 0 #[.val (.ref o0)] [])) t → Steps p.tables e below (s₁.setTop (entryFrame m #[(.ref o0)] 1)) t := fun t k => castTop (own_ef16 m o0) k
  obtain ⟨T1, X1, e1, st1⟩ := getF X0 hx hZ hown (host := "") (Or.inl (hw _ (List.mem_of_getElem? (i := 28) rfl))) Via.refl e0 P_F_o0_value (g := (mkF m 1 #[.val (.ref o0)] [(.ref o0)])) rfl rfl (hb hby own_d16_1)
  obtain ⟨cl2, Ar2, q2, S2, N_2, Ha2, G2⟩ := id P_V_w_value_o0
  have pre3 : ∀ t, Steps p.tables e below (T1.setTop (mkF m 5 #[.val (.ref o0)] [(.int n_w_value_o0)])) t → Steps p.tables e below (s₁.setTop (entryFrame m #[(.ref o0)] 1)) t := fun t k => pre0 t (by
      refine XS.aloadN X0.here hx rfl (hb hby own_d16_0) rfl rfl ?_
      show Steps p.tables e below (s₁.setTop (mkF m 1 #[.val (.ref o0)] [(.ref o0)])) _
      refine st1 _ ?_
      show Steps p.tables e below (T1.setTop (mkF m 4 #[.val (.ref o0)] [(.ref w_value_o0)])) _
      refine X1.arraylength hx (by rw [e1]; exact Ar2.1) (State.isArrayOf_alike hZ.alike Ar2.2.1) (g := (mkF m 4 #[.val (.ref o0)] [(.ref w_value_o0)])) rfl rfl (hb hby own_d16_4) _ ?_
      rw [len_of S2 N_2]
      show Steps p.tables e below (T1.setTop (mkF m 5 #[.val (.ref o0)] [(.int n_w_value_o0)])) _
      exact k)
  by_cases hc4 : n_w_value_o0 = (0 : Int32)
  · have pre5 : ∀ t, Steps p.tables e below (T1.setTop (mkF m 13 #[.val (.ref o0)] [(.int (1 : Int32))])) t → Steps p.tables e below (s₁.setTop (entryFrame m #[(.ref o0)] 1)) t := fun t k => pre3 t (by
        refine XS.ifNo X1.here hx rfl (hb hby own_d16_5) rfl ((if0 _ _).trans (teq hc4).2) ?_
        show Steps p.tables e below (T1.setTop (mkF m 8 #[.val (.ref o0)] [])) _
        refine XS.iconst X1.here hx rfl (hb hby own_d16_8) ?_
        show Steps p.tables e below (T1.setTop (mkF m 9 #[.val (.ref o0)] [(.int (1 : Int32))])) _
        refine XS.goto X1.here hx rfl (pc0 := 9) (pc' := 13) rfl (hb hby own_d16_9) (by decide) (by decide) ?_
        show Steps p.tables e below (T1.setTop (mkF m 13 #[.val (.ref o0)] [(.int (1 : Int32))])) _
        exact k)
    obtain ⟨fs, hr, hrun, hended, hW, hsame⟩ := X1.leave (v := some (.int (1 : Int32))) (fun h => by rw [Bd.returns] at h; cases h) (hlocks := hlk)
    refine ⟨_, _, pre5 _ ?_, hrun, hended, _, _, rfl, ?_, ⟨_, rfl⟩, hW, hsame.mono (by decide) (by decide)⟩
    · show Steps p.tables e below (T1.setTop (mkF m 13 #[.val (.ref o0)] [(.int (1 : Int32))])) _
      exact retN X1 hx (t := .boolean) Bd.returns (by simp) (hb hby own_d16_13) hr
    · show own_Q16 Z o0 w_value_o0 k_w_value_o0 n_w_value_o0 vs_w_value_o0 h0 n0 _ T1.heap _; rw [e1]; exact ⟨(by show some (Value.int _) = some (.int (own_f16 n_w_value_o0)); unfold own_f16; rw [if_pos hc4]), N0, rfl⟩
  · have pre6 : ∀ t, Steps p.tables e below (T1.setTop (mkF m 13 #[.val (.ref o0)] [(.int (0 : Int32))])) t → Steps p.tables e below (s₁.setTop (entryFrame m #[(.ref o0)] 1)) t := fun t k => pre3 t (by
        refine XS.ifYes X1.here hx rfl (pc0 := 5) (pc' := 12) rfl (hb hby own_d16_5) rfl ((if0 _ _).trans (feq hc4).2) (by decide) (by decide) ?_
        show Steps p.tables e below (T1.setTop (mkF m 12 #[.val (.ref o0)] [])) _
        refine XS.iconst X1.here hx rfl (hb hby own_d16_12) ?_
        show Steps p.tables e below (T1.setTop (mkF m 13 #[.val (.ref o0)] [(.int (0 : Int32))])) _
        exact k)
    obtain ⟨fs, hr, hrun, hended, hW, hsame⟩ := X1.leave (v := some (.int (0 : Int32))) (fun h => by rw [Bd.returns] at h; cases h) (hlocks := hlk)
    refine ⟨_, _, pre6 _ ?_, hrun, hended, _, _, rfl, ?_, ⟨_, rfl⟩, hW, hsame.mono (by decide) (by decide)⟩
    · show Steps p.tables e below (T1.setTop (mkF m 13 #[.val (.ref o0)] [(.int (0 : Int32))])) _
      exact retN X1 hx (t := .boolean) Bd.returns (by simp) (hb hby own_d16_13) hr
    · show own_Q16 Z o0 w_value_o0 k_w_value_o0 n_w_value_o0 vs_w_value_o0 h0 n0 _ T1.heap _; rw [e1]; exact ⟨(by show some (Value.int _) = some (.int (own_f16 n_w_value_o0)); unfold own_f16; rw [if_neg hc4]), N0, rfl⟩
theorem own_pd6 : parseMethodDescriptor "([C)V" = some ⟨[(.array .char)], none⟩ := by decide +kernel
theorem own_pd7 : parseMethodDescriptor "(Ljava/lang/String;Ljava/lang/String;)Lcom/example/casewright/engine/TestResult;" = some ⟨[(.object "java/lang/String"), (.object "java/lang/String")], some (.object "com/example/casewright/engine/TestResult")⟩ := by decide +kernel
theorem own_pd8 : parseMethodDescriptor "()Ljava/lang/String;" = some ⟨[], some (.object "java/lang/String")⟩ := by decide +kernel
theorem own_pd9 : parseMethodDescriptor "(Ljava/lang/Object;)Z" = some ⟨[(.object "java/lang/Object")], some .boolean⟩ := by decide +kernel
theorem own_pd10 : parseMethodDescriptor "()Lcom/example/casewright/engine/TestResult$Status;" = some ⟨[], some (.object "com/example/casewright/engine/TestResult$Status")⟩ := by decide +kernel
theorem own_pd11 : parseMethodDescriptor "()Ljava/lang/Throwable;" = some ⟨[], some (.object "java/lang/Throwable")⟩ := by decide +kernel
theorem own_pd12 : parseMethodDescriptor "()Z" = some ⟨[], some .boolean⟩ := by decide +kernel
theorem own_pn0 : plainName "com/example/casewright/engine/TestResultPassedPinLaw" = true := by first | (simp [plainName, overriddenIn]; done) | decide +kernel
theorem own_ef0 (m : MethodId) (x0 : Int32) (x1 : Int32) : entryFrame m #[(.int x0), (.int x1)] maxLocals = (mkF m 0 #[.val (.int x0), .val (.int x1), .unset, .unset, .unset, .unset, .unset, .unset] []) := by first | (simp [entryFrame, mkF, argsToLocals, Value.category, maxLocals]; done) | rfl
def own_f0 (p0 : Int32) (p1 : Int32) : Int32 := (if (((p0.toUInt32 >>> ((16 : Int32) &&& 31).toUInt32).toInt32) &&& (1 : Int32)) = (0 : Int32) then (if (((p1.toUInt32 >>> ((16 : Int32) &&& 31).toUInt32).toInt32) &&& (1 : Int32)) = (0 : Int32) then (if (own_f16 (0 : Int32)) = (0 : Int32) then (0 : Int32) else (1 : Int32)) else (if (own_f16 (0 : Int32)) = (0 : Int32) then (0 : Int32) else (1 : Int32))) else (if (((p1.toUInt32 >>> ((16 : Int32) &&& 31).toUInt32).toInt32) &&& (1 : Int32)) = (0 : Int32) then (if (own_f16 (0 : Int32)) = (0 : Int32) then (0 : Int32) else (1 : Int32)) else (if (own_f16 (0 : Int32)) = (0 : Int32) then (0 : Int32) else (1 : Int32))))
def own_Q0 (Z : State) (p0 : Int32) (p1 : Int32) (z_COMPACT_STRINGS : Int32) (z_PA : Addr) (h0 : Heap) (n0 : Nat) (v : Option Value) (h : Heap) (L : List Loc) : Prop := v = some (.int (own_f0 p0 p1)) ∧ Fr n0 L
set_option maxRecDepth 65536 in
set_option maxHeartbeats 40000000 in
theorem own_rm0 (l : Launch) (Z : State) (a0 : Array Value) (hw : ∀ d ∈ tables_1, d.before a0 Z = true) (ws : List Jvm.Cond) (p0 : Int32) (p1 : Int32) (z_COMPACT_STRINGS : Int32) (z_PA : Addr) (h0 : Heap) (n0 : Nat) (Z0 : n0 ≤ h0.size) (Hh0 : h0 = Z.heap) (Hn0 : n0 = Z.heap.size) (Hcw : Jvm.Lit.compactW.before a0 Z = true) (Hheld : ∀ p ∈ consts_1, Jvm.Lit.constHeld Z p.1 p.2) (HC : ¬ (z_COMPACT_STRINGS = (0 : Int32))) (P_S_java_lang_String_COMPACT_STRINGS : Sta Z h0 "java/lang/String" "COMPACT_STRINGS" "Z" (.int z_COMPACT_STRINGS)) (P_S_com_example_casewright_engine_TestResult_Status_PASSED : Sta Z h0 "com/example/casewright/engine/TestResult$Status" "PASSED" "Lcom/example/casewright/engine/TestResult$Status;" (.ref z_PA)) :
    MetFree l x (head1 (Jvm.Cond.code x code maxLocals ret :: ws) room_1) (fun a U => a = #[(.int p0), (.int p1)] ∧ U = Z) (fun _ _ _ _ _ => True) (fun _ U o U' => ∃ v L, o = .returned v ∧ own_Q0 Z p0 p1 z_COMPACT_STRINGS z_PA h0 n0 v U'.heap L ∧ ReturnedEndW U o U' L room_1.cells room_1.slots) := by
  refine MetFree.of_bodySF (plainFor_of_name own_pn0) hisR ?_
  intro p e s m args below meth c s₁ Bd hml0 hP hK
  obtain ⟨rfl, hUZ⟩ := hP
  have hZ : Z.Warmed39 s.vm := by rw [hUZ]; exact State.Warmed39.refl Z
  have hh : s.heap = h0 := by rw [hUZ, Hh0]
  have hkeep : ∀ (b : Addr) (cl : Cell), Z.heap[b]? = some cl → s.heap[b]? = some cl := by rw [hUZ]; exact fun _ _ q => q
  have I0 : IB Z s.vm [] := by rw [hUZ]; exact IB.start
  have hS0 : s.Since s.vm 0 := (State.WarmedH.refl s).since 0
  have hJ : own_J Z s.vm h0 := ⟨hZ, ⟨a0, own_EW Z a0 hw⟩, by rw [hUZ, Hh0]; exact CHv.start (own_EW Z a0 hw) Hheld Hcw (hw _ (List.mem_of_getElem? (i := 19) rfl)) (hw _ (List.mem_of_getElem? (i := 2) rfl))⟩
  have hx := Bd.exec
  have hlk : meth.locks = false := BodyLoose.notSynchronized Bd
  have hby := Bd.bytes
  have hml : c.maxLocals = 8 := hml0
  have hown : s.vm.findClass "com/example/casewright/engine/TestResultPassedPinLaw" = some m.cls := findClass_of_methodNamed Bd.named
  have hnm := (name_of_methodNamed Bd.named Bd.method).1
  have X0 : Stand p l e room_1 s m #[(.int p0), (.int p1)] below meth c s₁ [] 0 0 := Stand.of_body Bd
  have e0 : s₁.heap = h0 := by rw [← hh, Bd.state]; rfl
  have N0 := Fr.nil n0
  have pre0 : ∀ t, Steps p.tables e below (s₁.setTop (mkF m 0 #[.val (.int p0), .val (.int p1), .unset, .unset, .unset, .unset, .unset, .unset] [])) t → Steps p.tables e below (s₁.setTop (entryFrame m #[(.int p0), (.int p1)] maxLocals)) t := fun t k => castTop (own_ef0 m p0 p1) k
  have O0 : Old Z n0 h0 := by rw [Hh0, Hn0]; exact Old.start Z
  have sb1 : Sta Z Z.heap "java/lang/String" "COMPACT_STRINGS" "Z" (.int z_COMPACT_STRINGS) := by rw [← Hh0]; exact P_S_java_lang_String_COMPACT_STRINGS
  have sb2 : Sta Z Z.heap "com/example/casewright/engine/TestResult$Status" "PASSED" "Lcom/example/casewright/engine/TestResult$Status;" (.ref z_PA) := by rw [← Hh0]; exact P_S_com_example_casewright_engine_TestResult_Status_PASSED
  obtain ⟨T3, h3, k3, X3, e3, E3, A3, st3⟩ := newP X0 hx hZ (hw _ (List.mem_of_getElem? (i := 0) rfl)) e0 (g := (mkF m 1 #[.val (.int p0), .val (.int p1), .unset, .unset, .unset, .unset, .unset, .unset] [(.int (2 : Int32))])) rfl (hb hby at_1) rfl (by decide) (cap := 2) (by decide) (by decide) (by decide) (by decide)
  obtain ⟨b3, g3⟩ : ∃ z, z = h0.size := ⟨_, rfl⟩
  rw [← g3] at A3 st3
  have g_b3 : n0 ≤ b3 := Nat.le_trans Z0 (Nat.le_of_eq g3.symm)
  have K4 : Keep h0 h0 [] := Keep.refl h0 []
  have sz_b3 : h0.size ≤ b3 := Nat.le_trans K4.1 (Nat.le_of_eq g3.symm)
  have C5 : CHv Z consts_1 s.vm h3 := CHv.ext E3 hJ.2.2
  have Sf6 : Safe Z consts_1 s.vm h3 b3 := Safe.ext E3 hJ.2.2 (Safe.new (Nat.le_of_eq g3.symm))
  have f7 : Old Z n0 h3 := O0.ext E3
  have f8 : Sta Z h3 "java/lang/String" "COMPACT_STRINGS" "Z" (.int z_COMPACT_STRINGS) := P_S_java_lang_String_COMPACT_STRINGS.ext E3
  have f9 : Sta Z h3 "com/example/casewright/engine/TestResult$Status" "PASSED" "Lcom/example/casewright/engine/TestResult$Status;" (.ref z_PA) := P_S_com_example_casewright_engine_TestResult_Status_PASSED.ext E3
  have zs10 : n0 ≤ h3.size := Nat.le_trans Z0 E3.1
  have K11 : Keep h0 h3 [] := K4.ext E3
  have f12 : Arv Z h3 b3 k3 .char (2 : Int32) [(.int (0 : Int32)), (.int (0 : Int32))] (.int (0 : Int32)) := (Arv.new A3 (by decide)).pad (pad_rep [] (.int (0 : Int32)) 2)
  obtain ⟨cl13, Ar13, q13, S13, N_13, Ha13, G13⟩ := id f12
  have hin13 : ¬ ((0 : Int32) < 0 ∨ cl13.slots.size ≤ ((0 : Int32)).toNatClampNeg) := inb_of S13 ⟨by decide, by decide⟩
  obtain ⟨T14, h14, X14, e14, W14, st14⟩ := stC X3 hx hZ e3 Ar13 (j := (0 : Int32)) hin13 (g := (mkF m 12 #[.val (.int p0), .val (.int p1), .val (.ref b3), .unset, .unset, .unset, .unset, .unset] [(.int ((p0 &&& (255 : Int32)).toUInt32.toUInt16.toUInt32.toInt32)), (.int (0 : Int32)), (.ref b3)])) rfl rfl (hb hby at_12)
  have f15 : Arv Z h14 b3 k3 .char (2 : Int32) [(.int (nar .char ((p0 &&& (255 : Int32)).toUInt32.toUInt16.toUInt32.toInt32))), (.int (0 : Int32))] (.int (0 : Int32)) := Arv.set Ar13 q13 S13 N_13 Ha13 G13 (fits_nar_char _) W14 0 rfl (Nat.le_of_ble_eq_true rfl)
  have f16 : Old Z n0 h14 := f7.wr W14 g_b3
  have f17 : Sta Z h14 "java/lang/String" "COMPACT_STRINGS" "Z" (.int z_COMPACT_STRINGS) := f8.wr W14
  have f18 : Sta Z h14 "com/example/casewright/engine/TestResult$Status" "PASSED" "Lcom/example/casewright/engine/TestResult$Status;" (.ref z_PA) := f9.wr W14
  have C19 : CHv Z consts_1 s.vm h14 := CHv.wr W14 (Safe.arr hZ.alike Ar13 nofun) C5
  have zs20 : n0 ≤ h14.size := Nat.le_trans zs10 (Keep.of_wr W14).1
  have N21 := Fr.snoc X14 N0 g_b3
  have K22 : Keep h0 h14 [] := K11.wr W14 (Or.inr sz_b3)
  obtain ⟨cl23, Ar23, q23, S23, N_23, Ha23, G23⟩ := id f15
  have hin23 : ¬ ((1 : Int32) < 0 ∨ cl23.slots.size ≤ ((1 : Int32)).toNatClampNeg) := inb_of S23 ⟨by decide, by decide⟩
  obtain ⟨T24, h24, X24, e24, W24, st24⟩ := stC X14 hx hZ e14 Ar23 (j := (1 : Int32)) hin23 (g := (mkF m 24 #[.val (.int p0), .val (.int p1), .val (.ref b3), .unset, .unset, .unset, .unset, .unset] [(.int ((((p0.toUInt32 >>> ((8 : Int32) &&& 31).toUInt32).toInt32) &&& (255 : Int32)).toUInt32.toUInt16.toUInt32.toInt32)), (.int (1 : Int32)), (.ref b3)])) rfl rfl (hb hby at_24)
  have f25 : Arv Z h24 b3 k3 .char (2 : Int32) [(.int (nar .char ((p0 &&& (255 : Int32)).toUInt32.toUInt16.toUInt32.toInt32))), (.int (nar .char ((((p0.toUInt32 >>> ((8 : Int32) &&& 31).toUInt32).toInt32) &&& (255 : Int32)).toUInt32.toUInt16.toUInt32.toInt32)))] (.int (0 : Int32)) := Arv.set Ar23 q23 S23 N_23 Ha23 G23 (fits_nar_char _) W24 1 rfl (Nat.le_of_ble_eq_true rfl)
  have f26 : Old Z n0 h24 := f16.wr W24 g_b3
  have f27 : Sta Z h24 "java/lang/String" "COMPACT_STRINGS" "Z" (.int z_COMPACT_STRINGS) := f17.wr W24
  have f28 : Sta Z h24 "com/example/casewright/engine/TestResult$Status" "PASSED" "Lcom/example/casewright/engine/TestResult$Status;" (.ref z_PA) := f18.wr W24
  have C29 : CHv Z consts_1 s.vm h24 := CHv.wr W24 (Safe.arr hZ.alike Ar23 nofun) C19
  have zs30 : n0 ≤ h24.size := Nat.le_trans zs20 (Keep.of_wr W24).1
  have N31 := Fr.snoc X24 N21 g_b3
  have K32 : Keep h0 h24 [] := K22.wr W24 (Or.inr sz_b3)
  obtain ⟨T33, h33, k33, X33, e33, E33, A33, st33⟩ := newP X24 hx hZ (hw _ (List.mem_of_getElem? (i := 0) rfl)) e24 (g := (mkF m 26 #[.val (.int p0), .val (.int p1), .val (.ref b3), .unset, .unset, .unset, .unset, .unset] [(.int (2 : Int32))])) rfl (hb hby at_26) rfl (by decide) (cap := 2) (by decide) (by decide) (by decide) (by decide)
  obtain ⟨b33, g33⟩ : ∃ z, z = h24.size := ⟨_, rfl⟩
  rw [← g33] at A33 st33
  have g_b33 : n0 ≤ b33 := Nat.le_trans zs30 (Nat.le_of_eq g33.symm)
  have sz_b33 : h0.size ≤ b33 := Nat.le_trans K32.1 (Nat.le_of_eq g33.symm)
  have lt34 : b3 < b33 := Nat.lt_of_lt_of_le f25.lt (Nat.le_of_eq g33.symm)
  have C35 : CHv Z consts_1 s.vm h33 := CHv.ext E33 C29
  have Sf36 : Safe Z consts_1 s.vm h33 b33 := Safe.ext E33 C29 (Safe.new (Nat.le_of_eq g33.symm))
  have f37 : Old Z n0 h33 := f26.ext E33
  have f38 : Sta Z h33 "java/lang/String" "COMPACT_STRINGS" "Z" (.int z_COMPACT_STRINGS) := f27.ext E33
  have f39 : Sta Z h33 "com/example/casewright/engine/TestResult$Status" "PASSED" "Lcom/example/casewright/engine/TestResult$Status;" (.ref z_PA) := f28.ext E33
  have f40 : Arv Z h33 b3 k3 .char (2 : Int32) [(.int (nar .char ((p0 &&& (255 : Int32)).toUInt32.toUInt16.toUInt32.toInt32))), (.int (nar .char ((((p0.toUInt32 >>> ((8 : Int32) &&& 31).toUInt32).toInt32) &&& (255 : Int32)).toUInt32.toUInt16.toUInt32.toInt32)))] (.int (0 : Int32)) := f25.ext E33
  have zs41 : n0 ≤ h33.size := Nat.le_trans zs30 E33.1
  have K42 : Keep h0 h33 [] := K32.ext E33
  have f43 : Arv Z h33 b33 k33 .char (2 : Int32) [(.int (0 : Int32)), (.int (0 : Int32))] (.int (0 : Int32)) := (Arv.new A33 (by decide)).pad (pad_rep [] (.int (0 : Int32)) 2)
  obtain ⟨cl44, Ar44, q44, S44, N_44, Ha44, G44⟩ := id f43
  have hin44 : ¬ ((0 : Int32) < 0 ∨ cl44.slots.size ≤ ((0 : Int32)).toNatClampNeg) := inb_of S44 ⟨by decide, by decide⟩
  obtain ⟨T45, h45, X45, e45, W45, st45⟩ := stC X33 hx hZ e33 Ar44 (j := (0 : Int32)) hin44 (g := (mkF m 37 #[.val (.int p0), .val (.int p1), .val (.ref b3), .val (.ref b33), .unset, .unset, .unset, .unset] [(.int ((p1 &&& (255 : Int32)).toUInt32.toUInt16.toUInt32.toInt32)), (.int (0 : Int32)), (.ref b33)])) rfl rfl (hb hby at_37)
  have f46 : Arv Z h45 b33 k33 .char (2 : Int32) [(.int (nar .char ((p1 &&& (255 : Int32)).toUInt32.toUInt16.toUInt32.toInt32))), (.int (0 : Int32))] (.int (0 : Int32)) := Arv.set Ar44 q44 S44 N_44 Ha44 G44 (fits_nar_char _) W45 0 rfl (Nat.le_of_ble_eq_true rfl)
  have f47 : Old Z n0 h45 := f37.wr W45 g_b33
  have f48 : Sta Z h45 "java/lang/String" "COMPACT_STRINGS" "Z" (.int z_COMPACT_STRINGS) := f38.wr W45
  have f49 : Sta Z h45 "com/example/casewright/engine/TestResult$Status" "PASSED" "Lcom/example/casewright/engine/TestResult$Status;" (.ref z_PA) := f39.wr W45
  have f50 : Arv Z h45 b3 k3 .char (2 : Int32) [(.int (nar .char ((p0 &&& (255 : Int32)).toUInt32.toUInt16.toUInt32.toInt32))), (.int (nar .char ((((p0.toUInt32 >>> ((8 : Int32) &&& 31).toUInt32).toInt32) &&& (255 : Int32)).toUInt32.toUInt16.toUInt32.toInt32)))] (.int (0 : Int32)) := f40.other W45 (Nat.ne_of_lt lt34)
  have C51 : CHv Z consts_1 s.vm h45 := CHv.wr W45 (Safe.arr hZ.alike Ar44 nofun) C35
  have zs52 : n0 ≤ h45.size := Nat.le_trans zs41 (Keep.of_wr W45).1
  have N53 := Fr.snoc X45 N31 g_b33
  have K54 : Keep h0 h45 [] := K42.wr W45 (Or.inr sz_b33)
  obtain ⟨cl55, Ar55, q55, S55, N_55, Ha55, G55⟩ := id f46
  have hin55 : ¬ ((1 : Int32) < 0 ∨ cl55.slots.size ≤ ((1 : Int32)).toNatClampNeg) := inb_of S55 ⟨by decide, by decide⟩
  obtain ⟨T56, h56, X56, e56, W56, st56⟩ := stC X45 hx hZ e45 Ar55 (j := (1 : Int32)) hin55 (g := (mkF m 49 #[.val (.int p0), .val (.int p1), .val (.ref b3), .val (.ref b33), .unset, .unset, .unset, .unset] [(.int ((((p1.toUInt32 >>> ((8 : Int32) &&& 31).toUInt32).toInt32) &&& (255 : Int32)).toUInt32.toUInt16.toUInt32.toInt32)), (.int (1 : Int32)), (.ref b33)])) rfl rfl (hb hby at_49)
  have f57 : Arv Z h56 b33 k33 .char (2 : Int32) [(.int (nar .char ((p1 &&& (255 : Int32)).toUInt32.toUInt16.toUInt32.toInt32))), (.int (nar .char ((((p1.toUInt32 >>> ((8 : Int32) &&& 31).toUInt32).toInt32) &&& (255 : Int32)).toUInt32.toUInt16.toUInt32.toInt32)))] (.int (0 : Int32)) := Arv.set Ar55 q55 S55 N_55 Ha55 G55 (fits_nar_char _) W56 1 rfl (Nat.le_of_ble_eq_true rfl)
  have f58 : Old Z n0 h56 := f47.wr W56 g_b33
  have f59 : Sta Z h56 "java/lang/String" "COMPACT_STRINGS" "Z" (.int z_COMPACT_STRINGS) := f48.wr W56
  have f60 : Sta Z h56 "com/example/casewright/engine/TestResult$Status" "PASSED" "Lcom/example/casewright/engine/TestResult$Status;" (.ref z_PA) := f49.wr W56
  have f61 : Arv Z h56 b3 k3 .char (2 : Int32) [(.int (nar .char ((p0 &&& (255 : Int32)).toUInt32.toUInt16.toUInt32.toInt32))), (.int (nar .char ((((p0.toUInt32 >>> ((8 : Int32) &&& 31).toUInt32).toInt32) &&& (255 : Int32)).toUInt32.toUInt16.toUInt32.toInt32)))] (.int (0 : Int32)) := f50.other W56 (Nat.ne_of_lt lt34)
  have C62 : CHv Z consts_1 s.vm h56 := CHv.wr W56 (Safe.arr hZ.alike Ar55 nofun) C51
  have zs63 : n0 ≤ h56.size := Nat.le_trans zs52 (Keep.of_wr W56).1
  have N64 := Fr.snoc X56 N53 g_b33
  have K65 : Keep h0 h56 [] := K54.wr W56 (Or.inr sz_b33)
  have pre66 : ∀ t, Steps p.tables e below (T56.setTop (mkF m 56 #[.val (.int p0), .val (.int p1), .val (.ref b3), .val (.ref b33), .unset, .unset, .unset, .unset] [(.int (((p0.toUInt32 >>> ((16 : Int32) &&& 31).toUInt32).toInt32) &&& (1 : Int32)))])) t → Steps p.tables e below (s₁.setTop (entryFrame m #[(.int p0), (.int p1)] maxLocals)) t := fun t k => pre0 t (by
      refine XS.iconst X0.here hx rfl (hb hby at_0) ?_
      show Steps p.tables e below (s₁.setTop (mkF m 1 #[.val (.int p0), .val (.int p1), .unset, .unset, .unset, .unset, .unset, .unset] [(.int (2 : Int32))])) _
      refine st3 _ ?_
      show Steps p.tables e below (T3.setTop (mkF m 3 #[.val (.int p0), .val (.int p1), .unset, .unset, .unset, .unset, .unset, .unset] [(.ref b3)])) _
      refine XS.astoreN X3.here hx rfl (hb hby at_3) rfl rfl (l' := #[.val (.int p0), .val (.int p1), .val (.ref b3), .unset, .unset, .unset, .unset, .unset]) rfl ?_
      show Steps p.tables e below (T3.setTop (mkF m 4 #[.val (.int p0), .val (.int p1), .val (.ref b3), .unset, .unset, .unset, .unset, .unset] [])) _
      refine XS.aloadN X3.here hx rfl (hb hby at_4) rfl rfl ?_
      show Steps p.tables e below (T3.setTop (mkF m 5 #[.val (.int p0), .val (.int p1), .val (.ref b3), .unset, .unset, .unset, .unset, .unset] [(.ref b3)])) _
      refine XS.iconst X3.here hx rfl (hb hby at_5) ?_
      show Steps p.tables e below (T3.setTop (mkF m 6 #[.val (.int p0), .val (.int p1), .val (.ref b3), .unset, .unset, .unset, .unset, .unset] [(.int (0 : Int32)), (.ref b3)])) _
      refine XS.iloadN X3.here hx rfl (hb hby at_6) rfl ?_
      show Steps p.tables e below (T3.setTop (mkF m 7 #[.val (.int p0), .val (.int p1), .val (.ref b3), .unset, .unset, .unset, .unset, .unset] [(.int p0), (.int (0 : Int32)), (.ref b3)])) _
      refine XS.sipush X3.here hx rfl (hb hby at_7) ?_
      show Steps p.tables e below (T3.setTop (mkF m 10 #[.val (.int p0), .val (.int p1), .val (.ref b3), .unset, .unset, .unset, .unset, .unset] [(.int (255 : Int32)), (.int p0), (.int (0 : Int32)), (.ref b3)])) _
      refine XS.iand X3.here hx rfl (hb hby at_10) rfl ?_
      show Steps p.tables e below (T3.setTop (mkF m 11 #[.val (.int p0), .val (.int p1), .val (.ref b3), .unset, .unset, .unset, .unset, .unset] [(.int (p0 &&& (255 : Int32))), (.int (0 : Int32)), (.ref b3)])) _
      refine XS.i2c X3.here hx rfl (hb hby at_11) rfl ?_
      show Steps p.tables e below (T3.setTop (mkF m 12 #[.val (.int p0), .val (.int p1), .val (.ref b3), .unset, .unset, .unset, .unset, .unset] [(.int ((p0 &&& (255 : Int32)).toUInt32.toUInt16.toUInt32.toInt32)), (.int (0 : Int32)), (.ref b3)])) _
      refine st14 _ ?_
      show Steps p.tables e below (T14.setTop (mkF m 13 #[.val (.int p0), .val (.int p1), .val (.ref b3), .unset, .unset, .unset, .unset, .unset] [])) _
      refine XS.aloadN X14.here hx rfl (hb hby at_13) rfl rfl ?_
      show Steps p.tables e below (T14.setTop (mkF m 14 #[.val (.int p0), .val (.int p1), .val (.ref b3), .unset, .unset, .unset, .unset, .unset] [(.ref b3)])) _
      refine XS.iconst X14.here hx rfl (hb hby at_14) ?_
      show Steps p.tables e below (T14.setTop (mkF m 15 #[.val (.int p0), .val (.int p1), .val (.ref b3), .unset, .unset, .unset, .unset, .unset] [(.int (1 : Int32)), (.ref b3)])) _
      refine XS.iloadN X14.here hx rfl (hb hby at_15) rfl ?_
      show Steps p.tables e below (T14.setTop (mkF m 16 #[.val (.int p0), .val (.int p1), .val (.ref b3), .unset, .unset, .unset, .unset, .unset] [(.int p0), (.int (1 : Int32)), (.ref b3)])) _
      refine XS.bipush X14.here hx rfl (hb hby at_16) ?_
      show Steps p.tables e below (T14.setTop (mkF m 18 #[.val (.int p0), .val (.int p1), .val (.ref b3), .unset, .unset, .unset, .unset, .unset] [(.int (8 : Int32)), (.int p0), (.int (1 : Int32)), (.ref b3)])) _
      refine XS.iushr X14.here hx rfl (hb hby at_18) rfl ?_
      show Steps p.tables e below (T14.setTop (mkF m 19 #[.val (.int p0), .val (.int p1), .val (.ref b3), .unset, .unset, .unset, .unset, .unset] [(.int ((p0.toUInt32 >>> ((8 : Int32) &&& 31).toUInt32).toInt32)), (.int (1 : Int32)), (.ref b3)])) _
      refine XS.sipush X14.here hx rfl (hb hby at_19) ?_
      show Steps p.tables e below (T14.setTop (mkF m 22 #[.val (.int p0), .val (.int p1), .val (.ref b3), .unset, .unset, .unset, .unset, .unset] [(.int (255 : Int32)), (.int ((p0.toUInt32 >>> ((8 : Int32) &&& 31).toUInt32).toInt32)), (.int (1 : Int32)), (.ref b3)])) _
      refine XS.iand X14.here hx rfl (hb hby at_22) rfl ?_
      show Steps p.tables e below (T14.setTop (mkF m 23 #[.val (.int p0), .val (.int p1), .val (.ref b3), .unset, .unset, .unset, .unset, .unset] [(.int (((p0.toUInt32 >>> ((8 : Int32) &&& 31).toUInt32).toInt32) &&& (255 : Int32))), (.int (1 : Int32)), (.ref b3)])) _
      refine XS.i2c X14.here hx rfl (hb hby at_23) rfl ?_
      show Steps p.tables e below (T14.setTop (mkF m 24 #[.val (.int p0), .val (.int p1), .val (.ref b3), .unset, .unset, .unset, .unset, .unset] [(.int ((((p0.toUInt32 >>> ((8 : Int32) &&& 31).toUInt32).toInt32) &&& (255 : Int32)).toUInt32.toUInt16.toUInt32.toInt32)), (.int (1 : Int32)), (.ref b3)])) _
      refine st24 _ ?_
      show Steps p.tables e below (T24.setTop (mkF m 25 #[.val (.int p0), .val (.int p1), .val (.ref b3), .unset, .unset, .unset, .unset, .unset] [])) _
      refine XS.iconst X24.here hx rfl (hb hby at_25) ?_
      show Steps p.tables e below (T24.setTop (mkF m 26 #[.val (.int p0), .val (.int p1), .val (.ref b3), .unset, .unset, .unset, .unset, .unset] [(.int (2 : Int32))])) _
      refine st33 _ ?_
      show Steps p.tables e below (T33.setTop (mkF m 28 #[.val (.int p0), .val (.int p1), .val (.ref b3), .unset, .unset, .unset, .unset, .unset] [(.ref b33)])) _
      refine XS.astoreN X33.here hx rfl (hb hby at_28) rfl rfl (l' := #[.val (.int p0), .val (.int p1), .val (.ref b3), .val (.ref b33), .unset, .unset, .unset, .unset]) rfl ?_
      show Steps p.tables e below (T33.setTop (mkF m 29 #[.val (.int p0), .val (.int p1), .val (.ref b3), .val (.ref b33), .unset, .unset, .unset, .unset] [])) _
      refine XS.aloadN X33.here hx rfl (hb hby at_29) rfl rfl ?_
      show Steps p.tables e below (T33.setTop (mkF m 30 #[.val (.int p0), .val (.int p1), .val (.ref b3), .val (.ref b33), .unset, .unset, .unset, .unset] [(.ref b33)])) _
      refine XS.iconst X33.here hx rfl (hb hby at_30) ?_
      show Steps p.tables e below (T33.setTop (mkF m 31 #[.val (.int p0), .val (.int p1), .val (.ref b3), .val (.ref b33), .unset, .unset, .unset, .unset] [(.int (0 : Int32)), (.ref b33)])) _
      refine XS.iloadN X33.here hx rfl (hb hby at_31) rfl ?_
      show Steps p.tables e below (T33.setTop (mkF m 32 #[.val (.int p0), .val (.int p1), .val (.ref b3), .val (.ref b33), .unset, .unset, .unset, .unset] [(.int p1), (.int (0 : Int32)), (.ref b33)])) _
      refine XS.sipush X33.here hx rfl (hb hby at_32) ?_
      show Steps p.tables e below (T33.setTop (mkF m 35 #[.val (.int p0), .val (.int p1), .val (.ref b3), .val (.ref b33), .unset, .unset, .unset, .unset] [(.int (255 : Int32)), (.int p1), (.int (0 : Int32)), (.ref b33)])) _
      refine XS.iand X33.here hx rfl (hb hby at_35) rfl ?_
      show Steps p.tables e below (T33.setTop (mkF m 36 #[.val (.int p0), .val (.int p1), .val (.ref b3), .val (.ref b33), .unset, .unset, .unset, .unset] [(.int (p1 &&& (255 : Int32))), (.int (0 : Int32)), (.ref b33)])) _
      refine XS.i2c X33.here hx rfl (hb hby at_36) rfl ?_
      show Steps p.tables e below (T33.setTop (mkF m 37 #[.val (.int p0), .val (.int p1), .val (.ref b3), .val (.ref b33), .unset, .unset, .unset, .unset] [(.int ((p1 &&& (255 : Int32)).toUInt32.toUInt16.toUInt32.toInt32)), (.int (0 : Int32)), (.ref b33)])) _
      refine st45 _ ?_
      show Steps p.tables e below (T45.setTop (mkF m 38 #[.val (.int p0), .val (.int p1), .val (.ref b3), .val (.ref b33), .unset, .unset, .unset, .unset] [])) _
      refine XS.aloadN X45.here hx rfl (hb hby at_38) rfl rfl ?_
      show Steps p.tables e below (T45.setTop (mkF m 39 #[.val (.int p0), .val (.int p1), .val (.ref b3), .val (.ref b33), .unset, .unset, .unset, .unset] [(.ref b33)])) _
      refine XS.iconst X45.here hx rfl (hb hby at_39) ?_
      show Steps p.tables e below (T45.setTop (mkF m 40 #[.val (.int p0), .val (.int p1), .val (.ref b3), .val (.ref b33), .unset, .unset, .unset, .unset] [(.int (1 : Int32)), (.ref b33)])) _
      refine XS.iloadN X45.here hx rfl (hb hby at_40) rfl ?_
      show Steps p.tables e below (T45.setTop (mkF m 41 #[.val (.int p0), .val (.int p1), .val (.ref b3), .val (.ref b33), .unset, .unset, .unset, .unset] [(.int p1), (.int (1 : Int32)), (.ref b33)])) _
      refine XS.bipush X45.here hx rfl (hb hby at_41) ?_
      show Steps p.tables e below (T45.setTop (mkF m 43 #[.val (.int p0), .val (.int p1), .val (.ref b3), .val (.ref b33), .unset, .unset, .unset, .unset] [(.int (8 : Int32)), (.int p1), (.int (1 : Int32)), (.ref b33)])) _
      refine XS.iushr X45.here hx rfl (hb hby at_43) rfl ?_
      show Steps p.tables e below (T45.setTop (mkF m 44 #[.val (.int p0), .val (.int p1), .val (.ref b3), .val (.ref b33), .unset, .unset, .unset, .unset] [(.int ((p1.toUInt32 >>> ((8 : Int32) &&& 31).toUInt32).toInt32)), (.int (1 : Int32)), (.ref b33)])) _
      refine XS.sipush X45.here hx rfl (hb hby at_44) ?_
      show Steps p.tables e below (T45.setTop (mkF m 47 #[.val (.int p0), .val (.int p1), .val (.ref b3), .val (.ref b33), .unset, .unset, .unset, .unset] [(.int (255 : Int32)), (.int ((p1.toUInt32 >>> ((8 : Int32) &&& 31).toUInt32).toInt32)), (.int (1 : Int32)), (.ref b33)])) _
      refine XS.iand X45.here hx rfl (hb hby at_47) rfl ?_
      show Steps p.tables e below (T45.setTop (mkF m 48 #[.val (.int p0), .val (.int p1), .val (.ref b3), .val (.ref b33), .unset, .unset, .unset, .unset] [(.int (((p1.toUInt32 >>> ((8 : Int32) &&& 31).toUInt32).toInt32) &&& (255 : Int32))), (.int (1 : Int32)), (.ref b33)])) _
      refine XS.i2c X45.here hx rfl (hb hby at_48) rfl ?_
      show Steps p.tables e below (T45.setTop (mkF m 49 #[.val (.int p0), .val (.int p1), .val (.ref b3), .val (.ref b33), .unset, .unset, .unset, .unset] [(.int ((((p1.toUInt32 >>> ((8 : Int32) &&& 31).toUInt32).toInt32) &&& (255 : Int32)).toUInt32.toUInt16.toUInt32.toInt32)), (.int (1 : Int32)), (.ref b33)])) _
      refine st56 _ ?_
      show Steps p.tables e below (T56.setTop (mkF m 50 #[.val (.int p0), .val (.int p1), .val (.ref b3), .val (.ref b33), .unset, .unset, .unset, .unset] [])) _
      refine XS.iloadN X56.here hx rfl (hb hby at_50) rfl ?_
      show Steps p.tables e below (T56.setTop (mkF m 51 #[.val (.int p0), .val (.int p1), .val (.ref b3), .val (.ref b33), .unset, .unset, .unset, .unset] [(.int p0)])) _
      refine XS.bipush X56.here hx rfl (hb hby at_51) ?_
      show Steps p.tables e below (T56.setTop (mkF m 53 #[.val (.int p0), .val (.int p1), .val (.ref b3), .val (.ref b33), .unset, .unset, .unset, .unset] [(.int (16 : Int32)), (.int p0)])) _
      refine XS.iushr X56.here hx rfl (hb hby at_53) rfl ?_
      show Steps p.tables e below (T56.setTop (mkF m 54 #[.val (.int p0), .val (.int p1), .val (.ref b3), .val (.ref b33), .unset, .unset, .unset, .unset] [(.int ((p0.toUInt32 >>> ((16 : Int32) &&& 31).toUInt32).toInt32))])) _
      refine XS.iconst X56.here hx rfl (hb hby at_54) ?_
      show Steps p.tables e below (T56.setTop (mkF m 55 #[.val (.int p0), .val (.int p1), .val (.ref b3), .val (.ref b33), .unset, .unset, .unset, .unset] [(.int (1 : Int32)), (.int ((p0.toUInt32 >>> ((16 : Int32) &&& 31).toUInt32).toInt32))])) _
      refine XS.iand X56.here hx rfl (hb hby at_55) rfl ?_
      show Steps p.tables e below (T56.setTop (mkF m 56 #[.val (.int p0), .val (.int p1), .val (.ref b3), .val (.ref b33), .unset, .unset, .unset, .unset] [(.int (((p0.toUInt32 >>> ((16 : Int32) &&& 31).toUInt32).toInt32) &&& (1 : Int32)))])) _
      exact k)
  by_cases hc67 : (((p0.toUInt32 >>> ((16 : Int32) &&& 31).toUInt32).toInt32) &&& (1 : Int32)) = (0 : Int32)
  · obtain ⟨T68, h68, X68, e68, E68, A68, D68, -, st68⟩ := newO X56 hx hZ hown (hw _ (List.mem_of_getElem? (i := 1) rfl)) (hw _ (List.mem_of_getElem? (i := 2) rfl)) (hw _ (List.mem_of_getElem? (i := 3) rfl)) e56 (g := (mkF m 64 #[.val (.int p0), .val (.int p1), .val (.ref b3), .val (.ref b33), .unset, .unset, .unset, .unset] [])) rfl (hb hby at_64) (by decide) (by decide)
    obtain ⟨b68, g68⟩ : ∃ z, z = h56.size := ⟨_, rfl⟩
    rw [← g68] at A68 D68 st68
    have g_b68 : n0 ≤ b68 := Nat.le_trans zs63 (Nat.le_of_eq g68.symm)
    have sz_b68 : h0.size ≤ b68 := Nat.le_trans K65.1 (Nat.le_of_eq g68.symm)
    have lt69 : b3 < b68 := Nat.lt_of_lt_of_le f61.lt (Nat.le_of_eq g68.symm)
    have lt70 : b33 < b68 := Nat.lt_of_lt_of_le f57.lt (Nat.le_of_eq g68.symm)
    have C71 : CHv Z consts_1 s.vm h68 := CHv.ext E68 C62
    have Sf72 : Safe Z consts_1 s.vm h68 b68 := Safe.ext E68 C62 (Safe.new (Nat.le_of_eq g68.symm))
    have f73 : Old Z n0 h68 := f58.ext E68
    have f74 : Sta Z h68 "java/lang/String" "COMPACT_STRINGS" "Z" (.int z_COMPACT_STRINGS) := f59.ext E68
    have f75 : Sta Z h68 "com/example/casewright/engine/TestResult$Status" "PASSED" "Lcom/example/casewright/engine/TestResult$Status;" (.ref z_PA) := f60.ext E68
    have f76 : Arv Z h68 b3 k3 .char (2 : Int32) [(.int (nar .char ((p0 &&& (255 : Int32)).toUInt32.toUInt16.toUInt32.toInt32))), (.int (nar .char ((((p0.toUInt32 >>> ((8 : Int32) &&& 31).toUInt32).toInt32) &&& (255 : Int32)).toUInt32.toUInt16.toUInt32.toInt32)))] (.int (0 : Int32)) := f61.ext E68
    have f77 : Arv Z h68 b33 k33 .char (2 : Int32) [(.int (nar .char ((p1 &&& (255 : Int32)).toUInt32.toUInt16.toUInt32.toInt32))), (.int (nar .char ((((p1.toUInt32 >>> ((8 : Int32) &&& 31).toUInt32).toInt32) &&& (255 : Int32)).toUInt32.toUInt16.toUInt32.toInt32)))] (.int (0 : Int32)) := f57.ext E68
    have zs78 : n0 ≤ h68.size := Nat.le_trans zs63 E68.1
    have K79 : Keep h0 h68 [] := K65.ext E68
    have f80 : Fld Z h68 b68 "java/lang/String" "coder" "B" (.int (0 : Int32)) := D68 (Or.inr (hw _ (List.mem_of_getElem? (i := 27) rfl))) (ty := .byte) (by decide)
    have f81 : Fld Z h68 b68 "java/lang/String" "value" "[B" .null := D68 (Or.inr (hw _ (List.mem_of_getElem? (i := 29) rfl))) (ty := (.array .byte)) (by decide)
    obtain ⟨_, _, ⟨T82, L82, k82, n82⟩, -, X82, ⟨Lc82, hQ82, l82, y82, z82⟩, st82⟩ := X68.specialBack hx (y := (⟨"java/lang/String", "<init>", "([C)V"⟩ : MethodName)) rfl hown (mvT hZ (hw _ (List.mem_of_getElem? (i := 4) rfl))) (mvT hZ (hw _ (List.mem_of_getElem? (i := 5) rfl))) (mvT hZ (hw _ (List.mem_of_getElem? (i := 6) rfl))) (by decide) (backOf (W := 1) (own_rm1 l Z a0 hw [] b68 b3 k3 (nar .char ((p0 &&& (255 : Int32)).toUInt32.toUInt16.toUInt32.toInt32)) (nar .char ((((p0.toUInt32 >>> ((8 : Int32) &&& 31).toUInt32).toInt32) &&& (255 : Int32)).toUInt32.toUInt16.toUInt32.toInt32)) z_COMPACT_STRINGS (.int (0 : Int32)) .null h68 n0 zs78 f76 f74 A68 f80 f81 HC (own_n255 _) (own_n255 _) g_b68) hZ (hw _ (List.mem_of_getElem? (i := 6) rfl)) (hw _ (List.mem_of_getElem? (i := 3) rfl)) (by decide) (by decide)) (g := (mkF m 69 #[.val (.int p0), .val (.int p1), .val (.ref b3), .val (.ref b33), .unset, .unset, .unset, .unset] [(.ref b3), (.ref b68), (.ref b68)])) rfl (by rw [hml]; rfl) (Steps.refl _) (a := b68) (argsL := [(.ref b3)]) (rest := [(.ref b68)]) (lenOf own_pd6 rfl) rfl (by show 2 * 0 + _ ≤ _; exact Nat.le_of_eq rfl) (hb hby at_69) (fun _ _ => ⟨rfl, e68, (by decide : 3 + 1 ≤ _), (by decide : 8 + 2 ≤ _)⟩)
    dsimp only [Pt.U, Pt.locs, Pt.cells, Pt.slots] at X82 l82 y82 z82 st82 hQ82
    subst l82 y82 z82
    obtain ⟨b1_3_2_82, k1_3_2_82, rfl, N82q, K82, sqb1_3_2_82_82, f83, f84, f85, f86⟩ := hQ82
    have g_b1_3_2_82 : n0 ≤ b1_3_2_82 := Nat.le_trans zs78 sqb1_3_2_82_82
    have sz_b1_3_2_82 : h0.size ≤ b1_3_2_82 := Nat.le_trans K79.1 sqb1_3_2_82_82
    have lt87 : b3 < b1_3_2_82 := Nat.lt_of_lt_of_le f76.lt sqb1_3_2_82_82
    have lt88 : b33 < b1_3_2_82 := Nat.lt_of_lt_of_le f77.lt sqb1_3_2_82_82
    have lt89 : b68 < b1_3_2_82 := Nat.lt_of_lt_of_le f81.lt sqb1_3_2_82_82
    have C90 : CHv Z consts_1 s.vm T82.heap := CHv.keep K82 (fun x hx => by rw [List.mem_singleton.mp hx]; exact Sf72) C71
    have f91 : Old Z n0 T82.heap := f73.keep K82 (allS g_b68 all0)
    have f92 : Sta Z T82.heap "java/lang/String" "COMPACT_STRINGS" "Z" (.int z_COMPACT_STRINGS) := (sb1.ext f91.2)
    have f93 : Sta Z T82.heap "com/example/casewright/engine/TestResult$Status" "PASSED" "Lcom/example/casewright/engine/TestResult$Status;" (.ref z_PA) := (sb2.ext f91.2)
    have f94 : Arv Z T82.heap b3 k3 .char (2 : Int32) [(.int (nar .char ((p0 &&& (255 : Int32)).toUInt32.toUInt16.toUInt32.toInt32))), (.int (nar .char ((((p0.toUInt32 >>> ((8 : Int32) &&& 31).toUInt32).toInt32) &&& (255 : Int32)).toUInt32.toUInt16.toUInt32.toInt32)))] (.int (0 : Int32)) := f76.keep K82 (ninS (Nat.ne_of_lt lt69) nin0)
    have f95 : Arv Z T82.heap b33 k33 .char (2 : Int32) [(.int (nar .char ((p1 &&& (255 : Int32)).toUInt32.toUInt16.toUInt32.toInt32))), (.int (nar .char ((((p1.toUInt32 >>> ((8 : Int32) &&& 31).toUInt32).toInt32) &&& (255 : Int32)).toUInt32.toUInt16.toUInt32.toInt32)))] (.int (0 : Int32)) := f77.keep K82 (ninS (Nat.ne_of_lt lt70) nin0)
    have zs96 : n0 ≤ T82.heap.size := Nat.le_trans zs78 K82.1
    have K97 : Keep h0 T82.heap [] := K79.trans K82 (allS (Or.inr sz_b68) all0)
    have N98 := Fr.app N64 N82q
    have pre99 : ∀ t, Steps p.tables e below (T82.setTop (mkF m 80 #[.val (.int p0), .val (.int p1), .val (.ref b3), .val (.ref b33), .val (.ref b68), .unset, .unset, .unset] [(.int (((p1.toUInt32 >>> ((16 : Int32) &&& 31).toUInt32).toInt32) &&& (1 : Int32)))])) t → Steps p.tables e below (s₁.setTop (entryFrame m #[(.int p0), (.int p1)] maxLocals)) t := fun t k => pre66 t (by
        refine XS.ifYes X56.here hx rfl (pc0 := 56) (pc' := 64) rfl (hb hby at_56) rfl ((if0 _ _).trans (teq hc67).1) (by decide) (by decide) ?_
        show Steps p.tables e below (T56.setTop (mkF m 64 #[.val (.int p0), .val (.int p1), .val (.ref b3), .val (.ref b33), .unset, .unset, .unset, .unset] [])) _
        refine st68 _ ?_
        show Steps p.tables e below (T68.setTop (mkF m 67 #[.val (.int p0), .val (.int p1), .val (.ref b3), .val (.ref b33), .unset, .unset, .unset, .unset] [(.ref b68)])) _
        refine XS.dup X68.here hx rfl (hb hby at_67) rfl rfl ?_
        show Steps p.tables e below (T68.setTop (mkF m 68 #[.val (.int p0), .val (.int p1), .val (.ref b3), .val (.ref b33), .unset, .unset, .unset, .unset] [(.ref b68), (.ref b68)])) _
        refine XS.aloadN X68.here hx rfl (hb hby at_68) rfl rfl ?_
        show Steps p.tables e below (T68.setTop (mkF m 69 #[.val (.int p0), .val (.int p1), .val (.ref b3), .val (.ref b33), .unset, .unset, .unset, .unset] [(.ref b3), (.ref b68), (.ref b68)])) _
        refine st82.trans ?_
        show Steps p.tables e below (T82.setTop (mkF m 72 #[.val (.int p0), .val (.int p1), .val (.ref b3), .val (.ref b33), .unset, .unset, .unset, .unset] [(.ref b68)])) _
        refine XS.astore X82.here hx rfl (hb hby at_72) rfl rfl (l' := #[.val (.int p0), .val (.int p1), .val (.ref b3), .val (.ref b33), .val (.ref b68), .unset, .unset, .unset]) rfl ?_
        show Steps p.tables e below (T82.setTop (mkF m 74 #[.val (.int p0), .val (.int p1), .val (.ref b3), .val (.ref b33), .val (.ref b68), .unset, .unset, .unset] [])) _
        refine XS.iloadN X82.here hx rfl (hb hby at_74) rfl ?_
        show Steps p.tables e below (T82.setTop (mkF m 75 #[.val (.int p0), .val (.int p1), .val (.ref b3), .val (.ref b33), .val (.ref b68), .unset, .unset, .unset] [(.int p1)])) _
        refine XS.bipush X82.here hx rfl (hb hby at_75) ?_
        show Steps p.tables e below (T82.setTop (mkF m 77 #[.val (.int p0), .val (.int p1), .val (.ref b3), .val (.ref b33), .val (.ref b68), .unset, .unset, .unset] [(.int (16 : Int32)), (.int p1)])) _
        refine XS.iushr X82.here hx rfl (hb hby at_77) rfl ?_
        show Steps p.tables e below (T82.setTop (mkF m 78 #[.val (.int p0), .val (.int p1), .val (.ref b3), .val (.ref b33), .val (.ref b68), .unset, .unset, .unset] [(.int ((p1.toUInt32 >>> ((16 : Int32) &&& 31).toUInt32).toInt32))])) _
        refine XS.iconst X82.here hx rfl (hb hby at_78) ?_
        show Steps p.tables e below (T82.setTop (mkF m 79 #[.val (.int p0), .val (.int p1), .val (.ref b3), .val (.ref b33), .val (.ref b68), .unset, .unset, .unset] [(.int (1 : Int32)), (.int ((p1.toUInt32 >>> ((16 : Int32) &&& 31).toUInt32).toInt32))])) _
        refine XS.iand X82.here hx rfl (hb hby at_79) rfl ?_
        show Steps p.tables e below (T82.setTop (mkF m 80 #[.val (.int p0), .val (.int p1), .val (.ref b3), .val (.ref b33), .val (.ref b68), .unset, .unset, .unset] [(.int (((p1.toUInt32 >>> ((16 : Int32) &&& 31).toUInt32).toInt32) &&& (1 : Int32)))])) _
        exact k)
    by_cases hc100 : (((p1.toUInt32 >>> ((16 : Int32) &&& 31).toUInt32).toInt32) &&& (1 : Int32)) = (0 : Int32)
    · obtain ⟨T101, h101, X101, e101, E101, A101, D101, -, st101⟩ := newO X82 hx hZ hown (hw _ (List.mem_of_getElem? (i := 1) rfl)) (hw _ (List.mem_of_getElem? (i := 2) rfl)) (hw _ (List.mem_of_getElem? (i := 3) rfl)) rfl (g := (mkF m 88 #[.val (.int p0), .val (.int p1), .val (.ref b3), .val (.ref b33), .val (.ref b68), .unset, .unset, .unset] [])) rfl (hb hby at_88) (by decide) (by decide)
      obtain ⟨b101, g101⟩ : ∃ z, z = T82.heap.size := ⟨_, rfl⟩
      rw [← g101] at A101 D101 st101
      have g_b101 : n0 ≤ b101 := Nat.le_trans zs96 (Nat.le_of_eq g101.symm)
      have sz_b101 : h0.size ≤ b101 := Nat.le_trans K97.1 (Nat.le_of_eq g101.symm)
      have lt102 : b3 < b101 := Nat.lt_of_lt_of_le f94.lt (Nat.le_of_eq g101.symm)
      have lt103 : b33 < b101 := Nat.lt_of_lt_of_le f95.lt (Nat.le_of_eq g101.symm)
      have lt104 : b68 < b101 := Nat.lt_of_lt_of_le f85.lt (Nat.le_of_eq g101.symm)
      have lt105 : b1_3_2_82 < b101 := Nat.lt_of_lt_of_le f86.lt (Nat.le_of_eq g101.symm)
      have C106 : CHv Z consts_1 s.vm h101 := CHv.ext E101 C90
      have Sf107 : Safe Z consts_1 s.vm h101 b101 := Safe.ext E101 C90 (Safe.new (Nat.le_of_eq g101.symm))
      have f108 : Old Z n0 h101 := f91.ext E101
      have f109 : Sta Z h101 "java/lang/String" "COMPACT_STRINGS" "Z" (.int z_COMPACT_STRINGS) := f92.ext E101
      have f110 : Sta Z h101 "com/example/casewright/engine/TestResult$Status" "PASSED" "Lcom/example/casewright/engine/TestResult$Status;" (.ref z_PA) := f93.ext E101
      have f111 : Arv Z h101 b3 k3 .char (2 : Int32) [(.int (nar .char ((p0 &&& (255 : Int32)).toUInt32.toUInt16.toUInt32.toInt32))), (.int (nar .char ((((p0.toUInt32 >>> ((8 : Int32) &&& 31).toUInt32).toInt32) &&& (255 : Int32)).toUInt32.toUInt16.toUInt32.toInt32)))] (.int (0 : Int32)) := f94.ext E101
      have f112 : Arv Z h101 b33 k33 .char (2 : Int32) [(.int (nar .char ((p1 &&& (255 : Int32)).toUInt32.toUInt16.toUInt32.toInt32))), (.int (nar .char ((((p1.toUInt32 >>> ((8 : Int32) &&& 31).toUInt32).toInt32) &&& (255 : Int32)).toUInt32.toUInt16.toUInt32.toInt32)))] (.int (0 : Int32)) := f95.ext E101
      have f113 : Exa Z h101 b68 "java/lang/String" := f83.ext E101
      have f114 : Fld Z h101 b68 "java/lang/String" "coder" "B" (.int (0 : Int32)) := f84.ext E101
      have f115 : Fld Z h101 b68 "java/lang/String" "value" "[B" (.ref b1_3_2_82) := f85.ext E101
      have f116 : Arv Z h101 b1_3_2_82 k1_3_2_82 .byte (2 : Int32) [(.int (nar .byte ((nar .char ((p0 &&& (255 : Int32)).toUInt32.toUInt16.toUInt32.toInt32)).toInt8.toInt32))), (.int (nar .byte ((nar .char ((((p0.toUInt32 >>> ((8 : Int32) &&& 31).toUInt32).toInt32) &&& (255 : Int32)).toUInt32.toUInt16.toUInt32.toInt32)).toInt8.toInt32)))] (.int (0 : Int32)) := f86.ext E101
      have zs117 : n0 ≤ h101.size := Nat.le_trans zs96 E101.1
      have K118 : Keep h0 h101 [] := K97.ext E101
      have f119 : Fld Z h101 b101 "java/lang/String" "coder" "B" (.int (0 : Int32)) := D101 (Or.inr (hw _ (List.mem_of_getElem? (i := 27) rfl))) (ty := .byte) (by decide)
      have f120 : Fld Z h101 b101 "java/lang/String" "value" "[B" .null := D101 (Or.inr (hw _ (List.mem_of_getElem? (i := 29) rfl))) (ty := (.array .byte)) (by decide)
      obtain ⟨_, _, ⟨T121, L121, k121, n121⟩, -, X121, ⟨Lc121, hQ121, l121, y121, z121⟩, st121⟩ := X101.specialBack hx (y := (⟨"java/lang/String", "<init>", "([C)V"⟩ : MethodName)) rfl hown (mvT hZ (hw _ (List.mem_of_getElem? (i := 4) rfl))) (mvT hZ (hw _ (List.mem_of_getElem? (i := 5) rfl))) (mvT hZ (hw _ (List.mem_of_getElem? (i := 6) rfl))) (by decide) (backOf (W := 1) (own_rm1 l Z a0 hw [] b101 b33 k33 (nar .char ((p1 &&& (255 : Int32)).toUInt32.toUInt16.toUInt32.toInt32)) (nar .char ((((p1.toUInt32 >>> ((8 : Int32) &&& 31).toUInt32).toInt32) &&& (255 : Int32)).toUInt32.toUInt16.toUInt32.toInt32)) z_COMPACT_STRINGS (.int (0 : Int32)) .null h101 n0 zs117 f112 f109 A101 f119 f120 HC (own_n255 _) (own_n255 _) g_b101) hZ (hw _ (List.mem_of_getElem? (i := 6) rfl)) (hw _ (List.mem_of_getElem? (i := 3) rfl)) (by decide) (by decide)) (g := (mkF m 93 #[.val (.int p0), .val (.int p1), .val (.ref b3), .val (.ref b33), .val (.ref b68), .unset, .unset, .unset] [(.ref b33), (.ref b101), (.ref b101)])) rfl (by rw [hml]; rfl) (Steps.refl _) (a := b101) (argsL := [(.ref b33)]) (rest := [(.ref b101)]) (lenOf own_pd6 rfl) rfl (by show 2 * 0 + _ ≤ _; exact Nat.le_of_eq rfl) (hb hby at_93) (fun _ _ => ⟨rfl, e101, (by decide : 5 + 1 ≤ _), (by decide : 14 + 2 ≤ _)⟩)
      dsimp only [Pt.U, Pt.locs, Pt.cells, Pt.slots] at X121 l121 y121 z121 st121 hQ121
      subst l121 y121 z121
      obtain ⟨b1_3_2_121, k1_3_2_121, rfl, N121q, K121, sqb1_3_2_121_121, f122, f123, f124, f125⟩ := hQ121
      have g_b1_3_2_121 : n0 ≤ b1_3_2_121 := Nat.le_trans zs117 sqb1_3_2_121_121
      have sz_b1_3_2_121 : h0.size ≤ b1_3_2_121 := Nat.le_trans K118.1 sqb1_3_2_121_121
      have lt126 : b3 < b1_3_2_121 := Nat.lt_of_lt_of_le f111.lt sqb1_3_2_121_121
      have lt127 : b33 < b1_3_2_121 := Nat.lt_of_lt_of_le f112.lt sqb1_3_2_121_121
      have lt128 : b68 < b1_3_2_121 := Nat.lt_of_lt_of_le f115.lt sqb1_3_2_121_121
      have lt129 : b1_3_2_82 < b1_3_2_121 := Nat.lt_of_lt_of_le f116.lt sqb1_3_2_121_121
      have lt130 : b101 < b1_3_2_121 := Nat.lt_of_lt_of_le f120.lt sqb1_3_2_121_121
      have C131 : CHv Z consts_1 s.vm T121.heap := CHv.keep K121 (fun x hx => by rw [List.mem_singleton.mp hx]; exact Sf107) C106
      have f132 : Old Z n0 T121.heap := f108.keep K121 (allS g_b101 all0)
      have f133 : Sta Z T121.heap "java/lang/String" "COMPACT_STRINGS" "Z" (.int z_COMPACT_STRINGS) := (sb1.ext f132.2)
      have f134 : Sta Z T121.heap "com/example/casewright/engine/TestResult$Status" "PASSED" "Lcom/example/casewright/engine/TestResult$Status;" (.ref z_PA) := (sb2.ext f132.2)
      have f135 : Arv Z T121.heap b3 k3 .char (2 : Int32) [(.int (nar .char ((p0 &&& (255 : Int32)).toUInt32.toUInt16.toUInt32.toInt32))), (.int (nar .char ((((p0.toUInt32 >>> ((8 : Int32) &&& 31).toUInt32).toInt32) &&& (255 : Int32)).toUInt32.toUInt16.toUInt32.toInt32)))] (.int (0 : Int32)) := f111.keep K121 (ninS (Nat.ne_of_lt lt102) nin0)
      have f136 : Arv Z T121.heap b33 k33 .char (2 : Int32) [(.int (nar .char ((p1 &&& (255 : Int32)).toUInt32.toUInt16.toUInt32.toInt32))), (.int (nar .char ((((p1.toUInt32 >>> ((8 : Int32) &&& 31).toUInt32).toInt32) &&& (255 : Int32)).toUInt32.toUInt16.toUInt32.toInt32)))] (.int (0 : Int32)) := f112.keep K121 (ninS (Nat.ne_of_lt lt103) nin0)
      have f137 : Exa Z T121.heap b68 "java/lang/String" := f113.keep K121
      have f138 : Fld Z T121.heap b68 "java/lang/String" "coder" "B" (.int (0 : Int32)) := f114.keep K121 (ninS (Nat.ne_of_lt lt104) nin0)
      have f139 : Fld Z T121.heap b68 "java/lang/String" "value" "[B" (.ref b1_3_2_82) := f115.keep K121 (ninS (Nat.ne_of_lt lt104) nin0)
      have f140 : Arv Z T121.heap b1_3_2_82 k1_3_2_82 .byte (2 : Int32) [(.int (nar .byte ((nar .char ((p0 &&& (255 : Int32)).toUInt32.toUInt16.toUInt32.toInt32)).toInt8.toInt32))), (.int (nar .byte ((nar .char ((((p0.toUInt32 >>> ((8 : Int32) &&& 31).toUInt32).toInt32) &&& (255 : Int32)).toUInt32.toUInt16.toUInt32.toInt32)).toInt8.toInt32)))] (.int (0 : Int32)) := f116.keep K121 (ninS (Nat.ne_of_lt lt105) nin0)
      have zs141 : n0 ≤ T121.heap.size := Nat.le_trans zs117 K121.1
      have K142 : Keep h0 T121.heap [] := K118.trans K121 (allS (Or.inr sz_b101) all0)
      have N143 := Fr.app N98 N121q
      obtain ⟨_, _, ⟨T144, L144, k144, n144⟩, -, X144, hs144, hg144, ⟨Lc144, hQ144, l144, y144, z144⟩, st144⟩ := callSS (s := s.setVm s.vm) X121 hx (y := (⟨"com/example/casewright/engine/TestResult", "passed", "(Ljava/lang/String;Ljava/lang/String;)Lcom/example/casewright/engine/TestResult;"⟩ : MethodName)) hown (mvT hZ (hw _ (List.mem_of_getElem? (i := 30) rfl))) (mvT hZ (hw _ (List.mem_of_getElem? (i := 31) rfl))) (mvT hZ (hw _ (List.mem_of_getElem? (i := 32) rfl))) (mvT hZ (hw _ (List.mem_of_getElem? (i := 33) rfl))) (by decide) (own_backJ (W := 0) (own_rm7 l Z a0 hw [] b68 b101 z_PA T121.heap n0 zs141 f132 f134) hZ ⟨hZ, ⟨a0, own_EW Z a0 hw⟩, C131⟩ (hw _ (List.mem_of_getElem? (i := 33) rfl)) (hw _ (List.mem_of_getElem? (i := 32) rfl)) (by decide) (by decide)) (g := (mkF m 102 #[.val (.int p0), .val (.int p1), .val (.ref b3), .val (.ref b33), .val (.ref b68), .val (.ref b101), .unset, .unset] [(.ref b101), (.ref b68)])) rfl (by rw [hml]; rfl) (argsL := [(.ref b68), (.ref b101)]) (rest := []) (lenOf own_pd7 rfl) rfl (by show 2 * 0 + _ ≤ _; exact Nat.le_of_eq rfl) (hb hby at_102) (fun _ _ => ⟨rfl, rfl, (by decide : 6 + 3 ≤ _), (by decide : 16 + 13 ≤ _)⟩)
      dsimp only [Pt.U, Pt.locs, Pt.cells, Pt.slots] at X144 l144 y144 z144 st144 hQ144 hs144 hg144
      subst l144 y144 z144
      obtain ⟨X144r, hS144, hZ144, hown144⟩ := rebS (s := s) (vm0 := s.vm) hS0 (Nat.zero_le _) X144 hs144 hg144 hZ hown
      obtain ⟨b1_144, kc15_144, ba15_144, bb15_144, rfl, N144q, K144, sqb1_144_144, f145, f146, f147, f148, f149, f150, f151, f152, f153, f154, J144⟩ := hQ144
      have g_b1_144 : n0 ≤ b1_144 := Nat.le_trans zs141 sqb1_144_144
      have sz_b1_144 : h0.size ≤ b1_144 := Nat.le_trans K142.1 sqb1_144_144
      have lt155 : b3 < b1_144 := Nat.lt_of_lt_of_le f135.lt sqb1_144_144
      have lt156 : b33 < b1_144 := Nat.lt_of_lt_of_le f136.lt sqb1_144_144
      have lt157 : b68 < b1_144 := Nat.lt_of_lt_of_le f139.lt sqb1_144_144
      have lt158 : b1_3_2_82 < b1_144 := Nat.lt_of_lt_of_le f140.lt sqb1_144_144
      have lt159 : b101 < b1_144 := Nat.lt_of_lt_of_le f124.lt sqb1_144_144
      have lt160 : b1_3_2_121 < b1_144 := Nat.lt_of_lt_of_le f125.lt sqb1_144_144
      have f161 : Old Z n0 T144.heap := f132.keep K144 all0
      have f162 : Sta Z T144.heap "java/lang/String" "COMPACT_STRINGS" "Z" (.int z_COMPACT_STRINGS) := (sb1.ext f161.2)
      have f163 : Sta Z T144.heap "com/example/casewright/engine/TestResult$Status" "PASSED" "Lcom/example/casewright/engine/TestResult$Status;" (.ref z_PA) := (sb2.ext f161.2)
      have f164 : Arv Z T144.heap b3 k3 .char (2 : Int32) [(.int (nar .char ((p0 &&& (255 : Int32)).toUInt32.toUInt16.toUInt32.toInt32))), (.int (nar .char ((((p0.toUInt32 >>> ((8 : Int32) &&& 31).toUInt32).toInt32) &&& (255 : Int32)).toUInt32.toUInt16.toUInt32.toInt32)))] (.int (0 : Int32)) := f135.keep K144 nin0
      have f165 : Arv Z T144.heap b33 k33 .char (2 : Int32) [(.int (nar .char ((p1 &&& (255 : Int32)).toUInt32.toUInt16.toUInt32.toInt32))), (.int (nar .char ((((p1.toUInt32 >>> ((8 : Int32) &&& 31).toUInt32).toInt32) &&& (255 : Int32)).toUInt32.toUInt16.toUInt32.toInt32)))] (.int (0 : Int32)) := f136.keep K144 nin0
      have f166 : Exa Z T144.heap b68 "java/lang/String" := f137.keep K144
      have f167 : Fld Z T144.heap b68 "java/lang/String" "coder" "B" (.int (0 : Int32)) := f138.keep K144 nin0
      have f168 : Fld Z T144.heap b68 "java/lang/String" "value" "[B" (.ref b1_3_2_82) := f139.keep K144 nin0
      have f169 : Arv Z T144.heap b1_3_2_82 k1_3_2_82 .byte (2 : Int32) [(.int (nar .byte ((nar .char ((p0 &&& (255 : Int32)).toUInt32.toUInt16.toUInt32.toInt32)).toInt8.toInt32))), (.int (nar .byte ((nar .char ((((p0.toUInt32 >>> ((8 : Int32) &&& 31).toUInt32).toInt32) &&& (255 : Int32)).toUInt32.toUInt16.toUInt32.toInt32)).toInt8.toInt32)))] (.int (0 : Int32)) := f140.keep K144 nin0
      have f170 : Exa Z T144.heap b101 "java/lang/String" := f122.keep K144
      have f171 : Fld Z T144.heap b101 "java/lang/String" "coder" "B" (.int (0 : Int32)) := f123.keep K144 nin0
      have f172 : Fld Z T144.heap b101 "java/lang/String" "value" "[B" (.ref b1_3_2_121) := f124.keep K144 nin0
      have f173 : Arv Z T144.heap b1_3_2_121 k1_3_2_121 .byte (2 : Int32) [(.int (nar .byte ((nar .char ((p1 &&& (255 : Int32)).toUInt32.toUInt16.toUInt32.toInt32)).toInt8.toInt32))), (.int (nar .byte ((nar .char ((((p1.toUInt32 >>> ((8 : Int32) &&& 31).toUInt32).toInt32) &&& (255 : Int32)).toUInt32.toUInt16.toUInt32.toInt32)).toInt8.toInt32)))] (.int (0 : Int32)) := f125.keep K144 nin0
      have zs174 : n0 ≤ T144.heap.size := Nat.le_trans zs141 K144.1
      have K175 : Keep h0 T144.heap [] := K142.trans K144 all0
      have N176 := Fr.app N143 N144q
      obtain ⟨cq177, kq177, q177a, q177b, q177c⟩ := isOf hZ144 rfl f145
      obtain ⟨_, _, ⟨T177, L177, k177, n177⟩, -, X177, ⟨Lc177, hQ177, l177, y177, z177⟩, st177⟩ := X144r.virtualBack hx (y := (⟨"com/example/casewright/engine/TestResult", "skipReason", "()Ljava/lang/String;"⟩ : MethodName)) (z := (⟨"com/example/casewright/engine/TestResult", "skipReason", "()Ljava/lang/String;"⟩ : MethodName)) hown144 (mvT hZ144 (hw _ (List.mem_of_getElem? (i := 61) rfl))) (mvT hZ144 (hw _ (List.mem_of_getElem? (i := 62) rfl))) (notFace_of_selects (args := #[]) (mvT hZ144 (hw _ (List.mem_of_getElem? (i := 64) rfl)))) (mvT hZ144 (hw _ (List.mem_of_getElem? (i := 64) rfl))) (mvT hZ144 (hw _ (List.mem_of_getElem? (i := 63) rfl))) (by decide) (backOf (W := 0) (own_rm10 l Z a0 hw [] b1_144 ba15_144 T144.heap n0 zs174 f150) hZ144 (hw _ (List.mem_of_getElem? (i := 65) rfl)) (hw _ (List.mem_of_getElem? (i := 32) rfl)) (by decide) (by decide)) q177a q177c (g := (mkF m 116 #[.val (.int p0), .val (.int p1), .val (.ref b3), .val (.ref b33), .val (.ref b68), .val (.ref b101), .val (.ref b1_144), .unset] [(.ref b1_144)])) rfl (by rw [hml]; rfl) (Steps.refl _) (argsL := []) (rest := []) (lenOf own_pd8 rfl) rfl (by show 2 * 0 + _ ≤ _; exact Nat.le_of_eq rfl) (hb hby at_116) (fun _ _ => ⟨rfl, rfl, (by decide : 9 + 0 ≤ _), (by decide : 29 + 0 ≤ _)⟩)
      dsimp only [Pt.U, Pt.locs, Pt.cells, Pt.slots] at X177 l177 y177 z177 st177 hQ177
      subst l177 y177 z177
      obtain ⟨rfl, N177q, e177⟩ := hQ177
      have N178 := Fr.app N176 N177q
      obtain ⟨cq179, kq179, q179a, q179b, q179c⟩ := isOf hZ144 e177 f145
      obtain ⟨_, _, ⟨T179, L179, k179, n179⟩, -, X179, ⟨Lc179, hQ179, l179, y179, z179⟩, st179⟩ := X177.virtualBack hx (y := (⟨"com/example/casewright/engine/TestResult", "className", "()Ljava/lang/String;"⟩ : MethodName)) (z := (⟨"com/example/casewright/engine/TestResult", "className", "()Ljava/lang/String;"⟩ : MethodName)) hown144 (mvT hZ144 (hw _ (List.mem_of_getElem? (i := 66) rfl))) (mvT hZ144 (hw _ (List.mem_of_getElem? (i := 67) rfl))) (notFace_of_selects (args := #[]) (mvT hZ144 (hw _ (List.mem_of_getElem? (i := 69) rfl)))) (mvT hZ144 (hw _ (List.mem_of_getElem? (i := 69) rfl))) (mvT hZ144 (hw _ (List.mem_of_getElem? (i := 68) rfl))) (by decide) (backOf (W := 1) (own_rm11 l Z a0 hw [] b1_144 b68 T144.heap n0 zs174 f146) hZ144 (hw _ (List.mem_of_getElem? (i := 70) rfl)) (hw _ (List.mem_of_getElem? (i := 32) rfl)) (by decide) (by decide)) q179a q179c (g := (mkF m 125 #[.val (.int p0), .val (.int p1), .val (.ref b3), .val (.ref b33), .val (.ref b68), .val (.ref b101), .val (.ref b1_144), .val (.ref ba15_144)] [(.ref b1_144), (.ref b68)])) rfl (by rw [hml]; rfl) (Steps.refl _) (argsL := []) (rest := [(.ref b68)]) (lenOf own_pd8 rfl) rfl (by show 2 * 0 + _ ≤ _; exact Nat.le_of_eq rfl) (hb hby at_125) (fun _ _ => ⟨rfl, e177, (by decide : 9 + 0 ≤ _), (by decide : 29 + 0 ≤ _)⟩)
      dsimp only [Pt.U, Pt.locs, Pt.cells, Pt.slots] at X179 l179 y179 z179 st179 hQ179
      subst l179 y179 z179
      obtain ⟨rfl, N179q, e179⟩ := hQ179
      have N180 := Fr.app N178 N179q
      obtain ⟨cq181, kq181, q181a, q181b, q181c⟩ := isOf hZ144 e179 f166
      obtain ⟨_, _, ⟨T181, L181, k181, n181⟩, -, X181, ⟨Lc181, hQ181, l181, y181, z181⟩, st181⟩ := X179.virtualBack hx (y := (⟨"java/lang/String", "equals", "(Ljava/lang/Object;)Z"⟩ : MethodName)) (z := (⟨"java/lang/String", "equals", "(Ljava/lang/Object;)Z"⟩ : MethodName)) hown144 (mvT hZ144 (hw _ (List.mem_of_getElem? (i := 71) rfl))) (mvT hZ144 (hw _ (List.mem_of_getElem? (i := 72) rfl))) (notFace_of_selects (args := #[]) (mvT hZ144 (hw _ (List.mem_of_getElem? (i := 74) rfl)))) (mvT hZ144 (hw _ (List.mem_of_getElem? (i := 74) rfl))) (mvT hZ144 (hw _ (List.mem_of_getElem? (i := 73) rfl))) (by decide) (backOf (W := 0) (own_rm12 l Z a0 hw [] b68 T144.heap n0 zs174 ) hZ144 (hw _ (List.mem_of_getElem? (i := 75) rfl)) (hw _ (List.mem_of_getElem? (i := 3) rfl)) (by decide) (by decide)) q181a q181c (g := (mkF m 128 #[.val (.int p0), .val (.int p1), .val (.ref b3), .val (.ref b33), .val (.ref b68), .val (.ref b101), .val (.ref b1_144), .val (.ref ba15_144)] [(.ref b68), (.ref b68)])) rfl (by rw [hml]; rfl) (Steps.refl _) (argsL := [(.ref b68)]) (rest := []) (lenOf own_pd9 rfl) rfl (by show 2 * 0 + _ ≤ _; exact Nat.le_of_eq rfl) (hb hby at_128) (fun _ _ => ⟨rfl, e179, (by decide : 9 + 0 ≤ _), (by decide : 29 + 0 ≤ _)⟩)
      dsimp only [Pt.U, Pt.locs, Pt.cells, Pt.slots] at X181 l181 y181 z181 st181 hQ181
      subst l181 y181 z181
      obtain ⟨rfl, N181q, e181⟩ := hQ181
      have N182 := Fr.app N180 N181q
      obtain ⟨cq183, kq183, q183a, q183b, q183c⟩ := isOf hZ144 e181 f145
      obtain ⟨_, _, ⟨T183, L183, k183, n183⟩, -, X183, ⟨Lc183, hQ183, l183, y183, z183⟩, st183⟩ := X181.virtualBack hx (y := (⟨"com/example/casewright/engine/TestResult", "methodName", "()Ljava/lang/String;"⟩ : MethodName)) (z := (⟨"com/example/casewright/engine/TestResult", "methodName", "()Ljava/lang/String;"⟩ : MethodName)) hown144 (mvT hZ144 (hw _ (List.mem_of_getElem? (i := 76) rfl))) (mvT hZ144 (hw _ (List.mem_of_getElem? (i := 77) rfl))) (notFace_of_selects (args := #[]) (mvT hZ144 (hw _ (List.mem_of_getElem? (i := 79) rfl)))) (mvT hZ144 (hw _ (List.mem_of_getElem? (i := 79) rfl))) (mvT hZ144 (hw _ (List.mem_of_getElem? (i := 78) rfl))) (by decide) (backOf (W := 1) (own_rm13 l Z a0 hw [] b1_144 b101 T144.heap n0 zs174 f147) hZ144 (hw _ (List.mem_of_getElem? (i := 80) rfl)) (hw _ (List.mem_of_getElem? (i := 32) rfl)) (by decide) (by decide)) q183a q183c (g := (mkF m 138 #[.val (.int p0), .val (.int p1), .val (.ref b3), .val (.ref b33), .val (.ref b68), .val (.ref b101), .val (.ref b1_144), .val (.ref ba15_144)] [(.ref b1_144), (.ref b101)])) rfl (by rw [hml]; rfl) (Steps.refl _) (argsL := []) (rest := [(.ref b101)]) (lenOf own_pd8 rfl) rfl (by show 2 * 0 + _ ≤ _; exact Nat.le_of_eq rfl) (hb hby at_138) (fun _ _ => ⟨rfl, e181, (by decide : 9 + 0 ≤ _), (by decide : 29 + 0 ≤ _)⟩)
      dsimp only [Pt.U, Pt.locs, Pt.cells, Pt.slots] at X183 l183 y183 z183 st183 hQ183
      subst l183 y183 z183
      obtain ⟨rfl, N183q, e183⟩ := hQ183
      have N184 := Fr.app N182 N183q
      obtain ⟨cq185, kq185, q185a, q185b, q185c⟩ := isOf hZ144 e183 f170
      obtain ⟨_, _, ⟨T185, L185, k185, n185⟩, -, X185, ⟨Lc185, hQ185, l185, y185, z185⟩, st185⟩ := X183.virtualBack hx (y := (⟨"java/lang/String", "equals", "(Ljava/lang/Object;)Z"⟩ : MethodName)) (z := (⟨"java/lang/String", "equals", "(Ljava/lang/Object;)Z"⟩ : MethodName)) hown144 (mvT hZ144 (hw _ (List.mem_of_getElem? (i := 71) rfl))) (mvT hZ144 (hw _ (List.mem_of_getElem? (i := 72) rfl))) (notFace_of_selects (args := #[]) (mvT hZ144 (hw _ (List.mem_of_getElem? (i := 74) rfl)))) (mvT hZ144 (hw _ (List.mem_of_getElem? (i := 74) rfl))) (mvT hZ144 (hw _ (List.mem_of_getElem? (i := 73) rfl))) (by decide) (backOf (W := 0) (own_rm12 l Z a0 hw [] b101 T144.heap n0 zs174 ) hZ144 (hw _ (List.mem_of_getElem? (i := 75) rfl)) (hw _ (List.mem_of_getElem? (i := 3) rfl)) (by decide) (by decide)) q185a q185c (g := (mkF m 141 #[.val (.int p0), .val (.int p1), .val (.ref b3), .val (.ref b33), .val (.ref b68), .val (.ref b101), .val (.ref b1_144), .val (.ref ba15_144)] [(.ref b101), (.ref b101)])) rfl (by rw [hml]; rfl) (Steps.refl _) (argsL := [(.ref b101)]) (rest := []) (lenOf own_pd9 rfl) rfl (by show 2 * 0 + _ ≤ _; exact Nat.le_of_eq rfl) (hb hby at_141) (fun _ _ => ⟨rfl, e183, (by decide : 9 + 0 ≤ _), (by decide : 29 + 0 ≤ _)⟩)
      dsimp only [Pt.U, Pt.locs, Pt.cells, Pt.slots] at X185 l185 y185 z185 st185 hQ185
      subst l185 y185 z185
      obtain ⟨rfl, N185q, e185⟩ := hQ185
      have N186 := Fr.app N184 N185q
      obtain ⟨cq187, kq187, q187a, q187b, q187c⟩ := isOf hZ144 e185 f145
      obtain ⟨_, _, ⟨T187, L187, k187, n187⟩, -, X187, ⟨Lc187, hQ187, l187, y187, z187⟩, st187⟩ := X185.virtualBack hx (y := (⟨"com/example/casewright/engine/TestResult", "status", "()Lcom/example/casewright/engine/TestResult$Status;"⟩ : MethodName)) (z := (⟨"com/example/casewright/engine/TestResult", "status", "()Lcom/example/casewright/engine/TestResult$Status;"⟩ : MethodName)) hown144 (mvT hZ144 (hw _ (List.mem_of_getElem? (i := 81) rfl))) (mvT hZ144 (hw _ (List.mem_of_getElem? (i := 82) rfl))) (notFace_of_selects (args := #[]) (mvT hZ144 (hw _ (List.mem_of_getElem? (i := 84) rfl)))) (mvT hZ144 (hw _ (List.mem_of_getElem? (i := 84) rfl))) (mvT hZ144 (hw _ (List.mem_of_getElem? (i := 83) rfl))) (by decide) (backOf (W := 0) (own_rm14 l Z a0 hw [] b1_144 z_PA T144.heap n0 zs174 f148) hZ144 (hw _ (List.mem_of_getElem? (i := 85) rfl)) (hw _ (List.mem_of_getElem? (i := 32) rfl)) (by decide) (by decide)) q187a q187c (g := (mkF m 149 #[.val (.int p0), .val (.int p1), .val (.ref b3), .val (.ref b33), .val (.ref b68), .val (.ref b101), .val (.ref b1_144), .val (.ref ba15_144)] [(.ref b1_144)])) rfl (by rw [hml]; rfl) (Steps.refl _) (argsL := []) (rest := []) (lenOf own_pd10 rfl) rfl (by show 2 * 0 + _ ≤ _; exact Nat.le_of_eq rfl) (hb hby at_149) (fun _ _ => ⟨rfl, e185, (by decide : 9 + 0 ≤ _), (by decide : 29 + 0 ≤ _)⟩)
      dsimp only [Pt.U, Pt.locs, Pt.cells, Pt.slots] at X187 l187 y187 z187 st187 hQ187
      subst l187 y187 z187
      obtain ⟨rfl, N187q, e187⟩ := hQ187
      have N188 := Fr.app N186 N187q
      obtain ⟨T189, X189, e189, st189⟩ := getS2 X187 hx hZ144 hown144 (host := "") (Or.inl (hw _ (List.mem_of_getElem? (i := 86) rfl))) Via.refl e187 f163 (g := (mkF m 152 #[.val (.int p0), .val (.int p1), .val (.ref b3), .val (.ref b33), .val (.ref b68), .val (.ref b101), .val (.ref b1_144), .val (.ref ba15_144)] [(.ref z_PA)])) rfl (hb hby at_152)
      obtain ⟨cq190, kq190, q190a, q190b, q190c⟩ := isOf hZ144 e189 f145
      obtain ⟨_, _, ⟨T190, L190, k190, n190⟩, -, X190, ⟨Lc190, hQ190, l190, y190, z190⟩, st190⟩ := X189.virtualBack hx (y := (⟨"com/example/casewright/engine/TestResult", "problem", "()Ljava/lang/Throwable;"⟩ : MethodName)) (z := (⟨"com/example/casewright/engine/TestResult", "problem", "()Ljava/lang/Throwable;"⟩ : MethodName)) hown144 (mvT hZ144 (hw _ (List.mem_of_getElem? (i := 87) rfl))) (mvT hZ144 (hw _ (List.mem_of_getElem? (i := 88) rfl))) (notFace_of_selects (args := #[]) (mvT hZ144 (hw _ (List.mem_of_getElem? (i := 90) rfl)))) (mvT hZ144 (hw _ (List.mem_of_getElem? (i := 90) rfl))) (mvT hZ144 (hw _ (List.mem_of_getElem? (i := 89) rfl))) (by decide) (backOf (W := 0) (own_rm15 l Z a0 hw [] b1_144 T144.heap n0 zs174 f149) hZ144 (hw _ (List.mem_of_getElem? (i := 91) rfl)) (hw _ (List.mem_of_getElem? (i := 32) rfl)) (by decide) (by decide)) q190a q190c (g := (mkF m 160 #[.val (.int p0), .val (.int p1), .val (.ref b3), .val (.ref b33), .val (.ref b68), .val (.ref b101), .val (.ref b1_144), .val (.ref ba15_144)] [(.ref b1_144)])) rfl (by rw [hml]; rfl) (Steps.refl _) (argsL := []) (rest := []) (lenOf own_pd11 rfl) rfl (by show 2 * 0 + _ ≤ _; exact Nat.le_of_eq rfl) (hb hby at_160) (fun _ _ => ⟨rfl, e189, (by decide : 9 + 0 ≤ _), (by decide : 29 + 0 ≤ _)⟩)
      dsimp only [Pt.U, Pt.locs, Pt.cells, Pt.slots] at X190 l190 y190 z190 st190 hQ190
      subst l190 y190 z190
      obtain ⟨rfl, N190q, e190⟩ := hQ190
      have N191 := Fr.app N188 N190q
      obtain ⟨cq192, kq192, q192a, q192b, q192c⟩ := isOf hZ144 e190 f151
      obtain ⟨_, _, ⟨T192, L192, k192, n192⟩, -, X192, ⟨Lc192, hQ192, l192, y192, z192⟩, st192⟩ := X190.virtualBack hx (y := (⟨"java/lang/String", "isEmpty", "()Z"⟩ : MethodName)) (z := (⟨"java/lang/String", "isEmpty", "()Z"⟩ : MethodName)) hown144 (mvT hZ144 (hw _ (List.mem_of_getElem? (i := 92) rfl))) (mvT hZ144 (hw _ (List.mem_of_getElem? (i := 93) rfl))) (notFace_of_selects (args := #[]) (mvT hZ144 (hw _ (List.mem_of_getElem? (i := 95) rfl)))) (mvT hZ144 (hw _ (List.mem_of_getElem? (i := 95) rfl))) (mvT hZ144 (hw _ (List.mem_of_getElem? (i := 94) rfl))) (by decide) (backOf (W := 0) (own_rm16 l Z a0 hw [] ba15_144 bb15_144 kc15_144 (0 : Int32) [] T144.heap n0 zs174 f153 f154) hZ144 (hw _ (List.mem_of_getElem? (i := 96) rfl)) (hw _ (List.mem_of_getElem? (i := 3) rfl)) (by decide) (by decide)) q192a q192c (g := (mkF m 173 #[.val (.int p0), .val (.int p1), .val (.ref b3), .val (.ref b33), .val (.ref b68), .val (.ref b101), .val (.ref b1_144), .val (.ref ba15_144)] [(.ref ba15_144)])) rfl (by rw [hml]; rfl) (Steps.refl _) (argsL := []) (rest := []) (lenOf own_pd12 rfl) rfl (by show 2 * 0 + _ ≤ _; exact Nat.le_of_eq rfl) (hb hby at_173) (fun _ _ => ⟨rfl, e190, (by decide : 9 + 0 ≤ _), (by decide : 29 + 0 ≤ _)⟩)
      dsimp only [Pt.U, Pt.locs, Pt.cells, Pt.slots] at X192 l192 y192 z192 st192 hQ192
      subst l192 y192 z192
      obtain ⟨rfl, N192q, e192⟩ := hQ192
      have N193 := Fr.app N191 N192q
      have pre194 : ∀ t, Steps p.tables e below (T192.setTop (mkF m 176 #[.val (.int p0), .val (.int p1), .val (.ref b3), .val (.ref b33), .val (.ref b68), .val (.ref b101), .val (.ref b1_144), .val (.ref ba15_144)] [(.int (own_f16 (0 : Int32)))])) t → Steps p.tables e below (s₁.setTop (entryFrame m #[(.int p0), (.int p1)] maxLocals)) t := fun t k => pre99 t (by
          refine XS.ifYes X82.here hx rfl (pc0 := 80) (pc' := 88) rfl (hb hby at_80) rfl ((if0 _ _).trans (teq hc100).1) (by decide) (by decide) ?_
          show Steps p.tables e below (T82.setTop (mkF m 88 #[.val (.int p0), .val (.int p1), .val (.ref b3), .val (.ref b33), .val (.ref b68), .unset, .unset, .unset] [])) _
          refine st101 _ ?_
          show Steps p.tables e below (T101.setTop (mkF m 91 #[.val (.int p0), .val (.int p1), .val (.ref b3), .val (.ref b33), .val (.ref b68), .unset, .unset, .unset] [(.ref b101)])) _
          refine XS.dup X101.here hx rfl (hb hby at_91) rfl rfl ?_
          show Steps p.tables e below (T101.setTop (mkF m 92 #[.val (.int p0), .val (.int p1), .val (.ref b3), .val (.ref b33), .val (.ref b68), .unset, .unset, .unset] [(.ref b101), (.ref b101)])) _
          refine XS.aloadN X101.here hx rfl (hb hby at_92) rfl rfl ?_
          show Steps p.tables e below (T101.setTop (mkF m 93 #[.val (.int p0), .val (.int p1), .val (.ref b3), .val (.ref b33), .val (.ref b68), .unset, .unset, .unset] [(.ref b33), (.ref b101), (.ref b101)])) _
          refine st121.trans ?_
          show Steps p.tables e below (T121.setTop (mkF m 96 #[.val (.int p0), .val (.int p1), .val (.ref b3), .val (.ref b33), .val (.ref b68), .unset, .unset, .unset] [(.ref b101)])) _
          refine XS.astore X121.here hx rfl (hb hby at_96) rfl rfl (l' := #[.val (.int p0), .val (.int p1), .val (.ref b3), .val (.ref b33), .val (.ref b68), .val (.ref b101), .unset, .unset]) rfl ?_
          show Steps p.tables e below (T121.setTop (mkF m 98 #[.val (.int p0), .val (.int p1), .val (.ref b3), .val (.ref b33), .val (.ref b68), .val (.ref b101), .unset, .unset] [])) _
          refine XS.aload X121.here hx rfl (hb hby at_98) rfl rfl ?_
          show Steps p.tables e below (T121.setTop (mkF m 100 #[.val (.int p0), .val (.int p1), .val (.ref b3), .val (.ref b33), .val (.ref b68), .val (.ref b101), .unset, .unset] [(.ref b68)])) _
          refine XS.aload X121.here hx rfl (hb hby at_100) rfl rfl ?_
          show Steps p.tables e below (T121.setTop (mkF m 102 #[.val (.int p0), .val (.int p1), .val (.ref b3), .val (.ref b33), .val (.ref b68), .val (.ref b101), .unset, .unset] [(.ref b101), (.ref b68)])) _
          refine st144.trans ?_
          show Steps p.tables e below (T144.setTop (mkF m 105 #[.val (.int p0), .val (.int p1), .val (.ref b3), .val (.ref b33), .val (.ref b68), .val (.ref b101), .unset, .unset] [(.ref b1_144)])) _
          refine XS.astore X144r.here hx rfl (hb hby at_105) rfl rfl (l' := #[.val (.int p0), .val (.int p1), .val (.ref b3), .val (.ref b33), .val (.ref b68), .val (.ref b101), .val (.ref b1_144), .unset]) rfl ?_
          show Steps p.tables e below (T144.setTop (mkF m 107 #[.val (.int p0), .val (.int p1), .val (.ref b3), .val (.ref b33), .val (.ref b68), .val (.ref b101), .val (.ref b1_144), .unset] [])) _
          refine XS.aload X144r.here hx rfl (hb hby at_107) rfl rfl ?_
          show Steps p.tables e below (T144.setTop (mkF m 109 #[.val (.int p0), .val (.int p1), .val (.ref b3), .val (.ref b33), .val (.ref b68), .val (.ref b101), .val (.ref b1_144), .unset] [(.ref b1_144)])) _
          refine XS.ifnonnullYes X144r.here hx rfl (pc0 := 109) (pc' := 114) rfl (hb hby at_109) rfl (by decide) (by decide) ?_
          show Steps p.tables e below (T144.setTop (mkF m 114 #[.val (.int p0), .val (.int p1), .val (.ref b3), .val (.ref b33), .val (.ref b68), .val (.ref b101), .val (.ref b1_144), .unset] [])) _
          refine XS.aload X144r.here hx rfl (hb hby at_114) rfl rfl ?_
          show Steps p.tables e below (T144.setTop (mkF m 116 #[.val (.int p0), .val (.int p1), .val (.ref b3), .val (.ref b33), .val (.ref b68), .val (.ref b101), .val (.ref b1_144), .unset] [(.ref b1_144)])) _
          refine st177.trans ?_
          show Steps p.tables e below (T177.setTop (mkF m 119 #[.val (.int p0), .val (.int p1), .val (.ref b3), .val (.ref b33), .val (.ref b68), .val (.ref b101), .val (.ref b1_144), .unset] [(.ref ba15_144)])) _
          refine XS.astore X177.here hx rfl (hb hby at_119) rfl rfl (l' := #[.val (.int p0), .val (.int p1), .val (.ref b3), .val (.ref b33), .val (.ref b68), .val (.ref b101), .val (.ref b1_144), .val (.ref ba15_144)]) rfl ?_
          show Steps p.tables e below (T177.setTop (mkF m 121 #[.val (.int p0), .val (.int p1), .val (.ref b3), .val (.ref b33), .val (.ref b68), .val (.ref b101), .val (.ref b1_144), .val (.ref ba15_144)] [])) _
          refine XS.aload X177.here hx rfl (hb hby at_121) rfl rfl ?_
          show Steps p.tables e below (T177.setTop (mkF m 123 #[.val (.int p0), .val (.int p1), .val (.ref b3), .val (.ref b33), .val (.ref b68), .val (.ref b101), .val (.ref b1_144), .val (.ref ba15_144)] [(.ref b68)])) _
          refine XS.aload X177.here hx rfl (hb hby at_123) rfl rfl ?_
          show Steps p.tables e below (T177.setTop (mkF m 125 #[.val (.int p0), .val (.int p1), .val (.ref b3), .val (.ref b33), .val (.ref b68), .val (.ref b101), .val (.ref b1_144), .val (.ref ba15_144)] [(.ref b1_144), (.ref b68)])) _
          refine st179.trans ?_
          show Steps p.tables e below (T179.setTop (mkF m 128 #[.val (.int p0), .val (.int p1), .val (.ref b3), .val (.ref b33), .val (.ref b68), .val (.ref b101), .val (.ref b1_144), .val (.ref ba15_144)] [(.ref b68), (.ref b68)])) _
          refine st181.trans ?_
          show Steps p.tables e below (T181.setTop (mkF m 131 #[.val (.int p0), .val (.int p1), .val (.ref b3), .val (.ref b33), .val (.ref b68), .val (.ref b101), .val (.ref b1_144), .val (.ref ba15_144)] [(.int (1 : Int32))])) _
          refine XS.ifNo X181.here hx rfl (hb hby at_131) rfl ((if0 _ _).trans (feq (by decide : ¬ ((1 : Int32) = (0 : Int32)))).1) ?_
          show Steps p.tables e below (T181.setTop (mkF m 134 #[.val (.int p0), .val (.int p1), .val (.ref b3), .val (.ref b33), .val (.ref b68), .val (.ref b101), .val (.ref b1_144), .val (.ref ba15_144)] [])) _
          refine XS.aload X181.here hx rfl (hb hby at_134) rfl rfl ?_
          show Steps p.tables e below (T181.setTop (mkF m 136 #[.val (.int p0), .val (.int p1), .val (.ref b3), .val (.ref b33), .val (.ref b68), .val (.ref b101), .val (.ref b1_144), .val (.ref ba15_144)] [(.ref b101)])) _
          refine XS.aload X181.here hx rfl (hb hby at_136) rfl rfl ?_
          show Steps p.tables e below (T181.setTop (mkF m 138 #[.val (.int p0), .val (.int p1), .val (.ref b3), .val (.ref b33), .val (.ref b68), .val (.ref b101), .val (.ref b1_144), .val (.ref ba15_144)] [(.ref b1_144), (.ref b101)])) _
          refine st183.trans ?_
          show Steps p.tables e below (T183.setTop (mkF m 141 #[.val (.int p0), .val (.int p1), .val (.ref b3), .val (.ref b33), .val (.ref b68), .val (.ref b101), .val (.ref b1_144), .val (.ref ba15_144)] [(.ref b101), (.ref b101)])) _
          refine st185.trans ?_
          show Steps p.tables e below (T185.setTop (mkF m 144 #[.val (.int p0), .val (.int p1), .val (.ref b3), .val (.ref b33), .val (.ref b68), .val (.ref b101), .val (.ref b1_144), .val (.ref ba15_144)] [(.int (1 : Int32))])) _
          refine XS.ifNo X185.here hx rfl (hb hby at_144) rfl ((if0 _ _).trans (feq (by decide : ¬ ((1 : Int32) = (0 : Int32)))).1) ?_
          show Steps p.tables e below (T185.setTop (mkF m 147 #[.val (.int p0), .val (.int p1), .val (.ref b3), .val (.ref b33), .val (.ref b68), .val (.ref b101), .val (.ref b1_144), .val (.ref ba15_144)] [])) _
          refine XS.aload X185.here hx rfl (hb hby at_147) rfl rfl ?_
          show Steps p.tables e below (T185.setTop (mkF m 149 #[.val (.int p0), .val (.int p1), .val (.ref b3), .val (.ref b33), .val (.ref b68), .val (.ref b101), .val (.ref b1_144), .val (.ref ba15_144)] [(.ref b1_144)])) _
          refine st187.trans ?_
          show Steps p.tables e below (T187.setTop (mkF m 152 #[.val (.int p0), .val (.int p1), .val (.ref b3), .val (.ref b33), .val (.ref b68), .val (.ref b101), .val (.ref b1_144), .val (.ref ba15_144)] [(.ref z_PA)])) _
          refine st189 _ ?_
          show Steps p.tables e below (T189.setTop (mkF m 155 #[.val (.int p0), .val (.int p1), .val (.ref b3), .val (.ref b33), .val (.ref b68), .val (.ref b101), .val (.ref b1_144), .val (.ref ba15_144)] [(.ref z_PA), (.ref z_PA)])) _
          refine Jvm.RoadKit.acmp (g := (mkF m 155 #[.val (.int p0), .val (.int p1), .val (.ref b3), .val (.ref b33), .val (.ref b68), .val (.ref b101), .val (.ref b1_144), .val (.ref ba15_144)] [(.ref z_PA), (.ref z_PA)])) X189 hx rfl rfl rfl (pc0 := 155) (pc' := 158) (same := true) rfl (hb hby at_155) rfl (decide_eq_true rfl) (by decide) (by decide) ?_
          show Steps p.tables e below (T189.setTop (mkF m 158 #[.val (.int p0), .val (.int p1), .val (.ref b3), .val (.ref b33), .val (.ref b68), .val (.ref b101), .val (.ref b1_144), .val (.ref ba15_144)] [])) _
          refine XS.aload X189.here hx rfl (hb hby at_158) rfl rfl ?_
          show Steps p.tables e below (T189.setTop (mkF m 160 #[.val (.int p0), .val (.int p1), .val (.ref b3), .val (.ref b33), .val (.ref b68), .val (.ref b101), .val (.ref b1_144), .val (.ref ba15_144)] [(.ref b1_144)])) _
          refine st190.trans ?_
          show Steps p.tables e below (T190.setTop (mkF m 163 #[.val (.int p0), .val (.int p1), .val (.ref b3), .val (.ref b33), .val (.ref b68), .val (.ref b101), .val (.ref b1_144), .val (.ref ba15_144)] [.null])) _
          refine XS.ifnonnullNo X190.here hx rfl (hb hby at_163) rfl ?_
          show Steps p.tables e below (T190.setTop (mkF m 166 #[.val (.int p0), .val (.int p1), .val (.ref b3), .val (.ref b33), .val (.ref b68), .val (.ref b101), .val (.ref b1_144), .val (.ref ba15_144)] [])) _
          refine XS.aload X190.here hx rfl (hb hby at_166) rfl rfl ?_
          show Steps p.tables e below (T190.setTop (mkF m 168 #[.val (.int p0), .val (.int p1), .val (.ref b3), .val (.ref b33), .val (.ref b68), .val (.ref b101), .val (.ref b1_144), .val (.ref ba15_144)] [(.ref ba15_144)])) _
          refine XS.ifnullNo X190.here hx rfl (hb hby at_168) rfl ?_
          show Steps p.tables e below (T190.setTop (mkF m 171 #[.val (.int p0), .val (.int p1), .val (.ref b3), .val (.ref b33), .val (.ref b68), .val (.ref b101), .val (.ref b1_144), .val (.ref ba15_144)] [])) _
          refine XS.aload X190.here hx rfl (hb hby at_171) rfl rfl ?_
          show Steps p.tables e below (T190.setTop (mkF m 173 #[.val (.int p0), .val (.int p1), .val (.ref b3), .val (.ref b33), .val (.ref b68), .val (.ref b101), .val (.ref b1_144), .val (.ref ba15_144)] [(.ref ba15_144)])) _
          refine st192.trans ?_
          show Steps p.tables e below (T192.setTop (mkF m 176 #[.val (.int p0), .val (.int p1), .val (.ref b3), .val (.ref b33), .val (.ref b68), .val (.ref b101), .val (.ref b1_144), .val (.ref ba15_144)] [(.int (own_f16 (0 : Int32)))])) _
          exact k)
      by_cases hc195 : (own_f16 (0 : Int32)) = (0 : Int32)
      · have pre196 : ∀ t, Steps p.tables e below (T192.setTop (mkF m 184 #[.val (.int p0), .val (.int p1), .val (.ref b3), .val (.ref b33), .val (.ref b68), .val (.ref b101), .val (.ref b1_144), .val (.ref ba15_144)] [(.int (0 : Int32))])) t → Steps p.tables e below (s₁.setTop (entryFrame m #[(.int p0), (.int p1)] maxLocals)) t := fun t k => pre194 t (by
            refine XS.ifYes X192.here hx rfl (pc0 := 176) (pc' := 183) rfl (hb hby at_176) rfl ((if0 _ _).trans (teq hc195).1) (by decide) (by decide) ?_
            show Steps p.tables e below (T192.setTop (mkF m 183 #[.val (.int p0), .val (.int p1), .val (.ref b3), .val (.ref b33), .val (.ref b68), .val (.ref b101), .val (.ref b1_144), .val (.ref ba15_144)] [])) _
            refine XS.iconst X192.here hx rfl (hb hby at_183) ?_
            show Steps p.tables e below (T192.setTop (mkF m 184 #[.val (.int p0), .val (.int p1), .val (.ref b3), .val (.ref b33), .val (.ref b68), .val (.ref b101), .val (.ref b1_144), .val (.ref ba15_144)] [(.int (0 : Int32))])) _
            exact k)
        obtain ⟨fs, hr, hrun, hended, hEnd⟩ := X192.leaveW (s := s) (vm₁ := T144.vm) hS144 (by rw [e192]; exact (Nat.le_refl _)) (v := some (.int (0 : Int32))) (fun h => by rw [Bd.returns] at h; cases h) (hlocks := hlk)
        refine ⟨_, _, pre196 _ ?_, hrun, hended, _, _, rfl, ?_, hEnd.1, hEnd.2.1, hEnd.2.2.1, hEnd.2.2.2.mono (by decide) (by decide)⟩
        · show Steps p.tables e below (T192.setTop (mkF m 184 #[.val (.int p0), .val (.int p1), .val (.ref b3), .val (.ref b33), .val (.ref b68), .val (.ref b101), .val (.ref b1_144), .val (.ref ba15_144)] [(.int (0 : Int32))])) _
          exact retN X192 hx (t := .boolean) Bd.returns (by simp) (hb hby at_184) hr
        · show own_Q0 Z p0 p1 z_COMPACT_STRINGS z_PA h0 n0 _ T192.heap _; exact ⟨(by show some (Value.int _) = some (.int (own_f0 p0 p1)); unfold own_f0; rw [if_pos hc67, if_pos hc100, if_pos hc195]), N193⟩
      · have pre197 : ∀ t, Steps p.tables e below (T192.setTop (mkF m 184 #[.val (.int p0), .val (.int p1), .val (.ref b3), .val (.ref b33), .val (.ref b68), .val (.ref b101), .val (.ref b1_144), .val (.ref ba15_144)] [(.int (1 : Int32))])) t → Steps p.tables e below (s₁.setTop (entryFrame m #[(.int p0), (.int p1)] maxLocals)) t := fun t k => pre194 t (by
            refine XS.ifNo X192.here hx rfl (hb hby at_176) rfl ((if0 _ _).trans (feq hc195).1) ?_
            show Steps p.tables e below (T192.setTop (mkF m 179 #[.val (.int p0), .val (.int p1), .val (.ref b3), .val (.ref b33), .val (.ref b68), .val (.ref b101), .val (.ref b1_144), .val (.ref ba15_144)] [])) _
            refine XS.iconst X192.here hx rfl (hb hby at_179) ?_
            show Steps p.tables e below (T192.setTop (mkF m 180 #[.val (.int p0), .val (.int p1), .val (.ref b3), .val (.ref b33), .val (.ref b68), .val (.ref b101), .val (.ref b1_144), .val (.ref ba15_144)] [(.int (1 : Int32))])) _
            refine XS.goto X192.here hx rfl (pc0 := 180) (pc' := 184) rfl (hb hby at_180) (by decide) (by decide) ?_
            show Steps p.tables e below (T192.setTop (mkF m 184 #[.val (.int p0), .val (.int p1), .val (.ref b3), .val (.ref b33), .val (.ref b68), .val (.ref b101), .val (.ref b1_144), .val (.ref ba15_144)] [(.int (1 : Int32))])) _
            exact k)
        obtain ⟨fs, hr, hrun, hended, hEnd⟩ := X192.leaveW (s := s) (vm₁ := T144.vm) hS144 (by rw [e192]; exact (Nat.le_refl _)) (v := some (.int (1 : Int32))) (fun h => by rw [Bd.returns] at h; cases h) (hlocks := hlk)
        refine ⟨_, _, pre197 _ ?_, hrun, hended, _, _, rfl, ?_, hEnd.1, hEnd.2.1, hEnd.2.2.1, hEnd.2.2.2.mono (by decide) (by decide)⟩
        · show Steps p.tables e below (T192.setTop (mkF m 184 #[.val (.int p0), .val (.int p1), .val (.ref b3), .val (.ref b33), .val (.ref b68), .val (.ref b101), .val (.ref b1_144), .val (.ref ba15_144)] [(.int (1 : Int32))])) _
          exact retN X192 hx (t := .boolean) Bd.returns (by simp) (hb hby at_184) hr
        · show own_Q0 Z p0 p1 z_COMPACT_STRINGS z_PA h0 n0 _ T192.heap _; exact ⟨(by show some (Value.int _) = some (.int (own_f0 p0 p1)); unfold own_f0; rw [if_pos hc67, if_pos hc100, if_neg hc195]), N193⟩
    · obtain ⟨ba198, T198, h198, k1198, bb198, kc198, X198, e198, E198, hS198, kk198, hZ198, hown198, fa198, fb198, fc198, fd198, -, -, hC198, -, -, st198⟩ := ldcCH (s := s) (vm0 := s.vm) X82 hx hZ hown (hw _ (List.mem_of_getElem? (i := 97) rfl)) (own_wS Z a0 hw) rfl hS0 (Nat.zero_le _) (own_EW Z a0 hw) (List.mem_of_getElem? (i := 1) rfl) C90 (vs := []) (z := (0 : Int32)) ⟨by decide, by decide⟩ (by decide) (by decide) (g := (mkF m 83 #[.val (.int p0), .val (.int p1), .val (.ref b3), .val (.ref b33), .val (.ref b68), .unset, .unset, .unset] [])) rfl (hb hby at_83) (n := 4) (by decide) (by decide) (by decide) (by decide)
      have f199 : Old Z n0 h198 := f91.ext E198
      have f200 : Sta Z h198 "java/lang/String" "COMPACT_STRINGS" "Z" (.int z_COMPACT_STRINGS) := f92.ext E198
      have f201 : Sta Z h198 "com/example/casewright/engine/TestResult$Status" "PASSED" "Lcom/example/casewright/engine/TestResult$Status;" (.ref z_PA) := f93.ext E198
      have f202 : Arv Z h198 b3 k3 .char (2 : Int32) [(.int (nar .char ((p0 &&& (255 : Int32)).toUInt32.toUInt16.toUInt32.toInt32))), (.int (nar .char ((((p0.toUInt32 >>> ((8 : Int32) &&& 31).toUInt32).toInt32) &&& (255 : Int32)).toUInt32.toUInt16.toUInt32.toInt32)))] (.int (0 : Int32)) := f94.ext E198
      have f203 : Arv Z h198 b33 k33 .char (2 : Int32) [(.int (nar .char ((p1 &&& (255 : Int32)).toUInt32.toUInt16.toUInt32.toInt32))), (.int (nar .char ((((p1.toUInt32 >>> ((8 : Int32) &&& 31).toUInt32).toInt32) &&& (255 : Int32)).toUInt32.toUInt16.toUInt32.toInt32)))] (.int (0 : Int32)) := f95.ext E198
      have f204 : Exa Z h198 b68 "java/lang/String" := f83.ext E198
      have f205 : Fld Z h198 b68 "java/lang/String" "coder" "B" (.int (0 : Int32)) := f84.ext E198
      have f206 : Fld Z h198 b68 "java/lang/String" "value" "[B" (.ref b1_3_2_82) := f85.ext E198
      have f207 : Arv Z h198 b1_3_2_82 k1_3_2_82 .byte (2 : Int32) [(.int (nar .byte ((nar .char ((p0 &&& (255 : Int32)).toUInt32.toUInt16.toUInt32.toInt32)).toInt8.toInt32))), (.int (nar .byte ((nar .char ((((p0.toUInt32 >>> ((8 : Int32) &&& 31).toUInt32).toInt32) &&& (255 : Int32)).toUInt32.toUInt16.toUInt32.toInt32)).toInt8.toInt32)))] (.int (0 : Int32)) := f86.ext E198
      have zs208 : n0 ≤ h198.size := Nat.le_trans zs96 E198.1
      have K209 : Keep h0 h198 [] := K97.ext E198
      obtain ⟨_, _, ⟨T210, L210, k210, n210⟩, -, X210, hs210, hg210, ⟨Lc210, hQ210, l210, y210, z210⟩, st210⟩ := callSS (s := s.setVm T198.vm) X198 hx (y := (⟨"com/example/casewright/engine/TestResult", "passed", "(Ljava/lang/String;Ljava/lang/String;)Lcom/example/casewright/engine/TestResult;"⟩ : MethodName)) hown198 (mvT hZ198 (hw _ (List.mem_of_getElem? (i := 30) rfl))) (mvT hZ198 (hw _ (List.mem_of_getElem? (i := 31) rfl))) (mvT hZ198 (hw _ (List.mem_of_getElem? (i := 32) rfl))) (mvT hZ198 (hw _ (List.mem_of_getElem? (i := 33) rfl))) (by decide) (own_backJ (W := 0) (own_rm7 l Z a0 hw [] b68 ba198 z_PA h198 n0 zs208 f199 f201) hZ198 ⟨hZ198, ⟨a0, own_EW Z a0 hw⟩, hC198.1⟩ (hw _ (List.mem_of_getElem? (i := 33) rfl)) (hw _ (List.mem_of_getElem? (i := 32) rfl)) (by decide) (by decide)) (g := (mkF m 102 #[.val (.int p0), .val (.int p1), .val (.ref b3), .val (.ref b33), .val (.ref b68), .val (.ref ba198), .unset, .unset] [(.ref ba198), (.ref b68)])) rfl (by rw [hml]; rfl) (argsL := [(.ref b68), (.ref ba198)]) (rest := []) (lenOf own_pd7 rfl) rfl (by show 2 * 0 + _ ≤ _; exact Nat.le_of_eq rfl) (hb hby at_102) (fun _ _ => ⟨rfl, e198, (by decide : 6 + 3 ≤ _), (by decide : 18 + 13 ≤ _)⟩)
      dsimp only [Pt.U, Pt.locs, Pt.cells, Pt.slots] at X210 l210 y210 z210 st210 hQ210 hs210 hg210
      subst l210 y210 z210
      obtain ⟨X210r, hS210, hZ210, hown210⟩ := rebS (s := s) (vm0 := T198.vm) hS198 (by rw [e198]; exact kk198) X210 hs210 hg210 hZ198 hown198
      obtain ⟨b1_210, kc15_210, ba15_210, bb15_210, rfl, N210q, K210, sqb1_210_210, f211, f212, f213, f214, f215, f216, f217, f218, f219, f220, J210⟩ := hQ210
      have g_b1_210 : n0 ≤ b1_210 := Nat.le_trans zs208 sqb1_210_210
      have sz_b1_210 : h0.size ≤ b1_210 := Nat.le_trans K209.1 sqb1_210_210
      have lt221 : b3 < b1_210 := Nat.lt_of_lt_of_le f202.lt sqb1_210_210
      have lt222 : b33 < b1_210 := Nat.lt_of_lt_of_le f203.lt sqb1_210_210
      have lt223 : b68 < b1_210 := Nat.lt_of_lt_of_le f206.lt sqb1_210_210
      have lt224 : b1_3_2_82 < b1_210 := Nat.lt_of_lt_of_le f207.lt sqb1_210_210
      have lt225 : ba198 < b1_210 := Nat.lt_of_lt_of_le fc198.lt sqb1_210_210
      have lt226 : bb198 < b1_210 := Nat.lt_of_lt_of_le fd198.lt sqb1_210_210
      have f227 : Old Z n0 T210.heap := f199.keep K210 all0
      have f228 : Sta Z T210.heap "java/lang/String" "COMPACT_STRINGS" "Z" (.int z_COMPACT_STRINGS) := (sb1.ext f227.2)
      have f229 : Sta Z T210.heap "com/example/casewright/engine/TestResult$Status" "PASSED" "Lcom/example/casewright/engine/TestResult$Status;" (.ref z_PA) := (sb2.ext f227.2)
      have f230 : Arv Z T210.heap b3 k3 .char (2 : Int32) [(.int (nar .char ((p0 &&& (255 : Int32)).toUInt32.toUInt16.toUInt32.toInt32))), (.int (nar .char ((((p0.toUInt32 >>> ((8 : Int32) &&& 31).toUInt32).toInt32) &&& (255 : Int32)).toUInt32.toUInt16.toUInt32.toInt32)))] (.int (0 : Int32)) := f202.keep K210 nin0
      have f231 : Arv Z T210.heap b33 k33 .char (2 : Int32) [(.int (nar .char ((p1 &&& (255 : Int32)).toUInt32.toUInt16.toUInt32.toInt32))), (.int (nar .char ((((p1.toUInt32 >>> ((8 : Int32) &&& 31).toUInt32).toInt32) &&& (255 : Int32)).toUInt32.toUInt16.toUInt32.toInt32)))] (.int (0 : Int32)) := f203.keep K210 nin0
      have f232 : Exa Z T210.heap b68 "java/lang/String" := f204.keep K210
      have f233 : Fld Z T210.heap b68 "java/lang/String" "coder" "B" (.int (0 : Int32)) := f205.keep K210 nin0
      have f234 : Fld Z T210.heap b68 "java/lang/String" "value" "[B" (.ref b1_3_2_82) := f206.keep K210 nin0
      have f235 : Arv Z T210.heap b1_3_2_82 k1_3_2_82 .byte (2 : Int32) [(.int (nar .byte ((nar .char ((p0 &&& (255 : Int32)).toUInt32.toUInt16.toUInt32.toInt32)).toInt8.toInt32))), (.int (nar .byte ((nar .char ((((p0.toUInt32 >>> ((8 : Int32) &&& 31).toUInt32).toInt32) &&& (255 : Int32)).toUInt32.toUInt16.toUInt32.toInt32)).toInt8.toInt32)))] (.int (0 : Int32)) := f207.keep K210 nin0
      have f236 : Exa Z T210.heap ba198 "java/lang/String" := fa198.keep K210
      have f237 : Fld Z T210.heap ba198 "java/lang/String" "coder" "B" (.int (0 : Int32)) := fb198.keep K210 nin0
      have f238 : Fld Z T210.heap ba198 "java/lang/String" "value" "[B" (.ref bb198) := fc198.keep K210 nin0
      have f239 : Arv Z T210.heap bb198 kc198 .byte (0 : Int32) [] (.int (0 : Int32)) := fd198.keep K210 nin0
      have zs240 : n0 ≤ T210.heap.size := Nat.le_trans zs208 K210.1
      have K241 : Keep h0 T210.heap [] := K209.trans K210 all0
      have N242 := Fr.app N98 N210q
      obtain ⟨cq243, kq243, q243a, q243b, q243c⟩ := isOf hZ210 rfl f211
      obtain ⟨_, _, ⟨T243, L243, k243, n243⟩, -, X243, ⟨Lc243, hQ243, l243, y243, z243⟩, st243⟩ := X210r.virtualBack hx (y := (⟨"com/example/casewright/engine/TestResult", "skipReason", "()Ljava/lang/String;"⟩ : MethodName)) (z := (⟨"com/example/casewright/engine/TestResult", "skipReason", "()Ljava/lang/String;"⟩ : MethodName)) hown210 (mvT hZ210 (hw _ (List.mem_of_getElem? (i := 61) rfl))) (mvT hZ210 (hw _ (List.mem_of_getElem? (i := 62) rfl))) (notFace_of_selects (args := #[]) (mvT hZ210 (hw _ (List.mem_of_getElem? (i := 64) rfl)))) (mvT hZ210 (hw _ (List.mem_of_getElem? (i := 64) rfl))) (mvT hZ210 (hw _ (List.mem_of_getElem? (i := 63) rfl))) (by decide) (backOf (W := 0) (own_rm10 l Z a0 hw [] b1_210 ba15_210 T210.heap n0 zs240 f216) hZ210 (hw _ (List.mem_of_getElem? (i := 65) rfl)) (hw _ (List.mem_of_getElem? (i := 32) rfl)) (by decide) (by decide)) q243a q243c (g := (mkF m 116 #[.val (.int p0), .val (.int p1), .val (.ref b3), .val (.ref b33), .val (.ref b68), .val (.ref ba198), .val (.ref b1_210), .unset] [(.ref b1_210)])) rfl (by rw [hml]; rfl) (Steps.refl _) (argsL := []) (rest := []) (lenOf own_pd8 rfl) rfl (by show 2 * 0 + _ ≤ _; exact Nat.le_of_eq rfl) (hb hby at_116) (fun _ _ => ⟨rfl, rfl, (by decide : 9 + 0 ≤ _), (by decide : 31 + 0 ≤ _)⟩)
      dsimp only [Pt.U, Pt.locs, Pt.cells, Pt.slots] at X243 l243 y243 z243 st243 hQ243
      subst l243 y243 z243
      obtain ⟨rfl, N243q, e243⟩ := hQ243
      have N244 := Fr.app N242 N243q
      obtain ⟨cq245, kq245, q245a, q245b, q245c⟩ := isOf hZ210 e243 f211
      obtain ⟨_, _, ⟨T245, L245, k245, n245⟩, -, X245, ⟨Lc245, hQ245, l245, y245, z245⟩, st245⟩ := X243.virtualBack hx (y := (⟨"com/example/casewright/engine/TestResult", "className", "()Ljava/lang/String;"⟩ : MethodName)) (z := (⟨"com/example/casewright/engine/TestResult", "className", "()Ljava/lang/String;"⟩ : MethodName)) hown210 (mvT hZ210 (hw _ (List.mem_of_getElem? (i := 66) rfl))) (mvT hZ210 (hw _ (List.mem_of_getElem? (i := 67) rfl))) (notFace_of_selects (args := #[]) (mvT hZ210 (hw _ (List.mem_of_getElem? (i := 69) rfl)))) (mvT hZ210 (hw _ (List.mem_of_getElem? (i := 69) rfl))) (mvT hZ210 (hw _ (List.mem_of_getElem? (i := 68) rfl))) (by decide) (backOf (W := 1) (own_rm11 l Z a0 hw [] b1_210 b68 T210.heap n0 zs240 f212) hZ210 (hw _ (List.mem_of_getElem? (i := 70) rfl)) (hw _ (List.mem_of_getElem? (i := 32) rfl)) (by decide) (by decide)) q245a q245c (g := (mkF m 125 #[.val (.int p0), .val (.int p1), .val (.ref b3), .val (.ref b33), .val (.ref b68), .val (.ref ba198), .val (.ref b1_210), .val (.ref ba15_210)] [(.ref b1_210), (.ref b68)])) rfl (by rw [hml]; rfl) (Steps.refl _) (argsL := []) (rest := [(.ref b68)]) (lenOf own_pd8 rfl) rfl (by show 2 * 0 + _ ≤ _; exact Nat.le_of_eq rfl) (hb hby at_125) (fun _ _ => ⟨rfl, e243, (by decide : 9 + 0 ≤ _), (by decide : 31 + 0 ≤ _)⟩)
      dsimp only [Pt.U, Pt.locs, Pt.cells, Pt.slots] at X245 l245 y245 z245 st245 hQ245
      subst l245 y245 z245
      obtain ⟨rfl, N245q, e245⟩ := hQ245
      have N246 := Fr.app N244 N245q
      obtain ⟨cq247, kq247, q247a, q247b, q247c⟩ := isOf hZ210 e245 f232
      obtain ⟨_, _, ⟨T247, L247, k247, n247⟩, -, X247, ⟨Lc247, hQ247, l247, y247, z247⟩, st247⟩ := X245.virtualBack hx (y := (⟨"java/lang/String", "equals", "(Ljava/lang/Object;)Z"⟩ : MethodName)) (z := (⟨"java/lang/String", "equals", "(Ljava/lang/Object;)Z"⟩ : MethodName)) hown210 (mvT hZ210 (hw _ (List.mem_of_getElem? (i := 71) rfl))) (mvT hZ210 (hw _ (List.mem_of_getElem? (i := 72) rfl))) (notFace_of_selects (args := #[]) (mvT hZ210 (hw _ (List.mem_of_getElem? (i := 74) rfl)))) (mvT hZ210 (hw _ (List.mem_of_getElem? (i := 74) rfl))) (mvT hZ210 (hw _ (List.mem_of_getElem? (i := 73) rfl))) (by decide) (backOf (W := 0) (own_rm12 l Z a0 hw [] b68 T210.heap n0 zs240 ) hZ210 (hw _ (List.mem_of_getElem? (i := 75) rfl)) (hw _ (List.mem_of_getElem? (i := 3) rfl)) (by decide) (by decide)) q247a q247c (g := (mkF m 128 #[.val (.int p0), .val (.int p1), .val (.ref b3), .val (.ref b33), .val (.ref b68), .val (.ref ba198), .val (.ref b1_210), .val (.ref ba15_210)] [(.ref b68), (.ref b68)])) rfl (by rw [hml]; rfl) (Steps.refl _) (argsL := [(.ref b68)]) (rest := []) (lenOf own_pd9 rfl) rfl (by show 2 * 0 + _ ≤ _; exact Nat.le_of_eq rfl) (hb hby at_128) (fun _ _ => ⟨rfl, e245, (by decide : 9 + 0 ≤ _), (by decide : 31 + 0 ≤ _)⟩)
      dsimp only [Pt.U, Pt.locs, Pt.cells, Pt.slots] at X247 l247 y247 z247 st247 hQ247
      subst l247 y247 z247
      obtain ⟨rfl, N247q, e247⟩ := hQ247
      have N248 := Fr.app N246 N247q
      obtain ⟨cq249, kq249, q249a, q249b, q249c⟩ := isOf hZ210 e247 f211
      obtain ⟨_, _, ⟨T249, L249, k249, n249⟩, -, X249, ⟨Lc249, hQ249, l249, y249, z249⟩, st249⟩ := X247.virtualBack hx (y := (⟨"com/example/casewright/engine/TestResult", "methodName", "()Ljava/lang/String;"⟩ : MethodName)) (z := (⟨"com/example/casewright/engine/TestResult", "methodName", "()Ljava/lang/String;"⟩ : MethodName)) hown210 (mvT hZ210 (hw _ (List.mem_of_getElem? (i := 76) rfl))) (mvT hZ210 (hw _ (List.mem_of_getElem? (i := 77) rfl))) (notFace_of_selects (args := #[]) (mvT hZ210 (hw _ (List.mem_of_getElem? (i := 79) rfl)))) (mvT hZ210 (hw _ (List.mem_of_getElem? (i := 79) rfl))) (mvT hZ210 (hw _ (List.mem_of_getElem? (i := 78) rfl))) (by decide) (backOf (W := 1) (own_rm13 l Z a0 hw [] b1_210 ba198 T210.heap n0 zs240 f213) hZ210 (hw _ (List.mem_of_getElem? (i := 80) rfl)) (hw _ (List.mem_of_getElem? (i := 32) rfl)) (by decide) (by decide)) q249a q249c (g := (mkF m 138 #[.val (.int p0), .val (.int p1), .val (.ref b3), .val (.ref b33), .val (.ref b68), .val (.ref ba198), .val (.ref b1_210), .val (.ref ba15_210)] [(.ref b1_210), (.ref ba198)])) rfl (by rw [hml]; rfl) (Steps.refl _) (argsL := []) (rest := [(.ref ba198)]) (lenOf own_pd8 rfl) rfl (by show 2 * 0 + _ ≤ _; exact Nat.le_of_eq rfl) (hb hby at_138) (fun _ _ => ⟨rfl, e247, (by decide : 9 + 0 ≤ _), (by decide : 31 + 0 ≤ _)⟩)
      dsimp only [Pt.U, Pt.locs, Pt.cells, Pt.slots] at X249 l249 y249 z249 st249 hQ249
      subst l249 y249 z249
      obtain ⟨rfl, N249q, e249⟩ := hQ249
      have N250 := Fr.app N248 N249q
      obtain ⟨cq251, kq251, q251a, q251b, q251c⟩ := isOf hZ210 e249 f236
      obtain ⟨_, _, ⟨T251, L251, k251, n251⟩, -, X251, ⟨Lc251, hQ251, l251, y251, z251⟩, st251⟩ := X249.virtualBack hx (y := (⟨"java/lang/String", "equals", "(Ljava/lang/Object;)Z"⟩ : MethodName)) (z := (⟨"java/lang/String", "equals", "(Ljava/lang/Object;)Z"⟩ : MethodName)) hown210 (mvT hZ210 (hw _ (List.mem_of_getElem? (i := 71) rfl))) (mvT hZ210 (hw _ (List.mem_of_getElem? (i := 72) rfl))) (notFace_of_selects (args := #[]) (mvT hZ210 (hw _ (List.mem_of_getElem? (i := 74) rfl)))) (mvT hZ210 (hw _ (List.mem_of_getElem? (i := 74) rfl))) (mvT hZ210 (hw _ (List.mem_of_getElem? (i := 73) rfl))) (by decide) (backOf (W := 0) (own_rm12 l Z a0 hw [] ba198 T210.heap n0 zs240 ) hZ210 (hw _ (List.mem_of_getElem? (i := 75) rfl)) (hw _ (List.mem_of_getElem? (i := 3) rfl)) (by decide) (by decide)) q251a q251c (g := (mkF m 141 #[.val (.int p0), .val (.int p1), .val (.ref b3), .val (.ref b33), .val (.ref b68), .val (.ref ba198), .val (.ref b1_210), .val (.ref ba15_210)] [(.ref ba198), (.ref ba198)])) rfl (by rw [hml]; rfl) (Steps.refl _) (argsL := [(.ref ba198)]) (rest := []) (lenOf own_pd9 rfl) rfl (by show 2 * 0 + _ ≤ _; exact Nat.le_of_eq rfl) (hb hby at_141) (fun _ _ => ⟨rfl, e249, (by decide : 9 + 0 ≤ _), (by decide : 31 + 0 ≤ _)⟩)
      dsimp only [Pt.U, Pt.locs, Pt.cells, Pt.slots] at X251 l251 y251 z251 st251 hQ251
      subst l251 y251 z251
      obtain ⟨rfl, N251q, e251⟩ := hQ251
      have N252 := Fr.app N250 N251q
      obtain ⟨cq253, kq253, q253a, q253b, q253c⟩ := isOf hZ210 e251 f211
      obtain ⟨_, _, ⟨T253, L253, k253, n253⟩, -, X253, ⟨Lc253, hQ253, l253, y253, z253⟩, st253⟩ := X251.virtualBack hx (y := (⟨"com/example/casewright/engine/TestResult", "status", "()Lcom/example/casewright/engine/TestResult$Status;"⟩ : MethodName)) (z := (⟨"com/example/casewright/engine/TestResult", "status", "()Lcom/example/casewright/engine/TestResult$Status;"⟩ : MethodName)) hown210 (mvT hZ210 (hw _ (List.mem_of_getElem? (i := 81) rfl))) (mvT hZ210 (hw _ (List.mem_of_getElem? (i := 82) rfl))) (notFace_of_selects (args := #[]) (mvT hZ210 (hw _ (List.mem_of_getElem? (i := 84) rfl)))) (mvT hZ210 (hw _ (List.mem_of_getElem? (i := 84) rfl))) (mvT hZ210 (hw _ (List.mem_of_getElem? (i := 83) rfl))) (by decide) (backOf (W := 0) (own_rm14 l Z a0 hw [] b1_210 z_PA T210.heap n0 zs240 f214) hZ210 (hw _ (List.mem_of_getElem? (i := 85) rfl)) (hw _ (List.mem_of_getElem? (i := 32) rfl)) (by decide) (by decide)) q253a q253c (g := (mkF m 149 #[.val (.int p0), .val (.int p1), .val (.ref b3), .val (.ref b33), .val (.ref b68), .val (.ref ba198), .val (.ref b1_210), .val (.ref ba15_210)] [(.ref b1_210)])) rfl (by rw [hml]; rfl) (Steps.refl _) (argsL := []) (rest := []) (lenOf own_pd10 rfl) rfl (by show 2 * 0 + _ ≤ _; exact Nat.le_of_eq rfl) (hb hby at_149) (fun _ _ => ⟨rfl, e251, (by decide : 9 + 0 ≤ _), (by decide : 31 + 0 ≤ _)⟩)
      dsimp only [Pt.U, Pt.locs, Pt.cells, Pt.slots] at X253 l253 y253 z253 st253 hQ253
      subst l253 y253 z253
      obtain ⟨rfl, N253q, e253⟩ := hQ253
      have N254 := Fr.app N252 N253q
      obtain ⟨T255, X255, e255, st255⟩ := getS2 X253 hx hZ210 hown210 (host := "") (Or.inl (hw _ (List.mem_of_getElem? (i := 86) rfl))) Via.refl e253 f229 (g := (mkF m 152 #[.val (.int p0), .val (.int p1), .val (.ref b3), .val (.ref b33), .val (.ref b68), .val (.ref ba198), .val (.ref b1_210), .val (.ref ba15_210)] [(.ref z_PA)])) rfl (hb hby at_152)
      obtain ⟨cq256, kq256, q256a, q256b, q256c⟩ := isOf hZ210 e255 f211
      obtain ⟨_, _, ⟨T256, L256, k256, n256⟩, -, X256, ⟨Lc256, hQ256, l256, y256, z256⟩, st256⟩ := X255.virtualBack hx (y := (⟨"com/example/casewright/engine/TestResult", "problem", "()Ljava/lang/Throwable;"⟩ : MethodName)) (z := (⟨"com/example/casewright/engine/TestResult", "problem", "()Ljava/lang/Throwable;"⟩ : MethodName)) hown210 (mvT hZ210 (hw _ (List.mem_of_getElem? (i := 87) rfl))) (mvT hZ210 (hw _ (List.mem_of_getElem? (i := 88) rfl))) (notFace_of_selects (args := #[]) (mvT hZ210 (hw _ (List.mem_of_getElem? (i := 90) rfl)))) (mvT hZ210 (hw _ (List.mem_of_getElem? (i := 90) rfl))) (mvT hZ210 (hw _ (List.mem_of_getElem? (i := 89) rfl))) (by decide) (backOf (W := 0) (own_rm15 l Z a0 hw [] b1_210 T210.heap n0 zs240 f215) hZ210 (hw _ (List.mem_of_getElem? (i := 91) rfl)) (hw _ (List.mem_of_getElem? (i := 32) rfl)) (by decide) (by decide)) q256a q256c (g := (mkF m 160 #[.val (.int p0), .val (.int p1), .val (.ref b3), .val (.ref b33), .val (.ref b68), .val (.ref ba198), .val (.ref b1_210), .val (.ref ba15_210)] [(.ref b1_210)])) rfl (by rw [hml]; rfl) (Steps.refl _) (argsL := []) (rest := []) (lenOf own_pd11 rfl) rfl (by show 2 * 0 + _ ≤ _; exact Nat.le_of_eq rfl) (hb hby at_160) (fun _ _ => ⟨rfl, e255, (by decide : 9 + 0 ≤ _), (by decide : 31 + 0 ≤ _)⟩)
      dsimp only [Pt.U, Pt.locs, Pt.cells, Pt.slots] at X256 l256 y256 z256 st256 hQ256
      subst l256 y256 z256
      obtain ⟨rfl, N256q, e256⟩ := hQ256
      have N257 := Fr.app N254 N256q
      obtain ⟨cq258, kq258, q258a, q258b, q258c⟩ := isOf hZ210 e256 f217
      obtain ⟨_, _, ⟨T258, L258, k258, n258⟩, -, X258, ⟨Lc258, hQ258, l258, y258, z258⟩, st258⟩ := X256.virtualBack hx (y := (⟨"java/lang/String", "isEmpty", "()Z"⟩ : MethodName)) (z := (⟨"java/lang/String", "isEmpty", "()Z"⟩ : MethodName)) hown210 (mvT hZ210 (hw _ (List.mem_of_getElem? (i := 92) rfl))) (mvT hZ210 (hw _ (List.mem_of_getElem? (i := 93) rfl))) (notFace_of_selects (args := #[]) (mvT hZ210 (hw _ (List.mem_of_getElem? (i := 95) rfl)))) (mvT hZ210 (hw _ (List.mem_of_getElem? (i := 95) rfl))) (mvT hZ210 (hw _ (List.mem_of_getElem? (i := 94) rfl))) (by decide) (backOf (W := 0) (own_rm16 l Z a0 hw [] ba15_210 bb15_210 kc15_210 (0 : Int32) [] T210.heap n0 zs240 f219 f220) hZ210 (hw _ (List.mem_of_getElem? (i := 96) rfl)) (hw _ (List.mem_of_getElem? (i := 3) rfl)) (by decide) (by decide)) q258a q258c (g := (mkF m 173 #[.val (.int p0), .val (.int p1), .val (.ref b3), .val (.ref b33), .val (.ref b68), .val (.ref ba198), .val (.ref b1_210), .val (.ref ba15_210)] [(.ref ba15_210)])) rfl (by rw [hml]; rfl) (Steps.refl _) (argsL := []) (rest := []) (lenOf own_pd12 rfl) rfl (by show 2 * 0 + _ ≤ _; exact Nat.le_of_eq rfl) (hb hby at_173) (fun _ _ => ⟨rfl, e256, (by decide : 9 + 0 ≤ _), (by decide : 31 + 0 ≤ _)⟩)
      dsimp only [Pt.U, Pt.locs, Pt.cells, Pt.slots] at X258 l258 y258 z258 st258 hQ258
      subst l258 y258 z258
      obtain ⟨rfl, N258q, e258⟩ := hQ258
      have N259 := Fr.app N257 N258q
      have pre260 : ∀ t, Steps p.tables e below (T258.setTop (mkF m 176 #[.val (.int p0), .val (.int p1), .val (.ref b3), .val (.ref b33), .val (.ref b68), .val (.ref ba198), .val (.ref b1_210), .val (.ref ba15_210)] [(.int (own_f16 (0 : Int32)))])) t → Steps p.tables e below (s₁.setTop (entryFrame m #[(.int p0), (.int p1)] maxLocals)) t := fun t k => pre99 t (by
          refine XS.ifNo X82.here hx rfl (hb hby at_80) rfl ((if0 _ _).trans (feq hc100).1) ?_
          show Steps p.tables e below (T82.setTop (mkF m 83 #[.val (.int p0), .val (.int p1), .val (.ref b3), .val (.ref b33), .val (.ref b68), .unset, .unset, .unset] [])) _
          refine st198 _ ?_
          show Steps p.tables e below (T198.setTop (mkF m 85 #[.val (.int p0), .val (.int p1), .val (.ref b3), .val (.ref b33), .val (.ref b68), .unset, .unset, .unset] [(.ref ba198)])) _
          refine XS.goto X198.here hx rfl (pc0 := 85) (pc' := 96) rfl (hb hby at_85) (by decide) (by decide) ?_
          show Steps p.tables e below (T198.setTop (mkF m 96 #[.val (.int p0), .val (.int p1), .val (.ref b3), .val (.ref b33), .val (.ref b68), .unset, .unset, .unset] [(.ref ba198)])) _
          refine XS.astore X198.here hx rfl (hb hby at_96) rfl rfl (l' := #[.val (.int p0), .val (.int p1), .val (.ref b3), .val (.ref b33), .val (.ref b68), .val (.ref ba198), .unset, .unset]) rfl ?_
          show Steps p.tables e below (T198.setTop (mkF m 98 #[.val (.int p0), .val (.int p1), .val (.ref b3), .val (.ref b33), .val (.ref b68), .val (.ref ba198), .unset, .unset] [])) _
          refine XS.aload X198.here hx rfl (hb hby at_98) rfl rfl ?_
          show Steps p.tables e below (T198.setTop (mkF m 100 #[.val (.int p0), .val (.int p1), .val (.ref b3), .val (.ref b33), .val (.ref b68), .val (.ref ba198), .unset, .unset] [(.ref b68)])) _
          refine XS.aload X198.here hx rfl (hb hby at_100) rfl rfl ?_
          show Steps p.tables e below (T198.setTop (mkF m 102 #[.val (.int p0), .val (.int p1), .val (.ref b3), .val (.ref b33), .val (.ref b68), .val (.ref ba198), .unset, .unset] [(.ref ba198), (.ref b68)])) _
          refine st210.trans ?_
          show Steps p.tables e below (T210.setTop (mkF m 105 #[.val (.int p0), .val (.int p1), .val (.ref b3), .val (.ref b33), .val (.ref b68), .val (.ref ba198), .unset, .unset] [(.ref b1_210)])) _
          refine XS.astore X210r.here hx rfl (hb hby at_105) rfl rfl (l' := #[.val (.int p0), .val (.int p1), .val (.ref b3), .val (.ref b33), .val (.ref b68), .val (.ref ba198), .val (.ref b1_210), .unset]) rfl ?_
          show Steps p.tables e below (T210.setTop (mkF m 107 #[.val (.int p0), .val (.int p1), .val (.ref b3), .val (.ref b33), .val (.ref b68), .val (.ref ba198), .val (.ref b1_210), .unset] [])) _
          refine XS.aload X210r.here hx rfl (hb hby at_107) rfl rfl ?_
          show Steps p.tables e below (T210.setTop (mkF m 109 #[.val (.int p0), .val (.int p1), .val (.ref b3), .val (.ref b33), .val (.ref b68), .val (.ref ba198), .val (.ref b1_210), .unset] [(.ref b1_210)])) _
          refine XS.ifnonnullYes X210r.here hx rfl (pc0 := 109) (pc' := 114) rfl (hb hby at_109) rfl (by decide) (by decide) ?_
          show Steps p.tables e below (T210.setTop (mkF m 114 #[.val (.int p0), .val (.int p1), .val (.ref b3), .val (.ref b33), .val (.ref b68), .val (.ref ba198), .val (.ref b1_210), .unset] [])) _
          refine XS.aload X210r.here hx rfl (hb hby at_114) rfl rfl ?_
          show Steps p.tables e below (T210.setTop (mkF m 116 #[.val (.int p0), .val (.int p1), .val (.ref b3), .val (.ref b33), .val (.ref b68), .val (.ref ba198), .val (.ref b1_210), .unset] [(.ref b1_210)])) _
          refine st243.trans ?_
          show Steps p.tables e below (T243.setTop (mkF m 119 #[.val (.int p0), .val (.int p1), .val (.ref b3), .val (.ref b33), .val (.ref b68), .val (.ref ba198), .val (.ref b1_210), .unset] [(.ref ba15_210)])) _
          refine XS.astore X243.here hx rfl (hb hby at_119) rfl rfl (l' := #[.val (.int p0), .val (.int p1), .val (.ref b3), .val (.ref b33), .val (.ref b68), .val (.ref ba198), .val (.ref b1_210), .val (.ref ba15_210)]) rfl ?_
          show Steps p.tables e below (T243.setTop (mkF m 121 #[.val (.int p0), .val (.int p1), .val (.ref b3), .val (.ref b33), .val (.ref b68), .val (.ref ba198), .val (.ref b1_210), .val (.ref ba15_210)] [])) _
          refine XS.aload X243.here hx rfl (hb hby at_121) rfl rfl ?_
          show Steps p.tables e below (T243.setTop (mkF m 123 #[.val (.int p0), .val (.int p1), .val (.ref b3), .val (.ref b33), .val (.ref b68), .val (.ref ba198), .val (.ref b1_210), .val (.ref ba15_210)] [(.ref b68)])) _
          refine XS.aload X243.here hx rfl (hb hby at_123) rfl rfl ?_
          show Steps p.tables e below (T243.setTop (mkF m 125 #[.val (.int p0), .val (.int p1), .val (.ref b3), .val (.ref b33), .val (.ref b68), .val (.ref ba198), .val (.ref b1_210), .val (.ref ba15_210)] [(.ref b1_210), (.ref b68)])) _
          refine st245.trans ?_
          show Steps p.tables e below (T245.setTop (mkF m 128 #[.val (.int p0), .val (.int p1), .val (.ref b3), .val (.ref b33), .val (.ref b68), .val (.ref ba198), .val (.ref b1_210), .val (.ref ba15_210)] [(.ref b68), (.ref b68)])) _
          refine st247.trans ?_
          show Steps p.tables e below (T247.setTop (mkF m 131 #[.val (.int p0), .val (.int p1), .val (.ref b3), .val (.ref b33), .val (.ref b68), .val (.ref ba198), .val (.ref b1_210), .val (.ref ba15_210)] [(.int (1 : Int32))])) _
          refine XS.ifNo X247.here hx rfl (hb hby at_131) rfl ((if0 _ _).trans (feq (by decide : ¬ ((1 : Int32) = (0 : Int32)))).1) ?_
          show Steps p.tables e below (T247.setTop (mkF m 134 #[.val (.int p0), .val (.int p1), .val (.ref b3), .val (.ref b33), .val (.ref b68), .val (.ref ba198), .val (.ref b1_210), .val (.ref ba15_210)] [])) _
          refine XS.aload X247.here hx rfl (hb hby at_134) rfl rfl ?_
          show Steps p.tables e below (T247.setTop (mkF m 136 #[.val (.int p0), .val (.int p1), .val (.ref b3), .val (.ref b33), .val (.ref b68), .val (.ref ba198), .val (.ref b1_210), .val (.ref ba15_210)] [(.ref ba198)])) _
          refine XS.aload X247.here hx rfl (hb hby at_136) rfl rfl ?_
          show Steps p.tables e below (T247.setTop (mkF m 138 #[.val (.int p0), .val (.int p1), .val (.ref b3), .val (.ref b33), .val (.ref b68), .val (.ref ba198), .val (.ref b1_210), .val (.ref ba15_210)] [(.ref b1_210), (.ref ba198)])) _
          refine st249.trans ?_
          show Steps p.tables e below (T249.setTop (mkF m 141 #[.val (.int p0), .val (.int p1), .val (.ref b3), .val (.ref b33), .val (.ref b68), .val (.ref ba198), .val (.ref b1_210), .val (.ref ba15_210)] [(.ref ba198), (.ref ba198)])) _
          refine st251.trans ?_
          show Steps p.tables e below (T251.setTop (mkF m 144 #[.val (.int p0), .val (.int p1), .val (.ref b3), .val (.ref b33), .val (.ref b68), .val (.ref ba198), .val (.ref b1_210), .val (.ref ba15_210)] [(.int (1 : Int32))])) _
          refine XS.ifNo X251.here hx rfl (hb hby at_144) rfl ((if0 _ _).trans (feq (by decide : ¬ ((1 : Int32) = (0 : Int32)))).1) ?_
          show Steps p.tables e below (T251.setTop (mkF m 147 #[.val (.int p0), .val (.int p1), .val (.ref b3), .val (.ref b33), .val (.ref b68), .val (.ref ba198), .val (.ref b1_210), .val (.ref ba15_210)] [])) _
          refine XS.aload X251.here hx rfl (hb hby at_147) rfl rfl ?_
          show Steps p.tables e below (T251.setTop (mkF m 149 #[.val (.int p0), .val (.int p1), .val (.ref b3), .val (.ref b33), .val (.ref b68), .val (.ref ba198), .val (.ref b1_210), .val (.ref ba15_210)] [(.ref b1_210)])) _
          refine st253.trans ?_
          show Steps p.tables e below (T253.setTop (mkF m 152 #[.val (.int p0), .val (.int p1), .val (.ref b3), .val (.ref b33), .val (.ref b68), .val (.ref ba198), .val (.ref b1_210), .val (.ref ba15_210)] [(.ref z_PA)])) _
          refine st255 _ ?_
          show Steps p.tables e below (T255.setTop (mkF m 155 #[.val (.int p0), .val (.int p1), .val (.ref b3), .val (.ref b33), .val (.ref b68), .val (.ref ba198), .val (.ref b1_210), .val (.ref ba15_210)] [(.ref z_PA), (.ref z_PA)])) _
          refine Jvm.RoadKit.acmp (g := (mkF m 155 #[.val (.int p0), .val (.int p1), .val (.ref b3), .val (.ref b33), .val (.ref b68), .val (.ref ba198), .val (.ref b1_210), .val (.ref ba15_210)] [(.ref z_PA), (.ref z_PA)])) X255 hx rfl rfl rfl (pc0 := 155) (pc' := 158) (same := true) rfl (hb hby at_155) rfl (decide_eq_true rfl) (by decide) (by decide) ?_
          show Steps p.tables e below (T255.setTop (mkF m 158 #[.val (.int p0), .val (.int p1), .val (.ref b3), .val (.ref b33), .val (.ref b68), .val (.ref ba198), .val (.ref b1_210), .val (.ref ba15_210)] [])) _
          refine XS.aload X255.here hx rfl (hb hby at_158) rfl rfl ?_
          show Steps p.tables e below (T255.setTop (mkF m 160 #[.val (.int p0), .val (.int p1), .val (.ref b3), .val (.ref b33), .val (.ref b68), .val (.ref ba198), .val (.ref b1_210), .val (.ref ba15_210)] [(.ref b1_210)])) _
          refine st256.trans ?_
          show Steps p.tables e below (T256.setTop (mkF m 163 #[.val (.int p0), .val (.int p1), .val (.ref b3), .val (.ref b33), .val (.ref b68), .val (.ref ba198), .val (.ref b1_210), .val (.ref ba15_210)] [.null])) _
          refine XS.ifnonnullNo X256.here hx rfl (hb hby at_163) rfl ?_
          show Steps p.tables e below (T256.setTop (mkF m 166 #[.val (.int p0), .val (.int p1), .val (.ref b3), .val (.ref b33), .val (.ref b68), .val (.ref ba198), .val (.ref b1_210), .val (.ref ba15_210)] [])) _
          refine XS.aload X256.here hx rfl (hb hby at_166) rfl rfl ?_
          show Steps p.tables e below (T256.setTop (mkF m 168 #[.val (.int p0), .val (.int p1), .val (.ref b3), .val (.ref b33), .val (.ref b68), .val (.ref ba198), .val (.ref b1_210), .val (.ref ba15_210)] [(.ref ba15_210)])) _
          refine XS.ifnullNo X256.here hx rfl (hb hby at_168) rfl ?_
          show Steps p.tables e below (T256.setTop (mkF m 171 #[.val (.int p0), .val (.int p1), .val (.ref b3), .val (.ref b33), .val (.ref b68), .val (.ref ba198), .val (.ref b1_210), .val (.ref ba15_210)] [])) _
          refine XS.aload X256.here hx rfl (hb hby at_171) rfl rfl ?_
          show Steps p.tables e below (T256.setTop (mkF m 173 #[.val (.int p0), .val (.int p1), .val (.ref b3), .val (.ref b33), .val (.ref b68), .val (.ref ba198), .val (.ref b1_210), .val (.ref ba15_210)] [(.ref ba15_210)])) _
          refine st258.trans ?_
          show Steps p.tables e below (T258.setTop (mkF m 176 #[.val (.int p0), .val (.int p1), .val (.ref b3), .val (.ref b33), .val (.ref b68), .val (.ref ba198), .val (.ref b1_210), .val (.ref ba15_210)] [(.int (own_f16 (0 : Int32)))])) _
          exact k)
      by_cases hc261 : (own_f16 (0 : Int32)) = (0 : Int32)
      · have pre262 : ∀ t, Steps p.tables e below (T258.setTop (mkF m 184 #[.val (.int p0), .val (.int p1), .val (.ref b3), .val (.ref b33), .val (.ref b68), .val (.ref ba198), .val (.ref b1_210), .val (.ref ba15_210)] [(.int (0 : Int32))])) t → Steps p.tables e below (s₁.setTop (entryFrame m #[(.int p0), (.int p1)] maxLocals)) t := fun t k => pre260 t (by
            refine XS.ifYes X258.here hx rfl (pc0 := 176) (pc' := 183) rfl (hb hby at_176) rfl ((if0 _ _).trans (teq hc261).1) (by decide) (by decide) ?_
            show Steps p.tables e below (T258.setTop (mkF m 183 #[.val (.int p0), .val (.int p1), .val (.ref b3), .val (.ref b33), .val (.ref b68), .val (.ref ba198), .val (.ref b1_210), .val (.ref ba15_210)] [])) _
            refine XS.iconst X258.here hx rfl (hb hby at_183) ?_
            show Steps p.tables e below (T258.setTop (mkF m 184 #[.val (.int p0), .val (.int p1), .val (.ref b3), .val (.ref b33), .val (.ref b68), .val (.ref ba198), .val (.ref b1_210), .val (.ref ba15_210)] [(.int (0 : Int32))])) _
            exact k)
        obtain ⟨fs, hr, hrun, hended, hEnd⟩ := X258.leaveW (s := s) (vm₁ := T210.vm) hS210 (by rw [e258]; exact (Nat.le_refl _)) (v := some (.int (0 : Int32))) (fun h => by rw [Bd.returns] at h; cases h) (hlocks := hlk)
        refine ⟨_, _, pre262 _ ?_, hrun, hended, _, _, rfl, ?_, hEnd.1, hEnd.2.1, hEnd.2.2.1, hEnd.2.2.2.mono (by decide) (by decide)⟩
        · show Steps p.tables e below (T258.setTop (mkF m 184 #[.val (.int p0), .val (.int p1), .val (.ref b3), .val (.ref b33), .val (.ref b68), .val (.ref ba198), .val (.ref b1_210), .val (.ref ba15_210)] [(.int (0 : Int32))])) _
          exact retN X258 hx (t := .boolean) Bd.returns (by simp) (hb hby at_184) hr
        · show own_Q0 Z p0 p1 z_COMPACT_STRINGS z_PA h0 n0 _ T258.heap _; exact ⟨(by show some (Value.int _) = some (.int (own_f0 p0 p1)); unfold own_f0; rw [if_pos hc67, if_neg hc100, if_pos hc261]), N259⟩
      · have pre263 : ∀ t, Steps p.tables e below (T258.setTop (mkF m 184 #[.val (.int p0), .val (.int p1), .val (.ref b3), .val (.ref b33), .val (.ref b68), .val (.ref ba198), .val (.ref b1_210), .val (.ref ba15_210)] [(.int (1 : Int32))])) t → Steps p.tables e below (s₁.setTop (entryFrame m #[(.int p0), (.int p1)] maxLocals)) t := fun t k => pre260 t (by
            refine XS.ifNo X258.here hx rfl (hb hby at_176) rfl ((if0 _ _).trans (feq hc261).1) ?_
            show Steps p.tables e below (T258.setTop (mkF m 179 #[.val (.int p0), .val (.int p1), .val (.ref b3), .val (.ref b33), .val (.ref b68), .val (.ref ba198), .val (.ref b1_210), .val (.ref ba15_210)] [])) _
            refine XS.iconst X258.here hx rfl (hb hby at_179) ?_
            show Steps p.tables e below (T258.setTop (mkF m 180 #[.val (.int p0), .val (.int p1), .val (.ref b3), .val (.ref b33), .val (.ref b68), .val (.ref ba198), .val (.ref b1_210), .val (.ref ba15_210)] [(.int (1 : Int32))])) _
            refine XS.goto X258.here hx rfl (pc0 := 180) (pc' := 184) rfl (hb hby at_180) (by decide) (by decide) ?_
            show Steps p.tables e below (T258.setTop (mkF m 184 #[.val (.int p0), .val (.int p1), .val (.ref b3), .val (.ref b33), .val (.ref b68), .val (.ref ba198), .val (.ref b1_210), .val (.ref ba15_210)] [(.int (1 : Int32))])) _
            exact k)
        obtain ⟨fs, hr, hrun, hended, hEnd⟩ := X258.leaveW (s := s) (vm₁ := T210.vm) hS210 (by rw [e258]; exact (Nat.le_refl _)) (v := some (.int (1 : Int32))) (fun h => by rw [Bd.returns] at h; cases h) (hlocks := hlk)
        refine ⟨_, _, pre263 _ ?_, hrun, hended, _, _, rfl, ?_, hEnd.1, hEnd.2.1, hEnd.2.2.1, hEnd.2.2.2.mono (by decide) (by decide)⟩
        · show Steps p.tables e below (T258.setTop (mkF m 184 #[.val (.int p0), .val (.int p1), .val (.ref b3), .val (.ref b33), .val (.ref b68), .val (.ref ba198), .val (.ref b1_210), .val (.ref ba15_210)] [(.int (1 : Int32))])) _
          exact retN X258 hx (t := .boolean) Bd.returns (by simp) (hb hby at_184) hr
        · show own_Q0 Z p0 p1 z_COMPACT_STRINGS z_PA h0 n0 _ T258.heap _; exact ⟨(by show some (Value.int _) = some (.int (own_f0 p0 p1)); unfold own_f0; rw [if_pos hc67, if_neg hc100, if_neg hc261]), N259⟩
  · obtain ⟨ba264, T264, h264, k1264, bb264, kc264, X264, e264, E264, hS264, kk264, hZ264, hown264, fa264, fb264, fc264, fd264, -, -, hC264, -, -, st264⟩ := ldcCH (s := s) (vm0 := s.vm) X56 hx hZ hown (hw _ (List.mem_of_getElem? (i := 97) rfl)) (own_wS Z a0 hw) e56 hS0 (Nat.zero_le _) (own_EW Z a0 hw) (List.mem_of_getElem? (i := 1) rfl) C62 (vs := []) (z := (0 : Int32)) ⟨by decide, by decide⟩ (by decide) (by decide) (g := (mkF m 59 #[.val (.int p0), .val (.int p1), .val (.ref b3), .val (.ref b33), .unset, .unset, .unset, .unset] [])) rfl (hb hby at_59) (n := 4) (by decide) (by decide) (by decide) (by decide)
    have f265 : Old Z n0 h264 := f58.ext E264
    have f266 : Sta Z h264 "java/lang/String" "COMPACT_STRINGS" "Z" (.int z_COMPACT_STRINGS) := f59.ext E264
    have f267 : Sta Z h264 "com/example/casewright/engine/TestResult$Status" "PASSED" "Lcom/example/casewright/engine/TestResult$Status;" (.ref z_PA) := f60.ext E264
    have f268 : Arv Z h264 b3 k3 .char (2 : Int32) [(.int (nar .char ((p0 &&& (255 : Int32)).toUInt32.toUInt16.toUInt32.toInt32))), (.int (nar .char ((((p0.toUInt32 >>> ((8 : Int32) &&& 31).toUInt32).toInt32) &&& (255 : Int32)).toUInt32.toUInt16.toUInt32.toInt32)))] (.int (0 : Int32)) := f61.ext E264
    have f269 : Arv Z h264 b33 k33 .char (2 : Int32) [(.int (nar .char ((p1 &&& (255 : Int32)).toUInt32.toUInt16.toUInt32.toInt32))), (.int (nar .char ((((p1.toUInt32 >>> ((8 : Int32) &&& 31).toUInt32).toInt32) &&& (255 : Int32)).toUInt32.toUInt16.toUInt32.toInt32)))] (.int (0 : Int32)) := f57.ext E264
    have zs270 : n0 ≤ h264.size := Nat.le_trans zs63 E264.1
    have K271 : Keep h0 h264 [] := K65.ext E264
    have pre272 : ∀ t, Steps p.tables e below (T264.setTop (mkF m 80 #[.val (.int p0), .val (.int p1), .val (.ref b3), .val (.ref b33), .val (.ref ba264), .unset, .unset, .unset] [(.int (((p1.toUInt32 >>> ((16 : Int32) &&& 31).toUInt32).toInt32) &&& (1 : Int32)))])) t → Steps p.tables e below (s₁.setTop (entryFrame m #[(.int p0), (.int p1)] maxLocals)) t := fun t k => pre66 t (by
        refine XS.ifNo X56.here hx rfl (hb hby at_56) rfl ((if0 _ _).trans (feq hc67).1) ?_
        show Steps p.tables e below (T56.setTop (mkF m 59 #[.val (.int p0), .val (.int p1), .val (.ref b3), .val (.ref b33), .unset, .unset, .unset, .unset] [])) _
        refine st264 _ ?_
        show Steps p.tables e below (T264.setTop (mkF m 61 #[.val (.int p0), .val (.int p1), .val (.ref b3), .val (.ref b33), .unset, .unset, .unset, .unset] [(.ref ba264)])) _
        refine XS.goto X264.here hx rfl (pc0 := 61) (pc' := 72) rfl (hb hby at_61) (by decide) (by decide) ?_
        show Steps p.tables e below (T264.setTop (mkF m 72 #[.val (.int p0), .val (.int p1), .val (.ref b3), .val (.ref b33), .unset, .unset, .unset, .unset] [(.ref ba264)])) _
        refine XS.astore X264.here hx rfl (hb hby at_72) rfl rfl (l' := #[.val (.int p0), .val (.int p1), .val (.ref b3), .val (.ref b33), .val (.ref ba264), .unset, .unset, .unset]) rfl ?_
        show Steps p.tables e below (T264.setTop (mkF m 74 #[.val (.int p0), .val (.int p1), .val (.ref b3), .val (.ref b33), .val (.ref ba264), .unset, .unset, .unset] [])) _
        refine XS.iloadN X264.here hx rfl (hb hby at_74) rfl ?_
        show Steps p.tables e below (T264.setTop (mkF m 75 #[.val (.int p0), .val (.int p1), .val (.ref b3), .val (.ref b33), .val (.ref ba264), .unset, .unset, .unset] [(.int p1)])) _
        refine XS.bipush X264.here hx rfl (hb hby at_75) ?_
        show Steps p.tables e below (T264.setTop (mkF m 77 #[.val (.int p0), .val (.int p1), .val (.ref b3), .val (.ref b33), .val (.ref ba264), .unset, .unset, .unset] [(.int (16 : Int32)), (.int p1)])) _
        refine XS.iushr X264.here hx rfl (hb hby at_77) rfl ?_
        show Steps p.tables e below (T264.setTop (mkF m 78 #[.val (.int p0), .val (.int p1), .val (.ref b3), .val (.ref b33), .val (.ref ba264), .unset, .unset, .unset] [(.int ((p1.toUInt32 >>> ((16 : Int32) &&& 31).toUInt32).toInt32))])) _
        refine XS.iconst X264.here hx rfl (hb hby at_78) ?_
        show Steps p.tables e below (T264.setTop (mkF m 79 #[.val (.int p0), .val (.int p1), .val (.ref b3), .val (.ref b33), .val (.ref ba264), .unset, .unset, .unset] [(.int (1 : Int32)), (.int ((p1.toUInt32 >>> ((16 : Int32) &&& 31).toUInt32).toInt32))])) _
        refine XS.iand X264.here hx rfl (hb hby at_79) rfl ?_
        show Steps p.tables e below (T264.setTop (mkF m 80 #[.val (.int p0), .val (.int p1), .val (.ref b3), .val (.ref b33), .val (.ref ba264), .unset, .unset, .unset] [(.int (((p1.toUInt32 >>> ((16 : Int32) &&& 31).toUInt32).toInt32) &&& (1 : Int32)))])) _
        exact k)
    by_cases hc273 : (((p1.toUInt32 >>> ((16 : Int32) &&& 31).toUInt32).toInt32) &&& (1 : Int32)) = (0 : Int32)
    · obtain ⟨T274, h274, X274, e274, E274, A274, D274, -, st274⟩ := newO X264 hx hZ264 hown264 (hw _ (List.mem_of_getElem? (i := 1) rfl)) (hw _ (List.mem_of_getElem? (i := 2) rfl)) (hw _ (List.mem_of_getElem? (i := 3) rfl)) e264 (g := (mkF m 88 #[.val (.int p0), .val (.int p1), .val (.ref b3), .val (.ref b33), .val (.ref ba264), .unset, .unset, .unset] [])) rfl (hb hby at_88) (by decide) (by decide)
      obtain ⟨b274, g274⟩ : ∃ z, z = h264.size := ⟨_, rfl⟩
      rw [← g274] at A274 D274 st274
      have g_b274 : n0 ≤ b274 := Nat.le_trans zs270 (Nat.le_of_eq g274.symm)
      have sz_b274 : h0.size ≤ b274 := Nat.le_trans K271.1 (Nat.le_of_eq g274.symm)
      have lt275 : b3 < b274 := Nat.lt_of_lt_of_le f268.lt (Nat.le_of_eq g274.symm)
      have lt276 : b33 < b274 := Nat.lt_of_lt_of_le f269.lt (Nat.le_of_eq g274.symm)
      have lt277 : ba264 < b274 := Nat.lt_of_lt_of_le fc264.lt (Nat.le_of_eq g274.symm)
      have lt278 : bb264 < b274 := Nat.lt_of_lt_of_le fd264.lt (Nat.le_of_eq g274.symm)
      have C279 : CHv Z consts_1 T264.vm h274 := CHv.ext E274 hC264.1
      have Sf280 : Safe Z consts_1 T264.vm h274 b274 := Safe.ext E274 hC264.1 (Safe.new (Nat.le_of_eq g274.symm))
      have f281 : Old Z n0 h274 := f265.ext E274
      have f282 : Sta Z h274 "java/lang/String" "COMPACT_STRINGS" "Z" (.int z_COMPACT_STRINGS) := f266.ext E274
      have f283 : Sta Z h274 "com/example/casewright/engine/TestResult$Status" "PASSED" "Lcom/example/casewright/engine/TestResult$Status;" (.ref z_PA) := f267.ext E274
      have f284 : Arv Z h274 b3 k3 .char (2 : Int32) [(.int (nar .char ((p0 &&& (255 : Int32)).toUInt32.toUInt16.toUInt32.toInt32))), (.int (nar .char ((((p0.toUInt32 >>> ((8 : Int32) &&& 31).toUInt32).toInt32) &&& (255 : Int32)).toUInt32.toUInt16.toUInt32.toInt32)))] (.int (0 : Int32)) := f268.ext E274
      have f285 : Arv Z h274 b33 k33 .char (2 : Int32) [(.int (nar .char ((p1 &&& (255 : Int32)).toUInt32.toUInt16.toUInt32.toInt32))), (.int (nar .char ((((p1.toUInt32 >>> ((8 : Int32) &&& 31).toUInt32).toInt32) &&& (255 : Int32)).toUInt32.toUInt16.toUInt32.toInt32)))] (.int (0 : Int32)) := f269.ext E274
      have f286 : Exa Z h274 ba264 "java/lang/String" := fa264.ext E274
      have f287 : Fld Z h274 ba264 "java/lang/String" "coder" "B" (.int (0 : Int32)) := fb264.ext E274
      have f288 : Fld Z h274 ba264 "java/lang/String" "value" "[B" (.ref bb264) := fc264.ext E274
      have f289 : Arv Z h274 bb264 kc264 .byte (0 : Int32) [] (.int (0 : Int32)) := fd264.ext E274
      have zs290 : n0 ≤ h274.size := Nat.le_trans zs270 E274.1
      have kk_291 := Nat.le_trans kk264 E274.1
      have K292 : Keep h0 h274 [] := K271.ext E274
      have f293 : Fld Z h274 b274 "java/lang/String" "coder" "B" (.int (0 : Int32)) := D274 (Or.inr (hw _ (List.mem_of_getElem? (i := 27) rfl))) (ty := .byte) (by decide)
      have f294 : Fld Z h274 b274 "java/lang/String" "value" "[B" .null := D274 (Or.inr (hw _ (List.mem_of_getElem? (i := 29) rfl))) (ty := (.array .byte)) (by decide)
      obtain ⟨_, _, ⟨T295, L295, k295, n295⟩, -, X295, ⟨Lc295, hQ295, l295, y295, z295⟩, st295⟩ := X274.specialBack hx (y := (⟨"java/lang/String", "<init>", "([C)V"⟩ : MethodName)) rfl hown264 (mvT hZ264 (hw _ (List.mem_of_getElem? (i := 4) rfl))) (mvT hZ264 (hw _ (List.mem_of_getElem? (i := 5) rfl))) (mvT hZ264 (hw _ (List.mem_of_getElem? (i := 6) rfl))) (by decide) (backOf (W := 1) (own_rm1 l Z a0 hw [] b274 b33 k33 (nar .char ((p1 &&& (255 : Int32)).toUInt32.toUInt16.toUInt32.toInt32)) (nar .char ((((p1.toUInt32 >>> ((8 : Int32) &&& 31).toUInt32).toInt32) &&& (255 : Int32)).toUInt32.toUInt16.toUInt32.toInt32)) z_COMPACT_STRINGS (.int (0 : Int32)) .null h274 n0 zs290 f285 f282 A274 f293 f294 HC (own_n255 _) (own_n255 _) g_b274) hZ264 (hw _ (List.mem_of_getElem? (i := 6) rfl)) (hw _ (List.mem_of_getElem? (i := 3) rfl)) (by decide) (by decide)) (g := (mkF m 93 #[.val (.int p0), .val (.int p1), .val (.ref b3), .val (.ref b33), .val (.ref ba264), .unset, .unset, .unset] [(.ref b33), (.ref b274), (.ref b274)])) rfl (by rw [hml]; rfl) (Steps.refl _) (a := b274) (argsL := [(.ref b33)]) (rest := [(.ref b274)]) (lenOf own_pd6 rfl) rfl (by show 2 * 0 + _ ≤ _; exact Nat.le_of_eq rfl) (hb hby at_93) (fun _ _ => ⟨rfl, e274, (by decide : 5 + 1 ≤ _), (by decide : 16 + 2 ≤ _)⟩)
      dsimp only [Pt.U, Pt.locs, Pt.cells, Pt.slots] at X295 l295 y295 z295 st295 hQ295
      subst l295 y295 z295
      obtain ⟨b1_3_2_295, k1_3_2_295, rfl, N295q, K295, sqb1_3_2_295_295, f296, f297, f298, f299⟩ := hQ295
      have g_b1_3_2_295 : n0 ≤ b1_3_2_295 := Nat.le_trans zs290 sqb1_3_2_295_295
      have sz_b1_3_2_295 : h0.size ≤ b1_3_2_295 := Nat.le_trans K292.1 sqb1_3_2_295_295
      have lt300 : b3 < b1_3_2_295 := Nat.lt_of_lt_of_le f284.lt sqb1_3_2_295_295
      have lt301 : b33 < b1_3_2_295 := Nat.lt_of_lt_of_le f285.lt sqb1_3_2_295_295
      have lt302 : ba264 < b1_3_2_295 := Nat.lt_of_lt_of_le f288.lt sqb1_3_2_295_295
      have lt303 : bb264 < b1_3_2_295 := Nat.lt_of_lt_of_le f289.lt sqb1_3_2_295_295
      have lt304 : b274 < b1_3_2_295 := Nat.lt_of_lt_of_le f294.lt sqb1_3_2_295_295
      have C305 : CHv Z consts_1 T264.vm T295.heap := CHv.keep K295 (fun x hx => by rw [List.mem_singleton.mp hx]; exact Sf280) C279
      have f306 : Old Z n0 T295.heap := f281.keep K295 (allS g_b274 all0)
      have f307 : Sta Z T295.heap "java/lang/String" "COMPACT_STRINGS" "Z" (.int z_COMPACT_STRINGS) := (sb1.ext f306.2)
      have f308 : Sta Z T295.heap "com/example/casewright/engine/TestResult$Status" "PASSED" "Lcom/example/casewright/engine/TestResult$Status;" (.ref z_PA) := (sb2.ext f306.2)
      have f309 : Arv Z T295.heap b3 k3 .char (2 : Int32) [(.int (nar .char ((p0 &&& (255 : Int32)).toUInt32.toUInt16.toUInt32.toInt32))), (.int (nar .char ((((p0.toUInt32 >>> ((8 : Int32) &&& 31).toUInt32).toInt32) &&& (255 : Int32)).toUInt32.toUInt16.toUInt32.toInt32)))] (.int (0 : Int32)) := f284.keep K295 (ninS (Nat.ne_of_lt lt275) nin0)
      have f310 : Arv Z T295.heap b33 k33 .char (2 : Int32) [(.int (nar .char ((p1 &&& (255 : Int32)).toUInt32.toUInt16.toUInt32.toInt32))), (.int (nar .char ((((p1.toUInt32 >>> ((8 : Int32) &&& 31).toUInt32).toInt32) &&& (255 : Int32)).toUInt32.toUInt16.toUInt32.toInt32)))] (.int (0 : Int32)) := f285.keep K295 (ninS (Nat.ne_of_lt lt276) nin0)
      have f311 : Exa Z T295.heap ba264 "java/lang/String" := f286.keep K295
      have f312 : Fld Z T295.heap ba264 "java/lang/String" "coder" "B" (.int (0 : Int32)) := f287.keep K295 (ninS (Nat.ne_of_lt lt277) nin0)
      have f313 : Fld Z T295.heap ba264 "java/lang/String" "value" "[B" (.ref bb264) := f288.keep K295 (ninS (Nat.ne_of_lt lt277) nin0)
      have f314 : Arv Z T295.heap bb264 kc264 .byte (0 : Int32) [] (.int (0 : Int32)) := f289.keep K295 (ninS (Nat.ne_of_lt lt278) nin0)
      have zs315 : n0 ≤ T295.heap.size := Nat.le_trans zs290 K295.1
      have kk_316 := Nat.le_trans kk_291 K295.1
      have K317 : Keep h0 T295.heap [] := K292.trans K295 (allS (Or.inr sz_b274) all0)
      have N318 := Fr.app N64 N295q
      obtain ⟨_, _, ⟨T319, L319, k319, n319⟩, -, X319, hs319, hg319, ⟨Lc319, hQ319, l319, y319, z319⟩, st319⟩ := callSS (s := s.setVm T264.vm) X295 hx (y := (⟨"com/example/casewright/engine/TestResult", "passed", "(Ljava/lang/String;Ljava/lang/String;)Lcom/example/casewright/engine/TestResult;"⟩ : MethodName)) hown264 (mvT hZ264 (hw _ (List.mem_of_getElem? (i := 30) rfl))) (mvT hZ264 (hw _ (List.mem_of_getElem? (i := 31) rfl))) (mvT hZ264 (hw _ (List.mem_of_getElem? (i := 32) rfl))) (mvT hZ264 (hw _ (List.mem_of_getElem? (i := 33) rfl))) (by decide) (own_backJ (W := 0) (own_rm7 l Z a0 hw [] ba264 b274 z_PA T295.heap n0 zs315 f306 f308) hZ264 ⟨hZ264, ⟨a0, own_EW Z a0 hw⟩, C305⟩ (hw _ (List.mem_of_getElem? (i := 33) rfl)) (hw _ (List.mem_of_getElem? (i := 32) rfl)) (by decide) (by decide)) (g := (mkF m 102 #[.val (.int p0), .val (.int p1), .val (.ref b3), .val (.ref b33), .val (.ref ba264), .val (.ref b274), .unset, .unset] [(.ref b274), (.ref ba264)])) rfl (by rw [hml]; rfl) (argsL := [(.ref ba264), (.ref b274)]) (rest := []) (lenOf own_pd7 rfl) rfl (by show 2 * 0 + _ ≤ _; exact Nat.le_of_eq rfl) (hb hby at_102) (fun _ _ => ⟨rfl, rfl, (by decide : 6 + 3 ≤ _), (by decide : 18 + 13 ≤ _)⟩)
      dsimp only [Pt.U, Pt.locs, Pt.cells, Pt.slots] at X319 l319 y319 z319 st319 hQ319 hs319 hg319
      subst l319 y319 z319
      obtain ⟨X319r, hS319, hZ319, hown319⟩ := rebS (s := s) (vm0 := T264.vm) hS264 kk_316 X319 hs319 hg319 hZ264 hown264
      obtain ⟨b1_319, kc15_319, ba15_319, bb15_319, rfl, N319q, K319, sqb1_319_319, f320, f321, f322, f323, f324, f325, f326, f327, f328, f329, J319⟩ := hQ319
      have g_b1_319 : n0 ≤ b1_319 := Nat.le_trans zs315 sqb1_319_319
      have sz_b1_319 : h0.size ≤ b1_319 := Nat.le_trans K317.1 sqb1_319_319
      have lt330 : b3 < b1_319 := Nat.lt_of_lt_of_le f309.lt sqb1_319_319
      have lt331 : b33 < b1_319 := Nat.lt_of_lt_of_le f310.lt sqb1_319_319
      have lt332 : ba264 < b1_319 := Nat.lt_of_lt_of_le f313.lt sqb1_319_319
      have lt333 : bb264 < b1_319 := Nat.lt_of_lt_of_le f314.lt sqb1_319_319
      have lt334 : b274 < b1_319 := Nat.lt_of_lt_of_le f298.lt sqb1_319_319
      have lt335 : b1_3_2_295 < b1_319 := Nat.lt_of_lt_of_le f299.lt sqb1_319_319
      have f336 : Old Z n0 T319.heap := f306.keep K319 all0
      have f337 : Sta Z T319.heap "java/lang/String" "COMPACT_STRINGS" "Z" (.int z_COMPACT_STRINGS) := (sb1.ext f336.2)
      have f338 : Sta Z T319.heap "com/example/casewright/engine/TestResult$Status" "PASSED" "Lcom/example/casewright/engine/TestResult$Status;" (.ref z_PA) := (sb2.ext f336.2)
      have f339 : Arv Z T319.heap b3 k3 .char (2 : Int32) [(.int (nar .char ((p0 &&& (255 : Int32)).toUInt32.toUInt16.toUInt32.toInt32))), (.int (nar .char ((((p0.toUInt32 >>> ((8 : Int32) &&& 31).toUInt32).toInt32) &&& (255 : Int32)).toUInt32.toUInt16.toUInt32.toInt32)))] (.int (0 : Int32)) := f309.keep K319 nin0
      have f340 : Arv Z T319.heap b33 k33 .char (2 : Int32) [(.int (nar .char ((p1 &&& (255 : Int32)).toUInt32.toUInt16.toUInt32.toInt32))), (.int (nar .char ((((p1.toUInt32 >>> ((8 : Int32) &&& 31).toUInt32).toInt32) &&& (255 : Int32)).toUInt32.toUInt16.toUInt32.toInt32)))] (.int (0 : Int32)) := f310.keep K319 nin0
      have f341 : Exa Z T319.heap ba264 "java/lang/String" := f311.keep K319
      have f342 : Fld Z T319.heap ba264 "java/lang/String" "coder" "B" (.int (0 : Int32)) := f312.keep K319 nin0
      have f343 : Fld Z T319.heap ba264 "java/lang/String" "value" "[B" (.ref bb264) := f313.keep K319 nin0
      have f344 : Arv Z T319.heap bb264 kc264 .byte (0 : Int32) [] (.int (0 : Int32)) := f314.keep K319 nin0
      have f345 : Exa Z T319.heap b274 "java/lang/String" := f296.keep K319
      have f346 : Fld Z T319.heap b274 "java/lang/String" "coder" "B" (.int (0 : Int32)) := f297.keep K319 nin0
      have f347 : Fld Z T319.heap b274 "java/lang/String" "value" "[B" (.ref b1_3_2_295) := f298.keep K319 nin0
      have f348 : Arv Z T319.heap b1_3_2_295 k1_3_2_295 .byte (2 : Int32) [(.int (nar .byte ((nar .char ((p1 &&& (255 : Int32)).toUInt32.toUInt16.toUInt32.toInt32)).toInt8.toInt32))), (.int (nar .byte ((nar .char ((((p1.toUInt32 >>> ((8 : Int32) &&& 31).toUInt32).toInt32) &&& (255 : Int32)).toUInt32.toUInt16.toUInt32.toInt32)).toInt8.toInt32)))] (.int (0 : Int32)) := f299.keep K319 nin0
      have zs349 : n0 ≤ T319.heap.size := Nat.le_trans zs315 K319.1
      have K350 : Keep h0 T319.heap [] := K317.trans K319 all0
      have N351 := Fr.app N318 N319q
      obtain ⟨cq352, kq352, q352a, q352b, q352c⟩ := isOf hZ319 rfl f320
      obtain ⟨_, _, ⟨T352, L352, k352, n352⟩, -, X352, ⟨Lc352, hQ352, l352, y352, z352⟩, st352⟩ := X319r.virtualBack hx (y := (⟨"com/example/casewright/engine/TestResult", "skipReason", "()Ljava/lang/String;"⟩ : MethodName)) (z := (⟨"com/example/casewright/engine/TestResult", "skipReason", "()Ljava/lang/String;"⟩ : MethodName)) hown319 (mvT hZ319 (hw _ (List.mem_of_getElem? (i := 61) rfl))) (mvT hZ319 (hw _ (List.mem_of_getElem? (i := 62) rfl))) (notFace_of_selects (args := #[]) (mvT hZ319 (hw _ (List.mem_of_getElem? (i := 64) rfl)))) (mvT hZ319 (hw _ (List.mem_of_getElem? (i := 64) rfl))) (mvT hZ319 (hw _ (List.mem_of_getElem? (i := 63) rfl))) (by decide) (backOf (W := 0) (own_rm10 l Z a0 hw [] b1_319 ba15_319 T319.heap n0 zs349 f325) hZ319 (hw _ (List.mem_of_getElem? (i := 65) rfl)) (hw _ (List.mem_of_getElem? (i := 32) rfl)) (by decide) (by decide)) q352a q352c (g := (mkF m 116 #[.val (.int p0), .val (.int p1), .val (.ref b3), .val (.ref b33), .val (.ref ba264), .val (.ref b274), .val (.ref b1_319), .unset] [(.ref b1_319)])) rfl (by rw [hml]; rfl) (Steps.refl _) (argsL := []) (rest := []) (lenOf own_pd8 rfl) rfl (by show 2 * 0 + _ ≤ _; exact Nat.le_of_eq rfl) (hb hby at_116) (fun _ _ => ⟨rfl, rfl, (by decide : 9 + 0 ≤ _), (by decide : 31 + 0 ≤ _)⟩)
      dsimp only [Pt.U, Pt.locs, Pt.cells, Pt.slots] at X352 l352 y352 z352 st352 hQ352
      subst l352 y352 z352
      obtain ⟨rfl, N352q, e352⟩ := hQ352
      have N353 := Fr.app N351 N352q
      obtain ⟨cq354, kq354, q354a, q354b, q354c⟩ := isOf hZ319 e352 f320
      obtain ⟨_, _, ⟨T354, L354, k354, n354⟩, -, X354, ⟨Lc354, hQ354, l354, y354, z354⟩, st354⟩ := X352.virtualBack hx (y := (⟨"com/example/casewright/engine/TestResult", "className", "()Ljava/lang/String;"⟩ : MethodName)) (z := (⟨"com/example/casewright/engine/TestResult", "className", "()Ljava/lang/String;"⟩ : MethodName)) hown319 (mvT hZ319 (hw _ (List.mem_of_getElem? (i := 66) rfl))) (mvT hZ319 (hw _ (List.mem_of_getElem? (i := 67) rfl))) (notFace_of_selects (args := #[]) (mvT hZ319 (hw _ (List.mem_of_getElem? (i := 69) rfl)))) (mvT hZ319 (hw _ (List.mem_of_getElem? (i := 69) rfl))) (mvT hZ319 (hw _ (List.mem_of_getElem? (i := 68) rfl))) (by decide) (backOf (W := 1) (own_rm11 l Z a0 hw [] b1_319 ba264 T319.heap n0 zs349 f321) hZ319 (hw _ (List.mem_of_getElem? (i := 70) rfl)) (hw _ (List.mem_of_getElem? (i := 32) rfl)) (by decide) (by decide)) q354a q354c (g := (mkF m 125 #[.val (.int p0), .val (.int p1), .val (.ref b3), .val (.ref b33), .val (.ref ba264), .val (.ref b274), .val (.ref b1_319), .val (.ref ba15_319)] [(.ref b1_319), (.ref ba264)])) rfl (by rw [hml]; rfl) (Steps.refl _) (argsL := []) (rest := [(.ref ba264)]) (lenOf own_pd8 rfl) rfl (by show 2 * 0 + _ ≤ _; exact Nat.le_of_eq rfl) (hb hby at_125) (fun _ _ => ⟨rfl, e352, (by decide : 9 + 0 ≤ _), (by decide : 31 + 0 ≤ _)⟩)
      dsimp only [Pt.U, Pt.locs, Pt.cells, Pt.slots] at X354 l354 y354 z354 st354 hQ354
      subst l354 y354 z354
      obtain ⟨rfl, N354q, e354⟩ := hQ354
      have N355 := Fr.app N353 N354q
      obtain ⟨cq356, kq356, q356a, q356b, q356c⟩ := isOf hZ319 e354 f341
      obtain ⟨_, _, ⟨T356, L356, k356, n356⟩, -, X356, ⟨Lc356, hQ356, l356, y356, z356⟩, st356⟩ := X354.virtualBack hx (y := (⟨"java/lang/String", "equals", "(Ljava/lang/Object;)Z"⟩ : MethodName)) (z := (⟨"java/lang/String", "equals", "(Ljava/lang/Object;)Z"⟩ : MethodName)) hown319 (mvT hZ319 (hw _ (List.mem_of_getElem? (i := 71) rfl))) (mvT hZ319 (hw _ (List.mem_of_getElem? (i := 72) rfl))) (notFace_of_selects (args := #[]) (mvT hZ319 (hw _ (List.mem_of_getElem? (i := 74) rfl)))) (mvT hZ319 (hw _ (List.mem_of_getElem? (i := 74) rfl))) (mvT hZ319 (hw _ (List.mem_of_getElem? (i := 73) rfl))) (by decide) (backOf (W := 0) (own_rm12 l Z a0 hw [] ba264 T319.heap n0 zs349 ) hZ319 (hw _ (List.mem_of_getElem? (i := 75) rfl)) (hw _ (List.mem_of_getElem? (i := 3) rfl)) (by decide) (by decide)) q356a q356c (g := (mkF m 128 #[.val (.int p0), .val (.int p1), .val (.ref b3), .val (.ref b33), .val (.ref ba264), .val (.ref b274), .val (.ref b1_319), .val (.ref ba15_319)] [(.ref ba264), (.ref ba264)])) rfl (by rw [hml]; rfl) (Steps.refl _) (argsL := [(.ref ba264)]) (rest := []) (lenOf own_pd9 rfl) rfl (by show 2 * 0 + _ ≤ _; exact Nat.le_of_eq rfl) (hb hby at_128) (fun _ _ => ⟨rfl, e354, (by decide : 9 + 0 ≤ _), (by decide : 31 + 0 ≤ _)⟩)
      dsimp only [Pt.U, Pt.locs, Pt.cells, Pt.slots] at X356 l356 y356 z356 st356 hQ356
      subst l356 y356 z356
      obtain ⟨rfl, N356q, e356⟩ := hQ356
      have N357 := Fr.app N355 N356q
      obtain ⟨cq358, kq358, q358a, q358b, q358c⟩ := isOf hZ319 e356 f320
      obtain ⟨_, _, ⟨T358, L358, k358, n358⟩, -, X358, ⟨Lc358, hQ358, l358, y358, z358⟩, st358⟩ := X356.virtualBack hx (y := (⟨"com/example/casewright/engine/TestResult", "methodName", "()Ljava/lang/String;"⟩ : MethodName)) (z := (⟨"com/example/casewright/engine/TestResult", "methodName", "()Ljava/lang/String;"⟩ : MethodName)) hown319 (mvT hZ319 (hw _ (List.mem_of_getElem? (i := 76) rfl))) (mvT hZ319 (hw _ (List.mem_of_getElem? (i := 77) rfl))) (notFace_of_selects (args := #[]) (mvT hZ319 (hw _ (List.mem_of_getElem? (i := 79) rfl)))) (mvT hZ319 (hw _ (List.mem_of_getElem? (i := 79) rfl))) (mvT hZ319 (hw _ (List.mem_of_getElem? (i := 78) rfl))) (by decide) (backOf (W := 1) (own_rm13 l Z a0 hw [] b1_319 b274 T319.heap n0 zs349 f322) hZ319 (hw _ (List.mem_of_getElem? (i := 80) rfl)) (hw _ (List.mem_of_getElem? (i := 32) rfl)) (by decide) (by decide)) q358a q358c (g := (mkF m 138 #[.val (.int p0), .val (.int p1), .val (.ref b3), .val (.ref b33), .val (.ref ba264), .val (.ref b274), .val (.ref b1_319), .val (.ref ba15_319)] [(.ref b1_319), (.ref b274)])) rfl (by rw [hml]; rfl) (Steps.refl _) (argsL := []) (rest := [(.ref b274)]) (lenOf own_pd8 rfl) rfl (by show 2 * 0 + _ ≤ _; exact Nat.le_of_eq rfl) (hb hby at_138) (fun _ _ => ⟨rfl, e356, (by decide : 9 + 0 ≤ _), (by decide : 31 + 0 ≤ _)⟩)
      dsimp only [Pt.U, Pt.locs, Pt.cells, Pt.slots] at X358 l358 y358 z358 st358 hQ358
      subst l358 y358 z358
      obtain ⟨rfl, N358q, e358⟩ := hQ358
      have N359 := Fr.app N357 N358q
      obtain ⟨cq360, kq360, q360a, q360b, q360c⟩ := isOf hZ319 e358 f345
      obtain ⟨_, _, ⟨T360, L360, k360, n360⟩, -, X360, ⟨Lc360, hQ360, l360, y360, z360⟩, st360⟩ := X358.virtualBack hx (y := (⟨"java/lang/String", "equals", "(Ljava/lang/Object;)Z"⟩ : MethodName)) (z := (⟨"java/lang/String", "equals", "(Ljava/lang/Object;)Z"⟩ : MethodName)) hown319 (mvT hZ319 (hw _ (List.mem_of_getElem? (i := 71) rfl))) (mvT hZ319 (hw _ (List.mem_of_getElem? (i := 72) rfl))) (notFace_of_selects (args := #[]) (mvT hZ319 (hw _ (List.mem_of_getElem? (i := 74) rfl)))) (mvT hZ319 (hw _ (List.mem_of_getElem? (i := 74) rfl))) (mvT hZ319 (hw _ (List.mem_of_getElem? (i := 73) rfl))) (by decide) (backOf (W := 0) (own_rm12 l Z a0 hw [] b274 T319.heap n0 zs349 ) hZ319 (hw _ (List.mem_of_getElem? (i := 75) rfl)) (hw _ (List.mem_of_getElem? (i := 3) rfl)) (by decide) (by decide)) q360a q360c (g := (mkF m 141 #[.val (.int p0), .val (.int p1), .val (.ref b3), .val (.ref b33), .val (.ref ba264), .val (.ref b274), .val (.ref b1_319), .val (.ref ba15_319)] [(.ref b274), (.ref b274)])) rfl (by rw [hml]; rfl) (Steps.refl _) (argsL := [(.ref b274)]) (rest := []) (lenOf own_pd9 rfl) rfl (by show 2 * 0 + _ ≤ _; exact Nat.le_of_eq rfl) (hb hby at_141) (fun _ _ => ⟨rfl, e358, (by decide : 9 + 0 ≤ _), (by decide : 31 + 0 ≤ _)⟩)
      dsimp only [Pt.U, Pt.locs, Pt.cells, Pt.slots] at X360 l360 y360 z360 st360 hQ360
      subst l360 y360 z360
      obtain ⟨rfl, N360q, e360⟩ := hQ360
      have N361 := Fr.app N359 N360q
      obtain ⟨cq362, kq362, q362a, q362b, q362c⟩ := isOf hZ319 e360 f320
      obtain ⟨_, _, ⟨T362, L362, k362, n362⟩, -, X362, ⟨Lc362, hQ362, l362, y362, z362⟩, st362⟩ := X360.virtualBack hx (y := (⟨"com/example/casewright/engine/TestResult", "status", "()Lcom/example/casewright/engine/TestResult$Status;"⟩ : MethodName)) (z := (⟨"com/example/casewright/engine/TestResult", "status", "()Lcom/example/casewright/engine/TestResult$Status;"⟩ : MethodName)) hown319 (mvT hZ319 (hw _ (List.mem_of_getElem? (i := 81) rfl))) (mvT hZ319 (hw _ (List.mem_of_getElem? (i := 82) rfl))) (notFace_of_selects (args := #[]) (mvT hZ319 (hw _ (List.mem_of_getElem? (i := 84) rfl)))) (mvT hZ319 (hw _ (List.mem_of_getElem? (i := 84) rfl))) (mvT hZ319 (hw _ (List.mem_of_getElem? (i := 83) rfl))) (by decide) (backOf (W := 0) (own_rm14 l Z a0 hw [] b1_319 z_PA T319.heap n0 zs349 f323) hZ319 (hw _ (List.mem_of_getElem? (i := 85) rfl)) (hw _ (List.mem_of_getElem? (i := 32) rfl)) (by decide) (by decide)) q362a q362c (g := (mkF m 149 #[.val (.int p0), .val (.int p1), .val (.ref b3), .val (.ref b33), .val (.ref ba264), .val (.ref b274), .val (.ref b1_319), .val (.ref ba15_319)] [(.ref b1_319)])) rfl (by rw [hml]; rfl) (Steps.refl _) (argsL := []) (rest := []) (lenOf own_pd10 rfl) rfl (by show 2 * 0 + _ ≤ _; exact Nat.le_of_eq rfl) (hb hby at_149) (fun _ _ => ⟨rfl, e360, (by decide : 9 + 0 ≤ _), (by decide : 31 + 0 ≤ _)⟩)
      dsimp only [Pt.U, Pt.locs, Pt.cells, Pt.slots] at X362 l362 y362 z362 st362 hQ362
      subst l362 y362 z362
      obtain ⟨rfl, N362q, e362⟩ := hQ362
      have N363 := Fr.app N361 N362q
      obtain ⟨T364, X364, e364, st364⟩ := getS2 X362 hx hZ319 hown319 (host := "") (Or.inl (hw _ (List.mem_of_getElem? (i := 86) rfl))) Via.refl e362 f338 (g := (mkF m 152 #[.val (.int p0), .val (.int p1), .val (.ref b3), .val (.ref b33), .val (.ref ba264), .val (.ref b274), .val (.ref b1_319), .val (.ref ba15_319)] [(.ref z_PA)])) rfl (hb hby at_152)
      obtain ⟨cq365, kq365, q365a, q365b, q365c⟩ := isOf hZ319 e364 f320
      obtain ⟨_, _, ⟨T365, L365, k365, n365⟩, -, X365, ⟨Lc365, hQ365, l365, y365, z365⟩, st365⟩ := X364.virtualBack hx (y := (⟨"com/example/casewright/engine/TestResult", "problem", "()Ljava/lang/Throwable;"⟩ : MethodName)) (z := (⟨"com/example/casewright/engine/TestResult", "problem", "()Ljava/lang/Throwable;"⟩ : MethodName)) hown319 (mvT hZ319 (hw _ (List.mem_of_getElem? (i := 87) rfl))) (mvT hZ319 (hw _ (List.mem_of_getElem? (i := 88) rfl))) (notFace_of_selects (args := #[]) (mvT hZ319 (hw _ (List.mem_of_getElem? (i := 90) rfl)))) (mvT hZ319 (hw _ (List.mem_of_getElem? (i := 90) rfl))) (mvT hZ319 (hw _ (List.mem_of_getElem? (i := 89) rfl))) (by decide) (backOf (W := 0) (own_rm15 l Z a0 hw [] b1_319 T319.heap n0 zs349 f324) hZ319 (hw _ (List.mem_of_getElem? (i := 91) rfl)) (hw _ (List.mem_of_getElem? (i := 32) rfl)) (by decide) (by decide)) q365a q365c (g := (mkF m 160 #[.val (.int p0), .val (.int p1), .val (.ref b3), .val (.ref b33), .val (.ref ba264), .val (.ref b274), .val (.ref b1_319), .val (.ref ba15_319)] [(.ref b1_319)])) rfl (by rw [hml]; rfl) (Steps.refl _) (argsL := []) (rest := []) (lenOf own_pd11 rfl) rfl (by show 2 * 0 + _ ≤ _; exact Nat.le_of_eq rfl) (hb hby at_160) (fun _ _ => ⟨rfl, e364, (by decide : 9 + 0 ≤ _), (by decide : 31 + 0 ≤ _)⟩)
      dsimp only [Pt.U, Pt.locs, Pt.cells, Pt.slots] at X365 l365 y365 z365 st365 hQ365
      subst l365 y365 z365
      obtain ⟨rfl, N365q, e365⟩ := hQ365
      have N366 := Fr.app N363 N365q
      obtain ⟨cq367, kq367, q367a, q367b, q367c⟩ := isOf hZ319 e365 f326
      obtain ⟨_, _, ⟨T367, L367, k367, n367⟩, -, X367, ⟨Lc367, hQ367, l367, y367, z367⟩, st367⟩ := X365.virtualBack hx (y := (⟨"java/lang/String", "isEmpty", "()Z"⟩ : MethodName)) (z := (⟨"java/lang/String", "isEmpty", "()Z"⟩ : MethodName)) hown319 (mvT hZ319 (hw _ (List.mem_of_getElem? (i := 92) rfl))) (mvT hZ319 (hw _ (List.mem_of_getElem? (i := 93) rfl))) (notFace_of_selects (args := #[]) (mvT hZ319 (hw _ (List.mem_of_getElem? (i := 95) rfl)))) (mvT hZ319 (hw _ (List.mem_of_getElem? (i := 95) rfl))) (mvT hZ319 (hw _ (List.mem_of_getElem? (i := 94) rfl))) (by decide) (backOf (W := 0) (own_rm16 l Z a0 hw [] ba15_319 bb15_319 kc15_319 (0 : Int32) [] T319.heap n0 zs349 f328 f329) hZ319 (hw _ (List.mem_of_getElem? (i := 96) rfl)) (hw _ (List.mem_of_getElem? (i := 3) rfl)) (by decide) (by decide)) q367a q367c (g := (mkF m 173 #[.val (.int p0), .val (.int p1), .val (.ref b3), .val (.ref b33), .val (.ref ba264), .val (.ref b274), .val (.ref b1_319), .val (.ref ba15_319)] [(.ref ba15_319)])) rfl (by rw [hml]; rfl) (Steps.refl _) (argsL := []) (rest := []) (lenOf own_pd12 rfl) rfl (by show 2 * 0 + _ ≤ _; exact Nat.le_of_eq rfl) (hb hby at_173) (fun _ _ => ⟨rfl, e365, (by decide : 9 + 0 ≤ _), (by decide : 31 + 0 ≤ _)⟩)
      dsimp only [Pt.U, Pt.locs, Pt.cells, Pt.slots] at X367 l367 y367 z367 st367 hQ367
      subst l367 y367 z367
      obtain ⟨rfl, N367q, e367⟩ := hQ367
      have N368 := Fr.app N366 N367q
      have pre369 : ∀ t, Steps p.tables e below (T367.setTop (mkF m 176 #[.val (.int p0), .val (.int p1), .val (.ref b3), .val (.ref b33), .val (.ref ba264), .val (.ref b274), .val (.ref b1_319), .val (.ref ba15_319)] [(.int (own_f16 (0 : Int32)))])) t → Steps p.tables e below (s₁.setTop (entryFrame m #[(.int p0), (.int p1)] maxLocals)) t := fun t k => pre272 t (by
          refine XS.ifYes X264.here hx rfl (pc0 := 80) (pc' := 88) rfl (hb hby at_80) rfl ((if0 _ _).trans (teq hc273).1) (by decide) (by decide) ?_
          show Steps p.tables e below (T264.setTop (mkF m 88 #[.val (.int p0), .val (.int p1), .val (.ref b3), .val (.ref b33), .val (.ref ba264), .unset, .unset, .unset] [])) _
          refine st274 _ ?_
          show Steps p.tables e below (T274.setTop (mkF m 91 #[.val (.int p0), .val (.int p1), .val (.ref b3), .val (.ref b33), .val (.ref ba264), .unset, .unset, .unset] [(.ref b274)])) _
          refine XS.dup X274.here hx rfl (hb hby at_91) rfl rfl ?_
          show Steps p.tables e below (T274.setTop (mkF m 92 #[.val (.int p0), .val (.int p1), .val (.ref b3), .val (.ref b33), .val (.ref ba264), .unset, .unset, .unset] [(.ref b274), (.ref b274)])) _
          refine XS.aloadN X274.here hx rfl (hb hby at_92) rfl rfl ?_
          show Steps p.tables e below (T274.setTop (mkF m 93 #[.val (.int p0), .val (.int p1), .val (.ref b3), .val (.ref b33), .val (.ref ba264), .unset, .unset, .unset] [(.ref b33), (.ref b274), (.ref b274)])) _
          refine st295.trans ?_
          show Steps p.tables e below (T295.setTop (mkF m 96 #[.val (.int p0), .val (.int p1), .val (.ref b3), .val (.ref b33), .val (.ref ba264), .unset, .unset, .unset] [(.ref b274)])) _
          refine XS.astore X295.here hx rfl (hb hby at_96) rfl rfl (l' := #[.val (.int p0), .val (.int p1), .val (.ref b3), .val (.ref b33), .val (.ref ba264), .val (.ref b274), .unset, .unset]) rfl ?_
          show Steps p.tables e below (T295.setTop (mkF m 98 #[.val (.int p0), .val (.int p1), .val (.ref b3), .val (.ref b33), .val (.ref ba264), .val (.ref b274), .unset, .unset] [])) _
          refine XS.aload X295.here hx rfl (hb hby at_98) rfl rfl ?_
          show Steps p.tables e below (T295.setTop (mkF m 100 #[.val (.int p0), .val (.int p1), .val (.ref b3), .val (.ref b33), .val (.ref ba264), .val (.ref b274), .unset, .unset] [(.ref ba264)])) _
          refine XS.aload X295.here hx rfl (hb hby at_100) rfl rfl ?_
          show Steps p.tables e below (T295.setTop (mkF m 102 #[.val (.int p0), .val (.int p1), .val (.ref b3), .val (.ref b33), .val (.ref ba264), .val (.ref b274), .unset, .unset] [(.ref b274), (.ref ba264)])) _
          refine st319.trans ?_
          show Steps p.tables e below (T319.setTop (mkF m 105 #[.val (.int p0), .val (.int p1), .val (.ref b3), .val (.ref b33), .val (.ref ba264), .val (.ref b274), .unset, .unset] [(.ref b1_319)])) _
          refine XS.astore X319r.here hx rfl (hb hby at_105) rfl rfl (l' := #[.val (.int p0), .val (.int p1), .val (.ref b3), .val (.ref b33), .val (.ref ba264), .val (.ref b274), .val (.ref b1_319), .unset]) rfl ?_
          show Steps p.tables e below (T319.setTop (mkF m 107 #[.val (.int p0), .val (.int p1), .val (.ref b3), .val (.ref b33), .val (.ref ba264), .val (.ref b274), .val (.ref b1_319), .unset] [])) _
          refine XS.aload X319r.here hx rfl (hb hby at_107) rfl rfl ?_
          show Steps p.tables e below (T319.setTop (mkF m 109 #[.val (.int p0), .val (.int p1), .val (.ref b3), .val (.ref b33), .val (.ref ba264), .val (.ref b274), .val (.ref b1_319), .unset] [(.ref b1_319)])) _
          refine XS.ifnonnullYes X319r.here hx rfl (pc0 := 109) (pc' := 114) rfl (hb hby at_109) rfl (by decide) (by decide) ?_
          show Steps p.tables e below (T319.setTop (mkF m 114 #[.val (.int p0), .val (.int p1), .val (.ref b3), .val (.ref b33), .val (.ref ba264), .val (.ref b274), .val (.ref b1_319), .unset] [])) _
          refine XS.aload X319r.here hx rfl (hb hby at_114) rfl rfl ?_
          show Steps p.tables e below (T319.setTop (mkF m 116 #[.val (.int p0), .val (.int p1), .val (.ref b3), .val (.ref b33), .val (.ref ba264), .val (.ref b274), .val (.ref b1_319), .unset] [(.ref b1_319)])) _
          refine st352.trans ?_
          show Steps p.tables e below (T352.setTop (mkF m 119 #[.val (.int p0), .val (.int p1), .val (.ref b3), .val (.ref b33), .val (.ref ba264), .val (.ref b274), .val (.ref b1_319), .unset] [(.ref ba15_319)])) _
          refine XS.astore X352.here hx rfl (hb hby at_119) rfl rfl (l' := #[.val (.int p0), .val (.int p1), .val (.ref b3), .val (.ref b33), .val (.ref ba264), .val (.ref b274), .val (.ref b1_319), .val (.ref ba15_319)]) rfl ?_
          show Steps p.tables e below (T352.setTop (mkF m 121 #[.val (.int p0), .val (.int p1), .val (.ref b3), .val (.ref b33), .val (.ref ba264), .val (.ref b274), .val (.ref b1_319), .val (.ref ba15_319)] [])) _
          refine XS.aload X352.here hx rfl (hb hby at_121) rfl rfl ?_
          show Steps p.tables e below (T352.setTop (mkF m 123 #[.val (.int p0), .val (.int p1), .val (.ref b3), .val (.ref b33), .val (.ref ba264), .val (.ref b274), .val (.ref b1_319), .val (.ref ba15_319)] [(.ref ba264)])) _
          refine XS.aload X352.here hx rfl (hb hby at_123) rfl rfl ?_
          show Steps p.tables e below (T352.setTop (mkF m 125 #[.val (.int p0), .val (.int p1), .val (.ref b3), .val (.ref b33), .val (.ref ba264), .val (.ref b274), .val (.ref b1_319), .val (.ref ba15_319)] [(.ref b1_319), (.ref ba264)])) _
          refine st354.trans ?_
          show Steps p.tables e below (T354.setTop (mkF m 128 #[.val (.int p0), .val (.int p1), .val (.ref b3), .val (.ref b33), .val (.ref ba264), .val (.ref b274), .val (.ref b1_319), .val (.ref ba15_319)] [(.ref ba264), (.ref ba264)])) _
          refine st356.trans ?_
          show Steps p.tables e below (T356.setTop (mkF m 131 #[.val (.int p0), .val (.int p1), .val (.ref b3), .val (.ref b33), .val (.ref ba264), .val (.ref b274), .val (.ref b1_319), .val (.ref ba15_319)] [(.int (1 : Int32))])) _
          refine XS.ifNo X356.here hx rfl (hb hby at_131) rfl ((if0 _ _).trans (feq (by decide : ¬ ((1 : Int32) = (0 : Int32)))).1) ?_
          show Steps p.tables e below (T356.setTop (mkF m 134 #[.val (.int p0), .val (.int p1), .val (.ref b3), .val (.ref b33), .val (.ref ba264), .val (.ref b274), .val (.ref b1_319), .val (.ref ba15_319)] [])) _
          refine XS.aload X356.here hx rfl (hb hby at_134) rfl rfl ?_
          show Steps p.tables e below (T356.setTop (mkF m 136 #[.val (.int p0), .val (.int p1), .val (.ref b3), .val (.ref b33), .val (.ref ba264), .val (.ref b274), .val (.ref b1_319), .val (.ref ba15_319)] [(.ref b274)])) _
          refine XS.aload X356.here hx rfl (hb hby at_136) rfl rfl ?_
          show Steps p.tables e below (T356.setTop (mkF m 138 #[.val (.int p0), .val (.int p1), .val (.ref b3), .val (.ref b33), .val (.ref ba264), .val (.ref b274), .val (.ref b1_319), .val (.ref ba15_319)] [(.ref b1_319), (.ref b274)])) _
          refine st358.trans ?_
          show Steps p.tables e below (T358.setTop (mkF m 141 #[.val (.int p0), .val (.int p1), .val (.ref b3), .val (.ref b33), .val (.ref ba264), .val (.ref b274), .val (.ref b1_319), .val (.ref ba15_319)] [(.ref b274), (.ref b274)])) _
          refine st360.trans ?_
          show Steps p.tables e below (T360.setTop (mkF m 144 #[.val (.int p0), .val (.int p1), .val (.ref b3), .val (.ref b33), .val (.ref ba264), .val (.ref b274), .val (.ref b1_319), .val (.ref ba15_319)] [(.int (1 : Int32))])) _
          refine XS.ifNo X360.here hx rfl (hb hby at_144) rfl ((if0 _ _).trans (feq (by decide : ¬ ((1 : Int32) = (0 : Int32)))).1) ?_
          show Steps p.tables e below (T360.setTop (mkF m 147 #[.val (.int p0), .val (.int p1), .val (.ref b3), .val (.ref b33), .val (.ref ba264), .val (.ref b274), .val (.ref b1_319), .val (.ref ba15_319)] [])) _
          refine XS.aload X360.here hx rfl (hb hby at_147) rfl rfl ?_
          show Steps p.tables e below (T360.setTop (mkF m 149 #[.val (.int p0), .val (.int p1), .val (.ref b3), .val (.ref b33), .val (.ref ba264), .val (.ref b274), .val (.ref b1_319), .val (.ref ba15_319)] [(.ref b1_319)])) _
          refine st362.trans ?_
          show Steps p.tables e below (T362.setTop (mkF m 152 #[.val (.int p0), .val (.int p1), .val (.ref b3), .val (.ref b33), .val (.ref ba264), .val (.ref b274), .val (.ref b1_319), .val (.ref ba15_319)] [(.ref z_PA)])) _
          refine st364 _ ?_
          show Steps p.tables e below (T364.setTop (mkF m 155 #[.val (.int p0), .val (.int p1), .val (.ref b3), .val (.ref b33), .val (.ref ba264), .val (.ref b274), .val (.ref b1_319), .val (.ref ba15_319)] [(.ref z_PA), (.ref z_PA)])) _
          refine Jvm.RoadKit.acmp (g := (mkF m 155 #[.val (.int p0), .val (.int p1), .val (.ref b3), .val (.ref b33), .val (.ref ba264), .val (.ref b274), .val (.ref b1_319), .val (.ref ba15_319)] [(.ref z_PA), (.ref z_PA)])) X364 hx rfl rfl rfl (pc0 := 155) (pc' := 158) (same := true) rfl (hb hby at_155) rfl (decide_eq_true rfl) (by decide) (by decide) ?_
          show Steps p.tables e below (T364.setTop (mkF m 158 #[.val (.int p0), .val (.int p1), .val (.ref b3), .val (.ref b33), .val (.ref ba264), .val (.ref b274), .val (.ref b1_319), .val (.ref ba15_319)] [])) _
          refine XS.aload X364.here hx rfl (hb hby at_158) rfl rfl ?_
          show Steps p.tables e below (T364.setTop (mkF m 160 #[.val (.int p0), .val (.int p1), .val (.ref b3), .val (.ref b33), .val (.ref ba264), .val (.ref b274), .val (.ref b1_319), .val (.ref ba15_319)] [(.ref b1_319)])) _
          refine st365.trans ?_
          show Steps p.tables e below (T365.setTop (mkF m 163 #[.val (.int p0), .val (.int p1), .val (.ref b3), .val (.ref b33), .val (.ref ba264), .val (.ref b274), .val (.ref b1_319), .val (.ref ba15_319)] [.null])) _
          refine XS.ifnonnullNo X365.here hx rfl (hb hby at_163) rfl ?_
          show Steps p.tables e below (T365.setTop (mkF m 166 #[.val (.int p0), .val (.int p1), .val (.ref b3), .val (.ref b33), .val (.ref ba264), .val (.ref b274), .val (.ref b1_319), .val (.ref ba15_319)] [])) _
          refine XS.aload X365.here hx rfl (hb hby at_166) rfl rfl ?_
          show Steps p.tables e below (T365.setTop (mkF m 168 #[.val (.int p0), .val (.int p1), .val (.ref b3), .val (.ref b33), .val (.ref ba264), .val (.ref b274), .val (.ref b1_319), .val (.ref ba15_319)] [(.ref ba15_319)])) _
          refine XS.ifnullNo X365.here hx rfl (hb hby at_168) rfl ?_
          show Steps p.tables e below (T365.setTop (mkF m 171 #[.val (.int p0), .val (.int p1), .val (.ref b3), .val (.ref b33), .val (.ref ba264), .val (.ref b274), .val (.ref b1_319), .val (.ref ba15_319)] [])) _
          refine XS.aload X365.here hx rfl (hb hby at_171) rfl rfl ?_
          show Steps p.tables e below (T365.setTop (mkF m 173 #[.val (.int p0), .val (.int p1), .val (.ref b3), .val (.ref b33), .val (.ref ba264), .val (.ref b274), .val (.ref b1_319), .val (.ref ba15_319)] [(.ref ba15_319)])) _
          refine st367.trans ?_
          show Steps p.tables e below (T367.setTop (mkF m 176 #[.val (.int p0), .val (.int p1), .val (.ref b3), .val (.ref b33), .val (.ref ba264), .val (.ref b274), .val (.ref b1_319), .val (.ref ba15_319)] [(.int (own_f16 (0 : Int32)))])) _
          exact k)
      by_cases hc370 : (own_f16 (0 : Int32)) = (0 : Int32)
      · have pre371 : ∀ t, Steps p.tables e below (T367.setTop (mkF m 184 #[.val (.int p0), .val (.int p1), .val (.ref b3), .val (.ref b33), .val (.ref ba264), .val (.ref b274), .val (.ref b1_319), .val (.ref ba15_319)] [(.int (0 : Int32))])) t → Steps p.tables e below (s₁.setTop (entryFrame m #[(.int p0), (.int p1)] maxLocals)) t := fun t k => pre369 t (by
            refine XS.ifYes X367.here hx rfl (pc0 := 176) (pc' := 183) rfl (hb hby at_176) rfl ((if0 _ _).trans (teq hc370).1) (by decide) (by decide) ?_
            show Steps p.tables e below (T367.setTop (mkF m 183 #[.val (.int p0), .val (.int p1), .val (.ref b3), .val (.ref b33), .val (.ref ba264), .val (.ref b274), .val (.ref b1_319), .val (.ref ba15_319)] [])) _
            refine XS.iconst X367.here hx rfl (hb hby at_183) ?_
            show Steps p.tables e below (T367.setTop (mkF m 184 #[.val (.int p0), .val (.int p1), .val (.ref b3), .val (.ref b33), .val (.ref ba264), .val (.ref b274), .val (.ref b1_319), .val (.ref ba15_319)] [(.int (0 : Int32))])) _
            exact k)
        obtain ⟨fs, hr, hrun, hended, hEnd⟩ := X367.leaveW (s := s) (vm₁ := T319.vm) hS319 (by rw [e367]; exact (Nat.le_refl _)) (v := some (.int (0 : Int32))) (fun h => by rw [Bd.returns] at h; cases h) (hlocks := hlk)
        refine ⟨_, _, pre371 _ ?_, hrun, hended, _, _, rfl, ?_, hEnd.1, hEnd.2.1, hEnd.2.2.1, hEnd.2.2.2.mono (by decide) (by decide)⟩
        · show Steps p.tables e below (T367.setTop (mkF m 184 #[.val (.int p0), .val (.int p1), .val (.ref b3), .val (.ref b33), .val (.ref ba264), .val (.ref b274), .val (.ref b1_319), .val (.ref ba15_319)] [(.int (0 : Int32))])) _
          exact retN X367 hx (t := .boolean) Bd.returns (by simp) (hb hby at_184) hr
        · show own_Q0 Z p0 p1 z_COMPACT_STRINGS z_PA h0 n0 _ T367.heap _; exact ⟨(by show some (Value.int _) = some (.int (own_f0 p0 p1)); unfold own_f0; rw [if_neg hc67, if_pos hc273, if_pos hc370]), N368⟩
      · have pre372 : ∀ t, Steps p.tables e below (T367.setTop (mkF m 184 #[.val (.int p0), .val (.int p1), .val (.ref b3), .val (.ref b33), .val (.ref ba264), .val (.ref b274), .val (.ref b1_319), .val (.ref ba15_319)] [(.int (1 : Int32))])) t → Steps p.tables e below (s₁.setTop (entryFrame m #[(.int p0), (.int p1)] maxLocals)) t := fun t k => pre369 t (by
            refine XS.ifNo X367.here hx rfl (hb hby at_176) rfl ((if0 _ _).trans (feq hc370).1) ?_
            show Steps p.tables e below (T367.setTop (mkF m 179 #[.val (.int p0), .val (.int p1), .val (.ref b3), .val (.ref b33), .val (.ref ba264), .val (.ref b274), .val (.ref b1_319), .val (.ref ba15_319)] [])) _
            refine XS.iconst X367.here hx rfl (hb hby at_179) ?_
            show Steps p.tables e below (T367.setTop (mkF m 180 #[.val (.int p0), .val (.int p1), .val (.ref b3), .val (.ref b33), .val (.ref ba264), .val (.ref b274), .val (.ref b1_319), .val (.ref ba15_319)] [(.int (1 : Int32))])) _
            refine XS.goto X367.here hx rfl (pc0 := 180) (pc' := 184) rfl (hb hby at_180) (by decide) (by decide) ?_
            show Steps p.tables e below (T367.setTop (mkF m 184 #[.val (.int p0), .val (.int p1), .val (.ref b3), .val (.ref b33), .val (.ref ba264), .val (.ref b274), .val (.ref b1_319), .val (.ref ba15_319)] [(.int (1 : Int32))])) _
            exact k)
        obtain ⟨fs, hr, hrun, hended, hEnd⟩ := X367.leaveW (s := s) (vm₁ := T319.vm) hS319 (by rw [e367]; exact (Nat.le_refl _)) (v := some (.int (1 : Int32))) (fun h => by rw [Bd.returns] at h; cases h) (hlocks := hlk)
        refine ⟨_, _, pre372 _ ?_, hrun, hended, _, _, rfl, ?_, hEnd.1, hEnd.2.1, hEnd.2.2.1, hEnd.2.2.2.mono (by decide) (by decide)⟩
        · show Steps p.tables e below (T367.setTop (mkF m 184 #[.val (.int p0), .val (.int p1), .val (.ref b3), .val (.ref b33), .val (.ref ba264), .val (.ref b274), .val (.ref b1_319), .val (.ref ba15_319)] [(.int (1 : Int32))])) _
          exact retN X367 hx (t := .boolean) Bd.returns (by simp) (hb hby at_184) hr
        · show own_Q0 Z p0 p1 z_COMPACT_STRINGS z_PA h0 n0 _ T367.heap _; exact ⟨(by show some (Value.int _) = some (.int (own_f0 p0 p1)); unfold own_f0; rw [if_neg hc67, if_pos hc273, if_neg hc370]), N368⟩
    · obtain ⟨ba373, T373, h373, k1373, bb373, kc373, X373, e373, E373, hS373, kk373, hZ373, hown373, fa373, fb373, fc373, fd373, -, -, hC373, -, -, st373⟩ := ldcCH (s := s) (vm0 := T264.vm) X264 hx hZ264 hown264 (hw _ (List.mem_of_getElem? (i := 97) rfl)) (own_wS Z a0 hw) e264 hS264 kk264 (own_EW Z a0 hw) (List.mem_of_getElem? (i := 1) rfl) hC264.1 (vs := []) (z := (0 : Int32)) ⟨by decide, by decide⟩ (by decide) (by decide) (g := (mkF m 83 #[.val (.int p0), .val (.int p1), .val (.ref b3), .val (.ref b33), .val (.ref ba264), .unset, .unset, .unset] [])) rfl (hb hby at_83) (n := 4) (by decide) (by decide) (by decide) (by decide)
      have f374 : Old Z n0 h373 := f265.ext E373
      have f375 : Sta Z h373 "java/lang/String" "COMPACT_STRINGS" "Z" (.int z_COMPACT_STRINGS) := f266.ext E373
      have f376 : Sta Z h373 "com/example/casewright/engine/TestResult$Status" "PASSED" "Lcom/example/casewright/engine/TestResult$Status;" (.ref z_PA) := f267.ext E373
      have f377 : Arv Z h373 b3 k3 .char (2 : Int32) [(.int (nar .char ((p0 &&& (255 : Int32)).toUInt32.toUInt16.toUInt32.toInt32))), (.int (nar .char ((((p0.toUInt32 >>> ((8 : Int32) &&& 31).toUInt32).toInt32) &&& (255 : Int32)).toUInt32.toUInt16.toUInt32.toInt32)))] (.int (0 : Int32)) := f268.ext E373
      have f378 : Arv Z h373 b33 k33 .char (2 : Int32) [(.int (nar .char ((p1 &&& (255 : Int32)).toUInt32.toUInt16.toUInt32.toInt32))), (.int (nar .char ((((p1.toUInt32 >>> ((8 : Int32) &&& 31).toUInt32).toInt32) &&& (255 : Int32)).toUInt32.toUInt16.toUInt32.toInt32)))] (.int (0 : Int32)) := f269.ext E373
      have f379 : Exa Z h373 ba264 "java/lang/String" := fa264.ext E373
      have f380 : Fld Z h373 ba264 "java/lang/String" "coder" "B" (.int (0 : Int32)) := fb264.ext E373
      have f381 : Fld Z h373 ba264 "java/lang/String" "value" "[B" (.ref bb264) := fc264.ext E373
      have f382 : Arv Z h373 bb264 kc264 .byte (0 : Int32) [] (.int (0 : Int32)) := fd264.ext E373
      have zs383 : n0 ≤ h373.size := Nat.le_trans zs270 E373.1
      have K384 : Keep h0 h373 [] := K271.ext E373
      obtain ⟨_, _, ⟨T385, L385, k385, n385⟩, -, X385, hs385, hg385, ⟨Lc385, hQ385, l385, y385, z385⟩, st385⟩ := callSS (s := s.setVm T373.vm) X373 hx (y := (⟨"com/example/casewright/engine/TestResult", "passed", "(Ljava/lang/String;Ljava/lang/String;)Lcom/example/casewright/engine/TestResult;"⟩ : MethodName)) hown373 (mvT hZ373 (hw _ (List.mem_of_getElem? (i := 30) rfl))) (mvT hZ373 (hw _ (List.mem_of_getElem? (i := 31) rfl))) (mvT hZ373 (hw _ (List.mem_of_getElem? (i := 32) rfl))) (mvT hZ373 (hw _ (List.mem_of_getElem? (i := 33) rfl))) (by decide) (own_backJ (W := 0) (own_rm7 l Z a0 hw [] ba264 ba373 z_PA h373 n0 zs383 f374 f376) hZ373 ⟨hZ373, ⟨a0, own_EW Z a0 hw⟩, hC373.1⟩ (hw _ (List.mem_of_getElem? (i := 33) rfl)) (hw _ (List.mem_of_getElem? (i := 32) rfl)) (by decide) (by decide)) (g := (mkF m 102 #[.val (.int p0), .val (.int p1), .val (.ref b3), .val (.ref b33), .val (.ref ba264), .val (.ref ba373), .unset, .unset] [(.ref ba373), (.ref ba264)])) rfl (by rw [hml]; rfl) (argsL := [(.ref ba264), (.ref ba373)]) (rest := []) (lenOf own_pd7 rfl) rfl (by show 2 * 0 + _ ≤ _; exact Nat.le_of_eq rfl) (hb hby at_102) (fun _ _ => ⟨rfl, e373, (by decide : 6 + 3 ≤ _), (by decide : 20 + 13 ≤ _)⟩)
      dsimp only [Pt.U, Pt.locs, Pt.cells, Pt.slots] at X385 l385 y385 z385 st385 hQ385 hs385 hg385
      subst l385 y385 z385
      obtain ⟨X385r, hS385, hZ385, hown385⟩ := rebS (s := s) (vm0 := T373.vm) hS373 (by rw [e373]; exact kk373) X385 hs385 hg385 hZ373 hown373
      obtain ⟨b1_385, kc15_385, ba15_385, bb15_385, rfl, N385q, K385, sqb1_385_385, f386, f387, f388, f389, f390, f391, f392, f393, f394, f395, J385⟩ := hQ385
      have g_b1_385 : n0 ≤ b1_385 := Nat.le_trans zs383 sqb1_385_385
      have sz_b1_385 : h0.size ≤ b1_385 := Nat.le_trans K384.1 sqb1_385_385
      have lt396 : b3 < b1_385 := Nat.lt_of_lt_of_le f377.lt sqb1_385_385
      have lt397 : b33 < b1_385 := Nat.lt_of_lt_of_le f378.lt sqb1_385_385
      have lt398 : ba264 < b1_385 := Nat.lt_of_lt_of_le f381.lt sqb1_385_385
      have lt399 : bb264 < b1_385 := Nat.lt_of_lt_of_le f382.lt sqb1_385_385
      have lt400 : ba373 < b1_385 := Nat.lt_of_lt_of_le fc373.lt sqb1_385_385
      have lt401 : bb373 < b1_385 := Nat.lt_of_lt_of_le fd373.lt sqb1_385_385
      have f402 : Old Z n0 T385.heap := f374.keep K385 all0
      have f403 : Sta Z T385.heap "java/lang/String" "COMPACT_STRINGS" "Z" (.int z_COMPACT_STRINGS) := (sb1.ext f402.2)
      have f404 : Sta Z T385.heap "com/example/casewright/engine/TestResult$Status" "PASSED" "Lcom/example/casewright/engine/TestResult$Status;" (.ref z_PA) := (sb2.ext f402.2)
      have f405 : Arv Z T385.heap b3 k3 .char (2 : Int32) [(.int (nar .char ((p0 &&& (255 : Int32)).toUInt32.toUInt16.toUInt32.toInt32))), (.int (nar .char ((((p0.toUInt32 >>> ((8 : Int32) &&& 31).toUInt32).toInt32) &&& (255 : Int32)).toUInt32.toUInt16.toUInt32.toInt32)))] (.int (0 : Int32)) := f377.keep K385 nin0
      have f406 : Arv Z T385.heap b33 k33 .char (2 : Int32) [(.int (nar .char ((p1 &&& (255 : Int32)).toUInt32.toUInt16.toUInt32.toInt32))), (.int (nar .char ((((p1.toUInt32 >>> ((8 : Int32) &&& 31).toUInt32).toInt32) &&& (255 : Int32)).toUInt32.toUInt16.toUInt32.toInt32)))] (.int (0 : Int32)) := f378.keep K385 nin0
      have f407 : Exa Z T385.heap ba264 "java/lang/String" := f379.keep K385
      have f408 : Fld Z T385.heap ba264 "java/lang/String" "coder" "B" (.int (0 : Int32)) := f380.keep K385 nin0
      have f409 : Fld Z T385.heap ba264 "java/lang/String" "value" "[B" (.ref bb264) := f381.keep K385 nin0
      have f410 : Arv Z T385.heap bb264 kc264 .byte (0 : Int32) [] (.int (0 : Int32)) := f382.keep K385 nin0
      have f411 : Exa Z T385.heap ba373 "java/lang/String" := fa373.keep K385
      have f412 : Fld Z T385.heap ba373 "java/lang/String" "coder" "B" (.int (0 : Int32)) := fb373.keep K385 nin0
      have f413 : Fld Z T385.heap ba373 "java/lang/String" "value" "[B" (.ref bb373) := fc373.keep K385 nin0
      have f414 : Arv Z T385.heap bb373 kc373 .byte (0 : Int32) [] (.int (0 : Int32)) := fd373.keep K385 nin0
      have zs415 : n0 ≤ T385.heap.size := Nat.le_trans zs383 K385.1
      have K416 : Keep h0 T385.heap [] := K384.trans K385 all0
      have N417 := Fr.app N64 N385q
      obtain ⟨cq418, kq418, q418a, q418b, q418c⟩ := isOf hZ385 rfl f386
      obtain ⟨_, _, ⟨T418, L418, k418, n418⟩, -, X418, ⟨Lc418, hQ418, l418, y418, z418⟩, st418⟩ := X385r.virtualBack hx (y := (⟨"com/example/casewright/engine/TestResult", "skipReason", "()Ljava/lang/String;"⟩ : MethodName)) (z := (⟨"com/example/casewright/engine/TestResult", "skipReason", "()Ljava/lang/String;"⟩ : MethodName)) hown385 (mvT hZ385 (hw _ (List.mem_of_getElem? (i := 61) rfl))) (mvT hZ385 (hw _ (List.mem_of_getElem? (i := 62) rfl))) (notFace_of_selects (args := #[]) (mvT hZ385 (hw _ (List.mem_of_getElem? (i := 64) rfl)))) (mvT hZ385 (hw _ (List.mem_of_getElem? (i := 64) rfl))) (mvT hZ385 (hw _ (List.mem_of_getElem? (i := 63) rfl))) (by decide) (backOf (W := 0) (own_rm10 l Z a0 hw [] b1_385 ba15_385 T385.heap n0 zs415 f391) hZ385 (hw _ (List.mem_of_getElem? (i := 65) rfl)) (hw _ (List.mem_of_getElem? (i := 32) rfl)) (by decide) (by decide)) q418a q418c (g := (mkF m 116 #[.val (.int p0), .val (.int p1), .val (.ref b3), .val (.ref b33), .val (.ref ba264), .val (.ref ba373), .val (.ref b1_385), .unset] [(.ref b1_385)])) rfl (by rw [hml]; rfl) (Steps.refl _) (argsL := []) (rest := []) (lenOf own_pd8 rfl) rfl (by show 2 * 0 + _ ≤ _; exact Nat.le_of_eq rfl) (hb hby at_116) (fun _ _ => ⟨rfl, rfl, (by decide : 9 + 0 ≤ _), (by decide : 33 + 0 ≤ _)⟩)
      dsimp only [Pt.U, Pt.locs, Pt.cells, Pt.slots] at X418 l418 y418 z418 st418 hQ418
      subst l418 y418 z418
      obtain ⟨rfl, N418q, e418⟩ := hQ418
      have N419 := Fr.app N417 N418q
      obtain ⟨cq420, kq420, q420a, q420b, q420c⟩ := isOf hZ385 e418 f386
      obtain ⟨_, _, ⟨T420, L420, k420, n420⟩, -, X420, ⟨Lc420, hQ420, l420, y420, z420⟩, st420⟩ := X418.virtualBack hx (y := (⟨"com/example/casewright/engine/TestResult", "className", "()Ljava/lang/String;"⟩ : MethodName)) (z := (⟨"com/example/casewright/engine/TestResult", "className", "()Ljava/lang/String;"⟩ : MethodName)) hown385 (mvT hZ385 (hw _ (List.mem_of_getElem? (i := 66) rfl))) (mvT hZ385 (hw _ (List.mem_of_getElem? (i := 67) rfl))) (notFace_of_selects (args := #[]) (mvT hZ385 (hw _ (List.mem_of_getElem? (i := 69) rfl)))) (mvT hZ385 (hw _ (List.mem_of_getElem? (i := 69) rfl))) (mvT hZ385 (hw _ (List.mem_of_getElem? (i := 68) rfl))) (by decide) (backOf (W := 1) (own_rm11 l Z a0 hw [] b1_385 ba264 T385.heap n0 zs415 f387) hZ385 (hw _ (List.mem_of_getElem? (i := 70) rfl)) (hw _ (List.mem_of_getElem? (i := 32) rfl)) (by decide) (by decide)) q420a q420c (g := (mkF m 125 #[.val (.int p0), .val (.int p1), .val (.ref b3), .val (.ref b33), .val (.ref ba264), .val (.ref ba373), .val (.ref b1_385), .val (.ref ba15_385)] [(.ref b1_385), (.ref ba264)])) rfl (by rw [hml]; rfl) (Steps.refl _) (argsL := []) (rest := [(.ref ba264)]) (lenOf own_pd8 rfl) rfl (by show 2 * 0 + _ ≤ _; exact Nat.le_of_eq rfl) (hb hby at_125) (fun _ _ => ⟨rfl, e418, (by decide : 9 + 0 ≤ _), (by decide : 33 + 0 ≤ _)⟩)
      dsimp only [Pt.U, Pt.locs, Pt.cells, Pt.slots] at X420 l420 y420 z420 st420 hQ420
      subst l420 y420 z420
      obtain ⟨rfl, N420q, e420⟩ := hQ420
      have N421 := Fr.app N419 N420q
      obtain ⟨cq422, kq422, q422a, q422b, q422c⟩ := isOf hZ385 e420 f407
      obtain ⟨_, _, ⟨T422, L422, k422, n422⟩, -, X422, ⟨Lc422, hQ422, l422, y422, z422⟩, st422⟩ := X420.virtualBack hx (y := (⟨"java/lang/String", "equals", "(Ljava/lang/Object;)Z"⟩ : MethodName)) (z := (⟨"java/lang/String", "equals", "(Ljava/lang/Object;)Z"⟩ : MethodName)) hown385 (mvT hZ385 (hw _ (List.mem_of_getElem? (i := 71) rfl))) (mvT hZ385 (hw _ (List.mem_of_getElem? (i := 72) rfl))) (notFace_of_selects (args := #[]) (mvT hZ385 (hw _ (List.mem_of_getElem? (i := 74) rfl)))) (mvT hZ385 (hw _ (List.mem_of_getElem? (i := 74) rfl))) (mvT hZ385 (hw _ (List.mem_of_getElem? (i := 73) rfl))) (by decide) (backOf (W := 0) (own_rm12 l Z a0 hw [] ba264 T385.heap n0 zs415 ) hZ385 (hw _ (List.mem_of_getElem? (i := 75) rfl)) (hw _ (List.mem_of_getElem? (i := 3) rfl)) (by decide) (by decide)) q422a q422c (g := (mkF m 128 #[.val (.int p0), .val (.int p1), .val (.ref b3), .val (.ref b33), .val (.ref ba264), .val (.ref ba373), .val (.ref b1_385), .val (.ref ba15_385)] [(.ref ba264), (.ref ba264)])) rfl (by rw [hml]; rfl) (Steps.refl _) (argsL := [(.ref ba264)]) (rest := []) (lenOf own_pd9 rfl) rfl (by show 2 * 0 + _ ≤ _; exact Nat.le_of_eq rfl) (hb hby at_128) (fun _ _ => ⟨rfl, e420, (by decide : 9 + 0 ≤ _), (by decide : 33 + 0 ≤ _)⟩)
      dsimp only [Pt.U, Pt.locs, Pt.cells, Pt.slots] at X422 l422 y422 z422 st422 hQ422
      subst l422 y422 z422
      obtain ⟨rfl, N422q, e422⟩ := hQ422
      have N423 := Fr.app N421 N422q
      obtain ⟨cq424, kq424, q424a, q424b, q424c⟩ := isOf hZ385 e422 f386
      obtain ⟨_, _, ⟨T424, L424, k424, n424⟩, -, X424, ⟨Lc424, hQ424, l424, y424, z424⟩, st424⟩ := X422.virtualBack hx (y := (⟨"com/example/casewright/engine/TestResult", "methodName", "()Ljava/lang/String;"⟩ : MethodName)) (z := (⟨"com/example/casewright/engine/TestResult", "methodName", "()Ljava/lang/String;"⟩ : MethodName)) hown385 (mvT hZ385 (hw _ (List.mem_of_getElem? (i := 76) rfl))) (mvT hZ385 (hw _ (List.mem_of_getElem? (i := 77) rfl))) (notFace_of_selects (args := #[]) (mvT hZ385 (hw _ (List.mem_of_getElem? (i := 79) rfl)))) (mvT hZ385 (hw _ (List.mem_of_getElem? (i := 79) rfl))) (mvT hZ385 (hw _ (List.mem_of_getElem? (i := 78) rfl))) (by decide) (backOf (W := 1) (own_rm13 l Z a0 hw [] b1_385 ba373 T385.heap n0 zs415 f388) hZ385 (hw _ (List.mem_of_getElem? (i := 80) rfl)) (hw _ (List.mem_of_getElem? (i := 32) rfl)) (by decide) (by decide)) q424a q424c (g := (mkF m 138 #[.val (.int p0), .val (.int p1), .val (.ref b3), .val (.ref b33), .val (.ref ba264), .val (.ref ba373), .val (.ref b1_385), .val (.ref ba15_385)] [(.ref b1_385), (.ref ba373)])) rfl (by rw [hml]; rfl) (Steps.refl _) (argsL := []) (rest := [(.ref ba373)]) (lenOf own_pd8 rfl) rfl (by show 2 * 0 + _ ≤ _; exact Nat.le_of_eq rfl) (hb hby at_138) (fun _ _ => ⟨rfl, e422, (by decide : 9 + 0 ≤ _), (by decide : 33 + 0 ≤ _)⟩)
      dsimp only [Pt.U, Pt.locs, Pt.cells, Pt.slots] at X424 l424 y424 z424 st424 hQ424
      subst l424 y424 z424
      obtain ⟨rfl, N424q, e424⟩ := hQ424
      have N425 := Fr.app N423 N424q
      obtain ⟨cq426, kq426, q426a, q426b, q426c⟩ := isOf hZ385 e424 f411
      obtain ⟨_, _, ⟨T426, L426, k426, n426⟩, -, X426, ⟨Lc426, hQ426, l426, y426, z426⟩, st426⟩ := X424.virtualBack hx (y := (⟨"java/lang/String", "equals", "(Ljava/lang/Object;)Z"⟩ : MethodName)) (z := (⟨"java/lang/String", "equals", "(Ljava/lang/Object;)Z"⟩ : MethodName)) hown385 (mvT hZ385 (hw _ (List.mem_of_getElem? (i := 71) rfl))) (mvT hZ385 (hw _ (List.mem_of_getElem? (i := 72) rfl))) (notFace_of_selects (args := #[]) (mvT hZ385 (hw _ (List.mem_of_getElem? (i := 74) rfl)))) (mvT hZ385 (hw _ (List.mem_of_getElem? (i := 74) rfl))) (mvT hZ385 (hw _ (List.mem_of_getElem? (i := 73) rfl))) (by decide) (backOf (W := 0) (own_rm12 l Z a0 hw [] ba373 T385.heap n0 zs415 ) hZ385 (hw _ (List.mem_of_getElem? (i := 75) rfl)) (hw _ (List.mem_of_getElem? (i := 3) rfl)) (by decide) (by decide)) q426a q426c (g := (mkF m 141 #[.val (.int p0), .val (.int p1), .val (.ref b3), .val (.ref b33), .val (.ref ba264), .val (.ref ba373), .val (.ref b1_385), .val (.ref ba15_385)] [(.ref ba373), (.ref ba373)])) rfl (by rw [hml]; rfl) (Steps.refl _) (argsL := [(.ref ba373)]) (rest := []) (lenOf own_pd9 rfl) rfl (by show 2 * 0 + _ ≤ _; exact Nat.le_of_eq rfl) (hb hby at_141) (fun _ _ => ⟨rfl, e424, (by decide : 9 + 0 ≤ _), (by decide : 33 + 0 ≤ _)⟩)
      dsimp only [Pt.U, Pt.locs, Pt.cells, Pt.slots] at X426 l426 y426 z426 st426 hQ426
      subst l426 y426 z426
      obtain ⟨rfl, N426q, e426⟩ := hQ426
      have N427 := Fr.app N425 N426q
      obtain ⟨cq428, kq428, q428a, q428b, q428c⟩ := isOf hZ385 e426 f386
      obtain ⟨_, _, ⟨T428, L428, k428, n428⟩, -, X428, ⟨Lc428, hQ428, l428, y428, z428⟩, st428⟩ := X426.virtualBack hx (y := (⟨"com/example/casewright/engine/TestResult", "status", "()Lcom/example/casewright/engine/TestResult$Status;"⟩ : MethodName)) (z := (⟨"com/example/casewright/engine/TestResult", "status", "()Lcom/example/casewright/engine/TestResult$Status;"⟩ : MethodName)) hown385 (mvT hZ385 (hw _ (List.mem_of_getElem? (i := 81) rfl))) (mvT hZ385 (hw _ (List.mem_of_getElem? (i := 82) rfl))) (notFace_of_selects (args := #[]) (mvT hZ385 (hw _ (List.mem_of_getElem? (i := 84) rfl)))) (mvT hZ385 (hw _ (List.mem_of_getElem? (i := 84) rfl))) (mvT hZ385 (hw _ (List.mem_of_getElem? (i := 83) rfl))) (by decide) (backOf (W := 0) (own_rm14 l Z a0 hw [] b1_385 z_PA T385.heap n0 zs415 f389) hZ385 (hw _ (List.mem_of_getElem? (i := 85) rfl)) (hw _ (List.mem_of_getElem? (i := 32) rfl)) (by decide) (by decide)) q428a q428c (g := (mkF m 149 #[.val (.int p0), .val (.int p1), .val (.ref b3), .val (.ref b33), .val (.ref ba264), .val (.ref ba373), .val (.ref b1_385), .val (.ref ba15_385)] [(.ref b1_385)])) rfl (by rw [hml]; rfl) (Steps.refl _) (argsL := []) (rest := []) (lenOf own_pd10 rfl) rfl (by show 2 * 0 + _ ≤ _; exact Nat.le_of_eq rfl) (hb hby at_149) (fun _ _ => ⟨rfl, e426, (by decide : 9 + 0 ≤ _), (by decide : 33 + 0 ≤ _)⟩)
      dsimp only [Pt.U, Pt.locs, Pt.cells, Pt.slots] at X428 l428 y428 z428 st428 hQ428
      subst l428 y428 z428
      obtain ⟨rfl, N428q, e428⟩ := hQ428
      have N429 := Fr.app N427 N428q
      obtain ⟨T430, X430, e430, st430⟩ := getS2 X428 hx hZ385 hown385 (host := "") (Or.inl (hw _ (List.mem_of_getElem? (i := 86) rfl))) Via.refl e428 f404 (g := (mkF m 152 #[.val (.int p0), .val (.int p1), .val (.ref b3), .val (.ref b33), .val (.ref ba264), .val (.ref ba373), .val (.ref b1_385), .val (.ref ba15_385)] [(.ref z_PA)])) rfl (hb hby at_152)
      obtain ⟨cq431, kq431, q431a, q431b, q431c⟩ := isOf hZ385 e430 f386
      obtain ⟨_, _, ⟨T431, L431, k431, n431⟩, -, X431, ⟨Lc431, hQ431, l431, y431, z431⟩, st431⟩ := X430.virtualBack hx (y := (⟨"com/example/casewright/engine/TestResult", "problem", "()Ljava/lang/Throwable;"⟩ : MethodName)) (z := (⟨"com/example/casewright/engine/TestResult", "problem", "()Ljava/lang/Throwable;"⟩ : MethodName)) hown385 (mvT hZ385 (hw _ (List.mem_of_getElem? (i := 87) rfl))) (mvT hZ385 (hw _ (List.mem_of_getElem? (i := 88) rfl))) (notFace_of_selects (args := #[]) (mvT hZ385 (hw _ (List.mem_of_getElem? (i := 90) rfl)))) (mvT hZ385 (hw _ (List.mem_of_getElem? (i := 90) rfl))) (mvT hZ385 (hw _ (List.mem_of_getElem? (i := 89) rfl))) (by decide) (backOf (W := 0) (own_rm15 l Z a0 hw [] b1_385 T385.heap n0 zs415 f390) hZ385 (hw _ (List.mem_of_getElem? (i := 91) rfl)) (hw _ (List.mem_of_getElem? (i := 32) rfl)) (by decide) (by decide)) q431a q431c (g := (mkF m 160 #[.val (.int p0), .val (.int p1), .val (.ref b3), .val (.ref b33), .val (.ref ba264), .val (.ref ba373), .val (.ref b1_385), .val (.ref ba15_385)] [(.ref b1_385)])) rfl (by rw [hml]; rfl) (Steps.refl _) (argsL := []) (rest := []) (lenOf own_pd11 rfl) rfl (by show 2 * 0 + _ ≤ _; exact Nat.le_of_eq rfl) (hb hby at_160) (fun _ _ => ⟨rfl, e430, (by decide : 9 + 0 ≤ _), (by decide : 33 + 0 ≤ _)⟩)
      dsimp only [Pt.U, Pt.locs, Pt.cells, Pt.slots] at X431 l431 y431 z431 st431 hQ431
      subst l431 y431 z431
      obtain ⟨rfl, N431q, e431⟩ := hQ431
      have N432 := Fr.app N429 N431q
      obtain ⟨cq433, kq433, q433a, q433b, q433c⟩ := isOf hZ385 e431 f392
      obtain ⟨_, _, ⟨T433, L433, k433, n433⟩, -, X433, ⟨Lc433, hQ433, l433, y433, z433⟩, st433⟩ := X431.virtualBack hx (y := (⟨"java/lang/String", "isEmpty", "()Z"⟩ : MethodName)) (z := (⟨"java/lang/String", "isEmpty", "()Z"⟩ : MethodName)) hown385 (mvT hZ385 (hw _ (List.mem_of_getElem? (i := 92) rfl))) (mvT hZ385 (hw _ (List.mem_of_getElem? (i := 93) rfl))) (notFace_of_selects (args := #[]) (mvT hZ385 (hw _ (List.mem_of_getElem? (i := 95) rfl)))) (mvT hZ385 (hw _ (List.mem_of_getElem? (i := 95) rfl))) (mvT hZ385 (hw _ (List.mem_of_getElem? (i := 94) rfl))) (by decide) (backOf (W := 0) (own_rm16 l Z a0 hw [] ba15_385 bb15_385 kc15_385 (0 : Int32) [] T385.heap n0 zs415 f394 f395) hZ385 (hw _ (List.mem_of_getElem? (i := 96) rfl)) (hw _ (List.mem_of_getElem? (i := 3) rfl)) (by decide) (by decide)) q433a q433c (g := (mkF m 173 #[.val (.int p0), .val (.int p1), .val (.ref b3), .val (.ref b33), .val (.ref ba264), .val (.ref ba373), .val (.ref b1_385), .val (.ref ba15_385)] [(.ref ba15_385)])) rfl (by rw [hml]; rfl) (Steps.refl _) (argsL := []) (rest := []) (lenOf own_pd12 rfl) rfl (by show 2 * 0 + _ ≤ _; exact Nat.le_of_eq rfl) (hb hby at_173) (fun _ _ => ⟨rfl, e431, (by decide : 9 + 0 ≤ _), (by decide : 33 + 0 ≤ _)⟩)
      dsimp only [Pt.U, Pt.locs, Pt.cells, Pt.slots] at X433 l433 y433 z433 st433 hQ433
      subst l433 y433 z433
      obtain ⟨rfl, N433q, e433⟩ := hQ433
      have N434 := Fr.app N432 N433q
      have pre435 : ∀ t, Steps p.tables e below (T433.setTop (mkF m 176 #[.val (.int p0), .val (.int p1), .val (.ref b3), .val (.ref b33), .val (.ref ba264), .val (.ref ba373), .val (.ref b1_385), .val (.ref ba15_385)] [(.int (own_f16 (0 : Int32)))])) t → Steps p.tables e below (s₁.setTop (entryFrame m #[(.int p0), (.int p1)] maxLocals)) t := fun t k => pre272 t (by
          refine XS.ifNo X264.here hx rfl (hb hby at_80) rfl ((if0 _ _).trans (feq hc273).1) ?_
          show Steps p.tables e below (T264.setTop (mkF m 83 #[.val (.int p0), .val (.int p1), .val (.ref b3), .val (.ref b33), .val (.ref ba264), .unset, .unset, .unset] [])) _
          refine st373 _ ?_
          show Steps p.tables e below (T373.setTop (mkF m 85 #[.val (.int p0), .val (.int p1), .val (.ref b3), .val (.ref b33), .val (.ref ba264), .unset, .unset, .unset] [(.ref ba373)])) _
          refine XS.goto X373.here hx rfl (pc0 := 85) (pc' := 96) rfl (hb hby at_85) (by decide) (by decide) ?_
          show Steps p.tables e below (T373.setTop (mkF m 96 #[.val (.int p0), .val (.int p1), .val (.ref b3), .val (.ref b33), .val (.ref ba264), .unset, .unset, .unset] [(.ref ba373)])) _
          refine XS.astore X373.here hx rfl (hb hby at_96) rfl rfl (l' := #[.val (.int p0), .val (.int p1), .val (.ref b3), .val (.ref b33), .val (.ref ba264), .val (.ref ba373), .unset, .unset]) rfl ?_
          show Steps p.tables e below (T373.setTop (mkF m 98 #[.val (.int p0), .val (.int p1), .val (.ref b3), .val (.ref b33), .val (.ref ba264), .val (.ref ba373), .unset, .unset] [])) _
          refine XS.aload X373.here hx rfl (hb hby at_98) rfl rfl ?_
          show Steps p.tables e below (T373.setTop (mkF m 100 #[.val (.int p0), .val (.int p1), .val (.ref b3), .val (.ref b33), .val (.ref ba264), .val (.ref ba373), .unset, .unset] [(.ref ba264)])) _
          refine XS.aload X373.here hx rfl (hb hby at_100) rfl rfl ?_
          show Steps p.tables e below (T373.setTop (mkF m 102 #[.val (.int p0), .val (.int p1), .val (.ref b3), .val (.ref b33), .val (.ref ba264), .val (.ref ba373), .unset, .unset] [(.ref ba373), (.ref ba264)])) _
          refine st385.trans ?_
          show Steps p.tables e below (T385.setTop (mkF m 105 #[.val (.int p0), .val (.int p1), .val (.ref b3), .val (.ref b33), .val (.ref ba264), .val (.ref ba373), .unset, .unset] [(.ref b1_385)])) _
          refine XS.astore X385r.here hx rfl (hb hby at_105) rfl rfl (l' := #[.val (.int p0), .val (.int p1), .val (.ref b3), .val (.ref b33), .val (.ref ba264), .val (.ref ba373), .val (.ref b1_385), .unset]) rfl ?_
          show Steps p.tables e below (T385.setTop (mkF m 107 #[.val (.int p0), .val (.int p1), .val (.ref b3), .val (.ref b33), .val (.ref ba264), .val (.ref ba373), .val (.ref b1_385), .unset] [])) _
          refine XS.aload X385r.here hx rfl (hb hby at_107) rfl rfl ?_
          show Steps p.tables e below (T385.setTop (mkF m 109 #[.val (.int p0), .val (.int p1), .val (.ref b3), .val (.ref b33), .val (.ref ba264), .val (.ref ba373), .val (.ref b1_385), .unset] [(.ref b1_385)])) _
          refine XS.ifnonnullYes X385r.here hx rfl (pc0 := 109) (pc' := 114) rfl (hb hby at_109) rfl (by decide) (by decide) ?_
          show Steps p.tables e below (T385.setTop (mkF m 114 #[.val (.int p0), .val (.int p1), .val (.ref b3), .val (.ref b33), .val (.ref ba264), .val (.ref ba373), .val (.ref b1_385), .unset] [])) _
          refine XS.aload X385r.here hx rfl (hb hby at_114) rfl rfl ?_
          show Steps p.tables e below (T385.setTop (mkF m 116 #[.val (.int p0), .val (.int p1), .val (.ref b3), .val (.ref b33), .val (.ref ba264), .val (.ref ba373), .val (.ref b1_385), .unset] [(.ref b1_385)])) _
          refine st418.trans ?_
          show Steps p.tables e below (T418.setTop (mkF m 119 #[.val (.int p0), .val (.int p1), .val (.ref b3), .val (.ref b33), .val (.ref ba264), .val (.ref ba373), .val (.ref b1_385), .unset] [(.ref ba15_385)])) _
          refine XS.astore X418.here hx rfl (hb hby at_119) rfl rfl (l' := #[.val (.int p0), .val (.int p1), .val (.ref b3), .val (.ref b33), .val (.ref ba264), .val (.ref ba373), .val (.ref b1_385), .val (.ref ba15_385)]) rfl ?_
          show Steps p.tables e below (T418.setTop (mkF m 121 #[.val (.int p0), .val (.int p1), .val (.ref b3), .val (.ref b33), .val (.ref ba264), .val (.ref ba373), .val (.ref b1_385), .val (.ref ba15_385)] [])) _
          refine XS.aload X418.here hx rfl (hb hby at_121) rfl rfl ?_
          show Steps p.tables e below (T418.setTop (mkF m 123 #[.val (.int p0), .val (.int p1), .val (.ref b3), .val (.ref b33), .val (.ref ba264), .val (.ref ba373), .val (.ref b1_385), .val (.ref ba15_385)] [(.ref ba264)])) _
          refine XS.aload X418.here hx rfl (hb hby at_123) rfl rfl ?_
          show Steps p.tables e below (T418.setTop (mkF m 125 #[.val (.int p0), .val (.int p1), .val (.ref b3), .val (.ref b33), .val (.ref ba264), .val (.ref ba373), .val (.ref b1_385), .val (.ref ba15_385)] [(.ref b1_385), (.ref ba264)])) _
          refine st420.trans ?_
          show Steps p.tables e below (T420.setTop (mkF m 128 #[.val (.int p0), .val (.int p1), .val (.ref b3), .val (.ref b33), .val (.ref ba264), .val (.ref ba373), .val (.ref b1_385), .val (.ref ba15_385)] [(.ref ba264), (.ref ba264)])) _
          refine st422.trans ?_
          show Steps p.tables e below (T422.setTop (mkF m 131 #[.val (.int p0), .val (.int p1), .val (.ref b3), .val (.ref b33), .val (.ref ba264), .val (.ref ba373), .val (.ref b1_385), .val (.ref ba15_385)] [(.int (1 : Int32))])) _
          refine XS.ifNo X422.here hx rfl (hb hby at_131) rfl ((if0 _ _).trans (feq (by decide : ¬ ((1 : Int32) = (0 : Int32)))).1) ?_
          show Steps p.tables e below (T422.setTop (mkF m 134 #[.val (.int p0), .val (.int p1), .val (.ref b3), .val (.ref b33), .val (.ref ba264), .val (.ref ba373), .val (.ref b1_385), .val (.ref ba15_385)] [])) _
          refine XS.aload X422.here hx rfl (hb hby at_134) rfl rfl ?_
          show Steps p.tables e below (T422.setTop (mkF m 136 #[.val (.int p0), .val (.int p1), .val (.ref b3), .val (.ref b33), .val (.ref ba264), .val (.ref ba373), .val (.ref b1_385), .val (.ref ba15_385)] [(.ref ba373)])) _
          refine XS.aload X422.here hx rfl (hb hby at_136) rfl rfl ?_
          show Steps p.tables e below (T422.setTop (mkF m 138 #[.val (.int p0), .val (.int p1), .val (.ref b3), .val (.ref b33), .val (.ref ba264), .val (.ref ba373), .val (.ref b1_385), .val (.ref ba15_385)] [(.ref b1_385), (.ref ba373)])) _
          refine st424.trans ?_
          show Steps p.tables e below (T424.setTop (mkF m 141 #[.val (.int p0), .val (.int p1), .val (.ref b3), .val (.ref b33), .val (.ref ba264), .val (.ref ba373), .val (.ref b1_385), .val (.ref ba15_385)] [(.ref ba373), (.ref ba373)])) _
          refine st426.trans ?_
          show Steps p.tables e below (T426.setTop (mkF m 144 #[.val (.int p0), .val (.int p1), .val (.ref b3), .val (.ref b33), .val (.ref ba264), .val (.ref ba373), .val (.ref b1_385), .val (.ref ba15_385)] [(.int (1 : Int32))])) _
          refine XS.ifNo X426.here hx rfl (hb hby at_144) rfl ((if0 _ _).trans (feq (by decide : ¬ ((1 : Int32) = (0 : Int32)))).1) ?_
          show Steps p.tables e below (T426.setTop (mkF m 147 #[.val (.int p0), .val (.int p1), .val (.ref b3), .val (.ref b33), .val (.ref ba264), .val (.ref ba373), .val (.ref b1_385), .val (.ref ba15_385)] [])) _
          refine XS.aload X426.here hx rfl (hb hby at_147) rfl rfl ?_
          show Steps p.tables e below (T426.setTop (mkF m 149 #[.val (.int p0), .val (.int p1), .val (.ref b3), .val (.ref b33), .val (.ref ba264), .val (.ref ba373), .val (.ref b1_385), .val (.ref ba15_385)] [(.ref b1_385)])) _
          refine st428.trans ?_
          show Steps p.tables e below (T428.setTop (mkF m 152 #[.val (.int p0), .val (.int p1), .val (.ref b3), .val (.ref b33), .val (.ref ba264), .val (.ref ba373), .val (.ref b1_385), .val (.ref ba15_385)] [(.ref z_PA)])) _
          refine st430 _ ?_
          show Steps p.tables e below (T430.setTop (mkF m 155 #[.val (.int p0), .val (.int p1), .val (.ref b3), .val (.ref b33), .val (.ref ba264), .val (.ref ba373), .val (.ref b1_385), .val (.ref ba15_385)] [(.ref z_PA), (.ref z_PA)])) _
          refine Jvm.RoadKit.acmp (g := (mkF m 155 #[.val (.int p0), .val (.int p1), .val (.ref b3), .val (.ref b33), .val (.ref ba264), .val (.ref ba373), .val (.ref b1_385), .val (.ref ba15_385)] [(.ref z_PA), (.ref z_PA)])) X430 hx rfl rfl rfl (pc0 := 155) (pc' := 158) (same := true) rfl (hb hby at_155) rfl (decide_eq_true rfl) (by decide) (by decide) ?_
          show Steps p.tables e below (T430.setTop (mkF m 158 #[.val (.int p0), .val (.int p1), .val (.ref b3), .val (.ref b33), .val (.ref ba264), .val (.ref ba373), .val (.ref b1_385), .val (.ref ba15_385)] [])) _
          refine XS.aload X430.here hx rfl (hb hby at_158) rfl rfl ?_
          show Steps p.tables e below (T430.setTop (mkF m 160 #[.val (.int p0), .val (.int p1), .val (.ref b3), .val (.ref b33), .val (.ref ba264), .val (.ref ba373), .val (.ref b1_385), .val (.ref ba15_385)] [(.ref b1_385)])) _
          refine st431.trans ?_
          show Steps p.tables e below (T431.setTop (mkF m 163 #[.val (.int p0), .val (.int p1), .val (.ref b3), .val (.ref b33), .val (.ref ba264), .val (.ref ba373), .val (.ref b1_385), .val (.ref ba15_385)] [.null])) _
          refine XS.ifnonnullNo X431.here hx rfl (hb hby at_163) rfl ?_
          show Steps p.tables e below (T431.setTop (mkF m 166 #[.val (.int p0), .val (.int p1), .val (.ref b3), .val (.ref b33), .val (.ref ba264), .val (.ref ba373), .val (.ref b1_385), .val (.ref ba15_385)] [])) _
          refine XS.aload X431.here hx rfl (hb hby at_166) rfl rfl ?_
          show Steps p.tables e below (T431.setTop (mkF m 168 #[.val (.int p0), .val (.int p1), .val (.ref b3), .val (.ref b33), .val (.ref ba264), .val (.ref ba373), .val (.ref b1_385), .val (.ref ba15_385)] [(.ref ba15_385)])) _
          refine XS.ifnullNo X431.here hx rfl (hb hby at_168) rfl ?_
          show Steps p.tables e below (T431.setTop (mkF m 171 #[.val (.int p0), .val (.int p1), .val (.ref b3), .val (.ref b33), .val (.ref ba264), .val (.ref ba373), .val (.ref b1_385), .val (.ref ba15_385)] [])) _
          refine XS.aload X431.here hx rfl (hb hby at_171) rfl rfl ?_
          show Steps p.tables e below (T431.setTop (mkF m 173 #[.val (.int p0), .val (.int p1), .val (.ref b3), .val (.ref b33), .val (.ref ba264), .val (.ref ba373), .val (.ref b1_385), .val (.ref ba15_385)] [(.ref ba15_385)])) _
          refine st433.trans ?_
          show Steps p.tables e below (T433.setTop (mkF m 176 #[.val (.int p0), .val (.int p1), .val (.ref b3), .val (.ref b33), .val (.ref ba264), .val (.ref ba373), .val (.ref b1_385), .val (.ref ba15_385)] [(.int (own_f16 (0 : Int32)))])) _
          exact k)
      by_cases hc436 : (own_f16 (0 : Int32)) = (0 : Int32)
      · have pre437 : ∀ t, Steps p.tables e below (T433.setTop (mkF m 184 #[.val (.int p0), .val (.int p1), .val (.ref b3), .val (.ref b33), .val (.ref ba264), .val (.ref ba373), .val (.ref b1_385), .val (.ref ba15_385)] [(.int (0 : Int32))])) t → Steps p.tables e below (s₁.setTop (entryFrame m #[(.int p0), (.int p1)] maxLocals)) t := fun t k => pre435 t (by
            refine XS.ifYes X433.here hx rfl (pc0 := 176) (pc' := 183) rfl (hb hby at_176) rfl ((if0 _ _).trans (teq hc436).1) (by decide) (by decide) ?_
            show Steps p.tables e below (T433.setTop (mkF m 183 #[.val (.int p0), .val (.int p1), .val (.ref b3), .val (.ref b33), .val (.ref ba264), .val (.ref ba373), .val (.ref b1_385), .val (.ref ba15_385)] [])) _
            refine XS.iconst X433.here hx rfl (hb hby at_183) ?_
            show Steps p.tables e below (T433.setTop (mkF m 184 #[.val (.int p0), .val (.int p1), .val (.ref b3), .val (.ref b33), .val (.ref ba264), .val (.ref ba373), .val (.ref b1_385), .val (.ref ba15_385)] [(.int (0 : Int32))])) _
            exact k)
        obtain ⟨fs, hr, hrun, hended, hEnd⟩ := X433.leaveW (s := s) (vm₁ := T385.vm) hS385 (by rw [e433]; exact (Nat.le_refl _)) (v := some (.int (0 : Int32))) (fun h => by rw [Bd.returns] at h; cases h) (hlocks := hlk)
        refine ⟨_, _, pre437 _ ?_, hrun, hended, _, _, rfl, ?_, hEnd.1, hEnd.2.1, hEnd.2.2.1, hEnd.2.2.2.mono (by decide) (by decide)⟩
        · show Steps p.tables e below (T433.setTop (mkF m 184 #[.val (.int p0), .val (.int p1), .val (.ref b3), .val (.ref b33), .val (.ref ba264), .val (.ref ba373), .val (.ref b1_385), .val (.ref ba15_385)] [(.int (0 : Int32))])) _
          exact retN X433 hx (t := .boolean) Bd.returns (by simp) (hb hby at_184) hr
        · show own_Q0 Z p0 p1 z_COMPACT_STRINGS z_PA h0 n0 _ T433.heap _; exact ⟨(by show some (Value.int _) = some (.int (own_f0 p0 p1)); unfold own_f0; rw [if_neg hc67, if_neg hc273, if_pos hc436]), N434⟩
      · have pre438 : ∀ t, Steps p.tables e below (T433.setTop (mkF m 184 #[.val (.int p0), .val (.int p1), .val (.ref b3), .val (.ref b33), .val (.ref ba264), .val (.ref ba373), .val (.ref b1_385), .val (.ref ba15_385)] [(.int (1 : Int32))])) t → Steps p.tables e below (s₁.setTop (entryFrame m #[(.int p0), (.int p1)] maxLocals)) t := fun t k => pre435 t (by
            refine XS.ifNo X433.here hx rfl (hb hby at_176) rfl ((if0 _ _).trans (feq hc436).1) ?_
            show Steps p.tables e below (T433.setTop (mkF m 179 #[.val (.int p0), .val (.int p1), .val (.ref b3), .val (.ref b33), .val (.ref ba264), .val (.ref ba373), .val (.ref b1_385), .val (.ref ba15_385)] [])) _
            refine XS.iconst X433.here hx rfl (hb hby at_179) ?_
            show Steps p.tables e below (T433.setTop (mkF m 180 #[.val (.int p0), .val (.int p1), .val (.ref b3), .val (.ref b33), .val (.ref ba264), .val (.ref ba373), .val (.ref b1_385), .val (.ref ba15_385)] [(.int (1 : Int32))])) _
            refine XS.goto X433.here hx rfl (pc0 := 180) (pc' := 184) rfl (hb hby at_180) (by decide) (by decide) ?_
            show Steps p.tables e below (T433.setTop (mkF m 184 #[.val (.int p0), .val (.int p1), .val (.ref b3), .val (.ref b33), .val (.ref ba264), .val (.ref ba373), .val (.ref b1_385), .val (.ref ba15_385)] [(.int (1 : Int32))])) _
            exact k)
        obtain ⟨fs, hr, hrun, hended, hEnd⟩ := X433.leaveW (s := s) (vm₁ := T385.vm) hS385 (by rw [e433]; exact (Nat.le_refl _)) (v := some (.int (1 : Int32))) (fun h => by rw [Bd.returns] at h; cases h) (hlocks := hlk)
        refine ⟨_, _, pre438 _ ?_, hrun, hended, _, _, rfl, ?_, hEnd.1, hEnd.2.1, hEnd.2.2.1, hEnd.2.2.2.mono (by decide) (by decide)⟩
        · show Steps p.tables e below (T433.setTop (mkF m 184 #[.val (.int p0), .val (.int p1), .val (.ref b3), .val (.ref b33), .val (.ref ba264), .val (.ref ba373), .val (.ref b1_385), .val (.ref ba15_385)] [(.int (1 : Int32))])) _
          exact retN X433 hx (t := .boolean) Bd.returns (by simp) (hb hby at_184) hr
        · show own_Q0 Z p0 p1 z_COMPACT_STRINGS z_PA h0 n0 _ T433.heap _; exact ⟨(by show some (Value.int _) = some (.int (own_f0 p0 p1)); unfold own_f0; rw [if_neg hc67, if_neg hc273, if_neg hc436]), N434⟩
theorem own_plain (p0 p1 : Int32) : own_f0 p0 p1 = 1 := by
  have e : ¬ (own_f16 (0 : Int32)) = (0 : Int32) := by decide
  unfold own_f0
  simp only [if_neg e, ite_self]
set_option maxRecDepth 65536 in
set_option maxHeartbeats 40000000 in
theorem comes_1 {Post : Tables → Env → Array Value → State → Outcome → State → Prop} (hpost : ∀ tb e args s v u, (limb_1_1.after args s (.returned v) u = true ∧ limb_1_2.after args s (.returned v) u = true ∧ True) → ReturnedEndW s (.returned v) u (Jvm.fieldLocs frame_1_writes args s ++ Jvm.arrayLocs frame_1_arrays args s ++ Jvm.staticLocs frame_1_statics s) 32 2176 → Post tb e args s (.returned v) u) :
    ArmFor flags0 classFile x code maxLocals ret World_1 tables_1 room_1 Calls_1 rest_1 Pre_1 Post := by
  intro l hfl _ _ p e ha hc hk s m args below hf hA hF happ hP
  obtain ⟨hcalls, hrest, hpre⟩ := hP
  obtain ⟨-, -, -, hnamed, -, -, -, hat⟩ := (Spec.applies_iff hf).mp happ
  obtain ⟨hg, hn⟩ := and_e (Cond.before_iff.mp (show (Jvm.Cond.and given_1 narrow_1).before args s = true from hpre))
  obtain ⟨gc, gr0⟩ := and_e hg
  obtain ⟨ga0, gr1⟩ := and_e gr0
  have ga1 := gr1
  obtain ⟨w0, w1, rfl⟩ : ∃ w0 w1 : Value, args = #[w0, w1] := by
    have hs : args.size = 2 := by simpa [Cond.value, given_1] using gc
    obtain ⟨L⟩ := args
    match L, hs with
    | [w0, w1], _ => exact ⟨w0, w1, rfl⟩
  have hw := fun d (hd : d ∈ tables_1) => atoms_spec (ws := Jvm.Cond.code x code maxLocals ret :: tables_1) hat d (List.mem_cons_of_mem _ hd)
  obtain ⟨i0, ei0⟩ := is_v ga0
  obtain rfl : w0 = (.int i0) := Option.some.inj ei0
  obtain ⟨i1, ei1⟩ := is_v ga1
  obtain rfl : w1 = (.int i1) := Option.some.inj ei1
  obtain ⟨hsets, hown0⟩ := atoms_of _ (rest_1_c_eq ▸ (show rest_1_c.before _ s = true from hrest))
  have n5 := not_v (Cond.before_iff.mp (hsets _ (List.mem_of_getElem? (i := 2) rfl)))
  obtain ⟨g1, e10⟩ := is_v (Cond.before_iff.mp (hsets _ (List.mem_of_getElem? (i := 1) rfl)))
  have S12 : Sta s s.heap "java/lang/String" "COMPACT_STRINGS" "Z" (.int g1) := Sta.start e10 (Or.inl (hsets _ (List.mem_of_getElem? (i := 0) rfl)))
  have c17 : ¬ (g1 = (0 : Int32)) := gotF (Cond.eq_ints e10 (Term.int_eval (0))) n5
  obtain ⟨zk, ezk⟩ := exa_v hn
  have S16 : Sta s s.heap "com/example/casewright/engine/TestResult$Status" "PASSED" "Lcom/example/casewright/engine/TestResult$Status;" (.ref zk) := Sta.start ezk (Or.inr ⟨hw _ (List.mem_of_getElem? (i := 37) rfl), hw _ (List.mem_of_getElem? (i := 38) rfl)⟩)
  obtain ⟨n, o, h1, h2, h3, _, L, rfl, ⟨hv, N⟩, hq⟩ := own_rm0 l s _ hw tables_1 i0 i1 g1 zk s.heap s.heap.size (Nat.le_refl _) rfl rfl (hsets _ (List.mem_of_getElem? (i := 2) rfl)) hcalls.1 c17 S12 S16 p e ha hc hk s m _ below hf ((Spec.applies_iff_loose hf).mp happ).1 ⟨rfl, rfl⟩ trivial
  rw [show (own_f0 i0 i1) = (1 : Int32) from own_plain i0 i1] at hv
  subst hv
  refine ⟨n, _, h1, h2, h3, hpost _ _ _ _ _ _ ⟨Cond.after_iff.mpr rfl, Cond.after_iff.mpr (eq_i res_at (Term.int_eval (1)) rfl), trivial⟩ ⟨hq.1, hq.2.1, hq.2.2.1, (hq.2.2.2.sift fun y hy => Or.inr (N y hy)).mono (by decide) (by decide)⟩⟩
theorem main_1_1 : Claimed_1_1 := comes_1 fun _ _ _ _ _ _ h hF => ⟨h.1, hF⟩
theorem main_1_2 : Claimed_1_2 := comes_1 fun _ _ _ _ _ _ h hF => ⟨h.2.1, hF⟩
end Jvm.Pilot.@@N@@
namespace Jvm.Pilot.@@N@@
open Jvm Jvm.ClassFile Sem Op Lib Jvm.Free Jvm.Stand Jvm.Pilot.@@N@@.Jvm.D
/-! MADE BY PROGRAM (witnessworld.py) out of the Statement's table words and the real class files: 23 classes; the members and pool entries that the words name. The judged class is class 1, her method 1. -/
namespace start1
open Jvm.ClassFile
def u (s : String) : CpInfo := .utf8 (stringToUtf16 s)
/-- a pool by its gaps: so many unusable entries, then the entry; so many at the end -/
def gap : Nat → List CpInfo → List CpInfo
  | 0, r => r
  | n + 1, r => .unusable :: gap n r
def poolList (es : List (Nat × CpInfo)) (last : Nat) : List CpInfo := es.foldr (fun e r => gap e.1 (e.2 :: r)) (gap last [])
def pool (es : List (Nat × CpInfo)) (last : Nat) : Array CpInfo := ⟨poolList es last⟩
def fileOf (pool : Array CpInfo) (this : Nat) (attrs : Array Attribute := #[]) (ms : Array MethodInfo := #[]) (fl : Nat := 33) (sup : Nat := 0) (ifs : Array Nat := #[]) (fds : Array FieldInfo := #[]) : ClassFile where
  minorVersion := 0
  majorVersion := 65
  constantPool := pool
  accessFlags := fl
  thisClass := this
  superClass := sup
  interfaces := ifs
  fields := fds
  methods := ms
  attributes := attrs
def plain (name : String) (sup : Option ClassId) : Class where
  name := name
  kind := .ordinary
  loader := none
  accessFlags := 33
  super := sup
  interfaces := #[]
  cf := none
  fields := #[]
  methods := #[]
  instanceTypes := #[]
  staticTypes := #[]
  resolved := #[]
  callSites := []
  init := .initialized
  statics := none
  mirror := none

def pool0 : Array CpInfo := pool [(5, u "<init>"), (0, u "()V"), (1, .class_ 10), (1, u "java/lang/Object")] 113

def k0c0 : Code := { maxStack := 0, maxLocals := 1, code := object_method_1_code, exceptionTable := #[], attributes := #[] }
def k0m0 : Method := { name := "<init>", desc := "()V", sig := { parameters := [], returnType := none }, accessFlags := 1, code := some k0c0 }
/-- java/lang/Object -/
def k0 : Class := { plain "java/lang/Object" none with
  accessFlags := 33
  interfaces := #[]
  cf := some (fileOf pool0 8 #[] #[{ accessFlags := 1, nameIndex := 5, descriptorIndex := 6, attributes := #[] }] 33 0 #[] #[])
  fields := #[]
  methods := #[k0m0]
  instanceTypes := #[]
  staticTypes := #[]
  resolved := Array.replicate 124 none
  statics := none }

def pool1 : Array CpInfo := pool [(2, .class_ 4), (1, u "java/lang/Object"), (0, u "<init>"), (0, u "()V"), (0, .string 8), (0, u ""), (0, .class_ 10), (0, u "java/lang/String"), (0, .methodref 9 12), (0, .nameAndType 5 13), (0, u "([C)V"), (0, .methodref 15 16), (0, .class_ 17), (0, .nameAndType 18 19), (0, u "com/example/casewright/engine/TestResult"), (0, u "passed"), (0, u "(Ljava/lang/String;Ljava/lang/String;)Lcom/example/casewright/engine/TestResult;"), (0, .methodref 15 21), (0, .nameAndType 22 23), (0, u "skipReason"), (0, u "()Ljava/lang/String;"), (0, .methodref 15 25), (0, .nameAndType 26 23), (0, u "className"), (0, .methodref 9 28), (0, .nameAndType 29 30), (0, u "equals"), (0, u "(Ljava/lang/Object;)Z"), (0, .methodref 15 32), (0, .nameAndType 33 23), (0, u "methodName"), (0, .methodref 15 35), (0, .nameAndType 36 37), (0, u "status"), (0, u "()Lcom/example/casewright/engine/TestResult$Status;"), (0, .fieldref 39 40), (0, .class_ 41), (0, .nameAndType 42 43), (0, u "com/example/casewright/engine/TestResult$Status"), (0, u "PASSED"), (0, u "Lcom/example/casewright/engine/TestResult$Status;"), (0, .methodref 15 45), (0, .nameAndType 46 47), (0, u "problem"), (0, u "()Ljava/lang/Throwable;"), (0, .methodref 9 49), (0, .nameAndType 50 51), (0, u "isEmpty"), (0, u "()Z"), (0, .class_ 53), (0, u "com/example/casewright/engine/TestResultPassedPinLaw"), (2, u "law"), (0, u "(II)Z")] 7

def k1m0 : Method := { name := "<init>", desc := "()V", sig := { parameters := [], returnType := none }, accessFlags := 1, code := none }
def k1c1 : Code := { maxStack := 4, maxLocals := 8, code := code, exceptionTable := #[], attributes := #[] }
def k1m1 : Method := { name := "law", desc := "(II)Z", sig := { parameters := [.int, .int], returnType := some .boolean }, accessFlags := 9, code := some k1c1 }
/-- com/example/casewright/engine/TestResultPassedPinLaw -/
def k1 : Class := { plain "com/example/casewright/engine/TestResultPassedPinLaw" (some 0) with
  accessFlags := 49
  interfaces := #[]
  cf := some (fileOf pool1 52 #[] #[{ accessFlags := 1, nameIndex := 5, descriptorIndex := 6, attributes := #[] }, { accessFlags := 9, nameIndex := 56, descriptorIndex := 57, attributes := #[] }] 49 2 #[] #[])
  fields := #[]
  methods := #[k1m0, k1m1]
  instanceTypes := #[]
  staticTypes := #[]
  resolved := Array.replicate 65 none
  statics := none }

def pool2 : Array CpInfo := pool [(1, .class_ 2), (0, u "java/io/Serializable"), (0, .class_ 4), (0, u "java/lang/Object")] 2

/-- java/io/Serializable -/
def k2 : Class := { plain "java/io/Serializable" (some 0) with
  accessFlags := 1537
  interfaces := #[]
  cf := some (fileOf pool2 1 #[] #[] 1537 3 #[] #[])
  fields := #[]
  methods := #[]
  instanceTypes := #[]
  staticTypes := #[]
  resolved := Array.replicate 7 none
  statics := none }

def pool3 : Array CpInfo := pool [(1, .class_ 2), (0, u "java/lang/Comparable"), (0, .class_ 4), (0, u "java/lang/Object")] 7

/-- java/lang/Comparable -/
def k3 : Class := { plain "java/lang/Comparable" (some 0) with
  accessFlags := 1537
  interfaces := #[]
  cf := some (fileOf pool3 1 #[] #[] 1537 3 #[] #[])
  fields := #[]
  methods := #[]
  instanceTypes := #[]
  staticTypes := #[]
  resolved := Array.replicate 12 none
  statics := none }

def pool4 : Array CpInfo := pool [(2, .class_ 4), (1, u "java/lang/CharSequence"), (42, .class_ 48), (0, u "java/lang/CharSequence$1CodePointIterator"), (10, .class_ 60), (0, u "java/lang/CharSequence$1CharIterator"), (5, .class_ 67), (0, u "java/lang/Object")] 63

/-- java/lang/CharSequence -/
def k4 : Class := { plain "java/lang/CharSequence" (some 0) with
  accessFlags := 1537
  interfaces := #[]
  cf := some (fileOf pool4 2 #[.nestMembers #[47, 59]] #[] 1537 66 #[] #[])
  fields := #[]
  methods := #[]
  instanceTypes := #[]
  staticTypes := #[]
  resolved := Array.replicate 131 none
  statics := none }

def pool5 : Array CpInfo := pool [(1, .class_ 2), (0, u "java/lang/constant/Constable"), (0, .class_ 4), (0, u "java/lang/Object")] 6

/-- java/lang/constant/Constable -/
def k5 : Class := { plain "java/lang/constant/Constable" (some 0) with
  accessFlags := 1537
  interfaces := #[]
  cf := some (fileOf pool5 1 #[] #[] 1537 3 #[] #[])
  fields := #[]
  methods := #[]
  instanceTypes := #[]
  staticTypes := #[]
  resolved := Array.replicate 11 none
  statics := none }

def pool6 : Array CpInfo := pool [(1, .class_ 2), (0, u "java/lang/constant/ConstantDesc"), (0, .class_ 4), (0, u "java/lang/Object")] 32

/-- java/lang/constant/ConstantDesc -/
def k6 : Class := { plain "java/lang/constant/ConstantDesc" (some 0) with
  accessFlags := 1537
  interfaces := #[]
  cf := some (fileOf pool6 1 #[] #[] 1537 3 #[] #[])
  fields := #[]
  methods := #[]
  instanceTypes := #[]
  staticTypes := #[]
  resolved := Array.replicate 37 none
  statics := none }

def pool7 : Array CpInfo := pool [(1, .methodref 2 3), (0, .class_ 4), (0, .nameAndType 5 6), (0, u "java/lang/Object"), (0, u "<init>"), (0, u "()V"), (2, .fieldref 10 11), (0, .class_ 12), (0, .nameAndType 13 14), (0, u "java/lang/String"), (0, u "value"), (0, u "[B"), (0, .fieldref 10 16), (0, .nameAndType 17 18), (0, u "coder"), (0, u "B"), (2, u "hash"), (0, u "I"), (2, u "hashIsZero"), (0, u "Z"), (0, .methodref 10 28), (0, .nameAndType 5 29), (0, u "([CIILjava/lang/Void;)V"), (8, .fieldref 10 39), (0, .nameAndType 40 26), (0, u "COMPACT_STRINGS"), (1, .class_ 44), (1, u "java/lang/StringUTF16"), (0, u "compress"), (1, .methodref 42 48), (0, .nameAndType 49 50), (0, u "coderFromArrayLen"), (0, u "([BI)B"), (91, u "()Z"), (34, .methodref 42 178), (0, .nameAndType 45 179), (0, u "([CII)[B"), (363, u "equals"), (29, u "(Ljava/lang/Object;)Z"), (1, .class_ 576), (0, u "java/lang/CharSequence"), (22, u "CASE_INSENSITIVE_ORDER"), (0, u "Ljava/util/Comparator;"), (91, u "isEmpty"), (317, u "([C)V"), (90, u "serialPersistentFields"), (0, u "[Ljava/io/ObjectStreamField;"), (0, .class_ 1104), (0, u "java/lang/String$CaseInsensitiveComparator"), (1, .class_ 1107), (0, u "java/io/Serializable"), (0, .class_ 1109), (0, u "java/lang/Comparable"), (0, .class_ 1111), (0, u "java/lang/constant/Constable"), (0, .class_ 1113), (0, u "java/lang/constant/ConstantDesc"), (2, u "serialVersionUID"), (0, u "J"), (3, u "REPL"), (0, u "C"), (2, u "LATIN1"), (1, u "UTF16")] 323

def k7m0 : Method := { name := "<init>", desc := "()V", sig := { parameters := [], returnType := none }, accessFlags := 1, code := none }
def k7c1 : Code := { maxStack := 5, maxLocals := 2, code := jdk_42_method_3_code, exceptionTable := #[], attributes := #[] }
def k7m1 : Method := { name := "<init>", desc := "([C)V", sig := { parameters := [(.array .char)], returnType := none }, accessFlags := 1, code := some k7c1 }
def k7c2 : Code := { maxStack := 1, maxLocals := 1, code := jdk_42_method_55_code, exceptionTable := #[], attributes := #[] }
def k7m2 : Method := { name := "isEmpty", desc := "()Z", sig := { parameters := [], returnType := some .boolean }, accessFlags := 1, code := some k7c2 }
def k7c3 : Code := { maxStack := 2, maxLocals := 3, code := jdk_42_method_66_code, exceptionTable := #[], attributes := #[] }
def k7m3 : Method := { name := "equals", desc := "(Ljava/lang/Object;)Z", sig := { parameters := [(.object "java/lang/Object")], returnType := some .boolean }, accessFlags := 1, code := some k7c3 }
def k7c4 : Code := { maxStack := 4, maxLocals := 6, code := jdk_42_method_149_code, exceptionTable := #[], attributes := #[] }
def k7m4 : Method := { name := "<init>", desc := "([CIILjava/lang/Void;)V", sig := { parameters := [(.array .char), .int, .int, (.object "java/lang/Void")], returnType := none }, accessFlags := 2, code := some k7c4 }
/-- java/lang/String -/
def k7 : Class := { plain "java/lang/String" (some 0) with
  accessFlags := 49
  interfaces := #[2, 3, 4, 5, 6]
  cf := some (fileOf pool7 10 #[.nestMembers #[1103]] #[{ accessFlags := 1, nameIndex := 5, descriptorIndex := 6, attributes := #[] }, { accessFlags := 1, nameIndex := 5, descriptorIndex := 1010, attributes := #[] }, { accessFlags := 1, nameIndex := 692, descriptorIndex := 142, attributes := #[] }, { accessFlags := 1, nameIndex := 543, descriptorIndex := 573, attributes := #[] }, { accessFlags := 2, nameIndex := 5, descriptorIndex := 29, attributes := #[] }] 49 2 #[1106, 1108, 575, 1110, 1112] #[{ accessFlags := 18, nameIndex := 13, descriptorIndex := 14, attributes := #[] }, { accessFlags := 18, nameIndex := 17, descriptorIndex := 18, attributes := #[] }, { accessFlags := 2, nameIndex := 21, descriptorIndex := 22, attributes := #[] }, { accessFlags := 2, nameIndex := 25, descriptorIndex := 26, attributes := #[] }, { accessFlags := 26, nameIndex := 1116, descriptorIndex := 1117, attributes := #[] }, { accessFlags := 24, nameIndex := 40, descriptorIndex := 26, attributes := #[] }, { accessFlags := 26, nameIndex := 1101, descriptorIndex := 1102, attributes := #[] }, { accessFlags := 26, nameIndex := 1121, descriptorIndex := 1122, attributes := #[] }, { accessFlags := 25, nameIndex := 599, descriptorIndex := 600, attributes := #[] }, { accessFlags := 24, nameIndex := 1125, descriptorIndex := 18, attributes := #[] }, { accessFlags := 24, nameIndex := 1127, descriptorIndex := 18, attributes := #[] }])
  fields := #[{ name := "value", type := (.array .byte), accessFlags := 18, slot := 0, constantValue := 0 }, { name := "coder", type := .byte, accessFlags := 18, slot := 1, constantValue := 0 }, { name := "hash", type := .int, accessFlags := 2, slot := 2, constantValue := 0 }, { name := "hashIsZero", type := .boolean, accessFlags := 2, slot := 3, constantValue := 0 }, { name := "serialVersionUID", type := .long, accessFlags := 26, slot := 0, constantValue := 0 }, { name := "COMPACT_STRINGS", type := .boolean, accessFlags := 24, slot := 1, constantValue := 0 }, { name := "serialPersistentFields", type := (.array (.object "java/io/ObjectStreamField")), accessFlags := 26, slot := 2, constantValue := 0 }, { name := "REPL", type := .char, accessFlags := 26, slot := 3, constantValue := 0 }, { name := "CASE_INSENSITIVE_ORDER", type := (.object "java/util/Comparator"), accessFlags := 25, slot := 4, constantValue := 0 }, { name := "LATIN1", type := .byte, accessFlags := 24, slot := 5, constantValue := 0 }, { name := "UTF16", type := .byte, accessFlags := 24, slot := 6, constantValue := 0 }]
  methods := #[k7m0, k7m1, k7m2, k7m3, k7m4]
  instanceTypes := #[(.array .byte), .byte, .int, .boolean]
  staticTypes := #[.long, .boolean, (.array (.object "java/io/ObjectStreamField")), .char, (.object "java/util/Comparator"), .byte, .byte]
  resolved := Array.replicate 1451 none
  statics := some 0 }

def pool8 : Array CpInfo := pool [(6, .class_ 8), (1, u "java/lang/Object"), (0, u "<init>"), (0, u "()V"), (1, .class_ 14), (1, u "java/lang/StringUTF16"), (31, u "$assertionsDisabled"), (0, u "Z"), (13, u "HI_BYTE_SHIFT"), (0, u "I"), (2, u "LO_BYTE_SHIFT"), (49, .methodref 12 116), (0, .nameAndType 117 118), (0, u "compress"), (0, u "([CI[BII)I"), (3, u "([CII)[B"), (138, u "coderFromArrayLen"), (0, u "([BI)B"), (106, .class_ 371), (1, u "java/lang/StringUTF16$LinesSpliterator"), (58, u "MAX_LENGTH"), (196, .class_ 628), (0, u "java/lang/StringUTF16$CodePointsSpliterator"), (0, .class_ 630), (0, u "java/lang/StringUTF16$CharsSpliterator")] 4

def k8m0 : Method := { name := "<init>", desc := "()V", sig := { parameters := [], returnType := none }, accessFlags := 0, code := none }
def k8c1 : Code := { maxStack := 2, maxLocals := 2, code := jdk_52_method_15_code, exceptionTable := #[], attributes := #[] }
def k8m1 : Method := { name := "coderFromArrayLen", desc := "([BI)B", sig := { parameters := [(.array .byte), .int], returnType := some .byte }, accessFlags := 8, code := some k8c1 }
def k8c2 : Code := { maxStack := 5, maxLocals := 6, code := jdk_52_method_16_code, exceptionTable := #[], attributes := #[] }
def k8m2 : Method := { name := "compress", desc := "([CII)[B", sig := { parameters := [(.array .char), .int, .int], returnType := some (.array .byte) }, accessFlags := 9, code := some k8c2 }
def k8c3 : Code := { maxStack := 3, maxLocals := 7, code := jdk_52_method_21_code, exceptionTable := #[], attributes := #[] }
def k8m3 : Method := { name := "compress", desc := "([CI[BII)I", sig := { parameters := [(.array .char), .int, (.array .byte), .int, .int], returnType := some .int }, accessFlags := 9, code := some k8c3 }
/-- java/lang/StringUTF16 -/
def k8 : Class := { plain "java/lang/StringUTF16" (some 0) with
  accessFlags := 48
  interfaces := #[]
  cf := some (fileOf pool8 12 #[.nestMembers #[627, 629, 369]] #[{ accessFlags := 0, nameIndex := 9, descriptorIndex := 10, attributes := #[] }, { accessFlags := 8, nameIndex := 261, descriptorIndex := 262, attributes := #[] }, { accessFlags := 9, nameIndex := 117, descriptorIndex := 122, attributes := #[] }, { accessFlags := 9, nameIndex := 117, descriptorIndex := 118, attributes := #[] }] 48 6 #[] #[{ accessFlags := 26, nameIndex := 61, descriptorIndex := 62, attributes := #[] }, { accessFlags := 26, nameIndex := 65, descriptorIndex := 62, attributes := #[] }, { accessFlags := 24, nameIndex := 430, descriptorIndex := 62, attributes := #[] }, { accessFlags := 4120, nameIndex := 46, descriptorIndex := 47, attributes := #[] }])
  fields := #[{ name := "HI_BYTE_SHIFT", type := .int, accessFlags := 26, slot := 0, constantValue := 0 }, { name := "LO_BYTE_SHIFT", type := .int, accessFlags := 26, slot := 1, constantValue := 0 }, { name := "MAX_LENGTH", type := .int, accessFlags := 24, slot := 2, constantValue := 0 }, { name := "$assertionsDisabled", type := .boolean, accessFlags := 4120, slot := 3, constantValue := 0 }]
  methods := #[k8m0, k8m1, k8m2, k8m3]
  instanceTypes := #[]
  staticTypes := #[.int, .int, .int, .boolean]
  resolved := Array.replicate 635 none
  statics := none }

def pool9 : Array CpInfo := pool [(1, .methodref 2 3), (0, .class_ 4), (0, .nameAndType 5 6), (0, u "java/lang/Object"), (0, u "<init>"), (0, u "()V"), (0, .class_ 8), (0, u "java/lang/Record")] 13

def k9c0 : Code := { maxStack := 1, maxLocals := 1, code := jdk_30_method_1_code, exceptionTable := #[], attributes := #[] }
def k9m0 : Method := { name := "<init>", desc := "()V", sig := { parameters := [], returnType := none }, accessFlags := 4, code := some k9c0 }
/-- java/lang/Record -/
def k9 : Class := { plain "java/lang/Record" (some 0) with
  accessFlags := 1057
  interfaces := #[]
  cf := some (fileOf pool9 7 #[] #[{ accessFlags := 4, nameIndex := 5, descriptorIndex := 6, attributes := #[] }] 1057 2 #[] #[])
  fields := #[]
  methods := #[k9m0]
  instanceTypes := #[]
  staticTypes := #[]
  resolved := Array.replicate 22 none
  statics := none }

def pool10 : Array CpInfo := pool [(1, .methodref 2 3), (0, .class_ 4), (0, .nameAndType 5 6), (0, u "java/lang/Record"), (0, u "<init>"), (0, u "()V"), (0, .fieldref 8 9), (0, .class_ 10), (0, .nameAndType 11 12), (0, u "com/example/casewright/engine/TestResult"), (0, u "className"), (0, u "Ljava/lang/String;"), (0, .fieldref 8 14), (0, .nameAndType 15 12), (0, u "methodName"), (0, .fieldref 8 17), (0, .nameAndType 18 19), (0, u "status"), (0, u "Lcom/example/casewright/engine/TestResult$Status;"), (0, .fieldref 8 21), (0, .nameAndType 22 23), (0, u "problem"), (0, u "Ljava/lang/Throwable;"), (0, .fieldref 8 25), (0, .nameAndType 26 12), (0, u "skipReason"), (0, .fieldref 28 29), (0, .class_ 30), (0, .nameAndType 31 19), (0, u "com/example/casewright/engine/TestResult$Status"), (0, u "PASSED"), (0, .string 33), (0, u ""), (0, .methodref 8 35), (0, .nameAndType 5 36), (0, u "(Ljava/lang/String;Ljava/lang/String;Lcom/example/casewright/engine/TestResult$Status;Ljava/lang/Throwable;Ljava/lang/String;)V"), (26, u "passed"), (0, u "(Ljava/lang/String;Ljava/lang/String;)Lcom/example/casewright/engine/TestResult;"), (5, u "()Ljava/lang/String;"), (2, u "()Lcom/example/casewright/engine/TestResult$Status;"), (0, u "()Ljava/lang/Throwable;")] 26

def k10c0 : Code := { maxStack := 2, maxLocals := 6, code := prog_61_method_1_code, exceptionTable := #[], attributes := #[] }
def k10m0 : Method := { name := "<init>", desc := "(Ljava/lang/String;Ljava/lang/String;Lcom/example/casewright/engine/TestResult$Status;Ljava/lang/Throwable;Ljava/lang/String;)V", sig := { parameters := [(.object "java/lang/String"), (.object "java/lang/String"), (.object "com/example/casewright/engine/TestResult$Status"), (.object "java/lang/Throwable"), (.object "java/lang/String")], returnType := none }, accessFlags := 1, code := some k10c0 }
def k10c1 : Code := { maxStack := 7, maxLocals := 2, code := prog_61_method_2_code, exceptionTable := #[], attributes := #[] }
def k10m1 : Method := { name := "passed", desc := "(Ljava/lang/String;Ljava/lang/String;)Lcom/example/casewright/engine/TestResult;", sig := { parameters := [(.object "java/lang/String"), (.object "java/lang/String")], returnType := some (.object "com/example/casewright/engine/TestResult") }, accessFlags := 8, code := some k10c1 }
def k10c2 : Code := { maxStack := 1, maxLocals := 1, code := prog_61_method_8_code, exceptionTable := #[], attributes := #[] }
def k10m2 : Method := { name := "className", desc := "()Ljava/lang/String;", sig := { parameters := [], returnType := some (.object "java/lang/String") }, accessFlags := 1, code := some k10c2 }
def k10c3 : Code := { maxStack := 1, maxLocals := 1, code := prog_61_method_9_code, exceptionTable := #[], attributes := #[] }
def k10m3 : Method := { name := "methodName", desc := "()Ljava/lang/String;", sig := { parameters := [], returnType := some (.object "java/lang/String") }, accessFlags := 1, code := some k10c3 }
def k10c4 : Code := { maxStack := 1, maxLocals := 1, code := prog_61_method_10_code, exceptionTable := #[], attributes := #[] }
def k10m4 : Method := { name := "status", desc := "()Lcom/example/casewright/engine/TestResult$Status;", sig := { parameters := [], returnType := some (.object "com/example/casewright/engine/TestResult$Status") }, accessFlags := 1, code := some k10c4 }
def k10c5 : Code := { maxStack := 1, maxLocals := 1, code := prog_61_method_11_code, exceptionTable := #[], attributes := #[] }
def k10m5 : Method := { name := "problem", desc := "()Ljava/lang/Throwable;", sig := { parameters := [], returnType := some (.object "java/lang/Throwable") }, accessFlags := 1, code := some k10c5 }
def k10c6 : Code := { maxStack := 1, maxLocals := 1, code := prog_61_method_12_code, exceptionTable := #[], attributes := #[] }
def k10m6 : Method := { name := "skipReason", desc := "()Ljava/lang/String;", sig := { parameters := [], returnType := some (.object "java/lang/String") }, accessFlags := 1, code := some k10c6 }
/-- com/example/casewright/engine/TestResult -/
def k10 : Class := { plain "com/example/casewright/engine/TestResult" (some 9) with
  accessFlags := 49
  interfaces := #[]
  cf := some (fileOf pool10 8 #[.nestMembers #[28]] #[{ accessFlags := 1, nameIndex := 5, descriptorIndex := 36, attributes := #[] }, { accessFlags := 8, nameIndex := 63, descriptorIndex := 64, attributes := #[] }, { accessFlags := 1, nameIndex := 11, descriptorIndex := 70, attributes := #[] }, { accessFlags := 1, nameIndex := 15, descriptorIndex := 70, attributes := #[] }, { accessFlags := 1, nameIndex := 18, descriptorIndex := 73, attributes := #[] }, { accessFlags := 1, nameIndex := 22, descriptorIndex := 74, attributes := #[] }, { accessFlags := 1, nameIndex := 26, descriptorIndex := 70, attributes := #[] }] 49 2 #[] #[{ accessFlags := 18, nameIndex := 11, descriptorIndex := 12, attributes := #[] }, { accessFlags := 18, nameIndex := 15, descriptorIndex := 12, attributes := #[] }, { accessFlags := 18, nameIndex := 18, descriptorIndex := 19, attributes := #[] }, { accessFlags := 18, nameIndex := 22, descriptorIndex := 23, attributes := #[] }, { accessFlags := 18, nameIndex := 26, descriptorIndex := 12, attributes := #[] }])
  fields := #[{ name := "className", type := (.object "java/lang/String"), accessFlags := 18, slot := 0, constantValue := 0 }, { name := "methodName", type := (.object "java/lang/String"), accessFlags := 18, slot := 1, constantValue := 0 }, { name := "status", type := (.object "com/example/casewright/engine/TestResult$Status"), accessFlags := 18, slot := 2, constantValue := 0 }, { name := "problem", type := (.object "java/lang/Throwable"), accessFlags := 18, slot := 3, constantValue := 0 }, { name := "skipReason", type := (.object "java/lang/String"), accessFlags := 18, slot := 4, constantValue := 0 }]
  methods := #[k10m0, k10m1, k10m2, k10m3, k10m4, k10m5, k10m6]
  instanceTypes := #[(.object "java/lang/String"), (.object "java/lang/String"), (.object "com/example/casewright/engine/TestResult$Status"), (.object "java/lang/Throwable"), (.object "java/lang/String")]
  staticTypes := #[]
  resolved := Array.replicate 101 none
  statics := none }

def pool11 : Array CpInfo := pool [(2, .class_ 4), (1, u "java/lang/Enum"), (0, u "name"), (0, u "Ljava/lang/String;"), (2, u "ordinal"), (0, u "I"), (1, .class_ 14), (1, u "java/lang/Object"), (4, u "hash"), (86, .class_ 108), (1, u "java/lang/Enum$EnumDesc"), (2, .class_ 112), (0, u "java/lang/constant/Constable"), (0, .class_ 114), (0, u "java/lang/Comparable"), (0, .class_ 116), (0, u "java/io/Serializable")] 87

/-- java/lang/Enum -/
def k11 : Class := { plain "java/lang/Enum" (some 0) with
  accessFlags := 1057
  interfaces := #[5, 3, 2]
  cf := some (fileOf pool11 2 #[.nestMembers #[106]] #[] 1057 12 #[111, 113, 115] #[{ accessFlags := 18, nameIndex := 5, descriptorIndex := 6, attributes := #[] }, { accessFlags := 18, nameIndex := 9, descriptorIndex := 10, attributes := #[] }, { accessFlags := 2, nameIndex := 19, descriptorIndex := 10, attributes := #[] }])
  fields := #[{ name := "name", type := (.object "java/lang/String"), accessFlags := 18, slot := 0, constantValue := 0 }, { name := "ordinal", type := .int, accessFlags := 18, slot := 1, constantValue := 0 }, { name := "hash", type := .int, accessFlags := 2, slot := 2, constantValue := 0 }]
  methods := #[]
  instanceTypes := #[(.object "java/lang/String"), .int, .int]
  staticTypes := #[]
  resolved := Array.replicate 204 none
  statics := none }

def pool12 : Array CpInfo := pool [(1, .class_ 2), (0, u "com/example/casewright/engine/TestResult$Status"), (2, u "PASSED"), (0, u "Lcom/example/casewright/engine/TestResult$Status;"), (2, u "FAILED"), (2, u "ERROR"), (2, u "SKIPPED"), (2, u "$VALUES"), (0, u "[Lcom/example/casewright/engine/TestResult$Status;"), (6, .class_ 28), (1, u "java/lang/Enum"), (27, .class_ 57), (0, u "com/example/casewright/engine/TestResult")] 2

/-- com/example/casewright/engine/TestResult$Status -/
def k12 : Class := { plain "com/example/casewright/engine/TestResult$Status" (some 11) with
  accessFlags := 16433
  interfaces := #[]
  cf := some (fileOf pool12 1 #[.nestHost 56] #[] 16433 26 #[] #[{ accessFlags := 16409, nameIndex := 5, descriptorIndex := 6, attributes := #[] }, { accessFlags := 16409, nameIndex := 9, descriptorIndex := 6, attributes := #[] }, { accessFlags := 16409, nameIndex := 12, descriptorIndex := 6, attributes := #[] }, { accessFlags := 16409, nameIndex := 15, descriptorIndex := 6, attributes := #[] }, { accessFlags := 4122, nameIndex := 18, descriptorIndex := 19, attributes := #[] }])
  fields := #[{ name := "PASSED", type := (.object "com/example/casewright/engine/TestResult$Status"), accessFlags := 16409, slot := 0, constantValue := 0 }, { name := "FAILED", type := (.object "com/example/casewright/engine/TestResult$Status"), accessFlags := 16409, slot := 1, constantValue := 0 }, { name := "ERROR", type := (.object "com/example/casewright/engine/TestResult$Status"), accessFlags := 16409, slot := 2, constantValue := 0 }, { name := "SKIPPED", type := (.object "com/example/casewright/engine/TestResult$Status"), accessFlags := 16409, slot := 3, constantValue := 0 }, { name := "$VALUES", type := (.array (.object "com/example/casewright/engine/TestResult$Status")), accessFlags := 4122, slot := 4, constantValue := 0 }]
  methods := #[]
  instanceTypes := #[(.object "java/lang/String"), .int, .int]
  staticTypes := #[(.object "com/example/casewright/engine/TestResult$Status"), (.object "com/example/casewright/engine/TestResult$Status"), (.object "com/example/casewright/engine/TestResult$Status"), (.object "com/example/casewright/engine/TestResult$Status"), (.array (.object "com/example/casewright/engine/TestResult$Status"))]
  resolved := Array.replicate 60 none
  statics := some 1 }

def pool13 : Array CpInfo := pool [(4, .class_ 6), (1, u "java/lang/Object"), (0, u "<init>"), (0, u "()V"), (5, .class_ 16), (1, u "java/lang/StringLatin1"), (104, u "$assertionsDisabled"), (0, u "Z"), (98, .class_ 223), (1, u "java/lang/StringLatin1$LinesSpliterator"), (166, .class_ 391), (0, u "java/lang/StringLatin1$CharsSpliterator")] 3

def k13m0 : Method := { name := "<init>", desc := "()V", sig := { parameters := [], returnType := none }, accessFlags := 0, code := none }
/-- java/lang/StringLatin1 -/
def k13 : Class := { plain "java/lang/StringLatin1" (some 0) with
  accessFlags := 48
  interfaces := #[]
  cf := some (fileOf pool13 14 #[.nestMembers #[390, 221]] #[{ accessFlags := 0, nameIndex := 7, descriptorIndex := 8, attributes := #[] }] 48 4 #[] #[{ accessFlags := 4120, nameIndex := 121, descriptorIndex := 122, attributes := #[] }])
  fields := #[{ name := "$assertionsDisabled", type := .boolean, accessFlags := 4120, slot := 0, constantValue := 0 }]
  methods := #[k13m0]
  instanceTypes := #[]
  staticTypes := #[.boolean]
  resolved := Array.replicate 395 none
  statics := none }

def pool14 : Array CpInfo := pool [(2, .class_ 4), (1, u "java/lang/Object"), (0, u "<init>"), (0, u "()V"), (17, .class_ 26), (1, u "jdk/internal/util/Preconditions"), (28, .class_ 56), (0, u "jdk/internal/util/Preconditions$4"), (57, .class_ 115), (0, u "jdk/internal/util/Preconditions$1"), (7, u "SIOOBE_FORMATTER"), (0, u "Ljava/util/function/BiFunction;"), (0, .class_ 126), (0, u "jdk/internal/util/Preconditions$2"), (3, u "AIOOBE_FORMATTER"), (0, .class_ 132), (0, u "jdk/internal/util/Preconditions$3"), (3, u "IOOBE_FORMATTER")] 57

def k14m0 : Method := { name := "<init>", desc := "()V", sig := { parameters := [], returnType := none }, accessFlags := 1, code := none }
/-- jdk/internal/util/Preconditions -/
def k14 : Class := { plain "jdk/internal/util/Preconditions" (some 0) with
  accessFlags := 33
  interfaces := #[]
  cf := some (fileOf pool14 24 #[.nestMembers #[55, 131, 125, 114]] #[{ accessFlags := 1, nameIndex := 5, descriptorIndex := 6, attributes := #[] }] 33 2 #[] #[{ accessFlags := 25, nameIndex := 123, descriptorIndex := 124, attributes := #[] }, { accessFlags := 25, nameIndex := 130, descriptorIndex := 124, attributes := #[] }, { accessFlags := 25, nameIndex := 136, descriptorIndex := 124, attributes := #[] }])
  fields := #[{ name := "SIOOBE_FORMATTER", type := (.object "java/util/function/BiFunction"), accessFlags := 25, slot := 0, constantValue := 0 }, { name := "AIOOBE_FORMATTER", type := (.object "java/util/function/BiFunction"), accessFlags := 25, slot := 1, constantValue := 0 }, { name := "IOOBE_FORMATTER", type := (.object "java/util/function/BiFunction"), accessFlags := 25, slot := 2, constantValue := 0 }]
  methods := #[k14m0]
  instanceTypes := #[]
  staticTypes := #[(.object "java/util/function/BiFunction"), (.object "java/util/function/BiFunction"), (.object "java/util/function/BiFunction")]
  resolved := Array.replicate 194 none
  statics := some 2 }

def pool15 : Array CpInfo := pool [(9, u "<init>"), (6, .class_ 18), (1, u "java/lang/Object"), (0, u "()V"), (1, .class_ 23), (1, u "jdk/internal/util/ArraysSupport"), (0, u "LOG2_ARRAY_LONG_INDEX_SCALE"), (0, u "I"), (2, u "U"), (0, u "Ljdk/internal/misc/Unsafe;"), (8, u "BIG_ENDIAN"), (0, u "Z"), (8, u "LOG2_BYTE_BIT_SIZE"), (4, u "LOG2_ARRAY_INT_INDEX_SCALE"), (54, u "JLA"), (0, u "Ljdk/internal/access/JavaLangAccess;"), (11, u "LOG2_ARRAY_BOOLEAN_INDEX_SCALE"), (9, u "LOG2_ARRAY_BYTE_INDEX_SCALE"), (5, u "LOG2_ARRAY_CHAR_INDEX_SCALE"), (5, u "LOG2_ARRAY_SHORT_INDEX_SCALE"), (18, u "LOG2_ARRAY_FLOAT_INDEX_SCALE"), (24, u "LOG2_ARRAY_DOUBLE_INDEX_SCALE"), (89, u "T_BOOLEAN"), (2, u "T_CHAR"), (1, u "T_FLOAT"), (1, u "T_DOUBLE"), (1, u "T_BYTE"), (1, u "T_SHORT"), (1, u "T_INT"), (1, u "T_LONG"), (1, u "SOFT_MAX_ARRAY_LENGTH")] 83

def k15m0 : Method := { name := "<init>", desc := "()V", sig := { parameters := [], returnType := none }, accessFlags := 2, code := none }
/-- jdk/internal/util/ArraysSupport -/
def k15 : Class := { plain "jdk/internal/util/ArraysSupport" (some 0) with
  accessFlags := 33
  interfaces := #[]
  cf := some (fileOf pool15 21 #[] #[{ accessFlags := 2, nameIndex := 9, descriptorIndex := 19, attributes := #[] }] 33 16 #[] #[{ accessFlags := 24, nameIndex := 28, descriptorIndex := 29, attributes := #[] }, { accessFlags := 26, nameIndex := 38, descriptorIndex := 39, attributes := #[] }, { accessFlags := 25, nameIndex := 121, descriptorIndex := 25, attributes := #[] }, { accessFlags := 25, nameIndex := 131, descriptorIndex := 25, attributes := #[] }, { accessFlags := 25, nameIndex := 137, descriptorIndex := 25, attributes := #[] }, { accessFlags := 25, nameIndex := 143, descriptorIndex := 25, attributes := #[] }, { accessFlags := 25, nameIndex := 53, descriptorIndex := 25, attributes := #[] }, { accessFlags := 25, nameIndex := 24, descriptorIndex := 25, attributes := #[] }, { accessFlags := 25, nameIndex := 162, descriptorIndex := 25, attributes := #[] }, { accessFlags := 25, nameIndex := 187, descriptorIndex := 25, attributes := #[] }, { accessFlags := 26, nameIndex := 48, descriptorIndex := 25, attributes := #[] }, { accessFlags := 25, nameIndex := 277, descriptorIndex := 25, attributes := #[] }, { accessFlags := 25, nameIndex := 280, descriptorIndex := 25, attributes := #[] }, { accessFlags := 25, nameIndex := 282, descriptorIndex := 25, attributes := #[] }, { accessFlags := 25, nameIndex := 284, descriptorIndex := 25, attributes := #[] }, { accessFlags := 25, nameIndex := 286, descriptorIndex := 25, attributes := #[] }, { accessFlags := 25, nameIndex := 288, descriptorIndex := 25, attributes := #[] }, { accessFlags := 25, nameIndex := 290, descriptorIndex := 25, attributes := #[] }, { accessFlags := 25, nameIndex := 292, descriptorIndex := 25, attributes := #[] }, { accessFlags := 26, nameIndex := 108, descriptorIndex := 109, attributes := #[] }, { accessFlags := 25, nameIndex := 294, descriptorIndex := 25, attributes := #[] }])
  fields := #[{ name := "U", type := (.object "jdk/internal/misc/Unsafe"), accessFlags := 24, slot := 0, constantValue := 0 }, { name := "BIG_ENDIAN", type := .boolean, accessFlags := 26, slot := 1, constantValue := 0 }, { name := "LOG2_ARRAY_BOOLEAN_INDEX_SCALE", type := .int, accessFlags := 25, slot := 2, constantValue := 0 }, { name := "LOG2_ARRAY_BYTE_INDEX_SCALE", type := .int, accessFlags := 25, slot := 3, constantValue := 0 }, { name := "LOG2_ARRAY_CHAR_INDEX_SCALE", type := .int, accessFlags := 25, slot := 4, constantValue := 0 }, { name := "LOG2_ARRAY_SHORT_INDEX_SCALE", type := .int, accessFlags := 25, slot := 5, constantValue := 0 }, { name := "LOG2_ARRAY_INT_INDEX_SCALE", type := .int, accessFlags := 25, slot := 6, constantValue := 0 }, { name := "LOG2_ARRAY_LONG_INDEX_SCALE", type := .int, accessFlags := 25, slot := 7, constantValue := 0 }, { name := "LOG2_ARRAY_FLOAT_INDEX_SCALE", type := .int, accessFlags := 25, slot := 8, constantValue := 0 }, { name := "LOG2_ARRAY_DOUBLE_INDEX_SCALE", type := .int, accessFlags := 25, slot := 9, constantValue := 0 }, { name := "LOG2_BYTE_BIT_SIZE", type := .int, accessFlags := 26, slot := 10, constantValue := 0 }, { name := "T_BOOLEAN", type := .int, accessFlags := 25, slot := 11, constantValue := 0 }, { name := "T_CHAR", type := .int, accessFlags := 25, slot := 12, constantValue := 0 }, { name := "T_FLOAT", type := .int, accessFlags := 25, slot := 13, constantValue := 0 }, { name := "T_DOUBLE", type := .int, accessFlags := 25, slot := 14, constantValue := 0 }, { name := "T_BYTE", type := .int, accessFlags := 25, slot := 15, constantValue := 0 }, { name := "T_SHORT", type := .int, accessFlags := 25, slot := 16, constantValue := 0 }, { name := "T_INT", type := .int, accessFlags := 25, slot := 17, constantValue := 0 }, { name := "T_LONG", type := .int, accessFlags := 25, slot := 18, constantValue := 0 }, { name := "JLA", type := (.object "jdk/internal/access/JavaLangAccess"), accessFlags := 26, slot := 19, constantValue := 0 }, { name := "SOFT_MAX_ARRAY_LENGTH", type := .int, accessFlags := 25, slot := 20, constantValue := 0 }]
  methods := #[k15m0]
  instanceTypes := #[]
  staticTypes := #[(.object "jdk/internal/misc/Unsafe"), .boolean, .int, .int, .int, .int, .int, .int, .int, .int, .int, .int, .int, .int, .int, .int, .int, .int, .int, (.object "jdk/internal/access/JavaLangAccess"), .int]
  resolved := Array.replicate 378 none
  statics := none }

def pool16 : Array CpInfo := pool [(1, u "java/lang/Cloneable"), (0, .class_ 1), (0, u "java/lang/Object"), (0, .class_ 3)] 3

/-- java/lang/Cloneable -/
def k16 : Class := { plain "java/lang/Cloneable" (some 0) with
  accessFlags := 1537
  interfaces := #[]
  cf := some (fileOf pool16 2 #[] #[] 1537 4 #[] #[])
  fields := #[]
  methods := #[]
  instanceTypes := #[]
  staticTypes := #[]
  resolved := Array.replicate 8 none
  statics := none }

/-- the primitive byte -/
def k17 : Class := { plain "byte" none with kind := .primitive 'B', accessFlags := 0x411 }
/-- [B -/
def k18 : Class := { plain "[B" (some 0) with kind := .array 17 .byte, interfaces := #[16, 2], accessFlags := 1041 }

/-- the primitive char -/
def k19 : Class := { plain "char" none with kind := .primitive 'C', accessFlags := 0x411 }
/-- [C -/
def k20 : Class := { plain "[C" (some 0) with kind := .array 19 .char, interfaces := #[16, 2], accessFlags := 1041 }

/-- the primitive int -/
def k21 : Class := { plain "int" none with kind := .primitive 'I', accessFlags := 0x411 }
/-- [I -/
def k22 : Class := { plain "[I" (some 0) with kind := .array 21 .int, interfaces := #[16, 2], accessFlags := 1041 }

def heap : Heap := #[{ cls := 7, slots := #[.long 0, .int 1, .null, .int 0, .null, .int 0, .int 0], vm := .statics 7 },
  { cls := 12, slots := #[.ref 3, .null, .null, .null, .null], vm := .statics 12 },
  { cls := 14, slots := #[.null, .null, .null], vm := .statics 14 },
  { cls := 12, slots := #[.null, .int 0, .int 0], vm := .none }]
def classes : Array Class := #[k0, k1, k2, k3, k4, k5, k6, k7, k8, k9, k10, k11, k12, k13, k14, k15, k16, k17, k18, k19, k20, k21, k22]
def interned : List (Array UInt16 × Addr) := []
def slotsUsed : Nat := 18
def theMethod : MethodId := ⟨1, 1⟩
def args0 : Array Value := #[.int 65601, .int 66]
def aboutOver (below : List Frame) : State where
  vm := { classes := classes, interned := interned.toArray }
  heap := heap
  slotsUsed := slotsUsed
  threads := #[{ frames := .invoking theMethod args0 :: below }]
def below0 : List Frame := [.native { method := ⟨0, 0⟩, args := #[] }]
def about1 : State := aboutOver below0
def p0 : Program := .bare "" "" ""
def e0 : Env := launch0.env 0 0 0
theorem w_frames : about1.frames = Frame.invoking theMethod args0 :: below0 := rfl
set_option maxRecDepth 65536 in
theorem w_args : argsFit about1.vm theMethod args0 = true := by decide +kernel
set_option maxRecDepth 65536 in
theorem w_heap : heapFits about1 = true := by decide +kernel
set_option maxRecDepth 65536 in
theorem w_runnable : about1.curStatus? = some .runnable := by decide +kernel
set_option maxRecDepth 65536 in
theorem w_alone : about1.alone = true := by decide +kernel
set_option maxRecDepth 65536 in
theorem w_named : about1.methodNamed? x = some theMethod := by decide +kernel
set_option maxRecDepth 65536 in
theorem w_hears : about1.hears theMethod below0 = true := by decide +kernel
set_option maxRecDepth 65536 in
theorem w_ripe : about1.ripe theMethod args0 below0 = true := by decide +kernel
theorem w_running : about1.status = .running := rfl
set_option maxRecDepth 65536 in
theorem w_room : about1.hasRoom e0.platform room_1 = true :=
  launch0.hasRoom_least _ room_1 (by decide +kernel) (by decide +kernel) (by decide +kernel) (by decide +kernel) (by decide +kernel) (by decide +kernel)
theorem allAtoms_all (ts : List Jvm.Cond) (a : Array Jvm.Value) (st : Jvm.State) : (allAtoms ts).before a st = ts.all (fun c => c.before a st) := by
  induction ts with
  | nil => rfl
  | cons c t ih =>
    show (Jvm.Cond.and c (allAtoms t)).before a st = _
    rw [Jvm.Cond.before_and, ih, List.all_cons]
def words1 : List Jvm.Cond := Jvm.Cond.code x code maxLocals ret :: tables_1
/-- a 'code' word, met by the world's own term for the bytes: nothing is compared byte by byte -/
theorem code_word {y : MethodName} {bytes : ByteArray} {mx : Nat} {rt : Option FieldType} {a : Array Value} {s : State} {m : MethodId} {meth : Method} {c : Code} (h1 : s.methodNamed? y = some m) (h2 : s.vm.method? m = some meth) (h3 : meth.code = some c) (h4 : c.code = bytes)
    (h5 : (c.maxLocals == mx && c.exceptionTable.isEmpty && decide (c.maxStack ≤ mostOperands) && decide (meth.sig.returnType = rt) && !meth.locks && decide (parseMethodDescriptor y.desc = some meth.sig)) = true) : (Jvm.Cond.code y bytes mx rt).before a s = true := by
  simp only [Bool.and_eq_true, beq_iff_eq, Bool.not_eq_true', decide_eq_true_eq] at h5
  obtain ⟨⟨⟨⟨⟨g1, g2⟩, g3⟩, g4⟩, g5⟩, g6⟩ := h5
  simp [Cond.before, Cond.holds, Cond.value, h1, h2, h3, h4, g1, g2, g3, g4, g5, g6]
def isCode : Jvm.Cond → Bool
  | .code _ _ _ _ => true
  | _ => false
theorem all_split {L : List Jvm.Cond} {P : Jvm.Cond → Bool} (h1 : L.all (fun c => isCode c || P c) = true) (h2 : ∀ c ∈ L.filter isCode, P c = true) : L.all P = true := by
  refine List.all_eq_true.mpr fun c hc => ?_
  have h := List.all_eq_true.mp h1 c hc
  rcases Bool.eq_false_or_eq_true (isCode c) with hi | hi
  · exact h2 c (List.mem_filter.mpr ⟨hc, hi⟩)
  · simpa [hi] using h
set_option maxRecDepth 65536 in
theorem w_c0 : (Jvm.Cond.code x code maxLocals ret).before args0 about1 = true := code_word (m := ⟨1, 1⟩) (meth := k1m1) (c := k1c1) (by decide +kernel) rfl rfl rfl (by decide +kernel)
set_option maxRecDepth 65536 in
theorem w_c1 : (Jvm.Cond.code ({ cls := "java/lang/String", name := "<init>", desc := "([C)V" } : Jvm.MethodName) jdk_42_method_3_code (2 : Nat) (Option.none : Option Jvm.ClassFile.FieldType)).before args0 about1 = true := code_word (m := ⟨7, 1⟩) (meth := k7m1) (c := k7c1) (by decide +kernel) rfl rfl rfl (by decide +kernel)
set_option maxRecDepth 65536 in
theorem w_c2 : (Jvm.Cond.code ({ cls := "java/lang/String", name := "<init>", desc := "([CIILjava/lang/Void;)V" } : Jvm.MethodName) jdk_42_method_149_code (6 : Nat) (Option.none : Option Jvm.ClassFile.FieldType)).before args0 about1 = true := code_word (m := ⟨7, 4⟩) (meth := k7m4) (c := k7c4) (by decide +kernel) rfl rfl rfl (by decide +kernel)
set_option maxRecDepth 65536 in
theorem w_c3 : (Jvm.Cond.code ({ cls := "java/lang/Object", name := "<init>", desc := "()V" } : Jvm.MethodName) object_method_1_code (1 : Nat) (Option.none : Option Jvm.ClassFile.FieldType)).before args0 about1 = true := code_word (m := ⟨0, 0⟩) (meth := k0m0) (c := k0c0) (by decide +kernel) rfl rfl rfl (by decide +kernel)
set_option maxRecDepth 65536 in
theorem w_c4 : (Jvm.Cond.code ({ cls := "java/lang/StringUTF16", name := "compress", desc := "([CII)[B" } : Jvm.MethodName) jdk_52_method_16_code (6 : Nat) (Option.some (Jvm.ClassFile.FieldType.array Jvm.ClassFile.FieldType.byte))).before args0 about1 = true := code_word (m := ⟨8, 2⟩) (meth := k8m2) (c := k8c2) (by decide +kernel) rfl rfl rfl (by decide +kernel)
set_option maxRecDepth 65536 in
theorem w_c5 : (Jvm.Cond.code ({ cls := "java/lang/StringUTF16", name := "compress", desc := "([CI[BII)I" } : Jvm.MethodName) jdk_52_method_21_code (7 : Nat) (Option.some Jvm.ClassFile.FieldType.int)).before args0 about1 = true := code_word (m := ⟨8, 3⟩) (meth := k8m3) (c := k8c3) (by decide +kernel) rfl rfl rfl (by decide +kernel)
set_option maxRecDepth 65536 in
theorem w_c6 : (Jvm.Cond.code ({ cls := "java/lang/StringUTF16", name := "coderFromArrayLen", desc := "([BI)B" } : Jvm.MethodName) jdk_52_method_15_code (2 : Nat) (Option.some Jvm.ClassFile.FieldType.byte)).before args0 about1 = true := code_word (m := ⟨8, 1⟩) (meth := k8m1) (c := k8c1) (by decide +kernel) rfl rfl rfl (by decide +kernel)
set_option maxRecDepth 65536 in
theorem w_c7 : (Jvm.Cond.code ({ cls := "com/example/casewright/engine/TestResult", name := "passed", desc := "(Ljava/lang/String;Ljava/lang/String;)Lcom/example/casewright/engine/TestResult;" } : Jvm.MethodName) prog_61_method_2_code (2 : Nat) (Option.some (Jvm.ClassFile.FieldType.object "com/example/casewright/engine/TestResult"))).before args0 about1 = true := code_word (m := ⟨10, 1⟩) (meth := k10m1) (c := k10c1) (by decide +kernel) rfl rfl rfl (by decide +kernel)
set_option maxRecDepth 65536 in
theorem w_c8 : (Jvm.Cond.code ({ cls := "com/example/casewright/engine/TestResult", name := "<init>", desc := "(Ljava/lang/String;Ljava/lang/String;Lcom/example/casewright/engine/TestResult$Status;Ljava/lang/Throwable;Ljava/lang/String;)V" } : Jvm.MethodName) prog_61_method_1_code (6 : Nat) (Option.none : Option Jvm.ClassFile.FieldType)).before args0 about1 = true := code_word (m := ⟨10, 0⟩) (meth := k10m0) (c := k10c0) (by decide +kernel) rfl rfl rfl (by decide +kernel)
set_option maxRecDepth 65536 in
theorem w_c9 : (Jvm.Cond.code ({ cls := "java/lang/Record", name := "<init>", desc := "()V" } : Jvm.MethodName) jdk_30_method_1_code (1 : Nat) (Option.none : Option Jvm.ClassFile.FieldType)).before args0 about1 = true := code_word (m := ⟨9, 0⟩) (meth := k9m0) (c := k9c0) (by decide +kernel) rfl rfl rfl (by decide +kernel)
set_option maxRecDepth 65536 in
theorem w_c10 : (Jvm.Cond.code ({ cls := "com/example/casewright/engine/TestResult", name := "skipReason", desc := "()Ljava/lang/String;" } : Jvm.MethodName) prog_61_method_12_code (1 : Nat) (Option.some (Jvm.ClassFile.FieldType.object "java/lang/String"))).before args0 about1 = true := code_word (m := ⟨10, 6⟩) (meth := k10m6) (c := k10c6) (by decide +kernel) rfl rfl rfl (by decide +kernel)
set_option maxRecDepth 65536 in
theorem w_c11 : (Jvm.Cond.code ({ cls := "com/example/casewright/engine/TestResult", name := "className", desc := "()Ljava/lang/String;" } : Jvm.MethodName) prog_61_method_8_code (1 : Nat) (Option.some (Jvm.ClassFile.FieldType.object "java/lang/String"))).before args0 about1 = true := code_word (m := ⟨10, 2⟩) (meth := k10m2) (c := k10c2) (by decide +kernel) rfl rfl rfl (by decide +kernel)
set_option maxRecDepth 65536 in
theorem w_c12 : (Jvm.Cond.code ({ cls := "java/lang/String", name := "equals", desc := "(Ljava/lang/Object;)Z" } : Jvm.MethodName) jdk_42_method_66_code (3 : Nat) (Option.some Jvm.ClassFile.FieldType.boolean)).before args0 about1 = true := code_word (m := ⟨7, 3⟩) (meth := k7m3) (c := k7c3) (by decide +kernel) rfl rfl rfl (by decide +kernel)
set_option maxRecDepth 65536 in
theorem w_c13 : (Jvm.Cond.code ({ cls := "com/example/casewright/engine/TestResult", name := "methodName", desc := "()Ljava/lang/String;" } : Jvm.MethodName) prog_61_method_9_code (1 : Nat) (Option.some (Jvm.ClassFile.FieldType.object "java/lang/String"))).before args0 about1 = true := code_word (m := ⟨10, 3⟩) (meth := k10m3) (c := k10c3) (by decide +kernel) rfl rfl rfl (by decide +kernel)
set_option maxRecDepth 65536 in
theorem w_c14 : (Jvm.Cond.code ({ cls := "com/example/casewright/engine/TestResult", name := "status", desc := "()Lcom/example/casewright/engine/TestResult$Status;" } : Jvm.MethodName) prog_61_method_10_code (1 : Nat) (Option.some (Jvm.ClassFile.FieldType.object "com/example/casewright/engine/TestResult$Status"))).before args0 about1 = true := code_word (m := ⟨10, 4⟩) (meth := k10m4) (c := k10c4) (by decide +kernel) rfl rfl rfl (by decide +kernel)
set_option maxRecDepth 65536 in
theorem w_c15 : (Jvm.Cond.code ({ cls := "com/example/casewright/engine/TestResult", name := "problem", desc := "()Ljava/lang/Throwable;" } : Jvm.MethodName) prog_61_method_11_code (1 : Nat) (Option.some (Jvm.ClassFile.FieldType.object "java/lang/Throwable"))).before args0 about1 = true := code_word (m := ⟨10, 5⟩) (meth := k10m5) (c := k10c5) (by decide +kernel) rfl rfl rfl (by decide +kernel)
set_option maxRecDepth 65536 in
theorem w_c16 : (Jvm.Cond.code ({ cls := "java/lang/String", name := "isEmpty", desc := "()Z" } : Jvm.MethodName) jdk_42_method_55_code (1 : Nat) (Option.some Jvm.ClassFile.FieldType.boolean)).before args0 about1 = true := code_word (m := ⟨7, 2⟩) (meth := k7m2) (c := k7c2) (by decide +kernel) rfl rfl rfl (by decide +kernel)
def codes1 : List Jvm.Cond := [Jvm.Cond.code x code maxLocals ret, Jvm.Cond.code ({ cls := "java/lang/String", name := "<init>", desc := "([C)V" } : Jvm.MethodName) jdk_42_method_3_code (2 : Nat) (Option.none : Option Jvm.ClassFile.FieldType), Jvm.Cond.code ({ cls := "java/lang/String", name := "<init>", desc := "([CIILjava/lang/Void;)V" } : Jvm.MethodName) jdk_42_method_149_code (6 : Nat) (Option.none : Option Jvm.ClassFile.FieldType), Jvm.Cond.code ({ cls := "java/lang/Object", name := "<init>", desc := "()V" } : Jvm.MethodName) object_method_1_code (1 : Nat) (Option.none : Option Jvm.ClassFile.FieldType), Jvm.Cond.code ({ cls := "java/lang/StringUTF16", name := "compress", desc := "([CII)[B" } : Jvm.MethodName) jdk_52_method_16_code (6 : Nat) (Option.some (Jvm.ClassFile.FieldType.array Jvm.ClassFile.FieldType.byte)), Jvm.Cond.code ({ cls := "java/lang/StringUTF16", name := "compress", desc := "([CI[BII)I" } : Jvm.MethodName) jdk_52_method_21_code (7 : Nat) (Option.some Jvm.ClassFile.FieldType.int), Jvm.Cond.code ({ cls := "java/lang/StringUTF16", name := "coderFromArrayLen", desc := "([BI)B" } : Jvm.MethodName) jdk_52_method_15_code (2 : Nat) (Option.some Jvm.ClassFile.FieldType.byte), Jvm.Cond.code ({ cls := "com/example/casewright/engine/TestResult", name := "passed", desc := "(Ljava/lang/String;Ljava/lang/String;)Lcom/example/casewright/engine/TestResult;" } : Jvm.MethodName) prog_61_method_2_code (2 : Nat) (Option.some (Jvm.ClassFile.FieldType.object "com/example/casewright/engine/TestResult")), Jvm.Cond.code ({ cls := "com/example/casewright/engine/TestResult", name := "<init>", desc := "(Ljava/lang/String;Ljava/lang/String;Lcom/example/casewright/engine/TestResult$Status;Ljava/lang/Throwable;Ljava/lang/String;)V" } : Jvm.MethodName) prog_61_method_1_code (6 : Nat) (Option.none : Option Jvm.ClassFile.FieldType), Jvm.Cond.code ({ cls := "java/lang/Record", name := "<init>", desc := "()V" } : Jvm.MethodName) jdk_30_method_1_code (1 : Nat) (Option.none : Option Jvm.ClassFile.FieldType), Jvm.Cond.code ({ cls := "com/example/casewright/engine/TestResult", name := "skipReason", desc := "()Ljava/lang/String;" } : Jvm.MethodName) prog_61_method_12_code (1 : Nat) (Option.some (Jvm.ClassFile.FieldType.object "java/lang/String")), Jvm.Cond.code ({ cls := "com/example/casewright/engine/TestResult", name := "className", desc := "()Ljava/lang/String;" } : Jvm.MethodName) prog_61_method_8_code (1 : Nat) (Option.some (Jvm.ClassFile.FieldType.object "java/lang/String")), Jvm.Cond.code ({ cls := "java/lang/String", name := "equals", desc := "(Ljava/lang/Object;)Z" } : Jvm.MethodName) jdk_42_method_66_code (3 : Nat) (Option.some Jvm.ClassFile.FieldType.boolean), Jvm.Cond.code ({ cls := "com/example/casewright/engine/TestResult", name := "methodName", desc := "()Ljava/lang/String;" } : Jvm.MethodName) prog_61_method_9_code (1 : Nat) (Option.some (Jvm.ClassFile.FieldType.object "java/lang/String")), Jvm.Cond.code ({ cls := "com/example/casewright/engine/TestResult", name := "status", desc := "()Lcom/example/casewright/engine/TestResult$Status;" } : Jvm.MethodName) prog_61_method_10_code (1 : Nat) (Option.some (Jvm.ClassFile.FieldType.object "com/example/casewright/engine/TestResult$Status")), Jvm.Cond.code ({ cls := "com/example/casewright/engine/TestResult", name := "problem", desc := "()Ljava/lang/Throwable;" } : Jvm.MethodName) prog_61_method_11_code (1 : Nat) (Option.some (Jvm.ClassFile.FieldType.object "java/lang/Throwable")), Jvm.Cond.code ({ cls := "java/lang/String", name := "isEmpty", desc := "()Z" } : Jvm.MethodName) jdk_42_method_55_code (1 : Nat) (Option.some Jvm.ClassFile.FieldType.boolean)]
set_option maxRecDepth 65536 in
theorem codes_eq : words1.filter isCode = codes1 := rfl
theorem w_codes : ∀ c ∈ words1.filter isCode, c.before args0 about1 = true := by
  rw [codes_eq]
  intro c hc
  simp only [codes1, List.mem_cons, List.not_mem_nil, or_false] at hc
  rcases hc with rfl | rfl | rfl | rfl | rfl | rfl | rfl | rfl | rfl | rfl | rfl | rfl | rfl | rfl | rfl | rfl | rfl
  · exact w_c0
  · exact w_c1
  · exact w_c2
  · exact w_c3
  · exact w_c4
  · exact w_c5
  · exact w_c6
  · exact w_c7
  · exact w_c8
  · exact w_c9
  · exact w_c10
  · exact w_c11
  · exact w_c12
  · exact w_c13
  · exact w_c14
  · exact w_c15
  · exact w_c16
set_option maxRecDepth 65536 in
theorem w_t1 : (words1.take 24).all (fun c => isCode c || c.before args0 about1) = true := by decide +kernel
set_option maxRecDepth 65536 in
theorem w_t2 : ((words1.drop 24).take 24).all (fun c => isCode c || c.before args0 about1) = true := by decide +kernel
set_option maxRecDepth 65536 in
theorem w_t3 : (((words1.drop 24).drop 24).take 24).all (fun c => isCode c || c.before args0 about1) = true := by decide +kernel
set_option maxRecDepth 65536 in
theorem w_t4 : ((((words1.drop 24).drop 24).drop 24).take 24).all (fun c => isCode c || c.before args0 about1) = true := by decide +kernel
set_option maxRecDepth 65536 in
theorem w_t5 : ((((words1.drop 24).drop 24).drop 24).drop 24).all (fun c => isCode c || c.before args0 about1) = true := by decide +kernel
theorem w_tables : (allAtoms (Jvm.Cond.code x code maxLocals ret :: tables_1)).before args0 about1 = true := by
  rw [allAtoms_all]
  show words1.all (fun c => c.before args0 about1) = true
  refine all_split ?_ w_codes
  rw [← List.take_append_drop 24 words1, List.all_append, w_t1, ← List.take_append_drop 24 (words1.drop 24), List.all_append, w_t2, ← List.take_append_drop 24 ((words1.drop 24).drop 24), List.all_append, w_t3, ← List.take_append_drop 24 (((words1.drop 24).drop 24).drop 24), List.all_append, w_t4, w_t5]
  rfl
set_option maxRecDepth 65536 in
theorem w_rest : rest_1_c.before args0 about1 = true := by decide +kernel
set_option maxRecDepth 65536 in
theorem w_case : (Jvm.Cond.and given_1 narrow_1).before args0 about1 = true := by decide +kernel
set_option maxRecDepth 65536 in
theorem w_consts : constsHeld consts_1 about1 := Jvm.Lit.constsHeldB_iff.mp (by decide +kernel)
theorem w_applies : (headSpec (Jvm.Cond.code x code maxLocals ret :: tables_1) room_1).applies x e0.platform about1 = true :=
  (Spec.applies_iff w_frames).mpr ⟨w_running, w_runnable, w_alone, w_named, w_hears, w_ripe, w_room, w_tables⟩
theorem atStart : AtStart classFile x code maxLocals ret World_1 tables_1 room_1 Calls_1 rest_1 Pre_1 launch0 p0 e0 about1 theMethod args0 below0 :=
  ⟨lists_1, trivial, launch0.admits_env _ _ _, launch0.least_env, fairChoices_fair.cas, fairChoices_fair.clock, w_frames, w_args, w_heap, w_applies, ⟨w_consts, trivial⟩, w_rest, w_case⟩
end start1
theorem witness_1 : WitnessClaimed_1 := ⟨start1.p0, start1.e0, start1.about1, start1.theMethod, start1.args0, start1.below0, start1.atStart⟩
end Jvm.Pilot.@@N@@
