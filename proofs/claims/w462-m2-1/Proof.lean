import JvmDerived
import JvmDerived.Pilot.@@N@@Statement
import JvmDerived.Pilot.@@N@@Code
set_option linter.unusedVariables false
set_option linter.unusedSimpArgs false
namespace Jvm.RoadKit
open Sem ClassFile Op Lib Jvm.Stand Jvm.Free Jvm.LawKit
section New
variable {p : Program} {l : Launch} {e : Env} {R : Room} {s : State} {m : MethodId} {args : Array Value} {below : List Frame} {meth : Method} {c : Code} {T : State} {locs : List Loc} {cells slots : Nat}
theorem retI (X : Stand p l e R s m args below meth c T locs cells slots) (hx : p.tables.exec = Jvm.exec) {pc : Nat} {Ls : Array Slot} {z : Int32} {rest : List Value} (hret : meth.sig.returnType = some .int) (hd : decode c.code pc = .ok (.ireturn, 1)) {fs : List Frame}
    (hl : ∀ (f : JFrame) (acts : List Action), f.method = m → f.locked = none → f.entered = [] → (doReturn e (T.setTop f) acts (some (.int z))).1 = T.setFrames fs) : Steps p.tables e below (T.setTop (mkF m pc Ls (.int z :: rest))) (T.setFrames fs) := by
  have hm' : T.vm.method? m = some meth := X.method'
  have hn : narrow .int (.int z) = .int z := rfl
  show Steps p.tables e below (T.setTop { method := m, pc := pc, locals := Ls, stack := _ :: rest, locked := none }) _
  jvm_step X.here [X.here.top, hx, hd, hm', hret, hn]
  first | (intro acts; rw [hl _ acts rfl rfl rfl]) | rw [hl _ _ rfl rfl rfl]
  exact Steps.refl _
end New
end Jvm.RoadKit
namespace Jvm.Pilot.@@N@@
open Jvm Jvm.ClassFile Sem Op Lib Jvm.Free Jvm.Stand Jvm.LawKit Jvm.RoadKit Bundle Jvm.Pilot.@@N@@.Jvm.D
theorem own_lw_lt (x y : Int64) : lcmpW x y < 0 ↔ x < y := by rw [lcW]; exact lc_lt x y
theorem own_lw_gt (x y : Int64) : 0 < lcmpW x y ↔ y < x := by rw [lcW]; exact lc_gt x y
theorem own_lw_eq (x y : Int64) : lcmpW x y = 0 ↔ x = y := by rw [lcW]; exact lc_eq x y
theorem own_retJ {p : Program} {l : Launch} {e : Env} {R : Room} {s : State} {m : MethodId} {args : Array Value} {below : List Frame} {meth : Method} {c : Code} {T : State} {locs : List Loc} {cells slots : Nat} (X : Stand p l e R s m args below meth c T locs cells slots) (hx : p.tables.exec = Jvm.exec) {pc : Nat} {Ls : Array Slot} {z : Int64} {rest : List Value} (hret : meth.sig.returnType = some .long) (hd : decode c.code pc = .ok (.lreturn, 1)) {fs : List Frame}
    (hl : ∀ (f : JFrame) (acts : List Action), f.method = m → f.locked = none → f.entered = [] → (doReturn e (T.setTop f) acts (some (.long z))).1 = T.setFrames fs) : Steps p.tables e below (T.setTop (mkF m pc Ls (.long z :: rest))) (T.setFrames fs) := by
  have hm' : T.vm.method? m = some meth := X.method'
  have hn : narrow .long (.long z) = .long z := rfl
  show Steps p.tables e below (T.setTop { method := m, pc := pc, locals := Ls, stack := _ :: rest, locked := none }) _
  jvm_step X.here [X.here.top, hx, hd, hm', hret, hn]
  first | (intro acts; rw [hl _ acts rfl rfl rfl]) | rw [hl _ _ rfl rfl rfl]
  exact Steps.refl _
theorem own_ne32 {k n : Int32} (h : ¬ k = n) : n.toInt ≠ k.toInt := fun e => h (Int32.toInt_inj.mp e.symm)
def own_s0 : List Value := List.replicate 16 (.int (0 : Int32))
theorem own_d2_0 : decode jdk_43_method_3_code 0 = .ok (.iload_n 0, 1) := by decide +kernel
theorem own_d2_1 : decode jdk_43_method_3_code 1 = .ok (.sipush 255, 3) := by decide +kernel
theorem own_d2_4 : decode jdk_43_method_3_code 4 = .ok (.if_icmp .gt 7, 3) := by decide +kernel
theorem own_d2_7 : decode jdk_43_method_3_code 7 = .ok (.iconst 1, 1) := by decide +kernel
theorem own_d2_8 : decode jdk_43_method_3_code 8 = .ok (.goto 4, 3) := by decide +kernel
theorem own_d2_11 : decode jdk_43_method_3_code 11 = .ok (.iconst 0, 1) := by decide +kernel
theorem own_d2_12 : decode jdk_43_method_3_code 12 = .ok (.ireturn, 1) := by decide +kernel
theorem own_pn2 : plainName "java/lang/StringLatin1" = true := by first | (simp [plainName, overriddenIn]; done) | decide +kernel
theorem own_ef2 (m : MethodId) (x0 : Int32) : entryFrame m #[(.int x0)] 1 = (mkF m 0 #[.val (.int x0)] []) := by first | (simp [entryFrame, mkF, argsToLocals, Value.category]; done) | rfl
def own_f2 (p0 : Int32) : Int32 := (if (255 : Int32) < p0 then (0 : Int32) else (1 : Int32))
def own_Q2 (Z : State) (p0 : Int32) (h0 : Heap) (n0 : Nat) (v : Option Value) (h : Heap) (L : List Loc) : Prop := v = some (.int (own_f2 p0)) ∧ Fr n0 L ∧ h = h0
set_option maxRecDepth 65536 in
set_option maxHeartbeats 40000000 in
theorem own_rm2 (l : Launch) (Z : State) (a0 : Array Value) (hw : ∀ d ∈ tables_1, d.before a0 Z = true) (ws : List Jvm.Cond) (p0 : Int32) (h0 : Heap) (n0 : Nat) (Z0 : n0 ≤ h0.size) :
    MetFree l (⟨"java/lang/StringLatin1", "canEncode", "(C)Z"⟩ : MethodName) (head1 (Jvm.Cond.code (⟨"java/lang/StringLatin1", "canEncode", "(C)Z"⟩ : MethodName) jdk_43_method_3_code 1 (some .boolean) :: ws) ({ frames := 0, cells := 0, slots := 0, locals := 0 } : Room)) (fun a U => a = #[(.int p0)] ∧ Z.Warmed39 U.vm ∧ U.heap = h0) (fun _ _ _ _ _ => True) (fun _ U o U' => ∃ v L, o = .returned v ∧ own_Q2 Z p0 h0 n0 v U'.heap L ∧ FrameEnd U o U' L ({ frames := 0, cells := 0, slots := 0, locals := 0 } : Room).cells ({ frames := 0, cells := 0, slots := 0, locals := 0 } : Room).slots) := by
  refine MetFree.of_bodySF (plainFor_of_name own_pn2) hisR ?_
  intro p e s m args below meth c s₁ Bd hml0 hP hK
  obtain ⟨rfl, hZ, hh⟩ := hP
  have hx := Bd.exec
  have hlk : meth.locks = false := BodyLoose.notSynchronized Bd
  have hby := Bd.bytes
  have hml : c.maxLocals = 1 := hml0
  have hown : s.vm.findClass "java/lang/StringLatin1" = some m.cls := findClass_of_methodNamed Bd.named
  have hnm := (name_of_methodNamed Bd.named Bd.method).1
  have X0 : Stand p l e ({ frames := 0, cells := 0, slots := 0, locals := 0 } : Room) s m #[(.int p0)] below meth c s₁ [] 0 0 := Stand.of_body Bd
  have e0 : s₁.heap = h0 := by rw [← hh, Bd.state]; rfl
  have N0 := Fr.nil n0
  have pre0 : ∀ t, Steps p.tables e below (s₁.setTop (mkF m 0 #[.val (.int p0)] [])) t → Steps p.tables e below (s₁.setTop (entryFrame m #[(.int p0)] 1)) t := fun t k => castTop (own_ef2 m p0) k
  have pre1 : ∀ t, Steps p.tables e below (s₁.setTop (mkF m 4 #[.val (.int p0)] [(.int (255 : Int32)), (.int p0)])) t → Steps p.tables e below (s₁.setTop (entryFrame m #[(.int p0)] 1)) t := fun t k => pre0 t (by
      refine XS.iloadN X0.here hx rfl (hb hby own_d2_0) rfl ?_
      show Steps p.tables e below (s₁.setTop (mkF m 1 #[.val (.int p0)] [(.int p0)])) _
      refine XS.sipush X0.here hx rfl (hb hby own_d2_1) ?_
      exact k)
  by_cases hc2 : (255 : Int32) < p0
  · have pre3 : ∀ t, Steps p.tables e below (s₁.setTop (mkF m 12 #[.val (.int p0)] [(.int (0 : Int32))])) t → Steps p.tables e below (s₁.setTop (entryFrame m #[(.int p0)] 1)) t := fun t k => pre1 t (by
        refine XS.icmpYes X0.here hx rfl (pc0 := 4) (pc' := 11) rfl (hb hby own_d2_4) rfl (tlt hc2).2.2.1 (by decide) (by decide) ?_
        show Steps p.tables e below (s₁.setTop (mkF m 11 #[.val (.int p0)] [])) _
        refine XS.iconst X0.here hx rfl (hb hby own_d2_11) ?_
        exact k)
    obtain ⟨fs, hr, hrun, hended, hW, hsame⟩ := X0.leave (v := some (.int (0 : Int32))) (fun h => by rw [Bd.returns] at h; cases h) (hlocks := hlk)
    refine ⟨_, _, pre3 _ ?_, hrun, hended, _, _, rfl, ?_, ⟨_, rfl⟩, hW, hsame.mono (by decide) (by decide)⟩
    · show Steps p.tables e below (s₁.setTop (mkF m 12 #[.val (.int p0)] [(.int (0 : Int32))])) _
      exact retN X0 hx (t := .boolean) Bd.returns (by simp) (hb hby own_d2_12) hr
    · show own_Q2 Z p0 h0 n0 _ s₁.heap _; rw [e0]; exact ⟨(by show some (Value.int _) = some (.int (own_f2 p0)); unfold own_f2; rw [if_pos hc2]), N0, rfl⟩
  · have pre4 : ∀ t, Steps p.tables e below (s₁.setTop (mkF m 12 #[.val (.int p0)] [(.int (1 : Int32))])) t → Steps p.tables e below (s₁.setTop (entryFrame m #[(.int p0)] 1)) t := fun t k => pre1 t (by
        refine XS.icmpNo X0.here hx rfl (hb hby own_d2_4) rfl (flt hc2).2.2.1 ?_
        show Steps p.tables e below (s₁.setTop (mkF m 7 #[.val (.int p0)] [])) _
        refine XS.iconst X0.here hx rfl (hb hby own_d2_7) ?_
        refine XS.goto X0.here hx rfl (pc0 := 8) (pc' := 12) rfl (hb hby own_d2_8) (by decide) (by decide) ?_
        exact k)
    obtain ⟨fs, hr, hrun, hended, hW, hsame⟩ := X0.leave (v := some (.int (1 : Int32))) (fun h => by rw [Bd.returns] at h; cases h) (hlocks := hlk)
    refine ⟨_, _, pre4 _ ?_, hrun, hended, _, _, rfl, ?_, ⟨_, rfl⟩, hW, hsame.mono (by decide) (by decide)⟩
    · show Steps p.tables e below (s₁.setTop (mkF m 12 #[.val (.int p0)] [(.int (1 : Int32))])) _
      exact retN X0 hx (t := .boolean) Bd.returns (by simp) (hb hby own_d2_12) hr
    · show own_Q2 Z p0 h0 n0 _ s₁.heap _; rw [e0]; exact ⟨(by show some (Value.int _) = some (.int (own_f2 p0)); unfold own_f2; rw [if_neg hc2]), N0, rfl⟩
theorem own_d3_0 : decode jdk_43_method_46_code 0 = .ok (.iconst 1, 1) := by decide +kernel
theorem own_d3_1 : decode jdk_43_method_46_code 1 = .ok (.newarray .byte, 2) := by decide +kernel
theorem own_d3_3 : decode jdk_43_method_46_code 3 = .ok (.dup, 1) := by decide +kernel
theorem own_d3_4 : decode jdk_43_method_46_code 4 = .ok (.iconst 0, 1) := by decide +kernel
theorem own_d3_5 : decode jdk_43_method_46_code 5 = .ok (.iload_n 0, 1) := by decide +kernel
theorem own_d3_6 : decode jdk_43_method_46_code 6 = .ok (.i2b, 1) := by decide +kernel
theorem own_d3_7 : decode jdk_43_method_46_code 7 = .ok (.bastore, 1) := by decide +kernel
theorem own_d3_8 : decode jdk_43_method_46_code 8 = .ok (.areturn, 1) := by decide +kernel
theorem own_pn3 : plainName "java/lang/StringLatin1" = true := by first | (simp [plainName, overriddenIn]; done) | decide +kernel
theorem own_ef3 (m : MethodId) (x0 : Int32) : entryFrame m #[(.int x0)] 1 = (mkF m 0 #[.val (.int x0)] []) := by first | (simp [entryFrame, mkF, argsToLocals, Value.category]; done) | rfl
def own_Q3 (Z : State) (p0 : Int32) (h0 : Heap) (n0 : Nat) (v : Option Value) (h : Heap) (L : List Loc) : Prop := ∃ b1 : Addr, ∃ k1 : ClassId, v = some (.ref b1) ∧ Fr n0 L ∧ Keep h0 h [] ∧ h0.size ≤ b1 ∧ Arv Z h b1 k1 .byte (1 : Int32) [(.int (nar .byte (p0.toInt8.toInt32)))] (.int (0 : Int32))
set_option maxRecDepth 65536 in
set_option maxHeartbeats 40000000 in
theorem own_rm3 (l : Launch) (Z : State) (a0 : Array Value) (hw : ∀ d ∈ tables_1, d.before a0 Z = true) (ws : List Jvm.Cond) (p0 : Int32) (h0 : Heap) (n0 : Nat) (Z0 : n0 ≤ h0.size) :
    MetFree l (⟨"java/lang/StringLatin1", "toBytes", "(C)[B"⟩ : MethodName) (head1 (Jvm.Cond.code (⟨"java/lang/StringLatin1", "toBytes", "(C)[B"⟩ : MethodName) jdk_43_method_46_code 1 (some (.array .byte)) :: ws) ({ frames := 0, cells := 1, slots := 1, locals := 0 } : Room)) (fun a U => a = #[(.int p0)] ∧ Z.Warmed39 U.vm ∧ U.heap = h0) (fun _ _ _ _ _ => True) (fun _ U o U' => ∃ v L, o = .returned v ∧ own_Q3 Z p0 h0 n0 v U'.heap L ∧ FrameEnd U o U' L ({ frames := 0, cells := 1, slots := 1, locals := 0 } : Room).cells ({ frames := 0, cells := 1, slots := 1, locals := 0 } : Room).slots) := by
  refine MetFree.of_bodySF (plainFor_of_name own_pn3) hisR ?_
  intro p e s m args below meth c s₁ Bd hml0 hP hK
  obtain ⟨rfl, hZ, hh⟩ := hP
  have hx := Bd.exec
  have hlk : meth.locks = false := BodyLoose.notSynchronized Bd
  have hby := Bd.bytes
  have hml : c.maxLocals = 1 := hml0
  have hown : s.vm.findClass "java/lang/StringLatin1" = some m.cls := findClass_of_methodNamed Bd.named
  have hnm := (name_of_methodNamed Bd.named Bd.method).1
  have X0 : Stand p l e ({ frames := 0, cells := 1, slots := 1, locals := 0 } : Room) s m #[(.int p0)] below meth c s₁ [] 0 0 := Stand.of_body Bd
  have e0 : s₁.heap = h0 := by rw [← hh, Bd.state]; rfl
  have N0 := Fr.nil n0
  have pre0 : ∀ t, Steps p.tables e below (s₁.setTop (mkF m 0 #[.val (.int p0)] [])) t → Steps p.tables e below (s₁.setTop (entryFrame m #[(.int p0)] 1)) t := fun t k => castTop (own_ef3 m p0) k
  obtain ⟨T1, h1, k1, X1, e1, E1, A1, st1⟩ := newP X0 hx hZ (hw _ (List.mem_of_getElem? (i := 14) rfl)) e0 (g := (mkF m 1 #[.val (.int p0)] [(.int (1 : Int32))])) rfl (hb hby own_d3_1) rfl (by decide) (cap := 1) (by decide) (by decide) (by decide) (by decide)
  obtain ⟨b1, g1⟩ : ∃ z, z = h0.size := ⟨_, rfl⟩
  rw [← g1] at A1 st1
  have g_b1 : n0 ≤ b1 := Nat.le_trans Z0 (Nat.le_of_eq g1.symm)
  have K2 : Keep h0 h0 [] := Keep.refl h0 []
  have sz_b1 : h0.size ≤ b1 := Nat.le_trans K2.1 (Nat.le_of_eq g1.symm)
  have zs3 : n0 ≤ h1.size := Nat.le_trans Z0 E1.1
  have K4 : Keep h0 h1 [] := K2.ext E1
  have f5 : Arv Z h1 b1 k1 .byte (1 : Int32) [(.int (0 : Int32))] (.int (0 : Int32)) := (Arv.new A1 (by decide)).pad (pad_rep [] (.int (0 : Int32)) 1)
  obtain ⟨cl6, Ar6, q6, S6, N_6, Ha6, G6⟩ := id f5
  have hin6 : ¬ ((0 : Int32) < 0 ∨ cl6.slots.size ≤ ((0 : Int32)).toNatClampNeg) := inb_of S6 ⟨by decide, by decide⟩
  obtain ⟨T7, h7, X7, e7, W7, st7⟩ := stB X1 hx hZ e1 Ar6 (j := (0 : Int32)) hin6 (g := (mkF m 7 #[.val (.int p0)] [(.int (p0.toInt8.toInt32)), (.int (0 : Int32)), (.ref b1), (.ref b1)])) rfl rfl (hb hby own_d3_7)
  have f8 : Arv Z h7 b1 k1 .byte (1 : Int32) [(.int (nar .byte (p0.toInt8.toInt32)))] (.int (0 : Int32)) := Arv.set Ar6 q6 S6 N_6 Ha6 G6 (fits_nar_byte _) W7 0 rfl (Nat.le_of_ble_eq_true rfl)
  have zs9 : n0 ≤ h7.size := Nat.le_trans zs3 (Keep.of_wr W7).1
  have N10 := Fr.snoc X7 N0 g_b1
  have K11 : Keep h0 h7 [] := K4.wr W7 (Or.inr sz_b1)
  have pre12 : ∀ t, Steps p.tables e below (T7.setTop (mkF m 8 #[.val (.int p0)] [(.ref b1)])) t → Steps p.tables e below (s₁.setTop (entryFrame m #[(.int p0)] 1)) t := fun t k => pre0 t (by
      refine XS.iconst X0.here hx rfl (hb hby own_d3_0) ?_
      show Steps p.tables e below (s₁.setTop (mkF m 1 #[.val (.int p0)] [(.int (1 : Int32))])) _
      refine st1 _ ?_
      show Steps p.tables e below (T1.setTop (mkF m 3 #[.val (.int p0)] [(.ref b1)])) _
      refine XS.dup X1.here hx rfl (hb hby own_d3_3) rfl rfl ?_
      refine XS.iconst X1.here hx rfl (hb hby own_d3_4) ?_
      refine XS.iloadN X1.here hx rfl (hb hby own_d3_5) rfl ?_
      refine XS.i2b X1.here hx rfl (hb hby own_d3_6) rfl ?_
      show Steps p.tables e below (T1.setTop (mkF m 7 #[.val (.int p0)] [(.int (p0.toInt8.toInt32)), (.int (0 : Int32)), (.ref b1), (.ref b1)])) _
      refine st7 _ ?_
      show Steps p.tables e below (T7.setTop (mkF m 8 #[.val (.int p0)] [(.ref b1)])) _
      exact k)
  obtain ⟨fs, hr, hrun, hended, hW, hsame⟩ := X7.leave (v := some (.ref b1)) (fun h => by rw [Bd.returns] at h; cases h) (hlocks := hlk)
  refine ⟨_, _, pre12 _ ?_, hrun, hended, _, _, rfl, ?_, ⟨_, rfl⟩, hW, hsame.mono (by decide) (by decide)⟩
  · show Steps p.tables e below (T7.setTop (mkF m 8 #[.val (.int p0)] [(.ref b1)])) _
    jvm_step X7.here [X7.here.top, hx, (hb hby own_d3_8), X7.method', Bd.returns, Value.isRef, FieldType.isReference]
    first | (intro acts; rw [hr _ acts rfl rfl rfl]) | rw [hr _ _ rfl rfl rfl]
    exact Steps.refl _
  · show own_Q3 Z p0 h0 n0 _ T7.heap _; rw [e7]; exact ⟨b1, k1, rfl, N10, K11, sz_b1, f8⟩
theorem own_d4_0 : decode jdk_42_method_151_code 0 = .ok (.aload_n 0, 1) := by decide +kernel
theorem own_d4_1 : decode jdk_42_method_151_code 1 = .ok (.invokespecial 1, 3) := by decide +kernel
theorem own_d4_4 : decode jdk_42_method_151_code 4 = .ok (.aload_n 0, 1) := by decide +kernel
theorem own_d4_5 : decode jdk_42_method_151_code 5 = .ok (.aload_n 1, 1) := by decide +kernel
theorem own_d4_6 : decode jdk_42_method_151_code 6 = .ok (.putfield 9, 3) := by decide +kernel
theorem own_d4_9 : decode jdk_42_method_151_code 9 = .ok (.aload_n 0, 1) := by decide +kernel
theorem own_d4_10 : decode jdk_42_method_151_code 10 = .ok (.iload_n 2, 1) := by decide +kernel
theorem own_d4_11 : decode jdk_42_method_151_code 11 = .ok (.putfield 15, 3) := by decide +kernel
theorem own_d4_14 : decode jdk_42_method_151_code 14 = .ok (.return_, 1) := by decide +kernel
theorem own_pn4 : plainName "java/lang/String" = true := by first | (simp [plainName, overriddenIn]; done) | decide +kernel
theorem own_ef4 (m : MethodId) (x0 : Addr) (x1 : Addr) (x2 : Int32) : entryFrame m #[(.ref x0), (.ref x1), (.int x2)] 3 = (mkF m 0 #[.val (.ref x0), .val (.ref x1), .val (.int x2)] []) := by first | (simp [entryFrame, mkF, argsToLocals, Value.category]; done) | rfl
def own_Q4 (Z : State) (o0 : Addr) (o1 : Addr) (p2 : Int32) (u_hash_o0 : Value) (u_hz_o0 : Value) (u_coder_o0 : Value) (u_value_o0 : Value) (h0 : Heap) (n0 : Nat) (v : Option Value) (h : Heap) (L : List Loc) : Prop := v = none ∧ Fr n0 L ∧ Keep h0 h [o0] ∧ Fld Z h o0 "java/lang/String" "hash" "I" u_hash_o0 ∧ Fld Z h o0 "java/lang/String" "hashIsZero" "Z" u_hz_o0 ∧ Fld Z h o0 "java/lang/String" "coder" "B" (.int (nar .byte p2)) ∧ Exa Z h o0 "java/lang/String" ∧ Fld Z h o0 "java/lang/String" "value" "[B" (.ref o1)
set_option maxRecDepth 65536 in
set_option maxHeartbeats 40000000 in
theorem own_rm4 (l : Launch) (Z : State) (a0 : Array Value) (hw : ∀ d ∈ tables_1, d.before a0 Z = true) (ws : List Jvm.Cond) (o0 : Addr) (o1 : Addr) (p2 : Int32) (u_hash_o0 : Value) (u_hz_o0 : Value) (u_coder_o0 : Value) (u_value_o0 : Value) (h0 : Heap) (n0 : Nat) (Z0 : n0 ≤ h0.size) (P_F_o0_hash : Fld Z h0 o0 "java/lang/String" "hash" "I" u_hash_o0) (P_F_o0_hashIsZero : Fld Z h0 o0 "java/lang/String" "hashIsZero" "Z" u_hz_o0) (P_F_o0_coder : Fld Z h0 o0 "java/lang/String" "coder" "B" u_coder_o0) (P_E_o0 : Exa Z h0 o0 "java/lang/String") (P_F_o0_value : Fld Z h0 o0 "java/lang/String" "value" "[B" u_value_o0) (G_o0 : n0 ≤ o0) :
    MetFree l (⟨"java/lang/String", "<init>", "([BB)V"⟩ : MethodName) (head1 (Jvm.Cond.code (⟨"java/lang/String", "<init>", "([BB)V"⟩ : MethodName) jdk_42_method_151_code 3 none :: ws) ({ frames := 1, cells := 0, slots := 0, locals := 12 } : Room)) (fun a U => a = #[(.ref o0), (.ref o1), (.int p2)] ∧ Z.Warmed39 U.vm ∧ U.heap = h0) (fun _ _ _ _ _ => True) (fun _ U o U' => ∃ v L, o = .returned v ∧ own_Q4 Z o0 o1 p2 u_hash_o0 u_hz_o0 u_coder_o0 u_value_o0 h0 n0 v U'.heap L ∧ FrameEnd U o U' L ({ frames := 1, cells := 0, slots := 0, locals := 12 } : Room).cells ({ frames := 1, cells := 0, slots := 0, locals := 12 } : Room).slots) := by
  refine MetFree.of_bodySF (plainFor_of_name own_pn4) hisR ?_
  intro p e s m args below meth c s₁ Bd hml0 hP hK
  obtain ⟨rfl, hZ, hh⟩ := hP
  have hx := Bd.exec
  have hlk : meth.locks = false := BodyLoose.notSynchronized Bd
  have hby := Bd.bytes
  have hml : c.maxLocals = 3 := hml0
  have hown : s.vm.findClass "java/lang/String" = some m.cls := findClass_of_methodNamed Bd.named
  have hnm := (name_of_methodNamed Bd.named Bd.method).1
  have X0 : Stand p l e ({ frames := 1, cells := 0, slots := 0, locals := 12 } : Room) s m #[(.ref o0), (.ref o1), (.int p2)] below meth c s₁ [] 0 0 := Stand.of_body Bd
  have e0 : s₁.heap = h0 := by rw [← hh, Bd.state]; rfl
  have N0 := Fr.nil n0
  have pre0 : ∀ t, Steps p.tables e below (s₁.setTop (mkF m 0 #[.val (.ref o0), .val (.ref o1), .val (.int p2)] [])) t → Steps p.tables e below (s₁.setTop (entryFrame m #[(.ref o0), (.ref o1), (.int p2)] 3)) t := fun t k => castTop (own_ef4 m o0 o1 p2) k
  obtain ⟨T1, X1, e1, st1⟩ := initO X0 hx hZ hown (hw _ (List.mem_of_getElem? (i := 19) rfl)) (hw _ (List.mem_of_getElem? (i := 20) rfl)) (hw _ (List.mem_of_getElem? (i := 21) rfl)) e0 (g := (mkF m 1 #[.val (.ref o0), .val (.ref o1), .val (.int p2)] [(.ref o0)])) rfl (by rw [hml]; rfl) rfl (hb hby own_d4_1) (by decide) (W := 0) (by show 2 * 0 + _ ≤ _; exact Nat.le_of_eq rfl) (by decide)
  obtain ⟨T2, h2, X2, e2, W2, st2⟩ := putF X1 hx hZ hown (host := "") (Or.inl (hw _ (List.mem_of_getElem? (i := 22) rfl))) Via.refl e1 P_F_o0_value P_E_o0 (Or.inr ⟨(hw _ (List.mem_of_getElem? (i := 23) rfl)), rfl, hnm⟩) (hw _ (List.mem_of_getElem? (i := 10) rfl)) (ty := (.array .byte)) (by decide) rfl rfl (g := (mkF m 6 #[.val (.ref o0), .val (.ref o1), .val (.int p2)] [(.ref o1), (.ref o0)])) rfl rfl (hb hby own_d4_6)
  have f3 : Fld Z h2 o0 "java/lang/String" "hash" "I" u_hash_o0 := P_F_o0_hash.other W2 (Or.inr (slot_ne (Or.inl (hw _ (List.mem_of_getElem? (i := 72) rfl))) (Or.inr (hw _ (List.mem_of_getElem? (i := 23) rfl))) (by decide) (t := .int) (t' := (.array .byte)) (by decide) (by decide)))
  have f4 : Fld Z h2 o0 "java/lang/String" "hashIsZero" "Z" u_hz_o0 := P_F_o0_hashIsZero.other W2 (Or.inr (slot_ne (Or.inl (hw _ (List.mem_of_getElem? (i := 74) rfl))) (Or.inr (hw _ (List.mem_of_getElem? (i := 23) rfl))) (by decide) (t := .boolean) (t' := (.array .byte)) (by decide) (by decide)))
  have f5 : Fld Z h2 o0 "java/lang/String" "coder" "B" u_coder_o0 := P_F_o0_coder.other W2 (Or.inr (slot_ne (Or.inr (hw _ (List.mem_of_getElem? (i := 25) rfl))) (Or.inr (hw _ (List.mem_of_getElem? (i := 23) rfl))) (by decide) (t := .byte) (t' := (.array .byte)) (by decide) (by decide)))
  have f6 : Exa Z h2 o0 "java/lang/String" := P_E_o0.wr W2
  have f7 : Fld Z h2 o0 "java/lang/String" "value" "[B" (.ref o1) := P_F_o0_value.same W2
  have zs8 : n0 ≤ h2.size := Nat.le_trans Z0 (Keep.of_wr W2).1
  have N9 := Fr.snoc X2 N0 G_o0
  have K10 : Keep h0 h0 [o0] := Keep.refl h0 [o0]
  have K11 : Keep h0 h2 [o0] := K10.wr W2 (Or.inl (by simp))
  obtain ⟨T12, h12, X12, e12, W12, st12⟩ := putFN X2 hx hZ hown (hw _ (List.mem_of_getElem? (i := 24) rfl)) Via.refl e2 f5 f6 (Or.inr ⟨(hw _ (List.mem_of_getElem? (i := 25) rfl)), rfl, hnm⟩) (hw _ (List.mem_of_getElem? (i := 10) rfl)) (ty := .byte) (v' := (.int (p2.toInt8.toInt32))) (by decide) rfl (fits_nar_byte _) (g := (mkF m 11 #[.val (.ref o0), .val (.ref o1), .val (.int p2)] [(.int p2), (.ref o0)])) rfl rfl (hb hby own_d4_11)
  have f13 : Fld Z h12 o0 "java/lang/String" "hash" "I" u_hash_o0 := f3.other W12 (Or.inr (slot_ne (Or.inl (hw _ (List.mem_of_getElem? (i := 72) rfl))) (Or.inr (hw _ (List.mem_of_getElem? (i := 25) rfl))) (by decide) (t := .int) (t' := .byte) (by decide) (by decide)))
  have f14 : Fld Z h12 o0 "java/lang/String" "hashIsZero" "Z" u_hz_o0 := f4.other W12 (Or.inr (slot_ne (Or.inl (hw _ (List.mem_of_getElem? (i := 74) rfl))) (Or.inr (hw _ (List.mem_of_getElem? (i := 25) rfl))) (by decide) (t := .boolean) (t' := .byte) (by decide) (by decide)))
  have f15 : Fld Z h12 o0 "java/lang/String" "coder" "B" (.int (nar .byte p2)) := f5.same W12
  have f16 : Exa Z h12 o0 "java/lang/String" := f6.wr W12
  have f17 : Fld Z h12 o0 "java/lang/String" "value" "[B" (.ref o1) := f7.other W12 (Or.inr (slot_ne (Or.inr (hw _ (List.mem_of_getElem? (i := 23) rfl))) (Or.inr (hw _ (List.mem_of_getElem? (i := 25) rfl))) (by decide) (t := (.array .byte)) (t' := .byte) (by decide) (by decide)))
  have zs18 : n0 ≤ h12.size := Nat.le_trans zs8 (Keep.of_wr W12).1
  have N19 := Fr.snoc X12 N9 G_o0
  have K20 : Keep h0 h12 [o0] := K11.wr W12 (Or.inl (by simp))
  have pre21 : ∀ t, Steps p.tables e below (T12.setTop (mkF m 14 #[.val (.ref o0), .val (.ref o1), .val (.int p2)] [])) t → Steps p.tables e below (s₁.setTop (entryFrame m #[(.ref o0), (.ref o1), (.int p2)] 3)) t := fun t k => pre0 t (by
      refine XS.aloadN X0.here hx rfl (hb hby own_d4_0) rfl rfl ?_
      show Steps p.tables e below (s₁.setTop (mkF m 1 #[.val (.ref o0), .val (.ref o1), .val (.int p2)] [(.ref o0)])) _
      refine st1 _ ?_
      show Steps p.tables e below (T1.setTop (mkF m 4 #[.val (.ref o0), .val (.ref o1), .val (.int p2)] [])) _
      refine XS.aloadN X1.here hx rfl (hb hby own_d4_4) rfl rfl ?_
      refine XS.aloadN X1.here hx rfl (hb hby own_d4_5) rfl rfl ?_
      refine st2 _ ?_
      show Steps p.tables e below (T2.setTop (mkF m 9 #[.val (.ref o0), .val (.ref o1), .val (.int p2)] [])) _
      refine XS.aloadN X2.here hx rfl (hb hby own_d4_9) rfl rfl ?_
      refine XS.iloadN X2.here hx rfl (hb hby own_d4_10) rfl ?_
      refine st12 _ ?_
      show Steps p.tables e below (T12.setTop (mkF m 14 #[.val (.ref o0), .val (.ref o1), .val (.int p2)] [])) _
      exact k)
  obtain ⟨fs, hr, hrun, hended, hW, hsame⟩ := X12.leave (v := none) (fun _ => rfl) (hlocks := hlk)
  refine ⟨_, _, pre21 _ ?_, hrun, hended, _, _, rfl, ?_, ⟨_, rfl⟩, hW, hsame.mono (by decide) (by decide)⟩
  · show Steps p.tables e below (T12.setTop (mkF m 14 #[.val (.ref o0), .val (.ref o1), .val (.int p2)] [])) _
    exact X12.returnOut hx Bd.returns (hb hby own_d4_14) hr
  · show own_Q4 Z o0 o1 p2 u_hash_o0 u_hz_o0 u_coder_o0 u_value_o0 h0 n0 _ T12.heap _; rw [e12]; exact ⟨rfl, N19, K20, f13, f14, f15, f16, f17⟩
theorem own_pd0 : parseMethodDescriptor "(C)Z" = some ⟨[.char], some .boolean⟩ := by decide +kernel
theorem own_pd1 : parseMethodDescriptor "(C)[B" = some ⟨[.char], some (.array .byte)⟩ := by decide +kernel
theorem own_pd2 : parseMethodDescriptor "([BB)V" = some ⟨[(.array .byte), .byte], none⟩ := by decide +kernel
theorem own_d1_0 : decode jdk_42_method_139_code 0 = .ok (.getstatic 38, 3) := by decide +kernel
theorem own_d1_3 : decode jdk_42_method_139_code 3 = .ok (.ifCond .eq 23, 3) := by decide +kernel
theorem own_d1_6 : decode jdk_42_method_139_code 6 = .ok (.iload_n 0, 1) := by decide +kernel
theorem own_d1_7 : decode jdk_42_method_139_code 7 = .ok (.invokestatic 1015, 3) := by decide +kernel
theorem own_d1_10 : decode jdk_42_method_139_code 10 = .ok (.ifCond .eq 16, 3) := by decide +kernel
theorem own_d1_13 : decode jdk_42_method_139_code 13 = .ok (.new 10, 3) := by decide +kernel
theorem own_d1_16 : decode jdk_42_method_139_code 16 = .ok (.dup, 1) := by decide +kernel
theorem own_d1_17 : decode jdk_42_method_139_code 17 = .ok (.iload_n 0, 1) := by decide +kernel
theorem own_d1_18 : decode jdk_42_method_139_code 18 = .ok (.invokestatic 1018, 3) := by decide +kernel
theorem own_d1_21 : decode jdk_42_method_139_code 21 = .ok (.iconst 0, 1) := by decide +kernel
theorem own_d1_22 : decode jdk_42_method_139_code 22 = .ok (.invokespecial 209, 3) := by decide +kernel
theorem own_d1_25 : decode jdk_42_method_139_code 25 = .ok (.areturn, 1) := by decide +kernel
theorem own_pn1 : plainName "java/lang/String" = true := by first | (simp [plainName, overriddenIn]; done) | decide +kernel
theorem own_ef1 (m : MethodId) (x0 : Int32) : entryFrame m #[(.int x0)] 1 = (mkF m 0 #[.val (.int x0)] []) := by first | (simp [entryFrame, mkF, argsToLocals, Value.category]; done) | rfl
def own_Q1 (Z : State) (p0 : Int32) (z_COMPACT_STRINGS : Int32) (h0 : Heap) (n0 : Nat) (v : Option Value) (h : Heap) (L : List Loc) : Prop := ∃ b4 : Addr, ∃ b1_13 : Addr, ∃ k1_13 : ClassId, v = some (.ref b4) ∧ Fr n0 L ∧ Keep h0 h [] ∧ h0.size ≤ b4 ∧ h0.size ≤ b1_13 ∧ Exa Z h b4 "java/lang/String" ∧ Fld Z h b4 "java/lang/String" "value" "[B" (.ref b1_13) ∧ Fld Z h b4 "java/lang/String" "coder" "B" (.int (0 : Int32)) ∧ Fld Z h b4 "java/lang/String" "hash" "I" (.int (0 : Int32)) ∧ Fld Z h b4 "java/lang/String" "hashIsZero" "Z" (.int (0 : Int32)) ∧ Arv Z h b1_13 k1_13 .byte (1 : Int32) [(.int (nar .byte (p0.toInt8.toInt32)))] (.int (0 : Int32)) ∧ b4 ≠ b1_13
set_option maxRecDepth 65536 in
set_option maxHeartbeats 40000000 in
theorem own_rm1 (l : Launch) (Z : State) (a0 : Array Value) (hw : ∀ d ∈ tables_1, d.before a0 Z = true) (ws : List Jvm.Cond) (p0 : Int32) (z_COMPACT_STRINGS : Int32) (h0 : Heap) (n0 : Nat) (Z0 : n0 ≤ h0.size) (HC : ¬ (z_COMPACT_STRINGS = (0 : Int32))) (HE : ¬ (own_f2 p0 = (0 : Int32))) (P_S_java_lang_String_COMPACT_STRINGS : Sta Z h0 "java/lang/String" "COMPACT_STRINGS" "Z" (.int z_COMPACT_STRINGS)) :
    MetFree l (⟨"java/lang/String", "valueOf", "(C)Ljava/lang/String;"⟩ : MethodName) (head1 (Jvm.Cond.code (⟨"java/lang/String", "valueOf", "(C)Ljava/lang/String;"⟩ : MethodName) jdk_42_method_139_code 1 (some (.object "java/lang/String")) :: ws) ({ frames := 2, cells := 2, slots := 5, locals := 27 } : Room)) (fun a U => a = #[(.int p0)] ∧ Z.Warmed39 U.vm ∧ U.heap = h0) (fun _ _ _ _ _ => True) (fun _ U o U' => ∃ v L, o = .returned v ∧ own_Q1 Z p0 z_COMPACT_STRINGS h0 n0 v U'.heap L ∧ FrameEnd U o U' L ({ frames := 2, cells := 2, slots := 5, locals := 27 } : Room).cells ({ frames := 2, cells := 2, slots := 5, locals := 27 } : Room).slots) := by
  refine MetFree.of_bodySF (plainFor_of_name own_pn1) hisR ?_
  intro p e s m args below meth c s₁ Bd hml0 hP hK
  obtain ⟨rfl, hZ, hh⟩ := hP
  have hx := Bd.exec
  have hlk : meth.locks = false := BodyLoose.notSynchronized Bd
  have hby := Bd.bytes
  have hml : c.maxLocals = 1 := hml0
  have hown : s.vm.findClass "java/lang/String" = some m.cls := findClass_of_methodNamed Bd.named
  have hnm := (name_of_methodNamed Bd.named Bd.method).1
  have X0 : Stand p l e ({ frames := 2, cells := 2, slots := 5, locals := 27 } : Room) s m #[(.int p0)] below meth c s₁ [] 0 0 := Stand.of_body Bd
  have e0 : s₁.heap = h0 := by rw [← hh, Bd.state]; rfl
  have N0 := Fr.nil n0
  have pre0 : ∀ t, Steps p.tables e below (s₁.setTop (mkF m 0 #[.val (.int p0)] [])) t → Steps p.tables e below (s₁.setTop (entryFrame m #[(.int p0)] 1)) t := fun t k => castTop (own_ef1 m p0) k
  obtain ⟨T1, X1, e1, st1⟩ := getS2 X0 hx hZ hown (host := "") (Or.inl (hw _ (List.mem_of_getElem? (i := 4) rfl))) Via.refl e0 P_S_java_lang_String_COMPACT_STRINGS (g := (mkF m 0 #[.val (.int p0)] [])) rfl (hb hby own_d1_0)
  obtain ⟨_, _, ⟨T2, L2, k2, n2⟩, -, X2, ⟨Lc2, hQ2, l2, y2, z2⟩, st2⟩ := Jvm.LawKit.callS X1 hx (y := (⟨"java/lang/StringLatin1", "canEncode", "(C)Z"⟩ : MethodName)) hown (mvT hZ (hw _ (List.mem_of_getElem? (i := 5) rfl))) (mvT hZ (hw _ (List.mem_of_getElem? (i := 6) rfl))) (mvT hZ (hw _ (List.mem_of_getElem? (i := 7) rfl))) (mvT hZ (hw _ (List.mem_of_getElem? (i := 8) rfl))) (by decide) (backOf (W := 0) (own_rm2 l Z a0 hw [] p0 h0 n0 Z0 ) hZ (hw _ (List.mem_of_getElem? (i := 8) rfl)) (hw _ (List.mem_of_getElem? (i := 7) rfl)) (by decide) (by decide)) (g := (mkF m 7 #[.val (.int p0)] [(.int p0)])) rfl (by rw [hml]; rfl) (argsL := [(.int p0)]) (rest := []) (lenOf own_pd0 rfl) rfl (by show 2 * 0 + _ ≤ _; exact Nat.le_of_eq rfl) (hb hby own_d1_7) (fun _ _ => ⟨rfl, e1, (by decide : 0 + 0 ≤ _), (by decide : 0 + 0 ≤ _)⟩)
  dsimp only [Pt.U, Pt.locs, Pt.cells, Pt.slots] at X2 l2 y2 z2 st2 hQ2
  subst y2 z2
  obtain ⟨rfl, N2q, e2⟩ := hQ2
  have N3 : Fr n0 L2 := by rw [l2]; exact Fr.app N0 N2q
  obtain ⟨T4, h4, X4, e4, E4, A4, D4, -, st4⟩ := newO X2 hx hZ hown (hw _ (List.mem_of_getElem? (i := 9) rfl)) (hw _ (List.mem_of_getElem? (i := 10) rfl)) (hw _ (List.mem_of_getElem? (i := 2) rfl)) e2 (g := (mkF m 13 #[.val (.int p0)] [])) rfl (hb hby own_d1_13) (by decide) (by decide)
  obtain ⟨b4, g4⟩ : ∃ z, z = h0.size := ⟨_, rfl⟩
  rw [← g4] at A4 D4 st4
  have g_b4 : n0 ≤ b4 := Nat.le_trans Z0 (Nat.le_of_eq g4.symm)
  have K5 : Keep h0 h0 [] := Keep.refl h0 []
  have sz_b4 : h0.size ≤ b4 := Nat.le_trans K5.1 (Nat.le_of_eq g4.symm)
  have f6 : Sta Z h4 "java/lang/String" "COMPACT_STRINGS" "Z" (.int z_COMPACT_STRINGS) := P_S_java_lang_String_COMPACT_STRINGS.ext E4
  have zs7 : n0 ≤ h4.size := Nat.le_trans Z0 E4.1
  have K8 : Keep h0 h4 [] := K5.ext E4
  have f9 : Fld Z h4 b4 "java/lang/String" "value" "[B" .null := D4 (Or.inr (hw _ (List.mem_of_getElem? (i := 23) rfl))) (ty := (.array .byte)) (by decide)
  have f10 : Fld Z h4 b4 "java/lang/String" "coder" "B" (.int (0 : Int32)) := D4 (Or.inr (hw _ (List.mem_of_getElem? (i := 25) rfl))) (ty := .byte) (by decide)
  have f11 : Fld Z h4 b4 "java/lang/String" "hash" "I" (.int (0 : Int32)) := D4 (Or.inl (hw _ (List.mem_of_getElem? (i := 72) rfl))) (ty := .int) (by decide)
  have f12 : Fld Z h4 b4 "java/lang/String" "hashIsZero" "Z" (.int (0 : Int32)) := D4 (Or.inl (hw _ (List.mem_of_getElem? (i := 74) rfl))) (ty := .boolean) (by decide)
  obtain ⟨_, _, ⟨T13, L13, k13, n13⟩, -, X13, ⟨Lc13, hQ13, l13, y13, z13⟩, st13⟩ := Jvm.LawKit.callS X4 hx (y := (⟨"java/lang/StringLatin1", "toBytes", "(C)[B"⟩ : MethodName)) hown (mvT hZ (hw _ (List.mem_of_getElem? (i := 11) rfl))) (mvT hZ (hw _ (List.mem_of_getElem? (i := 12) rfl))) (mvT hZ (hw _ (List.mem_of_getElem? (i := 7) rfl))) (mvT hZ (hw _ (List.mem_of_getElem? (i := 13) rfl))) (by decide) (backOf (W := 2) (own_rm3 l Z a0 hw [] p0 h4 n0 zs7 ) hZ (hw _ (List.mem_of_getElem? (i := 13) rfl)) (hw _ (List.mem_of_getElem? (i := 7) rfl)) (by decide) (by decide)) (g := (mkF m 18 #[.val (.int p0)] [(.int p0), (.ref b4), (.ref b4)])) rfl (by rw [hml]; rfl) (argsL := [(.int p0)]) (rest := [(.ref b4), (.ref b4)]) (lenOf own_pd1 rfl) rfl (by show 2 * 0 + _ ≤ _; exact Nat.le_of_eq rfl) (hb hby own_d1_18) (fun _ _ => ⟨rfl, e4, (by decide : 1 + 1 ≤ _), (by decide : 4 + 1 ≤ _)⟩)
  dsimp only [Pt.U, Pt.locs, Pt.cells, Pt.slots] at X13 l13 y13 z13 st13 hQ13
  subst y13 z13
  obtain ⟨b1_13, k1_13, rfl, N13q, K13, sqb1_13_13, f14⟩ := hQ13
  have g_b1_13 : n0 ≤ b1_13 := Nat.le_trans zs7 sqb1_13_13
  have sz_b1_13 : h0.size ≤ b1_13 := Nat.le_trans K8.1 sqb1_13_13
  have lt15 : b4 < b1_13 := Nat.lt_of_lt_of_le f12.lt sqb1_13_13
  have f16 : Exa Z T13.heap b4 "java/lang/String" := A4.keep K13
  have f17 : Fld Z T13.heap b4 "java/lang/String" "value" "[B" .null := f9.keep K13 nin0
  have f18 : Fld Z T13.heap b4 "java/lang/String" "coder" "B" (.int (0 : Int32)) := f10.keep K13 nin0
  have f19 : Fld Z T13.heap b4 "java/lang/String" "hash" "I" (.int (0 : Int32)) := f11.keep K13 nin0
  have f20 : Fld Z T13.heap b4 "java/lang/String" "hashIsZero" "Z" (.int (0 : Int32)) := f12.keep K13 nin0
  have zs21 : n0 ≤ T13.heap.size := Nat.le_trans zs7 K13.1
  have K22 : Keep h0 T13.heap [] := K8.trans K13 all0
  have N23 : Fr n0 L13 := by rw [l13]; exact Fr.app N3 N13q
  obtain ⟨_, _, ⟨T24, L24, k24, n24⟩, -, X24, ⟨Lc24, hQ24, l24, y24, z24⟩, st24⟩ := X13.specialBack hx (y := (⟨"java/lang/String", "<init>", "([BB)V"⟩ : MethodName)) rfl hown (mvT hZ (hw _ (List.mem_of_getElem? (i := 15) rfl))) (mvT hZ (hw _ (List.mem_of_getElem? (i := 16) rfl))) (mvT hZ (hw _ (List.mem_of_getElem? (i := 18) rfl))) (by decide) (backOf (W := 1) (own_rm4 l Z a0 hw [] b4 b1_13 (0 : Int32) (.int (0 : Int32)) (.int (0 : Int32)) (.int (0 : Int32)) .null T13.heap n0 zs21 f19 f20 f18 f16 f17 g_b4) hZ (hw _ (List.mem_of_getElem? (i := 18) rfl)) (hw _ (List.mem_of_getElem? (i := 2) rfl)) (by decide) (by decide)) (g := (mkF m 22 #[.val (.int p0)] [(.int (0 : Int32)), (.ref b1_13), (.ref b4), (.ref b4)])) rfl (by rw [hml]; rfl) (Steps.refl _) (a := b4) (argsL := [(.ref b1_13), (.int (0 : Int32))]) (rest := [(.ref b4)]) (lenOf own_pd2 rfl) rfl (by show 2 * 0 + _ ≤ _; exact Nat.le_of_eq rfl) (hb hby own_d1_22) (fun _ _ => ⟨rfl, rfl, (by decide : 2 + 0 ≤ _), (by decide : 5 + 0 ≤ _)⟩)
  dsimp only [Pt.U, Pt.locs, Pt.cells, Pt.slots] at X24 l24 y24 z24 st24 hQ24
  subst y24 z24
  obtain ⟨rfl, N24q, K24, f25, f26, f27, f28, f29⟩ := hQ24
  have f30 : Arv Z T24.heap b1_13 k1_13 .byte (1 : Int32) [(.int (nar .byte (p0.toInt8.toInt32)))] (.int (0 : Int32)) := f14.keep K24 (ninS (Nat.ne_of_gt lt15) nin0)
  have zs31 : n0 ≤ T24.heap.size := Nat.le_trans zs21 K24.1
  have K32 : Keep h0 T24.heap [] := K22.trans K24 (allS (Or.inr sz_b4) all0)
  have N33 : Fr n0 L24 := by rw [l24]; exact Fr.app N23 N24q
  have pre34 : ∀ t, Steps p.tables e below (T24.setTop (mkF m 25 #[.val (.int p0)] [(.ref b4)])) t → Steps p.tables e below (s₁.setTop (entryFrame m #[(.int p0)] 1)) t := fun t k => pre0 t (by
      refine st1 _ ?_
      show Steps p.tables e below (T1.setTop (mkF m 3 #[.val (.int p0)] [(.int z_COMPACT_STRINGS)])) _
      refine XS.ifNo X1.here hx rfl (hb hby own_d1_3) rfl ((if0 _ _).trans (feq HC).1) ?_
      refine XS.iloadN X1.here hx rfl (hb hby own_d1_6) rfl ?_
      refine st2 _ ?_
      show Steps p.tables e below (T2.setTop (mkF m 10 #[.val (.int p0)] [(.int (own_f2 p0))])) _
      refine XS.ifNo X2.here hx rfl (hb hby own_d1_10) rfl ((if0 _ _).trans (feq HE).1) ?_
      refine st4 _ ?_
      show Steps p.tables e below (T4.setTop (mkF m 16 #[.val (.int p0)] [(.ref b4)])) _
      refine XS.dup X4.here hx rfl (hb hby own_d1_16) rfl rfl ?_
      refine XS.iloadN X4.here hx rfl (hb hby own_d1_17) rfl ?_
      refine st13 _ ?_
      show Steps p.tables e below (T13.setTop (mkF m 21 #[.val (.int p0)] [(.ref b1_13), (.ref b4), (.ref b4)])) _
      refine XS.iconst X13.here hx rfl (hb hby own_d1_21) ?_
      refine st24.trans ?_
      show Steps p.tables e below (T24.setTop (mkF m 25 #[.val (.int p0)] [(.ref b4)])) _
      exact k)
  obtain ⟨fs, hr, hrun, hended, hW, hsame⟩ := X24.leave (v := some (.ref b4)) (fun h => by rw [Bd.returns] at h; cases h) (hlocks := hlk)
  refine ⟨_, _, pre34 _ ?_, hrun, hended, _, _, rfl, ?_, ⟨_, rfl⟩, hW, hsame.mono (by decide) (by decide)⟩
  · show Steps p.tables e below (T24.setTop (mkF m 25 #[.val (.int p0)] [(.ref b4)])) _
    jvm_step X24.here [X24.here.top, hx, (hb hby own_d1_25), X24.method', Bd.returns, Value.isRef, FieldType.isReference]
    first | (intro acts; rw [hr _ acts rfl rfl rfl]) | rw [hr _ _ rfl rfl rfl]
    exact Steps.refl _
  · show own_Q1 Z p0 z_COMPACT_STRINGS h0 n0 _ T24.heap _; exact ⟨b4, b1_13, k1_13, rfl, N33, K32, sz_b4, sz_b1_13, f28, f29, f27, f25, f26, f30, (Nat.ne_of_lt lt15)⟩
theorem own_d8_0 : decode jdk_71_method_1_code 0 = .ok (.aload_n 0, 1) := by decide +kernel
theorem own_d8_1 : decode jdk_71_method_1_code 1 = .ok (.invokespecial 1, 3) := by decide +kernel
theorem own_d8_4 : decode jdk_71_method_1_code 4 = .ok (.return_, 1) := by decide +kernel
theorem own_pn8 : plainName "java/util/AbstractMap" = true := by first | (simp [plainName, overriddenIn]; done) | decide +kernel
theorem own_ef8 (m : MethodId) (x0 : Addr) : entryFrame m #[(.ref x0)] 1 = (mkF m 0 #[.val (.ref x0)] []) := by first | (simp [entryFrame, mkF, argsToLocals, Value.category]; done) | rfl
def own_Q8 (Z : State) (o0 : Addr) (h0 : Heap) (n0 : Nat) (v : Option Value) (h : Heap) (L : List Loc) : Prop := v = none ∧ Fr n0 L ∧ h = h0
set_option maxRecDepth 65536 in
set_option maxHeartbeats 40000000 in
theorem own_rm8 (l : Launch) (Z : State) (a0 : Array Value) (hw : ∀ d ∈ tables_1, d.before a0 Z = true) (ws : List Jvm.Cond) (o0 : Addr) (h0 : Heap) (n0 : Nat) (Z0 : n0 ≤ h0.size) :
    MetFree l (⟨"java/util/AbstractMap", "<init>", "()V"⟩ : MethodName) (head1 (Jvm.Cond.code (⟨"java/util/AbstractMap", "<init>", "()V"⟩ : MethodName) jdk_71_method_1_code 1 none :: ws) ({ frames := 1, cells := 0, slots := 0, locals := 12 } : Room)) (fun a U => a = #[(.ref o0)] ∧ Z.Warmed39 U.vm ∧ U.heap = h0) (fun _ _ _ _ _ => True) (fun _ U o U' => ∃ v L, o = .returned v ∧ own_Q8 Z o0 h0 n0 v U'.heap L ∧ FrameEnd U o U' L ({ frames := 1, cells := 0, slots := 0, locals := 12 } : Room).cells ({ frames := 1, cells := 0, slots := 0, locals := 12 } : Room).slots) := by
  refine MetFree.of_bodySF (plainFor_of_name own_pn8) hisR ?_
  intro p e s m args below meth c s₁ Bd hml0 hP hK
  obtain ⟨rfl, hZ, hh⟩ := hP
  have hx := Bd.exec
  have hlk : meth.locks = false := BodyLoose.notSynchronized Bd
  have hby := Bd.bytes
  have hml : c.maxLocals = 1 := hml0
  have hown : s.vm.findClass "java/util/AbstractMap" = some m.cls := findClass_of_methodNamed Bd.named
  have hnm := (name_of_methodNamed Bd.named Bd.method).1
  have X0 : Stand p l e ({ frames := 1, cells := 0, slots := 0, locals := 12 } : Room) s m #[(.ref o0)] below meth c s₁ [] 0 0 := Stand.of_body Bd
  have e0 : s₁.heap = h0 := by rw [← hh, Bd.state]; rfl
  have N0 := Fr.nil n0
  have pre0 : ∀ t, Steps p.tables e below (s₁.setTop (mkF m 0 #[.val (.ref o0)] [])) t → Steps p.tables e below (s₁.setTop (entryFrame m #[(.ref o0)] 1)) t := fun t k => castTop (own_ef8 m o0) k
  obtain ⟨T1, X1, e1, st1⟩ := initO X0 hx hZ hown (hw _ (List.mem_of_getElem? (i := 52) rfl)) (hw _ (List.mem_of_getElem? (i := 20) rfl)) (hw _ (List.mem_of_getElem? (i := 21) rfl)) e0 (g := (mkF m 1 #[.val (.ref o0)] [(.ref o0)])) rfl (by rw [hml]; rfl) rfl (hb hby own_d8_1) (by decide) (W := 0) (by show 2 * 0 + _ ≤ _; exact Nat.le_of_eq rfl) (by decide)
  have pre2 : ∀ t, Steps p.tables e below (T1.setTop (mkF m 4 #[.val (.ref o0)] [])) t → Steps p.tables e below (s₁.setTop (entryFrame m #[(.ref o0)] 1)) t := fun t k => pre0 t (by
      refine XS.aloadN X0.here hx rfl (hb hby own_d8_0) rfl rfl ?_
      show Steps p.tables e below (s₁.setTop (mkF m 1 #[.val (.ref o0)] [(.ref o0)])) _
      refine st1 _ ?_
      show Steps p.tables e below (T1.setTop (mkF m 4 #[.val (.ref o0)] [])) _
      exact k)
  obtain ⟨fs, hr, hrun, hended, hW, hsame⟩ := X1.leave (v := none) (fun _ => rfl) (hlocks := hlk)
  refine ⟨_, _, pre2 _ ?_, hrun, hended, _, _, rfl, ?_, ⟨_, rfl⟩, hW, hsame.mono (by decide) (by decide)⟩
  · show Steps p.tables e below (T1.setTop (mkF m 4 #[.val (.ref o0)] [])) _
    exact X1.returnOut hx Bd.returns (hb hby own_d8_4) hr
  · show own_Q8 Z o0 h0 n0 _ T1.heap _; rw [e1]; exact ⟨rfl, N0, rfl⟩
theorem own_pd3 : parseMethodDescriptor "()V" = some ⟨[], none⟩ := by decide +kernel
theorem own_d7_0 : decode jdk_2729_method_1_code 0 = .ok (.aload_n 0, 1) := by decide +kernel
theorem own_d7_1 : decode jdk_2729_method_1_code 1 = .ok (.invokespecial 1, 3) := by decide +kernel
theorem own_d7_4 : decode jdk_2729_method_1_code 4 = .ok (.aload_n 0, 1) := by decide +kernel
theorem own_d7_5 : decode jdk_2729_method_1_code 5 = .ok (.iconst 0, 1) := by decide +kernel
theorem own_d7_6 : decode jdk_2729_method_1_code 6 = .ok (.putfield 7, 3) := by decide +kernel
theorem own_d7_9 : decode jdk_2729_method_1_code 9 = .ok (.aload_n 0, 1) := by decide +kernel
theorem own_d7_10 : decode jdk_2729_method_1_code 10 = .ok (.iconst 0, 1) := by decide +kernel
theorem own_d7_11 : decode jdk_2729_method_1_code 11 = .ok (.putfield 13, 3) := by decide +kernel
theorem own_d7_14 : decode jdk_2729_method_1_code 14 = .ok (.aload_n 0, 1) := by decide +kernel
theorem own_d7_15 : decode jdk_2729_method_1_code 15 = .ok (.aconst_null, 1) := by decide +kernel
theorem own_d7_16 : decode jdk_2729_method_1_code 16 = .ok (.putfield 16, 3) := by decide +kernel
theorem own_d7_19 : decode jdk_2729_method_1_code 19 = .ok (.return_, 1) := by decide +kernel
theorem own_pn7 : plainName "java/util/TreeMap" = true := by first | (simp [plainName, overriddenIn]; done) | decide +kernel
theorem own_ef7 (m : MethodId) (x0 : Addr) : entryFrame m #[(.ref x0)] 1 = (mkF m 0 #[.val (.ref x0)] []) := by first | (simp [entryFrame, mkF, argsToLocals, Value.category]; done) | rfl
def own_Q7 (Z : State) (o0 : Addr) (u_modCount_o0 : Value) (u_comparator_o0 : Value) (u_size_o0 : Value) (h0 : Heap) (n0 : Nat) (v : Option Value) (h : Heap) (L : List Loc) : Prop := v = none ∧ Fr n0 L ∧ Keep h0 h [o0] ∧ Fld Z h o0 "java/util/TreeMap" "modCount" "I" (.int (0 : Int32)) ∧ Fld Z h o0 "java/util/TreeMap" "comparator" "Ljava/util/Comparator;" .null ∧ Exa Z h o0 "java/util/TreeMap" ∧ Fld Z h o0 "java/util/TreeMap" "size" "I" (.int (0 : Int32))
set_option maxRecDepth 65536 in
set_option maxHeartbeats 40000000 in
theorem own_rm7 (l : Launch) (Z : State) (a0 : Array Value) (hw : ∀ d ∈ tables_1, d.before a0 Z = true) (ws : List Jvm.Cond) (o0 : Addr) (u_modCount_o0 : Value) (u_comparator_o0 : Value) (u_size_o0 : Value) (h0 : Heap) (n0 : Nat) (Z0 : n0 ≤ h0.size) (P_F_o0_modCount : Fld Z h0 o0 "java/util/TreeMap" "modCount" "I" u_modCount_o0) (P_F_o0_comparator : Fld Z h0 o0 "java/util/TreeMap" "comparator" "Ljava/util/Comparator;" u_comparator_o0) (P_E_o0 : Exa Z h0 o0 "java/util/TreeMap") (P_F_o0_size : Fld Z h0 o0 "java/util/TreeMap" "size" "I" u_size_o0) (G_o0 : n0 ≤ o0) :
    MetFree l (⟨"java/util/TreeMap", "<init>", "()V"⟩ : MethodName) (head1 (Jvm.Cond.code (⟨"java/util/TreeMap", "<init>", "()V"⟩ : MethodName) jdk_2729_method_1_code 1 none :: ws) ({ frames := 2, cells := 0, slots := 0, locals := 24 } : Room)) (fun a U => a = #[(.ref o0)] ∧ Z.Warmed39 U.vm ∧ U.heap = h0) (fun _ _ _ _ _ => True) (fun _ U o U' => ∃ v L, o = .returned v ∧ own_Q7 Z o0 u_modCount_o0 u_comparator_o0 u_size_o0 h0 n0 v U'.heap L ∧ FrameEnd U o U' L ({ frames := 2, cells := 0, slots := 0, locals := 24 } : Room).cells ({ frames := 2, cells := 0, slots := 0, locals := 24 } : Room).slots) := by
  refine MetFree.of_bodySF (plainFor_of_name own_pn7) hisR ?_
  intro p e s m args below meth c s₁ Bd hml0 hP hK
  obtain ⟨rfl, hZ, hh⟩ := hP
  have hx := Bd.exec
  have hlk : meth.locks = false := BodyLoose.notSynchronized Bd
  have hby := Bd.bytes
  have hml : c.maxLocals = 1 := hml0
  have hown : s.vm.findClass "java/util/TreeMap" = some m.cls := findClass_of_methodNamed Bd.named
  have hnm := (name_of_methodNamed Bd.named Bd.method).1
  have X0 : Stand p l e ({ frames := 2, cells := 0, slots := 0, locals := 24 } : Room) s m #[(.ref o0)] below meth c s₁ [] 0 0 := Stand.of_body Bd
  have e0 : s₁.heap = h0 := by rw [← hh, Bd.state]; rfl
  have N0 := Fr.nil n0
  have pre0 : ∀ t, Steps p.tables e below (s₁.setTop (mkF m 0 #[.val (.ref o0)] [])) t → Steps p.tables e below (s₁.setTop (entryFrame m #[(.ref o0)] 1)) t := fun t k => castTop (own_ef7 m o0) k
  obtain ⟨_, _, ⟨T1, L1, k1, n1⟩, -, X1, ⟨Lc1, hQ1, l1, y1, z1⟩, st1⟩ := X0.specialBack hx (y := (⟨"java/util/AbstractMap", "<init>", "()V"⟩ : MethodName)) rfl hown (mvT hZ (hw _ (List.mem_of_getElem? (i := 46) rfl))) (mvT hZ (hw _ (List.mem_of_getElem? (i := 47) rfl))) (mvT hZ (hw _ (List.mem_of_getElem? (i := 51) rfl))) (by decide) (backOf (W := 0) (own_rm8 l Z a0 hw [] o0 h0 n0 Z0 ) hZ (hw _ (List.mem_of_getElem? (i := 51) rfl)) (hw _ (List.mem_of_getElem? (i := 50) rfl)) (by decide) (by decide)) (g := (mkF m 1 #[.val (.ref o0)] [(.ref o0)])) rfl (by rw [hml]; rfl) (Steps.refl _) (a := o0) (argsL := []) (rest := []) (lenOf own_pd3 rfl) rfl (by show 2 * 0 + _ ≤ _; exact Nat.le_of_eq rfl) (hb hby own_d7_1) (fun _ _ => ⟨rfl, e0, (by decide : 0 + 0 ≤ _), (by decide : 0 + 0 ≤ _)⟩)
  dsimp only [Pt.U, Pt.locs, Pt.cells, Pt.slots] at X1 l1 y1 z1 st1 hQ1
  subst y1 z1
  obtain ⟨rfl, N1q, e1⟩ := hQ1
  have N2 : Fr n0 L1 := by rw [l1]; exact Fr.app N0 N1q
  obtain ⟨T3, h3, X3, e3, W3, st3⟩ := putF X1 hx hZ hown (host := "") (Or.inl (hw _ (List.mem_of_getElem? (i := 53) rfl))) Via.refl e1 P_F_o0_size P_E_o0 (Or.inl (hw _ (List.mem_of_getElem? (i := 54) rfl))) (hw _ (List.mem_of_getElem? (i := 41) rfl)) (ty := .int) (by decide) rfl rfl (g := (mkF m 6 #[.val (.ref o0)] [(.int (0 : Int32)), (.ref o0)])) rfl rfl (hb hby own_d7_6)
  have f4 : Fld Z h3 o0 "java/util/TreeMap" "modCount" "I" u_modCount_o0 := P_F_o0_modCount.other W3 (Or.inr (slot_ne (Or.inl (hw _ (List.mem_of_getElem? (i := 56) rfl))) (Or.inl (hw _ (List.mem_of_getElem? (i := 54) rfl))) (by decide) (t := .int) (t' := .int) (by decide) (by decide)))
  have f5 : Fld Z h3 o0 "java/util/TreeMap" "comparator" "Ljava/util/Comparator;" u_comparator_o0 := P_F_o0_comparator.other W3 (Or.inr (slot_ne (Or.inr (hw _ (List.mem_of_getElem? (i := 58) rfl))) (Or.inl (hw _ (List.mem_of_getElem? (i := 54) rfl))) (by decide) (t := (.object "java/util/Comparator")) (t' := .int) (by decide) (by decide)))
  have f6 : Exa Z h3 o0 "java/util/TreeMap" := P_E_o0.wr W3
  have f7 : Fld Z h3 o0 "java/util/TreeMap" "size" "I" (.int (0 : Int32)) := P_F_o0_size.same W3
  have zs8 : n0 ≤ h3.size := Nat.le_trans Z0 (Keep.of_wr W3).1
  have N9 := Fr.snoc X3 N2 G_o0
  have K10 : Keep h0 h0 [o0] := Keep.refl h0 [o0]
  have K11 : Keep h0 h3 [o0] := K10.wr W3 (Or.inl (by simp))
  obtain ⟨T12, h12, X12, e12, W12, st12⟩ := putF X3 hx hZ hown (host := "") (Or.inl (hw _ (List.mem_of_getElem? (i := 55) rfl))) Via.refl e3 f4 f6 (Or.inl (hw _ (List.mem_of_getElem? (i := 56) rfl))) (hw _ (List.mem_of_getElem? (i := 41) rfl)) (ty := .int) (by decide) rfl rfl (g := (mkF m 11 #[.val (.ref o0)] [(.int (0 : Int32)), (.ref o0)])) rfl rfl (hb hby own_d7_11)
  have f13 : Fld Z h12 o0 "java/util/TreeMap" "modCount" "I" (.int (0 : Int32)) := f4.same W12
  have f14 : Fld Z h12 o0 "java/util/TreeMap" "comparator" "Ljava/util/Comparator;" u_comparator_o0 := f5.other W12 (Or.inr (slot_ne (Or.inr (hw _ (List.mem_of_getElem? (i := 58) rfl))) (Or.inl (hw _ (List.mem_of_getElem? (i := 56) rfl))) (by decide) (t := (.object "java/util/Comparator")) (t' := .int) (by decide) (by decide)))
  have f15 : Exa Z h12 o0 "java/util/TreeMap" := f6.wr W12
  have f16 : Fld Z h12 o0 "java/util/TreeMap" "size" "I" (.int (0 : Int32)) := f7.other W12 (Or.inr (slot_ne (Or.inl (hw _ (List.mem_of_getElem? (i := 54) rfl))) (Or.inl (hw _ (List.mem_of_getElem? (i := 56) rfl))) (by decide) (t := .int) (t' := .int) (by decide) (by decide)))
  have zs17 : n0 ≤ h12.size := Nat.le_trans zs8 (Keep.of_wr W12).1
  have N18 := Fr.snoc X12 N9 G_o0
  have K19 : Keep h0 h12 [o0] := K11.wr W12 (Or.inl (by simp))
  obtain ⟨T20, h20, X20, e20, W20, st20⟩ := putF X12 hx hZ hown (host := "") (Or.inl (hw _ (List.mem_of_getElem? (i := 57) rfl))) Via.refl e12 f14 f15 (Or.inr ⟨(hw _ (List.mem_of_getElem? (i := 58) rfl)), rfl, hnm⟩) (hw _ (List.mem_of_getElem? (i := 41) rfl)) (ty := (.object "java/util/Comparator")) (by decide) rfl rfl (g := (mkF m 16 #[.val (.ref o0)] [.null, (.ref o0)])) rfl rfl (hb hby own_d7_16)
  have f21 : Fld Z h20 o0 "java/util/TreeMap" "modCount" "I" (.int (0 : Int32)) := f13.other W20 (Or.inr (slot_ne (Or.inl (hw _ (List.mem_of_getElem? (i := 56) rfl))) (Or.inr (hw _ (List.mem_of_getElem? (i := 58) rfl))) (by decide) (t := .int) (t' := (.object "java/util/Comparator")) (by decide) (by decide)))
  have f22 : Fld Z h20 o0 "java/util/TreeMap" "comparator" "Ljava/util/Comparator;" .null := f14.same W20
  have f23 : Exa Z h20 o0 "java/util/TreeMap" := f15.wr W20
  have f24 : Fld Z h20 o0 "java/util/TreeMap" "size" "I" (.int (0 : Int32)) := f16.other W20 (Or.inr (slot_ne (Or.inl (hw _ (List.mem_of_getElem? (i := 54) rfl))) (Or.inr (hw _ (List.mem_of_getElem? (i := 58) rfl))) (by decide) (t := .int) (t' := (.object "java/util/Comparator")) (by decide) (by decide)))
  have zs25 : n0 ≤ h20.size := Nat.le_trans zs17 (Keep.of_wr W20).1
  have N26 := Fr.snoc X20 N18 G_o0
  have K27 : Keep h0 h20 [o0] := K19.wr W20 (Or.inl (by simp))
  have pre28 : ∀ t, Steps p.tables e below (T20.setTop (mkF m 19 #[.val (.ref o0)] [])) t → Steps p.tables e below (s₁.setTop (entryFrame m #[(.ref o0)] 1)) t := fun t k => pre0 t (by
      refine XS.aloadN X0.here hx rfl (hb hby own_d7_0) rfl rfl ?_
      show Steps p.tables e below (s₁.setTop (mkF m 1 #[.val (.ref o0)] [(.ref o0)])) _
      refine st1.trans ?_
      show Steps p.tables e below (T1.setTop (mkF m 4 #[.val (.ref o0)] [])) _
      refine XS.aloadN X1.here hx rfl (hb hby own_d7_4) rfl rfl ?_
      refine XS.iconst X1.here hx rfl (hb hby own_d7_5) ?_
      refine st3 _ ?_
      show Steps p.tables e below (T3.setTop (mkF m 9 #[.val (.ref o0)] [])) _
      refine XS.aloadN X3.here hx rfl (hb hby own_d7_9) rfl rfl ?_
      refine XS.iconst X3.here hx rfl (hb hby own_d7_10) ?_
      refine st12 _ ?_
      show Steps p.tables e below (T12.setTop (mkF m 14 #[.val (.ref o0)] [])) _
      refine XS.aloadN X12.here hx rfl (hb hby own_d7_14) rfl rfl ?_
      refine XS.aconstNull X12.here hx rfl (hb hby own_d7_15) ?_
      refine st20 _ ?_
      show Steps p.tables e below (T20.setTop (mkF m 19 #[.val (.ref o0)] [])) _
      exact k)
  obtain ⟨fs, hr, hrun, hended, hW, hsame⟩ := X20.leave (v := none) (fun _ => rfl) (hlocks := hlk)
  refine ⟨_, _, pre28 _ ?_, hrun, hended, _, _, rfl, ?_, ⟨_, rfl⟩, hW, hsame.mono (by decide) (by decide)⟩
  · show Steps p.tables e below (T20.setTop (mkF m 19 #[.val (.ref o0)] [])) _
    exact X20.returnOut hx Bd.returns (hb hby own_d7_19) hr
  · show own_Q7 Z o0 u_modCount_o0 u_comparator_o0 u_size_o0 h0 n0 _ T20.heap _; rw [e20]; exact ⟨rfl, N26, K27, f21, f22, f23, f24⟩
theorem own_d6_0 : decode prog_10_method_1_code 0 = .ok (.aload_n 0, 1) := by decide +kernel
theorem own_d6_1 : decode prog_10_method_1_code 1 = .ok (.invokespecial 3, 3) := by decide +kernel
theorem own_d6_4 : decode prog_10_method_1_code 4 = .ok (.aload_n 0, 1) := by decide +kernel
theorem own_d6_5 : decode prog_10_method_1_code 5 = .ok (.bipush 8, 2) := by decide +kernel
theorem own_d6_7 : decode prog_10_method_1_code 7 = .ok (.anewarray 9, 3) := by decide +kernel
theorem own_d6_10 : decode prog_10_method_1_code 10 = .ok (.putfield 11, 3) := by decide +kernel
theorem own_d6_13 : decode prog_10_method_1_code 13 = .ok (.aload_n 0, 1) := by decide +kernel
theorem own_d6_14 : decode prog_10_method_1_code 14 = .ok (.bipush 16, 2) := by decide +kernel
theorem own_d6_16 : decode prog_10_method_1_code 16 = .ok (.newarray .int, 2) := by decide +kernel
theorem own_d6_18 : decode prog_10_method_1_code 18 = .ok (.putfield 17, 3) := by decide +kernel
theorem own_d6_21 : decode prog_10_method_1_code 21 = .ok (.aload_n 0, 1) := by decide +kernel
theorem own_d6_22 : decode prog_10_method_1_code 22 = .ok (.new 21, 3) := by decide +kernel
theorem own_d6_25 : decode prog_10_method_1_code 25 = .ok (.dup, 1) := by decide +kernel
theorem own_d6_26 : decode prog_10_method_1_code 26 = .ok (.invokespecial 23, 3) := by decide +kernel
theorem own_d6_29 : decode prog_10_method_1_code 29 = .ok (.putfield 24, 3) := by decide +kernel
theorem own_d6_32 : decode prog_10_method_1_code 32 = .ok (.return_, 1) := by decide +kernel
theorem own_pn6 : plainName "com/example/nestor/nestor/IdTable" = true := by first | (simp [plainName, overriddenIn]; done) | decide +kernel
theorem own_ef6 (m : MethodId) (x0 : Addr) : entryFrame m #[(.ref x0)] 1 = (mkF m 0 #[.val (.ref x0)] []) := by first | (simp [entryFrame, mkF, argsToLocals, Value.category]; done) | rfl
def own_Q6 (Z : State) (o0 : Addr) (u_size_o0 : Value) (u_ids_o0 : Value) (u_slots_o0 : Value) (u_crowded_o0 : Value) (h0 : Heap) (n0 : Nat) (v : Option Value) (h : Heap) (L : List Loc) : Prop := ∃ b2 : Addr, ∃ b23 : Addr, ∃ b46 : Addr, ∃ k2 : ClassId, ∃ k23 : ClassId, v = none ∧ Fr n0 L ∧ Keep h0 h [o0] ∧ h0.size ≤ b2 ∧ h0.size ≤ b23 ∧ h0.size ≤ b46 ∧ Fld Z h o0 "com/example/nestor/nestor/IdTable" "size" "I" u_size_o0 ∧ Exa Z h o0 "com/example/nestor/nestor/IdTable" ∧ Fld Z h o0 "com/example/nestor/nestor/IdTable" "ids" "[Ljava/lang/String;" (.ref b2) ∧ Fld Z h o0 "com/example/nestor/nestor/IdTable" "slots" "[I" (.ref b23) ∧ Fld Z h o0 "com/example/nestor/nestor/IdTable" "crowded" "Ljava/util/TreeMap;" (.ref b46) ∧ Arv Z h b2 k2 (.object "java/lang/String") (8 : Int32) [.null, .null, .null, .null, .null, .null, .null, .null] .null ∧ Arv Z h b23 k23 .int (16 : Int32) own_s0 (.int (0 : Int32)) ∧ Exa Z h b46 "java/util/TreeMap" ∧ Fld Z h b46 "java/util/TreeMap" "size" "I" (.int (0 : Int32)) ∧ Fld Z h b46 "java/util/TreeMap" "modCount" "I" (.int (0 : Int32)) ∧ Fld Z h b46 "java/util/TreeMap" "comparator" "Ljava/util/Comparator;" .null ∧ Ovr Z k2 "java/lang/String" ∧ b2 ≠ b23 ∧ b2 ≠ b46 ∧ b23 ≠ b46
set_option maxRecDepth 65536 in
set_option maxHeartbeats 40000000 in
theorem own_rm6 (l : Launch) (Z : State) (a0 : Array Value) (hw : ∀ d ∈ tables_1, d.before a0 Z = true) (ws : List Jvm.Cond) (o0 : Addr) (u_size_o0 : Value) (u_ids_o0 : Value) (u_slots_o0 : Value) (u_crowded_o0 : Value) (h0 : Heap) (n0 : Nat) (Z0 : n0 ≤ h0.size) (P_F_o0_size : Fld Z h0 o0 "com/example/nestor/nestor/IdTable" "size" "I" u_size_o0) (P_E_o0 : Exa Z h0 o0 "com/example/nestor/nestor/IdTable") (P_F_o0_ids : Fld Z h0 o0 "com/example/nestor/nestor/IdTable" "ids" "[Ljava/lang/String;" u_ids_o0) (P_F_o0_slots : Fld Z h0 o0 "com/example/nestor/nestor/IdTable" "slots" "[I" u_slots_o0) (P_F_o0_crowded : Fld Z h0 o0 "com/example/nestor/nestor/IdTable" "crowded" "Ljava/util/TreeMap;" u_crowded_o0) (G_o0 : n0 ≤ o0) :
    MetFree l (⟨"com/example/nestor/nestor/IdTable", "<init>", "()V"⟩ : MethodName) (head1 (Jvm.Cond.code (⟨"com/example/nestor/nestor/IdTable", "<init>", "()V"⟩ : MethodName) prog_10_method_1_code 1 none :: ws) ({ frames := 3, cells := 3, slots := 33, locals := 38 } : Room)) (fun a U => a = #[(.ref o0)] ∧ Z.Warmed39 U.vm ∧ U.heap = h0) (fun _ _ _ _ _ => True) (fun _ U o U' => ∃ v L, o = .returned v ∧ own_Q6 Z o0 u_size_o0 u_ids_o0 u_slots_o0 u_crowded_o0 h0 n0 v U'.heap L ∧ FrameEnd U o U' L ({ frames := 3, cells := 3, slots := 33, locals := 38 } : Room).cells ({ frames := 3, cells := 3, slots := 33, locals := 38 } : Room).slots) := by
  refine MetFree.of_bodySF (plainFor_of_name own_pn6) hisR ?_
  intro p e s m args below meth c s₁ Bd hml0 hP hK
  obtain ⟨rfl, hZ, hh⟩ := hP
  have hx := Bd.exec
  have hlk : meth.locks = false := BodyLoose.notSynchronized Bd
  have hby := Bd.bytes
  have hml : c.maxLocals = 1 := hml0
  have hown : s.vm.findClass "com/example/nestor/nestor/IdTable" = some m.cls := findClass_of_methodNamed Bd.named
  have hnm := (name_of_methodNamed Bd.named Bd.method).1
  have X0 : Stand p l e ({ frames := 3, cells := 3, slots := 33, locals := 38 } : Room) s m #[(.ref o0)] below meth c s₁ [] 0 0 := Stand.of_body Bd
  have e0 : s₁.heap = h0 := by rw [← hh, Bd.state]; rfl
  have N0 := Fr.nil n0
  have pre0 : ∀ t, Steps p.tables e below (s₁.setTop (mkF m 0 #[.val (.ref o0)] [])) t → Steps p.tables e below (s₁.setTop (entryFrame m #[(.ref o0)] 1)) t := fun t k => castTop (own_ef6 m o0) k
  obtain ⟨T1, X1, e1, st1⟩ := initO X0 hx hZ hown (hw _ (List.mem_of_getElem? (i := 32) rfl)) (hw _ (List.mem_of_getElem? (i := 20) rfl)) (hw _ (List.mem_of_getElem? (i := 21) rfl)) e0 (g := (mkF m 1 #[.val (.ref o0)] [(.ref o0)])) rfl (by rw [hml]; rfl) rfl (hb hby own_d6_1) (by decide) (W := 0) (by show 2 * 0 + _ ≤ _; exact Nat.le_of_eq rfl) (by decide)
  obtain ⟨T2, h2, k2, X2, e2, E2, A2, O2, st2⟩ := newR X1 hx hZ hown (hw _ (List.mem_of_getElem? (i := 33) rfl)) (hw _ (List.mem_of_getElem? (i := 34) rfl)) e1 (g := (mkF m 7 #[.val (.ref o0)] [(.int (8 : Int32)), (.ref o0)])) rfl (hb hby own_d6_7) rfl (by decide) (cap := 8) (by decide) (by decide) (by decide) (by decide)
  obtain ⟨b2, g2⟩ : ∃ z, z = h0.size := ⟨_, rfl⟩
  rw [← g2] at A2 st2
  have g_b2 : n0 ≤ b2 := Nat.le_trans Z0 (Nat.le_of_eq g2.symm)
  have K3 : Keep h0 h0 [o0] := Keep.refl h0 [o0]
  have sz_b2 : h0.size ≤ b2 := Nat.le_trans K3.1 (Nat.le_of_eq g2.symm)
  have lt4 : o0 < b2 := Nat.lt_of_lt_of_le P_F_o0_crowded.lt (Nat.le_of_eq g2.symm)
  have f5 : Fld Z h2 o0 "com/example/nestor/nestor/IdTable" "size" "I" u_size_o0 := P_F_o0_size.ext E2
  have f6 : Exa Z h2 o0 "com/example/nestor/nestor/IdTable" := P_E_o0.ext E2
  have f7 : Fld Z h2 o0 "com/example/nestor/nestor/IdTable" "ids" "[Ljava/lang/String;" u_ids_o0 := P_F_o0_ids.ext E2
  have f8 : Fld Z h2 o0 "com/example/nestor/nestor/IdTable" "slots" "[I" u_slots_o0 := P_F_o0_slots.ext E2
  have f9 : Fld Z h2 o0 "com/example/nestor/nestor/IdTable" "crowded" "Ljava/util/TreeMap;" u_crowded_o0 := P_F_o0_crowded.ext E2
  have zs10 : n0 ≤ h2.size := Nat.le_trans Z0 E2.1
  have K11 : Keep h0 h2 [o0] := K3.ext E2
  have f12 : Arv Z h2 b2 k2 (.object "java/lang/String") (8 : Int32) [.null, .null, .null, .null, .null, .null, .null, .null] .null := (Arv.new A2 (by decide)).pad (pad_rep [] .null 8)
  obtain ⟨T13, h13, X13, e13, W13, st13⟩ := putF X2 hx hZ hown (host := "") (Or.inl (hw _ (List.mem_of_getElem? (i := 35) rfl))) Via.refl e2 f7 f6 (Or.inl (hw _ (List.mem_of_getElem? (i := 36) rfl))) (hw _ (List.mem_of_getElem? (i := 27) rfl)) (ty := (.array (.object "java/lang/String"))) (by decide) rfl rfl (g := (mkF m 10 #[.val (.ref o0)] [(.ref b2), (.ref o0)])) rfl rfl (hb hby own_d6_10)
  have f14 : Fld Z h13 o0 "com/example/nestor/nestor/IdTable" "size" "I" u_size_o0 := f5.other W13 (Or.inr (slot_ne (Or.inl (hw _ (List.mem_of_getElem? (i := 107) rfl))) (Or.inl (hw _ (List.mem_of_getElem? (i := 36) rfl))) (by decide) (t := .int) (t' := (.array (.object "java/lang/String"))) (by decide) (by decide)))
  have f15 : Exa Z h13 o0 "com/example/nestor/nestor/IdTable" := f6.wr W13
  have f16 : Fld Z h13 o0 "com/example/nestor/nestor/IdTable" "ids" "[Ljava/lang/String;" (.ref b2) := f7.same W13
  have f17 : Fld Z h13 o0 "com/example/nestor/nestor/IdTable" "slots" "[I" u_slots_o0 := f8.other W13 (Or.inr (slot_ne (Or.inl (hw _ (List.mem_of_getElem? (i := 39) rfl))) (Or.inl (hw _ (List.mem_of_getElem? (i := 36) rfl))) (by decide) (t := (.array .int)) (t' := (.array (.object "java/lang/String"))) (by decide) (by decide)))
  have f18 : Fld Z h13 o0 "com/example/nestor/nestor/IdTable" "crowded" "Ljava/util/TreeMap;" u_crowded_o0 := f9.other W13 (Or.inr (slot_ne (Or.inr (hw _ (List.mem_of_getElem? (i := 60) rfl))) (Or.inl (hw _ (List.mem_of_getElem? (i := 36) rfl))) (by decide) (t := (.object "java/util/TreeMap")) (t' := (.array (.object "java/lang/String"))) (by decide) (by decide)))
  have f19 : Arv Z h13 b2 k2 (.object "java/lang/String") (8 : Int32) [.null, .null, .null, .null, .null, .null, .null, .null] .null := f12.other W13 (Nat.ne_of_gt lt4)
  have zs20 : n0 ≤ h13.size := Nat.le_trans zs10 (Keep.of_wr W13).1
  have N21 := Fr.snoc X13 N0 G_o0
  have K22 : Keep h0 h13 [o0] := K11.wr W13 (Or.inl (by simp))
  obtain ⟨T23, h23, k23, X23, e23, E23, A23, st23⟩ := newP X13 hx hZ (hw _ (List.mem_of_getElem? (i := 37) rfl)) e13 (g := (mkF m 16 #[.val (.ref o0)] [(.int (16 : Int32)), (.ref o0)])) rfl (hb hby own_d6_16) rfl (by decide) (cap := 16) (by decide) (by decide) (by decide) (by decide)
  obtain ⟨b23, g23⟩ : ∃ z, z = h13.size := ⟨_, rfl⟩
  rw [← g23] at A23 st23
  have g_b23 : n0 ≤ b23 := Nat.le_trans zs20 (Nat.le_of_eq g23.symm)
  have sz_b23 : h0.size ≤ b23 := Nat.le_trans K22.1 (Nat.le_of_eq g23.symm)
  have lt24 : o0 < b23 := Nat.lt_of_lt_of_le f18.lt (Nat.le_of_eq g23.symm)
  have lt25 : b2 < b23 := Nat.lt_of_lt_of_le f19.lt (Nat.le_of_eq g23.symm)
  have f26 : Fld Z h23 o0 "com/example/nestor/nestor/IdTable" "size" "I" u_size_o0 := f14.ext E23
  have f27 : Exa Z h23 o0 "com/example/nestor/nestor/IdTable" := f15.ext E23
  have f28 : Fld Z h23 o0 "com/example/nestor/nestor/IdTable" "ids" "[Ljava/lang/String;" (.ref b2) := f16.ext E23
  have f29 : Fld Z h23 o0 "com/example/nestor/nestor/IdTable" "slots" "[I" u_slots_o0 := f17.ext E23
  have f30 : Fld Z h23 o0 "com/example/nestor/nestor/IdTable" "crowded" "Ljava/util/TreeMap;" u_crowded_o0 := f18.ext E23
  have f31 : Arv Z h23 b2 k2 (.object "java/lang/String") (8 : Int32) [.null, .null, .null, .null, .null, .null, .null, .null] .null := f19.ext E23
  have zs32 : n0 ≤ h23.size := Nat.le_trans zs20 E23.1
  have K33 : Keep h0 h23 [o0] := K22.ext E23
  have f34 : Arv Z h23 b23 k23 .int (16 : Int32) own_s0 (.int (0 : Int32)) := (Arv.new A23 (by decide)).pad (pad_rep [] (.int (0 : Int32)) 16)
  obtain ⟨T35, h35, X35, e35, W35, st35⟩ := putF X23 hx hZ hown (host := "") (Or.inl (hw _ (List.mem_of_getElem? (i := 38) rfl))) Via.refl e23 f29 f27 (Or.inl (hw _ (List.mem_of_getElem? (i := 39) rfl))) (hw _ (List.mem_of_getElem? (i := 27) rfl)) (ty := (.array .int)) (by decide) rfl rfl (g := (mkF m 18 #[.val (.ref o0)] [(.ref b23), (.ref o0)])) rfl rfl (hb hby own_d6_18)
  have f36 : Fld Z h35 o0 "com/example/nestor/nestor/IdTable" "size" "I" u_size_o0 := f26.other W35 (Or.inr (slot_ne (Or.inl (hw _ (List.mem_of_getElem? (i := 107) rfl))) (Or.inl (hw _ (List.mem_of_getElem? (i := 39) rfl))) (by decide) (t := .int) (t' := (.array .int)) (by decide) (by decide)))
  have f37 : Exa Z h35 o0 "com/example/nestor/nestor/IdTable" := f27.wr W35
  have f38 : Fld Z h35 o0 "com/example/nestor/nestor/IdTable" "ids" "[Ljava/lang/String;" (.ref b2) := f28.other W35 (Or.inr (slot_ne (Or.inl (hw _ (List.mem_of_getElem? (i := 36) rfl))) (Or.inl (hw _ (List.mem_of_getElem? (i := 39) rfl))) (by decide) (t := (.array (.object "java/lang/String"))) (t' := (.array .int)) (by decide) (by decide)))
  have f39 : Fld Z h35 o0 "com/example/nestor/nestor/IdTable" "slots" "[I" (.ref b23) := f29.same W35
  have f40 : Fld Z h35 o0 "com/example/nestor/nestor/IdTable" "crowded" "Ljava/util/TreeMap;" u_crowded_o0 := f30.other W35 (Or.inr (slot_ne (Or.inr (hw _ (List.mem_of_getElem? (i := 60) rfl))) (Or.inl (hw _ (List.mem_of_getElem? (i := 39) rfl))) (by decide) (t := (.object "java/util/TreeMap")) (t' := (.array .int)) (by decide) (by decide)))
  have f41 : Arv Z h35 b2 k2 (.object "java/lang/String") (8 : Int32) [.null, .null, .null, .null, .null, .null, .null, .null] .null := f31.other W35 (Nat.ne_of_gt lt4)
  have f42 : Arv Z h35 b23 k23 .int (16 : Int32) own_s0 (.int (0 : Int32)) := f34.other W35 (Nat.ne_of_gt lt24)
  have zs43 : n0 ≤ h35.size := Nat.le_trans zs32 (Keep.of_wr W35).1
  have N44 := Fr.snoc X35 N21 G_o0
  have K45 : Keep h0 h35 [o0] := K33.wr W35 (Or.inl (by simp))
  obtain ⟨T46, h46, X46, e46, E46, A46, D46, -, st46⟩ := newO X35 hx hZ hown (hw _ (List.mem_of_getElem? (i := 40) rfl)) (hw _ (List.mem_of_getElem? (i := 41) rfl)) (hw _ (List.mem_of_getElem? (i := 42) rfl)) e35 (g := (mkF m 22 #[.val (.ref o0)] [(.ref o0)])) rfl (hb hby own_d6_22) (by decide) (by decide)
  obtain ⟨b46, g46⟩ : ∃ z, z = h35.size := ⟨_, rfl⟩
  rw [← g46] at A46 D46 st46
  have g_b46 : n0 ≤ b46 := Nat.le_trans zs43 (Nat.le_of_eq g46.symm)
  have sz_b46 : h0.size ≤ b46 := Nat.le_trans K45.1 (Nat.le_of_eq g46.symm)
  have lt47 : o0 < b46 := Nat.lt_of_lt_of_le f40.lt (Nat.le_of_eq g46.symm)
  have lt48 : b2 < b46 := Nat.lt_of_lt_of_le f41.lt (Nat.le_of_eq g46.symm)
  have lt49 : b23 < b46 := Nat.lt_of_lt_of_le f42.lt (Nat.le_of_eq g46.symm)
  have f50 : Fld Z h46 o0 "com/example/nestor/nestor/IdTable" "size" "I" u_size_o0 := f36.ext E46
  have f51 : Exa Z h46 o0 "com/example/nestor/nestor/IdTable" := f37.ext E46
  have f52 : Fld Z h46 o0 "com/example/nestor/nestor/IdTable" "ids" "[Ljava/lang/String;" (.ref b2) := f38.ext E46
  have f53 : Fld Z h46 o0 "com/example/nestor/nestor/IdTable" "slots" "[I" (.ref b23) := f39.ext E46
  have f54 : Fld Z h46 o0 "com/example/nestor/nestor/IdTable" "crowded" "Ljava/util/TreeMap;" u_crowded_o0 := f40.ext E46
  have f55 : Arv Z h46 b2 k2 (.object "java/lang/String") (8 : Int32) [.null, .null, .null, .null, .null, .null, .null, .null] .null := f41.ext E46
  have f56 : Arv Z h46 b23 k23 .int (16 : Int32) own_s0 (.int (0 : Int32)) := f42.ext E46
  have zs57 : n0 ≤ h46.size := Nat.le_trans zs43 E46.1
  have K58 : Keep h0 h46 [o0] := K45.ext E46
  have f59 : Fld Z h46 b46 "java/util/TreeMap" "size" "I" (.int (0 : Int32)) := D46 (Or.inl (hw _ (List.mem_of_getElem? (i := 54) rfl))) (ty := .int) (by decide)
  have f60 : Fld Z h46 b46 "java/util/TreeMap" "modCount" "I" (.int (0 : Int32)) := D46 (Or.inl (hw _ (List.mem_of_getElem? (i := 56) rfl))) (ty := .int) (by decide)
  have f61 : Fld Z h46 b46 "java/util/TreeMap" "comparator" "Ljava/util/Comparator;" .null := D46 (Or.inr (hw _ (List.mem_of_getElem? (i := 58) rfl))) (ty := (.object "java/util/Comparator")) (by decide)
  obtain ⟨_, _, ⟨T62, L62, k62, n62⟩, -, X62, ⟨Lc62, hQ62, l62, y62, z62⟩, st62⟩ := X46.specialBack hx (y := (⟨"java/util/TreeMap", "<init>", "()V"⟩ : MethodName)) rfl hown (mvT hZ (hw _ (List.mem_of_getElem? (i := 43) rfl))) (mvT hZ (hw _ (List.mem_of_getElem? (i := 44) rfl))) (mvT hZ (hw _ (List.mem_of_getElem? (i := 45) rfl))) (by decide) (backOf (W := 2) (own_rm7 l Z a0 hw [] b46 (.int (0 : Int32)) .null (.int (0 : Int32)) h46 n0 zs57 f60 f61 A46 f59 g_b46) hZ (hw _ (List.mem_of_getElem? (i := 45) rfl)) (hw _ (List.mem_of_getElem? (i := 42) rfl)) (by decide) (by decide)) (g := (mkF m 26 #[.val (.ref o0)] [(.ref b46), (.ref b46), (.ref o0)])) rfl (by rw [hml]; rfl) (Steps.refl _) (a := b46) (argsL := []) (rest := [(.ref b46), (.ref o0)]) (lenOf own_pd3 rfl) rfl (by show 2 * 0 + _ ≤ _; exact Nat.le_of_eq rfl) (hb hby own_d6_26) (fun _ _ => ⟨rfl, e46, (by decide : 3 + 0 ≤ _), (by decide : 33 + 0 ≤ _)⟩)
  dsimp only [Pt.U, Pt.locs, Pt.cells, Pt.slots] at X62 l62 y62 z62 st62 hQ62
  subst y62 z62
  obtain ⟨rfl, N62q, K62, f63, f64, f65, f66⟩ := hQ62
  have f67 : Fld Z T62.heap o0 "com/example/nestor/nestor/IdTable" "size" "I" u_size_o0 := f50.keep K62 (ninS (Nat.ne_of_lt lt47) nin0)
  have f68 : Exa Z T62.heap o0 "com/example/nestor/nestor/IdTable" := f51.keep K62
  have f69 : Fld Z T62.heap o0 "com/example/nestor/nestor/IdTable" "ids" "[Ljava/lang/String;" (.ref b2) := f52.keep K62 (ninS (Nat.ne_of_lt lt47) nin0)
  have f70 : Fld Z T62.heap o0 "com/example/nestor/nestor/IdTable" "slots" "[I" (.ref b23) := f53.keep K62 (ninS (Nat.ne_of_lt lt47) nin0)
  have f71 : Fld Z T62.heap o0 "com/example/nestor/nestor/IdTable" "crowded" "Ljava/util/TreeMap;" u_crowded_o0 := f54.keep K62 (ninS (Nat.ne_of_lt lt47) nin0)
  have f72 : Arv Z T62.heap b2 k2 (.object "java/lang/String") (8 : Int32) [.null, .null, .null, .null, .null, .null, .null, .null] .null := f55.keep K62 (ninS (Nat.ne_of_lt lt48) nin0)
  have f73 : Arv Z T62.heap b23 k23 .int (16 : Int32) own_s0 (.int (0 : Int32)) := f56.keep K62 (ninS (Nat.ne_of_lt lt49) nin0)
  have zs74 : n0 ≤ T62.heap.size := Nat.le_trans zs57 K62.1
  have K75 : Keep h0 T62.heap [o0] := K58.trans K62 (allS (Or.inr sz_b46) all0)
  have N76 : Fr n0 L62 := by rw [l62]; exact Fr.app N44 N62q
  obtain ⟨T77, h77, X77, e77, W77, st77⟩ := putF X62 hx hZ hown (host := "") (Or.inl (hw _ (List.mem_of_getElem? (i := 59) rfl))) Via.refl rfl f71 f68 (Or.inr ⟨(hw _ (List.mem_of_getElem? (i := 60) rfl)), rfl, hnm⟩) (hw _ (List.mem_of_getElem? (i := 27) rfl)) (ty := (.object "java/util/TreeMap")) (by decide) rfl rfl (g := (mkF m 29 #[.val (.ref o0)] [(.ref b46), (.ref o0)])) rfl rfl (hb hby own_d6_29)
  have f78 : Fld Z h77 o0 "com/example/nestor/nestor/IdTable" "size" "I" u_size_o0 := f67.other W77 (Or.inr (slot_ne (Or.inl (hw _ (List.mem_of_getElem? (i := 107) rfl))) (Or.inr (hw _ (List.mem_of_getElem? (i := 60) rfl))) (by decide) (t := .int) (t' := (.object "java/util/TreeMap")) (by decide) (by decide)))
  have f79 : Exa Z h77 o0 "com/example/nestor/nestor/IdTable" := f68.wr W77
  have f80 : Fld Z h77 o0 "com/example/nestor/nestor/IdTable" "ids" "[Ljava/lang/String;" (.ref b2) := f69.other W77 (Or.inr (slot_ne (Or.inl (hw _ (List.mem_of_getElem? (i := 36) rfl))) (Or.inr (hw _ (List.mem_of_getElem? (i := 60) rfl))) (by decide) (t := (.array (.object "java/lang/String"))) (t' := (.object "java/util/TreeMap")) (by decide) (by decide)))
  have f81 : Fld Z h77 o0 "com/example/nestor/nestor/IdTable" "slots" "[I" (.ref b23) := f70.other W77 (Or.inr (slot_ne (Or.inl (hw _ (List.mem_of_getElem? (i := 39) rfl))) (Or.inr (hw _ (List.mem_of_getElem? (i := 60) rfl))) (by decide) (t := (.array .int)) (t' := (.object "java/util/TreeMap")) (by decide) (by decide)))
  have f82 : Fld Z h77 o0 "com/example/nestor/nestor/IdTable" "crowded" "Ljava/util/TreeMap;" (.ref b46) := f71.same W77
  have f83 : Arv Z h77 b2 k2 (.object "java/lang/String") (8 : Int32) [.null, .null, .null, .null, .null, .null, .null, .null] .null := f72.other W77 (Nat.ne_of_gt lt4)
  have f84 : Arv Z h77 b23 k23 .int (16 : Int32) own_s0 (.int (0 : Int32)) := f73.other W77 (Nat.ne_of_gt lt24)
  have f85 : Exa Z h77 b46 "java/util/TreeMap" := f65.wr W77
  have f86 : Fld Z h77 b46 "java/util/TreeMap" "size" "I" (.int (0 : Int32)) := f66.other W77 (Or.inl (Nat.ne_of_gt lt47))
  have f87 : Fld Z h77 b46 "java/util/TreeMap" "modCount" "I" (.int (0 : Int32)) := f63.other W77 (Or.inl (Nat.ne_of_gt lt47))
  have f88 : Fld Z h77 b46 "java/util/TreeMap" "comparator" "Ljava/util/Comparator;" .null := f64.other W77 (Or.inl (Nat.ne_of_gt lt47))
  have zs89 : n0 ≤ h77.size := Nat.le_trans zs74 (Keep.of_wr W77).1
  have N90 := Fr.snoc X77 N76 G_o0
  have K91 : Keep h0 h77 [o0] := K75.wr W77 (Or.inl (by simp))
  have pre92 : ∀ t, Steps p.tables e below (T77.setTop (mkF m 32 #[.val (.ref o0)] [])) t → Steps p.tables e below (s₁.setTop (entryFrame m #[(.ref o0)] 1)) t := fun t k => pre0 t (by
      refine XS.aloadN X0.here hx rfl (hb hby own_d6_0) rfl rfl ?_
      show Steps p.tables e below (s₁.setTop (mkF m 1 #[.val (.ref o0)] [(.ref o0)])) _
      refine st1 _ ?_
      show Steps p.tables e below (T1.setTop (mkF m 4 #[.val (.ref o0)] [])) _
      refine XS.aloadN X1.here hx rfl (hb hby own_d6_4) rfl rfl ?_
      refine XS.bipush X1.here hx rfl (hb hby own_d6_5) ?_
      refine st2 _ ?_
      show Steps p.tables e below (T2.setTop (mkF m 10 #[.val (.ref o0)] [(.ref b2), (.ref o0)])) _
      refine st13 _ ?_
      show Steps p.tables e below (T13.setTop (mkF m 13 #[.val (.ref o0)] [])) _
      refine XS.aloadN X13.here hx rfl (hb hby own_d6_13) rfl rfl ?_
      refine XS.bipush X13.here hx rfl (hb hby own_d6_14) ?_
      refine st23 _ ?_
      show Steps p.tables e below (T23.setTop (mkF m 18 #[.val (.ref o0)] [(.ref b23), (.ref o0)])) _
      refine st35 _ ?_
      show Steps p.tables e below (T35.setTop (mkF m 21 #[.val (.ref o0)] [])) _
      refine XS.aloadN X35.here hx rfl (hb hby own_d6_21) rfl rfl ?_
      refine st46 _ ?_
      show Steps p.tables e below (T46.setTop (mkF m 25 #[.val (.ref o0)] [(.ref b46), (.ref o0)])) _
      refine XS.dup X46.here hx rfl (hb hby own_d6_25) rfl rfl ?_
      refine st62.trans ?_
      show Steps p.tables e below (T62.setTop (mkF m 29 #[.val (.ref o0)] [(.ref b46), (.ref o0)])) _
      refine st77 _ ?_
      show Steps p.tables e below (T77.setTop (mkF m 32 #[.val (.ref o0)] [])) _
      exact k)
  obtain ⟨fs, hr, hrun, hended, hW, hsame⟩ := X77.leave (v := none) (fun _ => rfl) (hlocks := hlk)
  refine ⟨_, _, pre92 _ ?_, hrun, hended, _, _, rfl, ?_, ⟨_, rfl⟩, hW, hsame.mono (by decide) (by decide)⟩
  · show Steps p.tables e below (T77.setTop (mkF m 32 #[.val (.ref o0)] [])) _
    exact X77.returnOut hx Bd.returns (hb hby own_d6_32) hr
  · show own_Q6 Z o0 u_size_o0 u_ids_o0 u_slots_o0 u_crowded_o0 h0 n0 _ T77.heap _; rw [e77]; exact ⟨b2, b23, b46, k2, k23, rfl, N90, K91, sz_b2, sz_b23, sz_b46, f78, f79, f80, f81, f82, f83, f84, f85, f86, f87, f88, O2, (Nat.ne_of_lt lt25), (Nat.ne_of_lt lt48), (Nat.ne_of_lt lt49)⟩
theorem own_d15_0 : decode jdk_33_method_48_code 0 = .ok (.iload_n 0, 1) := by decide +kernel
theorem own_d15_1 : decode jdk_33_method_48_code 1 = .ok (.iconst (-1), 1) := by decide +kernel
theorem own_d15_2 : decode jdk_33_method_48_code 2 = .ok (.ixor, 1) := by decide +kernel
theorem own_d15_3 : decode jdk_33_method_48_code 3 = .ok (.iload_n 0, 1) := by decide +kernel
theorem own_d15_4 : decode jdk_33_method_48_code 4 = .ok (.iconst 1, 1) := by decide +kernel
theorem own_d15_5 : decode jdk_33_method_48_code 5 = .ok (.isub, 1) := by decide +kernel
theorem own_d15_6 : decode jdk_33_method_48_code 6 = .ok (.iand, 1) := by decide +kernel
theorem own_d15_7 : decode jdk_33_method_48_code 7 = .ok (.istore_n 0, 1) := by decide +kernel
theorem own_d15_8 : decode jdk_33_method_48_code 8 = .ok (.iload_n 0, 1) := by decide +kernel
theorem own_d15_9 : decode jdk_33_method_48_code 9 = .ok (.ifCond .gt 8, 3) := by decide +kernel
theorem own_d15_17 : decode jdk_33_method_48_code 17 = .ok (.iconst 1, 1) := by decide +kernel
theorem own_d15_18 : decode jdk_33_method_48_code 18 = .ok (.istore_n 1, 1) := by decide +kernel
theorem own_d15_19 : decode jdk_33_method_48_code 19 = .ok (.iload_n 0, 1) := by decide +kernel
theorem own_d15_20 : decode jdk_33_method_48_code 20 = .ok (.ldc_w 264, 3) := by decide +kernel
theorem own_d15_23 : decode jdk_33_method_48_code 23 = .ok (.if_icmp .le 11, 3) := by decide +kernel
theorem own_d15_34 : decode jdk_33_method_48_code 34 = .ok (.iload_n 0, 1) := by decide +kernel
theorem own_d15_35 : decode jdk_33_method_48_code 35 = .ok (.sipush 256, 3) := by decide +kernel
theorem own_d15_38 : decode jdk_33_method_48_code 38 = .ok (.if_icmp .le 11, 3) := by decide +kernel
theorem own_d15_49 : decode jdk_33_method_48_code 49 = .ok (.iload_n 0, 1) := by decide +kernel
theorem own_d15_50 : decode jdk_33_method_48_code 50 = .ok (.bipush 16, 2) := by decide +kernel
theorem own_d15_52 : decode jdk_33_method_48_code 52 = .ok (.if_icmp .le 10, 3) := by decide +kernel
theorem own_d15_62 : decode jdk_33_method_48_code 62 = .ok (.iload_n 0, 1) := by decide +kernel
theorem own_d15_63 : decode jdk_33_method_48_code 63 = .ok (.iconst 4, 1) := by decide +kernel
theorem own_d15_64 : decode jdk_33_method_48_code 64 = .ok (.if_icmp .le 10, 3) := by decide +kernel
theorem own_d15_67 : decode jdk_33_method_48_code 67 = .ok (.iinc 1 2, 3) := by decide +kernel
theorem own_d15_70 : decode jdk_33_method_48_code 70 = .ok (.iload_n 0, 1) := by decide +kernel
theorem own_d15_71 : decode jdk_33_method_48_code 71 = .ok (.iconst 2, 1) := by decide +kernel
theorem own_d15_72 : decode jdk_33_method_48_code 72 = .ok (.iushr, 1) := by decide +kernel
theorem own_d15_73 : decode jdk_33_method_48_code 73 = .ok (.istore_n 0, 1) := by decide +kernel
theorem own_d15_74 : decode jdk_33_method_48_code 74 = .ok (.iload_n 1, 1) := by decide +kernel
theorem own_d15_75 : decode jdk_33_method_48_code 75 = .ok (.iload_n 0, 1) := by decide +kernel
theorem own_d15_76 : decode jdk_33_method_48_code 76 = .ok (.iconst 1, 1) := by decide +kernel
theorem own_d15_77 : decode jdk_33_method_48_code 77 = .ok (.iushr, 1) := by decide +kernel
theorem own_d15_78 : decode jdk_33_method_48_code 78 = .ok (.iadd, 1) := by decide +kernel
theorem own_d15_79 : decode jdk_33_method_48_code 79 = .ok (.ireturn, 1) := by decide +kernel
theorem own_pn15 : plainName "java/lang/Integer" = true := by first | (simp [plainName, overriddenIn]; done) | decide +kernel
theorem own_ef15 (m : MethodId)  : entryFrame m #[(.int (16 : Int32))] 2 = (mkF m 0 #[.val (.int (16 : Int32)), .unset] []) := by first | (simp [entryFrame, mkF, argsToLocals, Value.category]; done) | rfl
def own_Q15 (Z : State)  (h0 : Heap) (n0 : Nat) (v : Option Value) (h : Heap) (L : List Loc) : Prop := v = some (.int (4 : Int32)) ∧ Fr n0 L ∧ h = h0
set_option maxRecDepth 65536 in
set_option maxHeartbeats 40000000 in
theorem own_rm15 (l : Launch) (Z : State) (a0 : Array Value) (hw : ∀ d ∈ tables_1, d.before a0 Z = true) (ws : List Jvm.Cond)  (h0 : Heap) (n0 : Nat) (Z0 : n0 ≤ h0.size) :
    MetFree l (⟨"java/lang/Integer", "numberOfTrailingZeros", "(I)I"⟩ : MethodName) (head1 (Jvm.Cond.code (⟨"java/lang/Integer", "numberOfTrailingZeros", "(I)I"⟩ : MethodName) jdk_33_method_48_code 2 (some .int) :: ws) ({ frames := 0, cells := 0, slots := 0, locals := 0 } : Room)) (fun a U => a = #[(.int (16 : Int32))] ∧ Z.Warmed39 U.vm ∧ U.heap = h0) (fun _ _ _ _ _ => True) (fun _ U o U' => ∃ v L, o = .returned v ∧ own_Q15 Z  h0 n0 v U'.heap L ∧ FrameEnd U o U' L ({ frames := 0, cells := 0, slots := 0, locals := 0 } : Room).cells ({ frames := 0, cells := 0, slots := 0, locals := 0 } : Room).slots) := by
  refine MetFree.of_bodySF (plainFor_of_name own_pn15) hisR ?_
  intro p e s m args below meth c s₁ Bd hml0 hP hK
  obtain ⟨rfl, hZ, hh⟩ := hP
  have hx := Bd.exec
  have hlk : meth.locks = false := BodyLoose.notSynchronized Bd
  have hby := Bd.bytes
  have hml : c.maxLocals = 2 := hml0
  have hown : s.vm.findClass "java/lang/Integer" = some m.cls := findClass_of_methodNamed Bd.named
  have hnm := (name_of_methodNamed Bd.named Bd.method).1
  have X0 : Stand p l e ({ frames := 0, cells := 0, slots := 0, locals := 0 } : Room) s m #[(.int (16 : Int32))] below meth c s₁ [] 0 0 := Stand.of_body Bd
  have e0 : s₁.heap = h0 := by rw [← hh, Bd.state]; rfl
  have N0 := Fr.nil n0
  have pre0 : ∀ t, Steps p.tables e below (s₁.setTop (mkF m 0 #[.val (.int (16 : Int32)), .unset] [])) t → Steps p.tables e below (s₁.setTop (entryFrame m #[(.int (16 : Int32))] 2)) t := fun t k => castTop (own_ef15 m ) k
  have pre1 : ∀ t, Steps p.tables e below (s₁.setTop (mkF m 79 #[.val (.int (3 : Int32)), .val (.int (3 : Int32))] [(.int (4 : Int32))])) t → Steps p.tables e below (s₁.setTop (entryFrame m #[(.int (16 : Int32))] 2)) t := fun t k => pre0 t (by
      refine XS.iloadN X0.here hx rfl (hb hby own_d15_0) rfl ?_
      show Steps p.tables e below (s₁.setTop (mkF m 1 #[.val (.int (16 : Int32)), .unset] [(.int (16 : Int32))])) _
      refine XS.iconst X0.here hx rfl (hb hby own_d15_1) ?_
      refine XS.ixor X0.here hx rfl (hb hby own_d15_2) rfl ?_
      refine XS.iloadN X0.here hx rfl (hb hby own_d15_3) rfl ?_
      refine XS.iconst X0.here hx rfl (hb hby own_d15_4) ?_
      show Steps p.tables e below (s₁.setTop (mkF m 5 #[.val (.int (16 : Int32)), .unset] [(.int (1 : Int32)), (.int (16 : Int32)), (.int (-17 : Int32))])) _
      refine XS.isub X0.here hx rfl (hb hby own_d15_5) rfl ?_
      refine XS.iand X0.here hx rfl (hb hby own_d15_6) rfl ?_
      refine XS.istoreN X0.here hx rfl (hb hby own_d15_7) rfl (l' := #[.val (.int (15 : Int32)), .unset]) rfl ?_
      refine XS.iloadN X0.here hx rfl (hb hby own_d15_8) rfl ?_
      show Steps p.tables e below (s₁.setTop (mkF m 9 #[.val (.int (15 : Int32)), .unset] [(.int (15 : Int32))])) _
      refine XS.ifYes X0.here hx rfl (pc0 := 9) (pc' := 17) rfl (hb hby own_d15_9) rfl ((if0 _ _).trans (tlt (by decide : (0 : Int32) < (15 : Int32))).2.2.1) (by decide) (by decide) ?_
      refine XS.iconst X0.here hx rfl (hb hby own_d15_17) ?_
      refine XS.istoreN X0.here hx rfl (hb hby own_d15_18) rfl (l' := #[.val (.int (15 : Int32)), .val (.int (1 : Int32))]) rfl ?_
      refine XS.iloadN X0.here hx rfl (hb hby own_d15_19) rfl ?_
      show Steps p.tables e below (s₁.setTop (mkF m 20 #[.val (.int (15 : Int32)), .val (.int (1 : Int32))] [(.int (15 : Int32))])) _
      refine X0.ldcwInt hx hown (mvT hZ (hw _ (List.mem_of_getElem? (i := 96) rfl))) (g := (mkF m 20 #[.val (.int (15 : Int32)), .val (.int (1 : Int32))] [(.int (15 : Int32))])) rfl (hb hby own_d15_20) _ ?_
      refine XS.icmpYes X0.here hx rfl (pc0 := 23) (pc' := 34) rfl (hb hby own_d15_23) rfl (flt (by decide : ¬ ((65536 : Int32) < (15 : Int32)))).2.2.2 (by decide) (by decide) ?_
      refine XS.iloadN X0.here hx rfl (hb hby own_d15_34) rfl ?_
      refine XS.sipush X0.here hx rfl (hb hby own_d15_35) ?_
      show Steps p.tables e below (s₁.setTop (mkF m 38 #[.val (.int (15 : Int32)), .val (.int (1 : Int32))] [(.int (256 : Int32)), (.int (15 : Int32))])) _
      refine XS.icmpYes X0.here hx rfl (pc0 := 38) (pc' := 49) rfl (hb hby own_d15_38) rfl (flt (by decide : ¬ ((256 : Int32) < (15 : Int32)))).2.2.2 (by decide) (by decide) ?_
      refine XS.iloadN X0.here hx rfl (hb hby own_d15_49) rfl ?_
      refine XS.bipush X0.here hx rfl (hb hby own_d15_50) ?_
      refine XS.icmpYes X0.here hx rfl (pc0 := 52) (pc' := 62) rfl (hb hby own_d15_52) rfl (flt (by decide : ¬ ((16 : Int32) < (15 : Int32)))).2.2.2 (by decide) (by decide) ?_
      show Steps p.tables e below (s₁.setTop (mkF m 62 #[.val (.int (15 : Int32)), .val (.int (1 : Int32))] [])) _
      refine XS.iloadN X0.here hx rfl (hb hby own_d15_62) rfl ?_
      refine XS.iconst X0.here hx rfl (hb hby own_d15_63) ?_
      refine XS.icmpNo X0.here hx rfl (hb hby own_d15_64) rfl (tlt (by decide : (4 : Int32) < (15 : Int32))).2.2.2 ?_
      refine XS.iinc X0.here hx rfl (hb hby own_d15_67) rfl (l' := #[.val (.int (15 : Int32)), .val (.int (3 : Int32))]) rfl ?_
      show Steps p.tables e below (s₁.setTop (mkF m 70 #[.val (.int (15 : Int32)), .val (.int (3 : Int32))] [])) _
      refine XS.iloadN X0.here hx rfl (hb hby own_d15_70) rfl ?_
      refine XS.iconst X0.here hx rfl (hb hby own_d15_71) ?_
      refine XS.iushr X0.here hx rfl (hb hby own_d15_72) rfl ?_
      refine XS.istoreN X0.here hx rfl (hb hby own_d15_73) rfl (l' := #[.val (.int (3 : Int32)), .val (.int (3 : Int32))]) rfl ?_
      show Steps p.tables e below (s₁.setTop (mkF m 74 #[.val (.int (3 : Int32)), .val (.int (3 : Int32))] [])) _
      refine XS.iloadN X0.here hx rfl (hb hby own_d15_74) rfl ?_
      refine XS.iloadN X0.here hx rfl (hb hby own_d15_75) rfl ?_
      refine XS.iconst X0.here hx rfl (hb hby own_d15_76) ?_
      refine XS.iushr X0.here hx rfl (hb hby own_d15_77) rfl ?_
      show Steps p.tables e below (s₁.setTop (mkF m 78 #[.val (.int (3 : Int32)), .val (.int (3 : Int32))] [(.int (1 : Int32)), (.int (3 : Int32))])) _
      refine XS.iadd X0.here hx rfl (hb hby own_d15_78) rfl ?_
      exact k)
  obtain ⟨fs, hr, hrun, hended, hW, hsame⟩ := X0.leave (v := some (.int (4 : Int32))) (fun h => by rw [Bd.returns] at h; cases h) (hlocks := hlk)
  refine ⟨_, _, pre1 _ ?_, hrun, hended, _, _, rfl, ?_, ⟨_, rfl⟩, hW, hsame.mono (by decide) (by decide)⟩
  · show Steps p.tables e below (s₁.setTop (mkF m 79 #[.val (.int (3 : Int32)), .val (.int (3 : Int32))] [(.int (4 : Int32))])) _
    exact retI X0 hx Bd.returns (hb hby own_d15_79) hr
  · show own_Q15 Z  h0 n0 _ s₁.heap _; rw [e0]; exact ⟨rfl, N0, rfl⟩
theorem own_pd4 : parseMethodDescriptor "(I)I" = some ⟨[.int], some .int⟩ := by decide +kernel
theorem own_d14_0 : decode prog_10_method_11_code 0 = .ok (.iload_n 1, 1) := by decide +kernel
theorem own_d14_1 : decode prog_10_method_11_code 1 = .ok (.ldc 103, 2) := by decide +kernel
theorem own_d14_3 : decode prog_10_method_11_code 3 = .ok (.imul, 1) := by decide +kernel
theorem own_d14_4 : decode prog_10_method_11_code 4 = .ok (.bipush 32, 2) := by decide +kernel
theorem own_d14_6 : decode prog_10_method_11_code 6 = .ok (.aload_n 0, 1) := by decide +kernel
theorem own_d14_7 : decode prog_10_method_11_code 7 = .ok (.getfield 17, 3) := by decide +kernel
theorem own_d14_10 : decode prog_10_method_11_code 10 = .ok (.arraylength, 1) := by decide +kernel
theorem own_d14_11 : decode prog_10_method_11_code 11 = .ok (.invokestatic 104, 3) := by decide +kernel
theorem own_d14_14 : decode prog_10_method_11_code 14 = .ok (.isub, 1) := by decide +kernel
theorem own_d14_15 : decode prog_10_method_11_code 15 = .ok (.iushr, 1) := by decide +kernel
theorem own_d14_16 : decode prog_10_method_11_code 16 = .ok (.ireturn, 1) := by decide +kernel
theorem own_pn14 : plainName "com/example/nestor/nestor/IdTable" = true := by first | (simp [plainName, overriddenIn]; done) | decide +kernel
theorem own_ef14 (m : MethodId) (x0 : Addr) (x1 : Int32) : entryFrame m #[(.ref x0), (.int x1)] 2 = (mkF m 0 #[.val (.ref x0), .val (.int x1)] []) := by first | (simp [entryFrame, mkF, argsToLocals, Value.category]; done) | rfl
def own_f14 (p1 : Int32) : Int32 := (((p1 * (-1640531527 : Int32)).toUInt32 >>> ((28 : Int32) &&& 31).toUInt32).toInt32)
def own_Q14 (Z : State) (o0 : Addr) (p1 : Int32) (w_slots_o0 : Addr) (k_s : ClassId) (vs_s : List Value) (h0 : Heap) (n0 : Nat) (v : Option Value) (h : Heap) (L : List Loc) : Prop := v = some (.int (own_f14 p1)) ∧ Fr n0 L ∧ h = h0
set_option maxRecDepth 65536 in
set_option maxHeartbeats 40000000 in
theorem own_rm14 (l : Launch) (Z : State) (a0 : Array Value) (hw : ∀ d ∈ tables_1, d.before a0 Z = true) (ws : List Jvm.Cond) (o0 : Addr) (p1 : Int32) (w_slots_o0 : Addr) (k_s : ClassId) (vs_s : List Value) (h0 : Heap) (n0 : Nat) (Z0 : n0 ≤ h0.size) (P_F_o0_slots : Fld Z h0 o0 "com/example/nestor/nestor/IdTable" "slots" "[I" (.ref w_slots_o0)) (P_V_w_slots_o0 : Arv Z h0 w_slots_o0 k_s .int (16 : Int32) vs_s (.int (0 : Int32))) :
    MetFree l (⟨"com/example/nestor/nestor/IdTable", "home", "(I)I"⟩ : MethodName) (head1 (Jvm.Cond.code (⟨"com/example/nestor/nestor/IdTable", "home", "(I)I"⟩ : MethodName) prog_10_method_11_code 2 (some .int) :: ws) ({ frames := 1, cells := 0, slots := 0, locals := 15 } : Room)) (fun a U => a = #[(.ref o0), (.int p1)] ∧ Z.Warmed39 U.vm ∧ U.heap = h0) (fun _ _ _ _ _ => True) (fun _ U o U' => ∃ v L, o = .returned v ∧ own_Q14 Z o0 p1 w_slots_o0 k_s vs_s h0 n0 v U'.heap L ∧ FrameEnd U o U' L ({ frames := 1, cells := 0, slots := 0, locals := 15 } : Room).cells ({ frames := 1, cells := 0, slots := 0, locals := 15 } : Room).slots) := by
  refine MetFree.of_bodySF (plainFor_of_name own_pn14) hisR ?_
  intro p e s m args below meth c s₁ Bd hml0 hP hK
  obtain ⟨rfl, hZ, hh⟩ := hP
  have hx := Bd.exec
  have hlk : meth.locks = false := BodyLoose.notSynchronized Bd
  have hby := Bd.bytes
  have hml : c.maxLocals = 2 := hml0
  have hown : s.vm.findClass "com/example/nestor/nestor/IdTable" = some m.cls := findClass_of_methodNamed Bd.named
  have hnm := (name_of_methodNamed Bd.named Bd.method).1
  have X0 : Stand p l e ({ frames := 1, cells := 0, slots := 0, locals := 15 } : Room) s m #[(.ref o0), (.int p1)] below meth c s₁ [] 0 0 := Stand.of_body Bd
  have e0 : s₁.heap = h0 := by rw [← hh, Bd.state]; rfl
  have N0 := Fr.nil n0
  have pre0 : ∀ t, Steps p.tables e below (s₁.setTop (mkF m 0 #[.val (.ref o0), .val (.int p1)] [])) t → Steps p.tables e below (s₁.setTop (entryFrame m #[(.ref o0), (.int p1)] 2)) t := fun t k => castTop (own_ef14 m o0 p1) k
  obtain ⟨T1, X1, e1, st1⟩ := getF X0 hx hZ hown (host := "") (Or.inl (hw _ (List.mem_of_getElem? (i := 38) rfl))) Via.refl e0 P_F_o0_slots (g := (mkF m 7 #[.val (.ref o0), .val (.int p1)] [(.ref o0), (.int (32 : Int32)), (.int (p1 * (-1640531527 : Int32)))])) rfl rfl (hb hby own_d14_7)
  obtain ⟨cl2, Ar2, q2, S2, N_2, Ha2, G2⟩ := id P_V_w_slots_o0
  obtain ⟨_, _, ⟨T3, L3, k3, n3⟩, -, X3, ⟨Lc3, hQ3, l3, y3, z3⟩, st3⟩ := Jvm.LawKit.callS X1 hx (y := (⟨"java/lang/Integer", "numberOfTrailingZeros", "(I)I"⟩ : MethodName)) hown (mvT hZ (hw _ (List.mem_of_getElem? (i := 92) rfl))) (mvT hZ (hw _ (List.mem_of_getElem? (i := 93) rfl))) (mvT hZ (hw _ (List.mem_of_getElem? (i := 94) rfl))) (mvT hZ (hw _ (List.mem_of_getElem? (i := 95) rfl))) (by decide) (backOf (W := 2) (own_rm15 l Z a0 hw []  h0 n0 Z0 ) hZ (hw _ (List.mem_of_getElem? (i := 95) rfl)) (hw _ (List.mem_of_getElem? (i := 94) rfl)) (by decide) (by decide)) (g := (mkF m 11 #[.val (.ref o0), .val (.int p1)] [(.int (16 : Int32)), (.int (32 : Int32)), (.int (p1 * (-1640531527 : Int32)))])) rfl (by rw [hml]; rfl) (argsL := [(.int (16 : Int32))]) (rest := [(.int (32 : Int32)), (.int (p1 * (-1640531527 : Int32)))]) (lenOf own_pd4 rfl) rfl (by show 2 * 0 + _ ≤ _; exact Nat.le_of_eq rfl) (hb hby own_d14_11) (fun _ _ => ⟨rfl, e1, (by decide : 0 + 0 ≤ _), (by decide : 0 + 0 ≤ _)⟩)
  dsimp only [Pt.U, Pt.locs, Pt.cells, Pt.slots] at X3 l3 y3 z3 st3 hQ3
  subst y3 z3
  obtain ⟨rfl, N3q, e3⟩ := hQ3
  have N4 : Fr n0 L3 := by rw [l3]; exact Fr.app N0 N3q
  have pre5 : ∀ t, Steps p.tables e below (T3.setTop (mkF m 16 #[.val (.ref o0), .val (.int p1)] [(.int (((p1 * (-1640531527 : Int32)).toUInt32 >>> ((28 : Int32) &&& 31).toUInt32).toInt32))])) t → Steps p.tables e below (s₁.setTop (entryFrame m #[(.ref o0), (.int p1)] 2)) t := fun t k => pre0 t (by
      refine XS.iloadN X0.here hx rfl (hb hby own_d14_0) rfl ?_
      show Steps p.tables e below (s₁.setTop (mkF m 1 #[.val (.ref o0), .val (.int p1)] [(.int p1)])) _
      refine X0.ldcInt hx hown (mvT hZ (hw _ (List.mem_of_getElem? (i := 91) rfl))) (g := (mkF m 1 #[.val (.ref o0), .val (.int p1)] [(.int p1)])) rfl (hb hby own_d14_1) _ ?_
      refine XS.imul X0.here hx rfl (hb hby own_d14_3) rfl ?_
      refine XS.bipush X0.here hx rfl (hb hby own_d14_4) ?_
      refine XS.aloadN X0.here hx rfl (hb hby own_d14_6) rfl rfl ?_
      show Steps p.tables e below (s₁.setTop (mkF m 7 #[.val (.ref o0), .val (.int p1)] [(.ref o0), (.int (32 : Int32)), (.int (p1 * (-1640531527 : Int32)))])) _
      refine st1 _ ?_
      show Steps p.tables e below (T1.setTop (mkF m 10 #[.val (.ref o0), .val (.int p1)] [(.ref w_slots_o0), (.int (32 : Int32)), (.int (p1 * (-1640531527 : Int32)))])) _
      refine X1.arraylength hx (by rw [e1]; exact Ar2.1) (State.isArrayOf_alike hZ.alike Ar2.2.1) (g := (mkF m 10 #[.val (.ref o0), .val (.int p1)] [(.ref w_slots_o0), (.int (32 : Int32)), (.int (p1 * (-1640531527 : Int32)))])) rfl rfl (hb hby own_d14_10) _ ?_
      rw [len_of S2 N_2]
      refine st3 _ ?_
      show Steps p.tables e below (T3.setTop (mkF m 14 #[.val (.ref o0), .val (.int p1)] [(.int (4 : Int32)), (.int (32 : Int32)), (.int (p1 * (-1640531527 : Int32)))])) _
      refine XS.isub X3.here hx rfl (hb hby own_d14_14) rfl ?_
      refine XS.iushr X3.here hx rfl (hb hby own_d14_15) rfl ?_
      exact k)
  obtain ⟨fs, hr, hrun, hended, hW, hsame⟩ := X3.leave (v := some (.int (((p1 * (-1640531527 : Int32)).toUInt32 >>> ((28 : Int32) &&& 31).toUInt32).toInt32))) (fun h => by rw [Bd.returns] at h; cases h) (hlocks := hlk)
  refine ⟨_, _, pre5 _ ?_, hrun, hended, _, _, rfl, ?_, ⟨_, rfl⟩, hW, hsame.mono (by decide) (by decide)⟩
  · show Steps p.tables e below (T3.setTop (mkF m 16 #[.val (.ref o0), .val (.int p1)] [(.int (((p1 * (-1640531527 : Int32)).toUInt32 >>> ((28 : Int32) &&& 31).toUInt32).toInt32))])) _
    exact retI X3 hx Bd.returns (hb hby own_d14_16) hr
  · show own_Q14 Z o0 p1 w_slots_o0 k_s vs_s h0 n0 _ T3.heap _; rw [e3]; exact ⟨(by show some (Value.int _) = some (.int (own_f14 p1)); unfold own_f14; rfl), N4, rfl⟩
theorem own_d12_0 : decode jdk_43_method_21_code 0 = .ok (.aload_n 0, 1) := by decide +kernel
theorem own_d12_1 : decode jdk_43_method_21_code 1 = .ok (.arraylength, 1) := by decide +kernel
theorem own_d12_2 : decode jdk_43_method_21_code 2 = .ok (.lookupswitch 40 #[(0, 26), (1, 30)], 26) := by decide +kernel
theorem own_d12_32 : decode jdk_43_method_21_code 32 = .ok (.aload_n 0, 1) := by decide +kernel
theorem own_d12_33 : decode jdk_43_method_21_code 33 = .ok (.iconst 0, 1) := by decide +kernel
theorem own_d12_34 : decode jdk_43_method_21_code 34 = .ok (.baload, 1) := by decide +kernel
theorem own_d12_35 : decode jdk_43_method_21_code 35 = .ok (.sipush 255, 3) := by decide +kernel
theorem own_d12_38 : decode jdk_43_method_21_code 38 = .ok (.iand, 1) := by decide +kernel
theorem own_d12_39 : decode jdk_43_method_21_code 39 = .ok (.goto 12, 3) := by decide +kernel
theorem own_d12_51 : decode jdk_43_method_21_code 51 = .ok (.ireturn, 1) := by decide +kernel
theorem own_pn12 : plainName "java/lang/StringLatin1" = true := by first | (simp [plainName, overriddenIn]; done) | decide +kernel
theorem own_ef12 (m : MethodId) (x0 : Addr) : entryFrame m #[(.ref x0)] 1 = (mkF m 0 #[.val (.ref x0)] []) := by first | (simp [entryFrame, mkF, argsToLocals, Value.category]; done) | rfl
def own_Q12 (Z : State) (o0 : Addr) (k_c : ClassId) (cc : Int32) (h0 : Heap) (n0 : Nat) (v : Option Value) (h : Heap) (L : List Loc) : Prop := v = some (.int (cc &&& (255 : Int32))) ∧ Fr n0 L ∧ h = h0
set_option maxRecDepth 65536 in
set_option maxHeartbeats 40000000 in
theorem own_rm12 (l : Launch) (Z : State) (a0 : Array Value) (hw : ∀ d ∈ tables_1, d.before a0 Z = true) (ws : List Jvm.Cond) (o0 : Addr) (k_c : ClassId) (cc : Int32) (h0 : Heap) (n0 : Nat) (Z0 : n0 ≤ h0.size) (P_V_o0 : Arv Z h0 o0 k_c .byte (1 : Int32) [(.int cc)] (.int (0 : Int32))) :
    MetFree l (⟨"java/lang/StringLatin1", "hashCode", "([B)I"⟩ : MethodName) (head1 (Jvm.Cond.code (⟨"java/lang/StringLatin1", "hashCode", "([B)I"⟩ : MethodName) jdk_43_method_21_code 1 (some .int) :: ws) ({ frames := 0, cells := 0, slots := 0, locals := 0 } : Room)) (fun a U => a = #[(.ref o0)] ∧ Z.Warmed39 U.vm ∧ U.heap = h0) (fun _ _ _ _ _ => True) (fun _ U o U' => ∃ v L, o = .returned v ∧ own_Q12 Z o0 k_c cc h0 n0 v U'.heap L ∧ FrameEnd U o U' L ({ frames := 0, cells := 0, slots := 0, locals := 0 } : Room).cells ({ frames := 0, cells := 0, slots := 0, locals := 0 } : Room).slots) := by
  refine MetFree.of_bodySF (plainFor_of_name own_pn12) hisR ?_
  intro p e s m args below meth c s₁ Bd hml0 hP hK
  obtain ⟨rfl, hZ, hh⟩ := hP
  have hx := Bd.exec
  have hlk : meth.locks = false := BodyLoose.notSynchronized Bd
  have hby := Bd.bytes
  have hml : c.maxLocals = 1 := hml0
  have hown : s.vm.findClass "java/lang/StringLatin1" = some m.cls := findClass_of_methodNamed Bd.named
  have hnm := (name_of_methodNamed Bd.named Bd.method).1
  have X0 : Stand p l e ({ frames := 0, cells := 0, slots := 0, locals := 0 } : Room) s m #[(.ref o0)] below meth c s₁ [] 0 0 := Stand.of_body Bd
  have e0 : s₁.heap = h0 := by rw [← hh, Bd.state]; rfl
  have N0 := Fr.nil n0
  have pre0 : ∀ t, Steps p.tables e below (s₁.setTop (mkF m 0 #[.val (.ref o0)] [])) t → Steps p.tables e below (s₁.setTop (entryFrame m #[(.ref o0)] 1)) t := fun t k => castTop (own_ef12 m o0) k
  obtain ⟨cl1, Ar1, q1, S1, N_1, Ha1, G1⟩ := id P_V_o0
  have pre2 : ∀ t, Steps p.tables e below (s₁.setTop (mkF m 2 #[.val (.ref o0)] [(.int (1 : Int32))])) t → Steps p.tables e below (s₁.setTop (entryFrame m #[(.ref o0)] 1)) t := fun t k => pre0 t (by
      refine XS.aloadN X0.here hx rfl (hb hby own_d12_0) rfl rfl ?_
      show Steps p.tables e below (s₁.setTop (mkF m 1 #[.val (.ref o0)] [(.ref o0)])) _
      refine X0.arraylength hx (by rw [e0]; exact Ar1.1) (State.isArrayOf_alike hZ.alike Ar1.2.1) (g := (mkF m 1 #[.val (.ref o0)] [(.ref o0)])) rfl rfl (hb hby own_d12_1) _ ?_
      rw [len_of S1 N_1]
      exact k)
  obtain ⟨cl3, Ar3, q3, S3, N_3, Ha3, G3⟩ := id P_V_o0
  have hin3 : ¬ ((0 : Int32) < 0 ∨ cl3.slots.size ≤ ((0 : Int32)).toNatClampNeg) := inb_of S3 ⟨by decide, by decide⟩
  have pre4 : ∀ t, Steps p.tables e below (s₁.setTop (mkF m 51 #[.val (.ref o0)] [(.int (cc &&& (255 : Int32)))])) t → Steps p.tables e below (s₁.setTop (entryFrame m #[(.ref o0)] 1)) t := fun t k => pre2 t (by
      refine X0.lookupswitchHit hx (g := (mkF m 2 #[.val (.ref o0)] [(.int (1 : Int32))])) rfl (k := (1 : Int32)) (rest := []) rfl (hb hby own_d12_2) (by decide) (a := 1) (off := 30) (by rw [(rfl : (1 : Int32) = (1 : Int32))]; rfl) (show (0 : Int) ≤ ((2 : Nat) : Int) + 30 from by decide) _ ?_
      show Steps p.tables e below (s₁.setTop (mkF m 32 #[.val (.ref o0)] [])) _
      refine XS.aloadN X0.here hx rfl (hb hby own_d12_32) rfl rfl ?_
      refine XS.iconst X0.here hx rfl (hb hby own_d12_33) ?_
      refine X0.baloadBytes hx (j := (0 : Int32)) (v := (.int cc)) (by rw [e0]; exact Ar3.1) (State.isArrayOf_alike hZ.alike Ar3.2.1) Ar3.2.2 hin3 (Has.at Ha3 hin3 (rfl : (_ : Value) = (.int cc))) (g := (mkF m 34 #[.val (.ref o0)] [(.int (0 : Int32)), (.ref o0)])) rfl rfl (hb hby own_d12_34) _ ?_
      refine XS.sipush X0.here hx rfl (hb hby own_d12_35) ?_
      show Steps p.tables e below (s₁.setTop (mkF m 38 #[.val (.ref o0)] [(.int (255 : Int32)), (.int cc)])) _
      refine XS.iand X0.here hx rfl (hb hby own_d12_38) rfl ?_
      refine XS.goto X0.here hx rfl (pc0 := 39) (pc' := 51) rfl (hb hby own_d12_39) (by decide) (by decide) ?_
      exact k)
  obtain ⟨fs, hr, hrun, hended, hW, hsame⟩ := X0.leave (v := some (.int (cc &&& (255 : Int32)))) (fun h => by rw [Bd.returns] at h; cases h) (hlocks := hlk)
  refine ⟨_, _, pre4 _ ?_, hrun, hended, _, _, rfl, ?_, ⟨_, rfl⟩, hW, hsame.mono (by decide) (by decide)⟩
  · show Steps p.tables e below (s₁.setTop (mkF m 51 #[.val (.ref o0)] [(.int (cc &&& (255 : Int32)))])) _
    exact retI X0 hx Bd.returns (hb hby own_d12_51) hr
  · show own_Q12 Z o0 k_c cc h0 n0 _ s₁.heap _; rw [e0]; exact ⟨rfl, N0, rfl⟩
theorem own_d11_0 : decode jdk_42_method_154_code 0 = .ok (.getstatic 38, 3) := by decide +kernel
theorem own_d11_3 : decode jdk_42_method_154_code 3 = .ok (.ifCond .eq 14, 3) := by decide +kernel
theorem own_d11_6 : decode jdk_42_method_154_code 6 = .ok (.aload_n 0, 1) := by decide +kernel
theorem own_d11_7 : decode jdk_42_method_154_code 7 = .ok (.getfield 15, 3) := by decide +kernel
theorem own_d11_10 : decode jdk_42_method_154_code 10 = .ok (.ifCond .ne 7, 3) := by decide +kernel
theorem own_d11_13 : decode jdk_42_method_154_code 13 = .ok (.iconst 1, 1) := by decide +kernel
theorem own_d11_14 : decode jdk_42_method_154_code 14 = .ok (.goto 4, 3) := by decide +kernel
theorem own_d11_18 : decode jdk_42_method_154_code 18 = .ok (.ireturn, 1) := by decide +kernel
theorem own_pn11 : plainName "java/lang/String" = true := by first | (simp [plainName, overriddenIn]; done) | decide +kernel
theorem own_ef11 (m : MethodId) (x0 : Addr) : entryFrame m #[(.ref x0)] 1 = (mkF m 0 #[.val (.ref x0)] []) := by first | (simp [entryFrame, mkF, argsToLocals, Value.category]; done) | rfl
def own_Q11 (Z : State) (o0 : Addr) (z_COMPACT_STRINGS : Int32) (h0 : Heap) (n0 : Nat) (v : Option Value) (h : Heap) (L : List Loc) : Prop := v = some (.int (1 : Int32)) ∧ Fr n0 L ∧ h = h0
set_option maxRecDepth 65536 in
set_option maxHeartbeats 40000000 in
theorem own_rm11 (l : Launch) (Z : State) (a0 : Array Value) (hw : ∀ d ∈ tables_1, d.before a0 Z = true) (ws : List Jvm.Cond) (o0 : Addr) (z_COMPACT_STRINGS : Int32) (h0 : Heap) (n0 : Nat) (Z0 : n0 ≤ h0.size) (HC : ¬ (z_COMPACT_STRINGS = (0 : Int32))) (P_F_o0_coder : Fld Z h0 o0 "java/lang/String" "coder" "B" (.int (0 : Int32))) (P_S_java_lang_String_COMPACT_STRINGS : Sta Z h0 "java/lang/String" "COMPACT_STRINGS" "Z" (.int z_COMPACT_STRINGS)) :
    MetFree l (⟨"java/lang/String", "isLatin1", "()Z"⟩ : MethodName) (head1 (Jvm.Cond.code (⟨"java/lang/String", "isLatin1", "()Z"⟩ : MethodName) jdk_42_method_154_code 1 (some .boolean) :: ws) ({ frames := 0, cells := 0, slots := 0, locals := 0 } : Room)) (fun a U => a = #[(.ref o0)] ∧ Z.Warmed39 U.vm ∧ U.heap = h0) (fun _ _ _ _ _ => True) (fun _ U o U' => ∃ v L, o = .returned v ∧ own_Q11 Z o0 z_COMPACT_STRINGS h0 n0 v U'.heap L ∧ FrameEnd U o U' L ({ frames := 0, cells := 0, slots := 0, locals := 0 } : Room).cells ({ frames := 0, cells := 0, slots := 0, locals := 0 } : Room).slots) := by
  refine MetFree.of_bodySF (plainFor_of_name own_pn11) hisR ?_
  intro p e s m args below meth c s₁ Bd hml0 hP hK
  obtain ⟨rfl, hZ, hh⟩ := hP
  have hx := Bd.exec
  have hlk : meth.locks = false := BodyLoose.notSynchronized Bd
  have hby := Bd.bytes
  have hml : c.maxLocals = 1 := hml0
  have hown : s.vm.findClass "java/lang/String" = some m.cls := findClass_of_methodNamed Bd.named
  have hnm := (name_of_methodNamed Bd.named Bd.method).1
  have X0 : Stand p l e ({ frames := 0, cells := 0, slots := 0, locals := 0 } : Room) s m #[(.ref o0)] below meth c s₁ [] 0 0 := Stand.of_body Bd
  have e0 : s₁.heap = h0 := by rw [← hh, Bd.state]; rfl
  have N0 := Fr.nil n0
  have pre0 : ∀ t, Steps p.tables e below (s₁.setTop (mkF m 0 #[.val (.ref o0)] [])) t → Steps p.tables e below (s₁.setTop (entryFrame m #[(.ref o0)] 1)) t := fun t k => castTop (own_ef11 m o0) k
  obtain ⟨T1, X1, e1, st1⟩ := getS2 X0 hx hZ hown (host := "") (Or.inl (hw _ (List.mem_of_getElem? (i := 4) rfl))) Via.refl e0 P_S_java_lang_String_COMPACT_STRINGS (g := (mkF m 0 #[.val (.ref o0)] [])) rfl (hb hby own_d11_0)
  obtain ⟨T2, X2, e2, st2⟩ := getF X1 hx hZ hown (host := "") (Or.inl (hw _ (List.mem_of_getElem? (i := 24) rfl))) Via.refl e1 P_F_o0_coder (g := (mkF m 7 #[.val (.ref o0)] [(.ref o0)])) rfl rfl (hb hby own_d11_7)
  have pre3 : ∀ t, Steps p.tables e below (T2.setTop (mkF m 18 #[.val (.ref o0)] [(.int (1 : Int32))])) t → Steps p.tables e below (s₁.setTop (entryFrame m #[(.ref o0)] 1)) t := fun t k => pre0 t (by
      refine st1 _ ?_
      show Steps p.tables e below (T1.setTop (mkF m 3 #[.val (.ref o0)] [(.int z_COMPACT_STRINGS)])) _
      refine XS.ifNo X1.here hx rfl (hb hby own_d11_3) rfl ((if0 _ _).trans (feq HC).1) ?_
      refine XS.aloadN X1.here hx rfl (hb hby own_d11_6) rfl rfl ?_
      refine st2 _ ?_
      show Steps p.tables e below (T2.setTop (mkF m 10 #[.val (.ref o0)] [(.int (0 : Int32))])) _
      refine XS.ifNo X2.here hx rfl (hb hby own_d11_10) rfl ((if0 _ _).trans (teq (by decide : (0 : Int32) = (0 : Int32))).2) ?_
      refine XS.iconst X2.here hx rfl (hb hby own_d11_13) ?_
      refine XS.goto X2.here hx rfl (pc0 := 14) (pc' := 18) rfl (hb hby own_d11_14) (by decide) (by decide) ?_
      exact k)
  obtain ⟨fs, hr, hrun, hended, hW, hsame⟩ := X2.leave (v := some (.int (1 : Int32))) (fun h => by rw [Bd.returns] at h; cases h) (hlocks := hlk)
  refine ⟨_, _, pre3 _ ?_, hrun, hended, _, _, rfl, ?_, ⟨_, rfl⟩, hW, hsame.mono (by decide) (by decide)⟩
  · show Steps p.tables e below (T2.setTop (mkF m 18 #[.val (.ref o0)] [(.int (1 : Int32))])) _
    exact retN X2 hx (t := .boolean) Bd.returns (by simp) (hb hby own_d11_18) hr
  · show own_Q11 Z o0 z_COMPACT_STRINGS h0 n0 _ T2.heap _; rw [e2]; exact ⟨rfl, N0, rfl⟩
theorem own_pd5 : parseMethodDescriptor "()Z" = some ⟨[], some .boolean⟩ := by decide +kernel
theorem own_pd6 : parseMethodDescriptor "([B)I" = some ⟨[(.array .byte)], some .int⟩ := by decide +kernel
theorem own_d10_0 : decode jdk_42_method_78_code 0 = .ok (.aload_n 0, 1) := by decide +kernel
theorem own_d10_1 : decode jdk_42_method_78_code 1 = .ok (.getfield 19, 3) := by decide +kernel
theorem own_d10_4 : decode jdk_42_method_78_code 4 = .ok (.istore_n 1, 1) := by decide +kernel
theorem own_d10_5 : decode jdk_42_method_78_code 5 = .ok (.iload_n 1, 1) := by decide +kernel
theorem own_d10_6 : decode jdk_42_method_78_code 6 = .ok (.ifCond .ne 52, 3) := by decide +kernel
theorem own_d10_9 : decode jdk_42_method_78_code 9 = .ok (.aload_n 0, 1) := by decide +kernel
theorem own_d10_10 : decode jdk_42_method_78_code 10 = .ok (.getfield 23, 3) := by decide +kernel
theorem own_d10_13 : decode jdk_42_method_78_code 13 = .ok (.ifCond .ne 45, 3) := by decide +kernel
theorem own_d10_16 : decode jdk_42_method_78_code 16 = .ok (.aload_n 0, 1) := by decide +kernel
theorem own_d10_17 : decode jdk_42_method_78_code 17 = .ok (.invokevirtual 492, 3) := by decide +kernel
theorem own_d10_20 : decode jdk_42_method_78_code 20 = .ok (.ifCond .eq 13, 3) := by decide +kernel
theorem own_d10_23 : decode jdk_42_method_78_code 23 = .ok (.aload_n 0, 1) := by decide +kernel
theorem own_d10_24 : decode jdk_42_method_78_code 24 = .ok (.getfield 9, 3) := by decide +kernel
theorem own_d10_27 : decode jdk_42_method_78_code 27 = .ok (.invokestatic 628, 3) := by decide +kernel
theorem own_d10_30 : decode jdk_42_method_78_code 30 = .ok (.goto 10, 3) := by decide +kernel
theorem own_d10_40 : decode jdk_42_method_78_code 40 = .ok (.istore_n 1, 1) := by decide +kernel
theorem own_d10_41 : decode jdk_42_method_78_code 41 = .ok (.iload_n 1, 1) := by decide +kernel
theorem own_d10_42 : decode jdk_42_method_78_code 42 = .ok (.ifCond .ne 11, 3) := by decide +kernel
theorem own_d10_45 : decode jdk_42_method_78_code 45 = .ok (.aload_n 0, 1) := by decide +kernel
theorem own_d10_46 : decode jdk_42_method_78_code 46 = .ok (.iconst 1, 1) := by decide +kernel
theorem own_d10_47 : decode jdk_42_method_78_code 47 = .ok (.putfield 23, 3) := by decide +kernel
theorem own_d10_50 : decode jdk_42_method_78_code 50 = .ok (.goto 8, 3) := by decide +kernel
theorem own_d10_53 : decode jdk_42_method_78_code 53 = .ok (.aload_n 0, 1) := by decide +kernel
theorem own_d10_54 : decode jdk_42_method_78_code 54 = .ok (.iload_n 1, 1) := by decide +kernel
theorem own_d10_55 : decode jdk_42_method_78_code 55 = .ok (.putfield 19, 3) := by decide +kernel
theorem own_d10_58 : decode jdk_42_method_78_code 58 = .ok (.iload_n 1, 1) := by decide +kernel
theorem own_d10_59 : decode jdk_42_method_78_code 59 = .ok (.ireturn, 1) := by decide +kernel
theorem own_pn10 : plainName "java/lang/String" = true := by first | (simp [plainName, overriddenIn]; done) | decide +kernel
theorem own_ef10 (m : MethodId) (x0 : Addr) : entryFrame m #[(.ref x0)] 2 = (mkF m 0 #[.val (.ref x0), .unset] []) := by first | (simp [entryFrame, mkF, argsToLocals, Value.category]; done) | rfl
def own_f10 (w_hash_o0 : Int32) (w_hashIsZero_o0 : Int32) (cc : Int32) : Int32 := (if w_hash_o0 = (0 : Int32) then (if w_hashIsZero_o0 = (0 : Int32) then (if (cc &&& (255 : Int32)) = (0 : Int32) then (cc &&& (255 : Int32)) else (cc &&& (255 : Int32))) else w_hash_o0) else w_hash_o0)
def own_ok (h z c : Int32) : Prop := own_f10 h z c = c &&& (255 : Int32)
theorem own_okA (z c : Int32) : own_ok (c &&& (255 : Int32)) z c := by
  unfold own_ok own_f10
  repeat' (first | rfl | split)
theorem own_okB (c : Int32) (h : c &&& (255 : Int32) = (0 : Int32)) : own_ok (0 : Int32) (1 : Int32) c := by
  unfold own_ok own_f10
  rw [if_pos rfl, if_neg (by decide), h]
def own_Q10 (Z : State) (o0 : Addr) (w_hash_o0 : Int32) (w_hashIsZero_o0 : Int32) (z_COMPACT_STRINGS : Int32) (w_value_o0 : Addr) (k_c : ClassId) (cc : Int32) (h0 : Heap) (n0 : Nat) (v : Option Value) (h : Heap) (L : List Loc) : Prop := ∃ hq_o0 zq_o0 : Int32, v = some (.int (cc &&& (255 : Int32))) ∧ Fr n0 L ∧ Keep h0 h [o0] ∧ Fld Z h o0 "java/lang/String" "coder" "B" (.int (0 : Int32)) ∧ Exa Z h o0 "java/lang/String" ∧ Fld Z h o0 "java/lang/String" "value" "[B" (.ref w_value_o0) ∧ Fld Z h o0 "java/lang/String" "hash" "I" (.int hq_o0) ∧ Fld Z h o0 "java/lang/String" "hashIsZero" "Z" (.int zq_o0) ∧ own_ok hq_o0 zq_o0 cc
set_option maxRecDepth 65536 in
set_option maxHeartbeats 40000000 in
theorem own_rm10 (l : Launch) (Z : State) (a0 : Array Value) (hw : ∀ d ∈ tables_1, d.before a0 Z = true) (ws : List Jvm.Cond) (o0 : Addr) (w_hash_o0 : Int32) (w_hashIsZero_o0 : Int32) (z_COMPACT_STRINGS : Int32) (w_value_o0 : Addr) (k_c : ClassId) (cc : Int32) (h0 : Heap) (n0 : Nat) (Z0 : n0 ≤ h0.size) (Hk : own_ok w_hash_o0 w_hashIsZero_o0 cc) (P_F_o0_hash : Fld Z h0 o0 "java/lang/String" "hash" "I" (.int w_hash_o0)) (P_F_o0_hashIsZero : Fld Z h0 o0 "java/lang/String" "hashIsZero" "Z" (.int w_hashIsZero_o0)) (P_F_o0_coder : Fld Z h0 o0 "java/lang/String" "coder" "B" (.int (0 : Int32))) (P_S_java_lang_String_COMPACT_STRINGS : Sta Z h0 "java/lang/String" "COMPACT_STRINGS" "Z" (.int z_COMPACT_STRINGS)) (HC_5 : ¬ (z_COMPACT_STRINGS = (0 : Int32))) (P_E_o0 : Exa Z h0 o0 "java/lang/String") (P_F_o0_value : Fld Z h0 o0 "java/lang/String" "value" "[B" (.ref w_value_o0)) (P_V_w_value_o0 : Arv Z h0 w_value_o0 k_c .byte (1 : Int32) [(.int cc)] (.int (0 : Int32))) (G_o0 : n0 ≤ o0) :
    MetFree l (⟨"java/lang/String", "hashCode", "()I"⟩ : MethodName) (head1 (Jvm.Cond.code (⟨"java/lang/String", "hashCode", "()I"⟩ : MethodName) jdk_42_method_78_code 2 (some .int) :: ws) ({ frames := 1, cells := 0, slots := 0, locals := 12 } : Room)) (fun a U => a = #[(.ref o0)] ∧ Z.Warmed39 U.vm ∧ U.heap = h0) (fun _ _ _ _ _ => True) (fun _ U o U' => ∃ v L, o = .returned v ∧ own_Q10 Z o0 w_hash_o0 w_hashIsZero_o0 z_COMPACT_STRINGS w_value_o0 k_c cc h0 n0 v U'.heap L ∧ FrameEnd U o U' L ({ frames := 1, cells := 0, slots := 0, locals := 12 } : Room).cells ({ frames := 1, cells := 0, slots := 0, locals := 12 } : Room).slots) := by
  refine MetFree.of_bodySF (plainFor_of_name own_pn10) hisR ?_
  intro p e s m args below meth c s₁ Bd hml0 hP hK
  obtain ⟨rfl, hZ, hh⟩ := hP
  have hx := Bd.exec
  have hlk : meth.locks = false := BodyLoose.notSynchronized Bd
  have hby := Bd.bytes
  have hml : c.maxLocals = 2 := hml0
  have hown : s.vm.findClass "java/lang/String" = some m.cls := findClass_of_methodNamed Bd.named
  have hnm := (name_of_methodNamed Bd.named Bd.method).1
  have X0 : Stand p l e ({ frames := 1, cells := 0, slots := 0, locals := 12 } : Room) s m #[(.ref o0)] below meth c s₁ [] 0 0 := Stand.of_body Bd
  have e0 : s₁.heap = h0 := by rw [← hh, Bd.state]; rfl
  have N0 := Fr.nil n0
  have pre0 : ∀ t, Steps p.tables e below (s₁.setTop (mkF m 0 #[.val (.ref o0), .unset] [])) t → Steps p.tables e below (s₁.setTop (entryFrame m #[(.ref o0)] 2)) t := fun t k => castTop (own_ef10 m o0) k
  obtain ⟨T1, X1, e1, st1⟩ := getF X0 hx hZ hown (host := "") (Or.inl (hw _ (List.mem_of_getElem? (i := 71) rfl))) Via.refl e0 P_F_o0_hash (g := (mkF m 1 #[.val (.ref o0), .unset] [(.ref o0)])) rfl rfl (hb hby own_d10_1)
  have pre2 : ∀ t, Steps p.tables e below (T1.setTop (mkF m 6 #[.val (.ref o0), .val (.int w_hash_o0)] [(.int w_hash_o0)])) t → Steps p.tables e below (s₁.setTop (entryFrame m #[(.ref o0)] 2)) t := fun t k => pre0 t (by
      refine XS.aloadN X0.here hx rfl (hb hby own_d10_0) rfl rfl ?_
      show Steps p.tables e below (s₁.setTop (mkF m 1 #[.val (.ref o0), .unset] [(.ref o0)])) _
      refine st1 _ ?_
      show Steps p.tables e below (T1.setTop (mkF m 4 #[.val (.ref o0), .unset] [(.int w_hash_o0)])) _
      refine XS.istoreN X1.here hx rfl (hb hby own_d10_4) rfl (l' := #[.val (.ref o0), .val (.int w_hash_o0)]) rfl ?_
      refine XS.iloadN X1.here hx rfl (hb hby own_d10_5) rfl ?_
      exact k)
  by_cases hc3 : w_hash_o0 = (0 : Int32)
  · obtain ⟨T4, X4, e4, st4⟩ := getF X1 hx hZ hown (host := "") (Or.inl (hw _ (List.mem_of_getElem? (i := 73) rfl))) Via.refl e1 P_F_o0_hashIsZero (g := (mkF m 10 #[.val (.ref o0), .val (.int w_hash_o0)] [(.ref o0)])) rfl rfl (hb hby own_d10_10)
    have pre5 : ∀ t, Steps p.tables e below (T4.setTop (mkF m 13 #[.val (.ref o0), .val (.int w_hash_o0)] [(.int w_hashIsZero_o0)])) t → Steps p.tables e below (s₁.setTop (entryFrame m #[(.ref o0)] 2)) t := fun t k => pre2 t (by
        refine XS.ifNo X1.here hx rfl (hb hby own_d10_6) rfl ((if0 _ _).trans (teq hc3).2) ?_
        show Steps p.tables e below (T1.setTop (mkF m 9 #[.val (.ref o0), .val (.int w_hash_o0)] [])) _
        refine XS.aloadN X1.here hx rfl (hb hby own_d10_9) rfl rfl ?_
        refine st4 _ ?_
        show Steps p.tables e below (T4.setTop (mkF m 13 #[.val (.ref o0), .val (.int w_hash_o0)] [(.int w_hashIsZero_o0)])) _
        exact k)
    by_cases hc6 : w_hashIsZero_o0 = (0 : Int32)
    · obtain ⟨cq7, kq7, q7a, q7b, q7c⟩ := isOf hZ e4 P_E_o0
      obtain ⟨_, _, ⟨T7, L7, k7, n7⟩, -, X7, ⟨Lc7, hQ7, l7, y7, z7⟩, st7⟩ := X4.virtualBack hx (y := (⟨"java/lang/String", "isLatin1", "()Z"⟩ : MethodName)) (z := (⟨"java/lang/String", "isLatin1", "()Z"⟩ : MethodName)) hown (mvT hZ (hw _ (List.mem_of_getElem? (i := 75) rfl))) (mvT hZ (hw _ (List.mem_of_getElem? (i := 76) rfl))) (notFace_of_selects (args := #[]) (mvT hZ (hw _ (List.mem_of_getElem? (i := 78) rfl)))) (mvT hZ (hw _ (List.mem_of_getElem? (i := 78) rfl))) (mvT hZ (hw _ (List.mem_of_getElem? (i := 77) rfl))) (by decide) (backOf (W := 0) (own_rm11 l Z a0 hw [] o0 z_COMPACT_STRINGS h0 n0 Z0 HC_5 P_F_o0_coder P_S_java_lang_String_COMPACT_STRINGS) hZ (hw _ (List.mem_of_getElem? (i := 79) rfl)) (hw _ (List.mem_of_getElem? (i := 2) rfl)) (by decide) (by decide)) q7a q7c (g := (mkF m 17 #[.val (.ref o0), .val (.int w_hash_o0)] [(.ref o0)])) rfl (by rw [hml]; rfl) (Steps.refl _) (argsL := []) (rest := []) (lenOf own_pd5 rfl) rfl (by show 2 * 0 + _ ≤ _; exact Nat.le_of_eq rfl) (hb hby own_d10_17) (fun _ _ => ⟨rfl, e4, (by decide : 0 + 0 ≤ _), (by decide : 0 + 0 ≤ _)⟩)
      dsimp only [Pt.U, Pt.locs, Pt.cells, Pt.slots] at X7 l7 y7 z7 st7 hQ7
      subst y7 z7
      obtain ⟨rfl, N7q, e7⟩ := hQ7
      have N8 : Fr n0 L7 := by rw [l7]; exact Fr.app N0 N7q
      obtain ⟨T9, X9, e9, st9⟩ := getF X7 hx hZ hown (host := "") (Or.inl (hw _ (List.mem_of_getElem? (i := 22) rfl))) Via.refl e7 P_F_o0_value (g := (mkF m 24 #[.val (.ref o0), .val (.int w_hash_o0)] [(.ref o0)])) rfl rfl (hb hby own_d10_24)
      obtain ⟨_, _, ⟨T10, L10, k10, n10⟩, -, X10, ⟨Lc10, hQ10, l10, y10, z10⟩, st10⟩ := Jvm.LawKit.callS X9 hx (y := (⟨"java/lang/StringLatin1", "hashCode", "([B)I"⟩ : MethodName)) hown (mvT hZ (hw _ (List.mem_of_getElem? (i := 80) rfl))) (mvT hZ (hw _ (List.mem_of_getElem? (i := 81) rfl))) (mvT hZ (hw _ (List.mem_of_getElem? (i := 7) rfl))) (mvT hZ (hw _ (List.mem_of_getElem? (i := 82) rfl))) (by decide) (backOf (W := 0) (own_rm12 l Z a0 hw [] w_value_o0 k_c cc h0 n0 Z0 P_V_w_value_o0) hZ (hw _ (List.mem_of_getElem? (i := 82) rfl)) (hw _ (List.mem_of_getElem? (i := 7) rfl)) (by decide) (by decide)) (g := (mkF m 27 #[.val (.ref o0), .val (.int w_hash_o0)] [(.ref w_value_o0)])) rfl (by rw [hml]; rfl) (argsL := [(.ref w_value_o0)]) (rest := []) (lenOf own_pd6 rfl) rfl (by show 2 * 0 + _ ≤ _; exact Nat.le_of_eq rfl) (hb hby own_d10_27) (fun _ _ => ⟨rfl, e9, (by decide : 0 + 0 ≤ _), (by decide : 0 + 0 ≤ _)⟩)
      dsimp only [Pt.U, Pt.locs, Pt.cells, Pt.slots] at X10 l10 y10 z10 st10 hQ10
      subst y10 z10
      obtain ⟨rfl, N10q, e10⟩ := hQ10
      have N11 : Fr n0 L10 := by rw [l10]; exact Fr.app N8 N10q
      have pre12 : ∀ t, Steps p.tables e below (T10.setTop (mkF m 42 #[.val (.ref o0), .val (.int (cc &&& (255 : Int32)))] [(.int (cc &&& (255 : Int32)))])) t → Steps p.tables e below (s₁.setTop (entryFrame m #[(.ref o0)] 2)) t := fun t k => pre5 t (by
          refine XS.ifNo X4.here hx rfl (hb hby own_d10_13) rfl ((if0 _ _).trans (teq hc6).2) ?_
          show Steps p.tables e below (T4.setTop (mkF m 16 #[.val (.ref o0), .val (.int w_hash_o0)] [])) _
          refine XS.aloadN X4.here hx rfl (hb hby own_d10_16) rfl rfl ?_
          refine st7.trans ?_
          show Steps p.tables e below (T7.setTop (mkF m 20 #[.val (.ref o0), .val (.int w_hash_o0)] [(.int (1 : Int32))])) _
          refine XS.ifNo X7.here hx rfl (hb hby own_d10_20) rfl ((if0 _ _).trans (feq (by decide : ¬ ((1 : Int32) = (0 : Int32)))).1) ?_
          refine XS.aloadN X7.here hx rfl (hb hby own_d10_23) rfl rfl ?_
          refine st9 _ ?_
          show Steps p.tables e below (T9.setTop (mkF m 27 #[.val (.ref o0), .val (.int w_hash_o0)] [(.ref w_value_o0)])) _
          refine st10 _ ?_
          show Steps p.tables e below (T10.setTop (mkF m 30 #[.val (.ref o0), .val (.int w_hash_o0)] [(.int (cc &&& (255 : Int32)))])) _
          refine XS.goto X10.here hx rfl (pc0 := 30) (pc' := 40) rfl (hb hby own_d10_30) (by decide) (by decide) ?_
          refine XS.istoreN X10.here hx rfl (hb hby own_d10_40) rfl (l' := #[.val (.ref o0), .val (.int (cc &&& (255 : Int32)))]) rfl ?_
          refine XS.iloadN X10.here hx rfl (hb hby own_d10_41) rfl ?_
          exact k)
      by_cases hc13 : (cc &&& (255 : Int32)) = (0 : Int32)
      · obtain ⟨T14, h14, X14, e14, W14, st14⟩ := putFN X10 hx hZ hown (hw _ (List.mem_of_getElem? (i := 73) rfl)) Via.refl e10 P_F_o0_hashIsZero P_E_o0 (Or.inl (hw _ (List.mem_of_getElem? (i := 74) rfl))) (hw _ (List.mem_of_getElem? (i := 10) rfl)) (ty := .boolean) (v' := (.int (nar .boolean (1 : Int32)))) (by decide) rfl (fits_nar_bool _) (g := (mkF m 47 #[.val (.ref o0), .val (.int (cc &&& (255 : Int32)))] [(.int (1 : Int32)), (.ref o0)])) rfl rfl (hb hby own_d10_47)
        have f15 : Fld Z h14 o0 "java/lang/String" "hash" "I" (.int w_hash_o0) := P_F_o0_hash.other W14 (Or.inr (slot_ne (Or.inl (hw _ (List.mem_of_getElem? (i := 72) rfl))) (Or.inl (hw _ (List.mem_of_getElem? (i := 74) rfl))) (by decide) (t := .int) (t' := .boolean) (by decide) (by decide)))
        have f16 : Fld Z h14 o0 "java/lang/String" "hashIsZero" "Z" (.int (1 : Int32)) := P_F_o0_hashIsZero.same W14
        have f17 : Fld Z h14 o0 "java/lang/String" "coder" "B" (.int (0 : Int32)) := P_F_o0_coder.other W14 (Or.inr (slot_ne (Or.inr (hw _ (List.mem_of_getElem? (i := 25) rfl))) (Or.inl (hw _ (List.mem_of_getElem? (i := 74) rfl))) (by decide) (t := .byte) (t' := .boolean) (by decide) (by decide)))
        have f18 : Sta Z h14 "java/lang/String" "COMPACT_STRINGS" "Z" (.int z_COMPACT_STRINGS) := P_S_java_lang_String_COMPACT_STRINGS.wr W14
        have f19 : Exa Z h14 o0 "java/lang/String" := P_E_o0.wr W14
        have f20 : Fld Z h14 o0 "java/lang/String" "value" "[B" (.ref w_value_o0) := P_F_o0_value.other W14 (Or.inr (slot_ne (Or.inr (hw _ (List.mem_of_getElem? (i := 23) rfl))) (Or.inl (hw _ (List.mem_of_getElem? (i := 74) rfl))) (by decide) (t := (.array .byte)) (t' := .boolean) (by decide) (by decide)))
        have f21 : Arv Z h14 w_value_o0 k_c .byte (1 : Int32) [(.int cc)] (.int (0 : Int32)) := P_V_w_value_o0.other W14 (Ne.symm (Exa.neArv P_E_o0 P_V_w_value_o0 (hw _ (List.mem_of_getElem? (i := 10) rfl))))
        have zs22 : n0 ≤ h14.size := Nat.le_trans Z0 (Keep.of_wr W14).1
        have N23 := Fr.snoc X14 N11 G_o0
        have K24 : Keep h0 h0 [o0] := Keep.refl h0 [o0]
        have K25 : Keep h0 h14 [o0] := K24.wr W14 (Or.inl (by simp))
        have pre26 : ∀ t, Steps p.tables e below (T14.setTop (mkF m 59 #[.val (.ref o0), .val (.int (cc &&& (255 : Int32)))] [(.int (cc &&& (255 : Int32)))])) t → Steps p.tables e below (s₁.setTop (entryFrame m #[(.ref o0)] 2)) t := fun t k => pre12 t (by
            refine XS.ifNo X10.here hx rfl (hb hby own_d10_42) rfl ((if0 _ _).trans (teq hc13).2) ?_
            show Steps p.tables e below (T10.setTop (mkF m 45 #[.val (.ref o0), .val (.int (cc &&& (255 : Int32)))] [])) _
            refine XS.aloadN X10.here hx rfl (hb hby own_d10_45) rfl rfl ?_
            refine XS.iconst X10.here hx rfl (hb hby own_d10_46) ?_
            refine st14 _ ?_
            show Steps p.tables e below (T14.setTop (mkF m 50 #[.val (.ref o0), .val (.int (cc &&& (255 : Int32)))] [])) _
            refine XS.goto X14.here hx rfl (pc0 := 50) (pc' := 58) rfl (hb hby own_d10_50) (by decide) (by decide) ?_
            refine XS.iloadN X14.here hx rfl (hb hby own_d10_58) rfl ?_
            exact k)
        obtain ⟨fs, hr, hrun, hended, hW, hsame⟩ := X14.leave (v := some (.int (cc &&& (255 : Int32)))) (fun h => by rw [Bd.returns] at h; cases h) (hlocks := hlk)
        refine ⟨_, _, pre26 _ ?_, hrun, hended, _, _, rfl, ?_, ⟨_, rfl⟩, hW, hsame.mono (by decide) (by decide)⟩
        · show Steps p.tables e below (T14.setTop (mkF m 59 #[.val (.ref o0), .val (.int (cc &&& (255 : Int32)))] [(.int (cc &&& (255 : Int32)))])) _
          exact retI X14 hx Bd.returns (hb hby own_d10_59) hr
        · show own_Q10 Z o0 w_hash_o0 w_hashIsZero_o0 z_COMPACT_STRINGS w_value_o0 k_c cc h0 n0 _ T14.heap _; rw [e14]; exact ⟨w_hash_o0, (1 : Int32), (congrArg (fun q => some (Value.int q)) ((show (cc &&& (255 : Int32)) = (own_f10 w_hash_o0 w_hashIsZero_o0 cc) from by unfold own_f10; rw [if_pos hc3, if_pos hc6, if_pos hc13]).trans Hk)), N23, K25, f17, f19, f20, f15, f16, (by rw [hc3]; exact own_okB cc hc13)⟩
      · obtain ⟨T27, h27, X27, e27, W27, st27⟩ := putF X10 hx hZ hown (host := "") (Or.inl (hw _ (List.mem_of_getElem? (i := 71) rfl))) Via.refl e10 P_F_o0_hash P_E_o0 (Or.inl (hw _ (List.mem_of_getElem? (i := 72) rfl))) (hw _ (List.mem_of_getElem? (i := 10) rfl)) (ty := .int) (by decide) rfl rfl (g := (mkF m 55 #[.val (.ref o0), .val (.int (cc &&& (255 : Int32)))] [(.int (cc &&& (255 : Int32))), (.ref o0)])) rfl rfl (hb hby own_d10_55)
        have f28 : Fld Z h27 o0 "java/lang/String" "hash" "I" (.int (cc &&& (255 : Int32))) := P_F_o0_hash.same W27
        have f29 : Fld Z h27 o0 "java/lang/String" "hashIsZero" "Z" (.int w_hashIsZero_o0) := P_F_o0_hashIsZero.other W27 (Or.inr (slot_ne (Or.inl (hw _ (List.mem_of_getElem? (i := 74) rfl))) (Or.inl (hw _ (List.mem_of_getElem? (i := 72) rfl))) (by decide) (t := .boolean) (t' := .int) (by decide) (by decide)))
        have f30 : Fld Z h27 o0 "java/lang/String" "coder" "B" (.int (0 : Int32)) := P_F_o0_coder.other W27 (Or.inr (slot_ne (Or.inr (hw _ (List.mem_of_getElem? (i := 25) rfl))) (Or.inl (hw _ (List.mem_of_getElem? (i := 72) rfl))) (by decide) (t := .byte) (t' := .int) (by decide) (by decide)))
        have f31 : Sta Z h27 "java/lang/String" "COMPACT_STRINGS" "Z" (.int z_COMPACT_STRINGS) := P_S_java_lang_String_COMPACT_STRINGS.wr W27
        have f32 : Exa Z h27 o0 "java/lang/String" := P_E_o0.wr W27
        have f33 : Fld Z h27 o0 "java/lang/String" "value" "[B" (.ref w_value_o0) := P_F_o0_value.other W27 (Or.inr (slot_ne (Or.inr (hw _ (List.mem_of_getElem? (i := 23) rfl))) (Or.inl (hw _ (List.mem_of_getElem? (i := 72) rfl))) (by decide) (t := (.array .byte)) (t' := .int) (by decide) (by decide)))
        have f34 : Arv Z h27 w_value_o0 k_c .byte (1 : Int32) [(.int cc)] (.int (0 : Int32)) := P_V_w_value_o0.other W27 (Ne.symm (Exa.neArv P_E_o0 P_V_w_value_o0 (hw _ (List.mem_of_getElem? (i := 10) rfl))))
        have zs35 : n0 ≤ h27.size := Nat.le_trans Z0 (Keep.of_wr W27).1
        have N36 := Fr.snoc X27 N11 G_o0
        have K37 : Keep h0 h0 [o0] := Keep.refl h0 [o0]
        have K38 : Keep h0 h27 [o0] := K37.wr W27 (Or.inl (by simp))
        have pre39 : ∀ t, Steps p.tables e below (T27.setTop (mkF m 59 #[.val (.ref o0), .val (.int (cc &&& (255 : Int32)))] [(.int (cc &&& (255 : Int32)))])) t → Steps p.tables e below (s₁.setTop (entryFrame m #[(.ref o0)] 2)) t := fun t k => pre12 t (by
            refine XS.ifYes X10.here hx rfl (pc0 := 42) (pc' := 53) rfl (hb hby own_d10_42) rfl ((if0 _ _).trans (feq hc13).2) (by decide) (by decide) ?_
            show Steps p.tables e below (T10.setTop (mkF m 53 #[.val (.ref o0), .val (.int (cc &&& (255 : Int32)))] [])) _
            refine XS.aloadN X10.here hx rfl (hb hby own_d10_53) rfl rfl ?_
            refine XS.iloadN X10.here hx rfl (hb hby own_d10_54) rfl ?_
            refine st27 _ ?_
            show Steps p.tables e below (T27.setTop (mkF m 58 #[.val (.ref o0), .val (.int (cc &&& (255 : Int32)))] [])) _
            refine XS.iloadN X27.here hx rfl (hb hby own_d10_58) rfl ?_
            exact k)
        obtain ⟨fs, hr, hrun, hended, hW, hsame⟩ := X27.leave (v := some (.int (cc &&& (255 : Int32)))) (fun h => by rw [Bd.returns] at h; cases h) (hlocks := hlk)
        refine ⟨_, _, pre39 _ ?_, hrun, hended, _, _, rfl, ?_, ⟨_, rfl⟩, hW, hsame.mono (by decide) (by decide)⟩
        · show Steps p.tables e below (T27.setTop (mkF m 59 #[.val (.ref o0), .val (.int (cc &&& (255 : Int32)))] [(.int (cc &&& (255 : Int32)))])) _
          exact retI X27 hx Bd.returns (hb hby own_d10_59) hr
        · show own_Q10 Z o0 w_hash_o0 w_hashIsZero_o0 z_COMPACT_STRINGS w_value_o0 k_c cc h0 n0 _ T27.heap _; rw [e27]; exact ⟨(cc &&& (255 : Int32)), w_hashIsZero_o0, (congrArg (fun q => some (Value.int q)) ((show (cc &&& (255 : Int32)) = (own_f10 w_hash_o0 w_hashIsZero_o0 cc) from by unfold own_f10; rw [if_pos hc3, if_pos hc6, if_neg hc13]).trans Hk)), N36, K38, f30, f32, f33, f28, f29, (own_okA _ _)⟩
    · have pre40 : ∀ t, Steps p.tables e below (T4.setTop (mkF m 59 #[.val (.ref o0), .val (.int w_hash_o0)] [(.int w_hash_o0)])) t → Steps p.tables e below (s₁.setTop (entryFrame m #[(.ref o0)] 2)) t := fun t k => pre5 t (by
          refine XS.ifYes X4.here hx rfl (pc0 := 13) (pc' := 58) rfl (hb hby own_d10_13) rfl ((if0 _ _).trans (feq hc6).2) (by decide) (by decide) ?_
          show Steps p.tables e below (T4.setTop (mkF m 58 #[.val (.ref o0), .val (.int w_hash_o0)] [])) _
          refine XS.iloadN X4.here hx rfl (hb hby own_d10_58) rfl ?_
          exact k)
      obtain ⟨fs, hr, hrun, hended, hW, hsame⟩ := X4.leave (v := some (.int w_hash_o0)) (fun h => by rw [Bd.returns] at h; cases h) (hlocks := hlk)
      refine ⟨_, _, pre40 _ ?_, hrun, hended, _, _, rfl, ?_, ⟨_, rfl⟩, hW, hsame.mono (by decide) (by decide)⟩
      · show Steps p.tables e below (T4.setTop (mkF m 59 #[.val (.ref o0), .val (.int w_hash_o0)] [(.int w_hash_o0)])) _
        exact retI X4 hx Bd.returns (hb hby own_d10_59) hr
      · show own_Q10 Z o0 w_hash_o0 w_hashIsZero_o0 z_COMPACT_STRINGS w_value_o0 k_c cc h0 n0 _ T4.heap _; rw [e4]; exact ⟨w_hash_o0, w_hashIsZero_o0, (congrArg (fun q => some (Value.int q)) ((show w_hash_o0 = (own_f10 w_hash_o0 w_hashIsZero_o0 cc) from by unfold own_f10; rw [if_pos hc3, if_neg hc6]).trans Hk)), N0, Keep.refl h0 [o0], P_F_o0_coder, P_E_o0, P_F_o0_value, P_F_o0_hash, P_F_o0_hashIsZero, Hk⟩
  · have pre41 : ∀ t, Steps p.tables e below (T1.setTop (mkF m 59 #[.val (.ref o0), .val (.int w_hash_o0)] [(.int w_hash_o0)])) t → Steps p.tables e below (s₁.setTop (entryFrame m #[(.ref o0)] 2)) t := fun t k => pre2 t (by
        refine XS.ifYes X1.here hx rfl (pc0 := 6) (pc' := 58) rfl (hb hby own_d10_6) rfl ((if0 _ _).trans (feq hc3).2) (by decide) (by decide) ?_
        show Steps p.tables e below (T1.setTop (mkF m 58 #[.val (.ref o0), .val (.int w_hash_o0)] [])) _
        refine XS.iloadN X1.here hx rfl (hb hby own_d10_58) rfl ?_
        exact k)
    obtain ⟨fs, hr, hrun, hended, hW, hsame⟩ := X1.leave (v := some (.int w_hash_o0)) (fun h => by rw [Bd.returns] at h; cases h) (hlocks := hlk)
    refine ⟨_, _, pre41 _ ?_, hrun, hended, _, _, rfl, ?_, ⟨_, rfl⟩, hW, hsame.mono (by decide) (by decide)⟩
    · show Steps p.tables e below (T1.setTop (mkF m 59 #[.val (.ref o0), .val (.int w_hash_o0)] [(.int w_hash_o0)])) _
      exact retI X1 hx Bd.returns (hb hby own_d10_59) hr
    · show own_Q10 Z o0 w_hash_o0 w_hashIsZero_o0 z_COMPACT_STRINGS w_value_o0 k_c cc h0 n0 _ T1.heap _; rw [e1]; exact ⟨w_hash_o0, w_hashIsZero_o0, (congrArg (fun q => some (Value.int q)) ((show w_hash_o0 = (own_f10 w_hash_o0 w_hashIsZero_o0 cc) from by unfold own_f10; rw [if_neg hc3]).trans Hk)), N0, Keep.refl h0 [o0], P_F_o0_coder, P_E_o0, P_F_o0_value, P_F_o0_hash, P_F_o0_hashIsZero, Hk⟩
theorem own_d20_0 : decode jdk_43_method_13_code 0 = .ok (.aload_n 0, 1) := by decide +kernel
theorem own_d20_1 : decode jdk_43_method_13_code 1 = .ok (.arraylength, 1) := by decide +kernel
theorem own_d20_2 : decode jdk_43_method_13_code 2 = .ok (.aload_n 1, 1) := by decide +kernel
theorem own_d20_3 : decode jdk_43_method_13_code 3 = .ok (.arraylength, 1) := by decide +kernel
theorem own_d20_4 : decode jdk_43_method_13_code 4 = .ok (.if_icmp .ne 30, 3) := by decide +kernel
theorem own_d20_7 : decode jdk_43_method_13_code 7 = .ok (.iconst 0, 1) := by decide +kernel
theorem own_d20_8 : decode jdk_43_method_13_code 8 = .ok (.istore_n 2, 1) := by decide +kernel
theorem own_d20_9 : decode jdk_43_method_13_code 9 = .ok (.iload_n 2, 1) := by decide +kernel
theorem own_d20_10 : decode jdk_43_method_13_code 10 = .ok (.aload_n 0, 1) := by decide +kernel
theorem own_d20_11 : decode jdk_43_method_13_code 11 = .ok (.arraylength, 1) := by decide +kernel
theorem own_d20_12 : decode jdk_43_method_13_code 12 = .ok (.if_icmp .ge 20, 3) := by decide +kernel
theorem own_d20_15 : decode jdk_43_method_13_code 15 = .ok (.aload_n 0, 1) := by decide +kernel
theorem own_d20_16 : decode jdk_43_method_13_code 16 = .ok (.iload_n 2, 1) := by decide +kernel
theorem own_d20_17 : decode jdk_43_method_13_code 17 = .ok (.baload, 1) := by decide +kernel
theorem own_d20_18 : decode jdk_43_method_13_code 18 = .ok (.aload_n 1, 1) := by decide +kernel
theorem own_d20_19 : decode jdk_43_method_13_code 19 = .ok (.iload_n 2, 1) := by decide +kernel
theorem own_d20_20 : decode jdk_43_method_13_code 20 = .ok (.baload, 1) := by decide +kernel
theorem own_d20_21 : decode jdk_43_method_13_code 21 = .ok (.if_icmp .eq 5, 3) := by decide +kernel
theorem own_d20_24 : decode jdk_43_method_13_code 24 = .ok (.iconst 0, 1) := by decide +kernel
theorem own_d20_25 : decode jdk_43_method_13_code 25 = .ok (.ireturn, 1) := by decide +kernel
theorem own_d20_26 : decode jdk_43_method_13_code 26 = .ok (.iinc 2 1, 3) := by decide +kernel
theorem own_d20_29 : decode jdk_43_method_13_code 29 = .ok (.goto (-20), 3) := by decide +kernel
theorem own_d20_32 : decode jdk_43_method_13_code 32 = .ok (.iconst 1, 1) := by decide +kernel
theorem own_d20_33 : decode jdk_43_method_13_code 33 = .ok (.ireturn, 1) := by decide +kernel
theorem own_pn20 : plainName "java/lang/StringLatin1" = true := by first | (simp [plainName, overriddenIn]; done) | decide +kernel
theorem own_ef20 (m : MethodId) (x0 : Addr) (x1 : Addr) : entryFrame m #[(.ref x0), (.ref x1)] 3 = (mkF m 0 #[.val (.ref x0), .val (.ref x1), .unset] []) := by first | (simp [entryFrame, mkF, argsToLocals, Value.category]; done) | rfl
def own_f20 (cc : Int32) (d : Int32) : Int32 := (if cc = d then (1 : Int32) else (0 : Int32))
def own_Q20 (Z : State) (o0 : Addr) (o1 : Addr) (k_cc : ClassId) (cc : Int32) (k_d : ClassId) (d : Int32) (h0 : Heap) (n0 : Nat) (v : Option Value) (h : Heap) (L : List Loc) : Prop := v = some (.int (own_f20 cc d)) ∧ Fr n0 L ∧ h = h0
set_option maxRecDepth 65536 in
set_option maxHeartbeats 40000000 in
theorem own_rm20 (l : Launch) (Z : State) (a0 : Array Value) (hw : ∀ d ∈ tables_1, d.before a0 Z = true) (ws : List Jvm.Cond) (o0 : Addr) (o1 : Addr) (k_cc : ClassId) (cc : Int32) (k_d : ClassId) (d : Int32) (h0 : Heap) (n0 : Nat) (Z0 : n0 ≤ h0.size) (P_V_o0 : Arv Z h0 o0 k_cc .byte (1 : Int32) [(.int cc)] (.int (0 : Int32))) (P_V_o1 : Arv Z h0 o1 k_d .byte (1 : Int32) [(.int d)] (.int (0 : Int32))) :
    MetFree l (⟨"java/lang/StringLatin1", "equals", "([B[B)Z"⟩ : MethodName) (head1 (Jvm.Cond.code (⟨"java/lang/StringLatin1", "equals", "([B[B)Z"⟩ : MethodName) jdk_43_method_13_code 3 (some .boolean) :: ws) ({ frames := 0, cells := 0, slots := 0, locals := 0 } : Room)) (fun a U => a = #[(.ref o0), (.ref o1)] ∧ Z.Warmed39 U.vm ∧ U.heap = h0) (fun _ _ _ _ _ => True) (fun _ U o U' => ∃ v L, o = .returned v ∧ own_Q20 Z o0 o1 k_cc cc k_d d h0 n0 v U'.heap L ∧ FrameEnd U o U' L ({ frames := 0, cells := 0, slots := 0, locals := 0 } : Room).cells ({ frames := 0, cells := 0, slots := 0, locals := 0 } : Room).slots) := by
  refine MetFree.of_bodySF (plainFor_of_name own_pn20) hisR ?_
  intro p e s m args below meth c s₁ Bd hml0 hP hK
  obtain ⟨rfl, hZ, hh⟩ := hP
  have hx := Bd.exec
  have hlk : meth.locks = false := BodyLoose.notSynchronized Bd
  have hby := Bd.bytes
  have hml : c.maxLocals = 3 := hml0
  have hown : s.vm.findClass "java/lang/StringLatin1" = some m.cls := findClass_of_methodNamed Bd.named
  have hnm := (name_of_methodNamed Bd.named Bd.method).1
  have X0 : Stand p l e ({ frames := 0, cells := 0, slots := 0, locals := 0 } : Room) s m #[(.ref o0), (.ref o1)] below meth c s₁ [] 0 0 := Stand.of_body Bd
  have e0 : s₁.heap = h0 := by rw [← hh, Bd.state]; rfl
  have N0 := Fr.nil n0
  have pre0 : ∀ t, Steps p.tables e below (s₁.setTop (mkF m 0 #[.val (.ref o0), .val (.ref o1), .unset] [])) t → Steps p.tables e below (s₁.setTop (entryFrame m #[(.ref o0), (.ref o1)] 3)) t := fun t k => castTop (own_ef20 m o0 o1) k
  obtain ⟨cl1, Ar1, q1, S1, N_1, Ha1, G1⟩ := id P_V_o0
  obtain ⟨cl2, Ar2, q2, S2, N_2, Ha2, G2⟩ := id P_V_o1
  obtain ⟨cl3, Ar3, q3, S3, N_3, Ha3, G3⟩ := id P_V_o0
  obtain ⟨cl4, Ar4, q4, S4, N_4, Ha4, G4⟩ := id P_V_o0
  have hin4 : ¬ ((0 : Int32) < 0 ∨ cl4.slots.size ≤ ((0 : Int32)).toNatClampNeg) := inb_of S4 ⟨by decide, by decide⟩
  obtain ⟨cl5, Ar5, q5, S5, N_5, Ha5, G5⟩ := id P_V_o1
  have hin5 : ¬ ((0 : Int32) < 0 ∨ cl5.slots.size ≤ ((0 : Int32)).toNatClampNeg) := inb_of S5 ⟨by decide, by decide⟩
  have pre6 : ∀ t, Steps p.tables e below (s₁.setTop (mkF m 21 #[.val (.ref o0), .val (.ref o1), .val (.int (0 : Int32))] [(.int d), (.int cc)])) t → Steps p.tables e below (s₁.setTop (entryFrame m #[(.ref o0), (.ref o1)] 3)) t := fun t k => pre0 t (by
      refine XS.aloadN X0.here hx rfl (hb hby own_d20_0) rfl rfl ?_
      show Steps p.tables e below (s₁.setTop (mkF m 1 #[.val (.ref o0), .val (.ref o1), .unset] [(.ref o0)])) _
      refine X0.arraylength hx (by rw [e0]; exact Ar1.1) (State.isArrayOf_alike hZ.alike Ar1.2.1) (g := (mkF m 1 #[.val (.ref o0), .val (.ref o1), .unset] [(.ref o0)])) rfl rfl (hb hby own_d20_1) _ ?_
      rw [len_of S1 N_1]
      refine XS.aloadN X0.here hx rfl (hb hby own_d20_2) rfl rfl ?_
      refine X0.arraylength hx (by rw [e0]; exact Ar2.1) (State.isArrayOf_alike hZ.alike Ar2.2.1) (g := (mkF m 3 #[.val (.ref o0), .val (.ref o1), .unset] [(.ref o1), (.int (1 : Int32))])) rfl rfl (hb hby own_d20_3) _ ?_
      rw [len_of S2 N_2]
      show Steps p.tables e below (s₁.setTop (mkF m 4 #[.val (.ref o0), .val (.ref o1), .unset] [(.int (1 : Int32)), (.int (1 : Int32))])) _
      refine XS.icmpNo X0.here hx rfl (hb hby own_d20_4) rfl (teq (by decide : (1 : Int32) = (1 : Int32))).2 ?_
      refine XS.iconst X0.here hx rfl (hb hby own_d20_7) ?_
      refine XS.istoreN X0.here hx rfl (hb hby own_d20_8) rfl (l' := #[.val (.ref o0), .val (.ref o1), .val (.int (0 : Int32))]) rfl ?_
      refine XS.iloadN X0.here hx rfl (hb hby own_d20_9) rfl ?_
      show Steps p.tables e below (s₁.setTop (mkF m 10 #[.val (.ref o0), .val (.ref o1), .val (.int (0 : Int32))] [(.int (0 : Int32))])) _
      refine XS.aloadN X0.here hx rfl (hb hby own_d20_10) rfl rfl ?_
      refine X0.arraylength hx (by rw [e0]; exact Ar3.1) (State.isArrayOf_alike hZ.alike Ar3.2.1) (g := (mkF m 11 #[.val (.ref o0), .val (.ref o1), .val (.int (0 : Int32))] [(.ref o0), (.int (0 : Int32))])) rfl rfl (hb hby own_d20_11) _ ?_
      rw [len_of S3 N_3]
      refine XS.icmpNo X0.here hx rfl (hb hby own_d20_12) rfl (tlt (by decide : (0 : Int32) < (1 : Int32))).2.1 ?_
      show Steps p.tables e below (s₁.setTop (mkF m 15 #[.val (.ref o0), .val (.ref o1), .val (.int (0 : Int32))] [])) _
      refine XS.aloadN X0.here hx rfl (hb hby own_d20_15) rfl rfl ?_
      refine XS.iloadN X0.here hx rfl (hb hby own_d20_16) rfl ?_
      refine X0.baloadBytes hx (j := (0 : Int32)) (v := (.int cc)) (by rw [e0]; exact Ar4.1) (State.isArrayOf_alike hZ.alike Ar4.2.1) Ar4.2.2 hin4 (Has.at Ha4 hin4 (rfl : (_ : Value) = (.int cc))) (g := (mkF m 17 #[.val (.ref o0), .val (.ref o1), .val (.int (0 : Int32))] [(.int (0 : Int32)), (.ref o0)])) rfl rfl (hb hby own_d20_17) _ ?_
      refine XS.aloadN X0.here hx rfl (hb hby own_d20_18) rfl rfl ?_
      show Steps p.tables e below (s₁.setTop (mkF m 19 #[.val (.ref o0), .val (.ref o1), .val (.int (0 : Int32))] [(.ref o1), (.int cc)])) _
      refine XS.iloadN X0.here hx rfl (hb hby own_d20_19) rfl ?_
      refine X0.baloadBytes hx (j := (0 : Int32)) (v := (.int d)) (by rw [e0]; exact Ar5.1) (State.isArrayOf_alike hZ.alike Ar5.2.1) Ar5.2.2 hin5 (Has.at Ha5 hin5 (rfl : (_ : Value) = (.int d))) (g := (mkF m 20 #[.val (.ref o0), .val (.ref o1), .val (.int (0 : Int32))] [(.int (0 : Int32)), (.ref o1), (.int cc)])) rfl rfl (hb hby own_d20_20) _ ?_
      exact k)
  by_cases hc7 : cc = d
  · obtain ⟨cl8, Ar8, q8, S8, N_8, Ha8, G8⟩ := id P_V_o0
    have pre9 : ∀ t, Steps p.tables e below (s₁.setTop (mkF m 33 #[.val (.ref o0), .val (.ref o1), .val (.int (1 : Int32))] [(.int (1 : Int32))])) t → Steps p.tables e below (s₁.setTop (entryFrame m #[(.ref o0), (.ref o1)] 3)) t := fun t k => pre6 t (by
        refine XS.icmpYes X0.here hx rfl (pc0 := 21) (pc' := 26) rfl (hb hby own_d20_21) rfl (teq hc7).1 (by decide) (by decide) ?_
        show Steps p.tables e below (s₁.setTop (mkF m 26 #[.val (.ref o0), .val (.ref o1), .val (.int (0 : Int32))] [])) _
        refine XS.iinc X0.here hx rfl (hb hby own_d20_26) rfl (l' := #[.val (.ref o0), .val (.ref o1), .val (.int (1 : Int32))]) rfl ?_
        refine XS.goto X0.here hx rfl (pc0 := 29) (pc' := 9) rfl (hb hby own_d20_29) (by decide) (by decide) ?_
        refine XS.iloadN X0.here hx rfl (hb hby own_d20_9) rfl ?_
        refine XS.aloadN X0.here hx rfl (hb hby own_d20_10) rfl rfl ?_
        show Steps p.tables e below (s₁.setTop (mkF m 11 #[.val (.ref o0), .val (.ref o1), .val (.int (1 : Int32))] [(.ref o0), (.int (1 : Int32))])) _
        refine X0.arraylength hx (by rw [e0]; exact Ar8.1) (State.isArrayOf_alike hZ.alike Ar8.2.1) (g := (mkF m 11 #[.val (.ref o0), .val (.ref o1), .val (.int (1 : Int32))] [(.ref o0), (.int (1 : Int32))])) rfl rfl (hb hby own_d20_11) _ ?_
        rw [len_of S8 N_8]
        refine XS.icmpYes X0.here hx rfl (pc0 := 12) (pc' := 32) rfl (hb hby own_d20_12) rfl (flt (by decide : ¬ ((1 : Int32) < (1 : Int32)))).2.1 (by decide) (by decide) ?_
        refine XS.iconst X0.here hx rfl (hb hby own_d20_32) ?_
        show Steps p.tables e below (s₁.setTop (mkF m 33 #[.val (.ref o0), .val (.ref o1), .val (.int (1 : Int32))] [(.int (1 : Int32))])) _
        exact k)
    obtain ⟨fs, hr, hrun, hended, hW, hsame⟩ := X0.leave (v := some (.int (1 : Int32))) (fun h => by rw [Bd.returns] at h; cases h) (hlocks := hlk)
    refine ⟨_, _, pre9 _ ?_, hrun, hended, _, _, rfl, ?_, ⟨_, rfl⟩, hW, hsame.mono (by decide) (by decide)⟩
    · show Steps p.tables e below (s₁.setTop (mkF m 33 #[.val (.ref o0), .val (.ref o1), .val (.int (1 : Int32))] [(.int (1 : Int32))])) _
      exact retN X0 hx (t := .boolean) Bd.returns (by simp) (hb hby own_d20_33) hr
    · show own_Q20 Z o0 o1 k_cc cc k_d d h0 n0 _ s₁.heap _; rw [e0]; exact ⟨(by show some (Value.int _) = some (.int (own_f20 cc d)); unfold own_f20; rw [if_pos hc7]), N0, rfl⟩
  · have pre10 : ∀ t, Steps p.tables e below (s₁.setTop (mkF m 25 #[.val (.ref o0), .val (.ref o1), .val (.int (0 : Int32))] [(.int (0 : Int32))])) t → Steps p.tables e below (s₁.setTop (entryFrame m #[(.ref o0), (.ref o1)] 3)) t := fun t k => pre6 t (by
        refine XS.icmpNo X0.here hx rfl (hb hby own_d20_21) rfl (feq hc7).1 ?_
        show Steps p.tables e below (s₁.setTop (mkF m 24 #[.val (.ref o0), .val (.ref o1), .val (.int (0 : Int32))] [])) _
        refine XS.iconst X0.here hx rfl (hb hby own_d20_24) ?_
        exact k)
    obtain ⟨fs, hr, hrun, hended, hW, hsame⟩ := X0.leave (v := some (.int (0 : Int32))) (fun h => by rw [Bd.returns] at h; cases h) (hlocks := hlk)
    refine ⟨_, _, pre10 _ ?_, hrun, hended, _, _, rfl, ?_, ⟨_, rfl⟩, hW, hsame.mono (by decide) (by decide)⟩
    · show Steps p.tables e below (s₁.setTop (mkF m 25 #[.val (.ref o0), .val (.ref o1), .val (.int (0 : Int32))] [(.int (0 : Int32))])) _
      exact retN X0 hx (t := .boolean) Bd.returns (by simp) (hb hby own_d20_25) hr
    · show own_Q20 Z o0 o1 k_cc cc k_d d h0 n0 _ s₁.heap _; rw [e0]; exact ⟨(by show some (Value.int _) = some (.int (own_f20 cc d)); unfold own_f20; rw [if_neg hc7]), N0, rfl⟩
theorem own_pd7 : parseMethodDescriptor "([B[B)Z" = some ⟨[(.array .byte), (.array .byte)], some .boolean⟩ := by decide +kernel
theorem own_d19_0 : decode jdk_42_method_66_code 0 = .ok (.aload_n 0, 1) := by decide +kernel
theorem own_d19_1 : decode jdk_42_method_66_code 1 = .ok (.aload_n 1, 1) := by decide +kernel
theorem own_d19_2 : decode jdk_42_method_66_code 2 = .ok (.if_acmp .ne 5, 3) := by decide +kernel
theorem own_d19_7 : decode jdk_42_method_66_code 7 = .ok (.aload_n 1, 1) := by decide +kernel
theorem own_d19_8 : decode jdk_42_method_66_code 8 = .ok (.instanceof 10, 3) := by decide +kernel
theorem own_d19_11 : decode jdk_42_method_66_code 11 = .ok (.ifCond .eq 43, 3) := by decide +kernel
theorem own_d19_14 : decode jdk_42_method_66_code 14 = .ok (.aload_n 1, 1) := by decide +kernel
theorem own_d19_15 : decode jdk_42_method_66_code 15 = .ok (.checkcast 10, 3) := by decide +kernel
theorem own_d19_18 : decode jdk_42_method_66_code 18 = .ok (.astore_n 2, 1) := by decide +kernel
theorem own_d19_19 : decode jdk_42_method_66_code 19 = .ok (.getstatic 38, 3) := by decide +kernel
theorem own_d19_22 : decode jdk_42_method_66_code 22 = .ok (.ifCond .eq 14, 3) := by decide +kernel
theorem own_d19_25 : decode jdk_42_method_66_code 25 = .ok (.aload_n 0, 1) := by decide +kernel
theorem own_d19_26 : decode jdk_42_method_66_code 26 = .ok (.getfield 15, 3) := by decide +kernel
theorem own_d19_29 : decode jdk_42_method_66_code 29 = .ok (.aload_n 2, 1) := by decide +kernel
theorem own_d19_30 : decode jdk_42_method_66_code 30 = .ok (.getfield 15, 3) := by decide +kernel
theorem own_d19_33 : decode jdk_42_method_66_code 33 = .ok (.if_icmp .ne 21, 3) := by decide +kernel
theorem own_d19_36 : decode jdk_42_method_66_code 36 = .ok (.aload_n 0, 1) := by decide +kernel
theorem own_d19_37 : decode jdk_42_method_66_code 37 = .ok (.getfield 9, 3) := by decide +kernel
theorem own_d19_40 : decode jdk_42_method_66_code 40 = .ok (.aload_n 2, 1) := by decide +kernel
theorem own_d19_41 : decode jdk_42_method_66_code 41 = .ok (.getfield 9, 3) := by decide +kernel
theorem own_d19_44 : decode jdk_42_method_66_code 44 = .ok (.invokestatic 541, 3) := by decide +kernel
theorem own_d19_47 : decode jdk_42_method_66_code 47 = .ok (.ifCond .eq 7, 3) := by decide +kernel
theorem own_d19_50 : decode jdk_42_method_66_code 50 = .ok (.iconst 1, 1) := by decide +kernel
theorem own_d19_51 : decode jdk_42_method_66_code 51 = .ok (.goto 4, 3) := by decide +kernel
theorem own_d19_54 : decode jdk_42_method_66_code 54 = .ok (.iconst 0, 1) := by decide +kernel
theorem own_d19_55 : decode jdk_42_method_66_code 55 = .ok (.ireturn, 1) := by decide +kernel
theorem own_pn19 : plainName "java/lang/String" = true := by first | (simp [plainName, overriddenIn]; done) | decide +kernel
theorem own_ef19 (m : MethodId) (x0 : Addr) (x1 : Addr) : entryFrame m #[(.ref x0), (.ref x1)] 3 = (mkF m 0 #[.val (.ref x0), .val (.ref x1), .unset] []) := by first | (simp [entryFrame, mkF, argsToLocals, Value.category]; done) | rfl
def own_f19 (cc : Int32) (d : Int32) : Int32 := (if (own_f20 cc d) = (0 : Int32) then (0 : Int32) else (1 : Int32))
def own_Q19 (Z : State) (o0 : Addr) (o1 : Addr) (z_COMPACT_STRINGS : Int32) (w_value_o0 : Addr) (w_value_o1 : Addr) (k_cc : ClassId) (cc : Int32) (k_d : ClassId) (d : Int32) (h0 : Heap) (n0 : Nat) (v : Option Value) (h : Heap) (L : List Loc) : Prop := v = some (.int (own_f19 cc d)) ∧ Fr n0 L ∧ h = h0
set_option maxRecDepth 65536 in
set_option maxHeartbeats 40000000 in
theorem own_rm19 (l : Launch) (Z : State) (a0 : Array Value) (hw : ∀ d ∈ tables_1, d.before a0 Z = true) (ws : List Jvm.Cond) (o0 : Addr) (o1 : Addr) (z_COMPACT_STRINGS : Int32) (w_value_o0 : Addr) (w_value_o1 : Addr) (k_cc : ClassId) (cc : Int32) (k_d : ClassId) (d : Int32) (h0 : Heap) (n0 : Nat) (Z0 : n0 ≤ h0.size) (HC : ¬ (z_COMPACT_STRINGS = (0 : Int32))) (Hne : o0 ≠ o1) (P_F_o0_coder : Fld Z h0 o0 "java/lang/String" "coder" "B" (.int (0 : Int32))) (P_F_o1_coder : Fld Z h0 o1 "java/lang/String" "coder" "B" (.int (0 : Int32))) (P_E_o1 : Exa Z h0 o1 "java/lang/String") (P_S_java_lang_String_COMPACT_STRINGS : Sta Z h0 "java/lang/String" "COMPACT_STRINGS" "Z" (.int z_COMPACT_STRINGS)) (P_F_o0_value : Fld Z h0 o0 "java/lang/String" "value" "[B" (.ref w_value_o0)) (P_F_o1_value : Fld Z h0 o1 "java/lang/String" "value" "[B" (.ref w_value_o1)) (P_V_w_value_o0 : Arv Z h0 w_value_o0 k_cc .byte (1 : Int32) [(.int cc)] (.int (0 : Int32))) (P_V_w_value_o1 : Arv Z h0 w_value_o1 k_d .byte (1 : Int32) [(.int d)] (.int (0 : Int32))) :
    MetFree l (⟨"java/lang/String", "equals", "(Ljava/lang/Object;)Z"⟩ : MethodName) (head1 (Jvm.Cond.code (⟨"java/lang/String", "equals", "(Ljava/lang/Object;)Z"⟩ : MethodName) jdk_42_method_66_code 3 (some .boolean) :: ws) ({ frames := 1, cells := 0, slots := 0, locals := 14 } : Room)) (fun a U => a = #[(.ref o0), (.ref o1)] ∧ Z.Warmed39 U.vm ∧ U.heap = h0) (fun _ _ _ _ _ => True) (fun _ U o U' => ∃ v L, o = .returned v ∧ own_Q19 Z o0 o1 z_COMPACT_STRINGS w_value_o0 w_value_o1 k_cc cc k_d d h0 n0 v U'.heap L ∧ FrameEnd U o U' L ({ frames := 1, cells := 0, slots := 0, locals := 14 } : Room).cells ({ frames := 1, cells := 0, slots := 0, locals := 14 } : Room).slots) := by
  refine MetFree.of_bodySF (plainFor_of_name own_pn19) hisR ?_
  intro p e s m args below meth c s₁ Bd hml0 hP hK
  obtain ⟨rfl, hZ, hh⟩ := hP
  have hx := Bd.exec
  have hlk : meth.locks = false := BodyLoose.notSynchronized Bd
  have hby := Bd.bytes
  have hml : c.maxLocals = 3 := hml0
  have hown : s.vm.findClass "java/lang/String" = some m.cls := findClass_of_methodNamed Bd.named
  have hnm := (name_of_methodNamed Bd.named Bd.method).1
  have X0 : Stand p l e ({ frames := 1, cells := 0, slots := 0, locals := 14 } : Room) s m #[(.ref o0), (.ref o1)] below meth c s₁ [] 0 0 := Stand.of_body Bd
  have e0 : s₁.heap = h0 := by rw [← hh, Bd.state]; rfl
  have N0 := Fr.nil n0
  have pre0 : ∀ t, Steps p.tables e below (s₁.setTop (mkF m 0 #[.val (.ref o0), .val (.ref o1), .unset] [])) t → Steps p.tables e below (s₁.setTop (entryFrame m #[(.ref o0), (.ref o1)] 3)) t := fun t k => castTop (own_ef19 m o0 o1) k
  obtain ⟨T1, X1, e1, st1⟩ := instY X0 hx hZ hown (hw _ (List.mem_of_getElem? (i := 9) rfl)) e0 (Ins.self P_E_o1) (g := (mkF m 8 #[.val (.ref o0), .val (.ref o1), .unset] [(.ref o1)])) rfl rfl (hb hby own_d19_8)
  obtain ⟨T2, X2, e2, st2⟩ := castY X1 hx hZ hown (hw _ (List.mem_of_getElem? (i := 9) rfl)) e1 (Ins.self P_E_o1) (g := (mkF m 15 #[.val (.ref o0), .val (.ref o1), .unset] [(.ref o1)])) rfl rfl (hb hby own_d19_15)
  obtain ⟨T3, X3, e3, st3⟩ := getS2 X2 hx hZ hown (host := "") (Or.inl (hw _ (List.mem_of_getElem? (i := 4) rfl))) Via.refl e2 P_S_java_lang_String_COMPACT_STRINGS (g := (mkF m 19 #[.val (.ref o0), .val (.ref o1), .val (.ref o1)] [])) rfl (hb hby own_d19_19)
  obtain ⟨T4, X4, e4, st4⟩ := getF X3 hx hZ hown (host := "") (Or.inl (hw _ (List.mem_of_getElem? (i := 24) rfl))) Via.refl e3 P_F_o0_coder (g := (mkF m 26 #[.val (.ref o0), .val (.ref o1), .val (.ref o1)] [(.ref o0)])) rfl rfl (hb hby own_d19_26)
  obtain ⟨T5, X5, e5, st5⟩ := getF X4 hx hZ hown (host := "") (Or.inl (hw _ (List.mem_of_getElem? (i := 24) rfl))) Via.refl e4 P_F_o1_coder (g := (mkF m 30 #[.val (.ref o0), .val (.ref o1), .val (.ref o1)] [(.ref o1), (.int (0 : Int32))])) rfl rfl (hb hby own_d19_30)
  obtain ⟨T6, X6, e6, st6⟩ := getF X5 hx hZ hown (host := "") (Or.inl (hw _ (List.mem_of_getElem? (i := 22) rfl))) Via.refl e5 P_F_o0_value (g := (mkF m 37 #[.val (.ref o0), .val (.ref o1), .val (.ref o1)] [(.ref o0)])) rfl rfl (hb hby own_d19_37)
  obtain ⟨T7, X7, e7, st7⟩ := getF X6 hx hZ hown (host := "") (Or.inl (hw _ (List.mem_of_getElem? (i := 22) rfl))) Via.refl e6 P_F_o1_value (g := (mkF m 41 #[.val (.ref o0), .val (.ref o1), .val (.ref o1)] [(.ref o1), (.ref w_value_o0)])) rfl rfl (hb hby own_d19_41)
  obtain ⟨_, _, ⟨T8, L8, k8, n8⟩, -, X8, ⟨Lc8, hQ8, l8, y8, z8⟩, st8⟩ := Jvm.LawKit.callS X7 hx (y := (⟨"java/lang/StringLatin1", "equals", "([B[B)Z"⟩ : MethodName)) hown (mvT hZ (hw _ (List.mem_of_getElem? (i := 117) rfl))) (mvT hZ (hw _ (List.mem_of_getElem? (i := 118) rfl))) (mvT hZ (hw _ (List.mem_of_getElem? (i := 7) rfl))) (mvT hZ (hw _ (List.mem_of_getElem? (i := 119) rfl))) (by decide) (backOf (W := 0) (own_rm20 l Z a0 hw [] w_value_o0 w_value_o1 k_cc cc k_d d h0 n0 Z0 P_V_w_value_o0 P_V_w_value_o1) hZ (hw _ (List.mem_of_getElem? (i := 119) rfl)) (hw _ (List.mem_of_getElem? (i := 7) rfl)) (by decide) (by decide)) (g := (mkF m 44 #[.val (.ref o0), .val (.ref o1), .val (.ref o1)] [(.ref w_value_o1), (.ref w_value_o0)])) rfl (by rw [hml]; rfl) (argsL := [(.ref w_value_o0), (.ref w_value_o1)]) (rest := []) (lenOf own_pd7 rfl) rfl (by show 2 * 0 + _ ≤ _; exact Nat.le_of_eq rfl) (hb hby own_d19_44) (fun _ _ => ⟨rfl, e7, (by decide : 0 + 0 ≤ _), (by decide : 0 + 0 ≤ _)⟩)
  dsimp only [Pt.U, Pt.locs, Pt.cells, Pt.slots] at X8 l8 y8 z8 st8 hQ8
  subst y8 z8
  obtain ⟨rfl, N8q, e8⟩ := hQ8
  have N9 : Fr n0 L8 := by rw [l8]; exact Fr.app N0 N8q
  have pre10 : ∀ t, Steps p.tables e below (T8.setTop (mkF m 47 #[.val (.ref o0), .val (.ref o1), .val (.ref o1)] [(.int (own_f20 cc d))])) t → Steps p.tables e below (s₁.setTop (entryFrame m #[(.ref o0), (.ref o1)] 3)) t := fun t k => pre0 t (by
      refine XS.aloadN X0.here hx rfl (hb hby own_d19_0) rfl rfl ?_
      show Steps p.tables e below (s₁.setTop (mkF m 1 #[.val (.ref o0), .val (.ref o1), .unset] [(.ref o0)])) _
      refine XS.aloadN X0.here hx rfl (hb hby own_d19_1) rfl rfl ?_
      refine Jvm.RoadKit.acmp (g := (mkF m 2 #[.val (.ref o0), .val (.ref o1), .unset] [(.ref o1), (.ref o0)])) X0 hx rfl rfl rfl (pc0 := 2) (pc' := 7) (same := false) rfl (hb hby own_d19_2) rfl (decide_eq_false fun q => Hne (Value.ref.inj q)) (by decide) (by decide) ?_
      refine XS.aloadN X0.here hx rfl (hb hby own_d19_7) rfl rfl ?_
      refine st1 _ ?_
      show Steps p.tables e below (T1.setTop (mkF m 11 #[.val (.ref o0), .val (.ref o1), .unset] [(.int (1 : Int32))])) _
      refine XS.ifNo X1.here hx rfl (hb hby own_d19_11) rfl ((if0 _ _).trans (feq (by decide : ¬ ((1 : Int32) = (0 : Int32)))).1) ?_
      refine XS.aloadN X1.here hx rfl (hb hby own_d19_14) rfl rfl ?_
      refine st2 _ ?_
      show Steps p.tables e below (T2.setTop (mkF m 18 #[.val (.ref o0), .val (.ref o1), .unset] [(.ref o1)])) _
      refine XS.astoreN X2.here hx rfl (hb hby own_d19_18) rfl rfl (l' := #[.val (.ref o0), .val (.ref o1), .val (.ref o1)]) rfl ?_
      refine st3 _ ?_
      show Steps p.tables e below (T3.setTop (mkF m 22 #[.val (.ref o0), .val (.ref o1), .val (.ref o1)] [(.int z_COMPACT_STRINGS)])) _
      refine XS.ifNo X3.here hx rfl (hb hby own_d19_22) rfl ((if0 _ _).trans (feq HC).1) ?_
      refine XS.aloadN X3.here hx rfl (hb hby own_d19_25) rfl rfl ?_
      refine st4 _ ?_
      show Steps p.tables e below (T4.setTop (mkF m 29 #[.val (.ref o0), .val (.ref o1), .val (.ref o1)] [(.int (0 : Int32))])) _
      refine XS.aloadN X4.here hx rfl (hb hby own_d19_29) rfl rfl ?_
      refine st5 _ ?_
      show Steps p.tables e below (T5.setTop (mkF m 33 #[.val (.ref o0), .val (.ref o1), .val (.ref o1)] [(.int (0 : Int32)), (.int (0 : Int32))])) _
      refine XS.icmpNo X5.here hx rfl (hb hby own_d19_33) rfl (teq (by decide : (0 : Int32) = (0 : Int32))).2 ?_
      refine XS.aloadN X5.here hx rfl (hb hby own_d19_36) rfl rfl ?_
      refine st6 _ ?_
      show Steps p.tables e below (T6.setTop (mkF m 40 #[.val (.ref o0), .val (.ref o1), .val (.ref o1)] [(.ref w_value_o0)])) _
      refine XS.aloadN X6.here hx rfl (hb hby own_d19_40) rfl rfl ?_
      refine st7 _ ?_
      show Steps p.tables e below (T7.setTop (mkF m 44 #[.val (.ref o0), .val (.ref o1), .val (.ref o1)] [(.ref w_value_o1), (.ref w_value_o0)])) _
      refine st8 _ ?_
      show Steps p.tables e below (T8.setTop (mkF m 47 #[.val (.ref o0), .val (.ref o1), .val (.ref o1)] [(.int (own_f20 cc d))])) _
      exact k)
  by_cases hc11 : (own_f20 cc d) = (0 : Int32)
  · have pre12 : ∀ t, Steps p.tables e below (T8.setTop (mkF m 55 #[.val (.ref o0), .val (.ref o1), .val (.ref o1)] [(.int (0 : Int32))])) t → Steps p.tables e below (s₁.setTop (entryFrame m #[(.ref o0), (.ref o1)] 3)) t := fun t k => pre10 t (by
        refine XS.ifYes X8.here hx rfl (pc0 := 47) (pc' := 54) rfl (hb hby own_d19_47) rfl ((if0 _ _).trans (teq hc11).1) (by decide) (by decide) ?_
        show Steps p.tables e below (T8.setTop (mkF m 54 #[.val (.ref o0), .val (.ref o1), .val (.ref o1)] [])) _
        refine XS.iconst X8.here hx rfl (hb hby own_d19_54) ?_
        exact k)
    obtain ⟨fs, hr, hrun, hended, hW, hsame⟩ := X8.leave (v := some (.int (0 : Int32))) (fun h => by rw [Bd.returns] at h; cases h) (hlocks := hlk)
    refine ⟨_, _, pre12 _ ?_, hrun, hended, _, _, rfl, ?_, ⟨_, rfl⟩, hW, hsame.mono (by decide) (by decide)⟩
    · show Steps p.tables e below (T8.setTop (mkF m 55 #[.val (.ref o0), .val (.ref o1), .val (.ref o1)] [(.int (0 : Int32))])) _
      exact retN X8 hx (t := .boolean) Bd.returns (by simp) (hb hby own_d19_55) hr
    · show own_Q19 Z o0 o1 z_COMPACT_STRINGS w_value_o0 w_value_o1 k_cc cc k_d d h0 n0 _ T8.heap _; rw [e8]; exact ⟨(by show some (Value.int _) = some (.int (own_f19 cc d)); unfold own_f19; rw [if_pos hc11]), N9, rfl⟩
  · have pre13 : ∀ t, Steps p.tables e below (T8.setTop (mkF m 55 #[.val (.ref o0), .val (.ref o1), .val (.ref o1)] [(.int (1 : Int32))])) t → Steps p.tables e below (s₁.setTop (entryFrame m #[(.ref o0), (.ref o1)] 3)) t := fun t k => pre10 t (by
        refine XS.ifNo X8.here hx rfl (hb hby own_d19_47) rfl ((if0 _ _).trans (feq hc11).1) ?_
        show Steps p.tables e below (T8.setTop (mkF m 50 #[.val (.ref o0), .val (.ref o1), .val (.ref o1)] [])) _
        refine XS.iconst X8.here hx rfl (hb hby own_d19_50) ?_
        refine XS.goto X8.here hx rfl (pc0 := 51) (pc' := 55) rfl (hb hby own_d19_51) (by decide) (by decide) ?_
        exact k)
    obtain ⟨fs, hr, hrun, hended, hW, hsame⟩ := X8.leave (v := some (.int (1 : Int32))) (fun h => by rw [Bd.returns] at h; cases h) (hlocks := hlk)
    refine ⟨_, _, pre13 _ ?_, hrun, hended, _, _, rfl, ?_, ⟨_, rfl⟩, hW, hsame.mono (by decide) (by decide)⟩
    · show Steps p.tables e below (T8.setTop (mkF m 55 #[.val (.ref o0), .val (.ref o1), .val (.ref o1)] [(.int (1 : Int32))])) _
      exact retN X8 hx (t := .boolean) Bd.returns (by simp) (hb hby own_d19_55) hr
    · show own_Q19 Z o0 o1 z_COMPACT_STRINGS w_value_o0 w_value_o1 k_cc cc k_d d h0 n0 _ T8.heap _; rw [e8]; exact ⟨(by show some (Value.int _) = some (.int (own_f19 cc d)); unfold own_f19; rw [if_neg hc11]), N9, rfl⟩
theorem own_d19_5 : decode jdk_42_method_66_code 5 = .ok (.iconst 1, 1) := by decide +kernel
theorem own_d19_6 : decode jdk_42_method_66_code 6 = .ok (.ireturn, 1) := by decide +kernel
theorem own_ef19s (m : MethodId) (x0 : Addr) : entryFrame m #[(.ref x0), (.ref x0)] 3 = (mkF m 0 #[.val (.ref x0), .val (.ref x0), .unset] []) := by first | (simp [entryFrame, mkF, argsToLocals, Value.category]; done) | rfl
def own_Q19s (Z : State) (o0 : Addr) (h0 : Heap) (n0 : Nat) (v : Option Value) (h : Heap) (L : List Loc) : Prop := v = some (.int (1 : Int32)) ∧ Fr n0 L ∧ h = h0
set_option maxRecDepth 65536 in
set_option maxHeartbeats 40000000 in
theorem own_rm19s (l : Launch) (Z : State) (a0 : Array Value) (hw : ∀ d ∈ tables_1, d.before a0 Z = true) (ws : List Jvm.Cond) (o0 : Addr) (h0 : Heap) (n0 : Nat) (Z0 : n0 ≤ h0.size) :
    MetFree l (⟨"java/lang/String", "equals", "(Ljava/lang/Object;)Z"⟩ : MethodName) (head1 (Jvm.Cond.code (⟨"java/lang/String", "equals", "(Ljava/lang/Object;)Z"⟩ : MethodName) jdk_42_method_66_code 3 (some .boolean) :: ws) ({ frames := 0, cells := 0, slots := 0, locals := 0 } : Room)) (fun a U => a = #[(.ref o0), (.ref o0)] ∧ Z.Warmed39 U.vm ∧ U.heap = h0) (fun _ _ _ _ _ => True) (fun _ U o U' => ∃ v L, o = .returned v ∧ own_Q19s Z o0 h0 n0 v U'.heap L ∧ FrameEnd U o U' L ({ frames := 0, cells := 0, slots := 0, locals := 0 } : Room).cells ({ frames := 0, cells := 0, slots := 0, locals := 0 } : Room).slots) := by
  refine MetFree.of_bodySF (plainFor_of_name own_pn19) hisR ?_
  intro p e s m args below meth c s₁ Bd hml0 hP hK
  obtain ⟨rfl, hZ, hh⟩ := hP
  have hx := Bd.exec
  have hlk : meth.locks = false := BodyLoose.notSynchronized Bd
  have hby := Bd.bytes
  have hml : c.maxLocals = 3 := hml0
  have hown : s.vm.findClass "java/lang/String" = some m.cls := findClass_of_methodNamed Bd.named
  have hnm := (name_of_methodNamed Bd.named Bd.method).1
  have X0 : Stand p l e ({ frames := 0, cells := 0, slots := 0, locals := 0 } : Room) s m #[(.ref o0), (.ref o0)] below meth c s₁ [] 0 0 := Stand.of_body Bd
  have e0 : s₁.heap = h0 := by rw [← hh, Bd.state]; rfl
  have N0 := Fr.nil n0
  have pre0 : ∀ t, Steps p.tables e below (s₁.setTop (mkF m 0 #[.val (.ref o0), .val (.ref o0), .unset] [])) t → Steps p.tables e below (s₁.setTop (entryFrame m #[(.ref o0), (.ref o0)] 3)) t := fun t k => castTop (own_ef19s m o0) k
  have pre1 : ∀ t, Steps p.tables e below (s₁.setTop (mkF m 6 #[.val (.ref o0), .val (.ref o0), .unset] [(.int (1 : Int32))])) t → Steps p.tables e below (s₁.setTop (entryFrame m #[(.ref o0), (.ref o0)] 3)) t := fun t k => pre0 t (by
      refine XS.aloadN X0.here hx rfl (hb hby own_d19_0) rfl rfl ?_
      show Steps p.tables e below (s₁.setTop (mkF m 1 #[.val (.ref o0), .val (.ref o0), .unset] [(.ref o0)])) _
      refine XS.aloadN X0.here hx rfl (hb hby own_d19_1) rfl rfl ?_
      refine Jvm.RoadKit.acmp (g := (mkF m 2 #[.val (.ref o0), .val (.ref o0), .unset] [(.ref o0), (.ref o0)])) X0 hx rfl rfl rfl (pc0 := 2) (pc' := 5) (same := true) rfl (hb hby own_d19_2) rfl (decide_eq_true rfl) (by decide) (by decide) ?_
      refine XS.iconst X0.here hx rfl (hb hby own_d19_5) ?_
      exact k)
  obtain ⟨fs, hr, hrun, hended, hW, hsame⟩ := X0.leave (v := some (.int (1 : Int32))) (fun h => by rw [Bd.returns] at h; cases h) (hlocks := hlk)
  refine ⟨_, _, pre1 _ ?_, hrun, hended, _, _, rfl, ?_, ⟨_, rfl⟩, hW, hsame.mono (by decide) (by decide)⟩
  · show Steps p.tables e below (s₁.setTop (mkF m 6 #[.val (.ref o0), .val (.ref o0), .unset] [(.int (1 : Int32))])) _
    exact retN X0 hx (t := .boolean) Bd.returns (by simp) (hb hby own_d19_6) hr
  · show own_Q19s Z o0 h0 n0 _ s₁.heap _; rw [e0]; exact ⟨rfl, N0, rfl⟩
theorem own_d24_0 : decode jdk_41_method_11_code 0 = .ok (.iload_n 0, 1) := by decide +kernel
theorem own_d24_1 : decode jdk_41_method_11_code 1 = .ok (.ifCond .lt 8, 3) := by decide +kernel
theorem own_d24_4 : decode jdk_41_method_11_code 4 = .ok (.iload_n 0, 1) := by decide +kernel
theorem own_d24_5 : decode jdk_41_method_11_code 5 = .ok (.iload_n 1, 1) := by decide +kernel
theorem own_d24_6 : decode jdk_41_method_11_code 6 = .ok (.if_icmp .lt 10, 3) := by decide +kernel
theorem own_d24_16 : decode jdk_41_method_11_code 16 = .ok (.iload_n 0, 1) := by decide +kernel
theorem own_d24_17 : decode jdk_41_method_11_code 17 = .ok (.ireturn, 1) := by decide +kernel
theorem own_pn24 : plainName "jdk/internal/util/Preconditions" = true := by first | (simp [plainName, overriddenIn]; done) | decide +kernel
theorem own_ef24 (m : MethodId) (x0 : Int32) (x1 : Int32) : entryFrame m #[(.int x0), (.int x1), .null] 3 = (mkF m 0 #[.val (.int x0), .val (.int x1), .val .null] []) := by first | (simp [entryFrame, mkF, argsToLocals, Value.category]; done) | rfl
def own_Q24 (Z : State) (p0 : Int32) (p1 : Int32) (h0 : Heap) (n0 : Nat) (v : Option Value) (h : Heap) (L : List Loc) : Prop := v = some (.int p0) ∧ Fr n0 L ∧ h = h0
set_option maxRecDepth 65536 in
set_option maxHeartbeats 40000000 in
theorem own_rm24 (l : Launch) (Z : State) (a0 : Array Value) (hw : ∀ d ∈ tables_1, d.before a0 Z = true) (ws : List Jvm.Cond) (p0 : Int32) (p1 : Int32) (h0 : Heap) (n0 : Nat) (Z0 : n0 ≤ h0.size) (H1 : ¬ (p0 < (0 : Int32))) (H2 : p0 < p1) :
    MetFree l (⟨"jdk/internal/util/Preconditions", "checkIndex", "(IILjava/util/function/BiFunction;)I"⟩ : MethodName) (head1 (Jvm.Cond.code (⟨"jdk/internal/util/Preconditions", "checkIndex", "(IILjava/util/function/BiFunction;)I"⟩ : MethodName) jdk_41_method_11_code 3 (some .int) :: ws) ({ frames := 0, cells := 0, slots := 0, locals := 0 } : Room)) (fun a U => a = #[(.int p0), (.int p1), .null] ∧ Z.Warmed39 U.vm ∧ U.heap = h0) (fun _ _ _ _ _ => True) (fun _ U o U' => ∃ v L, o = .returned v ∧ own_Q24 Z p0 p1 h0 n0 v U'.heap L ∧ FrameEnd U o U' L ({ frames := 0, cells := 0, slots := 0, locals := 0 } : Room).cells ({ frames := 0, cells := 0, slots := 0, locals := 0 } : Room).slots) := by
  refine MetFree.of_bodySF (plainFor_of_name own_pn24) hisR ?_
  intro p e s m args below meth c s₁ Bd hml0 hP hK
  obtain ⟨rfl, hZ, hh⟩ := hP
  have hx := Bd.exec
  have hlk : meth.locks = false := BodyLoose.notSynchronized Bd
  have hby := Bd.bytes
  have hml : c.maxLocals = 3 := hml0
  have hown : s.vm.findClass "jdk/internal/util/Preconditions" = some m.cls := findClass_of_methodNamed Bd.named
  have hnm := (name_of_methodNamed Bd.named Bd.method).1
  have X0 : Stand p l e ({ frames := 0, cells := 0, slots := 0, locals := 0 } : Room) s m #[(.int p0), (.int p1), .null] below meth c s₁ [] 0 0 := Stand.of_body Bd
  have e0 : s₁.heap = h0 := by rw [← hh, Bd.state]; rfl
  have N0 := Fr.nil n0
  have pre0 : ∀ t, Steps p.tables e below (s₁.setTop (mkF m 0 #[.val (.int p0), .val (.int p1), .val .null] [])) t → Steps p.tables e below (s₁.setTop (entryFrame m #[(.int p0), (.int p1), .null] 3)) t := fun t k => castTop (own_ef24 m p0 p1) k
  have pre1 : ∀ t, Steps p.tables e below (s₁.setTop (mkF m 17 #[.val (.int p0), .val (.int p1), .val .null] [(.int p0)])) t → Steps p.tables e below (s₁.setTop (entryFrame m #[(.int p0), (.int p1), .null] 3)) t := fun t k => pre0 t (by
      refine XS.iloadN X0.here hx rfl (hb hby own_d24_0) rfl ?_
      show Steps p.tables e below (s₁.setTop (mkF m 1 #[.val (.int p0), .val (.int p1), .val .null] [(.int p0)])) _
      refine XS.ifNo X0.here hx rfl (hb hby own_d24_1) rfl ((if0 _ _).trans (flt H1).1) ?_
      refine XS.iloadN X0.here hx rfl (hb hby own_d24_4) rfl ?_
      refine XS.iloadN X0.here hx rfl (hb hby own_d24_5) rfl ?_
      refine XS.icmpYes X0.here hx rfl (pc0 := 6) (pc' := 16) rfl (hb hby own_d24_6) rfl (tlt H2).1 (by decide) (by decide) ?_
      show Steps p.tables e below (s₁.setTop (mkF m 16 #[.val (.int p0), .val (.int p1), .val .null] [])) _
      refine XS.iloadN X0.here hx rfl (hb hby own_d24_16) rfl ?_
      exact k)
  obtain ⟨fs, hr, hrun, hended, hW, hsame⟩ := X0.leave (v := some (.int p0)) (fun h => by rw [Bd.returns] at h; cases h) (hlocks := hlk)
  refine ⟨_, _, pre1 _ ?_, hrun, hended, _, _, rfl, ?_, ⟨_, rfl⟩, hW, hsame.mono (by decide) (by decide)⟩
  · show Steps p.tables e below (s₁.setTop (mkF m 17 #[.val (.int p0), .val (.int p1), .val .null] [(.int p0)])) _
    exact retI X0 hx Bd.returns (hb hby own_d24_17) hr
  · show own_Q24 Z p0 p1 h0 n0 _ s₁.heap _; rw [e0]; exact ⟨rfl, N0, rfl⟩
theorem own_pd8 : parseMethodDescriptor "(IILjava/util/function/BiFunction;)I" = some ⟨[.int, .int, (.object "java/util/function/BiFunction")], some .int⟩ := by decide +kernel
theorem own_d23_0 : decode jdk_31_method_17_code 0 = .ok (.iload_n 0, 1) := by decide +kernel
theorem own_d23_1 : decode jdk_31_method_17_code 1 = .ok (.iload_n 1, 1) := by decide +kernel
theorem own_d23_2 : decode jdk_31_method_17_code 2 = .ok (.aconst_null, 1) := by decide +kernel
theorem own_d23_3 : decode jdk_31_method_17_code 3 = .ok (.invokestatic 105, 3) := by decide +kernel
theorem own_d23_6 : decode jdk_31_method_17_code 6 = .ok (.ireturn, 1) := by decide +kernel
theorem own_pn23 : plainName "java/util/Objects" = true := by first | (simp [plainName, overriddenIn]; done) | decide +kernel
theorem own_ef23 (m : MethodId) (x0 : Int32) (x1 : Int32) : entryFrame m #[(.int x0), (.int x1)] 2 = (mkF m 0 #[.val (.int x0), .val (.int x1)] []) := by first | (simp [entryFrame, mkF, argsToLocals, Value.category]; done) | rfl
def own_Q23 (Z : State) (p0 : Int32) (p1 : Int32) (h0 : Heap) (n0 : Nat) (v : Option Value) (h : Heap) (L : List Loc) : Prop := v = some (.int p0) ∧ Fr n0 L ∧ h = h0
set_option maxRecDepth 65536 in
set_option maxHeartbeats 40000000 in
theorem own_rm23 (l : Launch) (Z : State) (a0 : Array Value) (hw : ∀ d ∈ tables_1, d.before a0 Z = true) (ws : List Jvm.Cond) (p0 : Int32) (p1 : Int32) (h0 : Heap) (n0 : Nat) (Z0 : n0 ≤ h0.size) (H1_0 : ¬ (p0 < (0 : Int32))) (H2_1 : p0 < p1) :
    MetFree l (⟨"java/util/Objects", "checkIndex", "(II)I"⟩ : MethodName) (head1 (Jvm.Cond.code (⟨"java/util/Objects", "checkIndex", "(II)I"⟩ : MethodName) jdk_31_method_17_code 2 (some .int) :: ws) ({ frames := 1, cells := 0, slots := 0, locals := 14 } : Room)) (fun a U => a = #[(.int p0), (.int p1)] ∧ Z.Warmed39 U.vm ∧ U.heap = h0) (fun _ _ _ _ _ => True) (fun _ U o U' => ∃ v L, o = .returned v ∧ own_Q23 Z p0 p1 h0 n0 v U'.heap L ∧ FrameEnd U o U' L ({ frames := 1, cells := 0, slots := 0, locals := 14 } : Room).cells ({ frames := 1, cells := 0, slots := 0, locals := 14 } : Room).slots) := by
  refine MetFree.of_bodySF (plainFor_of_name own_pn23) hisR ?_
  intro p e s m args below meth c s₁ Bd hml0 hP hK
  obtain ⟨rfl, hZ, hh⟩ := hP
  have hx := Bd.exec
  have hlk : meth.locks = false := BodyLoose.notSynchronized Bd
  have hby := Bd.bytes
  have hml : c.maxLocals = 2 := hml0
  have hown : s.vm.findClass "java/util/Objects" = some m.cls := findClass_of_methodNamed Bd.named
  have hnm := (name_of_methodNamed Bd.named Bd.method).1
  have X0 : Stand p l e ({ frames := 1, cells := 0, slots := 0, locals := 14 } : Room) s m #[(.int p0), (.int p1)] below meth c s₁ [] 0 0 := Stand.of_body Bd
  have e0 : s₁.heap = h0 := by rw [← hh, Bd.state]; rfl
  have N0 := Fr.nil n0
  have pre0 : ∀ t, Steps p.tables e below (s₁.setTop (mkF m 0 #[.val (.int p0), .val (.int p1)] [])) t → Steps p.tables e below (s₁.setTop (entryFrame m #[(.int p0), (.int p1)] 2)) t := fun t k => castTop (own_ef23 m p0 p1) k
  obtain ⟨_, _, ⟨T1, L1, k1, n1⟩, -, X1, ⟨Lc1, hQ1, l1, y1, z1⟩, st1⟩ := Jvm.LawKit.callS X0 hx (y := (⟨"jdk/internal/util/Preconditions", "checkIndex", "(IILjava/util/function/BiFunction;)I"⟩ : MethodName)) hown (mvT hZ (hw _ (List.mem_of_getElem? (i := 134) rfl))) (mvT hZ (hw _ (List.mem_of_getElem? (i := 135) rfl))) (mvT hZ (hw _ (List.mem_of_getElem? (i := 136) rfl))) (mvT hZ (hw _ (List.mem_of_getElem? (i := 137) rfl))) (by decide) (backOf (W := 0) (own_rm24 l Z a0 hw [] p0 p1 h0 n0 Z0 H1_0 H2_1) hZ (hw _ (List.mem_of_getElem? (i := 137) rfl)) (hw _ (List.mem_of_getElem? (i := 136) rfl)) (by decide) (by decide)) (g := (mkF m 3 #[.val (.int p0), .val (.int p1)] [.null, (.int p1), (.int p0)])) rfl (by rw [hml]; rfl) (argsL := [(.int p0), (.int p1), .null]) (rest := []) (lenOf own_pd8 rfl) rfl (by show 2 * 0 + _ ≤ _; exact Nat.le_of_eq rfl) (hb hby own_d23_3) (fun _ _ => ⟨rfl, e0, (by decide : 0 + 0 ≤ _), (by decide : 0 + 0 ≤ _)⟩)
  dsimp only [Pt.U, Pt.locs, Pt.cells, Pt.slots] at X1 l1 y1 z1 st1 hQ1
  subst y1 z1
  obtain ⟨rfl, N1q, e1⟩ := hQ1
  have N2 : Fr n0 L1 := by rw [l1]; exact Fr.app N0 N1q
  have pre3 : ∀ t, Steps p.tables e below (T1.setTop (mkF m 6 #[.val (.int p0), .val (.int p1)] [(.int p0)])) t → Steps p.tables e below (s₁.setTop (entryFrame m #[(.int p0), (.int p1)] 2)) t := fun t k => pre0 t (by
      refine XS.iloadN X0.here hx rfl (hb hby own_d23_0) rfl ?_
      show Steps p.tables e below (s₁.setTop (mkF m 1 #[.val (.int p0), .val (.int p1)] [(.int p0)])) _
      refine XS.iloadN X0.here hx rfl (hb hby own_d23_1) rfl ?_
      refine XS.aconstNull X0.here hx rfl (hb hby own_d23_2) ?_
      refine st1 _ ?_
      show Steps p.tables e below (T1.setTop (mkF m 6 #[.val (.int p0), .val (.int p1)] [(.int p0)])) _
      exact k)
  obtain ⟨fs, hr, hrun, hended, hW, hsame⟩ := X1.leave (v := some (.int p0)) (fun h => by rw [Bd.returns] at h; cases h) (hlocks := hlk)
  refine ⟨_, _, pre3 _ ?_, hrun, hended, _, _, rfl, ?_, ⟨_, rfl⟩, hW, hsame.mono (by decide) (by decide)⟩
  · show Steps p.tables e below (T1.setTop (mkF m 6 #[.val (.int p0), .val (.int p1)] [(.int p0)])) _
    exact retI X1 hx Bd.returns (hb hby own_d23_6) hr
  · show own_Q23 Z p0 p1 h0 n0 _ T1.heap _; rw [e1]; exact ⟨rfl, N2, rfl⟩
theorem own_d21_0 : decode prog_10_method_2_code 0 = .ok (.aload_n 0, 1) := by decide +kernel
theorem own_d21_1 : decode prog_10_method_2_code 1 = .ok (.getfield 28, 3) := by decide +kernel
theorem own_d21_4 : decode prog_10_method_2_code 4 = .ok (.ireturn, 1) := by decide +kernel
theorem own_pn21 : plainName "com/example/nestor/nestor/IdTable" = true := by first | (simp [plainName, overriddenIn]; done) | decide +kernel
theorem own_ef21 (m : MethodId) (x0 : Addr) : entryFrame m #[(.ref x0)] 1 = (mkF m 0 #[.val (.ref x0)] []) := by first | (simp [entryFrame, mkF, argsToLocals, Value.category]; done) | rfl
def own_Q21 (Z : State) (o0 : Addr) (w_size_o0 : Int32) (h0 : Heap) (n0 : Nat) (v : Option Value) (h : Heap) (L : List Loc) : Prop := v = some (.int w_size_o0) ∧ Fr n0 L ∧ h = h0
set_option maxRecDepth 65536 in
set_option maxHeartbeats 40000000 in
theorem own_rm21 (l : Launch) (Z : State) (a0 : Array Value) (hw : ∀ d ∈ tables_1, d.before a0 Z = true) (ws : List Jvm.Cond) (o0 : Addr) (w_size_o0 : Int32) (h0 : Heap) (n0 : Nat) (Z0 : n0 ≤ h0.size) (P_F_o0_size : Fld Z h0 o0 "com/example/nestor/nestor/IdTable" "size" "I" (.int w_size_o0)) :
    MetFree l (⟨"com/example/nestor/nestor/IdTable", "size", "()I"⟩ : MethodName) (head1 (Jvm.Cond.code (⟨"com/example/nestor/nestor/IdTable", "size", "()I"⟩ : MethodName) prog_10_method_2_code 1 (some .int) :: ws) ({ frames := 0, cells := 0, slots := 0, locals := 0 } : Room)) (fun a U => a = #[(.ref o0)] ∧ Z.Warmed39 U.vm ∧ U.heap = h0) (fun _ _ _ _ _ => True) (fun _ U o U' => ∃ v L, o = .returned v ∧ own_Q21 Z o0 w_size_o0 h0 n0 v U'.heap L ∧ FrameEnd U o U' L ({ frames := 0, cells := 0, slots := 0, locals := 0 } : Room).cells ({ frames := 0, cells := 0, slots := 0, locals := 0 } : Room).slots) := by
  refine MetFree.of_bodySF (plainFor_of_name own_pn21) hisR ?_
  intro p e s m args below meth c s₁ Bd hml0 hP hK
  obtain ⟨rfl, hZ, hh⟩ := hP
  have hx := Bd.exec
  have hlk : meth.locks = false := BodyLoose.notSynchronized Bd
  have hby := Bd.bytes
  have hml : c.maxLocals = 1 := hml0
  have hown : s.vm.findClass "com/example/nestor/nestor/IdTable" = some m.cls := findClass_of_methodNamed Bd.named
  have hnm := (name_of_methodNamed Bd.named Bd.method).1
  have X0 : Stand p l e ({ frames := 0, cells := 0, slots := 0, locals := 0 } : Room) s m #[(.ref o0)] below meth c s₁ [] 0 0 := Stand.of_body Bd
  have e0 : s₁.heap = h0 := by rw [← hh, Bd.state]; rfl
  have N0 := Fr.nil n0
  have pre0 : ∀ t, Steps p.tables e below (s₁.setTop (mkF m 0 #[.val (.ref o0)] [])) t → Steps p.tables e below (s₁.setTop (entryFrame m #[(.ref o0)] 1)) t := fun t k => castTop (own_ef21 m o0) k
  obtain ⟨T1, X1, e1, st1⟩ := getF X0 hx hZ hown (host := "") (Or.inl (hw _ (List.mem_of_getElem? (i := 106) rfl))) Via.refl e0 P_F_o0_size (g := (mkF m 1 #[.val (.ref o0)] [(.ref o0)])) rfl rfl (hb hby own_d21_1)
  have pre2 : ∀ t, Steps p.tables e below (T1.setTop (mkF m 4 #[.val (.ref o0)] [(.int w_size_o0)])) t → Steps p.tables e below (s₁.setTop (entryFrame m #[(.ref o0)] 1)) t := fun t k => pre0 t (by
      refine XS.aloadN X0.here hx rfl (hb hby own_d21_0) rfl rfl ?_
      show Steps p.tables e below (s₁.setTop (mkF m 1 #[.val (.ref o0)] [(.ref o0)])) _
      refine st1 _ ?_
      show Steps p.tables e below (T1.setTop (mkF m 4 #[.val (.ref o0)] [(.int w_size_o0)])) _
      exact k)
  obtain ⟨fs, hr, hrun, hended, hW, hsame⟩ := X1.leave (v := some (.int w_size_o0)) (fun h => by rw [Bd.returns] at h; cases h) (hlocks := hlk)
  refine ⟨_, _, pre2 _ ?_, hrun, hended, _, _, rfl, ?_, ⟨_, rfl⟩, hW, hsame.mono (by decide) (by decide)⟩
  · show Steps p.tables e below (T1.setTop (mkF m 4 #[.val (.ref o0)] [(.int w_size_o0)])) _
    exact retI X1 hx Bd.returns (hb hby own_d21_4) hr
  · show own_Q21 Z o0 w_size_o0 h0 n0 _ T1.heap _; rw [e1]; exact ⟨rfl, N0, rfl⟩
theorem own_e32 {a b : Int32} : a = b ↔ a.toInt = b.toInt := Int32.toInt_inj.symm
theorem own_e64 {a b : Int64} : a = b ↔ a.toInt = b.toInt := Int64.toInt_inj.symm
def own_t1 (x : Int32) : List Value := own_s0.set x.toNatClampNeg (.int (1 : Int32))
def own_t2 (x y : Int32) : List Value := (own_t1 x).set y.toNatClampNeg (.int (2 : Int32))
def own_t3 (x y z : Int32) : List Value := (own_t2 x y).set z.toNatClampNeg (.int (3 : Int32))
def own_in (x : Int32) : Prop := ¬ x < (0 : Int32) ∧ x < (16 : Int32)
theorem own_in_iff (x : Int32) : own_in x ↔ 0 ≤ x.toInt ∧ x.toInt < 16 := by
  unfold own_in
  rw [Int32.lt_iff_toInt_lt, Int32.lt_iff_toInt_lt, Int32.toInt_zero, show (16 : Int32).toInt = 16 from by decide]; omega
theorem own_in_of (x : Int32) (h : own_in x) : x = Int32.ofNat x.toInt.toNat ∧ x.toInt.toNat < 16 := by
  have := (own_in_iff x).mp h
  refine ⟨?_, by omega⟩
  rw [own_e32, Int32.toInt_ofNat_small (by omega)]; omega
theorem own_home (h : Int32) : own_in (own_f14 h) := by
  rw [own_in_iff]
  have a1 : (own_f14 h).toInt = ((h * (-1640531527 : Int32)).toInt % 4294967296) / (2 ^ 28 : Nat) := c_iushr (h * (-1640531527 : Int32)) 28 28 (by decide) (by decide)
  omega
theorem own_m15 (x : Int32) : own_in (x &&& (15 : Int32)) := by
  rw [own_in_iff]
  have m1 : (x &&& (15 : Int32)).toInt = x.toInt % (2 ^ 4 : Nat) := c_mask x 15 4 (by decide) (by decide)
  omega
theorem own_n1 (x : Int32) (h : own_in x) : ¬ ((x + (1 : Int32)) &&& (15 : Int32)) = x := by
  have k : ∀ k : Fin 16, ¬ ((Int32.ofNat k.val + (1 : Int32)) &&& (15 : Int32)) = Int32.ofNat k.val := by decide +kernel
  obtain ⟨e, q⟩ := own_in_of x h
  rw [e]; exact k ⟨_, q⟩
theorem own_n2 (x : Int32) (h : own_in x) : ¬ ((((x + (1 : Int32)) &&& (15 : Int32)) + (1 : Int32)) &&& (15 : Int32)) = x := by
  have k : ∀ k : Fin 16, ¬ ((((Int32.ofNat k.val + (1 : Int32)) &&& (15 : Int32)) + (1 : Int32)) &&& (15 : Int32)) = Int32.ofNat k.val := by decide +kernel
  obtain ⟨e, q⟩ := own_in_of x h
  rw [e]; exact k ⟨_, q⟩
theorem own_nat (x : Int32) (h : own_in x) : x.toNatClampNeg < 16 := by
  have := (own_in_iff x).mp h
  show x.toInt.toNat < 16; omega
theorem own_nne (x y : Int32) (hx : own_in x) (hy : own_in y) (h : ¬ x = y) : y.toNatClampNeg ≠ x.toNatClampNeg := by
  have a := (own_in_iff x).mp hx
  have b := (own_in_iff y).mp hy
  rw [own_e32] at h
  show y.toInt.toNat ≠ x.toInt.toNat; omega
theorem own_z0 (j : Int32) : own_s0.getD j.toNatClampNeg (.int (0 : Int32)) = .int (0 : Int32) := by
  unfold own_s0
  rw [List.getD_eq_getElem?_getD, List.getElem?_replicate]
  split <;> rfl
theorem own_setne (vs : List Value) (j x : Int32) (v : Value) (hj : own_in j) (hx : own_in x) (h : ¬ j = x) : (vs.set x.toNatClampNeg v).getD j.toNatClampNeg (.int (0 : Int32)) = vs.getD j.toNatClampNeg (.int (0 : Int32)) := by
  rw [List.getD_eq_getElem?_getD, List.getElem?_set_ne (own_nne j x hj hx h), ← List.getD_eq_getElem?_getD]
theorem own_seteq (vs : List Value) (j x : Int32) (v : Value) (hl : vs.length = 16) (hx : own_in x) (h : j = x) : (vs.set x.toNatClampNeg v).getD j.toNatClampNeg (.int (0 : Int32)) = v := by
  subst h
  rw [List.getD_eq_getElem?_getD, List.getElem?_set_self (by rw [hl]; exact own_nat j hx)]; rfl
theorem own_l0 : own_s0.length = 16 := List.length_replicate
theorem own_l1 (x : Int32) : (own_t1 x).length = 16 := by unfold own_t1; rw [List.length_set, own_l0]
theorem own_l2 (x y : Int32) : (own_t2 x y).length = 16 := by unfold own_t2; rw [List.length_set, own_l1]
theorem own_t1y (x j : Int32) (hx : own_in x) (h : j = x) : (own_t1 x).getD j.toNatClampNeg (.int (0 : Int32)) = .int (1 : Int32) := own_seteq _ _ _ _ own_l0 hx h
theorem own_t1n (x j : Int32) (hx : own_in x) (hj : own_in j) (h : ¬ j = x) : (own_t1 x).getD j.toNatClampNeg (.int (0 : Int32)) = .int (0 : Int32) := (own_setne _ _ _ _ hj hx h).trans (own_z0 j)
theorem own_t2y (x y j : Int32) (hy : own_in y) (h : j = y) : (own_t2 x y).getD j.toNatClampNeg (.int (0 : Int32)) = .int (2 : Int32) := own_seteq _ _ _ _ (own_l1 x) hy h
theorem own_t2x (x y j : Int32) (hx : own_in x) (hy : own_in y) (hxy : ¬ x = y) (h : j = x) : (own_t2 x y).getD j.toNatClampNeg (.int (0 : Int32)) = .int (1 : Int32) := by
  subst h; exact (own_setne _ _ _ _ hx hy hxy).trans (own_t1y j j hx rfl)
theorem own_t2n (x y j : Int32) (hx : own_in x) (hy : own_in y) (hj : own_in j) (h1 : ¬ j = x) (h2 : ¬ j = y) : (own_t2 x y).getD j.toNatClampNeg (.int (0 : Int32)) = .int (0 : Int32) := (own_setne _ _ _ _ hj hy h2).trans (own_t1n x j hx hj h1)
def own_by (c : Int32) : Prop := -128 ≤ c.toInt ∧ c.toInt ≤ 127
theorem own_and (c : Int32) (h : own_by c) : (c &&& (255 : Int32)).toInt = c.toInt % 256 := c_mask c 255 8 (by decide) (by decide)
theorem own_inj (c d : Int32) (hc : own_by c) (hd : own_by d) (h : c &&& (255 : Int32) = d &&& (255 : Int32)) : c = d := by
  rw [own_e32] at h ⊢
  rw [own_and c hc, own_and d hd] at h
  unfold own_by at hc hd
  omega
theorem own_same (c d p : Int32) (hc : own_by c) (hd : own_by d) (hp : p = d &&& (255 : Int32)) (q : c &&& (255 : Int32) = p) : ¬ own_f19 c d = (0 : Int32) := by
  have e : c = d := own_inj c d hc hd (q.trans hp)
  unfold own_f19 own_f20
  rw [if_pos e]; decide
theorem own_sel0 (Z : State) (a0 : Array Value) (hw : ∀ d ∈ tables_1, d.before a0 Z = true) : (Jvm.Cond.selects "com/example/nestor/nestor/IdTable" (⟨"com/example/nestor/nestor/IdTable", "home", "(I)I"⟩ : MethodName) (⟨"com/example/nestor/nestor/IdTable", "home", "(I)I"⟩ : MethodName)).before a0 Z = true := by
  obtain ⟨c, k, h1, h2, -, h4, -⟩ := Cond.instantiable_spec (hw _ (List.mem_of_getElem? (i := 27) rfl))
  exact selects_self_of_private h1 h2 (Bool.or_eq_false_iff.mp h4).1 (Cond.privateMethod_at (hw _ (List.mem_of_getElem? (i := 89) rfl))) (hw _ (List.mem_of_getElem? (i := 88) rfl)) (by decide)
theorem own_d13_0 : decode prog_10_method_7_code 0 = .ok (.aload_n 0, 1) := by decide +kernel
theorem own_d13_1 : decode prog_10_method_7_code 1 = .ok (.iload_n 1, 1) := by decide +kernel
theorem own_d13_2 : decode prog_10_method_7_code 2 = .ok (.invokevirtual 66, 3) := by decide +kernel
theorem own_d13_5 : decode prog_10_method_7_code 5 = .ok (.istore 6, 2) := by decide +kernel
theorem own_d13_7 : decode prog_10_method_7_code 7 = .ok (.iconst 0, 1) := by decide +kernel
theorem own_d13_8 : decode prog_10_method_7_code 8 = .ok (.istore 7, 2) := by decide +kernel
theorem own_d13_10 : decode prog_10_method_7_code 10 = .ok (.iload 7, 2) := by decide +kernel
theorem own_d13_12 : decode prog_10_method_7_code 12 = .ok (.bipush 16, 2) := by decide +kernel
theorem own_d13_14 : decode prog_10_method_7_code 14 = .ok (.if_icmp .ge 95, 3) := by decide +kernel
theorem own_d13_17 : decode prog_10_method_7_code 17 = .ok (.aload_n 0, 1) := by decide +kernel
theorem own_d13_18 : decode prog_10_method_7_code 18 = .ok (.getfield 17, 3) := by decide +kernel
theorem own_d13_21 : decode prog_10_method_7_code 21 = .ok (.iload 6, 2) := by decide +kernel
theorem own_d13_23 : decode prog_10_method_7_code 23 = .ok (.iaload, 1) := by decide +kernel
theorem own_d13_24 : decode prog_10_method_7_code 24 = .ok (.iconst 1, 1) := by decide +kernel
theorem own_d13_25 : decode prog_10_method_7_code 25 = .ok (.isub, 1) := by decide +kernel
theorem own_d13_26 : decode prog_10_method_7_code 26 = .ok (.istore 8, 2) := by decide +kernel
theorem own_d13_28 : decode prog_10_method_7_code 28 = .ok (.iload 8, 2) := by decide +kernel
theorem own_d13_30 : decode prog_10_method_7_code 30 = .ok (.ifCond .ge 9, 3) := by decide +kernel
theorem own_d13_33 : decode prog_10_method_7_code 33 = .ok (.iload 6, 2) := by decide +kernel
theorem own_d13_35 : decode prog_10_method_7_code 35 = .ok (.ineg, 1) := by decide +kernel
theorem own_d13_36 : decode prog_10_method_7_code 36 = .ok (.iconst 1, 1) := by decide +kernel
theorem own_d13_37 : decode prog_10_method_7_code 37 = .ok (.isub, 1) := by decide +kernel
theorem own_d13_38 : decode prog_10_method_7_code 38 = .ok (.ireturn, 1) := by decide +kernel
theorem own_pn13 : plainName "com/example/nestor/nestor/IdTable" = true := by first | (simp [plainName, overriddenIn]; done) | decide +kernel
theorem own_ef13t0 (m : MethodId) (x0 : Addr) (x1 : Int32) (x2 : Addr) : entryFrame m #[(.ref x0), (.int x1), (.ref x2), .null, (.int (0 : Int32)), (.int (0 : Int32))] 10 = (mkF m 0 #[.val (.ref x0), .val (.int x1), .val (.ref x2), .val .null, .val (.int (0 : Int32)), .val (.int (0 : Int32)), .unset, .unset, .unset, .unset] []) := by first | (simp [entryFrame, mkF, argsToLocals, Value.category]; done) | rfl
def own_f13t0 (p1 : Int32) : Int32 := ((-(own_f14 p1)) - (1 : Int32))
def own_Q13t0 (Z : State) (o0 : Addr) (p1 : Int32) (o2 : Addr) (k_s : ClassId) (k_i : ClassId) (k_d : ClassId) (d : Int32) (z_COMPACT_STRINGS : Int32) (w_slots_o0 : Addr) (w_ids_o0 : Addr) (w_value_o2 : Addr) (h0 : Heap) (n0 : Nat) (v : Option Value) (h : Heap) (L : List Loc) : Prop := v = some (.int (own_f13t0 p1)) ∧ Fr n0 L ∧ h = h0
set_option maxRecDepth 65536 in
set_option maxHeartbeats 40000000 in
theorem own_rm13t0 (l : Launch) (Z : State) (a0 : Array Value) (hw : ∀ d ∈ tables_1, d.before a0 Z = true) (ws : List Jvm.Cond) (o0 : Addr) (p1 : Int32) (o2 : Addr) (k_s : ClassId) (k_i : ClassId) (k_d : ClassId) (d : Int32) (z_COMPACT_STRINGS : Int32) (w_slots_o0 : Addr) (w_ids_o0 : Addr) (w_value_o2 : Addr) (h0 : Heap) (n0 : Nat) (Z0 : n0 ≤ h0.size) (Hov : Ovr Z k_i "java/lang/String") (HC : ¬ (z_COMPACT_STRINGS = (0 : Int32))) (Hd : own_by d) (Hp : p1 = d &&& (255 : Int32)) (P_E_o0 : Exa Z h0 o0 "com/example/nestor/nestor/IdTable") (P_O_ : Old Z n0 h0) (P_B_java_lang_String_COMPACT_STRINGS : Sta Z Z.heap "java/lang/String" "COMPACT_STRINGS" "Z" (.int z_COMPACT_STRINGS)) (P_F_o0_slots : Fld Z h0 o0 "com/example/nestor/nestor/IdTable" "slots" "[I" (.ref w_slots_o0)) (P_V_w_slots_o0 : Arv Z h0 w_slots_o0 k_s .int (16 : Int32) own_s0 (.int (0 : Int32))) (P_F_o0_ids : Fld Z h0 o0 "com/example/nestor/nestor/IdTable" "ids" "[Ljava/lang/String;" (.ref w_ids_o0)) (P_V_w_ids_o0 : Arv Z h0 w_ids_o0 k_i (.object "java/lang/String") (8 : Int32) [.null, .null, .null, .null, .null, .null, .null, .null] .null) (P_E_o2 : Exa Z h0 o2 "java/lang/String") (P_F_o2_coder : Fld Z h0 o2 "java/lang/String" "coder" "B" (.int (0 : Int32))) (P_F_o2_value : Fld Z h0 o2 "java/lang/String" "value" "[B" (.ref w_value_o2)) (P_V_w_value_o2 : Arv Z h0 w_value_o2 k_d .byte (1 : Int32) [(.int d)] (.int (0 : Int32))) :
    MetFree l (⟨"com/example/nestor/nestor/IdTable", "find", "(ILjava/lang/String;[BII)I"⟩ : MethodName) (head1 (Jvm.Cond.code (⟨"com/example/nestor/nestor/IdTable", "find", "(ILjava/lang/String;[BII)I"⟩ : MethodName) prog_10_method_7_code 10 (some .int) :: ws) ({ frames := 2, cells := 0, slots := 0, locals := 28 } : Room)) (fun a U => a = #[(.ref o0), (.int p1), (.ref o2), .null, (.int (0 : Int32)), (.int (0 : Int32))] ∧ Z.Warmed39 U.vm ∧ U.heap = h0) (fun _ _ _ _ _ => True) (fun _ U o U' => ∃ v L, o = .returned v ∧ own_Q13t0 Z o0 p1 o2 k_s k_i k_d d z_COMPACT_STRINGS w_slots_o0 w_ids_o0 w_value_o2 h0 n0 v U'.heap L ∧ FrameEnd U o U' L ({ frames := 2, cells := 0, slots := 0, locals := 28 } : Room).cells ({ frames := 2, cells := 0, slots := 0, locals := 28 } : Room).slots) := by
  refine MetFree.of_bodySF (plainFor_of_name own_pn13) hisR ?_
  intro p e s m args below meth c s₁ Bd hml0 hP hK
  obtain ⟨rfl, hZ, hh⟩ := hP
  have hx := Bd.exec
  have hlk : meth.locks = false := BodyLoose.notSynchronized Bd
  have hby := Bd.bytes
  have hml : c.maxLocals = 10 := hml0
  have hown : s.vm.findClass "com/example/nestor/nestor/IdTable" = some m.cls := findClass_of_methodNamed Bd.named
  have hnm := (name_of_methodNamed Bd.named Bd.method).1
  have X0 : Stand p l e ({ frames := 2, cells := 0, slots := 0, locals := 28 } : Room) s m #[(.ref o0), (.int p1), (.ref o2), .null, (.int (0 : Int32)), (.int (0 : Int32))] below meth c s₁ [] 0 0 := Stand.of_body Bd
  have e0 : s₁.heap = h0 := by rw [← hh, Bd.state]; rfl
  have N0 := Fr.nil n0
  have pre0 : ∀ t, Steps p.tables e below (s₁.setTop (mkF m 0 #[.val (.ref o0), .val (.int p1), .val (.ref o2), .val .null, .val (.int (0 : Int32)), .val (.int (0 : Int32)), .unset, .unset, .unset, .unset] [])) t → Steps p.tables e below (s₁.setTop (entryFrame m #[(.ref o0), (.int p1), (.ref o2), .null, (.int (0 : Int32)), (.int (0 : Int32))] 10)) t := fun t k => castTop (own_ef13t0 m o0 p1 o2) k
  obtain ⟨cq1, q1, q1'⟩ := P_E_o0.cell
  obtain ⟨_, _, ⟨T1, L1, k1, n1⟩, -, X1, ⟨Lc1, hQ1, l1, y1, z1⟩, st1⟩ := X0.privateBack hx (y := (⟨"com/example/nestor/nestor/IdTable", "home", "(I)I"⟩ : MethodName)) hown (mvT hZ (hw _ (List.mem_of_getElem? (i := 87) rfl))) (mvT hZ (hw _ (List.mem_of_getElem? (i := 88) rfl))) (mvT hZ (own_sel0 Z a0 hw)) (Cond.privateMethod_at (mvP hZ (hw _ (List.mem_of_getElem? (i := 89) rfl)) (args := #[]))) (mvT hZ (hw _ (List.mem_of_getElem? (i := 90) rfl))) (by decide) (backOf (W := 0) (own_rm14 l Z a0 hw [] o0 p1 w_slots_o0 k_s own_s0 h0 n0 Z0 P_F_o0_slots P_V_w_slots_o0) hZ (hw _ (List.mem_of_getElem? (i := 90) rfl)) (hw _ (List.mem_of_getElem? (i := 28) rfl)) (by decide) (by decide)) (g := (mkF m 2 #[.val (.ref o0), .val (.int p1), .val (.ref o2), .val .null, .val (.int (0 : Int32)), .val (.int (0 : Int32)), .unset, .unset, .unset, .unset] [(.int p1), (.ref o0)])) rfl (by rw [hml]; rfl) (Steps.refl _) (a := o0) (by rw [e0]; exact q1) q1' (argsL := [(.int p1)]) (rest := []) (lenOf own_pd4 rfl) rfl (by show 2 * 0 + _ ≤ _; exact Nat.le_of_eq rfl) (hb hby own_d13_2) (fun _ _ => ⟨rfl, e0, (by decide : 0 + 0 ≤ _), (by decide : 0 + 0 ≤ _)⟩)
  dsimp only [Pt.U, Pt.locs, Pt.cells, Pt.slots] at X1 l1 y1 z1 st1 hQ1
  subst y1 z1
  obtain ⟨rfl, N1q, e1⟩ := hQ1
  have N2 : Fr n0 L1 := by rw [l1]; exact Fr.app N0 N1q
  obtain ⟨T3, X3, e3, st3⟩ := getF X1 hx hZ hown (host := "") (Or.inl (hw _ (List.mem_of_getElem? (i := 38) rfl))) Via.refl e1 P_F_o0_slots (g := (mkF m 18 #[.val (.ref o0), .val (.int p1), .val (.ref o2), .val .null, .val (.int (0 : Int32)), .val (.int (0 : Int32)), .val (.int (own_f14 p1)), .val (.int (0 : Int32)), .unset, .unset] [(.ref o0)])) rfl rfl (hb hby own_d13_18)
  obtain ⟨cl4, Ar4, q4, S4, N_4, Ha4, G4⟩ := id P_V_w_slots_o0
  have hin4 : ¬ ((own_f14 p1) < 0 ∨ cl4.slots.size ≤ ((own_f14 p1)).toNatClampNeg) := inb_of S4 (own_home p1)
  have pre5 : ∀ t, Steps p.tables e below (T3.setTop (mkF m 23 #[.val (.ref o0), .val (.int p1), .val (.ref o2), .val .null, .val (.int (0 : Int32)), .val (.int (0 : Int32)), .val (.int (own_f14 p1)), .val (.int (0 : Int32)), .unset, .unset] [(.int (own_f14 p1)), (.ref w_slots_o0)])) t → Steps p.tables e below (s₁.setTop (entryFrame m #[(.ref o0), (.int p1), (.ref o2), .null, (.int (0 : Int32)), (.int (0 : Int32))] 10)) t := fun t k => pre0 t (by
      refine XS.aloadN X0.here hx rfl (hb hby own_d13_0) rfl rfl ?_
      show Steps p.tables e below (s₁.setTop (mkF m 1 #[.val (.ref o0), .val (.int p1), .val (.ref o2), .val .null, .val (.int (0 : Int32)), .val (.int (0 : Int32)), .unset, .unset, .unset, .unset] [(.ref o0)])) _
      refine XS.iloadN X0.here hx rfl (hb hby own_d13_1) rfl ?_
      refine st1.trans ?_
      show Steps p.tables e below (T1.setTop (mkF m 5 #[.val (.ref o0), .val (.int p1), .val (.ref o2), .val .null, .val (.int (0 : Int32)), .val (.int (0 : Int32)), .unset, .unset, .unset, .unset] [(.int (own_f14 p1))])) _
      refine XS.istore X1.here hx rfl (hb hby own_d13_5) rfl (l' := #[.val (.ref o0), .val (.int p1), .val (.ref o2), .val .null, .val (.int (0 : Int32)), .val (.int (0 : Int32)), .val (.int (own_f14 p1)), .unset, .unset, .unset]) rfl ?_
      refine XS.iconst X1.here hx rfl (hb hby own_d13_7) ?_
      refine XS.istore X1.here hx rfl (hb hby own_d13_8) rfl (l' := #[.val (.ref o0), .val (.int p1), .val (.ref o2), .val .null, .val (.int (0 : Int32)), .val (.int (0 : Int32)), .val (.int (own_f14 p1)), .val (.int (0 : Int32)), .unset, .unset]) rfl ?_
      refine XS.iload X1.here hx rfl (hb hby own_d13_10) rfl ?_
      show Steps p.tables e below (T1.setTop (mkF m 12 #[.val (.ref o0), .val (.int p1), .val (.ref o2), .val .null, .val (.int (0 : Int32)), .val (.int (0 : Int32)), .val (.int (own_f14 p1)), .val (.int (0 : Int32)), .unset, .unset] [(.int (0 : Int32))])) _
      refine XS.bipush X1.here hx rfl (hb hby own_d13_12) ?_
      refine XS.icmpNo X1.here hx rfl (hb hby own_d13_14) rfl (tlt (by decide : (0 : Int32) < (16 : Int32))).2.1 ?_
      refine XS.aloadN X1.here hx rfl (hb hby own_d13_17) rfl rfl ?_
      refine st3 _ ?_
      show Steps p.tables e below (T3.setTop (mkF m 21 #[.val (.ref o0), .val (.int p1), .val (.ref o2), .val .null, .val (.int (0 : Int32)), .val (.int (0 : Int32)), .val (.int (own_f14 p1)), .val (.int (0 : Int32)), .unset, .unset] [(.ref w_slots_o0)])) _
      refine XS.iload X3.here hx rfl (hb hby own_d13_21) rfl ?_
      exact k)
  have pre6 : ∀ t, Steps p.tables e below (T3.setTop (mkF m 38 #[.val (.ref o0), .val (.int p1), .val (.ref o2), .val .null, .val (.int (0 : Int32)), .val (.int (0 : Int32)), .val (.int (own_f14 p1)), .val (.int (0 : Int32)), .val (.int (-1 : Int32)), .unset] [(.int ((-(own_f14 p1)) - (1 : Int32)))])) t → Steps p.tables e below (s₁.setTop (entryFrame m #[(.ref o0), (.int p1), (.ref o2), .null, (.int (0 : Int32)), (.int (0 : Int32))] 10)) t := fun t k => pre5 t (by
      refine X3.iaload hx (j := (own_f14 p1)) (v := (.int (0 : Int32))) (by rw [e3]; exact Ar4.1) (State.isArrayOf_alike hZ.alike Ar4.2.1) Ar4.2.2 hin4 (Has.at Ha4 hin4 (own_z0 _)) (g := (mkF m 23 #[.val (.ref o0), .val (.int p1), .val (.ref o2), .val .null, .val (.int (0 : Int32)), .val (.int (0 : Int32)), .val (.int (own_f14 p1)), .val (.int (0 : Int32)), .unset, .unset] [(.int (own_f14 p1)), (.ref w_slots_o0)])) rfl rfl (hb hby own_d13_23) _ ?_
      show Steps p.tables e below (T3.setTop (mkF m 24 #[.val (.ref o0), .val (.int p1), .val (.ref o2), .val .null, .val (.int (0 : Int32)), .val (.int (0 : Int32)), .val (.int (own_f14 p1)), .val (.int (0 : Int32)), .unset, .unset] [(.int (0 : Int32))])) _
      refine XS.iconst X3.here hx rfl (hb hby own_d13_24) ?_
      refine XS.isub X3.here hx rfl (hb hby own_d13_25) rfl ?_
      refine XS.istore X3.here hx rfl (hb hby own_d13_26) rfl (l' := #[.val (.ref o0), .val (.int p1), .val (.ref o2), .val .null, .val (.int (0 : Int32)), .val (.int (0 : Int32)), .val (.int (own_f14 p1)), .val (.int (0 : Int32)), .val (.int (-1 : Int32)), .unset]) rfl ?_
      refine XS.iload X3.here hx rfl (hb hby own_d13_28) rfl ?_
      show Steps p.tables e below (T3.setTop (mkF m 30 #[.val (.ref o0), .val (.int p1), .val (.ref o2), .val .null, .val (.int (0 : Int32)), .val (.int (0 : Int32)), .val (.int (own_f14 p1)), .val (.int (0 : Int32)), .val (.int (-1 : Int32)), .unset] [(.int (-1 : Int32))])) _
      refine XS.ifNo X3.here hx rfl (hb hby own_d13_30) rfl ((if0 _ _).trans (tlt (by decide : (-1 : Int32) < (0 : Int32))).2.1) ?_
      refine XS.iload X3.here hx rfl (hb hby own_d13_33) rfl ?_
      refine XS.ineg X3.here hx rfl (hb hby own_d13_35) rfl ?_
      refine XS.iconst X3.here hx rfl (hb hby own_d13_36) ?_
      show Steps p.tables e below (T3.setTop (mkF m 37 #[.val (.ref o0), .val (.int p1), .val (.ref o2), .val .null, .val (.int (0 : Int32)), .val (.int (0 : Int32)), .val (.int (own_f14 p1)), .val (.int (0 : Int32)), .val (.int (-1 : Int32)), .unset] [(.int (1 : Int32)), (.int (-(own_f14 p1)))])) _
      refine XS.isub X3.here hx rfl (hb hby own_d13_37) rfl ?_
      exact k)
  obtain ⟨fs, hr, hrun, hended, hW, hsame⟩ := X3.leave (v := some (.int ((-(own_f14 p1)) - (1 : Int32)))) (fun h => by rw [Bd.returns] at h; cases h) (hlocks := hlk)
  refine ⟨_, _, pre6 _ ?_, hrun, hended, _, _, rfl, ?_, ⟨_, rfl⟩, hW, hsame.mono (by decide) (by decide)⟩
  · show Steps p.tables e below (T3.setTop (mkF m 38 #[.val (.ref o0), .val (.int p1), .val (.ref o2), .val .null, .val (.int (0 : Int32)), .val (.int (0 : Int32)), .val (.int (own_f14 p1)), .val (.int (0 : Int32)), .val (.int (-1 : Int32)), .unset] [(.int ((-(own_f14 p1)) - (1 : Int32)))])) _
    exact retI X3 hx Bd.returns (hb hby own_d13_38) hr
  · show own_Q13t0 Z o0 p1 o2 k_s k_i k_d d z_COMPACT_STRINGS w_slots_o0 w_ids_o0 w_value_o2 h0 n0 _ T3.heap _; rw [e3]; exact ⟨(by show some (Value.int _) = some (.int (own_f13t0 p1)); unfold own_f13t0; rfl), N2, rfl⟩
theorem own_pd9 : parseMethodDescriptor "()I" = some ⟨[], some .int⟩ := by decide +kernel
theorem own_pd10 : parseMethodDescriptor "(Ljava/lang/Object;)Z" = some ⟨[(.object "java/lang/Object")], some .boolean⟩ := by decide +kernel
theorem own_d13_39 : decode prog_10_method_7_code 39 = .ok (.aload_n 0, 1) := by decide +kernel
theorem own_d13_40 : decode prog_10_method_7_code 40 = .ok (.getfield 11, 3) := by decide +kernel
theorem own_d13_43 : decode prog_10_method_7_code 43 = .ok (.iload 8, 2) := by decide +kernel
theorem own_d13_45 : decode prog_10_method_7_code 45 = .ok (.aaload, 1) := by decide +kernel
theorem own_d13_46 : decode prog_10_method_7_code 46 = .ok (.astore 9, 2) := by decide +kernel
theorem own_d13_48 : decode prog_10_method_7_code 48 = .ok (.aload 9, 2) := by decide +kernel
theorem own_d13_50 : decode prog_10_method_7_code 50 = .ok (.invokevirtual 45, 3) := by decide +kernel
theorem own_d13_53 : decode prog_10_method_7_code 53 = .ok (.iload_n 1, 1) := by decide +kernel
theorem own_d13_54 : decode prog_10_method_7_code 54 = .ok (.if_icmp .ne 35, 3) := by decide +kernel
theorem own_d13_57 : decode prog_10_method_7_code 57 = .ok (.aload_n 2, 1) := by decide +kernel
theorem own_d13_58 : decode prog_10_method_7_code 58 = .ok (.ifnonnull 19, 3) := by decide +kernel
theorem own_d13_77 : decode prog_10_method_7_code 77 = .ok (.aload 9, 2) := by decide +kernel
theorem own_d13_79 : decode prog_10_method_7_code 79 = .ok (.aload_n 2, 1) := by decide +kernel
theorem own_d13_80 : decode prog_10_method_7_code 80 = .ok (.invokevirtual 74, 3) := by decide +kernel
theorem own_d13_83 : decode prog_10_method_7_code 83 = .ok (.ifCond .eq 6, 3) := by decide +kernel
theorem own_d13_86 : decode prog_10_method_7_code 86 = .ok (.iload 8, 2) := by decide +kernel
theorem own_d13_88 : decode prog_10_method_7_code 88 = .ok (.ireturn, 1) := by decide +kernel
theorem own_d13_89 : decode prog_10_method_7_code 89 = .ok (.iload 6, 2) := by decide +kernel
theorem own_d13_91 : decode prog_10_method_7_code 91 = .ok (.iconst 1, 1) := by decide +kernel
theorem own_d13_92 : decode prog_10_method_7_code 92 = .ok (.iadd, 1) := by decide +kernel
theorem own_d13_93 : decode prog_10_method_7_code 93 = .ok (.aload_n 0, 1) := by decide +kernel
theorem own_d13_94 : decode prog_10_method_7_code 94 = .ok (.getfield 17, 3) := by decide +kernel
theorem own_d13_97 : decode prog_10_method_7_code 97 = .ok (.arraylength, 1) := by decide +kernel
theorem own_d13_98 : decode prog_10_method_7_code 98 = .ok (.iconst 1, 1) := by decide +kernel
theorem own_d13_99 : decode prog_10_method_7_code 99 = .ok (.isub, 1) := by decide +kernel
theorem own_d13_100 : decode prog_10_method_7_code 100 = .ok (.iand, 1) := by decide +kernel
theorem own_d13_101 : decode prog_10_method_7_code 101 = .ok (.istore 6, 2) := by decide +kernel
theorem own_d13_103 : decode prog_10_method_7_code 103 = .ok (.iinc 7 1, 3) := by decide +kernel
theorem own_d13_106 : decode prog_10_method_7_code 106 = .ok (.goto (-96), 3) := by decide +kernel
theorem own_ef13t1 (m : MethodId) (x0 : Addr) (x1 : Int32) (x2 : Addr) : entryFrame m #[(.ref x0), (.int x1), (.ref x2), .null, (.int (0 : Int32)), (.int (0 : Int32))] 10 = (mkF m 0 #[.val (.ref x0), .val (.int x1), .val (.ref x2), .val .null, .val (.int (0 : Int32)), .val (.int (0 : Int32)), .unset, .unset, .unset, .unset] []) := by first | (simp [entryFrame, mkF, argsToLocals, Value.category]; done) | rfl
def own_f13t1 (p1 : Int32) (x0 : Int32) (c0 : Int32) : Int32 := (if (own_f14 p1) = x0 then (if (c0 &&& (255 : Int32)) = p1 then (0 : Int32) else ((-(((own_f14 p1) + (1 : Int32)) &&& (15 : Int32))) - (1 : Int32))) else ((-(own_f14 p1)) - (1 : Int32)))
def own_Q13t1 (Z : State) (o0 : Addr) (p1 : Int32) (o2 : Addr) (x0 : Int32) (k_s : ClassId) (k_i : ClassId) (k_d : ClassId) (d : Int32) (i0 : Addr) (k_c0 : ClassId) (c0 : Int32) (z_COMPACT_STRINGS : Int32) (w_slots_o0 : Addr) (w_ids_o0 : Addr) (w_value_o2 : Addr) (w_hash_i0 : Int32) (w_hashIsZero_i0 : Int32) (w_value_i0 : Addr) (h0 : Heap) (n0 : Nat) (v : Option Value) (h : Heap) (L : List Loc) : Prop := ∃ hq_i0 zq_i0 : Int32, v = some (.int (own_f13t1 p1 x0 c0)) ∧ Fr n0 L ∧ Keep h0 h [i0] ∧ Exa Z h i0 "java/lang/String" ∧ Fld Z h i0 "java/lang/String" "coder" "B" (.int (0 : Int32)) ∧ Fld Z h i0 "java/lang/String" "value" "[B" (.ref w_value_i0) ∧ Fld Z h i0 "java/lang/String" "hash" "I" (.int hq_i0) ∧ Fld Z h i0 "java/lang/String" "hashIsZero" "Z" (.int zq_i0) ∧ own_ok hq_i0 zq_i0 c0
set_option maxRecDepth 65536 in
set_option maxHeartbeats 40000000 in
theorem own_rm13t1 (l : Launch) (Z : State) (a0 : Array Value) (hw : ∀ d ∈ tables_1, d.before a0 Z = true) (ws : List Jvm.Cond) (o0 : Addr) (p1 : Int32) (o2 : Addr) (x0 : Int32) (k_s : ClassId) (k_i : ClassId) (k_d : ClassId) (d : Int32) (i0 : Addr) (k_c0 : ClassId) (c0 : Int32) (z_COMPACT_STRINGS : Int32) (w_slots_o0 : Addr) (w_ids_o0 : Addr) (w_value_o2 : Addr) (w_hash_i0 : Int32) (w_hashIsZero_i0 : Int32) (w_value_i0 : Addr) (h0 : Heap) (n0 : Nat) (Z0 : n0 ≤ h0.size) (Hov : Ovr Z k_i "java/lang/String") (HC : ¬ (z_COMPACT_STRINGS = (0 : Int32))) (Hx0 : own_in x0) (Ho0 : o2 ≠ i0) (Hd : own_by d) (Hb0 : own_by c0) (Hk0 : own_ok w_hash_i0 w_hashIsZero_i0 c0) (Hp : p1 = d &&& (255 : Int32)) (P_E_o0 : Exa Z h0 o0 "com/example/nestor/nestor/IdTable") (P_O_ : Old Z n0 h0) (P_B_java_lang_String_COMPACT_STRINGS : Sta Z Z.heap "java/lang/String" "COMPACT_STRINGS" "Z" (.int z_COMPACT_STRINGS)) (P_F_o0_slots : Fld Z h0 o0 "com/example/nestor/nestor/IdTable" "slots" "[I" (.ref w_slots_o0)) (P_V_w_slots_o0 : Arv Z h0 w_slots_o0 k_s .int (16 : Int32) (own_t1 x0) (.int (0 : Int32))) (P_F_o0_ids : Fld Z h0 o0 "com/example/nestor/nestor/IdTable" "ids" "[Ljava/lang/String;" (.ref w_ids_o0)) (P_V_w_ids_o0 : Arv Z h0 w_ids_o0 k_i (.object "java/lang/String") (8 : Int32) [(.ref i0), .null, .null, .null, .null, .null, .null, .null] .null) (P_E_o2 : Exa Z h0 o2 "java/lang/String") (P_F_o2_coder : Fld Z h0 o2 "java/lang/String" "coder" "B" (.int (0 : Int32))) (P_F_o2_value : Fld Z h0 o2 "java/lang/String" "value" "[B" (.ref w_value_o2)) (P_V_w_value_o2 : Arv Z h0 w_value_o2 k_d .byte (1 : Int32) [(.int d)] (.int (0 : Int32))) (P_E_i0 : Exa Z h0 i0 "java/lang/String") (P_F_i0_hash : Fld Z h0 i0 "java/lang/String" "hash" "I" (.int w_hash_i0)) (P_F_i0_hashIsZero : Fld Z h0 i0 "java/lang/String" "hashIsZero" "Z" (.int w_hashIsZero_i0)) (P_F_i0_coder : Fld Z h0 i0 "java/lang/String" "coder" "B" (.int (0 : Int32))) (P_F_i0_value : Fld Z h0 i0 "java/lang/String" "value" "[B" (.ref w_value_i0)) (P_V_w_value_i0 : Arv Z h0 w_value_i0 k_c0 .byte (1 : Int32) [(.int c0)] (.int (0 : Int32))) (G_i0 : n0 ≤ i0) :
    MetFree l (⟨"com/example/nestor/nestor/IdTable", "find", "(ILjava/lang/String;[BII)I"⟩ : MethodName) (head1 (Jvm.Cond.code (⟨"com/example/nestor/nestor/IdTable", "find", "(ILjava/lang/String;[BII)I"⟩ : MethodName) prog_10_method_7_code 10 (some .int) :: ws) ({ frames := 2, cells := 0, slots := 0, locals := 28 } : Room)) (fun a U => a = #[(.ref o0), (.int p1), (.ref o2), .null, (.int (0 : Int32)), (.int (0 : Int32))] ∧ Z.Warmed39 U.vm ∧ U.heap = h0) (fun _ _ _ _ _ => True) (fun _ U o U' => ∃ v L, o = .returned v ∧ own_Q13t1 Z o0 p1 o2 x0 k_s k_i k_d d i0 k_c0 c0 z_COMPACT_STRINGS w_slots_o0 w_ids_o0 w_value_o2 w_hash_i0 w_hashIsZero_i0 w_value_i0 h0 n0 v U'.heap L ∧ FrameEnd U o U' L ({ frames := 2, cells := 0, slots := 0, locals := 28 } : Room).cells ({ frames := 2, cells := 0, slots := 0, locals := 28 } : Room).slots) := by
  refine MetFree.of_bodySF (plainFor_of_name own_pn13) hisR ?_
  intro p e s m args below meth c s₁ Bd hml0 hP hK
  obtain ⟨rfl, hZ, hh⟩ := hP
  have hx := Bd.exec
  have hlk : meth.locks = false := BodyLoose.notSynchronized Bd
  have hby := Bd.bytes
  have hml : c.maxLocals = 10 := hml0
  have hown : s.vm.findClass "com/example/nestor/nestor/IdTable" = some m.cls := findClass_of_methodNamed Bd.named
  have hnm := (name_of_methodNamed Bd.named Bd.method).1
  have X0 : Stand p l e ({ frames := 2, cells := 0, slots := 0, locals := 28 } : Room) s m #[(.ref o0), (.int p1), (.ref o2), .null, (.int (0 : Int32)), (.int (0 : Int32))] below meth c s₁ [] 0 0 := Stand.of_body Bd
  have e0 : s₁.heap = h0 := by rw [← hh, Bd.state]; rfl
  have N0 := Fr.nil n0
  have pre0 : ∀ t, Steps p.tables e below (s₁.setTop (mkF m 0 #[.val (.ref o0), .val (.int p1), .val (.ref o2), .val .null, .val (.int (0 : Int32)), .val (.int (0 : Int32)), .unset, .unset, .unset, .unset] [])) t → Steps p.tables e below (s₁.setTop (entryFrame m #[(.ref o0), (.int p1), (.ref o2), .null, (.int (0 : Int32)), (.int (0 : Int32))] 10)) t := fun t k => castTop (own_ef13t1 m o0 p1 o2) k
  obtain ⟨cq1, q1, q1'⟩ := P_E_o0.cell
  obtain ⟨_, _, ⟨T1, L1, k1, n1⟩, -, X1, ⟨Lc1, hQ1, l1, y1, z1⟩, st1⟩ := X0.privateBack hx (y := (⟨"com/example/nestor/nestor/IdTable", "home", "(I)I"⟩ : MethodName)) hown (mvT hZ (hw _ (List.mem_of_getElem? (i := 87) rfl))) (mvT hZ (hw _ (List.mem_of_getElem? (i := 88) rfl))) (mvT hZ (own_sel0 Z a0 hw)) (Cond.privateMethod_at (mvP hZ (hw _ (List.mem_of_getElem? (i := 89) rfl)) (args := #[]))) (mvT hZ (hw _ (List.mem_of_getElem? (i := 90) rfl))) (by decide) (backOf (W := 0) (own_rm14 l Z a0 hw [] o0 p1 w_slots_o0 k_s (own_t1 x0) h0 n0 Z0 P_F_o0_slots P_V_w_slots_o0) hZ (hw _ (List.mem_of_getElem? (i := 90) rfl)) (hw _ (List.mem_of_getElem? (i := 28) rfl)) (by decide) (by decide)) (g := (mkF m 2 #[.val (.ref o0), .val (.int p1), .val (.ref o2), .val .null, .val (.int (0 : Int32)), .val (.int (0 : Int32)), .unset, .unset, .unset, .unset] [(.int p1), (.ref o0)])) rfl (by rw [hml]; rfl) (Steps.refl _) (a := o0) (by rw [e0]; exact q1) q1' (argsL := [(.int p1)]) (rest := []) (lenOf own_pd4 rfl) rfl (by show 2 * 0 + _ ≤ _; exact Nat.le_of_eq rfl) (hb hby own_d13_2) (fun _ _ => ⟨rfl, e0, (by decide : 0 + 0 ≤ _), (by decide : 0 + 0 ≤ _)⟩)
  dsimp only [Pt.U, Pt.locs, Pt.cells, Pt.slots] at X1 l1 y1 z1 st1 hQ1
  subst y1 z1
  obtain ⟨rfl, N1q, e1⟩ := hQ1
  have N2 : Fr n0 L1 := by rw [l1]; exact Fr.app N0 N1q
  obtain ⟨T3, X3, e3, st3⟩ := getF X1 hx hZ hown (host := "") (Or.inl (hw _ (List.mem_of_getElem? (i := 38) rfl))) Via.refl e1 P_F_o0_slots (g := (mkF m 18 #[.val (.ref o0), .val (.int p1), .val (.ref o2), .val .null, .val (.int (0 : Int32)), .val (.int (0 : Int32)), .val (.int (own_f14 p1)), .val (.int (0 : Int32)), .unset, .unset] [(.ref o0)])) rfl rfl (hb hby own_d13_18)
  obtain ⟨cl4, Ar4, q4, S4, N_4, Ha4, G4⟩ := id P_V_w_slots_o0
  have hin4 : ¬ ((own_f14 p1) < 0 ∨ cl4.slots.size ≤ ((own_f14 p1)).toNatClampNeg) := inb_of S4 (own_home p1)
  have pre5 : ∀ t, Steps p.tables e below (T3.setTop (mkF m 23 #[.val (.ref o0), .val (.int p1), .val (.ref o2), .val .null, .val (.int (0 : Int32)), .val (.int (0 : Int32)), .val (.int (own_f14 p1)), .val (.int (0 : Int32)), .unset, .unset] [(.int (own_f14 p1)), (.ref w_slots_o0)])) t → Steps p.tables e below (s₁.setTop (entryFrame m #[(.ref o0), (.int p1), (.ref o2), .null, (.int (0 : Int32)), (.int (0 : Int32))] 10)) t := fun t k => pre0 t (by
      refine XS.aloadN X0.here hx rfl (hb hby own_d13_0) rfl rfl ?_
      show Steps p.tables e below (s₁.setTop (mkF m 1 #[.val (.ref o0), .val (.int p1), .val (.ref o2), .val .null, .val (.int (0 : Int32)), .val (.int (0 : Int32)), .unset, .unset, .unset, .unset] [(.ref o0)])) _
      refine XS.iloadN X0.here hx rfl (hb hby own_d13_1) rfl ?_
      refine st1.trans ?_
      show Steps p.tables e below (T1.setTop (mkF m 5 #[.val (.ref o0), .val (.int p1), .val (.ref o2), .val .null, .val (.int (0 : Int32)), .val (.int (0 : Int32)), .unset, .unset, .unset, .unset] [(.int (own_f14 p1))])) _
      refine XS.istore X1.here hx rfl (hb hby own_d13_5) rfl (l' := #[.val (.ref o0), .val (.int p1), .val (.ref o2), .val .null, .val (.int (0 : Int32)), .val (.int (0 : Int32)), .val (.int (own_f14 p1)), .unset, .unset, .unset]) rfl ?_
      refine XS.iconst X1.here hx rfl (hb hby own_d13_7) ?_
      refine XS.istore X1.here hx rfl (hb hby own_d13_8) rfl (l' := #[.val (.ref o0), .val (.int p1), .val (.ref o2), .val .null, .val (.int (0 : Int32)), .val (.int (0 : Int32)), .val (.int (own_f14 p1)), .val (.int (0 : Int32)), .unset, .unset]) rfl ?_
      refine XS.iload X1.here hx rfl (hb hby own_d13_10) rfl ?_
      show Steps p.tables e below (T1.setTop (mkF m 12 #[.val (.ref o0), .val (.int p1), .val (.ref o2), .val .null, .val (.int (0 : Int32)), .val (.int (0 : Int32)), .val (.int (own_f14 p1)), .val (.int (0 : Int32)), .unset, .unset] [(.int (0 : Int32))])) _
      refine XS.bipush X1.here hx rfl (hb hby own_d13_12) ?_
      refine XS.icmpNo X1.here hx rfl (hb hby own_d13_14) rfl (tlt (by decide : (0 : Int32) < (16 : Int32))).2.1 ?_
      refine XS.aloadN X1.here hx rfl (hb hby own_d13_17) rfl rfl ?_
      refine st3 _ ?_
      show Steps p.tables e below (T3.setTop (mkF m 21 #[.val (.ref o0), .val (.int p1), .val (.ref o2), .val .null, .val (.int (0 : Int32)), .val (.int (0 : Int32)), .val (.int (own_f14 p1)), .val (.int (0 : Int32)), .unset, .unset] [(.ref w_slots_o0)])) _
      refine XS.iload X3.here hx rfl (hb hby own_d13_21) rfl ?_
      exact k)
  by_cases hc6 : (own_f14 p1) = x0
  · obtain ⟨T7, X7, e7, st7⟩ := getF X3 hx hZ hown (host := "") (Or.inl (hw _ (List.mem_of_getElem? (i := 35) rfl))) Via.refl e3 P_F_o0_ids (g := (mkF m 40 #[.val (.ref o0), .val (.int p1), .val (.ref o2), .val .null, .val (.int (0 : Int32)), .val (.int (0 : Int32)), .val (.int (own_f14 p1)), .val (.int (0 : Int32)), .val (.int (0 : Int32)), .unset] [(.ref o0)])) rfl rfl (hb hby own_d13_40)
    obtain ⟨cl8, Ar8, q8, S8, N_8, Ha8, G8⟩ := id P_V_w_ids_o0
    have hin8 : ¬ ((0 : Int32) < 0 ∨ cl8.slots.size ≤ ((0 : Int32)).toNatClampNeg) := inb_of S8 ⟨by decide, by decide⟩
    have f10 : Sta Z h0 "java/lang/String" "COMPACT_STRINGS" "Z" (.int z_COMPACT_STRINGS) := P_B_java_lang_String_COMPACT_STRINGS.ext P_O_.2
    obtain ⟨cq9, kq9, q9a, q9b, q9c⟩ := isOf hZ e7 P_E_i0
    obtain ⟨_, _, ⟨T9, L9, k9, n9⟩, -, X9, ⟨Lc9, hQ9, l9, y9, z9⟩, st9⟩ := X7.virtualBack hx (y := (⟨"java/lang/String", "hashCode", "()I"⟩ : MethodName)) (z := (⟨"java/lang/String", "hashCode", "()I"⟩ : MethodName)) hown (mvT hZ (hw _ (List.mem_of_getElem? (i := 66) rfl))) (mvT hZ (hw _ (List.mem_of_getElem? (i := 67) rfl))) (notFace_of_selects (args := #[]) (mvT hZ (hw _ (List.mem_of_getElem? (i := 69) rfl)))) (mvT hZ (hw _ (List.mem_of_getElem? (i := 69) rfl))) (mvT hZ (hw _ (List.mem_of_getElem? (i := 68) rfl))) (by decide) (backOf (W := 0) (own_rm10 l Z a0 hw [] i0 w_hash_i0 w_hashIsZero_i0 z_COMPACT_STRINGS w_value_i0 k_c0 c0 h0 n0 Z0 Hk0 P_F_i0_hash P_F_i0_hashIsZero P_F_i0_coder f10 HC P_E_i0 P_F_i0_value P_V_w_value_i0 G_i0) hZ (hw _ (List.mem_of_getElem? (i := 70) rfl)) (hw _ (List.mem_of_getElem? (i := 2) rfl)) (by decide) (by decide)) q9a q9c (g := (mkF m 50 #[.val (.ref o0), .val (.int p1), .val (.ref o2), .val .null, .val (.int (0 : Int32)), .val (.int (0 : Int32)), .val (.int (own_f14 p1)), .val (.int (0 : Int32)), .val (.int (0 : Int32)), .val (.ref i0)] [(.ref i0)])) rfl (by rw [hml]; rfl) (Steps.refl _) (argsL := []) (rest := []) (lenOf own_pd9 rfl) rfl (by show 2 * 0 + _ ≤ _; exact Nat.le_of_eq rfl) (hb hby own_d13_50) (fun _ _ => ⟨rfl, e7, (by decide : 0 + 0 ≤ _), (by decide : 0 + 0 ≤ _)⟩)
    dsimp only [Pt.U, Pt.locs, Pt.cells, Pt.slots] at X9 l9 y9 z9 st9 hQ9
    subst y9 z9
    obtain ⟨hq9_o0, zq9_o0, rfl, N9q, K9, f11, f12, f13, f14, f15, ok16⟩ := hQ9
    have f17 : Old Z n0 T9.heap := P_O_.keep K9 (allS G_i0 all0)
    have f18 : Exa Z T9.heap o0 "com/example/nestor/nestor/IdTable" := P_E_o0.keep K9
    have f19 : Fld Z T9.heap o0 "com/example/nestor/nestor/IdTable" "slots" "[I" (.ref w_slots_o0) := P_F_o0_slots.keep K9 (ninS (Exa.ne P_E_o0 P_E_i0 (by decide)) nin0)
    have f20 : Arv Z T9.heap w_slots_o0 k_s .int (16 : Int32) (own_t1 x0) (.int (0 : Int32)) := P_V_w_slots_o0.keep K9 (ninS (Ne.symm (Exa.neArv P_E_i0 P_V_w_slots_o0 (hw _ (List.mem_of_getElem? (i := 10) rfl)))) nin0)
    have f21 : Fld Z T9.heap o0 "com/example/nestor/nestor/IdTable" "ids" "[Ljava/lang/String;" (.ref w_ids_o0) := P_F_o0_ids.keep K9 (ninS (Exa.ne P_E_o0 P_E_i0 (by decide)) nin0)
    have f22 : Arv Z T9.heap w_ids_o0 k_i (.object "java/lang/String") (8 : Int32) [(.ref i0), .null, .null, .null, .null, .null, .null, .null] .null := P_V_w_ids_o0.keep K9 (ninS (Ne.symm (Exa.neArv P_E_i0 P_V_w_ids_o0 (hw _ (List.mem_of_getElem? (i := 10) rfl)))) nin0)
    have f23 : Exa Z T9.heap o2 "java/lang/String" := P_E_o2.keep K9
    have f24 : Fld Z T9.heap o2 "java/lang/String" "coder" "B" (.int (0 : Int32)) := P_F_o2_coder.keep K9 (ninS Ho0 nin0)
    have f25 : Fld Z T9.heap o2 "java/lang/String" "value" "[B" (.ref w_value_o2) := P_F_o2_value.keep K9 (ninS Ho0 nin0)
    have f26 : Arv Z T9.heap w_value_o2 k_d .byte (1 : Int32) [(.int d)] (.int (0 : Int32)) := P_V_w_value_o2.keep K9 (ninS (Ne.symm (Exa.neArv P_E_i0 P_V_w_value_o2 (hw _ (List.mem_of_getElem? (i := 10) rfl)))) nin0)
    have f27 : Arv Z T9.heap w_value_i0 k_c0 .byte (1 : Int32) [(.int c0)] (.int (0 : Int32)) := P_V_w_value_i0.keep K9 (ninS (Ne.symm (Exa.neArv P_E_i0 P_V_w_value_i0 (hw _ (List.mem_of_getElem? (i := 10) rfl)))) nin0)
    have zs28 : n0 ≤ T9.heap.size := Nat.le_trans Z0 K9.1
    have K29 : Keep h0 h0 [i0] := Keep.refl h0 [i0]
    have K30 : Keep h0 T9.heap [i0] := K29.trans K9 (allS (Or.inl (by simp)) all0)
    have N31 : Fr n0 L9 := by rw [l9]; exact Fr.app N2 N9q
    have pre32 : ∀ t, Steps p.tables e below (T9.setTop (mkF m 54 #[.val (.ref o0), .val (.int p1), .val (.ref o2), .val .null, .val (.int (0 : Int32)), .val (.int (0 : Int32)), .val (.int (own_f14 p1)), .val (.int (0 : Int32)), .val (.int (0 : Int32)), .val (.ref i0)] [(.int p1), (.int (c0 &&& (255 : Int32)))])) t → Steps p.tables e below (s₁.setTop (entryFrame m #[(.ref o0), (.int p1), (.ref o2), .null, (.int (0 : Int32)), (.int (0 : Int32))] 10)) t := fun t k => pre5 t (by
        refine X3.iaload hx (j := (own_f14 p1)) (v := (.int (1 : Int32))) (by rw [e3]; exact Ar4.1) (State.isArrayOf_alike hZ.alike Ar4.2.1) Ar4.2.2 hin4 (Has.at Ha4 hin4 (own_t1y x0 _ Hx0 hc6)) (g := (mkF m 23 #[.val (.ref o0), .val (.int p1), .val (.ref o2), .val .null, .val (.int (0 : Int32)), .val (.int (0 : Int32)), .val (.int (own_f14 p1)), .val (.int (0 : Int32)), .unset, .unset] [(.int (own_f14 p1)), (.ref w_slots_o0)])) rfl rfl (hb hby own_d13_23) _ ?_
        show Steps p.tables e below (T3.setTop (mkF m 24 #[.val (.ref o0), .val (.int p1), .val (.ref o2), .val .null, .val (.int (0 : Int32)), .val (.int (0 : Int32)), .val (.int (own_f14 p1)), .val (.int (0 : Int32)), .unset, .unset] [(.int (1 : Int32))])) _
        refine XS.iconst X3.here hx rfl (hb hby own_d13_24) ?_
        refine XS.isub X3.here hx rfl (hb hby own_d13_25) rfl ?_
        refine XS.istore X3.here hx rfl (hb hby own_d13_26) rfl (l' := #[.val (.ref o0), .val (.int p1), .val (.ref o2), .val .null, .val (.int (0 : Int32)), .val (.int (0 : Int32)), .val (.int (own_f14 p1)), .val (.int (0 : Int32)), .val (.int (0 : Int32)), .unset]) rfl ?_
        refine XS.iload X3.here hx rfl (hb hby own_d13_28) rfl ?_
        show Steps p.tables e below (T3.setTop (mkF m 30 #[.val (.ref o0), .val (.int p1), .val (.ref o2), .val .null, .val (.int (0 : Int32)), .val (.int (0 : Int32)), .val (.int (own_f14 p1)), .val (.int (0 : Int32)), .val (.int (0 : Int32)), .unset] [(.int (0 : Int32))])) _
        refine XS.ifYes X3.here hx rfl (pc0 := 30) (pc' := 39) rfl (hb hby own_d13_30) rfl ((if0 _ _).trans (flt (by decide : ¬ ((0 : Int32) < (0 : Int32)))).2.1) (by decide) (by decide) ?_
        refine XS.aloadN X3.here hx rfl (hb hby own_d13_39) rfl rfl ?_
        refine st7 _ ?_
        show Steps p.tables e below (T7.setTop (mkF m 43 #[.val (.ref o0), .val (.int p1), .val (.ref o2), .val .null, .val (.int (0 : Int32)), .val (.int (0 : Int32)), .val (.int (own_f14 p1)), .val (.int (0 : Int32)), .val (.int (0 : Int32)), .unset] [(.ref w_ids_o0)])) _
        refine XS.iload X7.here hx rfl (hb hby own_d13_43) rfl ?_
        refine X7.aaload hx (j := (0 : Int32)) (v := (.ref i0)) (by rw [e7]; exact Ar8.1) (State.isArrayOf_alike hZ.alike Ar8.2.1) rfl Ar8.2.2 hin8 (Has.at Ha8 hin8 (rfl : (_ : Value) = (.ref i0))) (g := (mkF m 45 #[.val (.ref o0), .val (.int p1), .val (.ref o2), .val .null, .val (.int (0 : Int32)), .val (.int (0 : Int32)), .val (.int (own_f14 p1)), .val (.int (0 : Int32)), .val (.int (0 : Int32)), .unset] [(.int (0 : Int32)), (.ref w_ids_o0)])) rfl rfl (hb hby own_d13_45) _ ?_
        refine XS.astore X7.here hx rfl (hb hby own_d13_46) rfl rfl (l' := #[.val (.ref o0), .val (.int p1), .val (.ref o2), .val .null, .val (.int (0 : Int32)), .val (.int (0 : Int32)), .val (.int (own_f14 p1)), .val (.int (0 : Int32)), .val (.int (0 : Int32)), .val (.ref i0)]) rfl ?_
        refine XS.aload X7.here hx rfl (hb hby own_d13_48) rfl rfl ?_
        show Steps p.tables e below (T7.setTop (mkF m 50 #[.val (.ref o0), .val (.int p1), .val (.ref o2), .val .null, .val (.int (0 : Int32)), .val (.int (0 : Int32)), .val (.int (own_f14 p1)), .val (.int (0 : Int32)), .val (.int (0 : Int32)), .val (.ref i0)] [(.ref i0)])) _
        refine st9.trans ?_
        show Steps p.tables e below (T9.setTop (mkF m 53 #[.val (.ref o0), .val (.int p1), .val (.ref o2), .val .null, .val (.int (0 : Int32)), .val (.int (0 : Int32)), .val (.int (own_f14 p1)), .val (.int (0 : Int32)), .val (.int (0 : Int32)), .val (.ref i0)] [(.int (c0 &&& (255 : Int32)))])) _
        refine XS.iloadN X9.here hx rfl (hb hby own_d13_53) rfl ?_
        exact k)
    by_cases hc33 : (c0 &&& (255 : Int32)) = p1
    · have f35 : Sta Z T9.heap "java/lang/String" "COMPACT_STRINGS" "Z" (.int z_COMPACT_STRINGS) := P_B_java_lang_String_COMPACT_STRINGS.ext f17.2
      obtain ⟨cq34, kq34, q34a, q34b, q34c⟩ := isOf hZ rfl f12
      obtain ⟨_, _, ⟨T34, L34, k34, n34⟩, -, X34, ⟨Lc34, hQ34, l34, y34, z34⟩, st34⟩ := X9.virtualBack hx (y := (⟨"java/lang/String", "equals", "(Ljava/lang/Object;)Z"⟩ : MethodName)) (z := (⟨"java/lang/String", "equals", "(Ljava/lang/Object;)Z"⟩ : MethodName)) hown (mvT hZ (hw _ (List.mem_of_getElem? (i := 138) rfl))) (mvT hZ (hw _ (List.mem_of_getElem? (i := 113) rfl))) (notFace_of_selects (args := #[]) (mvT hZ (hw _ (List.mem_of_getElem? (i := 115) rfl)))) (mvT hZ (hw _ (List.mem_of_getElem? (i := 115) rfl))) (mvT hZ (hw _ (List.mem_of_getElem? (i := 114) rfl))) (by decide) (backOf (W := 0) (own_rm19 l Z a0 hw [] i0 o2 z_COMPACT_STRINGS w_value_i0 w_value_o2 k_c0 c0 k_d d T9.heap n0 zs28 HC (Ne.symm Ho0) f11 f24 f23 f35 f13 f25 f27 f26) hZ (hw _ (List.mem_of_getElem? (i := 116) rfl)) (hw _ (List.mem_of_getElem? (i := 2) rfl)) (by decide) (by decide)) q34a q34c (g := (mkF m 80 #[.val (.ref o0), .val (.int p1), .val (.ref o2), .val .null, .val (.int (0 : Int32)), .val (.int (0 : Int32)), .val (.int (own_f14 p1)), .val (.int (0 : Int32)), .val (.int (0 : Int32)), .val (.ref i0)] [(.ref o2), (.ref i0)])) rfl (by rw [hml]; rfl) (Steps.refl _) (argsL := [(.ref o2)]) (rest := []) (lenOf own_pd10 rfl) rfl (by show 2 * 0 + _ ≤ _; exact Nat.le_of_eq rfl) (hb hby own_d13_80) (fun _ _ => ⟨rfl, rfl, (by decide : 0 + 0 ≤ _), (by decide : 0 + 0 ≤ _)⟩)
      dsimp only [Pt.U, Pt.locs, Pt.cells, Pt.slots] at X34 l34 y34 z34 st34 hQ34
      subst y34 z34
      obtain ⟨rfl, N34q, e34⟩ := hQ34
      have N36 : Fr n0 L34 := by rw [l34]; exact Fr.app N31 N34q
      have pre37 : ∀ t, Steps p.tables e below (T34.setTop (mkF m 88 #[.val (.ref o0), .val (.int p1), .val (.ref o2), .val .null, .val (.int (0 : Int32)), .val (.int (0 : Int32)), .val (.int (own_f14 p1)), .val (.int (0 : Int32)), .val (.int (0 : Int32)), .val (.ref i0)] [(.int (0 : Int32))])) t → Steps p.tables e below (s₁.setTop (entryFrame m #[(.ref o0), (.int p1), (.ref o2), .null, (.int (0 : Int32)), (.int (0 : Int32))] 10)) t := fun t k => pre32 t (by
          refine XS.icmpNo X9.here hx rfl (hb hby own_d13_54) rfl (teq hc33).2 ?_
          show Steps p.tables e below (T9.setTop (mkF m 57 #[.val (.ref o0), .val (.int p1), .val (.ref o2), .val .null, .val (.int (0 : Int32)), .val (.int (0 : Int32)), .val (.int (own_f14 p1)), .val (.int (0 : Int32)), .val (.int (0 : Int32)), .val (.ref i0)] [])) _
          refine XS.aloadN X9.here hx rfl (hb hby own_d13_57) rfl rfl ?_
          refine XS.ifnonnullYes X9.here hx rfl (pc0 := 58) (pc' := 77) rfl (hb hby own_d13_58) rfl (by decide) (by decide) ?_
          refine XS.aload X9.here hx rfl (hb hby own_d13_77) rfl rfl ?_
          refine XS.aloadN X9.here hx rfl (hb hby own_d13_79) rfl rfl ?_
          show Steps p.tables e below (T9.setTop (mkF m 80 #[.val (.ref o0), .val (.int p1), .val (.ref o2), .val .null, .val (.int (0 : Int32)), .val (.int (0 : Int32)), .val (.int (own_f14 p1)), .val (.int (0 : Int32)), .val (.int (0 : Int32)), .val (.ref i0)] [(.ref o2), (.ref i0)])) _
          refine st34.trans ?_
          show Steps p.tables e below (T34.setTop (mkF m 83 #[.val (.ref o0), .val (.int p1), .val (.ref o2), .val .null, .val (.int (0 : Int32)), .val (.int (0 : Int32)), .val (.int (own_f14 p1)), .val (.int (0 : Int32)), .val (.int (0 : Int32)), .val (.ref i0)] [(.int (own_f19 c0 d))])) _
          refine XS.ifNo X34.here hx rfl (hb hby own_d13_83) rfl ((if0 _ _).trans (feq (own_same c0 d p1 Hb0 Hd Hp hc33)).1) ?_
          refine XS.iload X34.here hx rfl (hb hby own_d13_86) rfl ?_
          exact k)
      obtain ⟨fs, hr, hrun, hended, hW, hsame⟩ := X34.leave (v := some (.int (0 : Int32))) (fun h => by rw [Bd.returns] at h; cases h) (hlocks := hlk)
      refine ⟨_, _, pre37 _ ?_, hrun, hended, _, _, rfl, ?_, ⟨_, rfl⟩, hW, hsame.mono (by decide) (by decide)⟩
      · show Steps p.tables e below (T34.setTop (mkF m 88 #[.val (.ref o0), .val (.int p1), .val (.ref o2), .val .null, .val (.int (0 : Int32)), .val (.int (0 : Int32)), .val (.int (own_f14 p1)), .val (.int (0 : Int32)), .val (.int (0 : Int32)), .val (.ref i0)] [(.int (0 : Int32))])) _
        exact retI X34 hx Bd.returns (hb hby own_d13_88) hr
      · show own_Q13t1 Z o0 p1 o2 x0 k_s k_i k_d d i0 k_c0 c0 z_COMPACT_STRINGS w_slots_o0 w_ids_o0 w_value_o2 w_hash_i0 w_hashIsZero_i0 w_value_i0 h0 n0 _ T34.heap _; rw [e34]; exact ⟨hq9_o0, zq9_o0, (by show some (Value.int _) = some (.int (own_f13t1 p1 x0 c0)); unfold own_f13t1; rw [if_pos hc6, if_pos hc33]), N36, K30, f12, f11, f13, f14, f15, ok16⟩
    · obtain ⟨T38, X38, e38, st38⟩ := getF X9 hx hZ hown (host := "") (Or.inl (hw _ (List.mem_of_getElem? (i := 38) rfl))) Via.refl rfl f19 (g := (mkF m 94 #[.val (.ref o0), .val (.int p1), .val (.ref o2), .val .null, .val (.int (0 : Int32)), .val (.int (0 : Int32)), .val (.int (own_f14 p1)), .val (.int (0 : Int32)), .val (.int (0 : Int32)), .val (.ref i0)] [(.ref o0), (.int ((own_f14 p1) + (1 : Int32)))])) rfl rfl (hb hby own_d13_94)
      obtain ⟨cl39, Ar39, q39, S39, N_39, Ha39, G39⟩ := id f20
      obtain ⟨T40, X40, e40, st40⟩ := getF X38 hx hZ hown (host := "") (Or.inl (hw _ (List.mem_of_getElem? (i := 38) rfl))) Via.refl e38 f19 (g := (mkF m 18 #[.val (.ref o0), .val (.int p1), .val (.ref o2), .val .null, .val (.int (0 : Int32)), .val (.int (0 : Int32)), .val (.int (((own_f14 p1) + (1 : Int32)) &&& (15 : Int32))), .val (.int (1 : Int32)), .val (.int (0 : Int32)), .val (.ref i0)] [(.ref o0)])) rfl rfl (hb hby own_d13_18)
      obtain ⟨cl41, Ar41, q41, S41, N_41, Ha41, G41⟩ := id f20
      have hin41 : ¬ ((((own_f14 p1) + (1 : Int32)) &&& (15 : Int32)) < 0 ∨ cl41.slots.size ≤ ((((own_f14 p1) + (1 : Int32)) &&& (15 : Int32))).toNatClampNeg) := inb_of S41 (own_m15 _)
      have pre42 : ∀ t, Steps p.tables e below (T40.setTop (mkF m 23 #[.val (.ref o0), .val (.int p1), .val (.ref o2), .val .null, .val (.int (0 : Int32)), .val (.int (0 : Int32)), .val (.int (((own_f14 p1) + (1 : Int32)) &&& (15 : Int32))), .val (.int (1 : Int32)), .val (.int (0 : Int32)), .val (.ref i0)] [(.int (((own_f14 p1) + (1 : Int32)) &&& (15 : Int32))), (.ref w_slots_o0)])) t → Steps p.tables e below (s₁.setTop (entryFrame m #[(.ref o0), (.int p1), (.ref o2), .null, (.int (0 : Int32)), (.int (0 : Int32))] 10)) t := fun t k => pre32 t (by
          refine XS.icmpYes X9.here hx rfl (pc0 := 54) (pc' := 89) rfl (hb hby own_d13_54) rfl (feq hc33).2 (by decide) (by decide) ?_
          show Steps p.tables e below (T9.setTop (mkF m 89 #[.val (.ref o0), .val (.int p1), .val (.ref o2), .val .null, .val (.int (0 : Int32)), .val (.int (0 : Int32)), .val (.int (own_f14 p1)), .val (.int (0 : Int32)), .val (.int (0 : Int32)), .val (.ref i0)] [])) _
          refine XS.iload X9.here hx rfl (hb hby own_d13_89) rfl ?_
          refine XS.iconst X9.here hx rfl (hb hby own_d13_91) ?_
          refine XS.iadd X9.here hx rfl (hb hby own_d13_92) rfl ?_
          refine XS.aloadN X9.here hx rfl (hb hby own_d13_93) rfl rfl ?_
          show Steps p.tables e below (T9.setTop (mkF m 94 #[.val (.ref o0), .val (.int p1), .val (.ref o2), .val .null, .val (.int (0 : Int32)), .val (.int (0 : Int32)), .val (.int (own_f14 p1)), .val (.int (0 : Int32)), .val (.int (0 : Int32)), .val (.ref i0)] [(.ref o0), (.int ((own_f14 p1) + (1 : Int32)))])) _
          refine st38 _ ?_
          show Steps p.tables e below (T38.setTop (mkF m 97 #[.val (.ref o0), .val (.int p1), .val (.ref o2), .val .null, .val (.int (0 : Int32)), .val (.int (0 : Int32)), .val (.int (own_f14 p1)), .val (.int (0 : Int32)), .val (.int (0 : Int32)), .val (.ref i0)] [(.ref w_slots_o0), (.int ((own_f14 p1) + (1 : Int32)))])) _
          refine X38.arraylength hx (by rw [e38]; exact Ar39.1) (State.isArrayOf_alike hZ.alike Ar39.2.1) (g := (mkF m 97 #[.val (.ref o0), .val (.int p1), .val (.ref o2), .val .null, .val (.int (0 : Int32)), .val (.int (0 : Int32)), .val (.int (own_f14 p1)), .val (.int (0 : Int32)), .val (.int (0 : Int32)), .val (.ref i0)] [(.ref w_slots_o0), (.int ((own_f14 p1) + (1 : Int32)))])) rfl rfl (hb hby own_d13_97) _ ?_
          rw [len_of S39 N_39]
          refine XS.iconst X38.here hx rfl (hb hby own_d13_98) ?_
          refine XS.isub X38.here hx rfl (hb hby own_d13_99) rfl ?_
          show Steps p.tables e below (T38.setTop (mkF m 100 #[.val (.ref o0), .val (.int p1), .val (.ref o2), .val .null, .val (.int (0 : Int32)), .val (.int (0 : Int32)), .val (.int (own_f14 p1)), .val (.int (0 : Int32)), .val (.int (0 : Int32)), .val (.ref i0)] [(.int (15 : Int32)), (.int ((own_f14 p1) + (1 : Int32)))])) _
          refine XS.iand X38.here hx rfl (hb hby own_d13_100) rfl ?_
          refine XS.istore X38.here hx rfl (hb hby own_d13_101) rfl (l' := #[.val (.ref o0), .val (.int p1), .val (.ref o2), .val .null, .val (.int (0 : Int32)), .val (.int (0 : Int32)), .val (.int (((own_f14 p1) + (1 : Int32)) &&& (15 : Int32))), .val (.int (0 : Int32)), .val (.int (0 : Int32)), .val (.ref i0)]) rfl ?_
          refine XS.iinc X38.here hx rfl (hb hby own_d13_103) rfl (l' := #[.val (.ref o0), .val (.int p1), .val (.ref o2), .val .null, .val (.int (0 : Int32)), .val (.int (0 : Int32)), .val (.int (((own_f14 p1) + (1 : Int32)) &&& (15 : Int32))), .val (.int (1 : Int32)), .val (.int (0 : Int32)), .val (.ref i0)]) rfl ?_
          refine XS.goto X38.here hx rfl (pc0 := 106) (pc' := 10) rfl (hb hby own_d13_106) (by decide) (by decide) ?_
          show Steps p.tables e below (T38.setTop (mkF m 10 #[.val (.ref o0), .val (.int p1), .val (.ref o2), .val .null, .val (.int (0 : Int32)), .val (.int (0 : Int32)), .val (.int (((own_f14 p1) + (1 : Int32)) &&& (15 : Int32))), .val (.int (1 : Int32)), .val (.int (0 : Int32)), .val (.ref i0)] [])) _
          refine XS.iload X38.here hx rfl (hb hby own_d13_10) rfl ?_
          refine XS.bipush X38.here hx rfl (hb hby own_d13_12) ?_
          refine XS.icmpNo X38.here hx rfl (hb hby own_d13_14) rfl (tlt (by decide : (1 : Int32) < (16 : Int32))).2.1 ?_
          refine XS.aloadN X38.here hx rfl (hb hby own_d13_17) rfl rfl ?_
          show Steps p.tables e below (T38.setTop (mkF m 18 #[.val (.ref o0), .val (.int p1), .val (.ref o2), .val .null, .val (.int (0 : Int32)), .val (.int (0 : Int32)), .val (.int (((own_f14 p1) + (1 : Int32)) &&& (15 : Int32))), .val (.int (1 : Int32)), .val (.int (0 : Int32)), .val (.ref i0)] [(.ref o0)])) _
          refine st40 _ ?_
          show Steps p.tables e below (T40.setTop (mkF m 21 #[.val (.ref o0), .val (.int p1), .val (.ref o2), .val .null, .val (.int (0 : Int32)), .val (.int (0 : Int32)), .val (.int (((own_f14 p1) + (1 : Int32)) &&& (15 : Int32))), .val (.int (1 : Int32)), .val (.int (0 : Int32)), .val (.ref i0)] [(.ref w_slots_o0)])) _
          refine XS.iload X40.here hx rfl (hb hby own_d13_21) rfl ?_
          exact k)
      have pre43 : ∀ t, Steps p.tables e below (T40.setTop (mkF m 38 #[.val (.ref o0), .val (.int p1), .val (.ref o2), .val .null, .val (.int (0 : Int32)), .val (.int (0 : Int32)), .val (.int (((own_f14 p1) + (1 : Int32)) &&& (15 : Int32))), .val (.int (1 : Int32)), .val (.int (-1 : Int32)), .val (.ref i0)] [(.int ((-(((own_f14 p1) + (1 : Int32)) &&& (15 : Int32))) - (1 : Int32)))])) t → Steps p.tables e below (s₁.setTop (entryFrame m #[(.ref o0), (.int p1), (.ref o2), .null, (.int (0 : Int32)), (.int (0 : Int32))] 10)) t := fun t k => pre42 t (by
          refine X40.iaload hx (j := (((own_f14 p1) + (1 : Int32)) &&& (15 : Int32))) (v := (.int (0 : Int32))) (by rw [e40]; exact Ar41.1) (State.isArrayOf_alike hZ.alike Ar41.2.1) Ar41.2.2 hin41 (Has.at Ha41 hin41 (own_t1n x0 _ Hx0 (own_m15 _) (hc6 ▸ own_n1 (own_f14 p1) (own_home p1)))) (g := (mkF m 23 #[.val (.ref o0), .val (.int p1), .val (.ref o2), .val .null, .val (.int (0 : Int32)), .val (.int (0 : Int32)), .val (.int (((own_f14 p1) + (1 : Int32)) &&& (15 : Int32))), .val (.int (1 : Int32)), .val (.int (0 : Int32)), .val (.ref i0)] [(.int (((own_f14 p1) + (1 : Int32)) &&& (15 : Int32))), (.ref w_slots_o0)])) rfl rfl (hb hby own_d13_23) _ ?_
          show Steps p.tables e below (T40.setTop (mkF m 24 #[.val (.ref o0), .val (.int p1), .val (.ref o2), .val .null, .val (.int (0 : Int32)), .val (.int (0 : Int32)), .val (.int (((own_f14 p1) + (1 : Int32)) &&& (15 : Int32))), .val (.int (1 : Int32)), .val (.int (0 : Int32)), .val (.ref i0)] [(.int (0 : Int32))])) _
          refine XS.iconst X40.here hx rfl (hb hby own_d13_24) ?_
          refine XS.isub X40.here hx rfl (hb hby own_d13_25) rfl ?_
          refine XS.istore X40.here hx rfl (hb hby own_d13_26) rfl (l' := #[.val (.ref o0), .val (.int p1), .val (.ref o2), .val .null, .val (.int (0 : Int32)), .val (.int (0 : Int32)), .val (.int (((own_f14 p1) + (1 : Int32)) &&& (15 : Int32))), .val (.int (1 : Int32)), .val (.int (-1 : Int32)), .val (.ref i0)]) rfl ?_
          refine XS.iload X40.here hx rfl (hb hby own_d13_28) rfl ?_
          show Steps p.tables e below (T40.setTop (mkF m 30 #[.val (.ref o0), .val (.int p1), .val (.ref o2), .val .null, .val (.int (0 : Int32)), .val (.int (0 : Int32)), .val (.int (((own_f14 p1) + (1 : Int32)) &&& (15 : Int32))), .val (.int (1 : Int32)), .val (.int (-1 : Int32)), .val (.ref i0)] [(.int (-1 : Int32))])) _
          refine XS.ifNo X40.here hx rfl (hb hby own_d13_30) rfl ((if0 _ _).trans (tlt (by decide : (-1 : Int32) < (0 : Int32))).2.1) ?_
          refine XS.iload X40.here hx rfl (hb hby own_d13_33) rfl ?_
          refine XS.ineg X40.here hx rfl (hb hby own_d13_35) rfl ?_
          refine XS.iconst X40.here hx rfl (hb hby own_d13_36) ?_
          show Steps p.tables e below (T40.setTop (mkF m 37 #[.val (.ref o0), .val (.int p1), .val (.ref o2), .val .null, .val (.int (0 : Int32)), .val (.int (0 : Int32)), .val (.int (((own_f14 p1) + (1 : Int32)) &&& (15 : Int32))), .val (.int (1 : Int32)), .val (.int (-1 : Int32)), .val (.ref i0)] [(.int (1 : Int32)), (.int (-(((own_f14 p1) + (1 : Int32)) &&& (15 : Int32))))])) _
          refine XS.isub X40.here hx rfl (hb hby own_d13_37) rfl ?_
          exact k)
      obtain ⟨fs, hr, hrun, hended, hW, hsame⟩ := X40.leave (v := some (.int ((-(((own_f14 p1) + (1 : Int32)) &&& (15 : Int32))) - (1 : Int32)))) (fun h => by rw [Bd.returns] at h; cases h) (hlocks := hlk)
      refine ⟨_, _, pre43 _ ?_, hrun, hended, _, _, rfl, ?_, ⟨_, rfl⟩, hW, hsame.mono (by decide) (by decide)⟩
      · show Steps p.tables e below (T40.setTop (mkF m 38 #[.val (.ref o0), .val (.int p1), .val (.ref o2), .val .null, .val (.int (0 : Int32)), .val (.int (0 : Int32)), .val (.int (((own_f14 p1) + (1 : Int32)) &&& (15 : Int32))), .val (.int (1 : Int32)), .val (.int (-1 : Int32)), .val (.ref i0)] [(.int ((-(((own_f14 p1) + (1 : Int32)) &&& (15 : Int32))) - (1 : Int32)))])) _
        exact retI X40 hx Bd.returns (hb hby own_d13_38) hr
      · show own_Q13t1 Z o0 p1 o2 x0 k_s k_i k_d d i0 k_c0 c0 z_COMPACT_STRINGS w_slots_o0 w_ids_o0 w_value_o2 w_hash_i0 w_hashIsZero_i0 w_value_i0 h0 n0 _ T40.heap _; rw [e40]; exact ⟨hq9_o0, zq9_o0, (by show some (Value.int _) = some (.int (own_f13t1 p1 x0 c0)); unfold own_f13t1; rw [if_pos hc6, if_neg hc33]), N31, K30, f12, f11, f13, f14, f15, ok16⟩
  · have pre44 : ∀ t, Steps p.tables e below (T3.setTop (mkF m 38 #[.val (.ref o0), .val (.int p1), .val (.ref o2), .val .null, .val (.int (0 : Int32)), .val (.int (0 : Int32)), .val (.int (own_f14 p1)), .val (.int (0 : Int32)), .val (.int (-1 : Int32)), .unset] [(.int ((-(own_f14 p1)) - (1 : Int32)))])) t → Steps p.tables e below (s₁.setTop (entryFrame m #[(.ref o0), (.int p1), (.ref o2), .null, (.int (0 : Int32)), (.int (0 : Int32))] 10)) t := fun t k => pre5 t (by
        refine X3.iaload hx (j := (own_f14 p1)) (v := (.int (0 : Int32))) (by rw [e3]; exact Ar4.1) (State.isArrayOf_alike hZ.alike Ar4.2.1) Ar4.2.2 hin4 (Has.at Ha4 hin4 (own_t1n x0 _ Hx0 (own_home p1) hc6)) (g := (mkF m 23 #[.val (.ref o0), .val (.int p1), .val (.ref o2), .val .null, .val (.int (0 : Int32)), .val (.int (0 : Int32)), .val (.int (own_f14 p1)), .val (.int (0 : Int32)), .unset, .unset] [(.int (own_f14 p1)), (.ref w_slots_o0)])) rfl rfl (hb hby own_d13_23) _ ?_
        show Steps p.tables e below (T3.setTop (mkF m 24 #[.val (.ref o0), .val (.int p1), .val (.ref o2), .val .null, .val (.int (0 : Int32)), .val (.int (0 : Int32)), .val (.int (own_f14 p1)), .val (.int (0 : Int32)), .unset, .unset] [(.int (0 : Int32))])) _
        refine XS.iconst X3.here hx rfl (hb hby own_d13_24) ?_
        refine XS.isub X3.here hx rfl (hb hby own_d13_25) rfl ?_
        refine XS.istore X3.here hx rfl (hb hby own_d13_26) rfl (l' := #[.val (.ref o0), .val (.int p1), .val (.ref o2), .val .null, .val (.int (0 : Int32)), .val (.int (0 : Int32)), .val (.int (own_f14 p1)), .val (.int (0 : Int32)), .val (.int (-1 : Int32)), .unset]) rfl ?_
        refine XS.iload X3.here hx rfl (hb hby own_d13_28) rfl ?_
        show Steps p.tables e below (T3.setTop (mkF m 30 #[.val (.ref o0), .val (.int p1), .val (.ref o2), .val .null, .val (.int (0 : Int32)), .val (.int (0 : Int32)), .val (.int (own_f14 p1)), .val (.int (0 : Int32)), .val (.int (-1 : Int32)), .unset] [(.int (-1 : Int32))])) _
        refine XS.ifNo X3.here hx rfl (hb hby own_d13_30) rfl ((if0 _ _).trans (tlt (by decide : (-1 : Int32) < (0 : Int32))).2.1) ?_
        refine XS.iload X3.here hx rfl (hb hby own_d13_33) rfl ?_
        refine XS.ineg X3.here hx rfl (hb hby own_d13_35) rfl ?_
        refine XS.iconst X3.here hx rfl (hb hby own_d13_36) ?_
        show Steps p.tables e below (T3.setTop (mkF m 37 #[.val (.ref o0), .val (.int p1), .val (.ref o2), .val .null, .val (.int (0 : Int32)), .val (.int (0 : Int32)), .val (.int (own_f14 p1)), .val (.int (0 : Int32)), .val (.int (-1 : Int32)), .unset] [(.int (1 : Int32)), (.int (-(own_f14 p1)))])) _
        refine XS.isub X3.here hx rfl (hb hby own_d13_37) rfl ?_
        exact k)
    obtain ⟨fs, hr, hrun, hended, hW, hsame⟩ := X3.leave (v := some (.int ((-(own_f14 p1)) - (1 : Int32)))) (fun h => by rw [Bd.returns] at h; cases h) (hlocks := hlk)
    refine ⟨_, _, pre44 _ ?_, hrun, hended, _, _, rfl, ?_, ⟨_, rfl⟩, hW, hsame.mono (by decide) (by decide)⟩
    · show Steps p.tables e below (T3.setTop (mkF m 38 #[.val (.ref o0), .val (.int p1), .val (.ref o2), .val .null, .val (.int (0 : Int32)), .val (.int (0 : Int32)), .val (.int (own_f14 p1)), .val (.int (0 : Int32)), .val (.int (-1 : Int32)), .unset] [(.int ((-(own_f14 p1)) - (1 : Int32)))])) _
      exact retI X3 hx Bd.returns (hb hby own_d13_38) hr
    · show own_Q13t1 Z o0 p1 o2 x0 k_s k_i k_d d i0 k_c0 c0 z_COMPACT_STRINGS w_slots_o0 w_ids_o0 w_value_o2 w_hash_i0 w_hashIsZero_i0 w_value_i0 h0 n0 _ T3.heap _; rw [e3]; exact ⟨w_hash_i0, w_hashIsZero_i0, (by show some (Value.int _) = some (.int (own_f13t1 p1 x0 c0)); unfold own_f13t1; rw [if_neg hc6]), N2, Keep.refl h0 [i0], P_E_i0, P_F_i0_coder, P_F_i0_value, P_F_i0_hash, P_F_i0_hashIsZero, Hk0⟩
theorem own_ef13t2 (m : MethodId) (x0 : Addr) (x1 : Int32) (x2 : Addr) : entryFrame m #[(.ref x0), (.int x1), (.ref x2), .null, (.int (0 : Int32)), (.int (0 : Int32))] 10 = (mkF m 0 #[.val (.ref x0), .val (.int x1), .val (.ref x2), .val .null, .val (.int (0 : Int32)), .val (.int (0 : Int32)), .unset, .unset, .unset, .unset] []) := by first | (simp [entryFrame, mkF, argsToLocals, Value.category]; done) | rfl
def own_f13t2 (p1 : Int32) (x0 : Int32) (x1 : Int32) (c0 : Int32) (c1 : Int32) : Int32 := (if (own_f14 p1) = x0 then (if (c0 &&& (255 : Int32)) = p1 then (0 : Int32) else (if (((own_f14 p1) + (1 : Int32)) &&& (15 : Int32)) = x1 then (if (c1 &&& (255 : Int32)) = p1 then (1 : Int32) else ((-(((((own_f14 p1) + (1 : Int32)) &&& (15 : Int32)) + (1 : Int32)) &&& (15 : Int32))) - (1 : Int32))) else ((-(((own_f14 p1) + (1 : Int32)) &&& (15 : Int32))) - (1 : Int32)))) else (if (own_f14 p1) = x1 then (if (c1 &&& (255 : Int32)) = p1 then (1 : Int32) else (if (((own_f14 p1) + (1 : Int32)) &&& (15 : Int32)) = x0 then (if (c0 &&& (255 : Int32)) = p1 then (0 : Int32) else ((-(((((own_f14 p1) + (1 : Int32)) &&& (15 : Int32)) + (1 : Int32)) &&& (15 : Int32))) - (1 : Int32))) else ((-(((own_f14 p1) + (1 : Int32)) &&& (15 : Int32))) - (1 : Int32)))) else ((-(own_f14 p1)) - (1 : Int32))))
def own_Q13t2 (Z : State) (o0 : Addr) (p1 : Int32) (o2 : Addr) (x0 : Int32) (x1 : Int32) (k_s : ClassId) (k_i : ClassId) (k_d : ClassId) (d : Int32) (i0 : Addr) (i1 : Addr) (k_c0 : ClassId) (c0 : Int32) (k_c1 : ClassId) (c1 : Int32) (z_COMPACT_STRINGS : Int32) (w_slots_o0 : Addr) (w_ids_o0 : Addr) (w_value_o2 : Addr) (w_hash_i0 : Int32) (w_hashIsZero_i0 : Int32) (w_value_i0 : Addr) (w_hash_i1 : Int32) (w_hashIsZero_i1 : Int32) (w_value_i1 : Addr) (h0 : Heap) (n0 : Nat) (v : Option Value) (h : Heap) (L : List Loc) : Prop := ∃ hq_i0 zq_i0 : Int32, ∃ hq_i1 zq_i1 : Int32, v = some (.int (own_f13t2 p1 x0 x1 c0 c1)) ∧ Fr n0 L ∧ Keep h0 h [i0, i1] ∧ Exa Z h i0 "java/lang/String" ∧ Fld Z h i0 "java/lang/String" "coder" "B" (.int (0 : Int32)) ∧ Fld Z h i0 "java/lang/String" "value" "[B" (.ref w_value_i0) ∧ Exa Z h i1 "java/lang/String" ∧ Fld Z h i1 "java/lang/String" "coder" "B" (.int (0 : Int32)) ∧ Fld Z h i1 "java/lang/String" "value" "[B" (.ref w_value_i1) ∧ Fld Z h i0 "java/lang/String" "hash" "I" (.int hq_i0) ∧ Fld Z h i0 "java/lang/String" "hashIsZero" "Z" (.int zq_i0) ∧ own_ok hq_i0 zq_i0 c0 ∧ Fld Z h i1 "java/lang/String" "hash" "I" (.int hq_i1) ∧ Fld Z h i1 "java/lang/String" "hashIsZero" "Z" (.int zq_i1) ∧ own_ok hq_i1 zq_i1 c1
set_option maxRecDepth 65536 in
set_option maxHeartbeats 40000000 in
theorem own_rm13t2 (l : Launch) (Z : State) (a0 : Array Value) (hw : ∀ d ∈ tables_1, d.before a0 Z = true) (ws : List Jvm.Cond) (o0 : Addr) (p1 : Int32) (o2 : Addr) (x0 : Int32) (x1 : Int32) (k_s : ClassId) (k_i : ClassId) (k_d : ClassId) (d : Int32) (i0 : Addr) (i1 : Addr) (k_c0 : ClassId) (c0 : Int32) (k_c1 : ClassId) (c1 : Int32) (z_COMPACT_STRINGS : Int32) (w_slots_o0 : Addr) (w_ids_o0 : Addr) (w_value_o2 : Addr) (w_hash_i0 : Int32) (w_hashIsZero_i0 : Int32) (w_value_i0 : Addr) (w_hash_i1 : Int32) (w_hashIsZero_i1 : Int32) (w_value_i1 : Addr) (h0 : Heap) (n0 : Nat) (Z0 : n0 ≤ h0.size) (Hov : Ovr Z k_i "java/lang/String") (HC : ¬ (z_COMPACT_STRINGS = (0 : Int32))) (Hx0 : own_in x0) (Hx1 : own_in x1) (Hxy : ¬ x0 = x1) (Hi : i0 ≠ i1) (Ho0 : o2 ≠ i0) (Ho1 : o2 ≠ i1) (Hd : own_by d) (Hb0 : own_by c0) (Hk0 : own_ok w_hash_i0 w_hashIsZero_i0 c0) (Hb1 : own_by c1) (Hk1 : own_ok w_hash_i1 w_hashIsZero_i1 c1) (Hp : p1 = d &&& (255 : Int32)) (P_E_o0 : Exa Z h0 o0 "com/example/nestor/nestor/IdTable") (P_O_ : Old Z n0 h0) (P_B_java_lang_String_COMPACT_STRINGS : Sta Z Z.heap "java/lang/String" "COMPACT_STRINGS" "Z" (.int z_COMPACT_STRINGS)) (P_F_o0_slots : Fld Z h0 o0 "com/example/nestor/nestor/IdTable" "slots" "[I" (.ref w_slots_o0)) (P_V_w_slots_o0 : Arv Z h0 w_slots_o0 k_s .int (16 : Int32) (own_t2 x0 x1) (.int (0 : Int32))) (P_F_o0_ids : Fld Z h0 o0 "com/example/nestor/nestor/IdTable" "ids" "[Ljava/lang/String;" (.ref w_ids_o0)) (P_V_w_ids_o0 : Arv Z h0 w_ids_o0 k_i (.object "java/lang/String") (8 : Int32) [(.ref i0), (.ref i1), .null, .null, .null, .null, .null, .null] .null) (P_E_o2 : Exa Z h0 o2 "java/lang/String") (P_F_o2_coder : Fld Z h0 o2 "java/lang/String" "coder" "B" (.int (0 : Int32))) (P_F_o2_value : Fld Z h0 o2 "java/lang/String" "value" "[B" (.ref w_value_o2)) (P_V_w_value_o2 : Arv Z h0 w_value_o2 k_d .byte (1 : Int32) [(.int d)] (.int (0 : Int32))) (P_E_i0 : Exa Z h0 i0 "java/lang/String") (P_F_i0_hash : Fld Z h0 i0 "java/lang/String" "hash" "I" (.int w_hash_i0)) (P_F_i0_hashIsZero : Fld Z h0 i0 "java/lang/String" "hashIsZero" "Z" (.int w_hashIsZero_i0)) (P_F_i0_coder : Fld Z h0 i0 "java/lang/String" "coder" "B" (.int (0 : Int32))) (P_F_i0_value : Fld Z h0 i0 "java/lang/String" "value" "[B" (.ref w_value_i0)) (P_V_w_value_i0 : Arv Z h0 w_value_i0 k_c0 .byte (1 : Int32) [(.int c0)] (.int (0 : Int32))) (P_E_i1 : Exa Z h0 i1 "java/lang/String") (P_F_i1_hash : Fld Z h0 i1 "java/lang/String" "hash" "I" (.int w_hash_i1)) (P_F_i1_hashIsZero : Fld Z h0 i1 "java/lang/String" "hashIsZero" "Z" (.int w_hashIsZero_i1)) (P_F_i1_coder : Fld Z h0 i1 "java/lang/String" "coder" "B" (.int (0 : Int32))) (P_F_i1_value : Fld Z h0 i1 "java/lang/String" "value" "[B" (.ref w_value_i1)) (P_V_w_value_i1 : Arv Z h0 w_value_i1 k_c1 .byte (1 : Int32) [(.int c1)] (.int (0 : Int32))) (G_i0 : n0 ≤ i0) (G_i1 : n0 ≤ i1) :
    MetFree l (⟨"com/example/nestor/nestor/IdTable", "find", "(ILjava/lang/String;[BII)I"⟩ : MethodName) (head1 (Jvm.Cond.code (⟨"com/example/nestor/nestor/IdTable", "find", "(ILjava/lang/String;[BII)I"⟩ : MethodName) prog_10_method_7_code 10 (some .int) :: ws) ({ frames := 2, cells := 0, slots := 0, locals := 28 } : Room)) (fun a U => a = #[(.ref o0), (.int p1), (.ref o2), .null, (.int (0 : Int32)), (.int (0 : Int32))] ∧ Z.Warmed39 U.vm ∧ U.heap = h0) (fun _ _ _ _ _ => True) (fun _ U o U' => ∃ v L, o = .returned v ∧ own_Q13t2 Z o0 p1 o2 x0 x1 k_s k_i k_d d i0 i1 k_c0 c0 k_c1 c1 z_COMPACT_STRINGS w_slots_o0 w_ids_o0 w_value_o2 w_hash_i0 w_hashIsZero_i0 w_value_i0 w_hash_i1 w_hashIsZero_i1 w_value_i1 h0 n0 v U'.heap L ∧ FrameEnd U o U' L ({ frames := 2, cells := 0, slots := 0, locals := 28 } : Room).cells ({ frames := 2, cells := 0, slots := 0, locals := 28 } : Room).slots) := by
  refine MetFree.of_bodySF (plainFor_of_name own_pn13) hisR ?_
  intro p e s m args below meth c s₁ Bd hml0 hP hK
  obtain ⟨rfl, hZ, hh⟩ := hP
  have hx := Bd.exec
  have hlk : meth.locks = false := BodyLoose.notSynchronized Bd
  have hby := Bd.bytes
  have hml : c.maxLocals = 10 := hml0
  have hown : s.vm.findClass "com/example/nestor/nestor/IdTable" = some m.cls := findClass_of_methodNamed Bd.named
  have hnm := (name_of_methodNamed Bd.named Bd.method).1
  have X0 : Stand p l e ({ frames := 2, cells := 0, slots := 0, locals := 28 } : Room) s m #[(.ref o0), (.int p1), (.ref o2), .null, (.int (0 : Int32)), (.int (0 : Int32))] below meth c s₁ [] 0 0 := Stand.of_body Bd
  have e0 : s₁.heap = h0 := by rw [← hh, Bd.state]; rfl
  have N0 := Fr.nil n0
  have pre0 : ∀ t, Steps p.tables e below (s₁.setTop (mkF m 0 #[.val (.ref o0), .val (.int p1), .val (.ref o2), .val .null, .val (.int (0 : Int32)), .val (.int (0 : Int32)), .unset, .unset, .unset, .unset] [])) t → Steps p.tables e below (s₁.setTop (entryFrame m #[(.ref o0), (.int p1), (.ref o2), .null, (.int (0 : Int32)), (.int (0 : Int32))] 10)) t := fun t k => castTop (own_ef13t2 m o0 p1 o2) k
  obtain ⟨cq1, q1, q1'⟩ := P_E_o0.cell
  obtain ⟨_, _, ⟨T1, L1, k1, n1⟩, -, X1, ⟨Lc1, hQ1, l1, y1, z1⟩, st1⟩ := X0.privateBack hx (y := (⟨"com/example/nestor/nestor/IdTable", "home", "(I)I"⟩ : MethodName)) hown (mvT hZ (hw _ (List.mem_of_getElem? (i := 87) rfl))) (mvT hZ (hw _ (List.mem_of_getElem? (i := 88) rfl))) (mvT hZ (own_sel0 Z a0 hw)) (Cond.privateMethod_at (mvP hZ (hw _ (List.mem_of_getElem? (i := 89) rfl)) (args := #[]))) (mvT hZ (hw _ (List.mem_of_getElem? (i := 90) rfl))) (by decide) (backOf (W := 0) (own_rm14 l Z a0 hw [] o0 p1 w_slots_o0 k_s (own_t2 x0 x1) h0 n0 Z0 P_F_o0_slots P_V_w_slots_o0) hZ (hw _ (List.mem_of_getElem? (i := 90) rfl)) (hw _ (List.mem_of_getElem? (i := 28) rfl)) (by decide) (by decide)) (g := (mkF m 2 #[.val (.ref o0), .val (.int p1), .val (.ref o2), .val .null, .val (.int (0 : Int32)), .val (.int (0 : Int32)), .unset, .unset, .unset, .unset] [(.int p1), (.ref o0)])) rfl (by rw [hml]; rfl) (Steps.refl _) (a := o0) (by rw [e0]; exact q1) q1' (argsL := [(.int p1)]) (rest := []) (lenOf own_pd4 rfl) rfl (by show 2 * 0 + _ ≤ _; exact Nat.le_of_eq rfl) (hb hby own_d13_2) (fun _ _ => ⟨rfl, e0, (by decide : 0 + 0 ≤ _), (by decide : 0 + 0 ≤ _)⟩)
  dsimp only [Pt.U, Pt.locs, Pt.cells, Pt.slots] at X1 l1 y1 z1 st1 hQ1
  subst y1 z1
  obtain ⟨rfl, N1q, e1⟩ := hQ1
  have N2 : Fr n0 L1 := by rw [l1]; exact Fr.app N0 N1q
  obtain ⟨T3, X3, e3, st3⟩ := getF X1 hx hZ hown (host := "") (Or.inl (hw _ (List.mem_of_getElem? (i := 38) rfl))) Via.refl e1 P_F_o0_slots (g := (mkF m 18 #[.val (.ref o0), .val (.int p1), .val (.ref o2), .val .null, .val (.int (0 : Int32)), .val (.int (0 : Int32)), .val (.int (own_f14 p1)), .val (.int (0 : Int32)), .unset, .unset] [(.ref o0)])) rfl rfl (hb hby own_d13_18)
  obtain ⟨cl4, Ar4, q4, S4, N_4, Ha4, G4⟩ := id P_V_w_slots_o0
  have hin4 : ¬ ((own_f14 p1) < 0 ∨ cl4.slots.size ≤ ((own_f14 p1)).toNatClampNeg) := inb_of S4 (own_home p1)
  have pre5 : ∀ t, Steps p.tables e below (T3.setTop (mkF m 23 #[.val (.ref o0), .val (.int p1), .val (.ref o2), .val .null, .val (.int (0 : Int32)), .val (.int (0 : Int32)), .val (.int (own_f14 p1)), .val (.int (0 : Int32)), .unset, .unset] [(.int (own_f14 p1)), (.ref w_slots_o0)])) t → Steps p.tables e below (s₁.setTop (entryFrame m #[(.ref o0), (.int p1), (.ref o2), .null, (.int (0 : Int32)), (.int (0 : Int32))] 10)) t := fun t k => pre0 t (by
      refine XS.aloadN X0.here hx rfl (hb hby own_d13_0) rfl rfl ?_
      show Steps p.tables e below (s₁.setTop (mkF m 1 #[.val (.ref o0), .val (.int p1), .val (.ref o2), .val .null, .val (.int (0 : Int32)), .val (.int (0 : Int32)), .unset, .unset, .unset, .unset] [(.ref o0)])) _
      refine XS.iloadN X0.here hx rfl (hb hby own_d13_1) rfl ?_
      refine st1.trans ?_
      show Steps p.tables e below (T1.setTop (mkF m 5 #[.val (.ref o0), .val (.int p1), .val (.ref o2), .val .null, .val (.int (0 : Int32)), .val (.int (0 : Int32)), .unset, .unset, .unset, .unset] [(.int (own_f14 p1))])) _
      refine XS.istore X1.here hx rfl (hb hby own_d13_5) rfl (l' := #[.val (.ref o0), .val (.int p1), .val (.ref o2), .val .null, .val (.int (0 : Int32)), .val (.int (0 : Int32)), .val (.int (own_f14 p1)), .unset, .unset, .unset]) rfl ?_
      refine XS.iconst X1.here hx rfl (hb hby own_d13_7) ?_
      refine XS.istore X1.here hx rfl (hb hby own_d13_8) rfl (l' := #[.val (.ref o0), .val (.int p1), .val (.ref o2), .val .null, .val (.int (0 : Int32)), .val (.int (0 : Int32)), .val (.int (own_f14 p1)), .val (.int (0 : Int32)), .unset, .unset]) rfl ?_
      refine XS.iload X1.here hx rfl (hb hby own_d13_10) rfl ?_
      show Steps p.tables e below (T1.setTop (mkF m 12 #[.val (.ref o0), .val (.int p1), .val (.ref o2), .val .null, .val (.int (0 : Int32)), .val (.int (0 : Int32)), .val (.int (own_f14 p1)), .val (.int (0 : Int32)), .unset, .unset] [(.int (0 : Int32))])) _
      refine XS.bipush X1.here hx rfl (hb hby own_d13_12) ?_
      refine XS.icmpNo X1.here hx rfl (hb hby own_d13_14) rfl (tlt (by decide : (0 : Int32) < (16 : Int32))).2.1 ?_
      refine XS.aloadN X1.here hx rfl (hb hby own_d13_17) rfl rfl ?_
      refine st3 _ ?_
      show Steps p.tables e below (T3.setTop (mkF m 21 #[.val (.ref o0), .val (.int p1), .val (.ref o2), .val .null, .val (.int (0 : Int32)), .val (.int (0 : Int32)), .val (.int (own_f14 p1)), .val (.int (0 : Int32)), .unset, .unset] [(.ref w_slots_o0)])) _
      refine XS.iload X3.here hx rfl (hb hby own_d13_21) rfl ?_
      exact k)
  by_cases hc6 : (own_f14 p1) = x0
  · obtain ⟨T7, X7, e7, st7⟩ := getF X3 hx hZ hown (host := "") (Or.inl (hw _ (List.mem_of_getElem? (i := 35) rfl))) Via.refl e3 P_F_o0_ids (g := (mkF m 40 #[.val (.ref o0), .val (.int p1), .val (.ref o2), .val .null, .val (.int (0 : Int32)), .val (.int (0 : Int32)), .val (.int (own_f14 p1)), .val (.int (0 : Int32)), .val (.int (0 : Int32)), .unset] [(.ref o0)])) rfl rfl (hb hby own_d13_40)
    obtain ⟨cl8, Ar8, q8, S8, N_8, Ha8, G8⟩ := id P_V_w_ids_o0
    have hin8 : ¬ ((0 : Int32) < 0 ∨ cl8.slots.size ≤ ((0 : Int32)).toNatClampNeg) := inb_of S8 ⟨by decide, by decide⟩
    have f10 : Sta Z h0 "java/lang/String" "COMPACT_STRINGS" "Z" (.int z_COMPACT_STRINGS) := P_B_java_lang_String_COMPACT_STRINGS.ext P_O_.2
    obtain ⟨cq9, kq9, q9a, q9b, q9c⟩ := isOf hZ e7 P_E_i0
    obtain ⟨_, _, ⟨T9, L9, k9, n9⟩, -, X9, ⟨Lc9, hQ9, l9, y9, z9⟩, st9⟩ := X7.virtualBack hx (y := (⟨"java/lang/String", "hashCode", "()I"⟩ : MethodName)) (z := (⟨"java/lang/String", "hashCode", "()I"⟩ : MethodName)) hown (mvT hZ (hw _ (List.mem_of_getElem? (i := 66) rfl))) (mvT hZ (hw _ (List.mem_of_getElem? (i := 67) rfl))) (notFace_of_selects (args := #[]) (mvT hZ (hw _ (List.mem_of_getElem? (i := 69) rfl)))) (mvT hZ (hw _ (List.mem_of_getElem? (i := 69) rfl))) (mvT hZ (hw _ (List.mem_of_getElem? (i := 68) rfl))) (by decide) (backOf (W := 0) (own_rm10 l Z a0 hw [] i0 w_hash_i0 w_hashIsZero_i0 z_COMPACT_STRINGS w_value_i0 k_c0 c0 h0 n0 Z0 Hk0 P_F_i0_hash P_F_i0_hashIsZero P_F_i0_coder f10 HC P_E_i0 P_F_i0_value P_V_w_value_i0 G_i0) hZ (hw _ (List.mem_of_getElem? (i := 70) rfl)) (hw _ (List.mem_of_getElem? (i := 2) rfl)) (by decide) (by decide)) q9a q9c (g := (mkF m 50 #[.val (.ref o0), .val (.int p1), .val (.ref o2), .val .null, .val (.int (0 : Int32)), .val (.int (0 : Int32)), .val (.int (own_f14 p1)), .val (.int (0 : Int32)), .val (.int (0 : Int32)), .val (.ref i0)] [(.ref i0)])) rfl (by rw [hml]; rfl) (Steps.refl _) (argsL := []) (rest := []) (lenOf own_pd9 rfl) rfl (by show 2 * 0 + _ ≤ _; exact Nat.le_of_eq rfl) (hb hby own_d13_50) (fun _ _ => ⟨rfl, e7, (by decide : 0 + 0 ≤ _), (by decide : 0 + 0 ≤ _)⟩)
    dsimp only [Pt.U, Pt.locs, Pt.cells, Pt.slots] at X9 l9 y9 z9 st9 hQ9
    subst y9 z9
    obtain ⟨hq9_o0, zq9_o0, rfl, N9q, K9, f11, f12, f13, f14, f15, ok16⟩ := hQ9
    have f17 : Old Z n0 T9.heap := P_O_.keep K9 (allS G_i0 all0)
    have f18 : Exa Z T9.heap o0 "com/example/nestor/nestor/IdTable" := P_E_o0.keep K9
    have f19 : Fld Z T9.heap o0 "com/example/nestor/nestor/IdTable" "slots" "[I" (.ref w_slots_o0) := P_F_o0_slots.keep K9 (ninS (Exa.ne P_E_o0 P_E_i0 (by decide)) nin0)
    have f20 : Arv Z T9.heap w_slots_o0 k_s .int (16 : Int32) (own_t2 x0 x1) (.int (0 : Int32)) := P_V_w_slots_o0.keep K9 (ninS (Ne.symm (Exa.neArv P_E_i0 P_V_w_slots_o0 (hw _ (List.mem_of_getElem? (i := 10) rfl)))) nin0)
    have f21 : Fld Z T9.heap o0 "com/example/nestor/nestor/IdTable" "ids" "[Ljava/lang/String;" (.ref w_ids_o0) := P_F_o0_ids.keep K9 (ninS (Exa.ne P_E_o0 P_E_i0 (by decide)) nin0)
    have f22 : Arv Z T9.heap w_ids_o0 k_i (.object "java/lang/String") (8 : Int32) [(.ref i0), (.ref i1), .null, .null, .null, .null, .null, .null] .null := P_V_w_ids_o0.keep K9 (ninS (Ne.symm (Exa.neArv P_E_i0 P_V_w_ids_o0 (hw _ (List.mem_of_getElem? (i := 10) rfl)))) nin0)
    have f23 : Exa Z T9.heap o2 "java/lang/String" := P_E_o2.keep K9
    have f24 : Fld Z T9.heap o2 "java/lang/String" "coder" "B" (.int (0 : Int32)) := P_F_o2_coder.keep K9 (ninS Ho0 nin0)
    have f25 : Fld Z T9.heap o2 "java/lang/String" "value" "[B" (.ref w_value_o2) := P_F_o2_value.keep K9 (ninS Ho0 nin0)
    have f26 : Arv Z T9.heap w_value_o2 k_d .byte (1 : Int32) [(.int d)] (.int (0 : Int32)) := P_V_w_value_o2.keep K9 (ninS (Ne.symm (Exa.neArv P_E_i0 P_V_w_value_o2 (hw _ (List.mem_of_getElem? (i := 10) rfl)))) nin0)
    have f27 : Arv Z T9.heap w_value_i0 k_c0 .byte (1 : Int32) [(.int c0)] (.int (0 : Int32)) := P_V_w_value_i0.keep K9 (ninS (Ne.symm (Exa.neArv P_E_i0 P_V_w_value_i0 (hw _ (List.mem_of_getElem? (i := 10) rfl)))) nin0)
    have f28 : Exa Z T9.heap i1 "java/lang/String" := P_E_i1.keep K9
    have f29 : Fld Z T9.heap i1 "java/lang/String" "hash" "I" (.int w_hash_i1) := P_F_i1_hash.keep K9 (ninS (Ne.symm Hi) nin0)
    have f30 : Fld Z T9.heap i1 "java/lang/String" "hashIsZero" "Z" (.int w_hashIsZero_i1) := P_F_i1_hashIsZero.keep K9 (ninS (Ne.symm Hi) nin0)
    have f31 : Fld Z T9.heap i1 "java/lang/String" "coder" "B" (.int (0 : Int32)) := P_F_i1_coder.keep K9 (ninS (Ne.symm Hi) nin0)
    have f32 : Fld Z T9.heap i1 "java/lang/String" "value" "[B" (.ref w_value_i1) := P_F_i1_value.keep K9 (ninS (Ne.symm Hi) nin0)
    have f33 : Arv Z T9.heap w_value_i1 k_c1 .byte (1 : Int32) [(.int c1)] (.int (0 : Int32)) := P_V_w_value_i1.keep K9 (ninS (Ne.symm (Exa.neArv P_E_i0 P_V_w_value_i1 (hw _ (List.mem_of_getElem? (i := 10) rfl)))) nin0)
    have zs34 : n0 ≤ T9.heap.size := Nat.le_trans Z0 K9.1
    have K35 : Keep h0 h0 [i0, i1] := Keep.refl h0 [i0, i1]
    have K36 : Keep h0 T9.heap [i0, i1] := K35.trans K9 (allS (Or.inl (by simp)) all0)
    have N37 : Fr n0 L9 := by rw [l9]; exact Fr.app N2 N9q
    have pre38 : ∀ t, Steps p.tables e below (T9.setTop (mkF m 54 #[.val (.ref o0), .val (.int p1), .val (.ref o2), .val .null, .val (.int (0 : Int32)), .val (.int (0 : Int32)), .val (.int (own_f14 p1)), .val (.int (0 : Int32)), .val (.int (0 : Int32)), .val (.ref i0)] [(.int p1), (.int (c0 &&& (255 : Int32)))])) t → Steps p.tables e below (s₁.setTop (entryFrame m #[(.ref o0), (.int p1), (.ref o2), .null, (.int (0 : Int32)), (.int (0 : Int32))] 10)) t := fun t k => pre5 t (by
        refine X3.iaload hx (j := (own_f14 p1)) (v := (.int (1 : Int32))) (by rw [e3]; exact Ar4.1) (State.isArrayOf_alike hZ.alike Ar4.2.1) Ar4.2.2 hin4 (Has.at Ha4 hin4 (own_t2x x0 x1 _ Hx0 Hx1 Hxy hc6)) (g := (mkF m 23 #[.val (.ref o0), .val (.int p1), .val (.ref o2), .val .null, .val (.int (0 : Int32)), .val (.int (0 : Int32)), .val (.int (own_f14 p1)), .val (.int (0 : Int32)), .unset, .unset] [(.int (own_f14 p1)), (.ref w_slots_o0)])) rfl rfl (hb hby own_d13_23) _ ?_
        show Steps p.tables e below (T3.setTop (mkF m 24 #[.val (.ref o0), .val (.int p1), .val (.ref o2), .val .null, .val (.int (0 : Int32)), .val (.int (0 : Int32)), .val (.int (own_f14 p1)), .val (.int (0 : Int32)), .unset, .unset] [(.int (1 : Int32))])) _
        refine XS.iconst X3.here hx rfl (hb hby own_d13_24) ?_
        refine XS.isub X3.here hx rfl (hb hby own_d13_25) rfl ?_
        refine XS.istore X3.here hx rfl (hb hby own_d13_26) rfl (l' := #[.val (.ref o0), .val (.int p1), .val (.ref o2), .val .null, .val (.int (0 : Int32)), .val (.int (0 : Int32)), .val (.int (own_f14 p1)), .val (.int (0 : Int32)), .val (.int (0 : Int32)), .unset]) rfl ?_
        refine XS.iload X3.here hx rfl (hb hby own_d13_28) rfl ?_
        show Steps p.tables e below (T3.setTop (mkF m 30 #[.val (.ref o0), .val (.int p1), .val (.ref o2), .val .null, .val (.int (0 : Int32)), .val (.int (0 : Int32)), .val (.int (own_f14 p1)), .val (.int (0 : Int32)), .val (.int (0 : Int32)), .unset] [(.int (0 : Int32))])) _
        refine XS.ifYes X3.here hx rfl (pc0 := 30) (pc' := 39) rfl (hb hby own_d13_30) rfl ((if0 _ _).trans (flt (by decide : ¬ ((0 : Int32) < (0 : Int32)))).2.1) (by decide) (by decide) ?_
        refine XS.aloadN X3.here hx rfl (hb hby own_d13_39) rfl rfl ?_
        refine st7 _ ?_
        show Steps p.tables e below (T7.setTop (mkF m 43 #[.val (.ref o0), .val (.int p1), .val (.ref o2), .val .null, .val (.int (0 : Int32)), .val (.int (0 : Int32)), .val (.int (own_f14 p1)), .val (.int (0 : Int32)), .val (.int (0 : Int32)), .unset] [(.ref w_ids_o0)])) _
        refine XS.iload X7.here hx rfl (hb hby own_d13_43) rfl ?_
        refine X7.aaload hx (j := (0 : Int32)) (v := (.ref i0)) (by rw [e7]; exact Ar8.1) (State.isArrayOf_alike hZ.alike Ar8.2.1) rfl Ar8.2.2 hin8 (Has.at Ha8 hin8 (rfl : (_ : Value) = (.ref i0))) (g := (mkF m 45 #[.val (.ref o0), .val (.int p1), .val (.ref o2), .val .null, .val (.int (0 : Int32)), .val (.int (0 : Int32)), .val (.int (own_f14 p1)), .val (.int (0 : Int32)), .val (.int (0 : Int32)), .unset] [(.int (0 : Int32)), (.ref w_ids_o0)])) rfl rfl (hb hby own_d13_45) _ ?_
        refine XS.astore X7.here hx rfl (hb hby own_d13_46) rfl rfl (l' := #[.val (.ref o0), .val (.int p1), .val (.ref o2), .val .null, .val (.int (0 : Int32)), .val (.int (0 : Int32)), .val (.int (own_f14 p1)), .val (.int (0 : Int32)), .val (.int (0 : Int32)), .val (.ref i0)]) rfl ?_
        refine XS.aload X7.here hx rfl (hb hby own_d13_48) rfl rfl ?_
        show Steps p.tables e below (T7.setTop (mkF m 50 #[.val (.ref o0), .val (.int p1), .val (.ref o2), .val .null, .val (.int (0 : Int32)), .val (.int (0 : Int32)), .val (.int (own_f14 p1)), .val (.int (0 : Int32)), .val (.int (0 : Int32)), .val (.ref i0)] [(.ref i0)])) _
        refine st9.trans ?_
        show Steps p.tables e below (T9.setTop (mkF m 53 #[.val (.ref o0), .val (.int p1), .val (.ref o2), .val .null, .val (.int (0 : Int32)), .val (.int (0 : Int32)), .val (.int (own_f14 p1)), .val (.int (0 : Int32)), .val (.int (0 : Int32)), .val (.ref i0)] [(.int (c0 &&& (255 : Int32)))])) _
        refine XS.iloadN X9.here hx rfl (hb hby own_d13_53) rfl ?_
        exact k)
    by_cases hc39 : (c0 &&& (255 : Int32)) = p1
    · have f41 : Sta Z T9.heap "java/lang/String" "COMPACT_STRINGS" "Z" (.int z_COMPACT_STRINGS) := P_B_java_lang_String_COMPACT_STRINGS.ext f17.2
      obtain ⟨cq40, kq40, q40a, q40b, q40c⟩ := isOf hZ rfl f12
      obtain ⟨_, _, ⟨T40, L40, k40, n40⟩, -, X40, ⟨Lc40, hQ40, l40, y40, z40⟩, st40⟩ := X9.virtualBack hx (y := (⟨"java/lang/String", "equals", "(Ljava/lang/Object;)Z"⟩ : MethodName)) (z := (⟨"java/lang/String", "equals", "(Ljava/lang/Object;)Z"⟩ : MethodName)) hown (mvT hZ (hw _ (List.mem_of_getElem? (i := 138) rfl))) (mvT hZ (hw _ (List.mem_of_getElem? (i := 113) rfl))) (notFace_of_selects (args := #[]) (mvT hZ (hw _ (List.mem_of_getElem? (i := 115) rfl)))) (mvT hZ (hw _ (List.mem_of_getElem? (i := 115) rfl))) (mvT hZ (hw _ (List.mem_of_getElem? (i := 114) rfl))) (by decide) (backOf (W := 0) (own_rm19 l Z a0 hw [] i0 o2 z_COMPACT_STRINGS w_value_i0 w_value_o2 k_c0 c0 k_d d T9.heap n0 zs34 HC (Ne.symm Ho0) f11 f24 f23 f41 f13 f25 f27 f26) hZ (hw _ (List.mem_of_getElem? (i := 116) rfl)) (hw _ (List.mem_of_getElem? (i := 2) rfl)) (by decide) (by decide)) q40a q40c (g := (mkF m 80 #[.val (.ref o0), .val (.int p1), .val (.ref o2), .val .null, .val (.int (0 : Int32)), .val (.int (0 : Int32)), .val (.int (own_f14 p1)), .val (.int (0 : Int32)), .val (.int (0 : Int32)), .val (.ref i0)] [(.ref o2), (.ref i0)])) rfl (by rw [hml]; rfl) (Steps.refl _) (argsL := [(.ref o2)]) (rest := []) (lenOf own_pd10 rfl) rfl (by show 2 * 0 + _ ≤ _; exact Nat.le_of_eq rfl) (hb hby own_d13_80) (fun _ _ => ⟨rfl, rfl, (by decide : 0 + 0 ≤ _), (by decide : 0 + 0 ≤ _)⟩)
      dsimp only [Pt.U, Pt.locs, Pt.cells, Pt.slots] at X40 l40 y40 z40 st40 hQ40
      subst y40 z40
      obtain ⟨rfl, N40q, e40⟩ := hQ40
      have N42 : Fr n0 L40 := by rw [l40]; exact Fr.app N37 N40q
      have pre43 : ∀ t, Steps p.tables e below (T40.setTop (mkF m 88 #[.val (.ref o0), .val (.int p1), .val (.ref o2), .val .null, .val (.int (0 : Int32)), .val (.int (0 : Int32)), .val (.int (own_f14 p1)), .val (.int (0 : Int32)), .val (.int (0 : Int32)), .val (.ref i0)] [(.int (0 : Int32))])) t → Steps p.tables e below (s₁.setTop (entryFrame m #[(.ref o0), (.int p1), (.ref o2), .null, (.int (0 : Int32)), (.int (0 : Int32))] 10)) t := fun t k => pre38 t (by
          refine XS.icmpNo X9.here hx rfl (hb hby own_d13_54) rfl (teq hc39).2 ?_
          show Steps p.tables e below (T9.setTop (mkF m 57 #[.val (.ref o0), .val (.int p1), .val (.ref o2), .val .null, .val (.int (0 : Int32)), .val (.int (0 : Int32)), .val (.int (own_f14 p1)), .val (.int (0 : Int32)), .val (.int (0 : Int32)), .val (.ref i0)] [])) _
          refine XS.aloadN X9.here hx rfl (hb hby own_d13_57) rfl rfl ?_
          refine XS.ifnonnullYes X9.here hx rfl (pc0 := 58) (pc' := 77) rfl (hb hby own_d13_58) rfl (by decide) (by decide) ?_
          refine XS.aload X9.here hx rfl (hb hby own_d13_77) rfl rfl ?_
          refine XS.aloadN X9.here hx rfl (hb hby own_d13_79) rfl rfl ?_
          show Steps p.tables e below (T9.setTop (mkF m 80 #[.val (.ref o0), .val (.int p1), .val (.ref o2), .val .null, .val (.int (0 : Int32)), .val (.int (0 : Int32)), .val (.int (own_f14 p1)), .val (.int (0 : Int32)), .val (.int (0 : Int32)), .val (.ref i0)] [(.ref o2), (.ref i0)])) _
          refine st40.trans ?_
          show Steps p.tables e below (T40.setTop (mkF m 83 #[.val (.ref o0), .val (.int p1), .val (.ref o2), .val .null, .val (.int (0 : Int32)), .val (.int (0 : Int32)), .val (.int (own_f14 p1)), .val (.int (0 : Int32)), .val (.int (0 : Int32)), .val (.ref i0)] [(.int (own_f19 c0 d))])) _
          refine XS.ifNo X40.here hx rfl (hb hby own_d13_83) rfl ((if0 _ _).trans (feq (own_same c0 d p1 Hb0 Hd Hp hc39)).1) ?_
          refine XS.iload X40.here hx rfl (hb hby own_d13_86) rfl ?_
          exact k)
      obtain ⟨fs, hr, hrun, hended, hW, hsame⟩ := X40.leave (v := some (.int (0 : Int32))) (fun h => by rw [Bd.returns] at h; cases h) (hlocks := hlk)
      refine ⟨_, _, pre43 _ ?_, hrun, hended, _, _, rfl, ?_, ⟨_, rfl⟩, hW, hsame.mono (by decide) (by decide)⟩
      · show Steps p.tables e below (T40.setTop (mkF m 88 #[.val (.ref o0), .val (.int p1), .val (.ref o2), .val .null, .val (.int (0 : Int32)), .val (.int (0 : Int32)), .val (.int (own_f14 p1)), .val (.int (0 : Int32)), .val (.int (0 : Int32)), .val (.ref i0)] [(.int (0 : Int32))])) _
        exact retI X40 hx Bd.returns (hb hby own_d13_88) hr
      · show own_Q13t2 Z o0 p1 o2 x0 x1 k_s k_i k_d d i0 i1 k_c0 c0 k_c1 c1 z_COMPACT_STRINGS w_slots_o0 w_ids_o0 w_value_o2 w_hash_i0 w_hashIsZero_i0 w_value_i0 w_hash_i1 w_hashIsZero_i1 w_value_i1 h0 n0 _ T40.heap _; rw [e40]; exact ⟨hq9_o0, zq9_o0, w_hash_i1, w_hashIsZero_i1, (by show some (Value.int _) = some (.int (own_f13t2 p1 x0 x1 c0 c1)); unfold own_f13t2; rw [if_pos hc6, if_pos hc39]), N42, K36, f12, f11, f13, f28, f31, f32, f14, f15, ok16, f29, f30, Hk1⟩
    · obtain ⟨T44, X44, e44, st44⟩ := getF X9 hx hZ hown (host := "") (Or.inl (hw _ (List.mem_of_getElem? (i := 38) rfl))) Via.refl rfl f19 (g := (mkF m 94 #[.val (.ref o0), .val (.int p1), .val (.ref o2), .val .null, .val (.int (0 : Int32)), .val (.int (0 : Int32)), .val (.int (own_f14 p1)), .val (.int (0 : Int32)), .val (.int (0 : Int32)), .val (.ref i0)] [(.ref o0), (.int ((own_f14 p1) + (1 : Int32)))])) rfl rfl (hb hby own_d13_94)
      obtain ⟨cl45, Ar45, q45, S45, N_45, Ha45, G45⟩ := id f20
      obtain ⟨T46, X46, e46, st46⟩ := getF X44 hx hZ hown (host := "") (Or.inl (hw _ (List.mem_of_getElem? (i := 38) rfl))) Via.refl e44 f19 (g := (mkF m 18 #[.val (.ref o0), .val (.int p1), .val (.ref o2), .val .null, .val (.int (0 : Int32)), .val (.int (0 : Int32)), .val (.int (((own_f14 p1) + (1 : Int32)) &&& (15 : Int32))), .val (.int (1 : Int32)), .val (.int (0 : Int32)), .val (.ref i0)] [(.ref o0)])) rfl rfl (hb hby own_d13_18)
      obtain ⟨cl47, Ar47, q47, S47, N_47, Ha47, G47⟩ := id f20
      have hin47 : ¬ ((((own_f14 p1) + (1 : Int32)) &&& (15 : Int32)) < 0 ∨ cl47.slots.size ≤ ((((own_f14 p1) + (1 : Int32)) &&& (15 : Int32))).toNatClampNeg) := inb_of S47 (own_m15 _)
      have pre48 : ∀ t, Steps p.tables e below (T46.setTop (mkF m 23 #[.val (.ref o0), .val (.int p1), .val (.ref o2), .val .null, .val (.int (0 : Int32)), .val (.int (0 : Int32)), .val (.int (((own_f14 p1) + (1 : Int32)) &&& (15 : Int32))), .val (.int (1 : Int32)), .val (.int (0 : Int32)), .val (.ref i0)] [(.int (((own_f14 p1) + (1 : Int32)) &&& (15 : Int32))), (.ref w_slots_o0)])) t → Steps p.tables e below (s₁.setTop (entryFrame m #[(.ref o0), (.int p1), (.ref o2), .null, (.int (0 : Int32)), (.int (0 : Int32))] 10)) t := fun t k => pre38 t (by
          refine XS.icmpYes X9.here hx rfl (pc0 := 54) (pc' := 89) rfl (hb hby own_d13_54) rfl (feq hc39).2 (by decide) (by decide) ?_
          show Steps p.tables e below (T9.setTop (mkF m 89 #[.val (.ref o0), .val (.int p1), .val (.ref o2), .val .null, .val (.int (0 : Int32)), .val (.int (0 : Int32)), .val (.int (own_f14 p1)), .val (.int (0 : Int32)), .val (.int (0 : Int32)), .val (.ref i0)] [])) _
          refine XS.iload X9.here hx rfl (hb hby own_d13_89) rfl ?_
          refine XS.iconst X9.here hx rfl (hb hby own_d13_91) ?_
          refine XS.iadd X9.here hx rfl (hb hby own_d13_92) rfl ?_
          refine XS.aloadN X9.here hx rfl (hb hby own_d13_93) rfl rfl ?_
          show Steps p.tables e below (T9.setTop (mkF m 94 #[.val (.ref o0), .val (.int p1), .val (.ref o2), .val .null, .val (.int (0 : Int32)), .val (.int (0 : Int32)), .val (.int (own_f14 p1)), .val (.int (0 : Int32)), .val (.int (0 : Int32)), .val (.ref i0)] [(.ref o0), (.int ((own_f14 p1) + (1 : Int32)))])) _
          refine st44 _ ?_
          show Steps p.tables e below (T44.setTop (mkF m 97 #[.val (.ref o0), .val (.int p1), .val (.ref o2), .val .null, .val (.int (0 : Int32)), .val (.int (0 : Int32)), .val (.int (own_f14 p1)), .val (.int (0 : Int32)), .val (.int (0 : Int32)), .val (.ref i0)] [(.ref w_slots_o0), (.int ((own_f14 p1) + (1 : Int32)))])) _
          refine X44.arraylength hx (by rw [e44]; exact Ar45.1) (State.isArrayOf_alike hZ.alike Ar45.2.1) (g := (mkF m 97 #[.val (.ref o0), .val (.int p1), .val (.ref o2), .val .null, .val (.int (0 : Int32)), .val (.int (0 : Int32)), .val (.int (own_f14 p1)), .val (.int (0 : Int32)), .val (.int (0 : Int32)), .val (.ref i0)] [(.ref w_slots_o0), (.int ((own_f14 p1) + (1 : Int32)))])) rfl rfl (hb hby own_d13_97) _ ?_
          rw [len_of S45 N_45]
          refine XS.iconst X44.here hx rfl (hb hby own_d13_98) ?_
          refine XS.isub X44.here hx rfl (hb hby own_d13_99) rfl ?_
          show Steps p.tables e below (T44.setTop (mkF m 100 #[.val (.ref o0), .val (.int p1), .val (.ref o2), .val .null, .val (.int (0 : Int32)), .val (.int (0 : Int32)), .val (.int (own_f14 p1)), .val (.int (0 : Int32)), .val (.int (0 : Int32)), .val (.ref i0)] [(.int (15 : Int32)), (.int ((own_f14 p1) + (1 : Int32)))])) _
          refine XS.iand X44.here hx rfl (hb hby own_d13_100) rfl ?_
          refine XS.istore X44.here hx rfl (hb hby own_d13_101) rfl (l' := #[.val (.ref o0), .val (.int p1), .val (.ref o2), .val .null, .val (.int (0 : Int32)), .val (.int (0 : Int32)), .val (.int (((own_f14 p1) + (1 : Int32)) &&& (15 : Int32))), .val (.int (0 : Int32)), .val (.int (0 : Int32)), .val (.ref i0)]) rfl ?_
          refine XS.iinc X44.here hx rfl (hb hby own_d13_103) rfl (l' := #[.val (.ref o0), .val (.int p1), .val (.ref o2), .val .null, .val (.int (0 : Int32)), .val (.int (0 : Int32)), .val (.int (((own_f14 p1) + (1 : Int32)) &&& (15 : Int32))), .val (.int (1 : Int32)), .val (.int (0 : Int32)), .val (.ref i0)]) rfl ?_
          refine XS.goto X44.here hx rfl (pc0 := 106) (pc' := 10) rfl (hb hby own_d13_106) (by decide) (by decide) ?_
          show Steps p.tables e below (T44.setTop (mkF m 10 #[.val (.ref o0), .val (.int p1), .val (.ref o2), .val .null, .val (.int (0 : Int32)), .val (.int (0 : Int32)), .val (.int (((own_f14 p1) + (1 : Int32)) &&& (15 : Int32))), .val (.int (1 : Int32)), .val (.int (0 : Int32)), .val (.ref i0)] [])) _
          refine XS.iload X44.here hx rfl (hb hby own_d13_10) rfl ?_
          refine XS.bipush X44.here hx rfl (hb hby own_d13_12) ?_
          refine XS.icmpNo X44.here hx rfl (hb hby own_d13_14) rfl (tlt (by decide : (1 : Int32) < (16 : Int32))).2.1 ?_
          refine XS.aloadN X44.here hx rfl (hb hby own_d13_17) rfl rfl ?_
          show Steps p.tables e below (T44.setTop (mkF m 18 #[.val (.ref o0), .val (.int p1), .val (.ref o2), .val .null, .val (.int (0 : Int32)), .val (.int (0 : Int32)), .val (.int (((own_f14 p1) + (1 : Int32)) &&& (15 : Int32))), .val (.int (1 : Int32)), .val (.int (0 : Int32)), .val (.ref i0)] [(.ref o0)])) _
          refine st46 _ ?_
          show Steps p.tables e below (T46.setTop (mkF m 21 #[.val (.ref o0), .val (.int p1), .val (.ref o2), .val .null, .val (.int (0 : Int32)), .val (.int (0 : Int32)), .val (.int (((own_f14 p1) + (1 : Int32)) &&& (15 : Int32))), .val (.int (1 : Int32)), .val (.int (0 : Int32)), .val (.ref i0)] [(.ref w_slots_o0)])) _
          refine XS.iload X46.here hx rfl (hb hby own_d13_21) rfl ?_
          exact k)
      by_cases hc49 : (((own_f14 p1) + (1 : Int32)) &&& (15 : Int32)) = x1
      · obtain ⟨T50, X50, e50, st50⟩ := getF X46 hx hZ hown (host := "") (Or.inl (hw _ (List.mem_of_getElem? (i := 35) rfl))) Via.refl e46 f21 (g := (mkF m 40 #[.val (.ref o0), .val (.int p1), .val (.ref o2), .val .null, .val (.int (0 : Int32)), .val (.int (0 : Int32)), .val (.int (((own_f14 p1) + (1 : Int32)) &&& (15 : Int32))), .val (.int (1 : Int32)), .val (.int (1 : Int32)), .val (.ref i0)] [(.ref o0)])) rfl rfl (hb hby own_d13_40)
        obtain ⟨cl51, Ar51, q51, S51, N_51, Ha51, G51⟩ := id f22
        have hin51 : ¬ ((1 : Int32) < 0 ∨ cl51.slots.size ≤ ((1 : Int32)).toNatClampNeg) := inb_of S51 ⟨by decide, by decide⟩
        have f53 : Sta Z T9.heap "java/lang/String" "COMPACT_STRINGS" "Z" (.int z_COMPACT_STRINGS) := P_B_java_lang_String_COMPACT_STRINGS.ext f17.2
        obtain ⟨cq52, kq52, q52a, q52b, q52c⟩ := isOf hZ e50 f28
        obtain ⟨_, _, ⟨T52, L52, k52, n52⟩, -, X52, ⟨Lc52, hQ52, l52, y52, z52⟩, st52⟩ := X50.virtualBack hx (y := (⟨"java/lang/String", "hashCode", "()I"⟩ : MethodName)) (z := (⟨"java/lang/String", "hashCode", "()I"⟩ : MethodName)) hown (mvT hZ (hw _ (List.mem_of_getElem? (i := 66) rfl))) (mvT hZ (hw _ (List.mem_of_getElem? (i := 67) rfl))) (notFace_of_selects (args := #[]) (mvT hZ (hw _ (List.mem_of_getElem? (i := 69) rfl)))) (mvT hZ (hw _ (List.mem_of_getElem? (i := 69) rfl))) (mvT hZ (hw _ (List.mem_of_getElem? (i := 68) rfl))) (by decide) (backOf (W := 0) (own_rm10 l Z a0 hw [] i1 w_hash_i1 w_hashIsZero_i1 z_COMPACT_STRINGS w_value_i1 k_c1 c1 T9.heap n0 zs34 Hk1 f29 f30 f31 f53 HC f28 f32 f33 G_i1) hZ (hw _ (List.mem_of_getElem? (i := 70) rfl)) (hw _ (List.mem_of_getElem? (i := 2) rfl)) (by decide) (by decide)) q52a q52c (g := (mkF m 50 #[.val (.ref o0), .val (.int p1), .val (.ref o2), .val .null, .val (.int (0 : Int32)), .val (.int (0 : Int32)), .val (.int (((own_f14 p1) + (1 : Int32)) &&& (15 : Int32))), .val (.int (1 : Int32)), .val (.int (1 : Int32)), .val (.ref i1)] [(.ref i1)])) rfl (by rw [hml]; rfl) (Steps.refl _) (argsL := []) (rest := []) (lenOf own_pd9 rfl) rfl (by show 2 * 0 + _ ≤ _; exact Nat.le_of_eq rfl) (hb hby own_d13_50) (fun _ _ => ⟨rfl, e50, (by decide : 0 + 0 ≤ _), (by decide : 0 + 0 ≤ _)⟩)
        dsimp only [Pt.U, Pt.locs, Pt.cells, Pt.slots] at X52 l52 y52 z52 st52 hQ52
        subst y52 z52
        obtain ⟨hq52_o0, zq52_o0, rfl, N52q, K52, f54, f55, f56, f57, f58, ok59⟩ := hQ52
        have f60 : Old Z n0 T52.heap := f17.keep K52 (allS G_i1 all0)
        have f61 : Exa Z T52.heap o0 "com/example/nestor/nestor/IdTable" := f18.keep K52
        have f62 : Fld Z T52.heap o0 "com/example/nestor/nestor/IdTable" "slots" "[I" (.ref w_slots_o0) := f19.keep K52 (ninS (Exa.ne f18 f28 (by decide)) nin0)
        have f63 : Arv Z T52.heap w_slots_o0 k_s .int (16 : Int32) (own_t2 x0 x1) (.int (0 : Int32)) := f20.keep K52 (ninS (Ne.symm (Exa.neArv f28 f20 (hw _ (List.mem_of_getElem? (i := 10) rfl)))) nin0)
        have f64 : Fld Z T52.heap o0 "com/example/nestor/nestor/IdTable" "ids" "[Ljava/lang/String;" (.ref w_ids_o0) := f21.keep K52 (ninS (Exa.ne f18 f28 (by decide)) nin0)
        have f65 : Arv Z T52.heap w_ids_o0 k_i (.object "java/lang/String") (8 : Int32) [(.ref i0), (.ref i1), .null, .null, .null, .null, .null, .null] .null := f22.keep K52 (ninS (Ne.symm (Exa.neArv f28 f22 (hw _ (List.mem_of_getElem? (i := 10) rfl)))) nin0)
        have f66 : Exa Z T52.heap o2 "java/lang/String" := f23.keep K52
        have f67 : Fld Z T52.heap o2 "java/lang/String" "coder" "B" (.int (0 : Int32)) := f24.keep K52 (ninS Ho1 nin0)
        have f68 : Fld Z T52.heap o2 "java/lang/String" "value" "[B" (.ref w_value_o2) := f25.keep K52 (ninS Ho1 nin0)
        have f69 : Arv Z T52.heap w_value_o2 k_d .byte (1 : Int32) [(.int d)] (.int (0 : Int32)) := f26.keep K52 (ninS (Ne.symm (Exa.neArv f28 f26 (hw _ (List.mem_of_getElem? (i := 10) rfl)))) nin0)
        have f70 : Exa Z T52.heap i0 "java/lang/String" := f12.keep K52
        have f71 : Fld Z T52.heap i0 "java/lang/String" "hash" "I" (.int hq9_o0) := f14.keep K52 (ninS Hi nin0)
        have f72 : Fld Z T52.heap i0 "java/lang/String" "hashIsZero" "Z" (.int zq9_o0) := f15.keep K52 (ninS Hi nin0)
        have f73 : Fld Z T52.heap i0 "java/lang/String" "coder" "B" (.int (0 : Int32)) := f11.keep K52 (ninS Hi nin0)
        have f74 : Fld Z T52.heap i0 "java/lang/String" "value" "[B" (.ref w_value_i0) := f13.keep K52 (ninS Hi nin0)
        have f75 : Arv Z T52.heap w_value_i0 k_c0 .byte (1 : Int32) [(.int c0)] (.int (0 : Int32)) := f27.keep K52 (ninS (Ne.symm (Exa.neArv f28 f27 (hw _ (List.mem_of_getElem? (i := 10) rfl)))) nin0)
        have f76 : Arv Z T52.heap w_value_i1 k_c1 .byte (1 : Int32) [(.int c1)] (.int (0 : Int32)) := f33.keep K52 (ninS (Ne.symm (Exa.neArv f28 f33 (hw _ (List.mem_of_getElem? (i := 10) rfl)))) nin0)
        have zs77 : n0 ≤ T52.heap.size := Nat.le_trans zs34 K52.1
        have K78 : Keep h0 T52.heap [i0, i1] := K36.trans K52 (allS (Or.inl (by simp)) all0)
        have N79 : Fr n0 L52 := by rw [l52]; exact Fr.app N37 N52q
        have pre80 : ∀ t, Steps p.tables e below (T52.setTop (mkF m 54 #[.val (.ref o0), .val (.int p1), .val (.ref o2), .val .null, .val (.int (0 : Int32)), .val (.int (0 : Int32)), .val (.int (((own_f14 p1) + (1 : Int32)) &&& (15 : Int32))), .val (.int (1 : Int32)), .val (.int (1 : Int32)), .val (.ref i1)] [(.int p1), (.int (c1 &&& (255 : Int32)))])) t → Steps p.tables e below (s₁.setTop (entryFrame m #[(.ref o0), (.int p1), (.ref o2), .null, (.int (0 : Int32)), (.int (0 : Int32))] 10)) t := fun t k => pre48 t (by
            refine X46.iaload hx (j := (((own_f14 p1) + (1 : Int32)) &&& (15 : Int32))) (v := (.int (2 : Int32))) (by rw [e46]; exact Ar47.1) (State.isArrayOf_alike hZ.alike Ar47.2.1) Ar47.2.2 hin47 (Has.at Ha47 hin47 (own_t2y x0 x1 _ Hx1 hc49)) (g := (mkF m 23 #[.val (.ref o0), .val (.int p1), .val (.ref o2), .val .null, .val (.int (0 : Int32)), .val (.int (0 : Int32)), .val (.int (((own_f14 p1) + (1 : Int32)) &&& (15 : Int32))), .val (.int (1 : Int32)), .val (.int (0 : Int32)), .val (.ref i0)] [(.int (((own_f14 p1) + (1 : Int32)) &&& (15 : Int32))), (.ref w_slots_o0)])) rfl rfl (hb hby own_d13_23) _ ?_
            show Steps p.tables e below (T46.setTop (mkF m 24 #[.val (.ref o0), .val (.int p1), .val (.ref o2), .val .null, .val (.int (0 : Int32)), .val (.int (0 : Int32)), .val (.int (((own_f14 p1) + (1 : Int32)) &&& (15 : Int32))), .val (.int (1 : Int32)), .val (.int (0 : Int32)), .val (.ref i0)] [(.int (2 : Int32))])) _
            refine XS.iconst X46.here hx rfl (hb hby own_d13_24) ?_
            refine XS.isub X46.here hx rfl (hb hby own_d13_25) rfl ?_
            refine XS.istore X46.here hx rfl (hb hby own_d13_26) rfl (l' := #[.val (.ref o0), .val (.int p1), .val (.ref o2), .val .null, .val (.int (0 : Int32)), .val (.int (0 : Int32)), .val (.int (((own_f14 p1) + (1 : Int32)) &&& (15 : Int32))), .val (.int (1 : Int32)), .val (.int (1 : Int32)), .val (.ref i0)]) rfl ?_
            refine XS.iload X46.here hx rfl (hb hby own_d13_28) rfl ?_
            show Steps p.tables e below (T46.setTop (mkF m 30 #[.val (.ref o0), .val (.int p1), .val (.ref o2), .val .null, .val (.int (0 : Int32)), .val (.int (0 : Int32)), .val (.int (((own_f14 p1) + (1 : Int32)) &&& (15 : Int32))), .val (.int (1 : Int32)), .val (.int (1 : Int32)), .val (.ref i0)] [(.int (1 : Int32))])) _
            refine XS.ifYes X46.here hx rfl (pc0 := 30) (pc' := 39) rfl (hb hby own_d13_30) rfl ((if0 _ _).trans (flt (by decide : ¬ ((1 : Int32) < (0 : Int32)))).2.1) (by decide) (by decide) ?_
            refine XS.aloadN X46.here hx rfl (hb hby own_d13_39) rfl rfl ?_
            refine st50 _ ?_
            show Steps p.tables e below (T50.setTop (mkF m 43 #[.val (.ref o0), .val (.int p1), .val (.ref o2), .val .null, .val (.int (0 : Int32)), .val (.int (0 : Int32)), .val (.int (((own_f14 p1) + (1 : Int32)) &&& (15 : Int32))), .val (.int (1 : Int32)), .val (.int (1 : Int32)), .val (.ref i0)] [(.ref w_ids_o0)])) _
            refine XS.iload X50.here hx rfl (hb hby own_d13_43) rfl ?_
            refine X50.aaload hx (j := (1 : Int32)) (v := (.ref i1)) (by rw [e50]; exact Ar51.1) (State.isArrayOf_alike hZ.alike Ar51.2.1) rfl Ar51.2.2 hin51 (Has.at Ha51 hin51 (rfl : (_ : Value) = (.ref i1))) (g := (mkF m 45 #[.val (.ref o0), .val (.int p1), .val (.ref o2), .val .null, .val (.int (0 : Int32)), .val (.int (0 : Int32)), .val (.int (((own_f14 p1) + (1 : Int32)) &&& (15 : Int32))), .val (.int (1 : Int32)), .val (.int (1 : Int32)), .val (.ref i0)] [(.int (1 : Int32)), (.ref w_ids_o0)])) rfl rfl (hb hby own_d13_45) _ ?_
            refine XS.astore X50.here hx rfl (hb hby own_d13_46) rfl rfl (l' := #[.val (.ref o0), .val (.int p1), .val (.ref o2), .val .null, .val (.int (0 : Int32)), .val (.int (0 : Int32)), .val (.int (((own_f14 p1) + (1 : Int32)) &&& (15 : Int32))), .val (.int (1 : Int32)), .val (.int (1 : Int32)), .val (.ref i1)]) rfl ?_
            refine XS.aload X50.here hx rfl (hb hby own_d13_48) rfl rfl ?_
            show Steps p.tables e below (T50.setTop (mkF m 50 #[.val (.ref o0), .val (.int p1), .val (.ref o2), .val .null, .val (.int (0 : Int32)), .val (.int (0 : Int32)), .val (.int (((own_f14 p1) + (1 : Int32)) &&& (15 : Int32))), .val (.int (1 : Int32)), .val (.int (1 : Int32)), .val (.ref i1)] [(.ref i1)])) _
            refine st52.trans ?_
            show Steps p.tables e below (T52.setTop (mkF m 53 #[.val (.ref o0), .val (.int p1), .val (.ref o2), .val .null, .val (.int (0 : Int32)), .val (.int (0 : Int32)), .val (.int (((own_f14 p1) + (1 : Int32)) &&& (15 : Int32))), .val (.int (1 : Int32)), .val (.int (1 : Int32)), .val (.ref i1)] [(.int (c1 &&& (255 : Int32)))])) _
            refine XS.iloadN X52.here hx rfl (hb hby own_d13_53) rfl ?_
            exact k)
        by_cases hc81 : (c1 &&& (255 : Int32)) = p1
        · have f83 : Sta Z T52.heap "java/lang/String" "COMPACT_STRINGS" "Z" (.int z_COMPACT_STRINGS) := P_B_java_lang_String_COMPACT_STRINGS.ext f60.2
          obtain ⟨cq82, kq82, q82a, q82b, q82c⟩ := isOf hZ rfl f55
          obtain ⟨_, _, ⟨T82, L82, k82, n82⟩, -, X82, ⟨Lc82, hQ82, l82, y82, z82⟩, st82⟩ := X52.virtualBack hx (y := (⟨"java/lang/String", "equals", "(Ljava/lang/Object;)Z"⟩ : MethodName)) (z := (⟨"java/lang/String", "equals", "(Ljava/lang/Object;)Z"⟩ : MethodName)) hown (mvT hZ (hw _ (List.mem_of_getElem? (i := 138) rfl))) (mvT hZ (hw _ (List.mem_of_getElem? (i := 113) rfl))) (notFace_of_selects (args := #[]) (mvT hZ (hw _ (List.mem_of_getElem? (i := 115) rfl)))) (mvT hZ (hw _ (List.mem_of_getElem? (i := 115) rfl))) (mvT hZ (hw _ (List.mem_of_getElem? (i := 114) rfl))) (by decide) (backOf (W := 0) (own_rm19 l Z a0 hw [] i1 o2 z_COMPACT_STRINGS w_value_i1 w_value_o2 k_c1 c1 k_d d T52.heap n0 zs77 HC (Ne.symm Ho1) f54 f67 f66 f83 f56 f68 f76 f69) hZ (hw _ (List.mem_of_getElem? (i := 116) rfl)) (hw _ (List.mem_of_getElem? (i := 2) rfl)) (by decide) (by decide)) q82a q82c (g := (mkF m 80 #[.val (.ref o0), .val (.int p1), .val (.ref o2), .val .null, .val (.int (0 : Int32)), .val (.int (0 : Int32)), .val (.int (((own_f14 p1) + (1 : Int32)) &&& (15 : Int32))), .val (.int (1 : Int32)), .val (.int (1 : Int32)), .val (.ref i1)] [(.ref o2), (.ref i1)])) rfl (by rw [hml]; rfl) (Steps.refl _) (argsL := [(.ref o2)]) (rest := []) (lenOf own_pd10 rfl) rfl (by show 2 * 0 + _ ≤ _; exact Nat.le_of_eq rfl) (hb hby own_d13_80) (fun _ _ => ⟨rfl, rfl, (by decide : 0 + 0 ≤ _), (by decide : 0 + 0 ≤ _)⟩)
          dsimp only [Pt.U, Pt.locs, Pt.cells, Pt.slots] at X82 l82 y82 z82 st82 hQ82
          subst y82 z82
          obtain ⟨rfl, N82q, e82⟩ := hQ82
          have N84 : Fr n0 L82 := by rw [l82]; exact Fr.app N79 N82q
          have pre85 : ∀ t, Steps p.tables e below (T82.setTop (mkF m 88 #[.val (.ref o0), .val (.int p1), .val (.ref o2), .val .null, .val (.int (0 : Int32)), .val (.int (0 : Int32)), .val (.int (((own_f14 p1) + (1 : Int32)) &&& (15 : Int32))), .val (.int (1 : Int32)), .val (.int (1 : Int32)), .val (.ref i1)] [(.int (1 : Int32))])) t → Steps p.tables e below (s₁.setTop (entryFrame m #[(.ref o0), (.int p1), (.ref o2), .null, (.int (0 : Int32)), (.int (0 : Int32))] 10)) t := fun t k => pre80 t (by
              refine XS.icmpNo X52.here hx rfl (hb hby own_d13_54) rfl (teq hc81).2 ?_
              show Steps p.tables e below (T52.setTop (mkF m 57 #[.val (.ref o0), .val (.int p1), .val (.ref o2), .val .null, .val (.int (0 : Int32)), .val (.int (0 : Int32)), .val (.int (((own_f14 p1) + (1 : Int32)) &&& (15 : Int32))), .val (.int (1 : Int32)), .val (.int (1 : Int32)), .val (.ref i1)] [])) _
              refine XS.aloadN X52.here hx rfl (hb hby own_d13_57) rfl rfl ?_
              refine XS.ifnonnullYes X52.here hx rfl (pc0 := 58) (pc' := 77) rfl (hb hby own_d13_58) rfl (by decide) (by decide) ?_
              refine XS.aload X52.here hx rfl (hb hby own_d13_77) rfl rfl ?_
              refine XS.aloadN X52.here hx rfl (hb hby own_d13_79) rfl rfl ?_
              show Steps p.tables e below (T52.setTop (mkF m 80 #[.val (.ref o0), .val (.int p1), .val (.ref o2), .val .null, .val (.int (0 : Int32)), .val (.int (0 : Int32)), .val (.int (((own_f14 p1) + (1 : Int32)) &&& (15 : Int32))), .val (.int (1 : Int32)), .val (.int (1 : Int32)), .val (.ref i1)] [(.ref o2), (.ref i1)])) _
              refine st82.trans ?_
              show Steps p.tables e below (T82.setTop (mkF m 83 #[.val (.ref o0), .val (.int p1), .val (.ref o2), .val .null, .val (.int (0 : Int32)), .val (.int (0 : Int32)), .val (.int (((own_f14 p1) + (1 : Int32)) &&& (15 : Int32))), .val (.int (1 : Int32)), .val (.int (1 : Int32)), .val (.ref i1)] [(.int (own_f19 c1 d))])) _
              refine XS.ifNo X82.here hx rfl (hb hby own_d13_83) rfl ((if0 _ _).trans (feq (own_same c1 d p1 Hb1 Hd Hp hc81)).1) ?_
              refine XS.iload X82.here hx rfl (hb hby own_d13_86) rfl ?_
              exact k)
          obtain ⟨fs, hr, hrun, hended, hW, hsame⟩ := X82.leave (v := some (.int (1 : Int32))) (fun h => by rw [Bd.returns] at h; cases h) (hlocks := hlk)
          refine ⟨_, _, pre85 _ ?_, hrun, hended, _, _, rfl, ?_, ⟨_, rfl⟩, hW, hsame.mono (by decide) (by decide)⟩
          · show Steps p.tables e below (T82.setTop (mkF m 88 #[.val (.ref o0), .val (.int p1), .val (.ref o2), .val .null, .val (.int (0 : Int32)), .val (.int (0 : Int32)), .val (.int (((own_f14 p1) + (1 : Int32)) &&& (15 : Int32))), .val (.int (1 : Int32)), .val (.int (1 : Int32)), .val (.ref i1)] [(.int (1 : Int32))])) _
            exact retI X82 hx Bd.returns (hb hby own_d13_88) hr
          · show own_Q13t2 Z o0 p1 o2 x0 x1 k_s k_i k_d d i0 i1 k_c0 c0 k_c1 c1 z_COMPACT_STRINGS w_slots_o0 w_ids_o0 w_value_o2 w_hash_i0 w_hashIsZero_i0 w_value_i0 w_hash_i1 w_hashIsZero_i1 w_value_i1 h0 n0 _ T82.heap _; rw [e82]; exact ⟨hq9_o0, zq9_o0, hq52_o0, zq52_o0, (by show some (Value.int _) = some (.int (own_f13t2 p1 x0 x1 c0 c1)); unfold own_f13t2; rw [if_pos hc6, if_neg hc39, if_pos hc49, if_pos hc81]), N84, K78, f70, f73, f74, f55, f54, f56, f71, f72, ok16, f57, f58, ok59⟩
        · obtain ⟨T86, X86, e86, st86⟩ := getF X52 hx hZ hown (host := "") (Or.inl (hw _ (List.mem_of_getElem? (i := 38) rfl))) Via.refl rfl f62 (g := (mkF m 94 #[.val (.ref o0), .val (.int p1), .val (.ref o2), .val .null, .val (.int (0 : Int32)), .val (.int (0 : Int32)), .val (.int (((own_f14 p1) + (1 : Int32)) &&& (15 : Int32))), .val (.int (1 : Int32)), .val (.int (1 : Int32)), .val (.ref i1)] [(.ref o0), (.int ((((own_f14 p1) + (1 : Int32)) &&& (15 : Int32)) + (1 : Int32)))])) rfl rfl (hb hby own_d13_94)
          obtain ⟨cl87, Ar87, q87, S87, N_87, Ha87, G87⟩ := id f63
          obtain ⟨T88, X88, e88, st88⟩ := getF X86 hx hZ hown (host := "") (Or.inl (hw _ (List.mem_of_getElem? (i := 38) rfl))) Via.refl e86 f62 (g := (mkF m 18 #[.val (.ref o0), .val (.int p1), .val (.ref o2), .val .null, .val (.int (0 : Int32)), .val (.int (0 : Int32)), .val (.int (((((own_f14 p1) + (1 : Int32)) &&& (15 : Int32)) + (1 : Int32)) &&& (15 : Int32))), .val (.int (2 : Int32)), .val (.int (1 : Int32)), .val (.ref i1)] [(.ref o0)])) rfl rfl (hb hby own_d13_18)
          obtain ⟨cl89, Ar89, q89, S89, N_89, Ha89, G89⟩ := id f63
          have hin89 : ¬ ((((((own_f14 p1) + (1 : Int32)) &&& (15 : Int32)) + (1 : Int32)) &&& (15 : Int32)) < 0 ∨ cl89.slots.size ≤ ((((((own_f14 p1) + (1 : Int32)) &&& (15 : Int32)) + (1 : Int32)) &&& (15 : Int32))).toNatClampNeg) := inb_of S89 (own_m15 _)
          have pre90 : ∀ t, Steps p.tables e below (T88.setTop (mkF m 23 #[.val (.ref o0), .val (.int p1), .val (.ref o2), .val .null, .val (.int (0 : Int32)), .val (.int (0 : Int32)), .val (.int (((((own_f14 p1) + (1 : Int32)) &&& (15 : Int32)) + (1 : Int32)) &&& (15 : Int32))), .val (.int (2 : Int32)), .val (.int (1 : Int32)), .val (.ref i1)] [(.int (((((own_f14 p1) + (1 : Int32)) &&& (15 : Int32)) + (1 : Int32)) &&& (15 : Int32))), (.ref w_slots_o0)])) t → Steps p.tables e below (s₁.setTop (entryFrame m #[(.ref o0), (.int p1), (.ref o2), .null, (.int (0 : Int32)), (.int (0 : Int32))] 10)) t := fun t k => pre80 t (by
              refine XS.icmpYes X52.here hx rfl (pc0 := 54) (pc' := 89) rfl (hb hby own_d13_54) rfl (feq hc81).2 (by decide) (by decide) ?_
              show Steps p.tables e below (T52.setTop (mkF m 89 #[.val (.ref o0), .val (.int p1), .val (.ref o2), .val .null, .val (.int (0 : Int32)), .val (.int (0 : Int32)), .val (.int (((own_f14 p1) + (1 : Int32)) &&& (15 : Int32))), .val (.int (1 : Int32)), .val (.int (1 : Int32)), .val (.ref i1)] [])) _
              refine XS.iload X52.here hx rfl (hb hby own_d13_89) rfl ?_
              refine XS.iconst X52.here hx rfl (hb hby own_d13_91) ?_
              refine XS.iadd X52.here hx rfl (hb hby own_d13_92) rfl ?_
              refine XS.aloadN X52.here hx rfl (hb hby own_d13_93) rfl rfl ?_
              show Steps p.tables e below (T52.setTop (mkF m 94 #[.val (.ref o0), .val (.int p1), .val (.ref o2), .val .null, .val (.int (0 : Int32)), .val (.int (0 : Int32)), .val (.int (((own_f14 p1) + (1 : Int32)) &&& (15 : Int32))), .val (.int (1 : Int32)), .val (.int (1 : Int32)), .val (.ref i1)] [(.ref o0), (.int ((((own_f14 p1) + (1 : Int32)) &&& (15 : Int32)) + (1 : Int32)))])) _
              refine st86 _ ?_
              show Steps p.tables e below (T86.setTop (mkF m 97 #[.val (.ref o0), .val (.int p1), .val (.ref o2), .val .null, .val (.int (0 : Int32)), .val (.int (0 : Int32)), .val (.int (((own_f14 p1) + (1 : Int32)) &&& (15 : Int32))), .val (.int (1 : Int32)), .val (.int (1 : Int32)), .val (.ref i1)] [(.ref w_slots_o0), (.int ((((own_f14 p1) + (1 : Int32)) &&& (15 : Int32)) + (1 : Int32)))])) _
              refine X86.arraylength hx (by rw [e86]; exact Ar87.1) (State.isArrayOf_alike hZ.alike Ar87.2.1) (g := (mkF m 97 #[.val (.ref o0), .val (.int p1), .val (.ref o2), .val .null, .val (.int (0 : Int32)), .val (.int (0 : Int32)), .val (.int (((own_f14 p1) + (1 : Int32)) &&& (15 : Int32))), .val (.int (1 : Int32)), .val (.int (1 : Int32)), .val (.ref i1)] [(.ref w_slots_o0), (.int ((((own_f14 p1) + (1 : Int32)) &&& (15 : Int32)) + (1 : Int32)))])) rfl rfl (hb hby own_d13_97) _ ?_
              rw [len_of S87 N_87]
              refine XS.iconst X86.here hx rfl (hb hby own_d13_98) ?_
              refine XS.isub X86.here hx rfl (hb hby own_d13_99) rfl ?_
              show Steps p.tables e below (T86.setTop (mkF m 100 #[.val (.ref o0), .val (.int p1), .val (.ref o2), .val .null, .val (.int (0 : Int32)), .val (.int (0 : Int32)), .val (.int (((own_f14 p1) + (1 : Int32)) &&& (15 : Int32))), .val (.int (1 : Int32)), .val (.int (1 : Int32)), .val (.ref i1)] [(.int (15 : Int32)), (.int ((((own_f14 p1) + (1 : Int32)) &&& (15 : Int32)) + (1 : Int32)))])) _
              refine XS.iand X86.here hx rfl (hb hby own_d13_100) rfl ?_
              refine XS.istore X86.here hx rfl (hb hby own_d13_101) rfl (l' := #[.val (.ref o0), .val (.int p1), .val (.ref o2), .val .null, .val (.int (0 : Int32)), .val (.int (0 : Int32)), .val (.int (((((own_f14 p1) + (1 : Int32)) &&& (15 : Int32)) + (1 : Int32)) &&& (15 : Int32))), .val (.int (1 : Int32)), .val (.int (1 : Int32)), .val (.ref i1)]) rfl ?_
              refine XS.iinc X86.here hx rfl (hb hby own_d13_103) rfl (l' := #[.val (.ref o0), .val (.int p1), .val (.ref o2), .val .null, .val (.int (0 : Int32)), .val (.int (0 : Int32)), .val (.int (((((own_f14 p1) + (1 : Int32)) &&& (15 : Int32)) + (1 : Int32)) &&& (15 : Int32))), .val (.int (2 : Int32)), .val (.int (1 : Int32)), .val (.ref i1)]) rfl ?_
              refine XS.goto X86.here hx rfl (pc0 := 106) (pc' := 10) rfl (hb hby own_d13_106) (by decide) (by decide) ?_
              show Steps p.tables e below (T86.setTop (mkF m 10 #[.val (.ref o0), .val (.int p1), .val (.ref o2), .val .null, .val (.int (0 : Int32)), .val (.int (0 : Int32)), .val (.int (((((own_f14 p1) + (1 : Int32)) &&& (15 : Int32)) + (1 : Int32)) &&& (15 : Int32))), .val (.int (2 : Int32)), .val (.int (1 : Int32)), .val (.ref i1)] [])) _
              refine XS.iload X86.here hx rfl (hb hby own_d13_10) rfl ?_
              refine XS.bipush X86.here hx rfl (hb hby own_d13_12) ?_
              refine XS.icmpNo X86.here hx rfl (hb hby own_d13_14) rfl (tlt (by decide : (2 : Int32) < (16 : Int32))).2.1 ?_
              refine XS.aloadN X86.here hx rfl (hb hby own_d13_17) rfl rfl ?_
              show Steps p.tables e below (T86.setTop (mkF m 18 #[.val (.ref o0), .val (.int p1), .val (.ref o2), .val .null, .val (.int (0 : Int32)), .val (.int (0 : Int32)), .val (.int (((((own_f14 p1) + (1 : Int32)) &&& (15 : Int32)) + (1 : Int32)) &&& (15 : Int32))), .val (.int (2 : Int32)), .val (.int (1 : Int32)), .val (.ref i1)] [(.ref o0)])) _
              refine st88 _ ?_
              show Steps p.tables e below (T88.setTop (mkF m 21 #[.val (.ref o0), .val (.int p1), .val (.ref o2), .val .null, .val (.int (0 : Int32)), .val (.int (0 : Int32)), .val (.int (((((own_f14 p1) + (1 : Int32)) &&& (15 : Int32)) + (1 : Int32)) &&& (15 : Int32))), .val (.int (2 : Int32)), .val (.int (1 : Int32)), .val (.ref i1)] [(.ref w_slots_o0)])) _
              refine XS.iload X88.here hx rfl (hb hby own_d13_21) rfl ?_
              exact k)
          have pre91 : ∀ t, Steps p.tables e below (T88.setTop (mkF m 38 #[.val (.ref o0), .val (.int p1), .val (.ref o2), .val .null, .val (.int (0 : Int32)), .val (.int (0 : Int32)), .val (.int (((((own_f14 p1) + (1 : Int32)) &&& (15 : Int32)) + (1 : Int32)) &&& (15 : Int32))), .val (.int (2 : Int32)), .val (.int (-1 : Int32)), .val (.ref i1)] [(.int ((-(((((own_f14 p1) + (1 : Int32)) &&& (15 : Int32)) + (1 : Int32)) &&& (15 : Int32))) - (1 : Int32)))])) t → Steps p.tables e below (s₁.setTop (entryFrame m #[(.ref o0), (.int p1), (.ref o2), .null, (.int (0 : Int32)), (.int (0 : Int32))] 10)) t := fun t k => pre90 t (by
              refine X88.iaload hx (j := (((((own_f14 p1) + (1 : Int32)) &&& (15 : Int32)) + (1 : Int32)) &&& (15 : Int32))) (v := (.int (0 : Int32))) (by rw [e88]; exact Ar89.1) (State.isArrayOf_alike hZ.alike Ar89.2.1) Ar89.2.2 hin89 (Has.at Ha89 hin89 (own_t2n x0 x1 _ Hx0 Hx1 (own_m15 _) (hc6 ▸ own_n2 (own_f14 p1) (own_home p1)) (hc49 ▸ own_n1 (((own_f14 p1) + (1 : Int32)) &&& (15 : Int32)) (own_m15 _)))) (g := (mkF m 23 #[.val (.ref o0), .val (.int p1), .val (.ref o2), .val .null, .val (.int (0 : Int32)), .val (.int (0 : Int32)), .val (.int (((((own_f14 p1) + (1 : Int32)) &&& (15 : Int32)) + (1 : Int32)) &&& (15 : Int32))), .val (.int (2 : Int32)), .val (.int (1 : Int32)), .val (.ref i1)] [(.int (((((own_f14 p1) + (1 : Int32)) &&& (15 : Int32)) + (1 : Int32)) &&& (15 : Int32))), (.ref w_slots_o0)])) rfl rfl (hb hby own_d13_23) _ ?_
              show Steps p.tables e below (T88.setTop (mkF m 24 #[.val (.ref o0), .val (.int p1), .val (.ref o2), .val .null, .val (.int (0 : Int32)), .val (.int (0 : Int32)), .val (.int (((((own_f14 p1) + (1 : Int32)) &&& (15 : Int32)) + (1 : Int32)) &&& (15 : Int32))), .val (.int (2 : Int32)), .val (.int (1 : Int32)), .val (.ref i1)] [(.int (0 : Int32))])) _
              refine XS.iconst X88.here hx rfl (hb hby own_d13_24) ?_
              refine XS.isub X88.here hx rfl (hb hby own_d13_25) rfl ?_
              refine XS.istore X88.here hx rfl (hb hby own_d13_26) rfl (l' := #[.val (.ref o0), .val (.int p1), .val (.ref o2), .val .null, .val (.int (0 : Int32)), .val (.int (0 : Int32)), .val (.int (((((own_f14 p1) + (1 : Int32)) &&& (15 : Int32)) + (1 : Int32)) &&& (15 : Int32))), .val (.int (2 : Int32)), .val (.int (-1 : Int32)), .val (.ref i1)]) rfl ?_
              refine XS.iload X88.here hx rfl (hb hby own_d13_28) rfl ?_
              show Steps p.tables e below (T88.setTop (mkF m 30 #[.val (.ref o0), .val (.int p1), .val (.ref o2), .val .null, .val (.int (0 : Int32)), .val (.int (0 : Int32)), .val (.int (((((own_f14 p1) + (1 : Int32)) &&& (15 : Int32)) + (1 : Int32)) &&& (15 : Int32))), .val (.int (2 : Int32)), .val (.int (-1 : Int32)), .val (.ref i1)] [(.int (-1 : Int32))])) _
              refine XS.ifNo X88.here hx rfl (hb hby own_d13_30) rfl ((if0 _ _).trans (tlt (by decide : (-1 : Int32) < (0 : Int32))).2.1) ?_
              refine XS.iload X88.here hx rfl (hb hby own_d13_33) rfl ?_
              refine XS.ineg X88.here hx rfl (hb hby own_d13_35) rfl ?_
              refine XS.iconst X88.here hx rfl (hb hby own_d13_36) ?_
              show Steps p.tables e below (T88.setTop (mkF m 37 #[.val (.ref o0), .val (.int p1), .val (.ref o2), .val .null, .val (.int (0 : Int32)), .val (.int (0 : Int32)), .val (.int (((((own_f14 p1) + (1 : Int32)) &&& (15 : Int32)) + (1 : Int32)) &&& (15 : Int32))), .val (.int (2 : Int32)), .val (.int (-1 : Int32)), .val (.ref i1)] [(.int (1 : Int32)), (.int (-(((((own_f14 p1) + (1 : Int32)) &&& (15 : Int32)) + (1 : Int32)) &&& (15 : Int32))))])) _
              refine XS.isub X88.here hx rfl (hb hby own_d13_37) rfl ?_
              exact k)
          obtain ⟨fs, hr, hrun, hended, hW, hsame⟩ := X88.leave (v := some (.int ((-(((((own_f14 p1) + (1 : Int32)) &&& (15 : Int32)) + (1 : Int32)) &&& (15 : Int32))) - (1 : Int32)))) (fun h => by rw [Bd.returns] at h; cases h) (hlocks := hlk)
          refine ⟨_, _, pre91 _ ?_, hrun, hended, _, _, rfl, ?_, ⟨_, rfl⟩, hW, hsame.mono (by decide) (by decide)⟩
          · show Steps p.tables e below (T88.setTop (mkF m 38 #[.val (.ref o0), .val (.int p1), .val (.ref o2), .val .null, .val (.int (0 : Int32)), .val (.int (0 : Int32)), .val (.int (((((own_f14 p1) + (1 : Int32)) &&& (15 : Int32)) + (1 : Int32)) &&& (15 : Int32))), .val (.int (2 : Int32)), .val (.int (-1 : Int32)), .val (.ref i1)] [(.int ((-(((((own_f14 p1) + (1 : Int32)) &&& (15 : Int32)) + (1 : Int32)) &&& (15 : Int32))) - (1 : Int32)))])) _
            exact retI X88 hx Bd.returns (hb hby own_d13_38) hr
          · show own_Q13t2 Z o0 p1 o2 x0 x1 k_s k_i k_d d i0 i1 k_c0 c0 k_c1 c1 z_COMPACT_STRINGS w_slots_o0 w_ids_o0 w_value_o2 w_hash_i0 w_hashIsZero_i0 w_value_i0 w_hash_i1 w_hashIsZero_i1 w_value_i1 h0 n0 _ T88.heap _; rw [e88]; exact ⟨hq9_o0, zq9_o0, hq52_o0, zq52_o0, (by show some (Value.int _) = some (.int (own_f13t2 p1 x0 x1 c0 c1)); unfold own_f13t2; rw [if_pos hc6, if_neg hc39, if_pos hc49, if_neg hc81]), N79, K78, f70, f73, f74, f55, f54, f56, f71, f72, ok16, f57, f58, ok59⟩
      · have pre92 : ∀ t, Steps p.tables e below (T46.setTop (mkF m 38 #[.val (.ref o0), .val (.int p1), .val (.ref o2), .val .null, .val (.int (0 : Int32)), .val (.int (0 : Int32)), .val (.int (((own_f14 p1) + (1 : Int32)) &&& (15 : Int32))), .val (.int (1 : Int32)), .val (.int (-1 : Int32)), .val (.ref i0)] [(.int ((-(((own_f14 p1) + (1 : Int32)) &&& (15 : Int32))) - (1 : Int32)))])) t → Steps p.tables e below (s₁.setTop (entryFrame m #[(.ref o0), (.int p1), (.ref o2), .null, (.int (0 : Int32)), (.int (0 : Int32))] 10)) t := fun t k => pre48 t (by
            refine X46.iaload hx (j := (((own_f14 p1) + (1 : Int32)) &&& (15 : Int32))) (v := (.int (0 : Int32))) (by rw [e46]; exact Ar47.1) (State.isArrayOf_alike hZ.alike Ar47.2.1) Ar47.2.2 hin47 (Has.at Ha47 hin47 (own_t2n x0 x1 _ Hx0 Hx1 (own_m15 _) (hc6 ▸ own_n1 (own_f14 p1) (own_home p1)) hc49)) (g := (mkF m 23 #[.val (.ref o0), .val (.int p1), .val (.ref o2), .val .null, .val (.int (0 : Int32)), .val (.int (0 : Int32)), .val (.int (((own_f14 p1) + (1 : Int32)) &&& (15 : Int32))), .val (.int (1 : Int32)), .val (.int (0 : Int32)), .val (.ref i0)] [(.int (((own_f14 p1) + (1 : Int32)) &&& (15 : Int32))), (.ref w_slots_o0)])) rfl rfl (hb hby own_d13_23) _ ?_
            show Steps p.tables e below (T46.setTop (mkF m 24 #[.val (.ref o0), .val (.int p1), .val (.ref o2), .val .null, .val (.int (0 : Int32)), .val (.int (0 : Int32)), .val (.int (((own_f14 p1) + (1 : Int32)) &&& (15 : Int32))), .val (.int (1 : Int32)), .val (.int (0 : Int32)), .val (.ref i0)] [(.int (0 : Int32))])) _
            refine XS.iconst X46.here hx rfl (hb hby own_d13_24) ?_
            refine XS.isub X46.here hx rfl (hb hby own_d13_25) rfl ?_
            refine XS.istore X46.here hx rfl (hb hby own_d13_26) rfl (l' := #[.val (.ref o0), .val (.int p1), .val (.ref o2), .val .null, .val (.int (0 : Int32)), .val (.int (0 : Int32)), .val (.int (((own_f14 p1) + (1 : Int32)) &&& (15 : Int32))), .val (.int (1 : Int32)), .val (.int (-1 : Int32)), .val (.ref i0)]) rfl ?_
            refine XS.iload X46.here hx rfl (hb hby own_d13_28) rfl ?_
            show Steps p.tables e below (T46.setTop (mkF m 30 #[.val (.ref o0), .val (.int p1), .val (.ref o2), .val .null, .val (.int (0 : Int32)), .val (.int (0 : Int32)), .val (.int (((own_f14 p1) + (1 : Int32)) &&& (15 : Int32))), .val (.int (1 : Int32)), .val (.int (-1 : Int32)), .val (.ref i0)] [(.int (-1 : Int32))])) _
            refine XS.ifNo X46.here hx rfl (hb hby own_d13_30) rfl ((if0 _ _).trans (tlt (by decide : (-1 : Int32) < (0 : Int32))).2.1) ?_
            refine XS.iload X46.here hx rfl (hb hby own_d13_33) rfl ?_
            refine XS.ineg X46.here hx rfl (hb hby own_d13_35) rfl ?_
            refine XS.iconst X46.here hx rfl (hb hby own_d13_36) ?_
            show Steps p.tables e below (T46.setTop (mkF m 37 #[.val (.ref o0), .val (.int p1), .val (.ref o2), .val .null, .val (.int (0 : Int32)), .val (.int (0 : Int32)), .val (.int (((own_f14 p1) + (1 : Int32)) &&& (15 : Int32))), .val (.int (1 : Int32)), .val (.int (-1 : Int32)), .val (.ref i0)] [(.int (1 : Int32)), (.int (-(((own_f14 p1) + (1 : Int32)) &&& (15 : Int32))))])) _
            refine XS.isub X46.here hx rfl (hb hby own_d13_37) rfl ?_
            exact k)
        obtain ⟨fs, hr, hrun, hended, hW, hsame⟩ := X46.leave (v := some (.int ((-(((own_f14 p1) + (1 : Int32)) &&& (15 : Int32))) - (1 : Int32)))) (fun h => by rw [Bd.returns] at h; cases h) (hlocks := hlk)
        refine ⟨_, _, pre92 _ ?_, hrun, hended, _, _, rfl, ?_, ⟨_, rfl⟩, hW, hsame.mono (by decide) (by decide)⟩
        · show Steps p.tables e below (T46.setTop (mkF m 38 #[.val (.ref o0), .val (.int p1), .val (.ref o2), .val .null, .val (.int (0 : Int32)), .val (.int (0 : Int32)), .val (.int (((own_f14 p1) + (1 : Int32)) &&& (15 : Int32))), .val (.int (1 : Int32)), .val (.int (-1 : Int32)), .val (.ref i0)] [(.int ((-(((own_f14 p1) + (1 : Int32)) &&& (15 : Int32))) - (1 : Int32)))])) _
          exact retI X46 hx Bd.returns (hb hby own_d13_38) hr
        · show own_Q13t2 Z o0 p1 o2 x0 x1 k_s k_i k_d d i0 i1 k_c0 c0 k_c1 c1 z_COMPACT_STRINGS w_slots_o0 w_ids_o0 w_value_o2 w_hash_i0 w_hashIsZero_i0 w_value_i0 w_hash_i1 w_hashIsZero_i1 w_value_i1 h0 n0 _ T46.heap _; rw [e46]; exact ⟨hq9_o0, zq9_o0, w_hash_i1, w_hashIsZero_i1, (by show some (Value.int _) = some (.int (own_f13t2 p1 x0 x1 c0 c1)); unfold own_f13t2; rw [if_pos hc6, if_neg hc39, if_neg hc49]), N37, K36, f12, f11, f13, f28, f31, f32, f14, f15, ok16, f29, f30, Hk1⟩
  · by_cases hc93 : (own_f14 p1) = x1
    · obtain ⟨T94, X94, e94, st94⟩ := getF X3 hx hZ hown (host := "") (Or.inl (hw _ (List.mem_of_getElem? (i := 35) rfl))) Via.refl e3 P_F_o0_ids (g := (mkF m 40 #[.val (.ref o0), .val (.int p1), .val (.ref o2), .val .null, .val (.int (0 : Int32)), .val (.int (0 : Int32)), .val (.int (own_f14 p1)), .val (.int (0 : Int32)), .val (.int (1 : Int32)), .unset] [(.ref o0)])) rfl rfl (hb hby own_d13_40)
      obtain ⟨cl95, Ar95, q95, S95, N_95, Ha95, G95⟩ := id P_V_w_ids_o0
      have hin95 : ¬ ((1 : Int32) < 0 ∨ cl95.slots.size ≤ ((1 : Int32)).toNatClampNeg) := inb_of S95 ⟨by decide, by decide⟩
      have f97 : Sta Z h0 "java/lang/String" "COMPACT_STRINGS" "Z" (.int z_COMPACT_STRINGS) := P_B_java_lang_String_COMPACT_STRINGS.ext P_O_.2
      obtain ⟨cq96, kq96, q96a, q96b, q96c⟩ := isOf hZ e94 P_E_i1
      obtain ⟨_, _, ⟨T96, L96, k96, n96⟩, -, X96, ⟨Lc96, hQ96, l96, y96, z96⟩, st96⟩ := X94.virtualBack hx (y := (⟨"java/lang/String", "hashCode", "()I"⟩ : MethodName)) (z := (⟨"java/lang/String", "hashCode", "()I"⟩ : MethodName)) hown (mvT hZ (hw _ (List.mem_of_getElem? (i := 66) rfl))) (mvT hZ (hw _ (List.mem_of_getElem? (i := 67) rfl))) (notFace_of_selects (args := #[]) (mvT hZ (hw _ (List.mem_of_getElem? (i := 69) rfl)))) (mvT hZ (hw _ (List.mem_of_getElem? (i := 69) rfl))) (mvT hZ (hw _ (List.mem_of_getElem? (i := 68) rfl))) (by decide) (backOf (W := 0) (own_rm10 l Z a0 hw [] i1 w_hash_i1 w_hashIsZero_i1 z_COMPACT_STRINGS w_value_i1 k_c1 c1 h0 n0 Z0 Hk1 P_F_i1_hash P_F_i1_hashIsZero P_F_i1_coder f97 HC P_E_i1 P_F_i1_value P_V_w_value_i1 G_i1) hZ (hw _ (List.mem_of_getElem? (i := 70) rfl)) (hw _ (List.mem_of_getElem? (i := 2) rfl)) (by decide) (by decide)) q96a q96c (g := (mkF m 50 #[.val (.ref o0), .val (.int p1), .val (.ref o2), .val .null, .val (.int (0 : Int32)), .val (.int (0 : Int32)), .val (.int (own_f14 p1)), .val (.int (0 : Int32)), .val (.int (1 : Int32)), .val (.ref i1)] [(.ref i1)])) rfl (by rw [hml]; rfl) (Steps.refl _) (argsL := []) (rest := []) (lenOf own_pd9 rfl) rfl (by show 2 * 0 + _ ≤ _; exact Nat.le_of_eq rfl) (hb hby own_d13_50) (fun _ _ => ⟨rfl, e94, (by decide : 0 + 0 ≤ _), (by decide : 0 + 0 ≤ _)⟩)
      dsimp only [Pt.U, Pt.locs, Pt.cells, Pt.slots] at X96 l96 y96 z96 st96 hQ96
      subst y96 z96
      obtain ⟨hq96_o0, zq96_o0, rfl, N96q, K96, f98, f99, f100, f101, f102, ok103⟩ := hQ96
      have f104 : Old Z n0 T96.heap := P_O_.keep K96 (allS G_i1 all0)
      have f105 : Exa Z T96.heap o0 "com/example/nestor/nestor/IdTable" := P_E_o0.keep K96
      have f106 : Fld Z T96.heap o0 "com/example/nestor/nestor/IdTable" "slots" "[I" (.ref w_slots_o0) := P_F_o0_slots.keep K96 (ninS (Exa.ne P_E_o0 P_E_i1 (by decide)) nin0)
      have f107 : Arv Z T96.heap w_slots_o0 k_s .int (16 : Int32) (own_t2 x0 x1) (.int (0 : Int32)) := P_V_w_slots_o0.keep K96 (ninS (Ne.symm (Exa.neArv P_E_i1 P_V_w_slots_o0 (hw _ (List.mem_of_getElem? (i := 10) rfl)))) nin0)
      have f108 : Fld Z T96.heap o0 "com/example/nestor/nestor/IdTable" "ids" "[Ljava/lang/String;" (.ref w_ids_o0) := P_F_o0_ids.keep K96 (ninS (Exa.ne P_E_o0 P_E_i1 (by decide)) nin0)
      have f109 : Arv Z T96.heap w_ids_o0 k_i (.object "java/lang/String") (8 : Int32) [(.ref i0), (.ref i1), .null, .null, .null, .null, .null, .null] .null := P_V_w_ids_o0.keep K96 (ninS (Ne.symm (Exa.neArv P_E_i1 P_V_w_ids_o0 (hw _ (List.mem_of_getElem? (i := 10) rfl)))) nin0)
      have f110 : Exa Z T96.heap o2 "java/lang/String" := P_E_o2.keep K96
      have f111 : Fld Z T96.heap o2 "java/lang/String" "coder" "B" (.int (0 : Int32)) := P_F_o2_coder.keep K96 (ninS Ho1 nin0)
      have f112 : Fld Z T96.heap o2 "java/lang/String" "value" "[B" (.ref w_value_o2) := P_F_o2_value.keep K96 (ninS Ho1 nin0)
      have f113 : Arv Z T96.heap w_value_o2 k_d .byte (1 : Int32) [(.int d)] (.int (0 : Int32)) := P_V_w_value_o2.keep K96 (ninS (Ne.symm (Exa.neArv P_E_i1 P_V_w_value_o2 (hw _ (List.mem_of_getElem? (i := 10) rfl)))) nin0)
      have f114 : Exa Z T96.heap i0 "java/lang/String" := P_E_i0.keep K96
      have f115 : Fld Z T96.heap i0 "java/lang/String" "hash" "I" (.int w_hash_i0) := P_F_i0_hash.keep K96 (ninS Hi nin0)
      have f116 : Fld Z T96.heap i0 "java/lang/String" "hashIsZero" "Z" (.int w_hashIsZero_i0) := P_F_i0_hashIsZero.keep K96 (ninS Hi nin0)
      have f117 : Fld Z T96.heap i0 "java/lang/String" "coder" "B" (.int (0 : Int32)) := P_F_i0_coder.keep K96 (ninS Hi nin0)
      have f118 : Fld Z T96.heap i0 "java/lang/String" "value" "[B" (.ref w_value_i0) := P_F_i0_value.keep K96 (ninS Hi nin0)
      have f119 : Arv Z T96.heap w_value_i0 k_c0 .byte (1 : Int32) [(.int c0)] (.int (0 : Int32)) := P_V_w_value_i0.keep K96 (ninS (Ne.symm (Exa.neArv P_E_i1 P_V_w_value_i0 (hw _ (List.mem_of_getElem? (i := 10) rfl)))) nin0)
      have f120 : Arv Z T96.heap w_value_i1 k_c1 .byte (1 : Int32) [(.int c1)] (.int (0 : Int32)) := P_V_w_value_i1.keep K96 (ninS (Ne.symm (Exa.neArv P_E_i1 P_V_w_value_i1 (hw _ (List.mem_of_getElem? (i := 10) rfl)))) nin0)
      have zs121 : n0 ≤ T96.heap.size := Nat.le_trans Z0 K96.1
      have K122 : Keep h0 h0 [i0, i1] := Keep.refl h0 [i0, i1]
      have K123 : Keep h0 T96.heap [i0, i1] := K122.trans K96 (allS (Or.inl (by simp)) all0)
      have N124 : Fr n0 L96 := by rw [l96]; exact Fr.app N2 N96q
      have pre125 : ∀ t, Steps p.tables e below (T96.setTop (mkF m 54 #[.val (.ref o0), .val (.int p1), .val (.ref o2), .val .null, .val (.int (0 : Int32)), .val (.int (0 : Int32)), .val (.int (own_f14 p1)), .val (.int (0 : Int32)), .val (.int (1 : Int32)), .val (.ref i1)] [(.int p1), (.int (c1 &&& (255 : Int32)))])) t → Steps p.tables e below (s₁.setTop (entryFrame m #[(.ref o0), (.int p1), (.ref o2), .null, (.int (0 : Int32)), (.int (0 : Int32))] 10)) t := fun t k => pre5 t (by
          refine X3.iaload hx (j := (own_f14 p1)) (v := (.int (2 : Int32))) (by rw [e3]; exact Ar4.1) (State.isArrayOf_alike hZ.alike Ar4.2.1) Ar4.2.2 hin4 (Has.at Ha4 hin4 (own_t2y x0 x1 _ Hx1 hc93)) (g := (mkF m 23 #[.val (.ref o0), .val (.int p1), .val (.ref o2), .val .null, .val (.int (0 : Int32)), .val (.int (0 : Int32)), .val (.int (own_f14 p1)), .val (.int (0 : Int32)), .unset, .unset] [(.int (own_f14 p1)), (.ref w_slots_o0)])) rfl rfl (hb hby own_d13_23) _ ?_
          show Steps p.tables e below (T3.setTop (mkF m 24 #[.val (.ref o0), .val (.int p1), .val (.ref o2), .val .null, .val (.int (0 : Int32)), .val (.int (0 : Int32)), .val (.int (own_f14 p1)), .val (.int (0 : Int32)), .unset, .unset] [(.int (2 : Int32))])) _
          refine XS.iconst X3.here hx rfl (hb hby own_d13_24) ?_
          refine XS.isub X3.here hx rfl (hb hby own_d13_25) rfl ?_
          refine XS.istore X3.here hx rfl (hb hby own_d13_26) rfl (l' := #[.val (.ref o0), .val (.int p1), .val (.ref o2), .val .null, .val (.int (0 : Int32)), .val (.int (0 : Int32)), .val (.int (own_f14 p1)), .val (.int (0 : Int32)), .val (.int (1 : Int32)), .unset]) rfl ?_
          refine XS.iload X3.here hx rfl (hb hby own_d13_28) rfl ?_
          show Steps p.tables e below (T3.setTop (mkF m 30 #[.val (.ref o0), .val (.int p1), .val (.ref o2), .val .null, .val (.int (0 : Int32)), .val (.int (0 : Int32)), .val (.int (own_f14 p1)), .val (.int (0 : Int32)), .val (.int (1 : Int32)), .unset] [(.int (1 : Int32))])) _
          refine XS.ifYes X3.here hx rfl (pc0 := 30) (pc' := 39) rfl (hb hby own_d13_30) rfl ((if0 _ _).trans (flt (by decide : ¬ ((1 : Int32) < (0 : Int32)))).2.1) (by decide) (by decide) ?_
          refine XS.aloadN X3.here hx rfl (hb hby own_d13_39) rfl rfl ?_
          refine st94 _ ?_
          show Steps p.tables e below (T94.setTop (mkF m 43 #[.val (.ref o0), .val (.int p1), .val (.ref o2), .val .null, .val (.int (0 : Int32)), .val (.int (0 : Int32)), .val (.int (own_f14 p1)), .val (.int (0 : Int32)), .val (.int (1 : Int32)), .unset] [(.ref w_ids_o0)])) _
          refine XS.iload X94.here hx rfl (hb hby own_d13_43) rfl ?_
          refine X94.aaload hx (j := (1 : Int32)) (v := (.ref i1)) (by rw [e94]; exact Ar95.1) (State.isArrayOf_alike hZ.alike Ar95.2.1) rfl Ar95.2.2 hin95 (Has.at Ha95 hin95 (rfl : (_ : Value) = (.ref i1))) (g := (mkF m 45 #[.val (.ref o0), .val (.int p1), .val (.ref o2), .val .null, .val (.int (0 : Int32)), .val (.int (0 : Int32)), .val (.int (own_f14 p1)), .val (.int (0 : Int32)), .val (.int (1 : Int32)), .unset] [(.int (1 : Int32)), (.ref w_ids_o0)])) rfl rfl (hb hby own_d13_45) _ ?_
          refine XS.astore X94.here hx rfl (hb hby own_d13_46) rfl rfl (l' := #[.val (.ref o0), .val (.int p1), .val (.ref o2), .val .null, .val (.int (0 : Int32)), .val (.int (0 : Int32)), .val (.int (own_f14 p1)), .val (.int (0 : Int32)), .val (.int (1 : Int32)), .val (.ref i1)]) rfl ?_
          refine XS.aload X94.here hx rfl (hb hby own_d13_48) rfl rfl ?_
          show Steps p.tables e below (T94.setTop (mkF m 50 #[.val (.ref o0), .val (.int p1), .val (.ref o2), .val .null, .val (.int (0 : Int32)), .val (.int (0 : Int32)), .val (.int (own_f14 p1)), .val (.int (0 : Int32)), .val (.int (1 : Int32)), .val (.ref i1)] [(.ref i1)])) _
          refine st96.trans ?_
          show Steps p.tables e below (T96.setTop (mkF m 53 #[.val (.ref o0), .val (.int p1), .val (.ref o2), .val .null, .val (.int (0 : Int32)), .val (.int (0 : Int32)), .val (.int (own_f14 p1)), .val (.int (0 : Int32)), .val (.int (1 : Int32)), .val (.ref i1)] [(.int (c1 &&& (255 : Int32)))])) _
          refine XS.iloadN X96.here hx rfl (hb hby own_d13_53) rfl ?_
          exact k)
      by_cases hc126 : (c1 &&& (255 : Int32)) = p1
      · have f128 : Sta Z T96.heap "java/lang/String" "COMPACT_STRINGS" "Z" (.int z_COMPACT_STRINGS) := P_B_java_lang_String_COMPACT_STRINGS.ext f104.2
        obtain ⟨cq127, kq127, q127a, q127b, q127c⟩ := isOf hZ rfl f99
        obtain ⟨_, _, ⟨T127, L127, k127, n127⟩, -, X127, ⟨Lc127, hQ127, l127, y127, z127⟩, st127⟩ := X96.virtualBack hx (y := (⟨"java/lang/String", "equals", "(Ljava/lang/Object;)Z"⟩ : MethodName)) (z := (⟨"java/lang/String", "equals", "(Ljava/lang/Object;)Z"⟩ : MethodName)) hown (mvT hZ (hw _ (List.mem_of_getElem? (i := 138) rfl))) (mvT hZ (hw _ (List.mem_of_getElem? (i := 113) rfl))) (notFace_of_selects (args := #[]) (mvT hZ (hw _ (List.mem_of_getElem? (i := 115) rfl)))) (mvT hZ (hw _ (List.mem_of_getElem? (i := 115) rfl))) (mvT hZ (hw _ (List.mem_of_getElem? (i := 114) rfl))) (by decide) (backOf (W := 0) (own_rm19 l Z a0 hw [] i1 o2 z_COMPACT_STRINGS w_value_i1 w_value_o2 k_c1 c1 k_d d T96.heap n0 zs121 HC (Ne.symm Ho1) f98 f111 f110 f128 f100 f112 f120 f113) hZ (hw _ (List.mem_of_getElem? (i := 116) rfl)) (hw _ (List.mem_of_getElem? (i := 2) rfl)) (by decide) (by decide)) q127a q127c (g := (mkF m 80 #[.val (.ref o0), .val (.int p1), .val (.ref o2), .val .null, .val (.int (0 : Int32)), .val (.int (0 : Int32)), .val (.int (own_f14 p1)), .val (.int (0 : Int32)), .val (.int (1 : Int32)), .val (.ref i1)] [(.ref o2), (.ref i1)])) rfl (by rw [hml]; rfl) (Steps.refl _) (argsL := [(.ref o2)]) (rest := []) (lenOf own_pd10 rfl) rfl (by show 2 * 0 + _ ≤ _; exact Nat.le_of_eq rfl) (hb hby own_d13_80) (fun _ _ => ⟨rfl, rfl, (by decide : 0 + 0 ≤ _), (by decide : 0 + 0 ≤ _)⟩)
        dsimp only [Pt.U, Pt.locs, Pt.cells, Pt.slots] at X127 l127 y127 z127 st127 hQ127
        subst y127 z127
        obtain ⟨rfl, N127q, e127⟩ := hQ127
        have N129 : Fr n0 L127 := by rw [l127]; exact Fr.app N124 N127q
        have pre130 : ∀ t, Steps p.tables e below (T127.setTop (mkF m 88 #[.val (.ref o0), .val (.int p1), .val (.ref o2), .val .null, .val (.int (0 : Int32)), .val (.int (0 : Int32)), .val (.int (own_f14 p1)), .val (.int (0 : Int32)), .val (.int (1 : Int32)), .val (.ref i1)] [(.int (1 : Int32))])) t → Steps p.tables e below (s₁.setTop (entryFrame m #[(.ref o0), (.int p1), (.ref o2), .null, (.int (0 : Int32)), (.int (0 : Int32))] 10)) t := fun t k => pre125 t (by
            refine XS.icmpNo X96.here hx rfl (hb hby own_d13_54) rfl (teq hc126).2 ?_
            show Steps p.tables e below (T96.setTop (mkF m 57 #[.val (.ref o0), .val (.int p1), .val (.ref o2), .val .null, .val (.int (0 : Int32)), .val (.int (0 : Int32)), .val (.int (own_f14 p1)), .val (.int (0 : Int32)), .val (.int (1 : Int32)), .val (.ref i1)] [])) _
            refine XS.aloadN X96.here hx rfl (hb hby own_d13_57) rfl rfl ?_
            refine XS.ifnonnullYes X96.here hx rfl (pc0 := 58) (pc' := 77) rfl (hb hby own_d13_58) rfl (by decide) (by decide) ?_
            refine XS.aload X96.here hx rfl (hb hby own_d13_77) rfl rfl ?_
            refine XS.aloadN X96.here hx rfl (hb hby own_d13_79) rfl rfl ?_
            show Steps p.tables e below (T96.setTop (mkF m 80 #[.val (.ref o0), .val (.int p1), .val (.ref o2), .val .null, .val (.int (0 : Int32)), .val (.int (0 : Int32)), .val (.int (own_f14 p1)), .val (.int (0 : Int32)), .val (.int (1 : Int32)), .val (.ref i1)] [(.ref o2), (.ref i1)])) _
            refine st127.trans ?_
            show Steps p.tables e below (T127.setTop (mkF m 83 #[.val (.ref o0), .val (.int p1), .val (.ref o2), .val .null, .val (.int (0 : Int32)), .val (.int (0 : Int32)), .val (.int (own_f14 p1)), .val (.int (0 : Int32)), .val (.int (1 : Int32)), .val (.ref i1)] [(.int (own_f19 c1 d))])) _
            refine XS.ifNo X127.here hx rfl (hb hby own_d13_83) rfl ((if0 _ _).trans (feq (own_same c1 d p1 Hb1 Hd Hp hc126)).1) ?_
            refine XS.iload X127.here hx rfl (hb hby own_d13_86) rfl ?_
            exact k)
        obtain ⟨fs, hr, hrun, hended, hW, hsame⟩ := X127.leave (v := some (.int (1 : Int32))) (fun h => by rw [Bd.returns] at h; cases h) (hlocks := hlk)
        refine ⟨_, _, pre130 _ ?_, hrun, hended, _, _, rfl, ?_, ⟨_, rfl⟩, hW, hsame.mono (by decide) (by decide)⟩
        · show Steps p.tables e below (T127.setTop (mkF m 88 #[.val (.ref o0), .val (.int p1), .val (.ref o2), .val .null, .val (.int (0 : Int32)), .val (.int (0 : Int32)), .val (.int (own_f14 p1)), .val (.int (0 : Int32)), .val (.int (1 : Int32)), .val (.ref i1)] [(.int (1 : Int32))])) _
          exact retI X127 hx Bd.returns (hb hby own_d13_88) hr
        · show own_Q13t2 Z o0 p1 o2 x0 x1 k_s k_i k_d d i0 i1 k_c0 c0 k_c1 c1 z_COMPACT_STRINGS w_slots_o0 w_ids_o0 w_value_o2 w_hash_i0 w_hashIsZero_i0 w_value_i0 w_hash_i1 w_hashIsZero_i1 w_value_i1 h0 n0 _ T127.heap _; rw [e127]; exact ⟨w_hash_i0, w_hashIsZero_i0, hq96_o0, zq96_o0, (by show some (Value.int _) = some (.int (own_f13t2 p1 x0 x1 c0 c1)); unfold own_f13t2; rw [if_neg hc6, if_pos hc93, if_pos hc126]), N129, K123, f114, f117, f118, f99, f98, f100, f115, f116, Hk0, f101, f102, ok103⟩
      · obtain ⟨T131, X131, e131, st131⟩ := getF X96 hx hZ hown (host := "") (Or.inl (hw _ (List.mem_of_getElem? (i := 38) rfl))) Via.refl rfl f106 (g := (mkF m 94 #[.val (.ref o0), .val (.int p1), .val (.ref o2), .val .null, .val (.int (0 : Int32)), .val (.int (0 : Int32)), .val (.int (own_f14 p1)), .val (.int (0 : Int32)), .val (.int (1 : Int32)), .val (.ref i1)] [(.ref o0), (.int ((own_f14 p1) + (1 : Int32)))])) rfl rfl (hb hby own_d13_94)
        obtain ⟨cl132, Ar132, q132, S132, N_132, Ha132, G132⟩ := id f107
        obtain ⟨T133, X133, e133, st133⟩ := getF X131 hx hZ hown (host := "") (Or.inl (hw _ (List.mem_of_getElem? (i := 38) rfl))) Via.refl e131 f106 (g := (mkF m 18 #[.val (.ref o0), .val (.int p1), .val (.ref o2), .val .null, .val (.int (0 : Int32)), .val (.int (0 : Int32)), .val (.int (((own_f14 p1) + (1 : Int32)) &&& (15 : Int32))), .val (.int (1 : Int32)), .val (.int (1 : Int32)), .val (.ref i1)] [(.ref o0)])) rfl rfl (hb hby own_d13_18)
        obtain ⟨cl134, Ar134, q134, S134, N_134, Ha134, G134⟩ := id f107
        have hin134 : ¬ ((((own_f14 p1) + (1 : Int32)) &&& (15 : Int32)) < 0 ∨ cl134.slots.size ≤ ((((own_f14 p1) + (1 : Int32)) &&& (15 : Int32))).toNatClampNeg) := inb_of S134 (own_m15 _)
        have pre135 : ∀ t, Steps p.tables e below (T133.setTop (mkF m 23 #[.val (.ref o0), .val (.int p1), .val (.ref o2), .val .null, .val (.int (0 : Int32)), .val (.int (0 : Int32)), .val (.int (((own_f14 p1) + (1 : Int32)) &&& (15 : Int32))), .val (.int (1 : Int32)), .val (.int (1 : Int32)), .val (.ref i1)] [(.int (((own_f14 p1) + (1 : Int32)) &&& (15 : Int32))), (.ref w_slots_o0)])) t → Steps p.tables e below (s₁.setTop (entryFrame m #[(.ref o0), (.int p1), (.ref o2), .null, (.int (0 : Int32)), (.int (0 : Int32))] 10)) t := fun t k => pre125 t (by
            refine XS.icmpYes X96.here hx rfl (pc0 := 54) (pc' := 89) rfl (hb hby own_d13_54) rfl (feq hc126).2 (by decide) (by decide) ?_
            show Steps p.tables e below (T96.setTop (mkF m 89 #[.val (.ref o0), .val (.int p1), .val (.ref o2), .val .null, .val (.int (0 : Int32)), .val (.int (0 : Int32)), .val (.int (own_f14 p1)), .val (.int (0 : Int32)), .val (.int (1 : Int32)), .val (.ref i1)] [])) _
            refine XS.iload X96.here hx rfl (hb hby own_d13_89) rfl ?_
            refine XS.iconst X96.here hx rfl (hb hby own_d13_91) ?_
            refine XS.iadd X96.here hx rfl (hb hby own_d13_92) rfl ?_
            refine XS.aloadN X96.here hx rfl (hb hby own_d13_93) rfl rfl ?_
            show Steps p.tables e below (T96.setTop (mkF m 94 #[.val (.ref o0), .val (.int p1), .val (.ref o2), .val .null, .val (.int (0 : Int32)), .val (.int (0 : Int32)), .val (.int (own_f14 p1)), .val (.int (0 : Int32)), .val (.int (1 : Int32)), .val (.ref i1)] [(.ref o0), (.int ((own_f14 p1) + (1 : Int32)))])) _
            refine st131 _ ?_
            show Steps p.tables e below (T131.setTop (mkF m 97 #[.val (.ref o0), .val (.int p1), .val (.ref o2), .val .null, .val (.int (0 : Int32)), .val (.int (0 : Int32)), .val (.int (own_f14 p1)), .val (.int (0 : Int32)), .val (.int (1 : Int32)), .val (.ref i1)] [(.ref w_slots_o0), (.int ((own_f14 p1) + (1 : Int32)))])) _
            refine X131.arraylength hx (by rw [e131]; exact Ar132.1) (State.isArrayOf_alike hZ.alike Ar132.2.1) (g := (mkF m 97 #[.val (.ref o0), .val (.int p1), .val (.ref o2), .val .null, .val (.int (0 : Int32)), .val (.int (0 : Int32)), .val (.int (own_f14 p1)), .val (.int (0 : Int32)), .val (.int (1 : Int32)), .val (.ref i1)] [(.ref w_slots_o0), (.int ((own_f14 p1) + (1 : Int32)))])) rfl rfl (hb hby own_d13_97) _ ?_
            rw [len_of S132 N_132]
            refine XS.iconst X131.here hx rfl (hb hby own_d13_98) ?_
            refine XS.isub X131.here hx rfl (hb hby own_d13_99) rfl ?_
            show Steps p.tables e below (T131.setTop (mkF m 100 #[.val (.ref o0), .val (.int p1), .val (.ref o2), .val .null, .val (.int (0 : Int32)), .val (.int (0 : Int32)), .val (.int (own_f14 p1)), .val (.int (0 : Int32)), .val (.int (1 : Int32)), .val (.ref i1)] [(.int (15 : Int32)), (.int ((own_f14 p1) + (1 : Int32)))])) _
            refine XS.iand X131.here hx rfl (hb hby own_d13_100) rfl ?_
            refine XS.istore X131.here hx rfl (hb hby own_d13_101) rfl (l' := #[.val (.ref o0), .val (.int p1), .val (.ref o2), .val .null, .val (.int (0 : Int32)), .val (.int (0 : Int32)), .val (.int (((own_f14 p1) + (1 : Int32)) &&& (15 : Int32))), .val (.int (0 : Int32)), .val (.int (1 : Int32)), .val (.ref i1)]) rfl ?_
            refine XS.iinc X131.here hx rfl (hb hby own_d13_103) rfl (l' := #[.val (.ref o0), .val (.int p1), .val (.ref o2), .val .null, .val (.int (0 : Int32)), .val (.int (0 : Int32)), .val (.int (((own_f14 p1) + (1 : Int32)) &&& (15 : Int32))), .val (.int (1 : Int32)), .val (.int (1 : Int32)), .val (.ref i1)]) rfl ?_
            refine XS.goto X131.here hx rfl (pc0 := 106) (pc' := 10) rfl (hb hby own_d13_106) (by decide) (by decide) ?_
            show Steps p.tables e below (T131.setTop (mkF m 10 #[.val (.ref o0), .val (.int p1), .val (.ref o2), .val .null, .val (.int (0 : Int32)), .val (.int (0 : Int32)), .val (.int (((own_f14 p1) + (1 : Int32)) &&& (15 : Int32))), .val (.int (1 : Int32)), .val (.int (1 : Int32)), .val (.ref i1)] [])) _
            refine XS.iload X131.here hx rfl (hb hby own_d13_10) rfl ?_
            refine XS.bipush X131.here hx rfl (hb hby own_d13_12) ?_
            refine XS.icmpNo X131.here hx rfl (hb hby own_d13_14) rfl (tlt (by decide : (1 : Int32) < (16 : Int32))).2.1 ?_
            refine XS.aloadN X131.here hx rfl (hb hby own_d13_17) rfl rfl ?_
            show Steps p.tables e below (T131.setTop (mkF m 18 #[.val (.ref o0), .val (.int p1), .val (.ref o2), .val .null, .val (.int (0 : Int32)), .val (.int (0 : Int32)), .val (.int (((own_f14 p1) + (1 : Int32)) &&& (15 : Int32))), .val (.int (1 : Int32)), .val (.int (1 : Int32)), .val (.ref i1)] [(.ref o0)])) _
            refine st133 _ ?_
            show Steps p.tables e below (T133.setTop (mkF m 21 #[.val (.ref o0), .val (.int p1), .val (.ref o2), .val .null, .val (.int (0 : Int32)), .val (.int (0 : Int32)), .val (.int (((own_f14 p1) + (1 : Int32)) &&& (15 : Int32))), .val (.int (1 : Int32)), .val (.int (1 : Int32)), .val (.ref i1)] [(.ref w_slots_o0)])) _
            refine XS.iload X133.here hx rfl (hb hby own_d13_21) rfl ?_
            exact k)
        by_cases hc136 : (((own_f14 p1) + (1 : Int32)) &&& (15 : Int32)) = x0
        · obtain ⟨T137, X137, e137, st137⟩ := getF X133 hx hZ hown (host := "") (Or.inl (hw _ (List.mem_of_getElem? (i := 35) rfl))) Via.refl e133 f108 (g := (mkF m 40 #[.val (.ref o0), .val (.int p1), .val (.ref o2), .val .null, .val (.int (0 : Int32)), .val (.int (0 : Int32)), .val (.int (((own_f14 p1) + (1 : Int32)) &&& (15 : Int32))), .val (.int (1 : Int32)), .val (.int (0 : Int32)), .val (.ref i1)] [(.ref o0)])) rfl rfl (hb hby own_d13_40)
          obtain ⟨cl138, Ar138, q138, S138, N_138, Ha138, G138⟩ := id f109
          have hin138 : ¬ ((0 : Int32) < 0 ∨ cl138.slots.size ≤ ((0 : Int32)).toNatClampNeg) := inb_of S138 ⟨by decide, by decide⟩
          have f140 : Sta Z T96.heap "java/lang/String" "COMPACT_STRINGS" "Z" (.int z_COMPACT_STRINGS) := P_B_java_lang_String_COMPACT_STRINGS.ext f104.2
          obtain ⟨cq139, kq139, q139a, q139b, q139c⟩ := isOf hZ e137 f114
          obtain ⟨_, _, ⟨T139, L139, k139, n139⟩, -, X139, ⟨Lc139, hQ139, l139, y139, z139⟩, st139⟩ := X137.virtualBack hx (y := (⟨"java/lang/String", "hashCode", "()I"⟩ : MethodName)) (z := (⟨"java/lang/String", "hashCode", "()I"⟩ : MethodName)) hown (mvT hZ (hw _ (List.mem_of_getElem? (i := 66) rfl))) (mvT hZ (hw _ (List.mem_of_getElem? (i := 67) rfl))) (notFace_of_selects (args := #[]) (mvT hZ (hw _ (List.mem_of_getElem? (i := 69) rfl)))) (mvT hZ (hw _ (List.mem_of_getElem? (i := 69) rfl))) (mvT hZ (hw _ (List.mem_of_getElem? (i := 68) rfl))) (by decide) (backOf (W := 0) (own_rm10 l Z a0 hw [] i0 w_hash_i0 w_hashIsZero_i0 z_COMPACT_STRINGS w_value_i0 k_c0 c0 T96.heap n0 zs121 Hk0 f115 f116 f117 f140 HC f114 f118 f119 G_i0) hZ (hw _ (List.mem_of_getElem? (i := 70) rfl)) (hw _ (List.mem_of_getElem? (i := 2) rfl)) (by decide) (by decide)) q139a q139c (g := (mkF m 50 #[.val (.ref o0), .val (.int p1), .val (.ref o2), .val .null, .val (.int (0 : Int32)), .val (.int (0 : Int32)), .val (.int (((own_f14 p1) + (1 : Int32)) &&& (15 : Int32))), .val (.int (1 : Int32)), .val (.int (0 : Int32)), .val (.ref i0)] [(.ref i0)])) rfl (by rw [hml]; rfl) (Steps.refl _) (argsL := []) (rest := []) (lenOf own_pd9 rfl) rfl (by show 2 * 0 + _ ≤ _; exact Nat.le_of_eq rfl) (hb hby own_d13_50) (fun _ _ => ⟨rfl, e137, (by decide : 0 + 0 ≤ _), (by decide : 0 + 0 ≤ _)⟩)
          dsimp only [Pt.U, Pt.locs, Pt.cells, Pt.slots] at X139 l139 y139 z139 st139 hQ139
          subst y139 z139
          obtain ⟨hq139_o0, zq139_o0, rfl, N139q, K139, f141, f142, f143, f144, f145, ok146⟩ := hQ139
          have f147 : Old Z n0 T139.heap := f104.keep K139 (allS G_i0 all0)
          have f148 : Exa Z T139.heap o0 "com/example/nestor/nestor/IdTable" := f105.keep K139
          have f149 : Fld Z T139.heap o0 "com/example/nestor/nestor/IdTable" "slots" "[I" (.ref w_slots_o0) := f106.keep K139 (ninS (Exa.ne f105 f114 (by decide)) nin0)
          have f150 : Arv Z T139.heap w_slots_o0 k_s .int (16 : Int32) (own_t2 x0 x1) (.int (0 : Int32)) := f107.keep K139 (ninS (Ne.symm (Exa.neArv f114 f107 (hw _ (List.mem_of_getElem? (i := 10) rfl)))) nin0)
          have f151 : Fld Z T139.heap o0 "com/example/nestor/nestor/IdTable" "ids" "[Ljava/lang/String;" (.ref w_ids_o0) := f108.keep K139 (ninS (Exa.ne f105 f114 (by decide)) nin0)
          have f152 : Arv Z T139.heap w_ids_o0 k_i (.object "java/lang/String") (8 : Int32) [(.ref i0), (.ref i1), .null, .null, .null, .null, .null, .null] .null := f109.keep K139 (ninS (Ne.symm (Exa.neArv f114 f109 (hw _ (List.mem_of_getElem? (i := 10) rfl)))) nin0)
          have f153 : Exa Z T139.heap o2 "java/lang/String" := f110.keep K139
          have f154 : Fld Z T139.heap o2 "java/lang/String" "coder" "B" (.int (0 : Int32)) := f111.keep K139 (ninS Ho0 nin0)
          have f155 : Fld Z T139.heap o2 "java/lang/String" "value" "[B" (.ref w_value_o2) := f112.keep K139 (ninS Ho0 nin0)
          have f156 : Arv Z T139.heap w_value_o2 k_d .byte (1 : Int32) [(.int d)] (.int (0 : Int32)) := f113.keep K139 (ninS (Ne.symm (Exa.neArv f114 f113 (hw _ (List.mem_of_getElem? (i := 10) rfl)))) nin0)
          have f157 : Arv Z T139.heap w_value_i0 k_c0 .byte (1 : Int32) [(.int c0)] (.int (0 : Int32)) := f119.keep K139 (ninS (Ne.symm (Exa.neArv f114 f119 (hw _ (List.mem_of_getElem? (i := 10) rfl)))) nin0)
          have f158 : Exa Z T139.heap i1 "java/lang/String" := f99.keep K139
          have f159 : Fld Z T139.heap i1 "java/lang/String" "hash" "I" (.int hq96_o0) := f101.keep K139 (ninS (Ne.symm Hi) nin0)
          have f160 : Fld Z T139.heap i1 "java/lang/String" "hashIsZero" "Z" (.int zq96_o0) := f102.keep K139 (ninS (Ne.symm Hi) nin0)
          have f161 : Fld Z T139.heap i1 "java/lang/String" "coder" "B" (.int (0 : Int32)) := f98.keep K139 (ninS (Ne.symm Hi) nin0)
          have f162 : Fld Z T139.heap i1 "java/lang/String" "value" "[B" (.ref w_value_i1) := f100.keep K139 (ninS (Ne.symm Hi) nin0)
          have f163 : Arv Z T139.heap w_value_i1 k_c1 .byte (1 : Int32) [(.int c1)] (.int (0 : Int32)) := f120.keep K139 (ninS (Ne.symm (Exa.neArv f114 f120 (hw _ (List.mem_of_getElem? (i := 10) rfl)))) nin0)
          have zs164 : n0 ≤ T139.heap.size := Nat.le_trans zs121 K139.1
          have K165 : Keep h0 T139.heap [i0, i1] := K123.trans K139 (allS (Or.inl (by simp)) all0)
          have N166 : Fr n0 L139 := by rw [l139]; exact Fr.app N124 N139q
          have pre167 : ∀ t, Steps p.tables e below (T139.setTop (mkF m 54 #[.val (.ref o0), .val (.int p1), .val (.ref o2), .val .null, .val (.int (0 : Int32)), .val (.int (0 : Int32)), .val (.int (((own_f14 p1) + (1 : Int32)) &&& (15 : Int32))), .val (.int (1 : Int32)), .val (.int (0 : Int32)), .val (.ref i0)] [(.int p1), (.int (c0 &&& (255 : Int32)))])) t → Steps p.tables e below (s₁.setTop (entryFrame m #[(.ref o0), (.int p1), (.ref o2), .null, (.int (0 : Int32)), (.int (0 : Int32))] 10)) t := fun t k => pre135 t (by
              refine X133.iaload hx (j := (((own_f14 p1) + (1 : Int32)) &&& (15 : Int32))) (v := (.int (1 : Int32))) (by rw [e133]; exact Ar134.1) (State.isArrayOf_alike hZ.alike Ar134.2.1) Ar134.2.2 hin134 (Has.at Ha134 hin134 (own_t2x x0 x1 _ Hx0 Hx1 Hxy hc136)) (g := (mkF m 23 #[.val (.ref o0), .val (.int p1), .val (.ref o2), .val .null, .val (.int (0 : Int32)), .val (.int (0 : Int32)), .val (.int (((own_f14 p1) + (1 : Int32)) &&& (15 : Int32))), .val (.int (1 : Int32)), .val (.int (1 : Int32)), .val (.ref i1)] [(.int (((own_f14 p1) + (1 : Int32)) &&& (15 : Int32))), (.ref w_slots_o0)])) rfl rfl (hb hby own_d13_23) _ ?_
              show Steps p.tables e below (T133.setTop (mkF m 24 #[.val (.ref o0), .val (.int p1), .val (.ref o2), .val .null, .val (.int (0 : Int32)), .val (.int (0 : Int32)), .val (.int (((own_f14 p1) + (1 : Int32)) &&& (15 : Int32))), .val (.int (1 : Int32)), .val (.int (1 : Int32)), .val (.ref i1)] [(.int (1 : Int32))])) _
              refine XS.iconst X133.here hx rfl (hb hby own_d13_24) ?_
              refine XS.isub X133.here hx rfl (hb hby own_d13_25) rfl ?_
              refine XS.istore X133.here hx rfl (hb hby own_d13_26) rfl (l' := #[.val (.ref o0), .val (.int p1), .val (.ref o2), .val .null, .val (.int (0 : Int32)), .val (.int (0 : Int32)), .val (.int (((own_f14 p1) + (1 : Int32)) &&& (15 : Int32))), .val (.int (1 : Int32)), .val (.int (0 : Int32)), .val (.ref i1)]) rfl ?_
              refine XS.iload X133.here hx rfl (hb hby own_d13_28) rfl ?_
              show Steps p.tables e below (T133.setTop (mkF m 30 #[.val (.ref o0), .val (.int p1), .val (.ref o2), .val .null, .val (.int (0 : Int32)), .val (.int (0 : Int32)), .val (.int (((own_f14 p1) + (1 : Int32)) &&& (15 : Int32))), .val (.int (1 : Int32)), .val (.int (0 : Int32)), .val (.ref i1)] [(.int (0 : Int32))])) _
              refine XS.ifYes X133.here hx rfl (pc0 := 30) (pc' := 39) rfl (hb hby own_d13_30) rfl ((if0 _ _).trans (flt (by decide : ¬ ((0 : Int32) < (0 : Int32)))).2.1) (by decide) (by decide) ?_
              refine XS.aloadN X133.here hx rfl (hb hby own_d13_39) rfl rfl ?_
              refine st137 _ ?_
              show Steps p.tables e below (T137.setTop (mkF m 43 #[.val (.ref o0), .val (.int p1), .val (.ref o2), .val .null, .val (.int (0 : Int32)), .val (.int (0 : Int32)), .val (.int (((own_f14 p1) + (1 : Int32)) &&& (15 : Int32))), .val (.int (1 : Int32)), .val (.int (0 : Int32)), .val (.ref i1)] [(.ref w_ids_o0)])) _
              refine XS.iload X137.here hx rfl (hb hby own_d13_43) rfl ?_
              refine X137.aaload hx (j := (0 : Int32)) (v := (.ref i0)) (by rw [e137]; exact Ar138.1) (State.isArrayOf_alike hZ.alike Ar138.2.1) rfl Ar138.2.2 hin138 (Has.at Ha138 hin138 (rfl : (_ : Value) = (.ref i0))) (g := (mkF m 45 #[.val (.ref o0), .val (.int p1), .val (.ref o2), .val .null, .val (.int (0 : Int32)), .val (.int (0 : Int32)), .val (.int (((own_f14 p1) + (1 : Int32)) &&& (15 : Int32))), .val (.int (1 : Int32)), .val (.int (0 : Int32)), .val (.ref i1)] [(.int (0 : Int32)), (.ref w_ids_o0)])) rfl rfl (hb hby own_d13_45) _ ?_
              refine XS.astore X137.here hx rfl (hb hby own_d13_46) rfl rfl (l' := #[.val (.ref o0), .val (.int p1), .val (.ref o2), .val .null, .val (.int (0 : Int32)), .val (.int (0 : Int32)), .val (.int (((own_f14 p1) + (1 : Int32)) &&& (15 : Int32))), .val (.int (1 : Int32)), .val (.int (0 : Int32)), .val (.ref i0)]) rfl ?_
              refine XS.aload X137.here hx rfl (hb hby own_d13_48) rfl rfl ?_
              show Steps p.tables e below (T137.setTop (mkF m 50 #[.val (.ref o0), .val (.int p1), .val (.ref o2), .val .null, .val (.int (0 : Int32)), .val (.int (0 : Int32)), .val (.int (((own_f14 p1) + (1 : Int32)) &&& (15 : Int32))), .val (.int (1 : Int32)), .val (.int (0 : Int32)), .val (.ref i0)] [(.ref i0)])) _
              refine st139.trans ?_
              show Steps p.tables e below (T139.setTop (mkF m 53 #[.val (.ref o0), .val (.int p1), .val (.ref o2), .val .null, .val (.int (0 : Int32)), .val (.int (0 : Int32)), .val (.int (((own_f14 p1) + (1 : Int32)) &&& (15 : Int32))), .val (.int (1 : Int32)), .val (.int (0 : Int32)), .val (.ref i0)] [(.int (c0 &&& (255 : Int32)))])) _
              refine XS.iloadN X139.here hx rfl (hb hby own_d13_53) rfl ?_
              exact k)
          by_cases hc168 : (c0 &&& (255 : Int32)) = p1
          · have f170 : Sta Z T139.heap "java/lang/String" "COMPACT_STRINGS" "Z" (.int z_COMPACT_STRINGS) := P_B_java_lang_String_COMPACT_STRINGS.ext f147.2
            obtain ⟨cq169, kq169, q169a, q169b, q169c⟩ := isOf hZ rfl f142
            obtain ⟨_, _, ⟨T169, L169, k169, n169⟩, -, X169, ⟨Lc169, hQ169, l169, y169, z169⟩, st169⟩ := X139.virtualBack hx (y := (⟨"java/lang/String", "equals", "(Ljava/lang/Object;)Z"⟩ : MethodName)) (z := (⟨"java/lang/String", "equals", "(Ljava/lang/Object;)Z"⟩ : MethodName)) hown (mvT hZ (hw _ (List.mem_of_getElem? (i := 138) rfl))) (mvT hZ (hw _ (List.mem_of_getElem? (i := 113) rfl))) (notFace_of_selects (args := #[]) (mvT hZ (hw _ (List.mem_of_getElem? (i := 115) rfl)))) (mvT hZ (hw _ (List.mem_of_getElem? (i := 115) rfl))) (mvT hZ (hw _ (List.mem_of_getElem? (i := 114) rfl))) (by decide) (backOf (W := 0) (own_rm19 l Z a0 hw [] i0 o2 z_COMPACT_STRINGS w_value_i0 w_value_o2 k_c0 c0 k_d d T139.heap n0 zs164 HC (Ne.symm Ho0) f141 f154 f153 f170 f143 f155 f157 f156) hZ (hw _ (List.mem_of_getElem? (i := 116) rfl)) (hw _ (List.mem_of_getElem? (i := 2) rfl)) (by decide) (by decide)) q169a q169c (g := (mkF m 80 #[.val (.ref o0), .val (.int p1), .val (.ref o2), .val .null, .val (.int (0 : Int32)), .val (.int (0 : Int32)), .val (.int (((own_f14 p1) + (1 : Int32)) &&& (15 : Int32))), .val (.int (1 : Int32)), .val (.int (0 : Int32)), .val (.ref i0)] [(.ref o2), (.ref i0)])) rfl (by rw [hml]; rfl) (Steps.refl _) (argsL := [(.ref o2)]) (rest := []) (lenOf own_pd10 rfl) rfl (by show 2 * 0 + _ ≤ _; exact Nat.le_of_eq rfl) (hb hby own_d13_80) (fun _ _ => ⟨rfl, rfl, (by decide : 0 + 0 ≤ _), (by decide : 0 + 0 ≤ _)⟩)
            dsimp only [Pt.U, Pt.locs, Pt.cells, Pt.slots] at X169 l169 y169 z169 st169 hQ169
            subst y169 z169
            obtain ⟨rfl, N169q, e169⟩ := hQ169
            have N171 : Fr n0 L169 := by rw [l169]; exact Fr.app N166 N169q
            have pre172 : ∀ t, Steps p.tables e below (T169.setTop (mkF m 88 #[.val (.ref o0), .val (.int p1), .val (.ref o2), .val .null, .val (.int (0 : Int32)), .val (.int (0 : Int32)), .val (.int (((own_f14 p1) + (1 : Int32)) &&& (15 : Int32))), .val (.int (1 : Int32)), .val (.int (0 : Int32)), .val (.ref i0)] [(.int (0 : Int32))])) t → Steps p.tables e below (s₁.setTop (entryFrame m #[(.ref o0), (.int p1), (.ref o2), .null, (.int (0 : Int32)), (.int (0 : Int32))] 10)) t := fun t k => pre167 t (by
                refine XS.icmpNo X139.here hx rfl (hb hby own_d13_54) rfl (teq hc168).2 ?_
                show Steps p.tables e below (T139.setTop (mkF m 57 #[.val (.ref o0), .val (.int p1), .val (.ref o2), .val .null, .val (.int (0 : Int32)), .val (.int (0 : Int32)), .val (.int (((own_f14 p1) + (1 : Int32)) &&& (15 : Int32))), .val (.int (1 : Int32)), .val (.int (0 : Int32)), .val (.ref i0)] [])) _
                refine XS.aloadN X139.here hx rfl (hb hby own_d13_57) rfl rfl ?_
                refine XS.ifnonnullYes X139.here hx rfl (pc0 := 58) (pc' := 77) rfl (hb hby own_d13_58) rfl (by decide) (by decide) ?_
                refine XS.aload X139.here hx rfl (hb hby own_d13_77) rfl rfl ?_
                refine XS.aloadN X139.here hx rfl (hb hby own_d13_79) rfl rfl ?_
                show Steps p.tables e below (T139.setTop (mkF m 80 #[.val (.ref o0), .val (.int p1), .val (.ref o2), .val .null, .val (.int (0 : Int32)), .val (.int (0 : Int32)), .val (.int (((own_f14 p1) + (1 : Int32)) &&& (15 : Int32))), .val (.int (1 : Int32)), .val (.int (0 : Int32)), .val (.ref i0)] [(.ref o2), (.ref i0)])) _
                refine st169.trans ?_
                show Steps p.tables e below (T169.setTop (mkF m 83 #[.val (.ref o0), .val (.int p1), .val (.ref o2), .val .null, .val (.int (0 : Int32)), .val (.int (0 : Int32)), .val (.int (((own_f14 p1) + (1 : Int32)) &&& (15 : Int32))), .val (.int (1 : Int32)), .val (.int (0 : Int32)), .val (.ref i0)] [(.int (own_f19 c0 d))])) _
                refine XS.ifNo X169.here hx rfl (hb hby own_d13_83) rfl ((if0 _ _).trans (feq (own_same c0 d p1 Hb0 Hd Hp hc168)).1) ?_
                refine XS.iload X169.here hx rfl (hb hby own_d13_86) rfl ?_
                exact k)
            obtain ⟨fs, hr, hrun, hended, hW, hsame⟩ := X169.leave (v := some (.int (0 : Int32))) (fun h => by rw [Bd.returns] at h; cases h) (hlocks := hlk)
            refine ⟨_, _, pre172 _ ?_, hrun, hended, _, _, rfl, ?_, ⟨_, rfl⟩, hW, hsame.mono (by decide) (by decide)⟩
            · show Steps p.tables e below (T169.setTop (mkF m 88 #[.val (.ref o0), .val (.int p1), .val (.ref o2), .val .null, .val (.int (0 : Int32)), .val (.int (0 : Int32)), .val (.int (((own_f14 p1) + (1 : Int32)) &&& (15 : Int32))), .val (.int (1 : Int32)), .val (.int (0 : Int32)), .val (.ref i0)] [(.int (0 : Int32))])) _
              exact retI X169 hx Bd.returns (hb hby own_d13_88) hr
            · show own_Q13t2 Z o0 p1 o2 x0 x1 k_s k_i k_d d i0 i1 k_c0 c0 k_c1 c1 z_COMPACT_STRINGS w_slots_o0 w_ids_o0 w_value_o2 w_hash_i0 w_hashIsZero_i0 w_value_i0 w_hash_i1 w_hashIsZero_i1 w_value_i1 h0 n0 _ T169.heap _; rw [e169]; exact ⟨hq139_o0, zq139_o0, hq96_o0, zq96_o0, (by show some (Value.int _) = some (.int (own_f13t2 p1 x0 x1 c0 c1)); unfold own_f13t2; rw [if_neg hc6, if_pos hc93, if_neg hc126, if_pos hc136, if_pos hc168]), N171, K165, f142, f141, f143, f158, f161, f162, f144, f145, ok146, f159, f160, ok103⟩
          · obtain ⟨T173, X173, e173, st173⟩ := getF X139 hx hZ hown (host := "") (Or.inl (hw _ (List.mem_of_getElem? (i := 38) rfl))) Via.refl rfl f149 (g := (mkF m 94 #[.val (.ref o0), .val (.int p1), .val (.ref o2), .val .null, .val (.int (0 : Int32)), .val (.int (0 : Int32)), .val (.int (((own_f14 p1) + (1 : Int32)) &&& (15 : Int32))), .val (.int (1 : Int32)), .val (.int (0 : Int32)), .val (.ref i0)] [(.ref o0), (.int ((((own_f14 p1) + (1 : Int32)) &&& (15 : Int32)) + (1 : Int32)))])) rfl rfl (hb hby own_d13_94)
            obtain ⟨cl174, Ar174, q174, S174, N_174, Ha174, G174⟩ := id f150
            obtain ⟨T175, X175, e175, st175⟩ := getF X173 hx hZ hown (host := "") (Or.inl (hw _ (List.mem_of_getElem? (i := 38) rfl))) Via.refl e173 f149 (g := (mkF m 18 #[.val (.ref o0), .val (.int p1), .val (.ref o2), .val .null, .val (.int (0 : Int32)), .val (.int (0 : Int32)), .val (.int (((((own_f14 p1) + (1 : Int32)) &&& (15 : Int32)) + (1 : Int32)) &&& (15 : Int32))), .val (.int (2 : Int32)), .val (.int (0 : Int32)), .val (.ref i0)] [(.ref o0)])) rfl rfl (hb hby own_d13_18)
            obtain ⟨cl176, Ar176, q176, S176, N_176, Ha176, G176⟩ := id f150
            have hin176 : ¬ ((((((own_f14 p1) + (1 : Int32)) &&& (15 : Int32)) + (1 : Int32)) &&& (15 : Int32)) < 0 ∨ cl176.slots.size ≤ ((((((own_f14 p1) + (1 : Int32)) &&& (15 : Int32)) + (1 : Int32)) &&& (15 : Int32))).toNatClampNeg) := inb_of S176 (own_m15 _)
            have pre177 : ∀ t, Steps p.tables e below (T175.setTop (mkF m 23 #[.val (.ref o0), .val (.int p1), .val (.ref o2), .val .null, .val (.int (0 : Int32)), .val (.int (0 : Int32)), .val (.int (((((own_f14 p1) + (1 : Int32)) &&& (15 : Int32)) + (1 : Int32)) &&& (15 : Int32))), .val (.int (2 : Int32)), .val (.int (0 : Int32)), .val (.ref i0)] [(.int (((((own_f14 p1) + (1 : Int32)) &&& (15 : Int32)) + (1 : Int32)) &&& (15 : Int32))), (.ref w_slots_o0)])) t → Steps p.tables e below (s₁.setTop (entryFrame m #[(.ref o0), (.int p1), (.ref o2), .null, (.int (0 : Int32)), (.int (0 : Int32))] 10)) t := fun t k => pre167 t (by
                refine XS.icmpYes X139.here hx rfl (pc0 := 54) (pc' := 89) rfl (hb hby own_d13_54) rfl (feq hc168).2 (by decide) (by decide) ?_
                show Steps p.tables e below (T139.setTop (mkF m 89 #[.val (.ref o0), .val (.int p1), .val (.ref o2), .val .null, .val (.int (0 : Int32)), .val (.int (0 : Int32)), .val (.int (((own_f14 p1) + (1 : Int32)) &&& (15 : Int32))), .val (.int (1 : Int32)), .val (.int (0 : Int32)), .val (.ref i0)] [])) _
                refine XS.iload X139.here hx rfl (hb hby own_d13_89) rfl ?_
                refine XS.iconst X139.here hx rfl (hb hby own_d13_91) ?_
                refine XS.iadd X139.here hx rfl (hb hby own_d13_92) rfl ?_
                refine XS.aloadN X139.here hx rfl (hb hby own_d13_93) rfl rfl ?_
                show Steps p.tables e below (T139.setTop (mkF m 94 #[.val (.ref o0), .val (.int p1), .val (.ref o2), .val .null, .val (.int (0 : Int32)), .val (.int (0 : Int32)), .val (.int (((own_f14 p1) + (1 : Int32)) &&& (15 : Int32))), .val (.int (1 : Int32)), .val (.int (0 : Int32)), .val (.ref i0)] [(.ref o0), (.int ((((own_f14 p1) + (1 : Int32)) &&& (15 : Int32)) + (1 : Int32)))])) _
                refine st173 _ ?_
                show Steps p.tables e below (T173.setTop (mkF m 97 #[.val (.ref o0), .val (.int p1), .val (.ref o2), .val .null, .val (.int (0 : Int32)), .val (.int (0 : Int32)), .val (.int (((own_f14 p1) + (1 : Int32)) &&& (15 : Int32))), .val (.int (1 : Int32)), .val (.int (0 : Int32)), .val (.ref i0)] [(.ref w_slots_o0), (.int ((((own_f14 p1) + (1 : Int32)) &&& (15 : Int32)) + (1 : Int32)))])) _
                refine X173.arraylength hx (by rw [e173]; exact Ar174.1) (State.isArrayOf_alike hZ.alike Ar174.2.1) (g := (mkF m 97 #[.val (.ref o0), .val (.int p1), .val (.ref o2), .val .null, .val (.int (0 : Int32)), .val (.int (0 : Int32)), .val (.int (((own_f14 p1) + (1 : Int32)) &&& (15 : Int32))), .val (.int (1 : Int32)), .val (.int (0 : Int32)), .val (.ref i0)] [(.ref w_slots_o0), (.int ((((own_f14 p1) + (1 : Int32)) &&& (15 : Int32)) + (1 : Int32)))])) rfl rfl (hb hby own_d13_97) _ ?_
                rw [len_of S174 N_174]
                refine XS.iconst X173.here hx rfl (hb hby own_d13_98) ?_
                refine XS.isub X173.here hx rfl (hb hby own_d13_99) rfl ?_
                show Steps p.tables e below (T173.setTop (mkF m 100 #[.val (.ref o0), .val (.int p1), .val (.ref o2), .val .null, .val (.int (0 : Int32)), .val (.int (0 : Int32)), .val (.int (((own_f14 p1) + (1 : Int32)) &&& (15 : Int32))), .val (.int (1 : Int32)), .val (.int (0 : Int32)), .val (.ref i0)] [(.int (15 : Int32)), (.int ((((own_f14 p1) + (1 : Int32)) &&& (15 : Int32)) + (1 : Int32)))])) _
                refine XS.iand X173.here hx rfl (hb hby own_d13_100) rfl ?_
                refine XS.istore X173.here hx rfl (hb hby own_d13_101) rfl (l' := #[.val (.ref o0), .val (.int p1), .val (.ref o2), .val .null, .val (.int (0 : Int32)), .val (.int (0 : Int32)), .val (.int (((((own_f14 p1) + (1 : Int32)) &&& (15 : Int32)) + (1 : Int32)) &&& (15 : Int32))), .val (.int (1 : Int32)), .val (.int (0 : Int32)), .val (.ref i0)]) rfl ?_
                refine XS.iinc X173.here hx rfl (hb hby own_d13_103) rfl (l' := #[.val (.ref o0), .val (.int p1), .val (.ref o2), .val .null, .val (.int (0 : Int32)), .val (.int (0 : Int32)), .val (.int (((((own_f14 p1) + (1 : Int32)) &&& (15 : Int32)) + (1 : Int32)) &&& (15 : Int32))), .val (.int (2 : Int32)), .val (.int (0 : Int32)), .val (.ref i0)]) rfl ?_
                refine XS.goto X173.here hx rfl (pc0 := 106) (pc' := 10) rfl (hb hby own_d13_106) (by decide) (by decide) ?_
                show Steps p.tables e below (T173.setTop (mkF m 10 #[.val (.ref o0), .val (.int p1), .val (.ref o2), .val .null, .val (.int (0 : Int32)), .val (.int (0 : Int32)), .val (.int (((((own_f14 p1) + (1 : Int32)) &&& (15 : Int32)) + (1 : Int32)) &&& (15 : Int32))), .val (.int (2 : Int32)), .val (.int (0 : Int32)), .val (.ref i0)] [])) _
                refine XS.iload X173.here hx rfl (hb hby own_d13_10) rfl ?_
                refine XS.bipush X173.here hx rfl (hb hby own_d13_12) ?_
                refine XS.icmpNo X173.here hx rfl (hb hby own_d13_14) rfl (tlt (by decide : (2 : Int32) < (16 : Int32))).2.1 ?_
                refine XS.aloadN X173.here hx rfl (hb hby own_d13_17) rfl rfl ?_
                show Steps p.tables e below (T173.setTop (mkF m 18 #[.val (.ref o0), .val (.int p1), .val (.ref o2), .val .null, .val (.int (0 : Int32)), .val (.int (0 : Int32)), .val (.int (((((own_f14 p1) + (1 : Int32)) &&& (15 : Int32)) + (1 : Int32)) &&& (15 : Int32))), .val (.int (2 : Int32)), .val (.int (0 : Int32)), .val (.ref i0)] [(.ref o0)])) _
                refine st175 _ ?_
                show Steps p.tables e below (T175.setTop (mkF m 21 #[.val (.ref o0), .val (.int p1), .val (.ref o2), .val .null, .val (.int (0 : Int32)), .val (.int (0 : Int32)), .val (.int (((((own_f14 p1) + (1 : Int32)) &&& (15 : Int32)) + (1 : Int32)) &&& (15 : Int32))), .val (.int (2 : Int32)), .val (.int (0 : Int32)), .val (.ref i0)] [(.ref w_slots_o0)])) _
                refine XS.iload X175.here hx rfl (hb hby own_d13_21) rfl ?_
                exact k)
            have pre178 : ∀ t, Steps p.tables e below (T175.setTop (mkF m 38 #[.val (.ref o0), .val (.int p1), .val (.ref o2), .val .null, .val (.int (0 : Int32)), .val (.int (0 : Int32)), .val (.int (((((own_f14 p1) + (1 : Int32)) &&& (15 : Int32)) + (1 : Int32)) &&& (15 : Int32))), .val (.int (2 : Int32)), .val (.int (-1 : Int32)), .val (.ref i0)] [(.int ((-(((((own_f14 p1) + (1 : Int32)) &&& (15 : Int32)) + (1 : Int32)) &&& (15 : Int32))) - (1 : Int32)))])) t → Steps p.tables e below (s₁.setTop (entryFrame m #[(.ref o0), (.int p1), (.ref o2), .null, (.int (0 : Int32)), (.int (0 : Int32))] 10)) t := fun t k => pre177 t (by
                refine X175.iaload hx (j := (((((own_f14 p1) + (1 : Int32)) &&& (15 : Int32)) + (1 : Int32)) &&& (15 : Int32))) (v := (.int (0 : Int32))) (by rw [e175]; exact Ar176.1) (State.isArrayOf_alike hZ.alike Ar176.2.1) Ar176.2.2 hin176 (Has.at Ha176 hin176 (own_t2n x0 x1 _ Hx0 Hx1 (own_m15 _) (hc136 ▸ own_n1 (((own_f14 p1) + (1 : Int32)) &&& (15 : Int32)) (own_m15 _)) (hc93 ▸ own_n2 (own_f14 p1) (own_home p1)))) (g := (mkF m 23 #[.val (.ref o0), .val (.int p1), .val (.ref o2), .val .null, .val (.int (0 : Int32)), .val (.int (0 : Int32)), .val (.int (((((own_f14 p1) + (1 : Int32)) &&& (15 : Int32)) + (1 : Int32)) &&& (15 : Int32))), .val (.int (2 : Int32)), .val (.int (0 : Int32)), .val (.ref i0)] [(.int (((((own_f14 p1) + (1 : Int32)) &&& (15 : Int32)) + (1 : Int32)) &&& (15 : Int32))), (.ref w_slots_o0)])) rfl rfl (hb hby own_d13_23) _ ?_
                show Steps p.tables e below (T175.setTop (mkF m 24 #[.val (.ref o0), .val (.int p1), .val (.ref o2), .val .null, .val (.int (0 : Int32)), .val (.int (0 : Int32)), .val (.int (((((own_f14 p1) + (1 : Int32)) &&& (15 : Int32)) + (1 : Int32)) &&& (15 : Int32))), .val (.int (2 : Int32)), .val (.int (0 : Int32)), .val (.ref i0)] [(.int (0 : Int32))])) _
                refine XS.iconst X175.here hx rfl (hb hby own_d13_24) ?_
                refine XS.isub X175.here hx rfl (hb hby own_d13_25) rfl ?_
                refine XS.istore X175.here hx rfl (hb hby own_d13_26) rfl (l' := #[.val (.ref o0), .val (.int p1), .val (.ref o2), .val .null, .val (.int (0 : Int32)), .val (.int (0 : Int32)), .val (.int (((((own_f14 p1) + (1 : Int32)) &&& (15 : Int32)) + (1 : Int32)) &&& (15 : Int32))), .val (.int (2 : Int32)), .val (.int (-1 : Int32)), .val (.ref i0)]) rfl ?_
                refine XS.iload X175.here hx rfl (hb hby own_d13_28) rfl ?_
                show Steps p.tables e below (T175.setTop (mkF m 30 #[.val (.ref o0), .val (.int p1), .val (.ref o2), .val .null, .val (.int (0 : Int32)), .val (.int (0 : Int32)), .val (.int (((((own_f14 p1) + (1 : Int32)) &&& (15 : Int32)) + (1 : Int32)) &&& (15 : Int32))), .val (.int (2 : Int32)), .val (.int (-1 : Int32)), .val (.ref i0)] [(.int (-1 : Int32))])) _
                refine XS.ifNo X175.here hx rfl (hb hby own_d13_30) rfl ((if0 _ _).trans (tlt (by decide : (-1 : Int32) < (0 : Int32))).2.1) ?_
                refine XS.iload X175.here hx rfl (hb hby own_d13_33) rfl ?_
                refine XS.ineg X175.here hx rfl (hb hby own_d13_35) rfl ?_
                refine XS.iconst X175.here hx rfl (hb hby own_d13_36) ?_
                show Steps p.tables e below (T175.setTop (mkF m 37 #[.val (.ref o0), .val (.int p1), .val (.ref o2), .val .null, .val (.int (0 : Int32)), .val (.int (0 : Int32)), .val (.int (((((own_f14 p1) + (1 : Int32)) &&& (15 : Int32)) + (1 : Int32)) &&& (15 : Int32))), .val (.int (2 : Int32)), .val (.int (-1 : Int32)), .val (.ref i0)] [(.int (1 : Int32)), (.int (-(((((own_f14 p1) + (1 : Int32)) &&& (15 : Int32)) + (1 : Int32)) &&& (15 : Int32))))])) _
                refine XS.isub X175.here hx rfl (hb hby own_d13_37) rfl ?_
                exact k)
            obtain ⟨fs, hr, hrun, hended, hW, hsame⟩ := X175.leave (v := some (.int ((-(((((own_f14 p1) + (1 : Int32)) &&& (15 : Int32)) + (1 : Int32)) &&& (15 : Int32))) - (1 : Int32)))) (fun h => by rw [Bd.returns] at h; cases h) (hlocks := hlk)
            refine ⟨_, _, pre178 _ ?_, hrun, hended, _, _, rfl, ?_, ⟨_, rfl⟩, hW, hsame.mono (by decide) (by decide)⟩
            · show Steps p.tables e below (T175.setTop (mkF m 38 #[.val (.ref o0), .val (.int p1), .val (.ref o2), .val .null, .val (.int (0 : Int32)), .val (.int (0 : Int32)), .val (.int (((((own_f14 p1) + (1 : Int32)) &&& (15 : Int32)) + (1 : Int32)) &&& (15 : Int32))), .val (.int (2 : Int32)), .val (.int (-1 : Int32)), .val (.ref i0)] [(.int ((-(((((own_f14 p1) + (1 : Int32)) &&& (15 : Int32)) + (1 : Int32)) &&& (15 : Int32))) - (1 : Int32)))])) _
              exact retI X175 hx Bd.returns (hb hby own_d13_38) hr
            · show own_Q13t2 Z o0 p1 o2 x0 x1 k_s k_i k_d d i0 i1 k_c0 c0 k_c1 c1 z_COMPACT_STRINGS w_slots_o0 w_ids_o0 w_value_o2 w_hash_i0 w_hashIsZero_i0 w_value_i0 w_hash_i1 w_hashIsZero_i1 w_value_i1 h0 n0 _ T175.heap _; rw [e175]; exact ⟨hq139_o0, zq139_o0, hq96_o0, zq96_o0, (by show some (Value.int _) = some (.int (own_f13t2 p1 x0 x1 c0 c1)); unfold own_f13t2; rw [if_neg hc6, if_pos hc93, if_neg hc126, if_pos hc136, if_neg hc168]), N166, K165, f142, f141, f143, f158, f161, f162, f144, f145, ok146, f159, f160, ok103⟩
        · have pre179 : ∀ t, Steps p.tables e below (T133.setTop (mkF m 38 #[.val (.ref o0), .val (.int p1), .val (.ref o2), .val .null, .val (.int (0 : Int32)), .val (.int (0 : Int32)), .val (.int (((own_f14 p1) + (1 : Int32)) &&& (15 : Int32))), .val (.int (1 : Int32)), .val (.int (-1 : Int32)), .val (.ref i1)] [(.int ((-(((own_f14 p1) + (1 : Int32)) &&& (15 : Int32))) - (1 : Int32)))])) t → Steps p.tables e below (s₁.setTop (entryFrame m #[(.ref o0), (.int p1), (.ref o2), .null, (.int (0 : Int32)), (.int (0 : Int32))] 10)) t := fun t k => pre135 t (by
              refine X133.iaload hx (j := (((own_f14 p1) + (1 : Int32)) &&& (15 : Int32))) (v := (.int (0 : Int32))) (by rw [e133]; exact Ar134.1) (State.isArrayOf_alike hZ.alike Ar134.2.1) Ar134.2.2 hin134 (Has.at Ha134 hin134 (own_t2n x0 x1 _ Hx0 Hx1 (own_m15 _) hc136 (hc93 ▸ own_n1 (own_f14 p1) (own_home p1)))) (g := (mkF m 23 #[.val (.ref o0), .val (.int p1), .val (.ref o2), .val .null, .val (.int (0 : Int32)), .val (.int (0 : Int32)), .val (.int (((own_f14 p1) + (1 : Int32)) &&& (15 : Int32))), .val (.int (1 : Int32)), .val (.int (1 : Int32)), .val (.ref i1)] [(.int (((own_f14 p1) + (1 : Int32)) &&& (15 : Int32))), (.ref w_slots_o0)])) rfl rfl (hb hby own_d13_23) _ ?_
              show Steps p.tables e below (T133.setTop (mkF m 24 #[.val (.ref o0), .val (.int p1), .val (.ref o2), .val .null, .val (.int (0 : Int32)), .val (.int (0 : Int32)), .val (.int (((own_f14 p1) + (1 : Int32)) &&& (15 : Int32))), .val (.int (1 : Int32)), .val (.int (1 : Int32)), .val (.ref i1)] [(.int (0 : Int32))])) _
              refine XS.iconst X133.here hx rfl (hb hby own_d13_24) ?_
              refine XS.isub X133.here hx rfl (hb hby own_d13_25) rfl ?_
              refine XS.istore X133.here hx rfl (hb hby own_d13_26) rfl (l' := #[.val (.ref o0), .val (.int p1), .val (.ref o2), .val .null, .val (.int (0 : Int32)), .val (.int (0 : Int32)), .val (.int (((own_f14 p1) + (1 : Int32)) &&& (15 : Int32))), .val (.int (1 : Int32)), .val (.int (-1 : Int32)), .val (.ref i1)]) rfl ?_
              refine XS.iload X133.here hx rfl (hb hby own_d13_28) rfl ?_
              show Steps p.tables e below (T133.setTop (mkF m 30 #[.val (.ref o0), .val (.int p1), .val (.ref o2), .val .null, .val (.int (0 : Int32)), .val (.int (0 : Int32)), .val (.int (((own_f14 p1) + (1 : Int32)) &&& (15 : Int32))), .val (.int (1 : Int32)), .val (.int (-1 : Int32)), .val (.ref i1)] [(.int (-1 : Int32))])) _
              refine XS.ifNo X133.here hx rfl (hb hby own_d13_30) rfl ((if0 _ _).trans (tlt (by decide : (-1 : Int32) < (0 : Int32))).2.1) ?_
              refine XS.iload X133.here hx rfl (hb hby own_d13_33) rfl ?_
              refine XS.ineg X133.here hx rfl (hb hby own_d13_35) rfl ?_
              refine XS.iconst X133.here hx rfl (hb hby own_d13_36) ?_
              show Steps p.tables e below (T133.setTop (mkF m 37 #[.val (.ref o0), .val (.int p1), .val (.ref o2), .val .null, .val (.int (0 : Int32)), .val (.int (0 : Int32)), .val (.int (((own_f14 p1) + (1 : Int32)) &&& (15 : Int32))), .val (.int (1 : Int32)), .val (.int (-1 : Int32)), .val (.ref i1)] [(.int (1 : Int32)), (.int (-(((own_f14 p1) + (1 : Int32)) &&& (15 : Int32))))])) _
              refine XS.isub X133.here hx rfl (hb hby own_d13_37) rfl ?_
              exact k)
          obtain ⟨fs, hr, hrun, hended, hW, hsame⟩ := X133.leave (v := some (.int ((-(((own_f14 p1) + (1 : Int32)) &&& (15 : Int32))) - (1 : Int32)))) (fun h => by rw [Bd.returns] at h; cases h) (hlocks := hlk)
          refine ⟨_, _, pre179 _ ?_, hrun, hended, _, _, rfl, ?_, ⟨_, rfl⟩, hW, hsame.mono (by decide) (by decide)⟩
          · show Steps p.tables e below (T133.setTop (mkF m 38 #[.val (.ref o0), .val (.int p1), .val (.ref o2), .val .null, .val (.int (0 : Int32)), .val (.int (0 : Int32)), .val (.int (((own_f14 p1) + (1 : Int32)) &&& (15 : Int32))), .val (.int (1 : Int32)), .val (.int (-1 : Int32)), .val (.ref i1)] [(.int ((-(((own_f14 p1) + (1 : Int32)) &&& (15 : Int32))) - (1 : Int32)))])) _
            exact retI X133 hx Bd.returns (hb hby own_d13_38) hr
          · show own_Q13t2 Z o0 p1 o2 x0 x1 k_s k_i k_d d i0 i1 k_c0 c0 k_c1 c1 z_COMPACT_STRINGS w_slots_o0 w_ids_o0 w_value_o2 w_hash_i0 w_hashIsZero_i0 w_value_i0 w_hash_i1 w_hashIsZero_i1 w_value_i1 h0 n0 _ T133.heap _; rw [e133]; exact ⟨w_hash_i0, w_hashIsZero_i0, hq96_o0, zq96_o0, (by show some (Value.int _) = some (.int (own_f13t2 p1 x0 x1 c0 c1)); unfold own_f13t2; rw [if_neg hc6, if_pos hc93, if_neg hc126, if_neg hc136]), N124, K123, f114, f117, f118, f99, f98, f100, f115, f116, Hk0, f101, f102, ok103⟩
    · have pre180 : ∀ t, Steps p.tables e below (T3.setTop (mkF m 38 #[.val (.ref o0), .val (.int p1), .val (.ref o2), .val .null, .val (.int (0 : Int32)), .val (.int (0 : Int32)), .val (.int (own_f14 p1)), .val (.int (0 : Int32)), .val (.int (-1 : Int32)), .unset] [(.int ((-(own_f14 p1)) - (1 : Int32)))])) t → Steps p.tables e below (s₁.setTop (entryFrame m #[(.ref o0), (.int p1), (.ref o2), .null, (.int (0 : Int32)), (.int (0 : Int32))] 10)) t := fun t k => pre5 t (by
          refine X3.iaload hx (j := (own_f14 p1)) (v := (.int (0 : Int32))) (by rw [e3]; exact Ar4.1) (State.isArrayOf_alike hZ.alike Ar4.2.1) Ar4.2.2 hin4 (Has.at Ha4 hin4 (own_t2n x0 x1 _ Hx0 Hx1 (own_home p1) hc6 hc93)) (g := (mkF m 23 #[.val (.ref o0), .val (.int p1), .val (.ref o2), .val .null, .val (.int (0 : Int32)), .val (.int (0 : Int32)), .val (.int (own_f14 p1)), .val (.int (0 : Int32)), .unset, .unset] [(.int (own_f14 p1)), (.ref w_slots_o0)])) rfl rfl (hb hby own_d13_23) _ ?_
          show Steps p.tables e below (T3.setTop (mkF m 24 #[.val (.ref o0), .val (.int p1), .val (.ref o2), .val .null, .val (.int (0 : Int32)), .val (.int (0 : Int32)), .val (.int (own_f14 p1)), .val (.int (0 : Int32)), .unset, .unset] [(.int (0 : Int32))])) _
          refine XS.iconst X3.here hx rfl (hb hby own_d13_24) ?_
          refine XS.isub X3.here hx rfl (hb hby own_d13_25) rfl ?_
          refine XS.istore X3.here hx rfl (hb hby own_d13_26) rfl (l' := #[.val (.ref o0), .val (.int p1), .val (.ref o2), .val .null, .val (.int (0 : Int32)), .val (.int (0 : Int32)), .val (.int (own_f14 p1)), .val (.int (0 : Int32)), .val (.int (-1 : Int32)), .unset]) rfl ?_
          refine XS.iload X3.here hx rfl (hb hby own_d13_28) rfl ?_
          show Steps p.tables e below (T3.setTop (mkF m 30 #[.val (.ref o0), .val (.int p1), .val (.ref o2), .val .null, .val (.int (0 : Int32)), .val (.int (0 : Int32)), .val (.int (own_f14 p1)), .val (.int (0 : Int32)), .val (.int (-1 : Int32)), .unset] [(.int (-1 : Int32))])) _
          refine XS.ifNo X3.here hx rfl (hb hby own_d13_30) rfl ((if0 _ _).trans (tlt (by decide : (-1 : Int32) < (0 : Int32))).2.1) ?_
          refine XS.iload X3.here hx rfl (hb hby own_d13_33) rfl ?_
          refine XS.ineg X3.here hx rfl (hb hby own_d13_35) rfl ?_
          refine XS.iconst X3.here hx rfl (hb hby own_d13_36) ?_
          show Steps p.tables e below (T3.setTop (mkF m 37 #[.val (.ref o0), .val (.int p1), .val (.ref o2), .val .null, .val (.int (0 : Int32)), .val (.int (0 : Int32)), .val (.int (own_f14 p1)), .val (.int (0 : Int32)), .val (.int (-1 : Int32)), .unset] [(.int (1 : Int32)), (.int (-(own_f14 p1)))])) _
          refine XS.isub X3.here hx rfl (hb hby own_d13_37) rfl ?_
          exact k)
      obtain ⟨fs, hr, hrun, hended, hW, hsame⟩ := X3.leave (v := some (.int ((-(own_f14 p1)) - (1 : Int32)))) (fun h => by rw [Bd.returns] at h; cases h) (hlocks := hlk)
      refine ⟨_, _, pre180 _ ?_, hrun, hended, _, _, rfl, ?_, ⟨_, rfl⟩, hW, hsame.mono (by decide) (by decide)⟩
      · show Steps p.tables e below (T3.setTop (mkF m 38 #[.val (.ref o0), .val (.int p1), .val (.ref o2), .val .null, .val (.int (0 : Int32)), .val (.int (0 : Int32)), .val (.int (own_f14 p1)), .val (.int (0 : Int32)), .val (.int (-1 : Int32)), .unset] [(.int ((-(own_f14 p1)) - (1 : Int32)))])) _
        exact retI X3 hx Bd.returns (hb hby own_d13_38) hr
      · show own_Q13t2 Z o0 p1 o2 x0 x1 k_s k_i k_d d i0 i1 k_c0 c0 k_c1 c1 z_COMPACT_STRINGS w_slots_o0 w_ids_o0 w_value_o2 w_hash_i0 w_hashIsZero_i0 w_value_i0 w_hash_i1 w_hashIsZero_i1 w_value_i1 h0 n0 _ T3.heap _; rw [e3]; exact ⟨w_hash_i0, w_hashIsZero_i0, w_hash_i1, w_hashIsZero_i1, (by show some (Value.int _) = some (.int (own_f13t2 p1 x0 x1 c0 c1)); unfold own_f13t2; rw [if_neg hc6, if_neg hc93]), N2, Keep.refl h0 [i0, i1], P_E_i0, P_F_i0_coder, P_F_i0_value, P_E_i1, P_F_i1_coder, P_F_i1_value, P_F_i0_hash, P_F_i0_hashIsZero, Hk0, P_F_i1_hash, P_F_i1_hashIsZero, Hk1⟩
theorem own_d18_0 : decode prog_10_method_10_code 0 = .ok (.iload_n 2, 1) := by decide +kernel
theorem own_d18_1 : decode prog_10_method_10_code 1 = .ok (.ldc 78, 2) := by decide +kernel
theorem own_d18_3 : decode prog_10_method_10_code 3 = .ok (.if_icmp .ne 24, 3) := by decide +kernel
theorem own_d18_27 : decode prog_10_method_10_code 27 = .ok (.aload_n 0, 1) := by decide +kernel
theorem own_d18_28 : decode prog_10_method_10_code 28 = .ok (.getfield 17, 3) := by decide +kernel
theorem own_d18_31 : decode prog_10_method_10_code 31 = .ok (.iload_n 2, 1) := by decide +kernel
theorem own_d18_32 : decode prog_10_method_10_code 32 = .ok (.ineg, 1) := by decide +kernel
theorem own_d18_33 : decode prog_10_method_10_code 33 = .ok (.iconst 1, 1) := by decide +kernel
theorem own_d18_34 : decode prog_10_method_10_code 34 = .ok (.isub, 1) := by decide +kernel
theorem own_d18_35 : decode prog_10_method_10_code 35 = .ok (.iload_n 1, 1) := by decide +kernel
theorem own_d18_36 : decode prog_10_method_10_code 36 = .ok (.iconst 1, 1) := by decide +kernel
theorem own_d18_37 : decode prog_10_method_10_code 37 = .ok (.iadd, 1) := by decide +kernel
theorem own_d18_38 : decode prog_10_method_10_code 38 = .ok (.iastore, 1) := by decide +kernel
theorem own_d18_39 : decode prog_10_method_10_code 39 = .ok (.return_, 1) := by decide +kernel
theorem own_pn18 : plainName "com/example/nestor/nestor/IdTable" = true := by first | (simp [plainName, overriddenIn]; done) | decide +kernel
theorem own_ef18 (m : MethodId) (x0 : Addr) (x1 : Int32) (x2 : Int32) : entryFrame m #[(.ref x0), (.int x1), (.int x2)] 3 = (mkF m 0 #[.val (.ref x0), .val (.int x1), .val (.int x2)] []) := by first | (simp [entryFrame, mkF, argsToLocals, Value.category]; done) | rfl
def own_Q18 (Z : State) (o0 : Addr) (p1 : Int32) (p2 : Int32) (w_slots_o0 : Addr) (k_s : ClassId) (vs_s : List Value) (h0 : Heap) (n0 : Nat) (v : Option Value) (h : Heap) (L : List Loc) : Prop := v = none ∧ Fr n0 L ∧ Keep h0 h [w_slots_o0] ∧ Arv Z h w_slots_o0 k_s .int (16 : Int32) (vs_s.set ((-p2) - (1 : Int32)).toNatClampNeg (.int (p1 + (1 : Int32)))) (.int (0 : Int32))
set_option maxRecDepth 65536 in
set_option maxHeartbeats 40000000 in
theorem own_rm18 (l : Launch) (Z : State) (a0 : Array Value) (hw : ∀ d ∈ tables_1, d.before a0 Z = true) (ws : List Jvm.Cond) (o0 : Addr) (p1 : Int32) (p2 : Int32) (w_slots_o0 : Addr) (k_s : ClassId) (vs_s : List Value) (h0 : Heap) (n0 : Nat) (Z0 : n0 ≤ h0.size) (Hm : ¬ (p2 = (-2147483648 : Int32))) (Hin : own_in ((-p2) - (1 : Int32))) (Hl : vs_s.length = 16) (P_E_o0 : Exa Z h0 o0 "com/example/nestor/nestor/IdTable") (P_F_o0_slots : Fld Z h0 o0 "com/example/nestor/nestor/IdTable" "slots" "[I" (.ref w_slots_o0)) (P_V_w_slots_o0 : Arv Z h0 w_slots_o0 k_s .int (16 : Int32) vs_s (.int (0 : Int32))) (G_w_slots_o0 : n0 ≤ w_slots_o0) :
    MetFree l (⟨"com/example/nestor/nestor/IdTable", "put", "(II)V"⟩ : MethodName) (head1 (Jvm.Cond.code (⟨"com/example/nestor/nestor/IdTable", "put", "(II)V"⟩ : MethodName) prog_10_method_10_code 3 none :: ws) ({ frames := 0, cells := 0, slots := 0, locals := 0 } : Room)) (fun a U => a = #[(.ref o0), (.int p1), (.int p2)] ∧ Z.Warmed39 U.vm ∧ U.heap = h0) (fun _ _ _ _ _ => True) (fun _ U o U' => ∃ v L, o = .returned v ∧ own_Q18 Z o0 p1 p2 w_slots_o0 k_s vs_s h0 n0 v U'.heap L ∧ FrameEnd U o U' L ({ frames := 0, cells := 0, slots := 0, locals := 0 } : Room).cells ({ frames := 0, cells := 0, slots := 0, locals := 0 } : Room).slots) := by
  refine MetFree.of_bodySF (plainFor_of_name own_pn18) hisR ?_
  intro p e s m args below meth c s₁ Bd hml0 hP hK
  obtain ⟨rfl, hZ, hh⟩ := hP
  have hx := Bd.exec
  have hlk : meth.locks = false := BodyLoose.notSynchronized Bd
  have hby := Bd.bytes
  have hml : c.maxLocals = 3 := hml0
  have hown : s.vm.findClass "com/example/nestor/nestor/IdTable" = some m.cls := findClass_of_methodNamed Bd.named
  have hnm := (name_of_methodNamed Bd.named Bd.method).1
  have X0 : Stand p l e ({ frames := 0, cells := 0, slots := 0, locals := 0 } : Room) s m #[(.ref o0), (.int p1), (.int p2)] below meth c s₁ [] 0 0 := Stand.of_body Bd
  have e0 : s₁.heap = h0 := by rw [← hh, Bd.state]; rfl
  have N0 := Fr.nil n0
  have pre0 : ∀ t, Steps p.tables e below (s₁.setTop (mkF m 0 #[.val (.ref o0), .val (.int p1), .val (.int p2)] [])) t → Steps p.tables e below (s₁.setTop (entryFrame m #[(.ref o0), (.int p1), (.int p2)] 3)) t := fun t k => castTop (own_ef18 m o0 p1 p2) k
  obtain ⟨T1, X1, e1, st1⟩ := getF X0 hx hZ hown (host := "") (Or.inl (hw _ (List.mem_of_getElem? (i := 38) rfl))) Via.refl e0 P_F_o0_slots (g := (mkF m 28 #[.val (.ref o0), .val (.int p1), .val (.int p2)] [(.ref o0)])) rfl rfl (hb hby own_d18_28)
  obtain ⟨cl2, Ar2, q2, S2, N_2, Ha2, G2⟩ := id P_V_w_slots_o0
  have hin2 : ¬ (((-p2) - (1 : Int32)) < 0 ∨ cl2.slots.size ≤ (((-p2) - (1 : Int32))).toNatClampNeg) := inb_of S2 Hin
  obtain ⟨T3, h3, X3, e3, W3, st3⟩ := stI X1 hx hZ e1 Ar2 (j := ((-p2) - (1 : Int32))) hin2 (g := (mkF m 38 #[.val (.ref o0), .val (.int p1), .val (.int p2)] [(.int (p1 + (1 : Int32))), (.int ((-p2) - (1 : Int32))), (.ref w_slots_o0)])) rfl rfl (hb hby own_d18_38)
  have f4 : Arv Z h3 w_slots_o0 k_s .int (16 : Int32) (vs_s.set ((-p2) - (1 : Int32)).toNatClampNeg (.int (p1 + (1 : Int32)))) (.int (0 : Int32)) := Arv.set Ar2 q2 S2 N_2 Ha2 G2 rfl W3 ((-p2) - (1 : Int32)).toNatClampNeg rfl (by rw [Hl]; exact own_nat _ Hin)
  have f5 : Exa Z h3 o0 "com/example/nestor/nestor/IdTable" := P_E_o0.wr W3
  have f6 : Fld Z h3 o0 "com/example/nestor/nestor/IdTable" "slots" "[I" (.ref w_slots_o0) := P_F_o0_slots.other W3 (Or.inl (Exa.neArv P_E_o0 P_V_w_slots_o0 (hw _ (List.mem_of_getElem? (i := 27) rfl))))
  have zs7 : n0 ≤ h3.size := Nat.le_trans Z0 (Keep.of_wr W3).1
  have N8 := Fr.snoc X3 N0 G_w_slots_o0
  have K9 : Keep h0 h0 [w_slots_o0] := Keep.refl h0 [w_slots_o0]
  have K10 : Keep h0 h3 [w_slots_o0] := K9.wr W3 (Or.inl (by simp))
  have pre11 : ∀ t, Steps p.tables e below (T3.setTop (mkF m 39 #[.val (.ref o0), .val (.int p1), .val (.int p2)] [])) t → Steps p.tables e below (s₁.setTop (entryFrame m #[(.ref o0), (.int p1), (.int p2)] 3)) t := fun t k => pre0 t (by
      refine XS.iloadN X0.here hx rfl (hb hby own_d18_0) rfl ?_
      show Steps p.tables e below (s₁.setTop (mkF m 1 #[.val (.ref o0), .val (.int p1), .val (.int p2)] [(.int p2)])) _
      refine X0.ldcInt hx hown (mvT hZ (hw _ (List.mem_of_getElem? (i := 101) rfl))) (g := (mkF m 1 #[.val (.ref o0), .val (.int p1), .val (.int p2)] [(.int p2)])) rfl (hb hby own_d18_1) _ ?_
      refine XS.icmpYes X0.here hx rfl (pc0 := 3) (pc' := 27) rfl (hb hby own_d18_3) rfl (feq Hm).2 (by decide) (by decide) ?_
      refine XS.aloadN X0.here hx rfl (hb hby own_d18_27) rfl rfl ?_
      refine st1 _ ?_
      show Steps p.tables e below (T1.setTop (mkF m 31 #[.val (.ref o0), .val (.int p1), .val (.int p2)] [(.ref w_slots_o0)])) _
      refine XS.iloadN X1.here hx rfl (hb hby own_d18_31) rfl ?_
      refine XS.ineg X1.here hx rfl (hb hby own_d18_32) rfl ?_
      refine XS.iconst X1.here hx rfl (hb hby own_d18_33) ?_
      refine XS.isub X1.here hx rfl (hb hby own_d18_34) rfl ?_
      show Steps p.tables e below (T1.setTop (mkF m 35 #[.val (.ref o0), .val (.int p1), .val (.int p2)] [(.int ((-p2) - (1 : Int32))), (.ref w_slots_o0)])) _
      refine XS.iloadN X1.here hx rfl (hb hby own_d18_35) rfl ?_
      refine XS.iconst X1.here hx rfl (hb hby own_d18_36) ?_
      refine XS.iadd X1.here hx rfl (hb hby own_d18_37) rfl ?_
      refine st3 _ ?_
      show Steps p.tables e below (T3.setTop (mkF m 39 #[.val (.ref o0), .val (.int p1), .val (.int p2)] [])) _
      exact k)
  obtain ⟨fs, hr, hrun, hended, hW, hsame⟩ := X3.leave (v := none) (fun _ => rfl) (hlocks := hlk)
  refine ⟨_, _, pre11 _ ?_, hrun, hended, _, _, rfl, ?_, ⟨_, rfl⟩, hW, hsame.mono (by decide) (by decide)⟩
  · show Steps p.tables e below (T3.setTop (mkF m 39 #[.val (.ref o0), .val (.int p1), .val (.int p2)] [])) _
    exact X3.returnOut hx Bd.returns (hb hby own_d18_39) hr
  · show own_Q18 Z o0 p1 p2 w_slots_o0 k_s vs_s h0 n0 _ T3.heap _; rw [e3]; exact ⟨rfl, N8, K10, f4⟩
theorem own_pd11 : parseMethodDescriptor "(II)V" = some ⟨[.int, .int], none⟩ := by decide +kernel
theorem own_sel1 (Z : State) (a0 : Array Value) (hw : ∀ d ∈ tables_1, d.before a0 Z = true) : (Jvm.Cond.selects "com/example/nestor/nestor/IdTable" (⟨"com/example/nestor/nestor/IdTable", "put", "(II)V"⟩ : MethodName) (⟨"com/example/nestor/nestor/IdTable", "put", "(II)V"⟩ : MethodName)).before a0 Z = true := by
  obtain ⟨c, k, h1, h2, -, h4, -⟩ := Cond.instantiable_spec (hw _ (List.mem_of_getElem? (i := 27) rfl))
  exact selects_self_of_private h1 h2 (Bool.or_eq_false_iff.mp h4).1 (Cond.privateMethod_at (hw _ (List.mem_of_getElem? (i := 110) rfl))) (hw _ (List.mem_of_getElem? (i := 109) rfl)) (by decide)
theorem own_d17_0 : decode prog_10_method_9_code 0 = .ok (.aload_n 0, 1) := by decide +kernel
theorem own_d17_1 : decode prog_10_method_9_code 1 = .ok (.getfield 28, 3) := by decide +kernel
theorem own_d17_4 : decode prog_10_method_9_code 4 = .ok (.aload_n 0, 1) := by decide +kernel
theorem own_d17_5 : decode prog_10_method_9_code 5 = .ok (.getfield 11, 3) := by decide +kernel
theorem own_d17_8 : decode prog_10_method_9_code 8 = .ok (.arraylength, 1) := by decide +kernel
theorem own_d17_9 : decode prog_10_method_9_code 9 = .ok (.if_icmp .ne 23, 3) := by decide +kernel
theorem own_d17_32 : decode prog_10_method_9_code 32 = .ok (.aload_n 0, 1) := by decide +kernel
theorem own_d17_33 : decode prog_10_method_9_code 33 = .ok (.getfield 28, 3) := by decide +kernel
theorem own_d17_36 : decode prog_10_method_9_code 36 = .ok (.istore_n 3, 1) := by decide +kernel
theorem own_d17_37 : decode prog_10_method_9_code 37 = .ok (.aload_n 0, 1) := by decide +kernel
theorem own_d17_38 : decode prog_10_method_9_code 38 = .ok (.getfield 11, 3) := by decide +kernel
theorem own_d17_41 : decode prog_10_method_9_code 41 = .ok (.iload_n 3, 1) := by decide +kernel
theorem own_d17_42 : decode prog_10_method_9_code 42 = .ok (.aload_n 1, 1) := by decide +kernel
theorem own_d17_43 : decode prog_10_method_9_code 43 = .ok (.aastore, 1) := by decide +kernel
theorem own_d17_44 : decode prog_10_method_9_code 44 = .ok (.aload_n 0, 1) := by decide +kernel
theorem own_d17_45 : decode prog_10_method_9_code 45 = .ok (.dup, 1) := by decide +kernel
theorem own_d17_46 : decode prog_10_method_9_code 46 = .ok (.getfield 28, 3) := by decide +kernel
theorem own_d17_49 : decode prog_10_method_9_code 49 = .ok (.iconst 1, 1) := by decide +kernel
theorem own_d17_50 : decode prog_10_method_9_code 50 = .ok (.iadd, 1) := by decide +kernel
theorem own_d17_51 : decode prog_10_method_9_code 51 = .ok (.putfield 28, 3) := by decide +kernel
theorem own_d17_54 : decode prog_10_method_9_code 54 = .ok (.aload_n 0, 1) := by decide +kernel
theorem own_d17_55 : decode prog_10_method_9_code 55 = .ok (.iload_n 3, 1) := by decide +kernel
theorem own_d17_56 : decode prog_10_method_9_code 56 = .ok (.iload_n 2, 1) := by decide +kernel
theorem own_d17_57 : decode prog_10_method_9_code 57 = .ok (.invokevirtual 89, 3) := by decide +kernel
theorem own_d17_60 : decode prog_10_method_9_code 60 = .ok (.iconst 2, 1) := by decide +kernel
theorem own_d17_61 : decode prog_10_method_9_code 61 = .ok (.aload_n 0, 1) := by decide +kernel
theorem own_d17_62 : decode prog_10_method_9_code 62 = .ok (.getfield 28, 3) := by decide +kernel
theorem own_d17_65 : decode prog_10_method_9_code 65 = .ok (.imul, 1) := by decide +kernel
theorem own_d17_66 : decode prog_10_method_9_code 66 = .ok (.aload_n 0, 1) := by decide +kernel
theorem own_d17_67 : decode prog_10_method_9_code 67 = .ok (.getfield 17, 3) := by decide +kernel
theorem own_d17_70 : decode prog_10_method_9_code 70 = .ok (.arraylength, 1) := by decide +kernel
theorem own_d17_71 : decode prog_10_method_9_code 71 = .ok (.if_icmp .lt 70, 3) := by decide +kernel
theorem own_d17_141 : decode prog_10_method_9_code 141 = .ok (.iload_n 3, 1) := by decide +kernel
theorem own_d17_142 : decode prog_10_method_9_code 142 = .ok (.ireturn, 1) := by decide +kernel
theorem own_pn17 : plainName "com/example/nestor/nestor/IdTable" = true := by first | (simp [plainName, overriddenIn]; done) | decide +kernel
theorem own_ef17t0 (m : MethodId) (x0 : Addr) (x1 : Addr) (x2 : Int32) : entryFrame m #[(.ref x0), (.ref x1), (.int x2)] 6 = (mkF m 0 #[.val (.ref x0), .val (.ref x1), .val (.int x2), .unset, .unset, .unset] []) := by first | (simp [entryFrame, mkF, argsToLocals, Value.category]; done) | rfl
def own_Q17t0 (Z : State) (o0 : Addr) (o1 : Addr) (p2 : Int32) (k_s : ClassId) (vs_s : List Value) (k_i : ClassId) (w_ids_o0 : Addr) (w_slots_o0 : Addr) (h0 : Heap) (n0 : Nat) (v : Option Value) (h : Heap) (L : List Loc) : Prop := v = some (.int (0 : Int32)) ∧ Fr n0 L ∧ Keep h0 h [o0, w_ids_o0, w_slots_o0] ∧ Exa Z h o0 "com/example/nestor/nestor/IdTable" ∧ Fld Z h o0 "com/example/nestor/nestor/IdTable" "size" "I" (.int (1 : Int32)) ∧ Fld Z h o0 "com/example/nestor/nestor/IdTable" "ids" "[Ljava/lang/String;" (.ref w_ids_o0) ∧ Fld Z h o0 "com/example/nestor/nestor/IdTable" "slots" "[I" (.ref w_slots_o0) ∧ Arv Z h w_ids_o0 k_i (.object "java/lang/String") (8 : Int32) [(.ref o1), .null, .null, .null, .null, .null, .null, .null] .null ∧ Arv Z h w_slots_o0 k_s .int (16 : Int32) (vs_s.set ((-p2) - (1 : Int32)).toNatClampNeg (.int ((0 : Int32) + (1 : Int32)))) (.int (0 : Int32))
set_option maxRecDepth 65536 in
set_option maxHeartbeats 40000000 in
theorem own_rm17t0 (l : Launch) (Z : State) (a0 : Array Value) (hw : ∀ d ∈ tables_1, d.before a0 Z = true) (ws : List Jvm.Cond) (o0 : Addr) (o1 : Addr) (p2 : Int32) (k_s : ClassId) (vs_s : List Value) (k_i : ClassId) (w_ids_o0 : Addr) (w_slots_o0 : Addr) (h0 : Heap) (n0 : Nat) (Z0 : n0 ≤ h0.size) (Hov : Ovr Z k_i "java/lang/String") (Hne_w_ids_o0_w_slots_o0 : w_ids_o0 ≠ w_slots_o0) (P_E_o0 : Exa Z h0 o0 "com/example/nestor/nestor/IdTable") (P_E_o1 : Exa Z h0 o1 "java/lang/String") (P_F_o0_size : Fld Z h0 o0 "com/example/nestor/nestor/IdTable" "size" "I" (.int (0 : Int32))) (P_F_o0_ids : Fld Z h0 o0 "com/example/nestor/nestor/IdTable" "ids" "[Ljava/lang/String;" (.ref w_ids_o0)) (P_F_o0_slots : Fld Z h0 o0 "com/example/nestor/nestor/IdTable" "slots" "[I" (.ref w_slots_o0)) (P_V_w_ids_o0 : Arv Z h0 w_ids_o0 k_i (.object "java/lang/String") (8 : Int32) [.null, .null, .null, .null, .null, .null, .null, .null] .null) (P_V_w_slots_o0 : Arv Z h0 w_slots_o0 k_s .int (16 : Int32) vs_s (.int (0 : Int32))) (G_w_ids_o0 : n0 ≤ w_ids_o0) (G_o0 : n0 ≤ o0) (Hm_11 : ¬ (p2 = (-2147483648 : Int32))) (Hin_12 : own_in ((-p2) - (1 : Int32))) (Hl_13 : vs_s.length = 16) (G_w_slots_o0 : n0 ≤ w_slots_o0) :
    MetFree l (⟨"com/example/nestor/nestor/IdTable", "add", "(Ljava/lang/String;I)I"⟩ : MethodName) (head1 (Jvm.Cond.code (⟨"com/example/nestor/nestor/IdTable", "add", "(Ljava/lang/String;I)I"⟩ : MethodName) prog_10_method_9_code 6 (some .int) :: ws) ({ frames := 1, cells := 0, slots := 0, locals := 14 } : Room)) (fun a U => a = #[(.ref o0), (.ref o1), (.int p2)] ∧ Z.Warmed39 U.vm ∧ U.heap = h0) (fun _ _ _ _ _ => True) (fun _ U o U' => ∃ v L, o = .returned v ∧ own_Q17t0 Z o0 o1 p2 k_s vs_s k_i w_ids_o0 w_slots_o0 h0 n0 v U'.heap L ∧ FrameEnd U o U' L ({ frames := 1, cells := 0, slots := 0, locals := 14 } : Room).cells ({ frames := 1, cells := 0, slots := 0, locals := 14 } : Room).slots) := by
  refine MetFree.of_bodySF (plainFor_of_name own_pn17) hisR ?_
  intro p e s m args below meth c s₁ Bd hml0 hP hK
  obtain ⟨rfl, hZ, hh⟩ := hP
  have hx := Bd.exec
  have hlk : meth.locks = false := BodyLoose.notSynchronized Bd
  have hby := Bd.bytes
  have hml : c.maxLocals = 6 := hml0
  have hown : s.vm.findClass "com/example/nestor/nestor/IdTable" = some m.cls := findClass_of_methodNamed Bd.named
  have hnm := (name_of_methodNamed Bd.named Bd.method).1
  have X0 : Stand p l e ({ frames := 1, cells := 0, slots := 0, locals := 14 } : Room) s m #[(.ref o0), (.ref o1), (.int p2)] below meth c s₁ [] 0 0 := Stand.of_body Bd
  have e0 : s₁.heap = h0 := by rw [← hh, Bd.state]; rfl
  have N0 := Fr.nil n0
  have pre0 : ∀ t, Steps p.tables e below (s₁.setTop (mkF m 0 #[.val (.ref o0), .val (.ref o1), .val (.int p2), .unset, .unset, .unset] [])) t → Steps p.tables e below (s₁.setTop (entryFrame m #[(.ref o0), (.ref o1), (.int p2)] 6)) t := fun t k => castTop (own_ef17t0 m o0 o1 p2) k
  obtain ⟨T1, X1, e1, st1⟩ := getF X0 hx hZ hown (host := "") (Or.inl (hw _ (List.mem_of_getElem? (i := 106) rfl))) Via.refl e0 P_F_o0_size (g := (mkF m 1 #[.val (.ref o0), .val (.ref o1), .val (.int p2), .unset, .unset, .unset] [(.ref o0)])) rfl rfl (hb hby own_d17_1)
  obtain ⟨T2, X2, e2, st2⟩ := getF X1 hx hZ hown (host := "") (Or.inl (hw _ (List.mem_of_getElem? (i := 35) rfl))) Via.refl e1 P_F_o0_ids (g := (mkF m 5 #[.val (.ref o0), .val (.ref o1), .val (.int p2), .unset, .unset, .unset] [(.ref o0), (.int (0 : Int32))])) rfl rfl (hb hby own_d17_5)
  obtain ⟨cl3, Ar3, q3, S3, N_3, Ha3, G3⟩ := id P_V_w_ids_o0
  obtain ⟨T4, X4, e4, st4⟩ := getF X2 hx hZ hown (host := "") (Or.inl (hw _ (List.mem_of_getElem? (i := 106) rfl))) Via.refl e2 P_F_o0_size (g := (mkF m 33 #[.val (.ref o0), .val (.ref o1), .val (.int p2), .unset, .unset, .unset] [(.ref o0)])) rfl rfl (hb hby own_d17_33)
  obtain ⟨T5, X5, e5, st5⟩ := getF X4 hx hZ hown (host := "") (Or.inl (hw _ (List.mem_of_getElem? (i := 35) rfl))) Via.refl e4 P_F_o0_ids (g := (mkF m 38 #[.val (.ref o0), .val (.ref o1), .val (.int p2), .val (.int (0 : Int32)), .unset, .unset] [(.ref o0)])) rfl rfl (hb hby own_d17_38)
  obtain ⟨cl6, Ar6, q6, S6, N_6, Ha6, G6⟩ := id P_V_w_ids_o0
  have hin6 : ¬ ((0 : Int32) < 0 ∨ cl6.slots.size ≤ ((0 : Int32)).toNatClampNeg) := inb_of S6 ⟨by decide, by decide⟩
  obtain ⟨T7, h7, X7, e7, W7, st7⟩ := stR X5 hx hZ e5 Ar6 (j := (0 : Int32)) hin6 rfl (Sto.ofV Ar6 q6 Hov (Ins.self P_E_o1)) (g := (mkF m 43 #[.val (.ref o0), .val (.ref o1), .val (.int p2), .val (.int (0 : Int32)), .unset, .unset] [(.ref o1), (.int (0 : Int32)), (.ref w_ids_o0)])) rfl rfl (hb hby own_d17_43)
  have f8 : Arv Z h7 w_ids_o0 k_i (.object "java/lang/String") (8 : Int32) [(.ref o1), .null, .null, .null, .null, .null, .null, .null] .null := Arv.set Ar6 q6 S6 N_6 Ha6 G6 rfl W7 0 rfl (Nat.le_of_ble_eq_true rfl)
  have f9 : Exa Z h7 o0 "com/example/nestor/nestor/IdTable" := P_E_o0.wr W7
  have f10 : Exa Z h7 o1 "java/lang/String" := P_E_o1.wr W7
  have f11 : Fld Z h7 o0 "com/example/nestor/nestor/IdTable" "size" "I" (.int (0 : Int32)) := P_F_o0_size.other W7 (Or.inl (Exa.neArv P_E_o0 P_V_w_ids_o0 (hw _ (List.mem_of_getElem? (i := 27) rfl))))
  have f12 : Fld Z h7 o0 "com/example/nestor/nestor/IdTable" "ids" "[Ljava/lang/String;" (.ref w_ids_o0) := P_F_o0_ids.other W7 (Or.inl (Exa.neArv P_E_o0 P_V_w_ids_o0 (hw _ (List.mem_of_getElem? (i := 27) rfl))))
  have f13 : Fld Z h7 o0 "com/example/nestor/nestor/IdTable" "slots" "[I" (.ref w_slots_o0) := P_F_o0_slots.other W7 (Or.inl (Exa.neArv P_E_o0 P_V_w_ids_o0 (hw _ (List.mem_of_getElem? (i := 27) rfl))))
  have f14 : Arv Z h7 w_slots_o0 k_s .int (16 : Int32) vs_s (.int (0 : Int32)) := P_V_w_slots_o0.other W7 (Ne.symm Hne_w_ids_o0_w_slots_o0)
  have zs15 : n0 ≤ h7.size := Nat.le_trans Z0 (Keep.of_wr W7).1
  have N16 := Fr.snoc X7 N0 G_w_ids_o0
  have K17 : Keep h0 h0 [o0, w_ids_o0, w_slots_o0] := Keep.refl h0 [o0, w_ids_o0, w_slots_o0]
  have K18 : Keep h0 h7 [o0, w_ids_o0, w_slots_o0] := K17.wr W7 (Or.inl (by simp))
  obtain ⟨T19, X19, e19, st19⟩ := getF X7 hx hZ hown (host := "") (Or.inl (hw _ (List.mem_of_getElem? (i := 106) rfl))) Via.refl e7 f11 (g := (mkF m 46 #[.val (.ref o0), .val (.ref o1), .val (.int p2), .val (.int (0 : Int32)), .unset, .unset] [(.ref o0), (.ref o0)])) rfl rfl (hb hby own_d17_46)
  obtain ⟨T20, h20, X20, e20, W20, st20⟩ := putF X19 hx hZ hown (host := "") (Or.inl (hw _ (List.mem_of_getElem? (i := 106) rfl))) Via.refl e19 f11 f9 (Or.inl (hw _ (List.mem_of_getElem? (i := 107) rfl))) (hw _ (List.mem_of_getElem? (i := 27) rfl)) (ty := .int) (by decide) rfl rfl (g := (mkF m 51 #[.val (.ref o0), .val (.ref o1), .val (.int p2), .val (.int (0 : Int32)), .unset, .unset] [(.int (1 : Int32)), (.ref o0)])) rfl rfl (hb hby own_d17_51)
  have f21 : Exa Z h20 o0 "com/example/nestor/nestor/IdTable" := f9.wr W20
  have f22 : Exa Z h20 o1 "java/lang/String" := f10.wr W20
  have f23 : Fld Z h20 o0 "com/example/nestor/nestor/IdTable" "size" "I" (.int (1 : Int32)) := f11.same W20
  have f24 : Fld Z h20 o0 "com/example/nestor/nestor/IdTable" "ids" "[Ljava/lang/String;" (.ref w_ids_o0) := f12.other W20 (Or.inr (slot_ne (Or.inl (hw _ (List.mem_of_getElem? (i := 36) rfl))) (Or.inl (hw _ (List.mem_of_getElem? (i := 107) rfl))) (by decide) (t := (.array (.object "java/lang/String"))) (t' := .int) (by decide) (by decide)))
  have f25 : Fld Z h20 o0 "com/example/nestor/nestor/IdTable" "slots" "[I" (.ref w_slots_o0) := f13.other W20 (Or.inr (slot_ne (Or.inl (hw _ (List.mem_of_getElem? (i := 39) rfl))) (Or.inl (hw _ (List.mem_of_getElem? (i := 107) rfl))) (by decide) (t := (.array .int)) (t' := .int) (by decide) (by decide)))
  have f26 : Arv Z h20 w_ids_o0 k_i (.object "java/lang/String") (8 : Int32) [(.ref o1), .null, .null, .null, .null, .null, .null, .null] .null := f8.other W20 (Ne.symm (Exa.neArv f9 f8 (hw _ (List.mem_of_getElem? (i := 27) rfl))))
  have f27 : Arv Z h20 w_slots_o0 k_s .int (16 : Int32) vs_s (.int (0 : Int32)) := f14.other W20 (Ne.symm (Exa.neArv f9 f14 (hw _ (List.mem_of_getElem? (i := 27) rfl))))
  have zs28 : n0 ≤ h20.size := Nat.le_trans zs15 (Keep.of_wr W20).1
  have N29 := Fr.snoc X20 N16 G_o0
  have K30 : Keep h0 h20 [o0, w_ids_o0, w_slots_o0] := K18.wr W20 (Or.inl (by simp))
  obtain ⟨cq31, q31, q31'⟩ := f21.cell
  obtain ⟨_, _, ⟨T31, L31, k31, n31⟩, -, X31, ⟨Lc31, hQ31, l31, y31, z31⟩, st31⟩ := X20.privateBack hx (y := (⟨"com/example/nestor/nestor/IdTable", "put", "(II)V"⟩ : MethodName)) hown (mvT hZ (hw _ (List.mem_of_getElem? (i := 108) rfl))) (mvT hZ (hw _ (List.mem_of_getElem? (i := 109) rfl))) (mvT hZ (own_sel1 Z a0 hw)) (Cond.privateMethod_at (mvP hZ (hw _ (List.mem_of_getElem? (i := 110) rfl)) (args := #[]))) (mvT hZ (hw _ (List.mem_of_getElem? (i := 111) rfl))) (by decide) (backOf (W := 0) (own_rm18 l Z a0 hw [] o0 (0 : Int32) p2 w_slots_o0 k_s vs_s h20 n0 zs28 Hm_11 Hin_12 Hl_13 f21 f25 f27 G_w_slots_o0) hZ (hw _ (List.mem_of_getElem? (i := 111) rfl)) (hw _ (List.mem_of_getElem? (i := 28) rfl)) (by decide) (by decide)) (g := (mkF m 57 #[.val (.ref o0), .val (.ref o1), .val (.int p2), .val (.int (0 : Int32)), .unset, .unset] [(.int p2), (.int (0 : Int32)), (.ref o0)])) rfl (by rw [hml]; rfl) (Steps.refl _) (a := o0) (by rw [e20]; exact q31) q31' (argsL := [(.int (0 : Int32)), (.int p2)]) (rest := []) (lenOf own_pd11 rfl) rfl (by show 2 * 0 + _ ≤ _; exact Nat.le_of_eq rfl) (hb hby own_d17_57) (fun _ _ => ⟨rfl, e20, (by decide : 0 + 0 ≤ _), (by decide : 0 + 0 ≤ _)⟩)
  dsimp only [Pt.U, Pt.locs, Pt.cells, Pt.slots] at X31 l31 y31 z31 st31 hQ31
  subst y31 z31
  obtain ⟨rfl, N31q, K31, f32⟩ := hQ31
  have f33 : Exa Z T31.heap o0 "com/example/nestor/nestor/IdTable" := f21.keep K31
  have f34 : Exa Z T31.heap o1 "java/lang/String" := f22.keep K31
  have f35 : Fld Z T31.heap o0 "com/example/nestor/nestor/IdTable" "size" "I" (.int (1 : Int32)) := f23.keep K31 (ninS (Exa.neArv f21 f27 (hw _ (List.mem_of_getElem? (i := 27) rfl))) nin0)
  have f36 : Fld Z T31.heap o0 "com/example/nestor/nestor/IdTable" "ids" "[Ljava/lang/String;" (.ref w_ids_o0) := f24.keep K31 (ninS (Exa.neArv f21 f27 (hw _ (List.mem_of_getElem? (i := 27) rfl))) nin0)
  have f37 : Fld Z T31.heap o0 "com/example/nestor/nestor/IdTable" "slots" "[I" (.ref w_slots_o0) := f25.keep K31 (ninS (Exa.neArv f21 f27 (hw _ (List.mem_of_getElem? (i := 27) rfl))) nin0)
  have f38 : Arv Z T31.heap w_ids_o0 k_i (.object "java/lang/String") (8 : Int32) [(.ref o1), .null, .null, .null, .null, .null, .null, .null] .null := f26.keep K31 (ninS Hne_w_ids_o0_w_slots_o0 nin0)
  have zs39 : n0 ≤ T31.heap.size := Nat.le_trans zs28 K31.1
  have K40 : Keep h0 T31.heap [o0, w_ids_o0, w_slots_o0] := K30.trans K31 (allS (Or.inl (by simp)) all0)
  have N41 : Fr n0 L31 := by rw [l31]; exact Fr.app N29 N31q
  obtain ⟨T42, X42, e42, st42⟩ := getF X31 hx hZ hown (host := "") (Or.inl (hw _ (List.mem_of_getElem? (i := 106) rfl))) Via.refl rfl f35 (g := (mkF m 62 #[.val (.ref o0), .val (.ref o1), .val (.int p2), .val (.int (0 : Int32)), .unset, .unset] [(.ref o0), (.int (2 : Int32))])) rfl rfl (hb hby own_d17_62)
  obtain ⟨T43, X43, e43, st43⟩ := getF X42 hx hZ hown (host := "") (Or.inl (hw _ (List.mem_of_getElem? (i := 38) rfl))) Via.refl e42 f37 (g := (mkF m 67 #[.val (.ref o0), .val (.ref o1), .val (.int p2), .val (.int (0 : Int32)), .unset, .unset] [(.ref o0), (.int (2 : Int32))])) rfl rfl (hb hby own_d17_67)
  obtain ⟨cl44, Ar44, q44, S44, N_44, Ha44, G44⟩ := id f32
  have pre45 : ∀ t, Steps p.tables e below (T43.setTop (mkF m 142 #[.val (.ref o0), .val (.ref o1), .val (.int p2), .val (.int (0 : Int32)), .unset, .unset] [(.int (0 : Int32))])) t → Steps p.tables e below (s₁.setTop (entryFrame m #[(.ref o0), (.ref o1), (.int p2)] 6)) t := fun t k => pre0 t (by
      refine XS.aloadN X0.here hx rfl (hb hby own_d17_0) rfl rfl ?_
      show Steps p.tables e below (s₁.setTop (mkF m 1 #[.val (.ref o0), .val (.ref o1), .val (.int p2), .unset, .unset, .unset] [(.ref o0)])) _
      refine st1 _ ?_
      show Steps p.tables e below (T1.setTop (mkF m 4 #[.val (.ref o0), .val (.ref o1), .val (.int p2), .unset, .unset, .unset] [(.int (0 : Int32))])) _
      refine XS.aloadN X1.here hx rfl (hb hby own_d17_4) rfl rfl ?_
      refine st2 _ ?_
      show Steps p.tables e below (T2.setTop (mkF m 8 #[.val (.ref o0), .val (.ref o1), .val (.int p2), .unset, .unset, .unset] [(.ref w_ids_o0), (.int (0 : Int32))])) _
      refine X2.arraylength hx (by rw [e2]; exact Ar3.1) (State.isArrayOf_alike hZ.alike Ar3.2.1) (g := (mkF m 8 #[.val (.ref o0), .val (.ref o1), .val (.int p2), .unset, .unset, .unset] [(.ref w_ids_o0), (.int (0 : Int32))])) rfl rfl (hb hby own_d17_8) _ ?_
      rw [len_of S3 N_3]
      refine XS.icmpYes X2.here hx rfl (pc0 := 9) (pc' := 32) rfl (hb hby own_d17_9) rfl (feq (by decide : ¬ ((0 : Int32) = (8 : Int32)))).2 (by decide) (by decide) ?_
      refine XS.aloadN X2.here hx rfl (hb hby own_d17_32) rfl rfl ?_
      show Steps p.tables e below (T2.setTop (mkF m 33 #[.val (.ref o0), .val (.ref o1), .val (.int p2), .unset, .unset, .unset] [(.ref o0)])) _
      refine st4 _ ?_
      show Steps p.tables e below (T4.setTop (mkF m 36 #[.val (.ref o0), .val (.ref o1), .val (.int p2), .unset, .unset, .unset] [(.int (0 : Int32))])) _
      refine XS.istoreN X4.here hx rfl (hb hby own_d17_36) rfl (l' := #[.val (.ref o0), .val (.ref o1), .val (.int p2), .val (.int (0 : Int32)), .unset, .unset]) rfl ?_
      refine XS.aloadN X4.here hx rfl (hb hby own_d17_37) rfl rfl ?_
      refine st5 _ ?_
      show Steps p.tables e below (T5.setTop (mkF m 41 #[.val (.ref o0), .val (.ref o1), .val (.int p2), .val (.int (0 : Int32)), .unset, .unset] [(.ref w_ids_o0)])) _
      refine XS.iloadN X5.here hx rfl (hb hby own_d17_41) rfl ?_
      refine XS.aloadN X5.here hx rfl (hb hby own_d17_42) rfl rfl ?_
      refine st7 _ ?_
      show Steps p.tables e below (T7.setTop (mkF m 44 #[.val (.ref o0), .val (.ref o1), .val (.int p2), .val (.int (0 : Int32)), .unset, .unset] [])) _
      refine XS.aloadN X7.here hx rfl (hb hby own_d17_44) rfl rfl ?_
      refine XS.dup X7.here hx rfl (hb hby own_d17_45) rfl rfl ?_
      refine st19 _ ?_
      show Steps p.tables e below (T19.setTop (mkF m 49 #[.val (.ref o0), .val (.ref o1), .val (.int p2), .val (.int (0 : Int32)), .unset, .unset] [(.int (0 : Int32)), (.ref o0)])) _
      refine XS.iconst X19.here hx rfl (hb hby own_d17_49) ?_
      refine XS.iadd X19.here hx rfl (hb hby own_d17_50) rfl ?_
      refine st20 _ ?_
      show Steps p.tables e below (T20.setTop (mkF m 54 #[.val (.ref o0), .val (.ref o1), .val (.int p2), .val (.int (0 : Int32)), .unset, .unset] [])) _
      refine XS.aloadN X20.here hx rfl (hb hby own_d17_54) rfl rfl ?_
      refine XS.iloadN X20.here hx rfl (hb hby own_d17_55) rfl ?_
      refine XS.iloadN X20.here hx rfl (hb hby own_d17_56) rfl ?_
      refine st31.trans ?_
      show Steps p.tables e below (T31.setTop (mkF m 60 #[.val (.ref o0), .val (.ref o1), .val (.int p2), .val (.int (0 : Int32)), .unset, .unset] [])) _
      refine XS.iconst X31.here hx rfl (hb hby own_d17_60) ?_
      refine XS.aloadN X31.here hx rfl (hb hby own_d17_61) rfl rfl ?_
      refine st42 _ ?_
      show Steps p.tables e below (T42.setTop (mkF m 65 #[.val (.ref o0), .val (.ref o1), .val (.int p2), .val (.int (0 : Int32)), .unset, .unset] [(.int (1 : Int32)), (.int (2 : Int32))])) _
      refine XS.imul X42.here hx rfl (hb hby own_d17_65) rfl ?_
      refine XS.aloadN X42.here hx rfl (hb hby own_d17_66) rfl rfl ?_
      refine st43 _ ?_
      show Steps p.tables e below (T43.setTop (mkF m 70 #[.val (.ref o0), .val (.ref o1), .val (.int p2), .val (.int (0 : Int32)), .unset, .unset] [(.ref w_slots_o0), (.int (2 : Int32))])) _
      refine X43.arraylength hx (by rw [e43]; exact Ar44.1) (State.isArrayOf_alike hZ.alike Ar44.2.1) (g := (mkF m 70 #[.val (.ref o0), .val (.ref o1), .val (.int p2), .val (.int (0 : Int32)), .unset, .unset] [(.ref w_slots_o0), (.int (2 : Int32))])) rfl rfl (hb hby own_d17_70) _ ?_
      rw [len_of S44 N_44]
      refine XS.icmpYes X43.here hx rfl (pc0 := 71) (pc' := 141) rfl (hb hby own_d17_71) rfl (tlt (by decide : (2 : Int32) < (16 : Int32))).1 (by decide) (by decide) ?_
      refine XS.iloadN X43.here hx rfl (hb hby own_d17_141) rfl ?_
      show Steps p.tables e below (T43.setTop (mkF m 142 #[.val (.ref o0), .val (.ref o1), .val (.int p2), .val (.int (0 : Int32)), .unset, .unset] [(.int (0 : Int32))])) _
      exact k)
  obtain ⟨fs, hr, hrun, hended, hW, hsame⟩ := X43.leave (v := some (.int (0 : Int32))) (fun h => by rw [Bd.returns] at h; cases h) (hlocks := hlk)
  refine ⟨_, _, pre45 _ ?_, hrun, hended, _, _, rfl, ?_, ⟨_, rfl⟩, hW, hsame.mono (by decide) (by decide)⟩
  · show Steps p.tables e below (T43.setTop (mkF m 142 #[.val (.ref o0), .val (.ref o1), .val (.int p2), .val (.int (0 : Int32)), .unset, .unset] [(.int (0 : Int32))])) _
    exact retI X43 hx Bd.returns (hb hby own_d17_142) hr
  · show own_Q17t0 Z o0 o1 p2 k_s vs_s k_i w_ids_o0 w_slots_o0 h0 n0 _ T43.heap _; rw [e43]; exact ⟨rfl, N41, K40, f33, f35, f36, f37, f38, f32⟩
theorem own_pd12 : parseMethodDescriptor "(Ljava/lang/String;I)I" = some ⟨[(.object "java/lang/String"), .int], some .int⟩ := by decide +kernel
theorem own_sel2 (Z : State) (a0 : Array Value) (hw : ∀ d ∈ tables_1, d.before a0 Z = true) : (Jvm.Cond.selects "com/example/nestor/nestor/IdTable" (⟨"com/example/nestor/nestor/IdTable", "add", "(Ljava/lang/String;I)I"⟩ : MethodName) (⟨"com/example/nestor/nestor/IdTable", "add", "(Ljava/lang/String;I)I"⟩ : MethodName)).before a0 Z = true := by
  obtain ⟨c, k, h1, h2, -, h4, -⟩ := Cond.instantiable_spec (hw _ (List.mem_of_getElem? (i := 27) rfl))
  exact selects_self_of_private h1 h2 (Bool.or_eq_false_iff.mp h4).1 (Cond.privateMethod_at (hw _ (List.mem_of_getElem? (i := 104) rfl))) (hw _ (List.mem_of_getElem? (i := 103) rfl)) (by decide)
theorem own_d16_0 : decode prog_10_method_8_code 0 = .ok (.iload_n 2, 1) := by decide +kernel
theorem own_d16_1 : decode prog_10_method_8_code 1 = .ok (.ldc 78, 2) := by decide +kernel
theorem own_d16_3 : decode prog_10_method_8_code 3 = .ok (.if_icmp .ne 17, 3) := by decide +kernel
theorem own_d16_20 : decode prog_10_method_8_code 20 = .ok (.aconst_null, 1) := by decide +kernel
theorem own_d16_21 : decode prog_10_method_8_code 21 = .ok (.astore_n 3, 1) := by decide +kernel
theorem own_d16_22 : decode prog_10_method_8_code 22 = .ok (.aload_n 3, 1) := by decide +kernel
theorem own_d16_23 : decode prog_10_method_8_code 23 = .ok (.ifnull 10, 3) := by decide +kernel
theorem own_d16_33 : decode prog_10_method_8_code 33 = .ok (.aload_n 0, 1) := by decide +kernel
theorem own_d16_34 : decode prog_10_method_8_code 34 = .ok (.aload_n 1, 1) := by decide +kernel
theorem own_d16_35 : decode prog_10_method_8_code 35 = .ok (.iload_n 2, 1) := by decide +kernel
theorem own_d16_36 : decode prog_10_method_8_code 36 = .ok (.invokevirtual 86, 3) := by decide +kernel
theorem own_d16_39 : decode prog_10_method_8_code 39 = .ok (.ireturn, 1) := by decide +kernel
theorem own_pn16 : plainName "com/example/nestor/nestor/IdTable" = true := by first | (simp [plainName, overriddenIn]; done) | decide +kernel
theorem own_ef16t0 (m : MethodId) (x0 : Addr) (x1 : Addr) (x2 : Int32) : entryFrame m #[(.ref x0), (.ref x1), (.int x2)] 4 = (mkF m 0 #[.val (.ref x0), .val (.ref x1), .val (.int x2), .unset] []) := by first | (simp [entryFrame, mkF, argsToLocals, Value.category]; done) | rfl
def own_Q16t0 (Z : State) (o0 : Addr) (o1 : Addr) (p2 : Int32) (w_ids_o0 : Addr) (w_slots_o0 : Addr) (k_i : ClassId) (k_s : ClassId) (vs_s : List Value) (h0 : Heap) (n0 : Nat) (v : Option Value) (h : Heap) (L : List Loc) : Prop := v = some (.int (0 : Int32)) ∧ Fr n0 L ∧ Keep h0 h [o0, w_ids_o0, w_slots_o0] ∧ Exa Z h o0 "com/example/nestor/nestor/IdTable" ∧ Fld Z h o0 "com/example/nestor/nestor/IdTable" "size" "I" (.int (1 : Int32)) ∧ Fld Z h o0 "com/example/nestor/nestor/IdTable" "ids" "[Ljava/lang/String;" (.ref w_ids_o0) ∧ Fld Z h o0 "com/example/nestor/nestor/IdTable" "slots" "[I" (.ref w_slots_o0) ∧ Arv Z h w_ids_o0 k_i (.object "java/lang/String") (8 : Int32) [(.ref o1), .null, .null, .null, .null, .null, .null, .null] .null ∧ Arv Z h w_slots_o0 k_s .int (16 : Int32) (vs_s.set ((-p2) - (1 : Int32)).toNatClampNeg (.int ((0 : Int32) + (1 : Int32)))) (.int (0 : Int32))
set_option maxRecDepth 65536 in
set_option maxHeartbeats 40000000 in
theorem own_rm16t0 (l : Launch) (Z : State) (a0 : Array Value) (hw : ∀ d ∈ tables_1, d.before a0 Z = true) (ws : List Jvm.Cond) (o0 : Addr) (o1 : Addr) (p2 : Int32) (w_ids_o0 : Addr) (w_slots_o0 : Addr) (k_i : ClassId) (k_s : ClassId) (vs_s : List Value) (h0 : Heap) (n0 : Nat) (Z0 : n0 ≤ h0.size) (Hm : ¬ (p2 = (-2147483648 : Int32))) (Hne_w_ids_o0_w_slots_o0 : w_ids_o0 ≠ w_slots_o0) (P_E_o0 : Exa Z h0 o0 "com/example/nestor/nestor/IdTable") (P_E_o1 : Exa Z h0 o1 "java/lang/String") (P_F_o0_size : Fld Z h0 o0 "com/example/nestor/nestor/IdTable" "size" "I" (.int (0 : Int32))) (P_F_o0_ids : Fld Z h0 o0 "com/example/nestor/nestor/IdTable" "ids" "[Ljava/lang/String;" (.ref w_ids_o0)) (P_F_o0_slots : Fld Z h0 o0 "com/example/nestor/nestor/IdTable" "slots" "[I" (.ref w_slots_o0)) (P_V_w_ids_o0 : Arv Z h0 w_ids_o0 k_i (.object "java/lang/String") (8 : Int32) [.null, .null, .null, .null, .null, .null, .null, .null] .null) (P_V_w_slots_o0 : Arv Z h0 w_slots_o0 k_s .int (16 : Int32) vs_s (.int (0 : Int32))) (Hov_9 : Ovr Z k_i "java/lang/String") (G_w_ids_o0 : n0 ≤ w_ids_o0) (G_o0 : n0 ≤ o0) (Hin_12_12 : own_in ((-p2) - (1 : Int32))) (Hl_13_13 : vs_s.length = 16) (G_w_slots_o0 : n0 ≤ w_slots_o0) :
    MetFree l (⟨"com/example/nestor/nestor/IdTable", "placeOfUnfound", "(Ljava/lang/String;I)I"⟩ : MethodName) (head1 (Jvm.Cond.code (⟨"com/example/nestor/nestor/IdTable", "placeOfUnfound", "(Ljava/lang/String;I)I"⟩ : MethodName) prog_10_method_8_code 4 (some .int) :: ws) ({ frames := 2, cells := 0, slots := 0, locals := 31 } : Room)) (fun a U => a = #[(.ref o0), (.ref o1), (.int p2)] ∧ Z.Warmed39 U.vm ∧ U.heap = h0) (fun _ _ _ _ _ => True) (fun _ U o U' => ∃ v L, o = .returned v ∧ own_Q16t0 Z o0 o1 p2 w_ids_o0 w_slots_o0 k_i k_s vs_s h0 n0 v U'.heap L ∧ FrameEnd U o U' L ({ frames := 2, cells := 0, slots := 0, locals := 31 } : Room).cells ({ frames := 2, cells := 0, slots := 0, locals := 31 } : Room).slots) := by
  refine MetFree.of_bodySF (plainFor_of_name own_pn16) hisR ?_
  intro p e s m args below meth c s₁ Bd hml0 hP hK
  obtain ⟨rfl, hZ, hh⟩ := hP
  have hx := Bd.exec
  have hlk : meth.locks = false := BodyLoose.notSynchronized Bd
  have hby := Bd.bytes
  have hml : c.maxLocals = 4 := hml0
  have hown : s.vm.findClass "com/example/nestor/nestor/IdTable" = some m.cls := findClass_of_methodNamed Bd.named
  have hnm := (name_of_methodNamed Bd.named Bd.method).1
  have X0 : Stand p l e ({ frames := 2, cells := 0, slots := 0, locals := 31 } : Room) s m #[(.ref o0), (.ref o1), (.int p2)] below meth c s₁ [] 0 0 := Stand.of_body Bd
  have e0 : s₁.heap = h0 := by rw [← hh, Bd.state]; rfl
  have N0 := Fr.nil n0
  have pre0 : ∀ t, Steps p.tables e below (s₁.setTop (mkF m 0 #[.val (.ref o0), .val (.ref o1), .val (.int p2), .unset] [])) t → Steps p.tables e below (s₁.setTop (entryFrame m #[(.ref o0), (.ref o1), (.int p2)] 4)) t := fun t k => castTop (own_ef16t0 m o0 o1 p2) k
  obtain ⟨cq1, q1, q1'⟩ := P_E_o0.cell
  obtain ⟨_, _, ⟨T1, L1, k1, n1⟩, -, X1, ⟨Lc1, hQ1, l1, y1, z1⟩, st1⟩ := X0.privateBack hx (y := (⟨"com/example/nestor/nestor/IdTable", "add", "(Ljava/lang/String;I)I"⟩ : MethodName)) hown (mvT hZ (hw _ (List.mem_of_getElem? (i := 102) rfl))) (mvT hZ (hw _ (List.mem_of_getElem? (i := 103) rfl))) (mvT hZ (own_sel2 Z a0 hw)) (Cond.privateMethod_at (mvP hZ (hw _ (List.mem_of_getElem? (i := 104) rfl)) (args := #[]))) (mvT hZ (hw _ (List.mem_of_getElem? (i := 105) rfl))) (by decide) (backOf (W := 0) (own_rm17t0 l Z a0 hw [] o0 o1 p2 k_s vs_s k_i w_ids_o0 w_slots_o0 h0 n0 Z0 Hov_9 Hne_w_ids_o0_w_slots_o0 P_E_o0 P_E_o1 P_F_o0_size P_F_o0_ids P_F_o0_slots P_V_w_ids_o0 P_V_w_slots_o0 G_w_ids_o0 G_o0 Hm Hin_12_12 Hl_13_13 G_w_slots_o0) hZ (hw _ (List.mem_of_getElem? (i := 105) rfl)) (hw _ (List.mem_of_getElem? (i := 28) rfl)) (by decide) (by decide)) (g := (mkF m 36 #[.val (.ref o0), .val (.ref o1), .val (.int p2), .val .null] [(.int p2), (.ref o1), (.ref o0)])) rfl (by rw [hml]; rfl) (Steps.refl _) (a := o0) (by rw [e0]; exact q1) q1' (argsL := [(.ref o1), (.int p2)]) (rest := []) (lenOf own_pd12 rfl) rfl (by show 2 * 0 + _ ≤ _; exact Nat.le_of_eq rfl) (hb hby own_d16_36) (fun _ _ => ⟨rfl, e0, (by decide : 0 + 0 ≤ _), (by decide : 0 + 0 ≤ _)⟩)
  dsimp only [Pt.U, Pt.locs, Pt.cells, Pt.slots] at X1 l1 y1 z1 st1 hQ1
  subst y1 z1
  obtain ⟨rfl, N1q, K1, f2, f3, f4, f5, f6, f7⟩ := hQ1
  have f8 : Exa Z T1.heap o1 "java/lang/String" := P_E_o1.keep K1
  have zs9 : n0 ≤ T1.heap.size := Nat.le_trans Z0 K1.1
  have K10 : Keep h0 h0 [o0, w_ids_o0, w_slots_o0] := Keep.refl h0 [o0, w_ids_o0, w_slots_o0]
  have K11 : Keep h0 T1.heap [o0, w_ids_o0, w_slots_o0] := K10.trans K1 (allS (Or.inl (by simp)) (allS (Or.inl (by simp)) (allS (Or.inl (by simp)) all0)))
  have N12 : Fr n0 L1 := by rw [l1]; exact Fr.app N0 N1q
  have pre13 : ∀ t, Steps p.tables e below (T1.setTop (mkF m 39 #[.val (.ref o0), .val (.ref o1), .val (.int p2), .val .null] [(.int (0 : Int32))])) t → Steps p.tables e below (s₁.setTop (entryFrame m #[(.ref o0), (.ref o1), (.int p2)] 4)) t := fun t k => pre0 t (by
      refine XS.iloadN X0.here hx rfl (hb hby own_d16_0) rfl ?_
      show Steps p.tables e below (s₁.setTop (mkF m 1 #[.val (.ref o0), .val (.ref o1), .val (.int p2), .unset] [(.int p2)])) _
      refine X0.ldcInt hx hown (mvT hZ (hw _ (List.mem_of_getElem? (i := 101) rfl))) (g := (mkF m 1 #[.val (.ref o0), .val (.ref o1), .val (.int p2), .unset] [(.int p2)])) rfl (hb hby own_d16_1) _ ?_
      refine XS.icmpYes X0.here hx rfl (pc0 := 3) (pc' := 20) rfl (hb hby own_d16_3) rfl (feq Hm).2 (by decide) (by decide) ?_
      refine XS.aconstNull X0.here hx rfl (hb hby own_d16_20) ?_
      refine XS.astoreN X0.here hx rfl (hb hby own_d16_21) rfl rfl (l' := #[.val (.ref o0), .val (.ref o1), .val (.int p2), .val .null]) rfl ?_
      show Steps p.tables e below (s₁.setTop (mkF m 22 #[.val (.ref o0), .val (.ref o1), .val (.int p2), .val .null] [])) _
      refine XS.aloadN X0.here hx rfl (hb hby own_d16_22) rfl rfl ?_
      refine XS.ifnullYes X0.here hx rfl (pc0 := 23) (pc' := 33) rfl (hb hby own_d16_23) rfl (by decide) (by decide) ?_
      refine XS.aloadN X0.here hx rfl (hb hby own_d16_33) rfl rfl ?_
      refine XS.aloadN X0.here hx rfl (hb hby own_d16_34) rfl rfl ?_
      show Steps p.tables e below (s₁.setTop (mkF m 35 #[.val (.ref o0), .val (.ref o1), .val (.int p2), .val .null] [(.ref o1), (.ref o0)])) _
      refine XS.iloadN X0.here hx rfl (hb hby own_d16_35) rfl ?_
      refine st1.trans ?_
      show Steps p.tables e below (T1.setTop (mkF m 39 #[.val (.ref o0), .val (.ref o1), .val (.int p2), .val .null] [(.int (0 : Int32))])) _
      exact k)
  obtain ⟨fs, hr, hrun, hended, hW, hsame⟩ := X1.leave (v := some (.int (0 : Int32))) (fun h => by rw [Bd.returns] at h; cases h) (hlocks := hlk)
  refine ⟨_, _, pre13 _ ?_, hrun, hended, _, _, rfl, ?_, ⟨_, rfl⟩, hW, hsame.mono (by decide) (by decide)⟩
  · show Steps p.tables e below (T1.setTop (mkF m 39 #[.val (.ref o0), .val (.ref o1), .val (.int p2), .val .null] [(.int (0 : Int32))])) _
    exact retI X1 hx Bd.returns (hb hby own_d16_39) hr
  · show own_Q16t0 Z o0 o1 p2 w_ids_o0 w_slots_o0 k_i k_s vs_s h0 n0 _ T1.heap _; exact ⟨rfl, N12, K11, f2, f3, f4, f5, f6, f7⟩
theorem own_ef17t1 (m : MethodId) (x0 : Addr) (x1 : Addr) (x2 : Int32) : entryFrame m #[(.ref x0), (.ref x1), (.int x2)] 6 = (mkF m 0 #[.val (.ref x0), .val (.ref x1), .val (.int x2), .unset, .unset, .unset] []) := by first | (simp [entryFrame, mkF, argsToLocals, Value.category]; done) | rfl
def own_Q17t1 (Z : State) (o0 : Addr) (o1 : Addr) (p2 : Int32) (k_s : ClassId) (vs_s : List Value) (k_i : ClassId) (i0 : Addr) (w_ids_o0 : Addr) (w_slots_o0 : Addr) (h0 : Heap) (n0 : Nat) (v : Option Value) (h : Heap) (L : List Loc) : Prop := v = some (.int (1 : Int32)) ∧ Fr n0 L ∧ Keep h0 h [o0, w_ids_o0, w_slots_o0] ∧ Exa Z h o0 "com/example/nestor/nestor/IdTable" ∧ Fld Z h o0 "com/example/nestor/nestor/IdTable" "size" "I" (.int (2 : Int32)) ∧ Fld Z h o0 "com/example/nestor/nestor/IdTable" "ids" "[Ljava/lang/String;" (.ref w_ids_o0) ∧ Fld Z h o0 "com/example/nestor/nestor/IdTable" "slots" "[I" (.ref w_slots_o0) ∧ Arv Z h w_ids_o0 k_i (.object "java/lang/String") (8 : Int32) [(.ref i0), (.ref o1), .null, .null, .null, .null, .null, .null] .null ∧ Arv Z h w_slots_o0 k_s .int (16 : Int32) (vs_s.set ((-p2) - (1 : Int32)).toNatClampNeg (.int ((1 : Int32) + (1 : Int32)))) (.int (0 : Int32))
set_option maxRecDepth 65536 in
set_option maxHeartbeats 40000000 in
theorem own_rm17t1 (l : Launch) (Z : State) (a0 : Array Value) (hw : ∀ d ∈ tables_1, d.before a0 Z = true) (ws : List Jvm.Cond) (o0 : Addr) (o1 : Addr) (p2 : Int32) (k_s : ClassId) (vs_s : List Value) (k_i : ClassId) (i0 : Addr) (w_ids_o0 : Addr) (w_slots_o0 : Addr) (h0 : Heap) (n0 : Nat) (Z0 : n0 ≤ h0.size) (Hov : Ovr Z k_i "java/lang/String") (Hne_w_ids_o0_w_slots_o0 : w_ids_o0 ≠ w_slots_o0) (P_E_o0 : Exa Z h0 o0 "com/example/nestor/nestor/IdTable") (P_E_o1 : Exa Z h0 o1 "java/lang/String") (P_F_o0_size : Fld Z h0 o0 "com/example/nestor/nestor/IdTable" "size" "I" (.int (1 : Int32))) (P_F_o0_ids : Fld Z h0 o0 "com/example/nestor/nestor/IdTable" "ids" "[Ljava/lang/String;" (.ref w_ids_o0)) (P_F_o0_slots : Fld Z h0 o0 "com/example/nestor/nestor/IdTable" "slots" "[I" (.ref w_slots_o0)) (P_V_w_ids_o0 : Arv Z h0 w_ids_o0 k_i (.object "java/lang/String") (8 : Int32) [(.ref i0), .null, .null, .null, .null, .null, .null, .null] .null) (P_V_w_slots_o0 : Arv Z h0 w_slots_o0 k_s .int (16 : Int32) vs_s (.int (0 : Int32))) (G_w_ids_o0 : n0 ≤ w_ids_o0) (G_o0 : n0 ≤ o0) (Hm_11 : ¬ (p2 = (-2147483648 : Int32))) (Hin_12 : own_in ((-p2) - (1 : Int32))) (Hl_13 : vs_s.length = 16) (G_w_slots_o0 : n0 ≤ w_slots_o0) :
    MetFree l (⟨"com/example/nestor/nestor/IdTable", "add", "(Ljava/lang/String;I)I"⟩ : MethodName) (head1 (Jvm.Cond.code (⟨"com/example/nestor/nestor/IdTable", "add", "(Ljava/lang/String;I)I"⟩ : MethodName) prog_10_method_9_code 6 (some .int) :: ws) ({ frames := 1, cells := 0, slots := 0, locals := 14 } : Room)) (fun a U => a = #[(.ref o0), (.ref o1), (.int p2)] ∧ Z.Warmed39 U.vm ∧ U.heap = h0) (fun _ _ _ _ _ => True) (fun _ U o U' => ∃ v L, o = .returned v ∧ own_Q17t1 Z o0 o1 p2 k_s vs_s k_i i0 w_ids_o0 w_slots_o0 h0 n0 v U'.heap L ∧ FrameEnd U o U' L ({ frames := 1, cells := 0, slots := 0, locals := 14 } : Room).cells ({ frames := 1, cells := 0, slots := 0, locals := 14 } : Room).slots) := by
  refine MetFree.of_bodySF (plainFor_of_name own_pn17) hisR ?_
  intro p e s m args below meth c s₁ Bd hml0 hP hK
  obtain ⟨rfl, hZ, hh⟩ := hP
  have hx := Bd.exec
  have hlk : meth.locks = false := BodyLoose.notSynchronized Bd
  have hby := Bd.bytes
  have hml : c.maxLocals = 6 := hml0
  have hown : s.vm.findClass "com/example/nestor/nestor/IdTable" = some m.cls := findClass_of_methodNamed Bd.named
  have hnm := (name_of_methodNamed Bd.named Bd.method).1
  have X0 : Stand p l e ({ frames := 1, cells := 0, slots := 0, locals := 14 } : Room) s m #[(.ref o0), (.ref o1), (.int p2)] below meth c s₁ [] 0 0 := Stand.of_body Bd
  have e0 : s₁.heap = h0 := by rw [← hh, Bd.state]; rfl
  have N0 := Fr.nil n0
  have pre0 : ∀ t, Steps p.tables e below (s₁.setTop (mkF m 0 #[.val (.ref o0), .val (.ref o1), .val (.int p2), .unset, .unset, .unset] [])) t → Steps p.tables e below (s₁.setTop (entryFrame m #[(.ref o0), (.ref o1), (.int p2)] 6)) t := fun t k => castTop (own_ef17t1 m o0 o1 p2) k
  obtain ⟨T1, X1, e1, st1⟩ := getF X0 hx hZ hown (host := "") (Or.inl (hw _ (List.mem_of_getElem? (i := 106) rfl))) Via.refl e0 P_F_o0_size (g := (mkF m 1 #[.val (.ref o0), .val (.ref o1), .val (.int p2), .unset, .unset, .unset] [(.ref o0)])) rfl rfl (hb hby own_d17_1)
  obtain ⟨T2, X2, e2, st2⟩ := getF X1 hx hZ hown (host := "") (Or.inl (hw _ (List.mem_of_getElem? (i := 35) rfl))) Via.refl e1 P_F_o0_ids (g := (mkF m 5 #[.val (.ref o0), .val (.ref o1), .val (.int p2), .unset, .unset, .unset] [(.ref o0), (.int (1 : Int32))])) rfl rfl (hb hby own_d17_5)
  obtain ⟨cl3, Ar3, q3, S3, N_3, Ha3, G3⟩ := id P_V_w_ids_o0
  obtain ⟨T4, X4, e4, st4⟩ := getF X2 hx hZ hown (host := "") (Or.inl (hw _ (List.mem_of_getElem? (i := 106) rfl))) Via.refl e2 P_F_o0_size (g := (mkF m 33 #[.val (.ref o0), .val (.ref o1), .val (.int p2), .unset, .unset, .unset] [(.ref o0)])) rfl rfl (hb hby own_d17_33)
  obtain ⟨T5, X5, e5, st5⟩ := getF X4 hx hZ hown (host := "") (Or.inl (hw _ (List.mem_of_getElem? (i := 35) rfl))) Via.refl e4 P_F_o0_ids (g := (mkF m 38 #[.val (.ref o0), .val (.ref o1), .val (.int p2), .val (.int (1 : Int32)), .unset, .unset] [(.ref o0)])) rfl rfl (hb hby own_d17_38)
  obtain ⟨cl6, Ar6, q6, S6, N_6, Ha6, G6⟩ := id P_V_w_ids_o0
  have hin6 : ¬ ((1 : Int32) < 0 ∨ cl6.slots.size ≤ ((1 : Int32)).toNatClampNeg) := inb_of S6 ⟨by decide, by decide⟩
  obtain ⟨T7, h7, X7, e7, W7, st7⟩ := stR X5 hx hZ e5 Ar6 (j := (1 : Int32)) hin6 rfl (Sto.ofV Ar6 q6 Hov (Ins.self P_E_o1)) (g := (mkF m 43 #[.val (.ref o0), .val (.ref o1), .val (.int p2), .val (.int (1 : Int32)), .unset, .unset] [(.ref o1), (.int (1 : Int32)), (.ref w_ids_o0)])) rfl rfl (hb hby own_d17_43)
  have f8 : Arv Z h7 w_ids_o0 k_i (.object "java/lang/String") (8 : Int32) [(.ref i0), (.ref o1), .null, .null, .null, .null, .null, .null] .null := Arv.set Ar6 q6 S6 N_6 Ha6 G6 rfl W7 1 rfl (Nat.le_of_ble_eq_true rfl)
  have f9 : Exa Z h7 o0 "com/example/nestor/nestor/IdTable" := P_E_o0.wr W7
  have f10 : Exa Z h7 o1 "java/lang/String" := P_E_o1.wr W7
  have f11 : Fld Z h7 o0 "com/example/nestor/nestor/IdTable" "size" "I" (.int (1 : Int32)) := P_F_o0_size.other W7 (Or.inl (Exa.neArv P_E_o0 P_V_w_ids_o0 (hw _ (List.mem_of_getElem? (i := 27) rfl))))
  have f12 : Fld Z h7 o0 "com/example/nestor/nestor/IdTable" "ids" "[Ljava/lang/String;" (.ref w_ids_o0) := P_F_o0_ids.other W7 (Or.inl (Exa.neArv P_E_o0 P_V_w_ids_o0 (hw _ (List.mem_of_getElem? (i := 27) rfl))))
  have f13 : Fld Z h7 o0 "com/example/nestor/nestor/IdTable" "slots" "[I" (.ref w_slots_o0) := P_F_o0_slots.other W7 (Or.inl (Exa.neArv P_E_o0 P_V_w_ids_o0 (hw _ (List.mem_of_getElem? (i := 27) rfl))))
  have f14 : Arv Z h7 w_slots_o0 k_s .int (16 : Int32) vs_s (.int (0 : Int32)) := P_V_w_slots_o0.other W7 (Ne.symm Hne_w_ids_o0_w_slots_o0)
  have zs15 : n0 ≤ h7.size := Nat.le_trans Z0 (Keep.of_wr W7).1
  have N16 := Fr.snoc X7 N0 G_w_ids_o0
  have K17 : Keep h0 h0 [o0, w_ids_o0, w_slots_o0] := Keep.refl h0 [o0, w_ids_o0, w_slots_o0]
  have K18 : Keep h0 h7 [o0, w_ids_o0, w_slots_o0] := K17.wr W7 (Or.inl (by simp))
  obtain ⟨T19, X19, e19, st19⟩ := getF X7 hx hZ hown (host := "") (Or.inl (hw _ (List.mem_of_getElem? (i := 106) rfl))) Via.refl e7 f11 (g := (mkF m 46 #[.val (.ref o0), .val (.ref o1), .val (.int p2), .val (.int (1 : Int32)), .unset, .unset] [(.ref o0), (.ref o0)])) rfl rfl (hb hby own_d17_46)
  obtain ⟨T20, h20, X20, e20, W20, st20⟩ := putF X19 hx hZ hown (host := "") (Or.inl (hw _ (List.mem_of_getElem? (i := 106) rfl))) Via.refl e19 f11 f9 (Or.inl (hw _ (List.mem_of_getElem? (i := 107) rfl))) (hw _ (List.mem_of_getElem? (i := 27) rfl)) (ty := .int) (by decide) rfl rfl (g := (mkF m 51 #[.val (.ref o0), .val (.ref o1), .val (.int p2), .val (.int (1 : Int32)), .unset, .unset] [(.int (2 : Int32)), (.ref o0)])) rfl rfl (hb hby own_d17_51)
  have f21 : Exa Z h20 o0 "com/example/nestor/nestor/IdTable" := f9.wr W20
  have f22 : Exa Z h20 o1 "java/lang/String" := f10.wr W20
  have f23 : Fld Z h20 o0 "com/example/nestor/nestor/IdTable" "size" "I" (.int (2 : Int32)) := f11.same W20
  have f24 : Fld Z h20 o0 "com/example/nestor/nestor/IdTable" "ids" "[Ljava/lang/String;" (.ref w_ids_o0) := f12.other W20 (Or.inr (slot_ne (Or.inl (hw _ (List.mem_of_getElem? (i := 36) rfl))) (Or.inl (hw _ (List.mem_of_getElem? (i := 107) rfl))) (by decide) (t := (.array (.object "java/lang/String"))) (t' := .int) (by decide) (by decide)))
  have f25 : Fld Z h20 o0 "com/example/nestor/nestor/IdTable" "slots" "[I" (.ref w_slots_o0) := f13.other W20 (Or.inr (slot_ne (Or.inl (hw _ (List.mem_of_getElem? (i := 39) rfl))) (Or.inl (hw _ (List.mem_of_getElem? (i := 107) rfl))) (by decide) (t := (.array .int)) (t' := .int) (by decide) (by decide)))
  have f26 : Arv Z h20 w_ids_o0 k_i (.object "java/lang/String") (8 : Int32) [(.ref i0), (.ref o1), .null, .null, .null, .null, .null, .null] .null := f8.other W20 (Ne.symm (Exa.neArv f9 f8 (hw _ (List.mem_of_getElem? (i := 27) rfl))))
  have f27 : Arv Z h20 w_slots_o0 k_s .int (16 : Int32) vs_s (.int (0 : Int32)) := f14.other W20 (Ne.symm (Exa.neArv f9 f14 (hw _ (List.mem_of_getElem? (i := 27) rfl))))
  have zs28 : n0 ≤ h20.size := Nat.le_trans zs15 (Keep.of_wr W20).1
  have N29 := Fr.snoc X20 N16 G_o0
  have K30 : Keep h0 h20 [o0, w_ids_o0, w_slots_o0] := K18.wr W20 (Or.inl (by simp))
  obtain ⟨cq31, q31, q31'⟩ := f21.cell
  obtain ⟨_, _, ⟨T31, L31, k31, n31⟩, -, X31, ⟨Lc31, hQ31, l31, y31, z31⟩, st31⟩ := X20.privateBack hx (y := (⟨"com/example/nestor/nestor/IdTable", "put", "(II)V"⟩ : MethodName)) hown (mvT hZ (hw _ (List.mem_of_getElem? (i := 108) rfl))) (mvT hZ (hw _ (List.mem_of_getElem? (i := 109) rfl))) (mvT hZ (own_sel1 Z a0 hw)) (Cond.privateMethod_at (mvP hZ (hw _ (List.mem_of_getElem? (i := 110) rfl)) (args := #[]))) (mvT hZ (hw _ (List.mem_of_getElem? (i := 111) rfl))) (by decide) (backOf (W := 0) (own_rm18 l Z a0 hw [] o0 (1 : Int32) p2 w_slots_o0 k_s vs_s h20 n0 zs28 Hm_11 Hin_12 Hl_13 f21 f25 f27 G_w_slots_o0) hZ (hw _ (List.mem_of_getElem? (i := 111) rfl)) (hw _ (List.mem_of_getElem? (i := 28) rfl)) (by decide) (by decide)) (g := (mkF m 57 #[.val (.ref o0), .val (.ref o1), .val (.int p2), .val (.int (1 : Int32)), .unset, .unset] [(.int p2), (.int (1 : Int32)), (.ref o0)])) rfl (by rw [hml]; rfl) (Steps.refl _) (a := o0) (by rw [e20]; exact q31) q31' (argsL := [(.int (1 : Int32)), (.int p2)]) (rest := []) (lenOf own_pd11 rfl) rfl (by show 2 * 0 + _ ≤ _; exact Nat.le_of_eq rfl) (hb hby own_d17_57) (fun _ _ => ⟨rfl, e20, (by decide : 0 + 0 ≤ _), (by decide : 0 + 0 ≤ _)⟩)
  dsimp only [Pt.U, Pt.locs, Pt.cells, Pt.slots] at X31 l31 y31 z31 st31 hQ31
  subst y31 z31
  obtain ⟨rfl, N31q, K31, f32⟩ := hQ31
  have f33 : Exa Z T31.heap o0 "com/example/nestor/nestor/IdTable" := f21.keep K31
  have f34 : Exa Z T31.heap o1 "java/lang/String" := f22.keep K31
  have f35 : Fld Z T31.heap o0 "com/example/nestor/nestor/IdTable" "size" "I" (.int (2 : Int32)) := f23.keep K31 (ninS (Exa.neArv f21 f27 (hw _ (List.mem_of_getElem? (i := 27) rfl))) nin0)
  have f36 : Fld Z T31.heap o0 "com/example/nestor/nestor/IdTable" "ids" "[Ljava/lang/String;" (.ref w_ids_o0) := f24.keep K31 (ninS (Exa.neArv f21 f27 (hw _ (List.mem_of_getElem? (i := 27) rfl))) nin0)
  have f37 : Fld Z T31.heap o0 "com/example/nestor/nestor/IdTable" "slots" "[I" (.ref w_slots_o0) := f25.keep K31 (ninS (Exa.neArv f21 f27 (hw _ (List.mem_of_getElem? (i := 27) rfl))) nin0)
  have f38 : Arv Z T31.heap w_ids_o0 k_i (.object "java/lang/String") (8 : Int32) [(.ref i0), (.ref o1), .null, .null, .null, .null, .null, .null] .null := f26.keep K31 (ninS Hne_w_ids_o0_w_slots_o0 nin0)
  have zs39 : n0 ≤ T31.heap.size := Nat.le_trans zs28 K31.1
  have K40 : Keep h0 T31.heap [o0, w_ids_o0, w_slots_o0] := K30.trans K31 (allS (Or.inl (by simp)) all0)
  have N41 : Fr n0 L31 := by rw [l31]; exact Fr.app N29 N31q
  obtain ⟨T42, X42, e42, st42⟩ := getF X31 hx hZ hown (host := "") (Or.inl (hw _ (List.mem_of_getElem? (i := 106) rfl))) Via.refl rfl f35 (g := (mkF m 62 #[.val (.ref o0), .val (.ref o1), .val (.int p2), .val (.int (1 : Int32)), .unset, .unset] [(.ref o0), (.int (2 : Int32))])) rfl rfl (hb hby own_d17_62)
  obtain ⟨T43, X43, e43, st43⟩ := getF X42 hx hZ hown (host := "") (Or.inl (hw _ (List.mem_of_getElem? (i := 38) rfl))) Via.refl e42 f37 (g := (mkF m 67 #[.val (.ref o0), .val (.ref o1), .val (.int p2), .val (.int (1 : Int32)), .unset, .unset] [(.ref o0), (.int (4 : Int32))])) rfl rfl (hb hby own_d17_67)
  obtain ⟨cl44, Ar44, q44, S44, N_44, Ha44, G44⟩ := id f32
  have pre45 : ∀ t, Steps p.tables e below (T43.setTop (mkF m 142 #[.val (.ref o0), .val (.ref o1), .val (.int p2), .val (.int (1 : Int32)), .unset, .unset] [(.int (1 : Int32))])) t → Steps p.tables e below (s₁.setTop (entryFrame m #[(.ref o0), (.ref o1), (.int p2)] 6)) t := fun t k => pre0 t (by
      refine XS.aloadN X0.here hx rfl (hb hby own_d17_0) rfl rfl ?_
      show Steps p.tables e below (s₁.setTop (mkF m 1 #[.val (.ref o0), .val (.ref o1), .val (.int p2), .unset, .unset, .unset] [(.ref o0)])) _
      refine st1 _ ?_
      show Steps p.tables e below (T1.setTop (mkF m 4 #[.val (.ref o0), .val (.ref o1), .val (.int p2), .unset, .unset, .unset] [(.int (1 : Int32))])) _
      refine XS.aloadN X1.here hx rfl (hb hby own_d17_4) rfl rfl ?_
      refine st2 _ ?_
      show Steps p.tables e below (T2.setTop (mkF m 8 #[.val (.ref o0), .val (.ref o1), .val (.int p2), .unset, .unset, .unset] [(.ref w_ids_o0), (.int (1 : Int32))])) _
      refine X2.arraylength hx (by rw [e2]; exact Ar3.1) (State.isArrayOf_alike hZ.alike Ar3.2.1) (g := (mkF m 8 #[.val (.ref o0), .val (.ref o1), .val (.int p2), .unset, .unset, .unset] [(.ref w_ids_o0), (.int (1 : Int32))])) rfl rfl (hb hby own_d17_8) _ ?_
      rw [len_of S3 N_3]
      refine XS.icmpYes X2.here hx rfl (pc0 := 9) (pc' := 32) rfl (hb hby own_d17_9) rfl (feq (by decide : ¬ ((1 : Int32) = (8 : Int32)))).2 (by decide) (by decide) ?_
      refine XS.aloadN X2.here hx rfl (hb hby own_d17_32) rfl rfl ?_
      show Steps p.tables e below (T2.setTop (mkF m 33 #[.val (.ref o0), .val (.ref o1), .val (.int p2), .unset, .unset, .unset] [(.ref o0)])) _
      refine st4 _ ?_
      show Steps p.tables e below (T4.setTop (mkF m 36 #[.val (.ref o0), .val (.ref o1), .val (.int p2), .unset, .unset, .unset] [(.int (1 : Int32))])) _
      refine XS.istoreN X4.here hx rfl (hb hby own_d17_36) rfl (l' := #[.val (.ref o0), .val (.ref o1), .val (.int p2), .val (.int (1 : Int32)), .unset, .unset]) rfl ?_
      refine XS.aloadN X4.here hx rfl (hb hby own_d17_37) rfl rfl ?_
      refine st5 _ ?_
      show Steps p.tables e below (T5.setTop (mkF m 41 #[.val (.ref o0), .val (.ref o1), .val (.int p2), .val (.int (1 : Int32)), .unset, .unset] [(.ref w_ids_o0)])) _
      refine XS.iloadN X5.here hx rfl (hb hby own_d17_41) rfl ?_
      refine XS.aloadN X5.here hx rfl (hb hby own_d17_42) rfl rfl ?_
      refine st7 _ ?_
      show Steps p.tables e below (T7.setTop (mkF m 44 #[.val (.ref o0), .val (.ref o1), .val (.int p2), .val (.int (1 : Int32)), .unset, .unset] [])) _
      refine XS.aloadN X7.here hx rfl (hb hby own_d17_44) rfl rfl ?_
      refine XS.dup X7.here hx rfl (hb hby own_d17_45) rfl rfl ?_
      refine st19 _ ?_
      show Steps p.tables e below (T19.setTop (mkF m 49 #[.val (.ref o0), .val (.ref o1), .val (.int p2), .val (.int (1 : Int32)), .unset, .unset] [(.int (1 : Int32)), (.ref o0)])) _
      refine XS.iconst X19.here hx rfl (hb hby own_d17_49) ?_
      refine XS.iadd X19.here hx rfl (hb hby own_d17_50) rfl ?_
      refine st20 _ ?_
      show Steps p.tables e below (T20.setTop (mkF m 54 #[.val (.ref o0), .val (.ref o1), .val (.int p2), .val (.int (1 : Int32)), .unset, .unset] [])) _
      refine XS.aloadN X20.here hx rfl (hb hby own_d17_54) rfl rfl ?_
      refine XS.iloadN X20.here hx rfl (hb hby own_d17_55) rfl ?_
      refine XS.iloadN X20.here hx rfl (hb hby own_d17_56) rfl ?_
      refine st31.trans ?_
      show Steps p.tables e below (T31.setTop (mkF m 60 #[.val (.ref o0), .val (.ref o1), .val (.int p2), .val (.int (1 : Int32)), .unset, .unset] [])) _
      refine XS.iconst X31.here hx rfl (hb hby own_d17_60) ?_
      refine XS.aloadN X31.here hx rfl (hb hby own_d17_61) rfl rfl ?_
      refine st42 _ ?_
      show Steps p.tables e below (T42.setTop (mkF m 65 #[.val (.ref o0), .val (.ref o1), .val (.int p2), .val (.int (1 : Int32)), .unset, .unset] [(.int (2 : Int32)), (.int (2 : Int32))])) _
      refine XS.imul X42.here hx rfl (hb hby own_d17_65) rfl ?_
      refine XS.aloadN X42.here hx rfl (hb hby own_d17_66) rfl rfl ?_
      refine st43 _ ?_
      show Steps p.tables e below (T43.setTop (mkF m 70 #[.val (.ref o0), .val (.ref o1), .val (.int p2), .val (.int (1 : Int32)), .unset, .unset] [(.ref w_slots_o0), (.int (4 : Int32))])) _
      refine X43.arraylength hx (by rw [e43]; exact Ar44.1) (State.isArrayOf_alike hZ.alike Ar44.2.1) (g := (mkF m 70 #[.val (.ref o0), .val (.ref o1), .val (.int p2), .val (.int (1 : Int32)), .unset, .unset] [(.ref w_slots_o0), (.int (4 : Int32))])) rfl rfl (hb hby own_d17_70) _ ?_
      rw [len_of S44 N_44]
      refine XS.icmpYes X43.here hx rfl (pc0 := 71) (pc' := 141) rfl (hb hby own_d17_71) rfl (tlt (by decide : (4 : Int32) < (16 : Int32))).1 (by decide) (by decide) ?_
      refine XS.iloadN X43.here hx rfl (hb hby own_d17_141) rfl ?_
      show Steps p.tables e below (T43.setTop (mkF m 142 #[.val (.ref o0), .val (.ref o1), .val (.int p2), .val (.int (1 : Int32)), .unset, .unset] [(.int (1 : Int32))])) _
      exact k)
  obtain ⟨fs, hr, hrun, hended, hW, hsame⟩ := X43.leave (v := some (.int (1 : Int32))) (fun h => by rw [Bd.returns] at h; cases h) (hlocks := hlk)
  refine ⟨_, _, pre45 _ ?_, hrun, hended, _, _, rfl, ?_, ⟨_, rfl⟩, hW, hsame.mono (by decide) (by decide)⟩
  · show Steps p.tables e below (T43.setTop (mkF m 142 #[.val (.ref o0), .val (.ref o1), .val (.int p2), .val (.int (1 : Int32)), .unset, .unset] [(.int (1 : Int32))])) _
    exact retI X43 hx Bd.returns (hb hby own_d17_142) hr
  · show own_Q17t1 Z o0 o1 p2 k_s vs_s k_i i0 w_ids_o0 w_slots_o0 h0 n0 _ T43.heap _; rw [e43]; exact ⟨rfl, N41, K40, f33, f35, f36, f37, f38, f32⟩
theorem own_ef16t1 (m : MethodId) (x0 : Addr) (x1 : Addr) (x2 : Int32) : entryFrame m #[(.ref x0), (.ref x1), (.int x2)] 4 = (mkF m 0 #[.val (.ref x0), .val (.ref x1), .val (.int x2), .unset] []) := by first | (simp [entryFrame, mkF, argsToLocals, Value.category]; done) | rfl
def own_Q16t1 (Z : State) (o0 : Addr) (o1 : Addr) (p2 : Int32) (w_ids_o0 : Addr) (w_slots_o0 : Addr) (k_i : ClassId) (i0 : Addr) (k_s : ClassId) (vs_s : List Value) (h0 : Heap) (n0 : Nat) (v : Option Value) (h : Heap) (L : List Loc) : Prop := v = some (.int (1 : Int32)) ∧ Fr n0 L ∧ Keep h0 h [o0, w_ids_o0, w_slots_o0] ∧ Exa Z h o0 "com/example/nestor/nestor/IdTable" ∧ Fld Z h o0 "com/example/nestor/nestor/IdTable" "size" "I" (.int (2 : Int32)) ∧ Fld Z h o0 "com/example/nestor/nestor/IdTable" "ids" "[Ljava/lang/String;" (.ref w_ids_o0) ∧ Fld Z h o0 "com/example/nestor/nestor/IdTable" "slots" "[I" (.ref w_slots_o0) ∧ Arv Z h w_ids_o0 k_i (.object "java/lang/String") (8 : Int32) [(.ref i0), (.ref o1), .null, .null, .null, .null, .null, .null] .null ∧ Arv Z h w_slots_o0 k_s .int (16 : Int32) (vs_s.set ((-p2) - (1 : Int32)).toNatClampNeg (.int ((1 : Int32) + (1 : Int32)))) (.int (0 : Int32))
set_option maxRecDepth 65536 in
set_option maxHeartbeats 40000000 in
theorem own_rm16t1 (l : Launch) (Z : State) (a0 : Array Value) (hw : ∀ d ∈ tables_1, d.before a0 Z = true) (ws : List Jvm.Cond) (o0 : Addr) (o1 : Addr) (p2 : Int32) (w_ids_o0 : Addr) (w_slots_o0 : Addr) (k_i : ClassId) (i0 : Addr) (k_s : ClassId) (vs_s : List Value) (h0 : Heap) (n0 : Nat) (Z0 : n0 ≤ h0.size) (Hm : ¬ (p2 = (-2147483648 : Int32))) (Hne_w_ids_o0_w_slots_o0 : w_ids_o0 ≠ w_slots_o0) (P_E_o0 : Exa Z h0 o0 "com/example/nestor/nestor/IdTable") (P_E_o1 : Exa Z h0 o1 "java/lang/String") (P_F_o0_size : Fld Z h0 o0 "com/example/nestor/nestor/IdTable" "size" "I" (.int (1 : Int32))) (P_F_o0_ids : Fld Z h0 o0 "com/example/nestor/nestor/IdTable" "ids" "[Ljava/lang/String;" (.ref w_ids_o0)) (P_F_o0_slots : Fld Z h0 o0 "com/example/nestor/nestor/IdTable" "slots" "[I" (.ref w_slots_o0)) (P_V_w_ids_o0 : Arv Z h0 w_ids_o0 k_i (.object "java/lang/String") (8 : Int32) [(.ref i0), .null, .null, .null, .null, .null, .null, .null] .null) (P_V_w_slots_o0 : Arv Z h0 w_slots_o0 k_s .int (16 : Int32) vs_s (.int (0 : Int32))) (Hov_9 : Ovr Z k_i "java/lang/String") (G_w_ids_o0 : n0 ≤ w_ids_o0) (G_o0 : n0 ≤ o0) (Hin_12_12 : own_in ((-p2) - (1 : Int32))) (Hl_13_13 : vs_s.length = 16) (G_w_slots_o0 : n0 ≤ w_slots_o0) :
    MetFree l (⟨"com/example/nestor/nestor/IdTable", "placeOfUnfound", "(Ljava/lang/String;I)I"⟩ : MethodName) (head1 (Jvm.Cond.code (⟨"com/example/nestor/nestor/IdTable", "placeOfUnfound", "(Ljava/lang/String;I)I"⟩ : MethodName) prog_10_method_8_code 4 (some .int) :: ws) ({ frames := 2, cells := 0, slots := 0, locals := 31 } : Room)) (fun a U => a = #[(.ref o0), (.ref o1), (.int p2)] ∧ Z.Warmed39 U.vm ∧ U.heap = h0) (fun _ _ _ _ _ => True) (fun _ U o U' => ∃ v L, o = .returned v ∧ own_Q16t1 Z o0 o1 p2 w_ids_o0 w_slots_o0 k_i i0 k_s vs_s h0 n0 v U'.heap L ∧ FrameEnd U o U' L ({ frames := 2, cells := 0, slots := 0, locals := 31 } : Room).cells ({ frames := 2, cells := 0, slots := 0, locals := 31 } : Room).slots) := by
  refine MetFree.of_bodySF (plainFor_of_name own_pn16) hisR ?_
  intro p e s m args below meth c s₁ Bd hml0 hP hK
  obtain ⟨rfl, hZ, hh⟩ := hP
  have hx := Bd.exec
  have hlk : meth.locks = false := BodyLoose.notSynchronized Bd
  have hby := Bd.bytes
  have hml : c.maxLocals = 4 := hml0
  have hown : s.vm.findClass "com/example/nestor/nestor/IdTable" = some m.cls := findClass_of_methodNamed Bd.named
  have hnm := (name_of_methodNamed Bd.named Bd.method).1
  have X0 : Stand p l e ({ frames := 2, cells := 0, slots := 0, locals := 31 } : Room) s m #[(.ref o0), (.ref o1), (.int p2)] below meth c s₁ [] 0 0 := Stand.of_body Bd
  have e0 : s₁.heap = h0 := by rw [← hh, Bd.state]; rfl
  have N0 := Fr.nil n0
  have pre0 : ∀ t, Steps p.tables e below (s₁.setTop (mkF m 0 #[.val (.ref o0), .val (.ref o1), .val (.int p2), .unset] [])) t → Steps p.tables e below (s₁.setTop (entryFrame m #[(.ref o0), (.ref o1), (.int p2)] 4)) t := fun t k => castTop (own_ef16t1 m o0 o1 p2) k
  obtain ⟨cq1, q1, q1'⟩ := P_E_o0.cell
  obtain ⟨_, _, ⟨T1, L1, k1, n1⟩, -, X1, ⟨Lc1, hQ1, l1, y1, z1⟩, st1⟩ := X0.privateBack hx (y := (⟨"com/example/nestor/nestor/IdTable", "add", "(Ljava/lang/String;I)I"⟩ : MethodName)) hown (mvT hZ (hw _ (List.mem_of_getElem? (i := 102) rfl))) (mvT hZ (hw _ (List.mem_of_getElem? (i := 103) rfl))) (mvT hZ (own_sel2 Z a0 hw)) (Cond.privateMethod_at (mvP hZ (hw _ (List.mem_of_getElem? (i := 104) rfl)) (args := #[]))) (mvT hZ (hw _ (List.mem_of_getElem? (i := 105) rfl))) (by decide) (backOf (W := 0) (own_rm17t1 l Z a0 hw [] o0 o1 p2 k_s vs_s k_i i0 w_ids_o0 w_slots_o0 h0 n0 Z0 Hov_9 Hne_w_ids_o0_w_slots_o0 P_E_o0 P_E_o1 P_F_o0_size P_F_o0_ids P_F_o0_slots P_V_w_ids_o0 P_V_w_slots_o0 G_w_ids_o0 G_o0 Hm Hin_12_12 Hl_13_13 G_w_slots_o0) hZ (hw _ (List.mem_of_getElem? (i := 105) rfl)) (hw _ (List.mem_of_getElem? (i := 28) rfl)) (by decide) (by decide)) (g := (mkF m 36 #[.val (.ref o0), .val (.ref o1), .val (.int p2), .val .null] [(.int p2), (.ref o1), (.ref o0)])) rfl (by rw [hml]; rfl) (Steps.refl _) (a := o0) (by rw [e0]; exact q1) q1' (argsL := [(.ref o1), (.int p2)]) (rest := []) (lenOf own_pd12 rfl) rfl (by show 2 * 0 + _ ≤ _; exact Nat.le_of_eq rfl) (hb hby own_d16_36) (fun _ _ => ⟨rfl, e0, (by decide : 0 + 0 ≤ _), (by decide : 0 + 0 ≤ _)⟩)
  dsimp only [Pt.U, Pt.locs, Pt.cells, Pt.slots] at X1 l1 y1 z1 st1 hQ1
  subst y1 z1
  obtain ⟨rfl, N1q, K1, f2, f3, f4, f5, f6, f7⟩ := hQ1
  have f8 : Exa Z T1.heap o1 "java/lang/String" := P_E_o1.keep K1
  have zs9 : n0 ≤ T1.heap.size := Nat.le_trans Z0 K1.1
  have K10 : Keep h0 h0 [o0, w_ids_o0, w_slots_o0] := Keep.refl h0 [o0, w_ids_o0, w_slots_o0]
  have K11 : Keep h0 T1.heap [o0, w_ids_o0, w_slots_o0] := K10.trans K1 (allS (Or.inl (by simp)) (allS (Or.inl (by simp)) (allS (Or.inl (by simp)) all0)))
  have N12 : Fr n0 L1 := by rw [l1]; exact Fr.app N0 N1q
  have pre13 : ∀ t, Steps p.tables e below (T1.setTop (mkF m 39 #[.val (.ref o0), .val (.ref o1), .val (.int p2), .val .null] [(.int (1 : Int32))])) t → Steps p.tables e below (s₁.setTop (entryFrame m #[(.ref o0), (.ref o1), (.int p2)] 4)) t := fun t k => pre0 t (by
      refine XS.iloadN X0.here hx rfl (hb hby own_d16_0) rfl ?_
      show Steps p.tables e below (s₁.setTop (mkF m 1 #[.val (.ref o0), .val (.ref o1), .val (.int p2), .unset] [(.int p2)])) _
      refine X0.ldcInt hx hown (mvT hZ (hw _ (List.mem_of_getElem? (i := 101) rfl))) (g := (mkF m 1 #[.val (.ref o0), .val (.ref o1), .val (.int p2), .unset] [(.int p2)])) rfl (hb hby own_d16_1) _ ?_
      refine XS.icmpYes X0.here hx rfl (pc0 := 3) (pc' := 20) rfl (hb hby own_d16_3) rfl (feq Hm).2 (by decide) (by decide) ?_
      refine XS.aconstNull X0.here hx rfl (hb hby own_d16_20) ?_
      refine XS.astoreN X0.here hx rfl (hb hby own_d16_21) rfl rfl (l' := #[.val (.ref o0), .val (.ref o1), .val (.int p2), .val .null]) rfl ?_
      show Steps p.tables e below (s₁.setTop (mkF m 22 #[.val (.ref o0), .val (.ref o1), .val (.int p2), .val .null] [])) _
      refine XS.aloadN X0.here hx rfl (hb hby own_d16_22) rfl rfl ?_
      refine XS.ifnullYes X0.here hx rfl (pc0 := 23) (pc' := 33) rfl (hb hby own_d16_23) rfl (by decide) (by decide) ?_
      refine XS.aloadN X0.here hx rfl (hb hby own_d16_33) rfl rfl ?_
      refine XS.aloadN X0.here hx rfl (hb hby own_d16_34) rfl rfl ?_
      show Steps p.tables e below (s₁.setTop (mkF m 35 #[.val (.ref o0), .val (.ref o1), .val (.int p2), .val .null] [(.ref o1), (.ref o0)])) _
      refine XS.iloadN X0.here hx rfl (hb hby own_d16_35) rfl ?_
      refine st1.trans ?_
      show Steps p.tables e below (T1.setTop (mkF m 39 #[.val (.ref o0), .val (.ref o1), .val (.int p2), .val .null] [(.int (1 : Int32))])) _
      exact k)
  obtain ⟨fs, hr, hrun, hended, hW, hsame⟩ := X1.leave (v := some (.int (1 : Int32))) (fun h => by rw [Bd.returns] at h; cases h) (hlocks := hlk)
  refine ⟨_, _, pre13 _ ?_, hrun, hended, _, _, rfl, ?_, ⟨_, rfl⟩, hW, hsame.mono (by decide) (by decide)⟩
  · show Steps p.tables e below (T1.setTop (mkF m 39 #[.val (.ref o0), .val (.ref o1), .val (.int p2), .val .null] [(.int (1 : Int32))])) _
    exact retI X1 hx Bd.returns (hb hby own_d16_39) hr
  · show own_Q16t1 Z o0 o1 p2 w_ids_o0 w_slots_o0 k_i i0 k_s vs_s h0 n0 _ T1.heap _; exact ⟨rfl, N12, K11, f2, f3, f4, f5, f6, f7⟩
theorem own_ef17t2 (m : MethodId) (x0 : Addr) (x1 : Addr) (x2 : Int32) : entryFrame m #[(.ref x0), (.ref x1), (.int x2)] 6 = (mkF m 0 #[.val (.ref x0), .val (.ref x1), .val (.int x2), .unset, .unset, .unset] []) := by first | (simp [entryFrame, mkF, argsToLocals, Value.category]; done) | rfl
def own_Q17t2 (Z : State) (o0 : Addr) (o1 : Addr) (p2 : Int32) (k_s : ClassId) (vs_s : List Value) (k_i : ClassId) (i0 : Addr) (i1 : Addr) (w_ids_o0 : Addr) (w_slots_o0 : Addr) (h0 : Heap) (n0 : Nat) (v : Option Value) (h : Heap) (L : List Loc) : Prop := v = some (.int (2 : Int32)) ∧ Fr n0 L ∧ Keep h0 h [o0, w_ids_o0, w_slots_o0] ∧ Exa Z h o0 "com/example/nestor/nestor/IdTable" ∧ Fld Z h o0 "com/example/nestor/nestor/IdTable" "size" "I" (.int (3 : Int32)) ∧ Fld Z h o0 "com/example/nestor/nestor/IdTable" "ids" "[Ljava/lang/String;" (.ref w_ids_o0) ∧ Fld Z h o0 "com/example/nestor/nestor/IdTable" "slots" "[I" (.ref w_slots_o0) ∧ Arv Z h w_ids_o0 k_i (.object "java/lang/String") (8 : Int32) [(.ref i0), (.ref i1), (.ref o1), .null, .null, .null, .null, .null] .null ∧ Arv Z h w_slots_o0 k_s .int (16 : Int32) (vs_s.set ((-p2) - (1 : Int32)).toNatClampNeg (.int ((2 : Int32) + (1 : Int32)))) (.int (0 : Int32))
set_option maxRecDepth 65536 in
set_option maxHeartbeats 40000000 in
theorem own_rm17t2 (l : Launch) (Z : State) (a0 : Array Value) (hw : ∀ d ∈ tables_1, d.before a0 Z = true) (ws : List Jvm.Cond) (o0 : Addr) (o1 : Addr) (p2 : Int32) (k_s : ClassId) (vs_s : List Value) (k_i : ClassId) (i0 : Addr) (i1 : Addr) (w_ids_o0 : Addr) (w_slots_o0 : Addr) (h0 : Heap) (n0 : Nat) (Z0 : n0 ≤ h0.size) (Hov : Ovr Z k_i "java/lang/String") (Hne_w_ids_o0_w_slots_o0 : w_ids_o0 ≠ w_slots_o0) (P_E_o0 : Exa Z h0 o0 "com/example/nestor/nestor/IdTable") (P_E_o1 : Exa Z h0 o1 "java/lang/String") (P_F_o0_size : Fld Z h0 o0 "com/example/nestor/nestor/IdTable" "size" "I" (.int (2 : Int32))) (P_F_o0_ids : Fld Z h0 o0 "com/example/nestor/nestor/IdTable" "ids" "[Ljava/lang/String;" (.ref w_ids_o0)) (P_F_o0_slots : Fld Z h0 o0 "com/example/nestor/nestor/IdTable" "slots" "[I" (.ref w_slots_o0)) (P_V_w_ids_o0 : Arv Z h0 w_ids_o0 k_i (.object "java/lang/String") (8 : Int32) [(.ref i0), (.ref i1), .null, .null, .null, .null, .null, .null] .null) (P_V_w_slots_o0 : Arv Z h0 w_slots_o0 k_s .int (16 : Int32) vs_s (.int (0 : Int32))) (G_w_ids_o0 : n0 ≤ w_ids_o0) (G_o0 : n0 ≤ o0) (Hm_11 : ¬ (p2 = (-2147483648 : Int32))) (Hin_12 : own_in ((-p2) - (1 : Int32))) (Hl_13 : vs_s.length = 16) (G_w_slots_o0 : n0 ≤ w_slots_o0) :
    MetFree l (⟨"com/example/nestor/nestor/IdTable", "add", "(Ljava/lang/String;I)I"⟩ : MethodName) (head1 (Jvm.Cond.code (⟨"com/example/nestor/nestor/IdTable", "add", "(Ljava/lang/String;I)I"⟩ : MethodName) prog_10_method_9_code 6 (some .int) :: ws) ({ frames := 1, cells := 0, slots := 0, locals := 14 } : Room)) (fun a U => a = #[(.ref o0), (.ref o1), (.int p2)] ∧ Z.Warmed39 U.vm ∧ U.heap = h0) (fun _ _ _ _ _ => True) (fun _ U o U' => ∃ v L, o = .returned v ∧ own_Q17t2 Z o0 o1 p2 k_s vs_s k_i i0 i1 w_ids_o0 w_slots_o0 h0 n0 v U'.heap L ∧ FrameEnd U o U' L ({ frames := 1, cells := 0, slots := 0, locals := 14 } : Room).cells ({ frames := 1, cells := 0, slots := 0, locals := 14 } : Room).slots) := by
  refine MetFree.of_bodySF (plainFor_of_name own_pn17) hisR ?_
  intro p e s m args below meth c s₁ Bd hml0 hP hK
  obtain ⟨rfl, hZ, hh⟩ := hP
  have hx := Bd.exec
  have hlk : meth.locks = false := BodyLoose.notSynchronized Bd
  have hby := Bd.bytes
  have hml : c.maxLocals = 6 := hml0
  have hown : s.vm.findClass "com/example/nestor/nestor/IdTable" = some m.cls := findClass_of_methodNamed Bd.named
  have hnm := (name_of_methodNamed Bd.named Bd.method).1
  have X0 : Stand p l e ({ frames := 1, cells := 0, slots := 0, locals := 14 } : Room) s m #[(.ref o0), (.ref o1), (.int p2)] below meth c s₁ [] 0 0 := Stand.of_body Bd
  have e0 : s₁.heap = h0 := by rw [← hh, Bd.state]; rfl
  have N0 := Fr.nil n0
  have pre0 : ∀ t, Steps p.tables e below (s₁.setTop (mkF m 0 #[.val (.ref o0), .val (.ref o1), .val (.int p2), .unset, .unset, .unset] [])) t → Steps p.tables e below (s₁.setTop (entryFrame m #[(.ref o0), (.ref o1), (.int p2)] 6)) t := fun t k => castTop (own_ef17t2 m o0 o1 p2) k
  obtain ⟨T1, X1, e1, st1⟩ := getF X0 hx hZ hown (host := "") (Or.inl (hw _ (List.mem_of_getElem? (i := 106) rfl))) Via.refl e0 P_F_o0_size (g := (mkF m 1 #[.val (.ref o0), .val (.ref o1), .val (.int p2), .unset, .unset, .unset] [(.ref o0)])) rfl rfl (hb hby own_d17_1)
  obtain ⟨T2, X2, e2, st2⟩ := getF X1 hx hZ hown (host := "") (Or.inl (hw _ (List.mem_of_getElem? (i := 35) rfl))) Via.refl e1 P_F_o0_ids (g := (mkF m 5 #[.val (.ref o0), .val (.ref o1), .val (.int p2), .unset, .unset, .unset] [(.ref o0), (.int (2 : Int32))])) rfl rfl (hb hby own_d17_5)
  obtain ⟨cl3, Ar3, q3, S3, N_3, Ha3, G3⟩ := id P_V_w_ids_o0
  obtain ⟨T4, X4, e4, st4⟩ := getF X2 hx hZ hown (host := "") (Or.inl (hw _ (List.mem_of_getElem? (i := 106) rfl))) Via.refl e2 P_F_o0_size (g := (mkF m 33 #[.val (.ref o0), .val (.ref o1), .val (.int p2), .unset, .unset, .unset] [(.ref o0)])) rfl rfl (hb hby own_d17_33)
  obtain ⟨T5, X5, e5, st5⟩ := getF X4 hx hZ hown (host := "") (Or.inl (hw _ (List.mem_of_getElem? (i := 35) rfl))) Via.refl e4 P_F_o0_ids (g := (mkF m 38 #[.val (.ref o0), .val (.ref o1), .val (.int p2), .val (.int (2 : Int32)), .unset, .unset] [(.ref o0)])) rfl rfl (hb hby own_d17_38)
  obtain ⟨cl6, Ar6, q6, S6, N_6, Ha6, G6⟩ := id P_V_w_ids_o0
  have hin6 : ¬ ((2 : Int32) < 0 ∨ cl6.slots.size ≤ ((2 : Int32)).toNatClampNeg) := inb_of S6 ⟨by decide, by decide⟩
  obtain ⟨T7, h7, X7, e7, W7, st7⟩ := stR X5 hx hZ e5 Ar6 (j := (2 : Int32)) hin6 rfl (Sto.ofV Ar6 q6 Hov (Ins.self P_E_o1)) (g := (mkF m 43 #[.val (.ref o0), .val (.ref o1), .val (.int p2), .val (.int (2 : Int32)), .unset, .unset] [(.ref o1), (.int (2 : Int32)), (.ref w_ids_o0)])) rfl rfl (hb hby own_d17_43)
  have f8 : Arv Z h7 w_ids_o0 k_i (.object "java/lang/String") (8 : Int32) [(.ref i0), (.ref i1), (.ref o1), .null, .null, .null, .null, .null] .null := Arv.set Ar6 q6 S6 N_6 Ha6 G6 rfl W7 2 rfl (Nat.le_of_ble_eq_true rfl)
  have f9 : Exa Z h7 o0 "com/example/nestor/nestor/IdTable" := P_E_o0.wr W7
  have f10 : Exa Z h7 o1 "java/lang/String" := P_E_o1.wr W7
  have f11 : Fld Z h7 o0 "com/example/nestor/nestor/IdTable" "size" "I" (.int (2 : Int32)) := P_F_o0_size.other W7 (Or.inl (Exa.neArv P_E_o0 P_V_w_ids_o0 (hw _ (List.mem_of_getElem? (i := 27) rfl))))
  have f12 : Fld Z h7 o0 "com/example/nestor/nestor/IdTable" "ids" "[Ljava/lang/String;" (.ref w_ids_o0) := P_F_o0_ids.other W7 (Or.inl (Exa.neArv P_E_o0 P_V_w_ids_o0 (hw _ (List.mem_of_getElem? (i := 27) rfl))))
  have f13 : Fld Z h7 o0 "com/example/nestor/nestor/IdTable" "slots" "[I" (.ref w_slots_o0) := P_F_o0_slots.other W7 (Or.inl (Exa.neArv P_E_o0 P_V_w_ids_o0 (hw _ (List.mem_of_getElem? (i := 27) rfl))))
  have f14 : Arv Z h7 w_slots_o0 k_s .int (16 : Int32) vs_s (.int (0 : Int32)) := P_V_w_slots_o0.other W7 (Ne.symm Hne_w_ids_o0_w_slots_o0)
  have zs15 : n0 ≤ h7.size := Nat.le_trans Z0 (Keep.of_wr W7).1
  have N16 := Fr.snoc X7 N0 G_w_ids_o0
  have K17 : Keep h0 h0 [o0, w_ids_o0, w_slots_o0] := Keep.refl h0 [o0, w_ids_o0, w_slots_o0]
  have K18 : Keep h0 h7 [o0, w_ids_o0, w_slots_o0] := K17.wr W7 (Or.inl (by simp))
  obtain ⟨T19, X19, e19, st19⟩ := getF X7 hx hZ hown (host := "") (Or.inl (hw _ (List.mem_of_getElem? (i := 106) rfl))) Via.refl e7 f11 (g := (mkF m 46 #[.val (.ref o0), .val (.ref o1), .val (.int p2), .val (.int (2 : Int32)), .unset, .unset] [(.ref o0), (.ref o0)])) rfl rfl (hb hby own_d17_46)
  obtain ⟨T20, h20, X20, e20, W20, st20⟩ := putF X19 hx hZ hown (host := "") (Or.inl (hw _ (List.mem_of_getElem? (i := 106) rfl))) Via.refl e19 f11 f9 (Or.inl (hw _ (List.mem_of_getElem? (i := 107) rfl))) (hw _ (List.mem_of_getElem? (i := 27) rfl)) (ty := .int) (by decide) rfl rfl (g := (mkF m 51 #[.val (.ref o0), .val (.ref o1), .val (.int p2), .val (.int (2 : Int32)), .unset, .unset] [(.int (3 : Int32)), (.ref o0)])) rfl rfl (hb hby own_d17_51)
  have f21 : Exa Z h20 o0 "com/example/nestor/nestor/IdTable" := f9.wr W20
  have f22 : Exa Z h20 o1 "java/lang/String" := f10.wr W20
  have f23 : Fld Z h20 o0 "com/example/nestor/nestor/IdTable" "size" "I" (.int (3 : Int32)) := f11.same W20
  have f24 : Fld Z h20 o0 "com/example/nestor/nestor/IdTable" "ids" "[Ljava/lang/String;" (.ref w_ids_o0) := f12.other W20 (Or.inr (slot_ne (Or.inl (hw _ (List.mem_of_getElem? (i := 36) rfl))) (Or.inl (hw _ (List.mem_of_getElem? (i := 107) rfl))) (by decide) (t := (.array (.object "java/lang/String"))) (t' := .int) (by decide) (by decide)))
  have f25 : Fld Z h20 o0 "com/example/nestor/nestor/IdTable" "slots" "[I" (.ref w_slots_o0) := f13.other W20 (Or.inr (slot_ne (Or.inl (hw _ (List.mem_of_getElem? (i := 39) rfl))) (Or.inl (hw _ (List.mem_of_getElem? (i := 107) rfl))) (by decide) (t := (.array .int)) (t' := .int) (by decide) (by decide)))
  have f26 : Arv Z h20 w_ids_o0 k_i (.object "java/lang/String") (8 : Int32) [(.ref i0), (.ref i1), (.ref o1), .null, .null, .null, .null, .null] .null := f8.other W20 (Ne.symm (Exa.neArv f9 f8 (hw _ (List.mem_of_getElem? (i := 27) rfl))))
  have f27 : Arv Z h20 w_slots_o0 k_s .int (16 : Int32) vs_s (.int (0 : Int32)) := f14.other W20 (Ne.symm (Exa.neArv f9 f14 (hw _ (List.mem_of_getElem? (i := 27) rfl))))
  have zs28 : n0 ≤ h20.size := Nat.le_trans zs15 (Keep.of_wr W20).1
  have N29 := Fr.snoc X20 N16 G_o0
  have K30 : Keep h0 h20 [o0, w_ids_o0, w_slots_o0] := K18.wr W20 (Or.inl (by simp))
  obtain ⟨cq31, q31, q31'⟩ := f21.cell
  obtain ⟨_, _, ⟨T31, L31, k31, n31⟩, -, X31, ⟨Lc31, hQ31, l31, y31, z31⟩, st31⟩ := X20.privateBack hx (y := (⟨"com/example/nestor/nestor/IdTable", "put", "(II)V"⟩ : MethodName)) hown (mvT hZ (hw _ (List.mem_of_getElem? (i := 108) rfl))) (mvT hZ (hw _ (List.mem_of_getElem? (i := 109) rfl))) (mvT hZ (own_sel1 Z a0 hw)) (Cond.privateMethod_at (mvP hZ (hw _ (List.mem_of_getElem? (i := 110) rfl)) (args := #[]))) (mvT hZ (hw _ (List.mem_of_getElem? (i := 111) rfl))) (by decide) (backOf (W := 0) (own_rm18 l Z a0 hw [] o0 (2 : Int32) p2 w_slots_o0 k_s vs_s h20 n0 zs28 Hm_11 Hin_12 Hl_13 f21 f25 f27 G_w_slots_o0) hZ (hw _ (List.mem_of_getElem? (i := 111) rfl)) (hw _ (List.mem_of_getElem? (i := 28) rfl)) (by decide) (by decide)) (g := (mkF m 57 #[.val (.ref o0), .val (.ref o1), .val (.int p2), .val (.int (2 : Int32)), .unset, .unset] [(.int p2), (.int (2 : Int32)), (.ref o0)])) rfl (by rw [hml]; rfl) (Steps.refl _) (a := o0) (by rw [e20]; exact q31) q31' (argsL := [(.int (2 : Int32)), (.int p2)]) (rest := []) (lenOf own_pd11 rfl) rfl (by show 2 * 0 + _ ≤ _; exact Nat.le_of_eq rfl) (hb hby own_d17_57) (fun _ _ => ⟨rfl, e20, (by decide : 0 + 0 ≤ _), (by decide : 0 + 0 ≤ _)⟩)
  dsimp only [Pt.U, Pt.locs, Pt.cells, Pt.slots] at X31 l31 y31 z31 st31 hQ31
  subst y31 z31
  obtain ⟨rfl, N31q, K31, f32⟩ := hQ31
  have f33 : Exa Z T31.heap o0 "com/example/nestor/nestor/IdTable" := f21.keep K31
  have f34 : Exa Z T31.heap o1 "java/lang/String" := f22.keep K31
  have f35 : Fld Z T31.heap o0 "com/example/nestor/nestor/IdTable" "size" "I" (.int (3 : Int32)) := f23.keep K31 (ninS (Exa.neArv f21 f27 (hw _ (List.mem_of_getElem? (i := 27) rfl))) nin0)
  have f36 : Fld Z T31.heap o0 "com/example/nestor/nestor/IdTable" "ids" "[Ljava/lang/String;" (.ref w_ids_o0) := f24.keep K31 (ninS (Exa.neArv f21 f27 (hw _ (List.mem_of_getElem? (i := 27) rfl))) nin0)
  have f37 : Fld Z T31.heap o0 "com/example/nestor/nestor/IdTable" "slots" "[I" (.ref w_slots_o0) := f25.keep K31 (ninS (Exa.neArv f21 f27 (hw _ (List.mem_of_getElem? (i := 27) rfl))) nin0)
  have f38 : Arv Z T31.heap w_ids_o0 k_i (.object "java/lang/String") (8 : Int32) [(.ref i0), (.ref i1), (.ref o1), .null, .null, .null, .null, .null] .null := f26.keep K31 (ninS Hne_w_ids_o0_w_slots_o0 nin0)
  have zs39 : n0 ≤ T31.heap.size := Nat.le_trans zs28 K31.1
  have K40 : Keep h0 T31.heap [o0, w_ids_o0, w_slots_o0] := K30.trans K31 (allS (Or.inl (by simp)) all0)
  have N41 : Fr n0 L31 := by rw [l31]; exact Fr.app N29 N31q
  obtain ⟨T42, X42, e42, st42⟩ := getF X31 hx hZ hown (host := "") (Or.inl (hw _ (List.mem_of_getElem? (i := 106) rfl))) Via.refl rfl f35 (g := (mkF m 62 #[.val (.ref o0), .val (.ref o1), .val (.int p2), .val (.int (2 : Int32)), .unset, .unset] [(.ref o0), (.int (2 : Int32))])) rfl rfl (hb hby own_d17_62)
  obtain ⟨T43, X43, e43, st43⟩ := getF X42 hx hZ hown (host := "") (Or.inl (hw _ (List.mem_of_getElem? (i := 38) rfl))) Via.refl e42 f37 (g := (mkF m 67 #[.val (.ref o0), .val (.ref o1), .val (.int p2), .val (.int (2 : Int32)), .unset, .unset] [(.ref o0), (.int (6 : Int32))])) rfl rfl (hb hby own_d17_67)
  obtain ⟨cl44, Ar44, q44, S44, N_44, Ha44, G44⟩ := id f32
  have pre45 : ∀ t, Steps p.tables e below (T43.setTop (mkF m 142 #[.val (.ref o0), .val (.ref o1), .val (.int p2), .val (.int (2 : Int32)), .unset, .unset] [(.int (2 : Int32))])) t → Steps p.tables e below (s₁.setTop (entryFrame m #[(.ref o0), (.ref o1), (.int p2)] 6)) t := fun t k => pre0 t (by
      refine XS.aloadN X0.here hx rfl (hb hby own_d17_0) rfl rfl ?_
      show Steps p.tables e below (s₁.setTop (mkF m 1 #[.val (.ref o0), .val (.ref o1), .val (.int p2), .unset, .unset, .unset] [(.ref o0)])) _
      refine st1 _ ?_
      show Steps p.tables e below (T1.setTop (mkF m 4 #[.val (.ref o0), .val (.ref o1), .val (.int p2), .unset, .unset, .unset] [(.int (2 : Int32))])) _
      refine XS.aloadN X1.here hx rfl (hb hby own_d17_4) rfl rfl ?_
      refine st2 _ ?_
      show Steps p.tables e below (T2.setTop (mkF m 8 #[.val (.ref o0), .val (.ref o1), .val (.int p2), .unset, .unset, .unset] [(.ref w_ids_o0), (.int (2 : Int32))])) _
      refine X2.arraylength hx (by rw [e2]; exact Ar3.1) (State.isArrayOf_alike hZ.alike Ar3.2.1) (g := (mkF m 8 #[.val (.ref o0), .val (.ref o1), .val (.int p2), .unset, .unset, .unset] [(.ref w_ids_o0), (.int (2 : Int32))])) rfl rfl (hb hby own_d17_8) _ ?_
      rw [len_of S3 N_3]
      refine XS.icmpYes X2.here hx rfl (pc0 := 9) (pc' := 32) rfl (hb hby own_d17_9) rfl (feq (by decide : ¬ ((2 : Int32) = (8 : Int32)))).2 (by decide) (by decide) ?_
      refine XS.aloadN X2.here hx rfl (hb hby own_d17_32) rfl rfl ?_
      show Steps p.tables e below (T2.setTop (mkF m 33 #[.val (.ref o0), .val (.ref o1), .val (.int p2), .unset, .unset, .unset] [(.ref o0)])) _
      refine st4 _ ?_
      show Steps p.tables e below (T4.setTop (mkF m 36 #[.val (.ref o0), .val (.ref o1), .val (.int p2), .unset, .unset, .unset] [(.int (2 : Int32))])) _
      refine XS.istoreN X4.here hx rfl (hb hby own_d17_36) rfl (l' := #[.val (.ref o0), .val (.ref o1), .val (.int p2), .val (.int (2 : Int32)), .unset, .unset]) rfl ?_
      refine XS.aloadN X4.here hx rfl (hb hby own_d17_37) rfl rfl ?_
      refine st5 _ ?_
      show Steps p.tables e below (T5.setTop (mkF m 41 #[.val (.ref o0), .val (.ref o1), .val (.int p2), .val (.int (2 : Int32)), .unset, .unset] [(.ref w_ids_o0)])) _
      refine XS.iloadN X5.here hx rfl (hb hby own_d17_41) rfl ?_
      refine XS.aloadN X5.here hx rfl (hb hby own_d17_42) rfl rfl ?_
      refine st7 _ ?_
      show Steps p.tables e below (T7.setTop (mkF m 44 #[.val (.ref o0), .val (.ref o1), .val (.int p2), .val (.int (2 : Int32)), .unset, .unset] [])) _
      refine XS.aloadN X7.here hx rfl (hb hby own_d17_44) rfl rfl ?_
      refine XS.dup X7.here hx rfl (hb hby own_d17_45) rfl rfl ?_
      refine st19 _ ?_
      show Steps p.tables e below (T19.setTop (mkF m 49 #[.val (.ref o0), .val (.ref o1), .val (.int p2), .val (.int (2 : Int32)), .unset, .unset] [(.int (2 : Int32)), (.ref o0)])) _
      refine XS.iconst X19.here hx rfl (hb hby own_d17_49) ?_
      refine XS.iadd X19.here hx rfl (hb hby own_d17_50) rfl ?_
      refine st20 _ ?_
      show Steps p.tables e below (T20.setTop (mkF m 54 #[.val (.ref o0), .val (.ref o1), .val (.int p2), .val (.int (2 : Int32)), .unset, .unset] [])) _
      refine XS.aloadN X20.here hx rfl (hb hby own_d17_54) rfl rfl ?_
      refine XS.iloadN X20.here hx rfl (hb hby own_d17_55) rfl ?_
      refine XS.iloadN X20.here hx rfl (hb hby own_d17_56) rfl ?_
      refine st31.trans ?_
      show Steps p.tables e below (T31.setTop (mkF m 60 #[.val (.ref o0), .val (.ref o1), .val (.int p2), .val (.int (2 : Int32)), .unset, .unset] [])) _
      refine XS.iconst X31.here hx rfl (hb hby own_d17_60) ?_
      refine XS.aloadN X31.here hx rfl (hb hby own_d17_61) rfl rfl ?_
      refine st42 _ ?_
      show Steps p.tables e below (T42.setTop (mkF m 65 #[.val (.ref o0), .val (.ref o1), .val (.int p2), .val (.int (2 : Int32)), .unset, .unset] [(.int (3 : Int32)), (.int (2 : Int32))])) _
      refine XS.imul X42.here hx rfl (hb hby own_d17_65) rfl ?_
      refine XS.aloadN X42.here hx rfl (hb hby own_d17_66) rfl rfl ?_
      refine st43 _ ?_
      show Steps p.tables e below (T43.setTop (mkF m 70 #[.val (.ref o0), .val (.ref o1), .val (.int p2), .val (.int (2 : Int32)), .unset, .unset] [(.ref w_slots_o0), (.int (6 : Int32))])) _
      refine X43.arraylength hx (by rw [e43]; exact Ar44.1) (State.isArrayOf_alike hZ.alike Ar44.2.1) (g := (mkF m 70 #[.val (.ref o0), .val (.ref o1), .val (.int p2), .val (.int (2 : Int32)), .unset, .unset] [(.ref w_slots_o0), (.int (6 : Int32))])) rfl rfl (hb hby own_d17_70) _ ?_
      rw [len_of S44 N_44]
      refine XS.icmpYes X43.here hx rfl (pc0 := 71) (pc' := 141) rfl (hb hby own_d17_71) rfl (tlt (by decide : (6 : Int32) < (16 : Int32))).1 (by decide) (by decide) ?_
      refine XS.iloadN X43.here hx rfl (hb hby own_d17_141) rfl ?_
      show Steps p.tables e below (T43.setTop (mkF m 142 #[.val (.ref o0), .val (.ref o1), .val (.int p2), .val (.int (2 : Int32)), .unset, .unset] [(.int (2 : Int32))])) _
      exact k)
  obtain ⟨fs, hr, hrun, hended, hW, hsame⟩ := X43.leave (v := some (.int (2 : Int32))) (fun h => by rw [Bd.returns] at h; cases h) (hlocks := hlk)
  refine ⟨_, _, pre45 _ ?_, hrun, hended, _, _, rfl, ?_, ⟨_, rfl⟩, hW, hsame.mono (by decide) (by decide)⟩
  · show Steps p.tables e below (T43.setTop (mkF m 142 #[.val (.ref o0), .val (.ref o1), .val (.int p2), .val (.int (2 : Int32)), .unset, .unset] [(.int (2 : Int32))])) _
    exact retI X43 hx Bd.returns (hb hby own_d17_142) hr
  · show own_Q17t2 Z o0 o1 p2 k_s vs_s k_i i0 i1 w_ids_o0 w_slots_o0 h0 n0 _ T43.heap _; rw [e43]; exact ⟨rfl, N41, K40, f33, f35, f36, f37, f38, f32⟩
theorem own_ef16t2 (m : MethodId) (x0 : Addr) (x1 : Addr) (x2 : Int32) : entryFrame m #[(.ref x0), (.ref x1), (.int x2)] 4 = (mkF m 0 #[.val (.ref x0), .val (.ref x1), .val (.int x2), .unset] []) := by first | (simp [entryFrame, mkF, argsToLocals, Value.category]; done) | rfl
def own_Q16t2 (Z : State) (o0 : Addr) (o1 : Addr) (p2 : Int32) (w_ids_o0 : Addr) (w_slots_o0 : Addr) (k_i : ClassId) (i0 : Addr) (i1 : Addr) (k_s : ClassId) (vs_s : List Value) (h0 : Heap) (n0 : Nat) (v : Option Value) (h : Heap) (L : List Loc) : Prop := v = some (.int (2 : Int32)) ∧ Fr n0 L ∧ Keep h0 h [o0, w_ids_o0, w_slots_o0] ∧ Exa Z h o0 "com/example/nestor/nestor/IdTable" ∧ Fld Z h o0 "com/example/nestor/nestor/IdTable" "size" "I" (.int (3 : Int32)) ∧ Fld Z h o0 "com/example/nestor/nestor/IdTable" "ids" "[Ljava/lang/String;" (.ref w_ids_o0) ∧ Fld Z h o0 "com/example/nestor/nestor/IdTable" "slots" "[I" (.ref w_slots_o0) ∧ Arv Z h w_ids_o0 k_i (.object "java/lang/String") (8 : Int32) [(.ref i0), (.ref i1), (.ref o1), .null, .null, .null, .null, .null] .null ∧ Arv Z h w_slots_o0 k_s .int (16 : Int32) (vs_s.set ((-p2) - (1 : Int32)).toNatClampNeg (.int ((2 : Int32) + (1 : Int32)))) (.int (0 : Int32))
set_option maxRecDepth 65536 in
set_option maxHeartbeats 40000000 in
theorem own_rm16t2 (l : Launch) (Z : State) (a0 : Array Value) (hw : ∀ d ∈ tables_1, d.before a0 Z = true) (ws : List Jvm.Cond) (o0 : Addr) (o1 : Addr) (p2 : Int32) (w_ids_o0 : Addr) (w_slots_o0 : Addr) (k_i : ClassId) (i0 : Addr) (i1 : Addr) (k_s : ClassId) (vs_s : List Value) (h0 : Heap) (n0 : Nat) (Z0 : n0 ≤ h0.size) (Hm : ¬ (p2 = (-2147483648 : Int32))) (Hne_w_ids_o0_w_slots_o0 : w_ids_o0 ≠ w_slots_o0) (P_E_o0 : Exa Z h0 o0 "com/example/nestor/nestor/IdTable") (P_E_o1 : Exa Z h0 o1 "java/lang/String") (P_F_o0_size : Fld Z h0 o0 "com/example/nestor/nestor/IdTable" "size" "I" (.int (2 : Int32))) (P_F_o0_ids : Fld Z h0 o0 "com/example/nestor/nestor/IdTable" "ids" "[Ljava/lang/String;" (.ref w_ids_o0)) (P_F_o0_slots : Fld Z h0 o0 "com/example/nestor/nestor/IdTable" "slots" "[I" (.ref w_slots_o0)) (P_V_w_ids_o0 : Arv Z h0 w_ids_o0 k_i (.object "java/lang/String") (8 : Int32) [(.ref i0), (.ref i1), .null, .null, .null, .null, .null, .null] .null) (P_V_w_slots_o0 : Arv Z h0 w_slots_o0 k_s .int (16 : Int32) vs_s (.int (0 : Int32))) (Hov_9 : Ovr Z k_i "java/lang/String") (G_w_ids_o0 : n0 ≤ w_ids_o0) (G_o0 : n0 ≤ o0) (Hin_12_12 : own_in ((-p2) - (1 : Int32))) (Hl_13_13 : vs_s.length = 16) (G_w_slots_o0 : n0 ≤ w_slots_o0) :
    MetFree l (⟨"com/example/nestor/nestor/IdTable", "placeOfUnfound", "(Ljava/lang/String;I)I"⟩ : MethodName) (head1 (Jvm.Cond.code (⟨"com/example/nestor/nestor/IdTable", "placeOfUnfound", "(Ljava/lang/String;I)I"⟩ : MethodName) prog_10_method_8_code 4 (some .int) :: ws) ({ frames := 2, cells := 0, slots := 0, locals := 31 } : Room)) (fun a U => a = #[(.ref o0), (.ref o1), (.int p2)] ∧ Z.Warmed39 U.vm ∧ U.heap = h0) (fun _ _ _ _ _ => True) (fun _ U o U' => ∃ v L, o = .returned v ∧ own_Q16t2 Z o0 o1 p2 w_ids_o0 w_slots_o0 k_i i0 i1 k_s vs_s h0 n0 v U'.heap L ∧ FrameEnd U o U' L ({ frames := 2, cells := 0, slots := 0, locals := 31 } : Room).cells ({ frames := 2, cells := 0, slots := 0, locals := 31 } : Room).slots) := by
  refine MetFree.of_bodySF (plainFor_of_name own_pn16) hisR ?_
  intro p e s m args below meth c s₁ Bd hml0 hP hK
  obtain ⟨rfl, hZ, hh⟩ := hP
  have hx := Bd.exec
  have hlk : meth.locks = false := BodyLoose.notSynchronized Bd
  have hby := Bd.bytes
  have hml : c.maxLocals = 4 := hml0
  have hown : s.vm.findClass "com/example/nestor/nestor/IdTable" = some m.cls := findClass_of_methodNamed Bd.named
  have hnm := (name_of_methodNamed Bd.named Bd.method).1
  have X0 : Stand p l e ({ frames := 2, cells := 0, slots := 0, locals := 31 } : Room) s m #[(.ref o0), (.ref o1), (.int p2)] below meth c s₁ [] 0 0 := Stand.of_body Bd
  have e0 : s₁.heap = h0 := by rw [← hh, Bd.state]; rfl
  have N0 := Fr.nil n0
  have pre0 : ∀ t, Steps p.tables e below (s₁.setTop (mkF m 0 #[.val (.ref o0), .val (.ref o1), .val (.int p2), .unset] [])) t → Steps p.tables e below (s₁.setTop (entryFrame m #[(.ref o0), (.ref o1), (.int p2)] 4)) t := fun t k => castTop (own_ef16t2 m o0 o1 p2) k
  obtain ⟨cq1, q1, q1'⟩ := P_E_o0.cell
  obtain ⟨_, _, ⟨T1, L1, k1, n1⟩, -, X1, ⟨Lc1, hQ1, l1, y1, z1⟩, st1⟩ := X0.privateBack hx (y := (⟨"com/example/nestor/nestor/IdTable", "add", "(Ljava/lang/String;I)I"⟩ : MethodName)) hown (mvT hZ (hw _ (List.mem_of_getElem? (i := 102) rfl))) (mvT hZ (hw _ (List.mem_of_getElem? (i := 103) rfl))) (mvT hZ (own_sel2 Z a0 hw)) (Cond.privateMethod_at (mvP hZ (hw _ (List.mem_of_getElem? (i := 104) rfl)) (args := #[]))) (mvT hZ (hw _ (List.mem_of_getElem? (i := 105) rfl))) (by decide) (backOf (W := 0) (own_rm17t2 l Z a0 hw [] o0 o1 p2 k_s vs_s k_i i0 i1 w_ids_o0 w_slots_o0 h0 n0 Z0 Hov_9 Hne_w_ids_o0_w_slots_o0 P_E_o0 P_E_o1 P_F_o0_size P_F_o0_ids P_F_o0_slots P_V_w_ids_o0 P_V_w_slots_o0 G_w_ids_o0 G_o0 Hm Hin_12_12 Hl_13_13 G_w_slots_o0) hZ (hw _ (List.mem_of_getElem? (i := 105) rfl)) (hw _ (List.mem_of_getElem? (i := 28) rfl)) (by decide) (by decide)) (g := (mkF m 36 #[.val (.ref o0), .val (.ref o1), .val (.int p2), .val .null] [(.int p2), (.ref o1), (.ref o0)])) rfl (by rw [hml]; rfl) (Steps.refl _) (a := o0) (by rw [e0]; exact q1) q1' (argsL := [(.ref o1), (.int p2)]) (rest := []) (lenOf own_pd12 rfl) rfl (by show 2 * 0 + _ ≤ _; exact Nat.le_of_eq rfl) (hb hby own_d16_36) (fun _ _ => ⟨rfl, e0, (by decide : 0 + 0 ≤ _), (by decide : 0 + 0 ≤ _)⟩)
  dsimp only [Pt.U, Pt.locs, Pt.cells, Pt.slots] at X1 l1 y1 z1 st1 hQ1
  subst y1 z1
  obtain ⟨rfl, N1q, K1, f2, f3, f4, f5, f6, f7⟩ := hQ1
  have f8 : Exa Z T1.heap o1 "java/lang/String" := P_E_o1.keep K1
  have zs9 : n0 ≤ T1.heap.size := Nat.le_trans Z0 K1.1
  have K10 : Keep h0 h0 [o0, w_ids_o0, w_slots_o0] := Keep.refl h0 [o0, w_ids_o0, w_slots_o0]
  have K11 : Keep h0 T1.heap [o0, w_ids_o0, w_slots_o0] := K10.trans K1 (allS (Or.inl (by simp)) (allS (Or.inl (by simp)) (allS (Or.inl (by simp)) all0)))
  have N12 : Fr n0 L1 := by rw [l1]; exact Fr.app N0 N1q
  have pre13 : ∀ t, Steps p.tables e below (T1.setTop (mkF m 39 #[.val (.ref o0), .val (.ref o1), .val (.int p2), .val .null] [(.int (2 : Int32))])) t → Steps p.tables e below (s₁.setTop (entryFrame m #[(.ref o0), (.ref o1), (.int p2)] 4)) t := fun t k => pre0 t (by
      refine XS.iloadN X0.here hx rfl (hb hby own_d16_0) rfl ?_
      show Steps p.tables e below (s₁.setTop (mkF m 1 #[.val (.ref o0), .val (.ref o1), .val (.int p2), .unset] [(.int p2)])) _
      refine X0.ldcInt hx hown (mvT hZ (hw _ (List.mem_of_getElem? (i := 101) rfl))) (g := (mkF m 1 #[.val (.ref o0), .val (.ref o1), .val (.int p2), .unset] [(.int p2)])) rfl (hb hby own_d16_1) _ ?_
      refine XS.icmpYes X0.here hx rfl (pc0 := 3) (pc' := 20) rfl (hb hby own_d16_3) rfl (feq Hm).2 (by decide) (by decide) ?_
      refine XS.aconstNull X0.here hx rfl (hb hby own_d16_20) ?_
      refine XS.astoreN X0.here hx rfl (hb hby own_d16_21) rfl rfl (l' := #[.val (.ref o0), .val (.ref o1), .val (.int p2), .val .null]) rfl ?_
      show Steps p.tables e below (s₁.setTop (mkF m 22 #[.val (.ref o0), .val (.ref o1), .val (.int p2), .val .null] [])) _
      refine XS.aloadN X0.here hx rfl (hb hby own_d16_22) rfl rfl ?_
      refine XS.ifnullYes X0.here hx rfl (pc0 := 23) (pc' := 33) rfl (hb hby own_d16_23) rfl (by decide) (by decide) ?_
      refine XS.aloadN X0.here hx rfl (hb hby own_d16_33) rfl rfl ?_
      refine XS.aloadN X0.here hx rfl (hb hby own_d16_34) rfl rfl ?_
      show Steps p.tables e below (s₁.setTop (mkF m 35 #[.val (.ref o0), .val (.ref o1), .val (.int p2), .val .null] [(.ref o1), (.ref o0)])) _
      refine XS.iloadN X0.here hx rfl (hb hby own_d16_35) rfl ?_
      refine st1.trans ?_
      show Steps p.tables e below (T1.setTop (mkF m 39 #[.val (.ref o0), .val (.ref o1), .val (.int p2), .val .null] [(.int (2 : Int32))])) _
      exact k)
  obtain ⟨fs, hr, hrun, hended, hW, hsame⟩ := X1.leave (v := some (.int (2 : Int32))) (fun h => by rw [Bd.returns] at h; cases h) (hlocks := hlk)
  refine ⟨_, _, pre13 _ ?_, hrun, hended, _, _, rfl, ?_, ⟨_, rfl⟩, hW, hsame.mono (by decide) (by decide)⟩
  · show Steps p.tables e below (T1.setTop (mkF m 39 #[.val (.ref o0), .val (.ref o1), .val (.int p2), .val .null] [(.int (2 : Int32))])) _
    exact retI X1 hx Bd.returns (hb hby own_d16_39) hr
  · show own_Q16t2 Z o0 o1 p2 w_ids_o0 w_slots_o0 k_i i0 i1 k_s vs_s h0 n0 _ T1.heap _; exact ⟨rfl, N12, K11, f2, f3, f4, f5, f6, f7⟩
theorem own_neg (e : Int32) (h : own_in e) : ((-((-e) - (1 : Int32))) - (1 : Int32)) = e ∧ ¬ ((-e) - (1 : Int32)) = (-2147483648 : Int32) ∧ ((-e) - (1 : Int32)) < (0 : Int32) := by
  have k : ∀ k : Fin 16, ((-((-(Int32.ofNat k.val)) - (1 : Int32))) - (1 : Int32)) = Int32.ofNat k.val ∧ ¬ ((-(Int32.ofNat k.val)) - (1 : Int32)) = (-2147483648 : Int32) ∧ ((-(Int32.ofNat k.val)) - (1 : Int32)) < (0 : Int32) := by decide +kernel
  obtain ⟨q, r⟩ := own_in_of e h
  rw [q]; exact k ⟨_, r⟩
def own_y0 (d : Int32) : Int32 := ((-(own_f13t0 (d &&& (255 : Int32)))) - (1 : Int32))
def own_y1 (d x0 c0 : Int32) : Int32 := ((-(own_f13t1 (d &&& (255 : Int32)) x0 c0)) - (1 : Int32))
def own_y2 (d x0 x1 c0 c1 : Int32) : Int32 := ((-(own_f13t2 (d &&& (255 : Int32)) x0 x1 c0 c1)) - (1 : Int32))
theorem own_y0e (d : Int32) : own_y0 d = own_f14 (d &&& (255 : Int32)) := (own_neg _ (own_home _)).1
theorem own_y0i (d : Int32) : own_in (own_y0 d) := by rw [own_y0e]; exact own_home _
theorem own_g0 (d : Int32) : ¬ own_f13t0 (d &&& (255 : Int32)) = (-2147483648 : Int32) ∧ own_f13t0 (d &&& (255 : Int32)) < (0 : Int32) := (own_neg _ (own_home _)).2
theorem own_g1 (d x0 c0 : Int32) (hx : own_in x0) (h : own_f13t1 (d &&& (255 : Int32)) x0 c0 < (0 : Int32)) : ¬ own_f13t1 (d &&& (255 : Int32)) x0 c0 = (-2147483648 : Int32) ∧ own_in (own_y1 d x0 c0) ∧ ¬ x0 = own_y1 d x0 c0 := by
  unfold own_y1
  revert h
  unfold own_f13t1
  by_cases q : own_f14 (d &&& (255 : Int32)) = x0
  · rw [if_pos q]
    by_cases q2 : (c0 &&& (255 : Int32)) = (d &&& (255 : Int32))
    · rw [if_pos q2]; intro h; exact absurd h (by decide)
    · rw [if_neg q2]; intro _
      have n := own_neg _ (own_m15 (own_f14 (d &&& (255 : Int32)) + (1 : Int32)))
      rw [n.1]
      exact ⟨n.2.1, own_m15 _, fun e => own_n1 x0 hx (q ▸ e.symm)⟩
  · rw [if_neg q]; intro _
    have n := own_neg _ (own_home (d &&& (255 : Int32)))
    rw [n.1]
    exact ⟨n.2.1, own_home _, fun e => q e.symm⟩
theorem own_c1 (p x0 c0 : Int32) (h : ¬ own_f13t1 p x0 c0 < (0 : Int32)) : own_f13t1 p x0 c0 = (0 : Int32) := by
  revert h
  unfold own_f13t1
  split
  · split
    · intro _; rfl
    · intro h; exact absurd (own_neg _ (own_m15 _)).2.2 h
  · intro h; exact absurd (own_neg _ (own_home _)).2.2 h
theorem own_zz0 : ¬ (0 : Int32) < (0 : Int32) := by decide
theorem own_zz1 : ¬ (1 : Int32) < (0 : Int32) := by decide
theorem own_z01 : ¬ (0 : Int32) = (1 : Int32) := by decide
theorem own_z10 : ¬ (1 : Int32) = (0 : Int32) := by decide
theorem own_k2 (p x0 x1 c0 c1 r : Int32) (hr : own_f13t2 p x0 x1 c0 c1 = r) : (r = (0 : Int32) ∧ (c0 &&& (255 : Int32)) = p) ∨ (r = (1 : Int32) ∧ (c1 &&& (255 : Int32)) = p) ∨ ∃ e, own_in e ∧ r = ((-e) - (1 : Int32)) := by
  unfold own_f13t2 at hr
  by_cases q1 : own_f14 p = x0
  · rw [if_pos q1] at hr
    by_cases q2 : (c0 &&& (255 : Int32)) = p
    · rw [if_pos q2] at hr; exact Or.inl ⟨hr.symm, q2⟩
    · rw [if_neg q2] at hr
      by_cases q3 : ((own_f14 p) + (1 : Int32)) &&& (15 : Int32) = x1
      · rw [if_pos q3] at hr
        by_cases q4 : (c1 &&& (255 : Int32)) = p
        · rw [if_pos q4] at hr; exact Or.inr (Or.inl ⟨hr.symm, q4⟩)
        · rw [if_neg q4] at hr; exact Or.inr (Or.inr ⟨_, own_m15 _, hr.symm⟩)
      · rw [if_neg q3] at hr; exact Or.inr (Or.inr ⟨_, own_m15 _, hr.symm⟩)
  · rw [if_neg q1] at hr
    by_cases q3 : own_f14 p = x1
    · rw [if_pos q3] at hr
      by_cases q4 : (c1 &&& (255 : Int32)) = p
      · rw [if_pos q4] at hr; exact Or.inr (Or.inl ⟨hr.symm, q4⟩)
      · rw [if_neg q4] at hr
        by_cases q5 : ((own_f14 p) + (1 : Int32)) &&& (15 : Int32) = x0
        · rw [if_pos q5] at hr
          by_cases q2 : (c0 &&& (255 : Int32)) = p
          · rw [if_pos q2] at hr; exact Or.inl ⟨hr.symm, q2⟩
          · rw [if_neg q2] at hr; exact Or.inr (Or.inr ⟨_, own_m15 _, hr.symm⟩)
        · rw [if_neg q5] at hr; exact Or.inr (Or.inr ⟨_, own_m15 _, hr.symm⟩)
    · rw [if_neg q3] at hr; exact Or.inr (Or.inr ⟨_, own_home _, hr.symm⟩)
theorem own_g2 (d x0 x1 c0 c1 : Int32) (hx : own_in x0) (hy : own_in x1) (h : own_f13t2 (d &&& (255 : Int32)) x0 x1 c0 c1 < (0 : Int32)) : ¬ own_f13t2 (d &&& (255 : Int32)) x0 x1 c0 c1 = (-2147483648 : Int32) ∧ own_in (own_y2 d x0 x1 c0 c1) := by
  unfold own_y2
  rcases own_k2 _ _ _ _ _ _ (rfl : own_f13t2 (d &&& (255 : Int32)) x0 x1 c0 c1 = _) with ⟨e0, -⟩ | ⟨e1, -⟩ | ⟨e, he, er⟩
  · rw [e0] at h; exact absurd h own_zz0
  · rw [e1] at h; exact absurd h own_zz1
  · rw [er]; exact ⟨(own_neg e he).2.1, by rw [(own_neg e he).1]; exact he⟩
theorem own_c2 (p x0 x1 c0 c1 : Int32) (h : ¬ own_f13t2 p x0 x1 c0 c1 < (0 : Int32)) (h0 : ¬ own_f13t2 p x0 x1 c0 c1 = (0 : Int32)) : own_f13t2 p x0 x1 c0 c1 = (1 : Int32) := by
  rcases own_k2 _ _ _ _ _ _ (rfl : own_f13t2 p x0 x1 c0 c1 = _) with ⟨e0, -⟩ | ⟨e1, -⟩ | ⟨e, he, er⟩
  · exact absurd e0 h0
  · exact e1
  · rw [er] at h; exact absurd (own_neg e he).2.2 h
theorem own_pd13 : parseMethodDescriptor "(ILjava/lang/String;[BII)I" = some ⟨[.int, (.object "java/lang/String"), (.array .byte), .int, .int], some .int⟩ := by decide +kernel
theorem own_sel3 (Z : State) (a0 : Array Value) (hw : ∀ d ∈ tables_1, d.before a0 Z = true) : (Jvm.Cond.selects "com/example/nestor/nestor/IdTable" (⟨"com/example/nestor/nestor/IdTable", "find", "(ILjava/lang/String;[BII)I"⟩ : MethodName) (⟨"com/example/nestor/nestor/IdTable", "find", "(ILjava/lang/String;[BII)I"⟩ : MethodName)).before a0 Z = true := by
  obtain ⟨c, k, h1, h2, -, h4, -⟩ := Cond.instantiable_spec (hw _ (List.mem_of_getElem? (i := 27) rfl))
  exact selects_self_of_private h1 h2 (Bool.or_eq_false_iff.mp h4).1 (Cond.privateMethod_at (hw _ (List.mem_of_getElem? (i := 85) rfl))) (hw _ (List.mem_of_getElem? (i := 84) rfl)) (by decide)
theorem own_sel4 (Z : State) (a0 : Array Value) (hw : ∀ d ∈ tables_1, d.before a0 Z = true) : (Jvm.Cond.selects "com/example/nestor/nestor/IdTable" (⟨"com/example/nestor/nestor/IdTable", "placeOfUnfound", "(Ljava/lang/String;I)I"⟩ : MethodName) (⟨"com/example/nestor/nestor/IdTable", "placeOfUnfound", "(Ljava/lang/String;I)I"⟩ : MethodName)).before a0 Z = true := by
  obtain ⟨c, k, h1, h2, -, h4, -⟩ := Cond.instantiable_spec (hw _ (List.mem_of_getElem? (i := 27) rfl))
  exact selects_self_of_private h1 h2 (Bool.or_eq_false_iff.mp h4).1 (Cond.privateMethod_at (hw _ (List.mem_of_getElem? (i := 99) rfl))) (hw _ (List.mem_of_getElem? (i := 98) rfl)) (by decide)
theorem own_d9_0 : decode prog_10_method_5_code 0 = .ok (.aload_n 0, 1) := by decide +kernel
theorem own_d9_1 : decode prog_10_method_5_code 1 = .ok (.aload_n 1, 1) := by decide +kernel
theorem own_d9_2 : decode prog_10_method_5_code 2 = .ok (.invokevirtual 45, 3) := by decide +kernel
theorem own_d9_5 : decode prog_10_method_5_code 5 = .ok (.aload_n 1, 1) := by decide +kernel
theorem own_d9_6 : decode prog_10_method_5_code 6 = .ok (.aconst_null, 1) := by decide +kernel
theorem own_d9_7 : decode prog_10_method_5_code 7 = .ok (.iconst 0, 1) := by decide +kernel
theorem own_d9_8 : decode prog_10_method_5_code 8 = .ok (.iconst 0, 1) := by decide +kernel
theorem own_d9_9 : decode prog_10_method_5_code 9 = .ok (.invokevirtual 49, 3) := by decide +kernel
theorem own_d9_12 : decode prog_10_method_5_code 12 = .ok (.istore_n 2, 1) := by decide +kernel
theorem own_d9_13 : decode prog_10_method_5_code 13 = .ok (.iload_n 2, 1) := by decide +kernel
theorem own_d9_14 : decode prog_10_method_5_code 14 = .ok (.ifCond .lt 7, 3) := by decide +kernel
theorem own_d9_21 : decode prog_10_method_5_code 21 = .ok (.aload_n 0, 1) := by decide +kernel
theorem own_d9_22 : decode prog_10_method_5_code 22 = .ok (.aload_n 1, 1) := by decide +kernel
theorem own_d9_23 : decode prog_10_method_5_code 23 = .ok (.iload_n 2, 1) := by decide +kernel
theorem own_d9_24 : decode prog_10_method_5_code 24 = .ok (.invokevirtual 53, 3) := by decide +kernel
theorem own_d9_27 : decode prog_10_method_5_code 27 = .ok (.ireturn, 1) := by decide +kernel
theorem own_pn9 : plainName "com/example/nestor/nestor/IdTable" = true := by first | (simp [plainName, overriddenIn]; done) | decide +kernel
theorem own_ef9t0n (m : MethodId) (x0 : Addr) (x1 : Addr) : entryFrame m #[(.ref x0), (.ref x1)] 3 = (mkF m 0 #[.val (.ref x0), .val (.ref x1), .unset] []) := by first | (simp [entryFrame, mkF, argsToLocals, Value.category]; done) | rfl
def own_Q9t0n (Z : State) (o0 : Addr) (o1 : Addr) (k_s : ClassId) (k_i : ClassId) (k_d : ClassId) (d : Int32) (z_COMPACT_STRINGS : Int32) (w_slots_o0 : Addr) (w_ids_o0 : Addr) (w_value_o1 : Addr) (w_hash_o1 : Int32) (w_hashIsZero_o1 : Int32) (h0 : Heap) (n0 : Nat) (v : Option Value) (h : Heap) (L : List Loc) : Prop := ∃ hq_o1 zq_o1 : Int32, v = some (.int (0 : Int32)) ∧ Fr n0 L ∧ Keep h0 h [o0, o1, w_slots_o0, w_ids_o0] ∧ Exa Z h o0 "com/example/nestor/nestor/IdTable" ∧ Fld Z h o0 "com/example/nestor/nestor/IdTable" "slots" "[I" (.ref w_slots_o0) ∧ Arv Z h w_slots_o0 k_s .int (16 : Int32) (own_t1 (own_y0 d)) (.int (0 : Int32)) ∧ Fld Z h o0 "com/example/nestor/nestor/IdTable" "ids" "[Ljava/lang/String;" (.ref w_ids_o0) ∧ Arv Z h w_ids_o0 k_i (.object "java/lang/String") (8 : Int32) [(.ref o1), .null, .null, .null, .null, .null, .null, .null] .null ∧ Fld Z h o0 "com/example/nestor/nestor/IdTable" "size" "I" (.int (1 : Int32)) ∧ Exa Z h o1 "java/lang/String" ∧ Fld Z h o1 "java/lang/String" "coder" "B" (.int (0 : Int32)) ∧ Fld Z h o1 "java/lang/String" "value" "[B" (.ref w_value_o1) ∧ Fld Z h o1 "java/lang/String" "hash" "I" (.int hq_o1) ∧ Fld Z h o1 "java/lang/String" "hashIsZero" "Z" (.int zq_o1) ∧ own_ok hq_o1 zq_o1 d
set_option maxRecDepth 65536 in
set_option maxHeartbeats 40000000 in
theorem own_rm9t0n (l : Launch) (Z : State) (a0 : Array Value) (hw : ∀ d ∈ tables_1, d.before a0 Z = true) (ws : List Jvm.Cond) (o0 : Addr) (o1 : Addr) (k_s : ClassId) (k_i : ClassId) (k_d : ClassId) (d : Int32) (z_COMPACT_STRINGS : Int32) (w_slots_o0 : Addr) (w_ids_o0 : Addr) (w_value_o1 : Addr) (w_hash_o1 : Int32) (w_hashIsZero_o1 : Int32) (h0 : Heap) (n0 : Nat) (Z0 : n0 ≤ h0.size) (Hov : Ovr Z k_i "java/lang/String") (HC : ¬ (z_COMPACT_STRINGS = (0 : Int32))) (Hd : own_by d) (Hko : own_ok w_hash_o1 w_hashIsZero_o1 d) (Hne_w_ids_o0_w_slots_o0 : w_ids_o0 ≠ w_slots_o0) (Hne_w_value_o1_w_slots_o0 : w_value_o1 ≠ w_slots_o0) (Hne_w_value_o1_w_ids_o0 : w_value_o1 ≠ w_ids_o0) (P_E_o0 : Exa Z h0 o0 "com/example/nestor/nestor/IdTable") (P_O_ : Old Z n0 h0) (P_B_java_lang_String_COMPACT_STRINGS : Sta Z Z.heap "java/lang/String" "COMPACT_STRINGS" "Z" (.int z_COMPACT_STRINGS)) (P_F_o0_slots : Fld Z h0 o0 "com/example/nestor/nestor/IdTable" "slots" "[I" (.ref w_slots_o0)) (P_V_w_slots_o0 : Arv Z h0 w_slots_o0 k_s .int (16 : Int32) own_s0 (.int (0 : Int32))) (P_F_o0_ids : Fld Z h0 o0 "com/example/nestor/nestor/IdTable" "ids" "[Ljava/lang/String;" (.ref w_ids_o0)) (P_V_w_ids_o0 : Arv Z h0 w_ids_o0 k_i (.object "java/lang/String") (8 : Int32) [.null, .null, .null, .null, .null, .null, .null, .null] .null) (P_F_o0_size : Fld Z h0 o0 "com/example/nestor/nestor/IdTable" "size" "I" (.int (0 : Int32))) (P_E_o1 : Exa Z h0 o1 "java/lang/String") (P_F_o1_coder : Fld Z h0 o1 "java/lang/String" "coder" "B" (.int (0 : Int32))) (P_F_o1_value : Fld Z h0 o1 "java/lang/String" "value" "[B" (.ref w_value_o1)) (P_V_w_value_o1 : Arv Z h0 w_value_o1 k_d .byte (1 : Int32) [(.int d)] (.int (0 : Int32))) (P_F_o1_hash : Fld Z h0 o1 "java/lang/String" "hash" "I" (.int w_hash_o1)) (P_F_o1_hashIsZero : Fld Z h0 o1 "java/lang/String" "hashIsZero" "Z" (.int w_hashIsZero_o1)) (G_o1 : n0 ≤ o1) (G_w_ids_o0 : n0 ≤ w_ids_o0) (G_o0 : n0 ≤ o0) (G_w_slots_o0 : n0 ≤ w_slots_o0) :
    MetFree l (⟨"com/example/nestor/nestor/IdTable", "placeOf", "(Ljava/lang/String;)I"⟩ : MethodName) (head1 (Jvm.Cond.code (⟨"com/example/nestor/nestor/IdTable", "placeOf", "(Ljava/lang/String;)I"⟩ : MethodName) prog_10_method_5_code 3 (some .int) :: ws) ({ frames := 3, cells := 0, slots := 0, locals := 49 } : Room)) (fun a U => a = #[(.ref o0), (.ref o1)] ∧ Z.Warmed39 U.vm ∧ U.heap = h0) (fun _ _ _ _ _ => True) (fun _ U o U' => ∃ v L, o = .returned v ∧ own_Q9t0n Z o0 o1 k_s k_i k_d d z_COMPACT_STRINGS w_slots_o0 w_ids_o0 w_value_o1 w_hash_o1 w_hashIsZero_o1 h0 n0 v U'.heap L ∧ FrameEnd U o U' L ({ frames := 3, cells := 0, slots := 0, locals := 49 } : Room).cells ({ frames := 3, cells := 0, slots := 0, locals := 49 } : Room).slots) := by
  refine MetFree.of_bodySF (plainFor_of_name own_pn9) hisR ?_
  intro p e s m args below meth c s₁ Bd hml0 hP hK
  obtain ⟨rfl, hZ, hh⟩ := hP
  have hx := Bd.exec
  have hlk : meth.locks = false := BodyLoose.notSynchronized Bd
  have hby := Bd.bytes
  have hml : c.maxLocals = 3 := hml0
  have hown : s.vm.findClass "com/example/nestor/nestor/IdTable" = some m.cls := findClass_of_methodNamed Bd.named
  have hnm := (name_of_methodNamed Bd.named Bd.method).1
  have X0 : Stand p l e ({ frames := 3, cells := 0, slots := 0, locals := 49 } : Room) s m #[(.ref o0), (.ref o1)] below meth c s₁ [] 0 0 := Stand.of_body Bd
  have e0 : s₁.heap = h0 := by rw [← hh, Bd.state]; rfl
  have N0 := Fr.nil n0
  have pre0 : ∀ t, Steps p.tables e below (s₁.setTop (mkF m 0 #[.val (.ref o0), .val (.ref o1), .unset] [])) t → Steps p.tables e below (s₁.setTop (entryFrame m #[(.ref o0), (.ref o1)] 3)) t := fun t k => castTop (own_ef9t0n m o0 o1) k
  have f2 : Sta Z h0 "java/lang/String" "COMPACT_STRINGS" "Z" (.int z_COMPACT_STRINGS) := P_B_java_lang_String_COMPACT_STRINGS.ext P_O_.2
  obtain ⟨cq1, kq1, q1a, q1b, q1c⟩ := isOf hZ e0 P_E_o1
  obtain ⟨_, _, ⟨T1, L1, k1, n1⟩, -, X1, ⟨Lc1, hQ1, l1, y1, z1⟩, st1⟩ := X0.virtualBack hx (y := (⟨"java/lang/String", "hashCode", "()I"⟩ : MethodName)) (z := (⟨"java/lang/String", "hashCode", "()I"⟩ : MethodName)) hown (mvT hZ (hw _ (List.mem_of_getElem? (i := 66) rfl))) (mvT hZ (hw _ (List.mem_of_getElem? (i := 67) rfl))) (notFace_of_selects (args := #[]) (mvT hZ (hw _ (List.mem_of_getElem? (i := 69) rfl)))) (mvT hZ (hw _ (List.mem_of_getElem? (i := 69) rfl))) (mvT hZ (hw _ (List.mem_of_getElem? (i := 68) rfl))) (by decide) (backOf (W := 1) (own_rm10 l Z a0 hw [] o1 w_hash_o1 w_hashIsZero_o1 z_COMPACT_STRINGS w_value_o1 k_d d h0 n0 Z0 Hko P_F_o1_hash P_F_o1_hashIsZero P_F_o1_coder f2 HC P_E_o1 P_F_o1_value P_V_w_value_o1 G_o1) hZ (hw _ (List.mem_of_getElem? (i := 70) rfl)) (hw _ (List.mem_of_getElem? (i := 2) rfl)) (by decide) (by decide)) q1a q1c (g := (mkF m 2 #[.val (.ref o0), .val (.ref o1), .unset] [(.ref o1), (.ref o0)])) rfl (by rw [hml]; rfl) (Steps.refl _) (argsL := []) (rest := [(.ref o0)]) (lenOf own_pd9 rfl) rfl (by show 2 * 0 + _ ≤ _; exact Nat.le_of_eq rfl) (hb hby own_d9_2) (fun _ _ => ⟨rfl, e0, (by decide : 0 + 0 ≤ _), (by decide : 0 + 0 ≤ _)⟩)
  dsimp only [Pt.U, Pt.locs, Pt.cells, Pt.slots] at X1 l1 y1 z1 st1 hQ1
  subst y1 z1
  obtain ⟨hq1_o0, zq1_o0, rfl, N1q, K1, f3, f4, f5, f6, f7, ok8⟩ := hQ1
  have f9 : Old Z n0 T1.heap := P_O_.keep K1 (allS G_o1 all0)
  have f10 : Exa Z T1.heap o0 "com/example/nestor/nestor/IdTable" := P_E_o0.keep K1
  have f11 : Fld Z T1.heap o0 "com/example/nestor/nestor/IdTable" "slots" "[I" (.ref w_slots_o0) := P_F_o0_slots.keep K1 (ninS (Exa.ne P_E_o0 P_E_o1 (by decide)) nin0)
  have f12 : Arv Z T1.heap w_slots_o0 k_s .int (16 : Int32) own_s0 (.int (0 : Int32)) := P_V_w_slots_o0.keep K1 (ninS (Ne.symm (Exa.neArv P_E_o1 P_V_w_slots_o0 (hw _ (List.mem_of_getElem? (i := 10) rfl)))) nin0)
  have f13 : Fld Z T1.heap o0 "com/example/nestor/nestor/IdTable" "ids" "[Ljava/lang/String;" (.ref w_ids_o0) := P_F_o0_ids.keep K1 (ninS (Exa.ne P_E_o0 P_E_o1 (by decide)) nin0)
  have f14 : Arv Z T1.heap w_ids_o0 k_i (.object "java/lang/String") (8 : Int32) [.null, .null, .null, .null, .null, .null, .null, .null] .null := P_V_w_ids_o0.keep K1 (ninS (Ne.symm (Exa.neArv P_E_o1 P_V_w_ids_o0 (hw _ (List.mem_of_getElem? (i := 10) rfl)))) nin0)
  have f15 : Fld Z T1.heap o0 "com/example/nestor/nestor/IdTable" "size" "I" (.int (0 : Int32)) := P_F_o0_size.keep K1 (ninS (Exa.ne P_E_o0 P_E_o1 (by decide)) nin0)
  have f16 : Arv Z T1.heap w_value_o1 k_d .byte (1 : Int32) [(.int d)] (.int (0 : Int32)) := P_V_w_value_o1.keep K1 (ninS (Ne.symm (Exa.neArv P_E_o1 P_V_w_value_o1 (hw _ (List.mem_of_getElem? (i := 10) rfl)))) nin0)
  have zs17 : n0 ≤ T1.heap.size := Nat.le_trans Z0 K1.1
  have K18 : Keep h0 h0 [o0, o1, w_slots_o0, w_ids_o0] := Keep.refl h0 [o0, o1, w_slots_o0, w_ids_o0]
  have K19 : Keep h0 T1.heap [o0, o1, w_slots_o0, w_ids_o0] := K18.trans K1 (allS (Or.inl (by simp)) all0)
  have N20 : Fr n0 L1 := by rw [l1]; exact Fr.app N0 N1q
  obtain ⟨cq21, q21, q21'⟩ := f10.cell
  obtain ⟨_, _, ⟨T21, L21, k21, n21⟩, -, X21, ⟨Lc21, hQ21, l21, y21, z21⟩, st21⟩ := X1.privateBack hx (y := (⟨"com/example/nestor/nestor/IdTable", "find", "(ILjava/lang/String;[BII)I"⟩ : MethodName)) hown (mvT hZ (hw _ (List.mem_of_getElem? (i := 83) rfl))) (mvT hZ (hw _ (List.mem_of_getElem? (i := 84) rfl))) (mvT hZ (own_sel3 Z a0 hw)) (Cond.privateMethod_at (mvP hZ (hw _ (List.mem_of_getElem? (i := 85) rfl)) (args := #[]))) (mvT hZ (hw _ (List.mem_of_getElem? (i := 86) rfl))) (by decide) (backOf (W := 0) (own_rm13t0 l Z a0 hw [] o0 (d &&& (255 : Int32)) o1 k_s k_i k_d d z_COMPACT_STRINGS w_slots_o0 w_ids_o0 w_value_o1 T1.heap n0 zs17 Hov HC Hd rfl f10 f9 P_B_java_lang_String_COMPACT_STRINGS f11 f12 f13 f14 f4 f3 f5 f16) hZ (hw _ (List.mem_of_getElem? (i := 86) rfl)) (hw _ (List.mem_of_getElem? (i := 28) rfl)) (by decide) (by decide)) (g := (mkF m 9 #[.val (.ref o0), .val (.ref o1), .unset] [(.int (0 : Int32)), (.int (0 : Int32)), .null, (.ref o1), (.int (d &&& (255 : Int32))), (.ref o0)])) rfl (by rw [hml]; rfl) (Steps.refl _) (a := o0) q21 q21' (argsL := [(.int (d &&& (255 : Int32))), (.ref o1), .null, (.int (0 : Int32)), (.int (0 : Int32))]) (rest := []) (lenOf own_pd13 rfl) rfl (by show 2 * 0 + _ ≤ _; exact Nat.le_of_eq rfl) (hb hby own_d9_9) (fun _ _ => ⟨rfl, rfl, (by decide : 0 + 0 ≤ _), (by decide : 0 + 0 ≤ _)⟩)
  dsimp only [Pt.U, Pt.locs, Pt.cells, Pt.slots] at X21 l21 y21 z21 st21 hQ21
  subst y21 z21
  obtain ⟨rfl, N21q, e21⟩ := hQ21
  have N22 : Fr n0 L21 := by rw [l21]; exact Fr.app N20 N21q
  obtain ⟨cq23, q23, q23'⟩ := f10.cell
  obtain ⟨_, _, ⟨T23, L23, k23, n23⟩, -, X23, ⟨Lc23, hQ23, l23, y23, z23⟩, st23⟩ := X21.privateBack hx (y := (⟨"com/example/nestor/nestor/IdTable", "placeOfUnfound", "(Ljava/lang/String;I)I"⟩ : MethodName)) hown (mvT hZ (hw _ (List.mem_of_getElem? (i := 97) rfl))) (mvT hZ (hw _ (List.mem_of_getElem? (i := 98) rfl))) (mvT hZ (own_sel4 Z a0 hw)) (Cond.privateMethod_at (mvP hZ (hw _ (List.mem_of_getElem? (i := 99) rfl)) (args := #[]))) (mvT hZ (hw _ (List.mem_of_getElem? (i := 100) rfl))) (by decide) (backOf (W := 0) (own_rm16t0 l Z a0 hw [] o0 o1 (own_f13t0 (d &&& (255 : Int32))) w_ids_o0 w_slots_o0 k_i k_s own_s0 T1.heap n0 zs17 (own_g0 d).1 Hne_w_ids_o0_w_slots_o0 f10 f4 f15 f13 f11 f14 f12 Hov G_w_ids_o0 G_o0 (own_y0i d) own_l0 G_w_slots_o0) hZ (hw _ (List.mem_of_getElem? (i := 100) rfl)) (hw _ (List.mem_of_getElem? (i := 28) rfl)) (by decide) (by decide)) (g := (mkF m 24 #[.val (.ref o0), .val (.ref o1), .val (.int (own_f13t0 (d &&& (255 : Int32))))] [(.int (own_f13t0 (d &&& (255 : Int32)))), (.ref o1), (.ref o0)])) rfl (by rw [hml]; rfl) (Steps.refl _) (a := o0) (by rw [e21]; exact q23) q23' (argsL := [(.ref o1), (.int (own_f13t0 (d &&& (255 : Int32))))]) (rest := []) (lenOf own_pd12 rfl) rfl (by show 2 * 0 + _ ≤ _; exact Nat.le_of_eq rfl) (hb hby own_d9_24) (fun _ _ => ⟨rfl, e21, (by decide : 0 + 0 ≤ _), (by decide : 0 + 0 ≤ _)⟩)
  dsimp only [Pt.U, Pt.locs, Pt.cells, Pt.slots] at X23 l23 y23 z23 st23 hQ23
  subst y23 z23
  obtain ⟨rfl, N23q, K23, f24, f25, f26, f27, f28, f29⟩ := hQ23
  have f30 : Old Z n0 T23.heap := f9.keep K23 (allS G_o0 (allS G_w_ids_o0 (allS G_w_slots_o0 all0)))
  have f31 : Exa Z T23.heap o1 "java/lang/String" := f4.keep K23
  have f32 : Fld Z T23.heap o1 "java/lang/String" "coder" "B" (.int (0 : Int32)) := f3.keep K23 (ninS (Exa.ne f4 f10 (by decide)) (ninS (Exa.neArv f4 f14 (hw _ (List.mem_of_getElem? (i := 10) rfl))) (ninS (Exa.neArv f4 f12 (hw _ (List.mem_of_getElem? (i := 10) rfl))) nin0)))
  have f33 : Fld Z T23.heap o1 "java/lang/String" "value" "[B" (.ref w_value_o1) := f5.keep K23 (ninS (Exa.ne f4 f10 (by decide)) (ninS (Exa.neArv f4 f14 (hw _ (List.mem_of_getElem? (i := 10) rfl))) (ninS (Exa.neArv f4 f12 (hw _ (List.mem_of_getElem? (i := 10) rfl))) nin0)))
  have f34 : Arv Z T23.heap w_value_o1 k_d .byte (1 : Int32) [(.int d)] (.int (0 : Int32)) := f16.keep K23 (ninS (Ne.symm (Exa.neArv f10 f16 (hw _ (List.mem_of_getElem? (i := 27) rfl)))) (ninS Hne_w_value_o1_w_ids_o0 (ninS Hne_w_value_o1_w_slots_o0 nin0)))
  have f35 : Fld Z T23.heap o1 "java/lang/String" "hash" "I" (.int hq1_o0) := f6.keep K23 (ninS (Exa.ne f4 f10 (by decide)) (ninS (Exa.neArv f4 f14 (hw _ (List.mem_of_getElem? (i := 10) rfl))) (ninS (Exa.neArv f4 f12 (hw _ (List.mem_of_getElem? (i := 10) rfl))) nin0)))
  have f36 : Fld Z T23.heap o1 "java/lang/String" "hashIsZero" "Z" (.int zq1_o0) := f7.keep K23 (ninS (Exa.ne f4 f10 (by decide)) (ninS (Exa.neArv f4 f14 (hw _ (List.mem_of_getElem? (i := 10) rfl))) (ninS (Exa.neArv f4 f12 (hw _ (List.mem_of_getElem? (i := 10) rfl))) nin0)))
  have zs37 : n0 ≤ T23.heap.size := Nat.le_trans zs17 K23.1
  have K38 : Keep h0 T23.heap [o0, o1, w_slots_o0, w_ids_o0] := K19.trans K23 (allS (Or.inl (by simp)) (allS (Or.inl (by simp)) (allS (Or.inl (by simp)) all0)))
  have N39 : Fr n0 L23 := by rw [l23]; exact Fr.app N22 N23q
  have pre40 : ∀ t, Steps p.tables e below (T23.setTop (mkF m 27 #[.val (.ref o0), .val (.ref o1), .val (.int (own_f13t0 (d &&& (255 : Int32))))] [(.int (0 : Int32))])) t → Steps p.tables e below (s₁.setTop (entryFrame m #[(.ref o0), (.ref o1)] 3)) t := fun t k => pre0 t (by
      refine XS.aloadN X0.here hx rfl (hb hby own_d9_0) rfl rfl ?_
      show Steps p.tables e below (s₁.setTop (mkF m 1 #[.val (.ref o0), .val (.ref o1), .unset] [(.ref o0)])) _
      refine XS.aloadN X0.here hx rfl (hb hby own_d9_1) rfl rfl ?_
      refine st1.trans ?_
      show Steps p.tables e below (T1.setTop (mkF m 5 #[.val (.ref o0), .val (.ref o1), .unset] [(.int (d &&& (255 : Int32))), (.ref o0)])) _
      refine XS.aloadN X1.here hx rfl (hb hby own_d9_5) rfl rfl ?_
      refine XS.aconstNull X1.here hx rfl (hb hby own_d9_6) ?_
      refine XS.iconst X1.here hx rfl (hb hby own_d9_7) ?_
      refine XS.iconst X1.here hx rfl (hb hby own_d9_8) ?_
      show Steps p.tables e below (T1.setTop (mkF m 9 #[.val (.ref o0), .val (.ref o1), .unset] [(.int (0 : Int32)), (.int (0 : Int32)), .null, (.ref o1), (.int (d &&& (255 : Int32))), (.ref o0)])) _
      refine st21.trans ?_
      show Steps p.tables e below (T21.setTop (mkF m 12 #[.val (.ref o0), .val (.ref o1), .unset] [(.int (own_f13t0 (d &&& (255 : Int32))))])) _
      refine XS.istoreN X21.here hx rfl (hb hby own_d9_12) rfl (l' := #[.val (.ref o0), .val (.ref o1), .val (.int (own_f13t0 (d &&& (255 : Int32))))]) rfl ?_
      refine XS.iloadN X21.here hx rfl (hb hby own_d9_13) rfl ?_
      refine XS.ifYes X21.here hx rfl (pc0 := 14) (pc' := 21) rfl (hb hby own_d9_14) rfl ((if0 _ _).trans (tlt (own_g0 d).2).1) (by decide) (by decide) ?_
      refine XS.aloadN X21.here hx rfl (hb hby own_d9_21) rfl rfl ?_
      show Steps p.tables e below (T21.setTop (mkF m 22 #[.val (.ref o0), .val (.ref o1), .val (.int (own_f13t0 (d &&& (255 : Int32))))] [(.ref o0)])) _
      refine XS.aloadN X21.here hx rfl (hb hby own_d9_22) rfl rfl ?_
      refine XS.iloadN X21.here hx rfl (hb hby own_d9_23) rfl ?_
      refine st23.trans ?_
      show Steps p.tables e below (T23.setTop (mkF m 27 #[.val (.ref o0), .val (.ref o1), .val (.int (own_f13t0 (d &&& (255 : Int32))))] [(.int (0 : Int32))])) _
      exact k)
  obtain ⟨fs, hr, hrun, hended, hW, hsame⟩ := X23.leave (v := some (.int (0 : Int32))) (fun h => by rw [Bd.returns] at h; cases h) (hlocks := hlk)
  refine ⟨_, _, pre40 _ ?_, hrun, hended, _, _, rfl, ?_, ⟨_, rfl⟩, hW, hsame.mono (by decide) (by decide)⟩
  · show Steps p.tables e below (T23.setTop (mkF m 27 #[.val (.ref o0), .val (.ref o1), .val (.int (own_f13t0 (d &&& (255 : Int32))))] [(.int (0 : Int32))])) _
    exact retI X23 hx Bd.returns (hb hby own_d9_27) hr
  · show own_Q9t0n Z o0 o1 k_s k_i k_d d z_COMPACT_STRINGS w_slots_o0 w_ids_o0 w_value_o1 w_hash_o1 w_hashIsZero_o1 h0 n0 _ T23.heap _; exact ⟨hq1_o0, zq1_o0, rfl, N39, K38, f24, f27, f29, f26, f28, f25, f31, f32, f33, f35, f36, ok8⟩
theorem own_ef9t1n (m : MethodId) (x0 : Addr) (x1 : Addr) : entryFrame m #[(.ref x0), (.ref x1)] 3 = (mkF m 0 #[.val (.ref x0), .val (.ref x1), .unset] []) := by first | (simp [entryFrame, mkF, argsToLocals, Value.category]; done) | rfl
def own_Q9t1n (Z : State) (o0 : Addr) (o1 : Addr) (x0 : Int32) (k_s : ClassId) (k_i : ClassId) (k_d : ClassId) (d : Int32) (i0 : Addr) (k_c0 : ClassId) (c0 : Int32) (z_COMPACT_STRINGS : Int32) (w_slots_o0 : Addr) (w_ids_o0 : Addr) (w_value_o1 : Addr) (w_hash_i0 : Int32) (w_hashIsZero_i0 : Int32) (w_value_i0 : Addr) (w_hash_o1 : Int32) (w_hashIsZero_o1 : Int32) (h0 : Heap) (n0 : Nat) (v : Option Value) (h : Heap) (L : List Loc) : Prop := ∃ hq_o1 zq_o1 : Int32, ∃ hq_i0 zq_i0 : Int32, v = some (.int (1 : Int32)) ∧ Fr n0 L ∧ Keep h0 h [o0, o1, i0, w_slots_o0, w_ids_o0] ∧ Exa Z h o0 "com/example/nestor/nestor/IdTable" ∧ Fld Z h o0 "com/example/nestor/nestor/IdTable" "slots" "[I" (.ref w_slots_o0) ∧ Arv Z h w_slots_o0 k_s .int (16 : Int32) (own_t2 x0 (own_y1 d x0 c0)) (.int (0 : Int32)) ∧ Fld Z h o0 "com/example/nestor/nestor/IdTable" "ids" "[Ljava/lang/String;" (.ref w_ids_o0) ∧ Arv Z h w_ids_o0 k_i (.object "java/lang/String") (8 : Int32) [(.ref i0), (.ref o1), .null, .null, .null, .null, .null, .null] .null ∧ Fld Z h o0 "com/example/nestor/nestor/IdTable" "size" "I" (.int (2 : Int32)) ∧ Exa Z h o1 "java/lang/String" ∧ Fld Z h o1 "java/lang/String" "coder" "B" (.int (0 : Int32)) ∧ Fld Z h o1 "java/lang/String" "value" "[B" (.ref w_value_o1) ∧ Exa Z h i0 "java/lang/String" ∧ Fld Z h i0 "java/lang/String" "coder" "B" (.int (0 : Int32)) ∧ Fld Z h i0 "java/lang/String" "value" "[B" (.ref w_value_i0) ∧ Fld Z h o1 "java/lang/String" "hash" "I" (.int hq_o1) ∧ Fld Z h o1 "java/lang/String" "hashIsZero" "Z" (.int zq_o1) ∧ own_ok hq_o1 zq_o1 d ∧ Fld Z h i0 "java/lang/String" "hash" "I" (.int hq_i0) ∧ Fld Z h i0 "java/lang/String" "hashIsZero" "Z" (.int zq_i0) ∧ own_ok hq_i0 zq_i0 c0
set_option maxRecDepth 65536 in
set_option maxHeartbeats 40000000 in
theorem own_rm9t1n (l : Launch) (Z : State) (a0 : Array Value) (hw : ∀ d ∈ tables_1, d.before a0 Z = true) (ws : List Jvm.Cond) (o0 : Addr) (o1 : Addr) (x0 : Int32) (k_s : ClassId) (k_i : ClassId) (k_d : ClassId) (d : Int32) (i0 : Addr) (k_c0 : ClassId) (c0 : Int32) (z_COMPACT_STRINGS : Int32) (w_slots_o0 : Addr) (w_ids_o0 : Addr) (w_value_o1 : Addr) (w_hash_i0 : Int32) (w_hashIsZero_i0 : Int32) (w_value_i0 : Addr) (w_hash_o1 : Int32) (w_hashIsZero_o1 : Int32) (h0 : Heap) (n0 : Nat) (Z0 : n0 ≤ h0.size) (Hov : Ovr Z k_i "java/lang/String") (HC : ¬ (z_COMPACT_STRINGS = (0 : Int32))) (Hx0 : own_in x0) (Ho0 : o1 ≠ i0) (Hd : own_by d) (Hb0 : own_by c0) (Hk0 : own_ok w_hash_i0 w_hashIsZero_i0 c0) (Hko : own_ok w_hash_o1 w_hashIsZero_o1 d) (Hf : own_f13t1 (d &&& (255 : Int32)) x0 c0 < (0 : Int32)) (Hne_w_ids_o0_w_slots_o0 : w_ids_o0 ≠ w_slots_o0) (Hne_w_value_o1_w_slots_o0 : w_value_o1 ≠ w_slots_o0) (Hne_w_value_o1_w_ids_o0 : w_value_o1 ≠ w_ids_o0) (Hne_w_value_i0_w_slots_o0 : w_value_i0 ≠ w_slots_o0) (Hne_w_value_i0_w_ids_o0 : w_value_i0 ≠ w_ids_o0) (P_E_o0 : Exa Z h0 o0 "com/example/nestor/nestor/IdTable") (P_O_ : Old Z n0 h0) (P_B_java_lang_String_COMPACT_STRINGS : Sta Z Z.heap "java/lang/String" "COMPACT_STRINGS" "Z" (.int z_COMPACT_STRINGS)) (P_F_o0_slots : Fld Z h0 o0 "com/example/nestor/nestor/IdTable" "slots" "[I" (.ref w_slots_o0)) (P_V_w_slots_o0 : Arv Z h0 w_slots_o0 k_s .int (16 : Int32) (own_t1 x0) (.int (0 : Int32))) (P_F_o0_ids : Fld Z h0 o0 "com/example/nestor/nestor/IdTable" "ids" "[Ljava/lang/String;" (.ref w_ids_o0)) (P_V_w_ids_o0 : Arv Z h0 w_ids_o0 k_i (.object "java/lang/String") (8 : Int32) [(.ref i0), .null, .null, .null, .null, .null, .null, .null] .null) (P_F_o0_size : Fld Z h0 o0 "com/example/nestor/nestor/IdTable" "size" "I" (.int (1 : Int32))) (P_E_o1 : Exa Z h0 o1 "java/lang/String") (P_F_o1_coder : Fld Z h0 o1 "java/lang/String" "coder" "B" (.int (0 : Int32))) (P_F_o1_value : Fld Z h0 o1 "java/lang/String" "value" "[B" (.ref w_value_o1)) (P_V_w_value_o1 : Arv Z h0 w_value_o1 k_d .byte (1 : Int32) [(.int d)] (.int (0 : Int32))) (P_E_i0 : Exa Z h0 i0 "java/lang/String") (P_F_i0_hash : Fld Z h0 i0 "java/lang/String" "hash" "I" (.int w_hash_i0)) (P_F_i0_hashIsZero : Fld Z h0 i0 "java/lang/String" "hashIsZero" "Z" (.int w_hashIsZero_i0)) (P_F_i0_coder : Fld Z h0 i0 "java/lang/String" "coder" "B" (.int (0 : Int32))) (P_F_i0_value : Fld Z h0 i0 "java/lang/String" "value" "[B" (.ref w_value_i0)) (P_V_w_value_i0 : Arv Z h0 w_value_i0 k_c0 .byte (1 : Int32) [(.int c0)] (.int (0 : Int32))) (P_F_o1_hash : Fld Z h0 o1 "java/lang/String" "hash" "I" (.int w_hash_o1)) (P_F_o1_hashIsZero : Fld Z h0 o1 "java/lang/String" "hashIsZero" "Z" (.int w_hashIsZero_o1)) (G_o1 : n0 ≤ o1) (G_i0 : n0 ≤ i0) (G_w_ids_o0 : n0 ≤ w_ids_o0) (G_o0 : n0 ≤ o0) (G_w_slots_o0 : n0 ≤ w_slots_o0) :
    MetFree l (⟨"com/example/nestor/nestor/IdTable", "placeOf", "(Ljava/lang/String;)I"⟩ : MethodName) (head1 (Jvm.Cond.code (⟨"com/example/nestor/nestor/IdTable", "placeOf", "(Ljava/lang/String;)I"⟩ : MethodName) prog_10_method_5_code 3 (some .int) :: ws) ({ frames := 3, cells := 0, slots := 0, locals := 49 } : Room)) (fun a U => a = #[(.ref o0), (.ref o1)] ∧ Z.Warmed39 U.vm ∧ U.heap = h0) (fun _ _ _ _ _ => True) (fun _ U o U' => ∃ v L, o = .returned v ∧ own_Q9t1n Z o0 o1 x0 k_s k_i k_d d i0 k_c0 c0 z_COMPACT_STRINGS w_slots_o0 w_ids_o0 w_value_o1 w_hash_i0 w_hashIsZero_i0 w_value_i0 w_hash_o1 w_hashIsZero_o1 h0 n0 v U'.heap L ∧ FrameEnd U o U' L ({ frames := 3, cells := 0, slots := 0, locals := 49 } : Room).cells ({ frames := 3, cells := 0, slots := 0, locals := 49 } : Room).slots) := by
  refine MetFree.of_bodySF (plainFor_of_name own_pn9) hisR ?_
  intro p e s m args below meth c s₁ Bd hml0 hP hK
  obtain ⟨rfl, hZ, hh⟩ := hP
  have hx := Bd.exec
  have hlk : meth.locks = false := BodyLoose.notSynchronized Bd
  have hby := Bd.bytes
  have hml : c.maxLocals = 3 := hml0
  have hown : s.vm.findClass "com/example/nestor/nestor/IdTable" = some m.cls := findClass_of_methodNamed Bd.named
  have hnm := (name_of_methodNamed Bd.named Bd.method).1
  have X0 : Stand p l e ({ frames := 3, cells := 0, slots := 0, locals := 49 } : Room) s m #[(.ref o0), (.ref o1)] below meth c s₁ [] 0 0 := Stand.of_body Bd
  have e0 : s₁.heap = h0 := by rw [← hh, Bd.state]; rfl
  have N0 := Fr.nil n0
  have pre0 : ∀ t, Steps p.tables e below (s₁.setTop (mkF m 0 #[.val (.ref o0), .val (.ref o1), .unset] [])) t → Steps p.tables e below (s₁.setTop (entryFrame m #[(.ref o0), (.ref o1)] 3)) t := fun t k => castTop (own_ef9t1n m o0 o1) k
  have f2 : Sta Z h0 "java/lang/String" "COMPACT_STRINGS" "Z" (.int z_COMPACT_STRINGS) := P_B_java_lang_String_COMPACT_STRINGS.ext P_O_.2
  obtain ⟨cq1, kq1, q1a, q1b, q1c⟩ := isOf hZ e0 P_E_o1
  obtain ⟨_, _, ⟨T1, L1, k1, n1⟩, -, X1, ⟨Lc1, hQ1, l1, y1, z1⟩, st1⟩ := X0.virtualBack hx (y := (⟨"java/lang/String", "hashCode", "()I"⟩ : MethodName)) (z := (⟨"java/lang/String", "hashCode", "()I"⟩ : MethodName)) hown (mvT hZ (hw _ (List.mem_of_getElem? (i := 66) rfl))) (mvT hZ (hw _ (List.mem_of_getElem? (i := 67) rfl))) (notFace_of_selects (args := #[]) (mvT hZ (hw _ (List.mem_of_getElem? (i := 69) rfl)))) (mvT hZ (hw _ (List.mem_of_getElem? (i := 69) rfl))) (mvT hZ (hw _ (List.mem_of_getElem? (i := 68) rfl))) (by decide) (backOf (W := 1) (own_rm10 l Z a0 hw [] o1 w_hash_o1 w_hashIsZero_o1 z_COMPACT_STRINGS w_value_o1 k_d d h0 n0 Z0 Hko P_F_o1_hash P_F_o1_hashIsZero P_F_o1_coder f2 HC P_E_o1 P_F_o1_value P_V_w_value_o1 G_o1) hZ (hw _ (List.mem_of_getElem? (i := 70) rfl)) (hw _ (List.mem_of_getElem? (i := 2) rfl)) (by decide) (by decide)) q1a q1c (g := (mkF m 2 #[.val (.ref o0), .val (.ref o1), .unset] [(.ref o1), (.ref o0)])) rfl (by rw [hml]; rfl) (Steps.refl _) (argsL := []) (rest := [(.ref o0)]) (lenOf own_pd9 rfl) rfl (by show 2 * 0 + _ ≤ _; exact Nat.le_of_eq rfl) (hb hby own_d9_2) (fun _ _ => ⟨rfl, e0, (by decide : 0 + 0 ≤ _), (by decide : 0 + 0 ≤ _)⟩)
  dsimp only [Pt.U, Pt.locs, Pt.cells, Pt.slots] at X1 l1 y1 z1 st1 hQ1
  subst y1 z1
  obtain ⟨hq1_o0, zq1_o0, rfl, N1q, K1, f3, f4, f5, f6, f7, ok8⟩ := hQ1
  have f9 : Old Z n0 T1.heap := P_O_.keep K1 (allS G_o1 all0)
  have f10 : Exa Z T1.heap o0 "com/example/nestor/nestor/IdTable" := P_E_o0.keep K1
  have f11 : Fld Z T1.heap o0 "com/example/nestor/nestor/IdTable" "slots" "[I" (.ref w_slots_o0) := P_F_o0_slots.keep K1 (ninS (Exa.ne P_E_o0 P_E_o1 (by decide)) nin0)
  have f12 : Arv Z T1.heap w_slots_o0 k_s .int (16 : Int32) (own_t1 x0) (.int (0 : Int32)) := P_V_w_slots_o0.keep K1 (ninS (Ne.symm (Exa.neArv P_E_o1 P_V_w_slots_o0 (hw _ (List.mem_of_getElem? (i := 10) rfl)))) nin0)
  have f13 : Fld Z T1.heap o0 "com/example/nestor/nestor/IdTable" "ids" "[Ljava/lang/String;" (.ref w_ids_o0) := P_F_o0_ids.keep K1 (ninS (Exa.ne P_E_o0 P_E_o1 (by decide)) nin0)
  have f14 : Arv Z T1.heap w_ids_o0 k_i (.object "java/lang/String") (8 : Int32) [(.ref i0), .null, .null, .null, .null, .null, .null, .null] .null := P_V_w_ids_o0.keep K1 (ninS (Ne.symm (Exa.neArv P_E_o1 P_V_w_ids_o0 (hw _ (List.mem_of_getElem? (i := 10) rfl)))) nin0)
  have f15 : Fld Z T1.heap o0 "com/example/nestor/nestor/IdTable" "size" "I" (.int (1 : Int32)) := P_F_o0_size.keep K1 (ninS (Exa.ne P_E_o0 P_E_o1 (by decide)) nin0)
  have f16 : Arv Z T1.heap w_value_o1 k_d .byte (1 : Int32) [(.int d)] (.int (0 : Int32)) := P_V_w_value_o1.keep K1 (ninS (Ne.symm (Exa.neArv P_E_o1 P_V_w_value_o1 (hw _ (List.mem_of_getElem? (i := 10) rfl)))) nin0)
  have f17 : Exa Z T1.heap i0 "java/lang/String" := P_E_i0.keep K1
  have f18 : Fld Z T1.heap i0 "java/lang/String" "hash" "I" (.int w_hash_i0) := P_F_i0_hash.keep K1 (ninS (Ne.symm Ho0) nin0)
  have f19 : Fld Z T1.heap i0 "java/lang/String" "hashIsZero" "Z" (.int w_hashIsZero_i0) := P_F_i0_hashIsZero.keep K1 (ninS (Ne.symm Ho0) nin0)
  have f20 : Fld Z T1.heap i0 "java/lang/String" "coder" "B" (.int (0 : Int32)) := P_F_i0_coder.keep K1 (ninS (Ne.symm Ho0) nin0)
  have f21 : Fld Z T1.heap i0 "java/lang/String" "value" "[B" (.ref w_value_i0) := P_F_i0_value.keep K1 (ninS (Ne.symm Ho0) nin0)
  have f22 : Arv Z T1.heap w_value_i0 k_c0 .byte (1 : Int32) [(.int c0)] (.int (0 : Int32)) := P_V_w_value_i0.keep K1 (ninS (Ne.symm (Exa.neArv P_E_o1 P_V_w_value_i0 (hw _ (List.mem_of_getElem? (i := 10) rfl)))) nin0)
  have zs23 : n0 ≤ T1.heap.size := Nat.le_trans Z0 K1.1
  have K24 : Keep h0 h0 [o0, o1, i0, w_slots_o0, w_ids_o0] := Keep.refl h0 [o0, o1, i0, w_slots_o0, w_ids_o0]
  have K25 : Keep h0 T1.heap [o0, o1, i0, w_slots_o0, w_ids_o0] := K24.trans K1 (allS (Or.inl (by simp)) all0)
  have N26 : Fr n0 L1 := by rw [l1]; exact Fr.app N0 N1q
  obtain ⟨cq27, q27, q27'⟩ := f10.cell
  obtain ⟨_, _, ⟨T27, L27, k27, n27⟩, -, X27, ⟨Lc27, hQ27, l27, y27, z27⟩, st27⟩ := X1.privateBack hx (y := (⟨"com/example/nestor/nestor/IdTable", "find", "(ILjava/lang/String;[BII)I"⟩ : MethodName)) hown (mvT hZ (hw _ (List.mem_of_getElem? (i := 83) rfl))) (mvT hZ (hw _ (List.mem_of_getElem? (i := 84) rfl))) (mvT hZ (own_sel3 Z a0 hw)) (Cond.privateMethod_at (mvP hZ (hw _ (List.mem_of_getElem? (i := 85) rfl)) (args := #[]))) (mvT hZ (hw _ (List.mem_of_getElem? (i := 86) rfl))) (by decide) (backOf (W := 0) (own_rm13t1 l Z a0 hw [] o0 (d &&& (255 : Int32)) o1 x0 k_s k_i k_d d i0 k_c0 c0 z_COMPACT_STRINGS w_slots_o0 w_ids_o0 w_value_o1 w_hash_i0 w_hashIsZero_i0 w_value_i0 T1.heap n0 zs23 Hov HC Hx0 Ho0 Hd Hb0 Hk0 rfl f10 f9 P_B_java_lang_String_COMPACT_STRINGS f11 f12 f13 f14 f4 f3 f5 f16 f17 f18 f19 f20 f21 f22 G_i0) hZ (hw _ (List.mem_of_getElem? (i := 86) rfl)) (hw _ (List.mem_of_getElem? (i := 28) rfl)) (by decide) (by decide)) (g := (mkF m 9 #[.val (.ref o0), .val (.ref o1), .unset] [(.int (0 : Int32)), (.int (0 : Int32)), .null, (.ref o1), (.int (d &&& (255 : Int32))), (.ref o0)])) rfl (by rw [hml]; rfl) (Steps.refl _) (a := o0) q27 q27' (argsL := [(.int (d &&& (255 : Int32))), (.ref o1), .null, (.int (0 : Int32)), (.int (0 : Int32))]) (rest := []) (lenOf own_pd13 rfl) rfl (by show 2 * 0 + _ ≤ _; exact Nat.le_of_eq rfl) (hb hby own_d9_9) (fun _ _ => ⟨rfl, rfl, (by decide : 0 + 0 ≤ _), (by decide : 0 + 0 ≤ _)⟩)
  dsimp only [Pt.U, Pt.locs, Pt.cells, Pt.slots] at X27 l27 y27 z27 st27 hQ27
  subst y27 z27
  obtain ⟨hq27_i0, zq27_i0, rfl, N27q, K27, f28, f29, f30, f31, f32, ok33⟩ := hQ27
  have f34 : Old Z n0 T27.heap := f9.keep K27 (allS G_i0 all0)
  have f35 : Exa Z T27.heap o0 "com/example/nestor/nestor/IdTable" := f10.keep K27
  have f36 : Fld Z T27.heap o0 "com/example/nestor/nestor/IdTable" "slots" "[I" (.ref w_slots_o0) := f11.keep K27 (ninS (Exa.ne f10 f17 (by decide)) nin0)
  have f37 : Arv Z T27.heap w_slots_o0 k_s .int (16 : Int32) (own_t1 x0) (.int (0 : Int32)) := f12.keep K27 (ninS (Ne.symm (Exa.neArv f17 f12 (hw _ (List.mem_of_getElem? (i := 10) rfl)))) nin0)
  have f38 : Fld Z T27.heap o0 "com/example/nestor/nestor/IdTable" "ids" "[Ljava/lang/String;" (.ref w_ids_o0) := f13.keep K27 (ninS (Exa.ne f10 f17 (by decide)) nin0)
  have f39 : Arv Z T27.heap w_ids_o0 k_i (.object "java/lang/String") (8 : Int32) [(.ref i0), .null, .null, .null, .null, .null, .null, .null] .null := f14.keep K27 (ninS (Ne.symm (Exa.neArv f17 f14 (hw _ (List.mem_of_getElem? (i := 10) rfl)))) nin0)
  have f40 : Fld Z T27.heap o0 "com/example/nestor/nestor/IdTable" "size" "I" (.int (1 : Int32)) := f15.keep K27 (ninS (Exa.ne f10 f17 (by decide)) nin0)
  have f41 : Exa Z T27.heap o1 "java/lang/String" := f4.keep K27
  have f42 : Fld Z T27.heap o1 "java/lang/String" "coder" "B" (.int (0 : Int32)) := f3.keep K27 (ninS Ho0 nin0)
  have f43 : Fld Z T27.heap o1 "java/lang/String" "value" "[B" (.ref w_value_o1) := f5.keep K27 (ninS Ho0 nin0)
  have f44 : Arv Z T27.heap w_value_o1 k_d .byte (1 : Int32) [(.int d)] (.int (0 : Int32)) := f16.keep K27 (ninS (Ne.symm (Exa.neArv f17 f16 (hw _ (List.mem_of_getElem? (i := 10) rfl)))) nin0)
  have f45 : Arv Z T27.heap w_value_i0 k_c0 .byte (1 : Int32) [(.int c0)] (.int (0 : Int32)) := f22.keep K27 (ninS (Ne.symm (Exa.neArv f17 f22 (hw _ (List.mem_of_getElem? (i := 10) rfl)))) nin0)
  have f46 : Fld Z T27.heap o1 "java/lang/String" "hash" "I" (.int hq1_o0) := f6.keep K27 (ninS Ho0 nin0)
  have f47 : Fld Z T27.heap o1 "java/lang/String" "hashIsZero" "Z" (.int zq1_o0) := f7.keep K27 (ninS Ho0 nin0)
  have zs48 : n0 ≤ T27.heap.size := Nat.le_trans zs23 K27.1
  have K49 : Keep h0 T27.heap [o0, o1, i0, w_slots_o0, w_ids_o0] := K25.trans K27 (allS (Or.inl (by simp)) all0)
  have N50 : Fr n0 L27 := by rw [l27]; exact Fr.app N26 N27q
  obtain ⟨cq51, q51, q51'⟩ := f35.cell
  obtain ⟨_, _, ⟨T51, L51, k51, n51⟩, -, X51, ⟨Lc51, hQ51, l51, y51, z51⟩, st51⟩ := X27.privateBack hx (y := (⟨"com/example/nestor/nestor/IdTable", "placeOfUnfound", "(Ljava/lang/String;I)I"⟩ : MethodName)) hown (mvT hZ (hw _ (List.mem_of_getElem? (i := 97) rfl))) (mvT hZ (hw _ (List.mem_of_getElem? (i := 98) rfl))) (mvT hZ (own_sel4 Z a0 hw)) (Cond.privateMethod_at (mvP hZ (hw _ (List.mem_of_getElem? (i := 99) rfl)) (args := #[]))) (mvT hZ (hw _ (List.mem_of_getElem? (i := 100) rfl))) (by decide) (backOf (W := 0) (own_rm16t1 l Z a0 hw [] o0 o1 (own_f13t1 (d &&& (255 : Int32)) x0 c0) w_ids_o0 w_slots_o0 k_i i0 k_s (own_t1 x0) T27.heap n0 zs48 (own_g1 d x0 c0 Hx0 Hf).1 Hne_w_ids_o0_w_slots_o0 f35 f41 f40 f38 f36 f39 f37 Hov G_w_ids_o0 G_o0 (own_g1 d x0 c0 Hx0 Hf).2.1 (own_l1 x0) G_w_slots_o0) hZ (hw _ (List.mem_of_getElem? (i := 100) rfl)) (hw _ (List.mem_of_getElem? (i := 28) rfl)) (by decide) (by decide)) (g := (mkF m 24 #[.val (.ref o0), .val (.ref o1), .val (.int (own_f13t1 (d &&& (255 : Int32)) x0 c0))] [(.int (own_f13t1 (d &&& (255 : Int32)) x0 c0)), (.ref o1), (.ref o0)])) rfl (by rw [hml]; rfl) (Steps.refl _) (a := o0) q51 q51' (argsL := [(.ref o1), (.int (own_f13t1 (d &&& (255 : Int32)) x0 c0))]) (rest := []) (lenOf own_pd12 rfl) rfl (by show 2 * 0 + _ ≤ _; exact Nat.le_of_eq rfl) (hb hby own_d9_24) (fun _ _ => ⟨rfl, rfl, (by decide : 0 + 0 ≤ _), (by decide : 0 + 0 ≤ _)⟩)
  dsimp only [Pt.U, Pt.locs, Pt.cells, Pt.slots] at X51 l51 y51 z51 st51 hQ51
  subst y51 z51
  obtain ⟨rfl, N51q, K51, f52, f53, f54, f55, f56, f57⟩ := hQ51
  have f58 : Old Z n0 T51.heap := f34.keep K51 (allS G_o0 (allS G_w_ids_o0 (allS G_w_slots_o0 all0)))
  have f59 : Exa Z T51.heap o1 "java/lang/String" := f41.keep K51
  have f60 : Fld Z T51.heap o1 "java/lang/String" "coder" "B" (.int (0 : Int32)) := f42.keep K51 (ninS (Exa.ne f41 f35 (by decide)) (ninS (Exa.neArv f41 f39 (hw _ (List.mem_of_getElem? (i := 10) rfl))) (ninS (Exa.neArv f41 f37 (hw _ (List.mem_of_getElem? (i := 10) rfl))) nin0)))
  have f61 : Fld Z T51.heap o1 "java/lang/String" "value" "[B" (.ref w_value_o1) := f43.keep K51 (ninS (Exa.ne f41 f35 (by decide)) (ninS (Exa.neArv f41 f39 (hw _ (List.mem_of_getElem? (i := 10) rfl))) (ninS (Exa.neArv f41 f37 (hw _ (List.mem_of_getElem? (i := 10) rfl))) nin0)))
  have f62 : Arv Z T51.heap w_value_o1 k_d .byte (1 : Int32) [(.int d)] (.int (0 : Int32)) := f44.keep K51 (ninS (Ne.symm (Exa.neArv f35 f44 (hw _ (List.mem_of_getElem? (i := 27) rfl)))) (ninS Hne_w_value_o1_w_ids_o0 (ninS Hne_w_value_o1_w_slots_o0 nin0)))
  have f63 : Exa Z T51.heap i0 "java/lang/String" := f28.keep K51
  have f64 : Fld Z T51.heap i0 "java/lang/String" "hash" "I" (.int hq27_i0) := f31.keep K51 (ninS (Exa.ne f28 f35 (by decide)) (ninS (Exa.neArv f28 f39 (hw _ (List.mem_of_getElem? (i := 10) rfl))) (ninS (Exa.neArv f28 f37 (hw _ (List.mem_of_getElem? (i := 10) rfl))) nin0)))
  have f65 : Fld Z T51.heap i0 "java/lang/String" "hashIsZero" "Z" (.int zq27_i0) := f32.keep K51 (ninS (Exa.ne f28 f35 (by decide)) (ninS (Exa.neArv f28 f39 (hw _ (List.mem_of_getElem? (i := 10) rfl))) (ninS (Exa.neArv f28 f37 (hw _ (List.mem_of_getElem? (i := 10) rfl))) nin0)))
  have f66 : Fld Z T51.heap i0 "java/lang/String" "coder" "B" (.int (0 : Int32)) := f29.keep K51 (ninS (Exa.ne f28 f35 (by decide)) (ninS (Exa.neArv f28 f39 (hw _ (List.mem_of_getElem? (i := 10) rfl))) (ninS (Exa.neArv f28 f37 (hw _ (List.mem_of_getElem? (i := 10) rfl))) nin0)))
  have f67 : Fld Z T51.heap i0 "java/lang/String" "value" "[B" (.ref w_value_i0) := f30.keep K51 (ninS (Exa.ne f28 f35 (by decide)) (ninS (Exa.neArv f28 f39 (hw _ (List.mem_of_getElem? (i := 10) rfl))) (ninS (Exa.neArv f28 f37 (hw _ (List.mem_of_getElem? (i := 10) rfl))) nin0)))
  have f68 : Arv Z T51.heap w_value_i0 k_c0 .byte (1 : Int32) [(.int c0)] (.int (0 : Int32)) := f45.keep K51 (ninS (Ne.symm (Exa.neArv f35 f45 (hw _ (List.mem_of_getElem? (i := 27) rfl)))) (ninS Hne_w_value_i0_w_ids_o0 (ninS Hne_w_value_i0_w_slots_o0 nin0)))
  have f69 : Fld Z T51.heap o1 "java/lang/String" "hash" "I" (.int hq1_o0) := f46.keep K51 (ninS (Exa.ne f41 f35 (by decide)) (ninS (Exa.neArv f41 f39 (hw _ (List.mem_of_getElem? (i := 10) rfl))) (ninS (Exa.neArv f41 f37 (hw _ (List.mem_of_getElem? (i := 10) rfl))) nin0)))
  have f70 : Fld Z T51.heap o1 "java/lang/String" "hashIsZero" "Z" (.int zq1_o0) := f47.keep K51 (ninS (Exa.ne f41 f35 (by decide)) (ninS (Exa.neArv f41 f39 (hw _ (List.mem_of_getElem? (i := 10) rfl))) (ninS (Exa.neArv f41 f37 (hw _ (List.mem_of_getElem? (i := 10) rfl))) nin0)))
  have zs71 : n0 ≤ T51.heap.size := Nat.le_trans zs48 K51.1
  have K72 : Keep h0 T51.heap [o0, o1, i0, w_slots_o0, w_ids_o0] := K49.trans K51 (allS (Or.inl (by simp)) (allS (Or.inl (by simp)) (allS (Or.inl (by simp)) all0)))
  have N73 : Fr n0 L51 := by rw [l51]; exact Fr.app N50 N51q
  have pre74 : ∀ t, Steps p.tables e below (T51.setTop (mkF m 27 #[.val (.ref o0), .val (.ref o1), .val (.int (own_f13t1 (d &&& (255 : Int32)) x0 c0))] [(.int (1 : Int32))])) t → Steps p.tables e below (s₁.setTop (entryFrame m #[(.ref o0), (.ref o1)] 3)) t := fun t k => pre0 t (by
      refine XS.aloadN X0.here hx rfl (hb hby own_d9_0) rfl rfl ?_
      show Steps p.tables e below (s₁.setTop (mkF m 1 #[.val (.ref o0), .val (.ref o1), .unset] [(.ref o0)])) _
      refine XS.aloadN X0.here hx rfl (hb hby own_d9_1) rfl rfl ?_
      refine st1.trans ?_
      show Steps p.tables e below (T1.setTop (mkF m 5 #[.val (.ref o0), .val (.ref o1), .unset] [(.int (d &&& (255 : Int32))), (.ref o0)])) _
      refine XS.aloadN X1.here hx rfl (hb hby own_d9_5) rfl rfl ?_
      refine XS.aconstNull X1.here hx rfl (hb hby own_d9_6) ?_
      refine XS.iconst X1.here hx rfl (hb hby own_d9_7) ?_
      refine XS.iconst X1.here hx rfl (hb hby own_d9_8) ?_
      show Steps p.tables e below (T1.setTop (mkF m 9 #[.val (.ref o0), .val (.ref o1), .unset] [(.int (0 : Int32)), (.int (0 : Int32)), .null, (.ref o1), (.int (d &&& (255 : Int32))), (.ref o0)])) _
      refine st27.trans ?_
      show Steps p.tables e below (T27.setTop (mkF m 12 #[.val (.ref o0), .val (.ref o1), .unset] [(.int (own_f13t1 (d &&& (255 : Int32)) x0 c0))])) _
      refine XS.istoreN X27.here hx rfl (hb hby own_d9_12) rfl (l' := #[.val (.ref o0), .val (.ref o1), .val (.int (own_f13t1 (d &&& (255 : Int32)) x0 c0))]) rfl ?_
      refine XS.iloadN X27.here hx rfl (hb hby own_d9_13) rfl ?_
      refine XS.ifYes X27.here hx rfl (pc0 := 14) (pc' := 21) rfl (hb hby own_d9_14) rfl ((if0 _ _).trans (tlt Hf).1) (by decide) (by decide) ?_
      refine XS.aloadN X27.here hx rfl (hb hby own_d9_21) rfl rfl ?_
      show Steps p.tables e below (T27.setTop (mkF m 22 #[.val (.ref o0), .val (.ref o1), .val (.int (own_f13t1 (d &&& (255 : Int32)) x0 c0))] [(.ref o0)])) _
      refine XS.aloadN X27.here hx rfl (hb hby own_d9_22) rfl rfl ?_
      refine XS.iloadN X27.here hx rfl (hb hby own_d9_23) rfl ?_
      refine st51.trans ?_
      show Steps p.tables e below (T51.setTop (mkF m 27 #[.val (.ref o0), .val (.ref o1), .val (.int (own_f13t1 (d &&& (255 : Int32)) x0 c0))] [(.int (1 : Int32))])) _
      exact k)
  obtain ⟨fs, hr, hrun, hended, hW, hsame⟩ := X51.leave (v := some (.int (1 : Int32))) (fun h => by rw [Bd.returns] at h; cases h) (hlocks := hlk)
  refine ⟨_, _, pre74 _ ?_, hrun, hended, _, _, rfl, ?_, ⟨_, rfl⟩, hW, hsame.mono (by decide) (by decide)⟩
  · show Steps p.tables e below (T51.setTop (mkF m 27 #[.val (.ref o0), .val (.ref o1), .val (.int (own_f13t1 (d &&& (255 : Int32)) x0 c0))] [(.int (1 : Int32))])) _
    exact retI X51 hx Bd.returns (hb hby own_d9_27) hr
  · show own_Q9t1n Z o0 o1 x0 k_s k_i k_d d i0 k_c0 c0 z_COMPACT_STRINGS w_slots_o0 w_ids_o0 w_value_o1 w_hash_i0 w_hashIsZero_i0 w_value_i0 w_hash_o1 w_hashIsZero_o1 h0 n0 _ T51.heap _; exact ⟨hq1_o0, zq1_o0, hq27_i0, zq27_i0, rfl, N73, K72, f52, f55, f57, f54, f56, f53, f59, f60, f61, f63, f66, f67, f69, f70, ok8, f64, f65, ok33⟩
theorem own_d9_17 : decode prog_10_method_5_code 17 = .ok (.iload_n 2, 1) := by decide +kernel
theorem own_d9_18 : decode prog_10_method_5_code 18 = .ok (.goto 9, 3) := by decide +kernel
theorem own_ef9t1f0 (m : MethodId) (x0 : Addr) (x1 : Addr) : entryFrame m #[(.ref x0), (.ref x1)] 3 = (mkF m 0 #[.val (.ref x0), .val (.ref x1), .unset] []) := by first | (simp [entryFrame, mkF, argsToLocals, Value.category]; done) | rfl
def own_f9t1f0 (x0 : Int32) (d : Int32) (c0 : Int32) : Int32 := (own_f13t1 (d &&& (255 : Int32)) x0 c0)
def own_Q9t1f0 (Z : State) (o0 : Addr) (o1 : Addr) (x0 : Int32) (k_s : ClassId) (k_i : ClassId) (k_d : ClassId) (d : Int32) (i0 : Addr) (k_c0 : ClassId) (c0 : Int32) (z_COMPACT_STRINGS : Int32) (w_slots_o0 : Addr) (w_ids_o0 : Addr) (w_value_o1 : Addr) (w_hash_i0 : Int32) (w_hashIsZero_i0 : Int32) (w_value_i0 : Addr) (w_hash_o1 : Int32) (w_hashIsZero_o1 : Int32) (h0 : Heap) (n0 : Nat) (v : Option Value) (h : Heap) (L : List Loc) : Prop := ∃ hq_o1 zq_o1 : Int32, ∃ hq_i0 zq_i0 : Int32, v = some (.int (0 : Int32)) ∧ Fr n0 L ∧ Keep h0 h [o1, i0] ∧ Exa Z h o1 "java/lang/String" ∧ Fld Z h o1 "java/lang/String" "coder" "B" (.int (0 : Int32)) ∧ Fld Z h o1 "java/lang/String" "value" "[B" (.ref w_value_o1) ∧ Exa Z h i0 "java/lang/String" ∧ Fld Z h i0 "java/lang/String" "coder" "B" (.int (0 : Int32)) ∧ Fld Z h i0 "java/lang/String" "value" "[B" (.ref w_value_i0) ∧ Fld Z h o1 "java/lang/String" "hash" "I" (.int hq_o1) ∧ Fld Z h o1 "java/lang/String" "hashIsZero" "Z" (.int zq_o1) ∧ own_ok hq_o1 zq_o1 d ∧ Fld Z h i0 "java/lang/String" "hash" "I" (.int hq_i0) ∧ Fld Z h i0 "java/lang/String" "hashIsZero" "Z" (.int zq_i0) ∧ own_ok hq_i0 zq_i0 c0
set_option maxRecDepth 65536 in
set_option maxHeartbeats 40000000 in
theorem own_rm9t1f0 (l : Launch) (Z : State) (a0 : Array Value) (hw : ∀ d ∈ tables_1, d.before a0 Z = true) (ws : List Jvm.Cond) (o0 : Addr) (o1 : Addr) (x0 : Int32) (k_s : ClassId) (k_i : ClassId) (k_d : ClassId) (d : Int32) (i0 : Addr) (k_c0 : ClassId) (c0 : Int32) (z_COMPACT_STRINGS : Int32) (w_slots_o0 : Addr) (w_ids_o0 : Addr) (w_value_o1 : Addr) (w_hash_i0 : Int32) (w_hashIsZero_i0 : Int32) (w_value_i0 : Addr) (w_hash_o1 : Int32) (w_hashIsZero_o1 : Int32) (h0 : Heap) (n0 : Nat) (Z0 : n0 ≤ h0.size) (Hov : Ovr Z k_i "java/lang/String") (HC : ¬ (z_COMPACT_STRINGS = (0 : Int32))) (Hx0 : own_in x0) (Ho0 : o1 ≠ i0) (Hd : own_by d) (Hb0 : own_by c0) (Hk0 : own_ok w_hash_i0 w_hashIsZero_i0 c0) (Hko : own_ok w_hash_o1 w_hashIsZero_o1 d) (Hf : own_f13t1 (d &&& (255 : Int32)) x0 c0 = (0 : Int32)) (P_E_o0 : Exa Z h0 o0 "com/example/nestor/nestor/IdTable") (P_O_ : Old Z n0 h0) (P_B_java_lang_String_COMPACT_STRINGS : Sta Z Z.heap "java/lang/String" "COMPACT_STRINGS" "Z" (.int z_COMPACT_STRINGS)) (P_F_o0_slots : Fld Z h0 o0 "com/example/nestor/nestor/IdTable" "slots" "[I" (.ref w_slots_o0)) (P_V_w_slots_o0 : Arv Z h0 w_slots_o0 k_s .int (16 : Int32) (own_t1 x0) (.int (0 : Int32))) (P_F_o0_ids : Fld Z h0 o0 "com/example/nestor/nestor/IdTable" "ids" "[Ljava/lang/String;" (.ref w_ids_o0)) (P_V_w_ids_o0 : Arv Z h0 w_ids_o0 k_i (.object "java/lang/String") (8 : Int32) [(.ref i0), .null, .null, .null, .null, .null, .null, .null] .null) (P_F_o0_size : Fld Z h0 o0 "com/example/nestor/nestor/IdTable" "size" "I" (.int (1 : Int32))) (P_E_o1 : Exa Z h0 o1 "java/lang/String") (P_F_o1_coder : Fld Z h0 o1 "java/lang/String" "coder" "B" (.int (0 : Int32))) (P_F_o1_value : Fld Z h0 o1 "java/lang/String" "value" "[B" (.ref w_value_o1)) (P_V_w_value_o1 : Arv Z h0 w_value_o1 k_d .byte (1 : Int32) [(.int d)] (.int (0 : Int32))) (P_E_i0 : Exa Z h0 i0 "java/lang/String") (P_F_i0_hash : Fld Z h0 i0 "java/lang/String" "hash" "I" (.int w_hash_i0)) (P_F_i0_hashIsZero : Fld Z h0 i0 "java/lang/String" "hashIsZero" "Z" (.int w_hashIsZero_i0)) (P_F_i0_coder : Fld Z h0 i0 "java/lang/String" "coder" "B" (.int (0 : Int32))) (P_F_i0_value : Fld Z h0 i0 "java/lang/String" "value" "[B" (.ref w_value_i0)) (P_V_w_value_i0 : Arv Z h0 w_value_i0 k_c0 .byte (1 : Int32) [(.int c0)] (.int (0 : Int32))) (P_F_o1_hash : Fld Z h0 o1 "java/lang/String" "hash" "I" (.int w_hash_o1)) (P_F_o1_hashIsZero : Fld Z h0 o1 "java/lang/String" "hashIsZero" "Z" (.int w_hashIsZero_o1)) (G_o1 : n0 ≤ o1) (G_i0 : n0 ≤ i0) :
    MetFree l (⟨"com/example/nestor/nestor/IdTable", "placeOf", "(Ljava/lang/String;)I"⟩ : MethodName) (head1 (Jvm.Cond.code (⟨"com/example/nestor/nestor/IdTable", "placeOf", "(Ljava/lang/String;)I"⟩ : MethodName) prog_10_method_5_code 3 (some .int) :: ws) ({ frames := 3, cells := 0, slots := 0, locals := 49 } : Room)) (fun a U => a = #[(.ref o0), (.ref o1)] ∧ Z.Warmed39 U.vm ∧ U.heap = h0) (fun _ _ _ _ _ => True) (fun _ U o U' => ∃ v L, o = .returned v ∧ own_Q9t1f0 Z o0 o1 x0 k_s k_i k_d d i0 k_c0 c0 z_COMPACT_STRINGS w_slots_o0 w_ids_o0 w_value_o1 w_hash_i0 w_hashIsZero_i0 w_value_i0 w_hash_o1 w_hashIsZero_o1 h0 n0 v U'.heap L ∧ FrameEnd U o U' L ({ frames := 3, cells := 0, slots := 0, locals := 49 } : Room).cells ({ frames := 3, cells := 0, slots := 0, locals := 49 } : Room).slots) := by
  refine MetFree.of_bodySF (plainFor_of_name own_pn9) hisR ?_
  intro p e s m args below meth c s₁ Bd hml0 hP hK
  obtain ⟨rfl, hZ, hh⟩ := hP
  have hx := Bd.exec
  have hlk : meth.locks = false := BodyLoose.notSynchronized Bd
  have hby := Bd.bytes
  have hml : c.maxLocals = 3 := hml0
  have hown : s.vm.findClass "com/example/nestor/nestor/IdTable" = some m.cls := findClass_of_methodNamed Bd.named
  have hnm := (name_of_methodNamed Bd.named Bd.method).1
  have X0 : Stand p l e ({ frames := 3, cells := 0, slots := 0, locals := 49 } : Room) s m #[(.ref o0), (.ref o1)] below meth c s₁ [] 0 0 := Stand.of_body Bd
  have e0 : s₁.heap = h0 := by rw [← hh, Bd.state]; rfl
  have N0 := Fr.nil n0
  have pre0 : ∀ t, Steps p.tables e below (s₁.setTop (mkF m 0 #[.val (.ref o0), .val (.ref o1), .unset] [])) t → Steps p.tables e below (s₁.setTop (entryFrame m #[(.ref o0), (.ref o1)] 3)) t := fun t k => castTop (own_ef9t1f0 m o0 o1) k
  have f2 : Sta Z h0 "java/lang/String" "COMPACT_STRINGS" "Z" (.int z_COMPACT_STRINGS) := P_B_java_lang_String_COMPACT_STRINGS.ext P_O_.2
  obtain ⟨cq1, kq1, q1a, q1b, q1c⟩ := isOf hZ e0 P_E_o1
  obtain ⟨_, _, ⟨T1, L1, k1, n1⟩, -, X1, ⟨Lc1, hQ1, l1, y1, z1⟩, st1⟩ := X0.virtualBack hx (y := (⟨"java/lang/String", "hashCode", "()I"⟩ : MethodName)) (z := (⟨"java/lang/String", "hashCode", "()I"⟩ : MethodName)) hown (mvT hZ (hw _ (List.mem_of_getElem? (i := 66) rfl))) (mvT hZ (hw _ (List.mem_of_getElem? (i := 67) rfl))) (notFace_of_selects (args := #[]) (mvT hZ (hw _ (List.mem_of_getElem? (i := 69) rfl)))) (mvT hZ (hw _ (List.mem_of_getElem? (i := 69) rfl))) (mvT hZ (hw _ (List.mem_of_getElem? (i := 68) rfl))) (by decide) (backOf (W := 1) (own_rm10 l Z a0 hw [] o1 w_hash_o1 w_hashIsZero_o1 z_COMPACT_STRINGS w_value_o1 k_d d h0 n0 Z0 Hko P_F_o1_hash P_F_o1_hashIsZero P_F_o1_coder f2 HC P_E_o1 P_F_o1_value P_V_w_value_o1 G_o1) hZ (hw _ (List.mem_of_getElem? (i := 70) rfl)) (hw _ (List.mem_of_getElem? (i := 2) rfl)) (by decide) (by decide)) q1a q1c (g := (mkF m 2 #[.val (.ref o0), .val (.ref o1), .unset] [(.ref o1), (.ref o0)])) rfl (by rw [hml]; rfl) (Steps.refl _) (argsL := []) (rest := [(.ref o0)]) (lenOf own_pd9 rfl) rfl (by show 2 * 0 + _ ≤ _; exact Nat.le_of_eq rfl) (hb hby own_d9_2) (fun _ _ => ⟨rfl, e0, (by decide : 0 + 0 ≤ _), (by decide : 0 + 0 ≤ _)⟩)
  dsimp only [Pt.U, Pt.locs, Pt.cells, Pt.slots] at X1 l1 y1 z1 st1 hQ1
  subst y1 z1
  obtain ⟨hq1_o0, zq1_o0, rfl, N1q, K1, f3, f4, f5, f6, f7, ok8⟩ := hQ1
  have f9 : Old Z n0 T1.heap := P_O_.keep K1 (allS G_o1 all0)
  have f10 : Exa Z T1.heap o0 "com/example/nestor/nestor/IdTable" := P_E_o0.keep K1
  have f11 : Fld Z T1.heap o0 "com/example/nestor/nestor/IdTable" "slots" "[I" (.ref w_slots_o0) := P_F_o0_slots.keep K1 (ninS (Exa.ne P_E_o0 P_E_o1 (by decide)) nin0)
  have f12 : Arv Z T1.heap w_slots_o0 k_s .int (16 : Int32) (own_t1 x0) (.int (0 : Int32)) := P_V_w_slots_o0.keep K1 (ninS (Ne.symm (Exa.neArv P_E_o1 P_V_w_slots_o0 (hw _ (List.mem_of_getElem? (i := 10) rfl)))) nin0)
  have f13 : Fld Z T1.heap o0 "com/example/nestor/nestor/IdTable" "ids" "[Ljava/lang/String;" (.ref w_ids_o0) := P_F_o0_ids.keep K1 (ninS (Exa.ne P_E_o0 P_E_o1 (by decide)) nin0)
  have f14 : Arv Z T1.heap w_ids_o0 k_i (.object "java/lang/String") (8 : Int32) [(.ref i0), .null, .null, .null, .null, .null, .null, .null] .null := P_V_w_ids_o0.keep K1 (ninS (Ne.symm (Exa.neArv P_E_o1 P_V_w_ids_o0 (hw _ (List.mem_of_getElem? (i := 10) rfl)))) nin0)
  have f15 : Fld Z T1.heap o0 "com/example/nestor/nestor/IdTable" "size" "I" (.int (1 : Int32)) := P_F_o0_size.keep K1 (ninS (Exa.ne P_E_o0 P_E_o1 (by decide)) nin0)
  have f16 : Arv Z T1.heap w_value_o1 k_d .byte (1 : Int32) [(.int d)] (.int (0 : Int32)) := P_V_w_value_o1.keep K1 (ninS (Ne.symm (Exa.neArv P_E_o1 P_V_w_value_o1 (hw _ (List.mem_of_getElem? (i := 10) rfl)))) nin0)
  have f17 : Exa Z T1.heap i0 "java/lang/String" := P_E_i0.keep K1
  have f18 : Fld Z T1.heap i0 "java/lang/String" "hash" "I" (.int w_hash_i0) := P_F_i0_hash.keep K1 (ninS (Ne.symm Ho0) nin0)
  have f19 : Fld Z T1.heap i0 "java/lang/String" "hashIsZero" "Z" (.int w_hashIsZero_i0) := P_F_i0_hashIsZero.keep K1 (ninS (Ne.symm Ho0) nin0)
  have f20 : Fld Z T1.heap i0 "java/lang/String" "coder" "B" (.int (0 : Int32)) := P_F_i0_coder.keep K1 (ninS (Ne.symm Ho0) nin0)
  have f21 : Fld Z T1.heap i0 "java/lang/String" "value" "[B" (.ref w_value_i0) := P_F_i0_value.keep K1 (ninS (Ne.symm Ho0) nin0)
  have f22 : Arv Z T1.heap w_value_i0 k_c0 .byte (1 : Int32) [(.int c0)] (.int (0 : Int32)) := P_V_w_value_i0.keep K1 (ninS (Ne.symm (Exa.neArv P_E_o1 P_V_w_value_i0 (hw _ (List.mem_of_getElem? (i := 10) rfl)))) nin0)
  have zs23 : n0 ≤ T1.heap.size := Nat.le_trans Z0 K1.1
  have K24 : Keep h0 h0 [o1, i0] := Keep.refl h0 [o1, i0]
  have K25 : Keep h0 T1.heap [o1, i0] := K24.trans K1 (allS (Or.inl (by simp)) all0)
  have N26 : Fr n0 L1 := by rw [l1]; exact Fr.app N0 N1q
  obtain ⟨cq27, q27, q27'⟩ := f10.cell
  obtain ⟨_, _, ⟨T27, L27, k27, n27⟩, -, X27, ⟨Lc27, hQ27, l27, y27, z27⟩, st27⟩ := X1.privateBack hx (y := (⟨"com/example/nestor/nestor/IdTable", "find", "(ILjava/lang/String;[BII)I"⟩ : MethodName)) hown (mvT hZ (hw _ (List.mem_of_getElem? (i := 83) rfl))) (mvT hZ (hw _ (List.mem_of_getElem? (i := 84) rfl))) (mvT hZ (own_sel3 Z a0 hw)) (Cond.privateMethod_at (mvP hZ (hw _ (List.mem_of_getElem? (i := 85) rfl)) (args := #[]))) (mvT hZ (hw _ (List.mem_of_getElem? (i := 86) rfl))) (by decide) (backOf (W := 0) (own_rm13t1 l Z a0 hw [] o0 (d &&& (255 : Int32)) o1 x0 k_s k_i k_d d i0 k_c0 c0 z_COMPACT_STRINGS w_slots_o0 w_ids_o0 w_value_o1 w_hash_i0 w_hashIsZero_i0 w_value_i0 T1.heap n0 zs23 Hov HC Hx0 Ho0 Hd Hb0 Hk0 rfl f10 f9 P_B_java_lang_String_COMPACT_STRINGS f11 f12 f13 f14 f4 f3 f5 f16 f17 f18 f19 f20 f21 f22 G_i0) hZ (hw _ (List.mem_of_getElem? (i := 86) rfl)) (hw _ (List.mem_of_getElem? (i := 28) rfl)) (by decide) (by decide)) (g := (mkF m 9 #[.val (.ref o0), .val (.ref o1), .unset] [(.int (0 : Int32)), (.int (0 : Int32)), .null, (.ref o1), (.int (d &&& (255 : Int32))), (.ref o0)])) rfl (by rw [hml]; rfl) (Steps.refl _) (a := o0) q27 q27' (argsL := [(.int (d &&& (255 : Int32))), (.ref o1), .null, (.int (0 : Int32)), (.int (0 : Int32))]) (rest := []) (lenOf own_pd13 rfl) rfl (by show 2 * 0 + _ ≤ _; exact Nat.le_of_eq rfl) (hb hby own_d9_9) (fun _ _ => ⟨rfl, rfl, (by decide : 0 + 0 ≤ _), (by decide : 0 + 0 ≤ _)⟩)
  dsimp only [Pt.U, Pt.locs, Pt.cells, Pt.slots] at X27 l27 y27 z27 st27 hQ27
  subst y27 z27
  obtain ⟨hq27_i0, zq27_i0, rfl, N27q, K27, f28, f29, f30, f31, f32, ok33⟩ := hQ27
  have f34 : Old Z n0 T27.heap := f9.keep K27 (allS G_i0 all0)
  have f35 : Exa Z T27.heap o0 "com/example/nestor/nestor/IdTable" := f10.keep K27
  have f36 : Fld Z T27.heap o0 "com/example/nestor/nestor/IdTable" "slots" "[I" (.ref w_slots_o0) := f11.keep K27 (ninS (Exa.ne f10 f17 (by decide)) nin0)
  have f37 : Arv Z T27.heap w_slots_o0 k_s .int (16 : Int32) (own_t1 x0) (.int (0 : Int32)) := f12.keep K27 (ninS (Ne.symm (Exa.neArv f17 f12 (hw _ (List.mem_of_getElem? (i := 10) rfl)))) nin0)
  have f38 : Fld Z T27.heap o0 "com/example/nestor/nestor/IdTable" "ids" "[Ljava/lang/String;" (.ref w_ids_o0) := f13.keep K27 (ninS (Exa.ne f10 f17 (by decide)) nin0)
  have f39 : Arv Z T27.heap w_ids_o0 k_i (.object "java/lang/String") (8 : Int32) [(.ref i0), .null, .null, .null, .null, .null, .null, .null] .null := f14.keep K27 (ninS (Ne.symm (Exa.neArv f17 f14 (hw _ (List.mem_of_getElem? (i := 10) rfl)))) nin0)
  have f40 : Fld Z T27.heap o0 "com/example/nestor/nestor/IdTable" "size" "I" (.int (1 : Int32)) := f15.keep K27 (ninS (Exa.ne f10 f17 (by decide)) nin0)
  have f41 : Exa Z T27.heap o1 "java/lang/String" := f4.keep K27
  have f42 : Fld Z T27.heap o1 "java/lang/String" "coder" "B" (.int (0 : Int32)) := f3.keep K27 (ninS Ho0 nin0)
  have f43 : Fld Z T27.heap o1 "java/lang/String" "value" "[B" (.ref w_value_o1) := f5.keep K27 (ninS Ho0 nin0)
  have f44 : Arv Z T27.heap w_value_o1 k_d .byte (1 : Int32) [(.int d)] (.int (0 : Int32)) := f16.keep K27 (ninS (Ne.symm (Exa.neArv f17 f16 (hw _ (List.mem_of_getElem? (i := 10) rfl)))) nin0)
  have f45 : Arv Z T27.heap w_value_i0 k_c0 .byte (1 : Int32) [(.int c0)] (.int (0 : Int32)) := f22.keep K27 (ninS (Ne.symm (Exa.neArv f17 f22 (hw _ (List.mem_of_getElem? (i := 10) rfl)))) nin0)
  have f46 : Fld Z T27.heap o1 "java/lang/String" "hash" "I" (.int hq1_o0) := f6.keep K27 (ninS Ho0 nin0)
  have f47 : Fld Z T27.heap o1 "java/lang/String" "hashIsZero" "Z" (.int zq1_o0) := f7.keep K27 (ninS Ho0 nin0)
  have zs48 : n0 ≤ T27.heap.size := Nat.le_trans zs23 K27.1
  have K49 : Keep h0 T27.heap [o1, i0] := K25.trans K27 (allS (Or.inl (by simp)) all0)
  have N50 : Fr n0 L27 := by rw [l27]; exact Fr.app N26 N27q
  have pre51 : ∀ t, Steps p.tables e below (T27.setTop (mkF m 27 #[.val (.ref o0), .val (.ref o1), .val (.int (own_f13t1 (d &&& (255 : Int32)) x0 c0))] [(.int (own_f13t1 (d &&& (255 : Int32)) x0 c0))])) t → Steps p.tables e below (s₁.setTop (entryFrame m #[(.ref o0), (.ref o1)] 3)) t := fun t k => pre0 t (by
      refine XS.aloadN X0.here hx rfl (hb hby own_d9_0) rfl rfl ?_
      show Steps p.tables e below (s₁.setTop (mkF m 1 #[.val (.ref o0), .val (.ref o1), .unset] [(.ref o0)])) _
      refine XS.aloadN X0.here hx rfl (hb hby own_d9_1) rfl rfl ?_
      refine st1.trans ?_
      show Steps p.tables e below (T1.setTop (mkF m 5 #[.val (.ref o0), .val (.ref o1), .unset] [(.int (d &&& (255 : Int32))), (.ref o0)])) _
      refine XS.aloadN X1.here hx rfl (hb hby own_d9_5) rfl rfl ?_
      refine XS.aconstNull X1.here hx rfl (hb hby own_d9_6) ?_
      refine XS.iconst X1.here hx rfl (hb hby own_d9_7) ?_
      refine XS.iconst X1.here hx rfl (hb hby own_d9_8) ?_
      show Steps p.tables e below (T1.setTop (mkF m 9 #[.val (.ref o0), .val (.ref o1), .unset] [(.int (0 : Int32)), (.int (0 : Int32)), .null, (.ref o1), (.int (d &&& (255 : Int32))), (.ref o0)])) _
      refine st27.trans ?_
      show Steps p.tables e below (T27.setTop (mkF m 12 #[.val (.ref o0), .val (.ref o1), .unset] [(.int (own_f13t1 (d &&& (255 : Int32)) x0 c0))])) _
      refine XS.istoreN X27.here hx rfl (hb hby own_d9_12) rfl (l' := #[.val (.ref o0), .val (.ref o1), .val (.int (own_f13t1 (d &&& (255 : Int32)) x0 c0))]) rfl ?_
      refine XS.iloadN X27.here hx rfl (hb hby own_d9_13) rfl ?_
      refine XS.ifNo X27.here hx rfl (hb hby own_d9_14) rfl ((if0 _ _).trans (flt (by rw [Hf]; decide)).1) ?_
      refine XS.iloadN X27.here hx rfl (hb hby own_d9_17) rfl ?_
      show Steps p.tables e below (T27.setTop (mkF m 18 #[.val (.ref o0), .val (.ref o1), .val (.int (own_f13t1 (d &&& (255 : Int32)) x0 c0))] [(.int (own_f13t1 (d &&& (255 : Int32)) x0 c0))])) _
      refine XS.goto X27.here hx rfl (pc0 := 18) (pc' := 27) rfl (hb hby own_d9_18) (by decide) (by decide) ?_
      exact k)
  obtain ⟨fs, hr, hrun, hended, hW, hsame⟩ := X27.leave (v := some (.int (own_f13t1 (d &&& (255 : Int32)) x0 c0))) (fun h => by rw [Bd.returns] at h; cases h) (hlocks := hlk)
  refine ⟨_, _, pre51 _ ?_, hrun, hended, _, _, rfl, ?_, ⟨_, rfl⟩, hW, hsame.mono (by decide) (by decide)⟩
  · show Steps p.tables e below (T27.setTop (mkF m 27 #[.val (.ref o0), .val (.ref o1), .val (.int (own_f13t1 (d &&& (255 : Int32)) x0 c0))] [(.int (own_f13t1 (d &&& (255 : Int32)) x0 c0))])) _
    exact retI X27 hx Bd.returns (hb hby own_d9_27) hr
  · show own_Q9t1f0 Z o0 o1 x0 k_s k_i k_d d i0 k_c0 c0 z_COMPACT_STRINGS w_slots_o0 w_ids_o0 w_value_o1 w_hash_i0 w_hashIsZero_i0 w_value_i0 w_hash_o1 w_hashIsZero_o1 h0 n0 _ T27.heap _; exact ⟨hq1_o0, zq1_o0, hq27_i0, zq27_i0, (by show some (Value.int _) = some (.int (0 : Int32)); rw [Hf]), N50, K49, f41, f42, f43, f28, f29, f30, f46, f47, ok8, f31, f32, ok33⟩
theorem own_ef9t2n (m : MethodId) (x0 : Addr) (x1 : Addr) : entryFrame m #[(.ref x0), (.ref x1)] 3 = (mkF m 0 #[.val (.ref x0), .val (.ref x1), .unset] []) := by first | (simp [entryFrame, mkF, argsToLocals, Value.category]; done) | rfl
def own_Q9t2n (Z : State) (o0 : Addr) (o1 : Addr) (x0 : Int32) (x1 : Int32) (k_s : ClassId) (k_i : ClassId) (k_d : ClassId) (d : Int32) (i0 : Addr) (i1 : Addr) (k_c0 : ClassId) (c0 : Int32) (k_c1 : ClassId) (c1 : Int32) (z_COMPACT_STRINGS : Int32) (w_slots_o0 : Addr) (w_ids_o0 : Addr) (w_value_o1 : Addr) (w_hash_i0 : Int32) (w_hashIsZero_i0 : Int32) (w_value_i0 : Addr) (w_hash_i1 : Int32) (w_hashIsZero_i1 : Int32) (w_value_i1 : Addr) (w_hash_o1 : Int32) (w_hashIsZero_o1 : Int32) (h0 : Heap) (n0 : Nat) (v : Option Value) (h : Heap) (L : List Loc) : Prop := ∃ hq_o1 zq_o1 : Int32, ∃ hq_i0 zq_i0 : Int32, ∃ hq_i1 zq_i1 : Int32, v = some (.int (2 : Int32)) ∧ Fr n0 L ∧ Keep h0 h [o0, o1, i0, i1, w_slots_o0, w_ids_o0] ∧ Exa Z h o0 "com/example/nestor/nestor/IdTable" ∧ Fld Z h o0 "com/example/nestor/nestor/IdTable" "slots" "[I" (.ref w_slots_o0) ∧ Arv Z h w_slots_o0 k_s .int (16 : Int32) (own_t3 x0 x1 (own_y2 d x0 x1 c0 c1)) (.int (0 : Int32)) ∧ Fld Z h o0 "com/example/nestor/nestor/IdTable" "ids" "[Ljava/lang/String;" (.ref w_ids_o0) ∧ Arv Z h w_ids_o0 k_i (.object "java/lang/String") (8 : Int32) [(.ref i0), (.ref i1), (.ref o1), .null, .null, .null, .null, .null] .null ∧ Fld Z h o0 "com/example/nestor/nestor/IdTable" "size" "I" (.int (3 : Int32)) ∧ Exa Z h o1 "java/lang/String" ∧ Fld Z h o1 "java/lang/String" "coder" "B" (.int (0 : Int32)) ∧ Fld Z h o1 "java/lang/String" "value" "[B" (.ref w_value_o1) ∧ Exa Z h i0 "java/lang/String" ∧ Fld Z h i0 "java/lang/String" "coder" "B" (.int (0 : Int32)) ∧ Fld Z h i0 "java/lang/String" "value" "[B" (.ref w_value_i0) ∧ Exa Z h i1 "java/lang/String" ∧ Fld Z h i1 "java/lang/String" "coder" "B" (.int (0 : Int32)) ∧ Fld Z h i1 "java/lang/String" "value" "[B" (.ref w_value_i1) ∧ Fld Z h o1 "java/lang/String" "hash" "I" (.int hq_o1) ∧ Fld Z h o1 "java/lang/String" "hashIsZero" "Z" (.int zq_o1) ∧ own_ok hq_o1 zq_o1 d ∧ Fld Z h i0 "java/lang/String" "hash" "I" (.int hq_i0) ∧ Fld Z h i0 "java/lang/String" "hashIsZero" "Z" (.int zq_i0) ∧ own_ok hq_i0 zq_i0 c0 ∧ Fld Z h i1 "java/lang/String" "hash" "I" (.int hq_i1) ∧ Fld Z h i1 "java/lang/String" "hashIsZero" "Z" (.int zq_i1) ∧ own_ok hq_i1 zq_i1 c1
set_option maxRecDepth 65536 in
set_option maxHeartbeats 40000000 in
theorem own_rm9t2n (l : Launch) (Z : State) (a0 : Array Value) (hw : ∀ d ∈ tables_1, d.before a0 Z = true) (ws : List Jvm.Cond) (o0 : Addr) (o1 : Addr) (x0 : Int32) (x1 : Int32) (k_s : ClassId) (k_i : ClassId) (k_d : ClassId) (d : Int32) (i0 : Addr) (i1 : Addr) (k_c0 : ClassId) (c0 : Int32) (k_c1 : ClassId) (c1 : Int32) (z_COMPACT_STRINGS : Int32) (w_slots_o0 : Addr) (w_ids_o0 : Addr) (w_value_o1 : Addr) (w_hash_i0 : Int32) (w_hashIsZero_i0 : Int32) (w_value_i0 : Addr) (w_hash_i1 : Int32) (w_hashIsZero_i1 : Int32) (w_value_i1 : Addr) (w_hash_o1 : Int32) (w_hashIsZero_o1 : Int32) (h0 : Heap) (n0 : Nat) (Z0 : n0 ≤ h0.size) (Hov : Ovr Z k_i "java/lang/String") (HC : ¬ (z_COMPACT_STRINGS = (0 : Int32))) (Hx0 : own_in x0) (Hx1 : own_in x1) (Hxy : ¬ x0 = x1) (Hi : i0 ≠ i1) (Ho0 : o1 ≠ i0) (Ho1 : o1 ≠ i1) (Hd : own_by d) (Hb0 : own_by c0) (Hk0 : own_ok w_hash_i0 w_hashIsZero_i0 c0) (Hb1 : own_by c1) (Hk1 : own_ok w_hash_i1 w_hashIsZero_i1 c1) (Hko : own_ok w_hash_o1 w_hashIsZero_o1 d) (Hf : own_f13t2 (d &&& (255 : Int32)) x0 x1 c0 c1 < (0 : Int32)) (Hne_w_ids_o0_w_slots_o0 : w_ids_o0 ≠ w_slots_o0) (Hne_w_value_o1_w_slots_o0 : w_value_o1 ≠ w_slots_o0) (Hne_w_value_o1_w_ids_o0 : w_value_o1 ≠ w_ids_o0) (Hne_w_value_i0_w_slots_o0 : w_value_i0 ≠ w_slots_o0) (Hne_w_value_i0_w_ids_o0 : w_value_i0 ≠ w_ids_o0) (Hne_w_value_i1_w_slots_o0 : w_value_i1 ≠ w_slots_o0) (Hne_w_value_i1_w_ids_o0 : w_value_i1 ≠ w_ids_o0) (P_E_o0 : Exa Z h0 o0 "com/example/nestor/nestor/IdTable") (P_O_ : Old Z n0 h0) (P_B_java_lang_String_COMPACT_STRINGS : Sta Z Z.heap "java/lang/String" "COMPACT_STRINGS" "Z" (.int z_COMPACT_STRINGS)) (P_F_o0_slots : Fld Z h0 o0 "com/example/nestor/nestor/IdTable" "slots" "[I" (.ref w_slots_o0)) (P_V_w_slots_o0 : Arv Z h0 w_slots_o0 k_s .int (16 : Int32) (own_t2 x0 x1) (.int (0 : Int32))) (P_F_o0_ids : Fld Z h0 o0 "com/example/nestor/nestor/IdTable" "ids" "[Ljava/lang/String;" (.ref w_ids_o0)) (P_V_w_ids_o0 : Arv Z h0 w_ids_o0 k_i (.object "java/lang/String") (8 : Int32) [(.ref i0), (.ref i1), .null, .null, .null, .null, .null, .null] .null) (P_F_o0_size : Fld Z h0 o0 "com/example/nestor/nestor/IdTable" "size" "I" (.int (2 : Int32))) (P_E_o1 : Exa Z h0 o1 "java/lang/String") (P_F_o1_coder : Fld Z h0 o1 "java/lang/String" "coder" "B" (.int (0 : Int32))) (P_F_o1_value : Fld Z h0 o1 "java/lang/String" "value" "[B" (.ref w_value_o1)) (P_V_w_value_o1 : Arv Z h0 w_value_o1 k_d .byte (1 : Int32) [(.int d)] (.int (0 : Int32))) (P_E_i0 : Exa Z h0 i0 "java/lang/String") (P_F_i0_hash : Fld Z h0 i0 "java/lang/String" "hash" "I" (.int w_hash_i0)) (P_F_i0_hashIsZero : Fld Z h0 i0 "java/lang/String" "hashIsZero" "Z" (.int w_hashIsZero_i0)) (P_F_i0_coder : Fld Z h0 i0 "java/lang/String" "coder" "B" (.int (0 : Int32))) (P_F_i0_value : Fld Z h0 i0 "java/lang/String" "value" "[B" (.ref w_value_i0)) (P_V_w_value_i0 : Arv Z h0 w_value_i0 k_c0 .byte (1 : Int32) [(.int c0)] (.int (0 : Int32))) (P_E_i1 : Exa Z h0 i1 "java/lang/String") (P_F_i1_hash : Fld Z h0 i1 "java/lang/String" "hash" "I" (.int w_hash_i1)) (P_F_i1_hashIsZero : Fld Z h0 i1 "java/lang/String" "hashIsZero" "Z" (.int w_hashIsZero_i1)) (P_F_i1_coder : Fld Z h0 i1 "java/lang/String" "coder" "B" (.int (0 : Int32))) (P_F_i1_value : Fld Z h0 i1 "java/lang/String" "value" "[B" (.ref w_value_i1)) (P_V_w_value_i1 : Arv Z h0 w_value_i1 k_c1 .byte (1 : Int32) [(.int c1)] (.int (0 : Int32))) (P_F_o1_hash : Fld Z h0 o1 "java/lang/String" "hash" "I" (.int w_hash_o1)) (P_F_o1_hashIsZero : Fld Z h0 o1 "java/lang/String" "hashIsZero" "Z" (.int w_hashIsZero_o1)) (G_o1 : n0 ≤ o1) (G_i0 : n0 ≤ i0) (G_i1 : n0 ≤ i1) (G_w_ids_o0 : n0 ≤ w_ids_o0) (G_o0 : n0 ≤ o0) (G_w_slots_o0 : n0 ≤ w_slots_o0) :
    MetFree l (⟨"com/example/nestor/nestor/IdTable", "placeOf", "(Ljava/lang/String;)I"⟩ : MethodName) (head1 (Jvm.Cond.code (⟨"com/example/nestor/nestor/IdTable", "placeOf", "(Ljava/lang/String;)I"⟩ : MethodName) prog_10_method_5_code 3 (some .int) :: ws) ({ frames := 3, cells := 0, slots := 0, locals := 49 } : Room)) (fun a U => a = #[(.ref o0), (.ref o1)] ∧ Z.Warmed39 U.vm ∧ U.heap = h0) (fun _ _ _ _ _ => True) (fun _ U o U' => ∃ v L, o = .returned v ∧ own_Q9t2n Z o0 o1 x0 x1 k_s k_i k_d d i0 i1 k_c0 c0 k_c1 c1 z_COMPACT_STRINGS w_slots_o0 w_ids_o0 w_value_o1 w_hash_i0 w_hashIsZero_i0 w_value_i0 w_hash_i1 w_hashIsZero_i1 w_value_i1 w_hash_o1 w_hashIsZero_o1 h0 n0 v U'.heap L ∧ FrameEnd U o U' L ({ frames := 3, cells := 0, slots := 0, locals := 49 } : Room).cells ({ frames := 3, cells := 0, slots := 0, locals := 49 } : Room).slots) := by
  refine MetFree.of_bodySF (plainFor_of_name own_pn9) hisR ?_
  intro p e s m args below meth c s₁ Bd hml0 hP hK
  obtain ⟨rfl, hZ, hh⟩ := hP
  have hx := Bd.exec
  have hlk : meth.locks = false := BodyLoose.notSynchronized Bd
  have hby := Bd.bytes
  have hml : c.maxLocals = 3 := hml0
  have hown : s.vm.findClass "com/example/nestor/nestor/IdTable" = some m.cls := findClass_of_methodNamed Bd.named
  have hnm := (name_of_methodNamed Bd.named Bd.method).1
  have X0 : Stand p l e ({ frames := 3, cells := 0, slots := 0, locals := 49 } : Room) s m #[(.ref o0), (.ref o1)] below meth c s₁ [] 0 0 := Stand.of_body Bd
  have e0 : s₁.heap = h0 := by rw [← hh, Bd.state]; rfl
  have N0 := Fr.nil n0
  have pre0 : ∀ t, Steps p.tables e below (s₁.setTop (mkF m 0 #[.val (.ref o0), .val (.ref o1), .unset] [])) t → Steps p.tables e below (s₁.setTop (entryFrame m #[(.ref o0), (.ref o1)] 3)) t := fun t k => castTop (own_ef9t2n m o0 o1) k
  have f2 : Sta Z h0 "java/lang/String" "COMPACT_STRINGS" "Z" (.int z_COMPACT_STRINGS) := P_B_java_lang_String_COMPACT_STRINGS.ext P_O_.2
  obtain ⟨cq1, kq1, q1a, q1b, q1c⟩ := isOf hZ e0 P_E_o1
  obtain ⟨_, _, ⟨T1, L1, k1, n1⟩, -, X1, ⟨Lc1, hQ1, l1, y1, z1⟩, st1⟩ := X0.virtualBack hx (y := (⟨"java/lang/String", "hashCode", "()I"⟩ : MethodName)) (z := (⟨"java/lang/String", "hashCode", "()I"⟩ : MethodName)) hown (mvT hZ (hw _ (List.mem_of_getElem? (i := 66) rfl))) (mvT hZ (hw _ (List.mem_of_getElem? (i := 67) rfl))) (notFace_of_selects (args := #[]) (mvT hZ (hw _ (List.mem_of_getElem? (i := 69) rfl)))) (mvT hZ (hw _ (List.mem_of_getElem? (i := 69) rfl))) (mvT hZ (hw _ (List.mem_of_getElem? (i := 68) rfl))) (by decide) (backOf (W := 1) (own_rm10 l Z a0 hw [] o1 w_hash_o1 w_hashIsZero_o1 z_COMPACT_STRINGS w_value_o1 k_d d h0 n0 Z0 Hko P_F_o1_hash P_F_o1_hashIsZero P_F_o1_coder f2 HC P_E_o1 P_F_o1_value P_V_w_value_o1 G_o1) hZ (hw _ (List.mem_of_getElem? (i := 70) rfl)) (hw _ (List.mem_of_getElem? (i := 2) rfl)) (by decide) (by decide)) q1a q1c (g := (mkF m 2 #[.val (.ref o0), .val (.ref o1), .unset] [(.ref o1), (.ref o0)])) rfl (by rw [hml]; rfl) (Steps.refl _) (argsL := []) (rest := [(.ref o0)]) (lenOf own_pd9 rfl) rfl (by show 2 * 0 + _ ≤ _; exact Nat.le_of_eq rfl) (hb hby own_d9_2) (fun _ _ => ⟨rfl, e0, (by decide : 0 + 0 ≤ _), (by decide : 0 + 0 ≤ _)⟩)
  dsimp only [Pt.U, Pt.locs, Pt.cells, Pt.slots] at X1 l1 y1 z1 st1 hQ1
  subst y1 z1
  obtain ⟨hq1_o0, zq1_o0, rfl, N1q, K1, f3, f4, f5, f6, f7, ok8⟩ := hQ1
  have f9 : Old Z n0 T1.heap := P_O_.keep K1 (allS G_o1 all0)
  have f10 : Exa Z T1.heap o0 "com/example/nestor/nestor/IdTable" := P_E_o0.keep K1
  have f11 : Fld Z T1.heap o0 "com/example/nestor/nestor/IdTable" "slots" "[I" (.ref w_slots_o0) := P_F_o0_slots.keep K1 (ninS (Exa.ne P_E_o0 P_E_o1 (by decide)) nin0)
  have f12 : Arv Z T1.heap w_slots_o0 k_s .int (16 : Int32) (own_t2 x0 x1) (.int (0 : Int32)) := P_V_w_slots_o0.keep K1 (ninS (Ne.symm (Exa.neArv P_E_o1 P_V_w_slots_o0 (hw _ (List.mem_of_getElem? (i := 10) rfl)))) nin0)
  have f13 : Fld Z T1.heap o0 "com/example/nestor/nestor/IdTable" "ids" "[Ljava/lang/String;" (.ref w_ids_o0) := P_F_o0_ids.keep K1 (ninS (Exa.ne P_E_o0 P_E_o1 (by decide)) nin0)
  have f14 : Arv Z T1.heap w_ids_o0 k_i (.object "java/lang/String") (8 : Int32) [(.ref i0), (.ref i1), .null, .null, .null, .null, .null, .null] .null := P_V_w_ids_o0.keep K1 (ninS (Ne.symm (Exa.neArv P_E_o1 P_V_w_ids_o0 (hw _ (List.mem_of_getElem? (i := 10) rfl)))) nin0)
  have f15 : Fld Z T1.heap o0 "com/example/nestor/nestor/IdTable" "size" "I" (.int (2 : Int32)) := P_F_o0_size.keep K1 (ninS (Exa.ne P_E_o0 P_E_o1 (by decide)) nin0)
  have f16 : Arv Z T1.heap w_value_o1 k_d .byte (1 : Int32) [(.int d)] (.int (0 : Int32)) := P_V_w_value_o1.keep K1 (ninS (Ne.symm (Exa.neArv P_E_o1 P_V_w_value_o1 (hw _ (List.mem_of_getElem? (i := 10) rfl)))) nin0)
  have f17 : Exa Z T1.heap i0 "java/lang/String" := P_E_i0.keep K1
  have f18 : Fld Z T1.heap i0 "java/lang/String" "hash" "I" (.int w_hash_i0) := P_F_i0_hash.keep K1 (ninS (Ne.symm Ho0) nin0)
  have f19 : Fld Z T1.heap i0 "java/lang/String" "hashIsZero" "Z" (.int w_hashIsZero_i0) := P_F_i0_hashIsZero.keep K1 (ninS (Ne.symm Ho0) nin0)
  have f20 : Fld Z T1.heap i0 "java/lang/String" "coder" "B" (.int (0 : Int32)) := P_F_i0_coder.keep K1 (ninS (Ne.symm Ho0) nin0)
  have f21 : Fld Z T1.heap i0 "java/lang/String" "value" "[B" (.ref w_value_i0) := P_F_i0_value.keep K1 (ninS (Ne.symm Ho0) nin0)
  have f22 : Arv Z T1.heap w_value_i0 k_c0 .byte (1 : Int32) [(.int c0)] (.int (0 : Int32)) := P_V_w_value_i0.keep K1 (ninS (Ne.symm (Exa.neArv P_E_o1 P_V_w_value_i0 (hw _ (List.mem_of_getElem? (i := 10) rfl)))) nin0)
  have f23 : Exa Z T1.heap i1 "java/lang/String" := P_E_i1.keep K1
  have f24 : Fld Z T1.heap i1 "java/lang/String" "hash" "I" (.int w_hash_i1) := P_F_i1_hash.keep K1 (ninS (Ne.symm Ho1) nin0)
  have f25 : Fld Z T1.heap i1 "java/lang/String" "hashIsZero" "Z" (.int w_hashIsZero_i1) := P_F_i1_hashIsZero.keep K1 (ninS (Ne.symm Ho1) nin0)
  have f26 : Fld Z T1.heap i1 "java/lang/String" "coder" "B" (.int (0 : Int32)) := P_F_i1_coder.keep K1 (ninS (Ne.symm Ho1) nin0)
  have f27 : Fld Z T1.heap i1 "java/lang/String" "value" "[B" (.ref w_value_i1) := P_F_i1_value.keep K1 (ninS (Ne.symm Ho1) nin0)
  have f28 : Arv Z T1.heap w_value_i1 k_c1 .byte (1 : Int32) [(.int c1)] (.int (0 : Int32)) := P_V_w_value_i1.keep K1 (ninS (Ne.symm (Exa.neArv P_E_o1 P_V_w_value_i1 (hw _ (List.mem_of_getElem? (i := 10) rfl)))) nin0)
  have zs29 : n0 ≤ T1.heap.size := Nat.le_trans Z0 K1.1
  have K30 : Keep h0 h0 [o0, o1, i0, i1, w_slots_o0, w_ids_o0] := Keep.refl h0 [o0, o1, i0, i1, w_slots_o0, w_ids_o0]
  have K31 : Keep h0 T1.heap [o0, o1, i0, i1, w_slots_o0, w_ids_o0] := K30.trans K1 (allS (Or.inl (by simp)) all0)
  have N32 : Fr n0 L1 := by rw [l1]; exact Fr.app N0 N1q
  obtain ⟨cq33, q33, q33'⟩ := f10.cell
  obtain ⟨_, _, ⟨T33, L33, k33, n33⟩, -, X33, ⟨Lc33, hQ33, l33, y33, z33⟩, st33⟩ := X1.privateBack hx (y := (⟨"com/example/nestor/nestor/IdTable", "find", "(ILjava/lang/String;[BII)I"⟩ : MethodName)) hown (mvT hZ (hw _ (List.mem_of_getElem? (i := 83) rfl))) (mvT hZ (hw _ (List.mem_of_getElem? (i := 84) rfl))) (mvT hZ (own_sel3 Z a0 hw)) (Cond.privateMethod_at (mvP hZ (hw _ (List.mem_of_getElem? (i := 85) rfl)) (args := #[]))) (mvT hZ (hw _ (List.mem_of_getElem? (i := 86) rfl))) (by decide) (backOf (W := 0) (own_rm13t2 l Z a0 hw [] o0 (d &&& (255 : Int32)) o1 x0 x1 k_s k_i k_d d i0 i1 k_c0 c0 k_c1 c1 z_COMPACT_STRINGS w_slots_o0 w_ids_o0 w_value_o1 w_hash_i0 w_hashIsZero_i0 w_value_i0 w_hash_i1 w_hashIsZero_i1 w_value_i1 T1.heap n0 zs29 Hov HC Hx0 Hx1 Hxy Hi Ho0 Ho1 Hd Hb0 Hk0 Hb1 Hk1 rfl f10 f9 P_B_java_lang_String_COMPACT_STRINGS f11 f12 f13 f14 f4 f3 f5 f16 f17 f18 f19 f20 f21 f22 f23 f24 f25 f26 f27 f28 G_i0 G_i1) hZ (hw _ (List.mem_of_getElem? (i := 86) rfl)) (hw _ (List.mem_of_getElem? (i := 28) rfl)) (by decide) (by decide)) (g := (mkF m 9 #[.val (.ref o0), .val (.ref o1), .unset] [(.int (0 : Int32)), (.int (0 : Int32)), .null, (.ref o1), (.int (d &&& (255 : Int32))), (.ref o0)])) rfl (by rw [hml]; rfl) (Steps.refl _) (a := o0) q33 q33' (argsL := [(.int (d &&& (255 : Int32))), (.ref o1), .null, (.int (0 : Int32)), (.int (0 : Int32))]) (rest := []) (lenOf own_pd13 rfl) rfl (by show 2 * 0 + _ ≤ _; exact Nat.le_of_eq rfl) (hb hby own_d9_9) (fun _ _ => ⟨rfl, rfl, (by decide : 0 + 0 ≤ _), (by decide : 0 + 0 ≤ _)⟩)
  dsimp only [Pt.U, Pt.locs, Pt.cells, Pt.slots] at X33 l33 y33 z33 st33 hQ33
  subst y33 z33
  obtain ⟨hq33_i0, zq33_i0, hq33_i1, zq33_i1, rfl, N33q, K33, f34, f35, f36, f37, f38, f39, f40, f41, ok42, f43, f44, ok45⟩ := hQ33
  have f46 : Old Z n0 T33.heap := f9.keep K33 (allS G_i0 (allS G_i1 all0))
  have f47 : Exa Z T33.heap o0 "com/example/nestor/nestor/IdTable" := f10.keep K33
  have f48 : Fld Z T33.heap o0 "com/example/nestor/nestor/IdTable" "slots" "[I" (.ref w_slots_o0) := f11.keep K33 (ninS (Exa.ne f10 f17 (by decide)) (ninS (Exa.ne f10 f23 (by decide)) nin0))
  have f49 : Arv Z T33.heap w_slots_o0 k_s .int (16 : Int32) (own_t2 x0 x1) (.int (0 : Int32)) := f12.keep K33 (ninS (Ne.symm (Exa.neArv f17 f12 (hw _ (List.mem_of_getElem? (i := 10) rfl)))) (ninS (Ne.symm (Exa.neArv f23 f12 (hw _ (List.mem_of_getElem? (i := 10) rfl)))) nin0))
  have f50 : Fld Z T33.heap o0 "com/example/nestor/nestor/IdTable" "ids" "[Ljava/lang/String;" (.ref w_ids_o0) := f13.keep K33 (ninS (Exa.ne f10 f17 (by decide)) (ninS (Exa.ne f10 f23 (by decide)) nin0))
  have f51 : Arv Z T33.heap w_ids_o0 k_i (.object "java/lang/String") (8 : Int32) [(.ref i0), (.ref i1), .null, .null, .null, .null, .null, .null] .null := f14.keep K33 (ninS (Ne.symm (Exa.neArv f17 f14 (hw _ (List.mem_of_getElem? (i := 10) rfl)))) (ninS (Ne.symm (Exa.neArv f23 f14 (hw _ (List.mem_of_getElem? (i := 10) rfl)))) nin0))
  have f52 : Fld Z T33.heap o0 "com/example/nestor/nestor/IdTable" "size" "I" (.int (2 : Int32)) := f15.keep K33 (ninS (Exa.ne f10 f17 (by decide)) (ninS (Exa.ne f10 f23 (by decide)) nin0))
  have f53 : Exa Z T33.heap o1 "java/lang/String" := f4.keep K33
  have f54 : Fld Z T33.heap o1 "java/lang/String" "coder" "B" (.int (0 : Int32)) := f3.keep K33 (ninS Ho0 (ninS Ho1 nin0))
  have f55 : Fld Z T33.heap o1 "java/lang/String" "value" "[B" (.ref w_value_o1) := f5.keep K33 (ninS Ho0 (ninS Ho1 nin0))
  have f56 : Arv Z T33.heap w_value_o1 k_d .byte (1 : Int32) [(.int d)] (.int (0 : Int32)) := f16.keep K33 (ninS (Ne.symm (Exa.neArv f17 f16 (hw _ (List.mem_of_getElem? (i := 10) rfl)))) (ninS (Ne.symm (Exa.neArv f23 f16 (hw _ (List.mem_of_getElem? (i := 10) rfl)))) nin0))
  have f57 : Arv Z T33.heap w_value_i0 k_c0 .byte (1 : Int32) [(.int c0)] (.int (0 : Int32)) := f22.keep K33 (ninS (Ne.symm (Exa.neArv f17 f22 (hw _ (List.mem_of_getElem? (i := 10) rfl)))) (ninS (Ne.symm (Exa.neArv f23 f22 (hw _ (List.mem_of_getElem? (i := 10) rfl)))) nin0))
  have f58 : Arv Z T33.heap w_value_i1 k_c1 .byte (1 : Int32) [(.int c1)] (.int (0 : Int32)) := f28.keep K33 (ninS (Ne.symm (Exa.neArv f17 f28 (hw _ (List.mem_of_getElem? (i := 10) rfl)))) (ninS (Ne.symm (Exa.neArv f23 f28 (hw _ (List.mem_of_getElem? (i := 10) rfl)))) nin0))
  have f59 : Fld Z T33.heap o1 "java/lang/String" "hash" "I" (.int hq1_o0) := f6.keep K33 (ninS Ho0 (ninS Ho1 nin0))
  have f60 : Fld Z T33.heap o1 "java/lang/String" "hashIsZero" "Z" (.int zq1_o0) := f7.keep K33 (ninS Ho0 (ninS Ho1 nin0))
  have zs61 : n0 ≤ T33.heap.size := Nat.le_trans zs29 K33.1
  have K62 : Keep h0 T33.heap [o0, o1, i0, i1, w_slots_o0, w_ids_o0] := K31.trans K33 (allS (Or.inl (by simp)) (allS (Or.inl (by simp)) all0))
  have N63 : Fr n0 L33 := by rw [l33]; exact Fr.app N32 N33q
  obtain ⟨cq64, q64, q64'⟩ := f47.cell
  obtain ⟨_, _, ⟨T64, L64, k64, n64⟩, -, X64, ⟨Lc64, hQ64, l64, y64, z64⟩, st64⟩ := X33.privateBack hx (y := (⟨"com/example/nestor/nestor/IdTable", "placeOfUnfound", "(Ljava/lang/String;I)I"⟩ : MethodName)) hown (mvT hZ (hw _ (List.mem_of_getElem? (i := 97) rfl))) (mvT hZ (hw _ (List.mem_of_getElem? (i := 98) rfl))) (mvT hZ (own_sel4 Z a0 hw)) (Cond.privateMethod_at (mvP hZ (hw _ (List.mem_of_getElem? (i := 99) rfl)) (args := #[]))) (mvT hZ (hw _ (List.mem_of_getElem? (i := 100) rfl))) (by decide) (backOf (W := 0) (own_rm16t2 l Z a0 hw [] o0 o1 (own_f13t2 (d &&& (255 : Int32)) x0 x1 c0 c1) w_ids_o0 w_slots_o0 k_i i0 i1 k_s (own_t2 x0 x1) T33.heap n0 zs61 (own_g2 d x0 x1 c0 c1 Hx0 Hx1 Hf).1 Hne_w_ids_o0_w_slots_o0 f47 f53 f52 f50 f48 f51 f49 Hov G_w_ids_o0 G_o0 (own_g2 d x0 x1 c0 c1 Hx0 Hx1 Hf).2 (own_l2 x0 x1) G_w_slots_o0) hZ (hw _ (List.mem_of_getElem? (i := 100) rfl)) (hw _ (List.mem_of_getElem? (i := 28) rfl)) (by decide) (by decide)) (g := (mkF m 24 #[.val (.ref o0), .val (.ref o1), .val (.int (own_f13t2 (d &&& (255 : Int32)) x0 x1 c0 c1))] [(.int (own_f13t2 (d &&& (255 : Int32)) x0 x1 c0 c1)), (.ref o1), (.ref o0)])) rfl (by rw [hml]; rfl) (Steps.refl _) (a := o0) q64 q64' (argsL := [(.ref o1), (.int (own_f13t2 (d &&& (255 : Int32)) x0 x1 c0 c1))]) (rest := []) (lenOf own_pd12 rfl) rfl (by show 2 * 0 + _ ≤ _; exact Nat.le_of_eq rfl) (hb hby own_d9_24) (fun _ _ => ⟨rfl, rfl, (by decide : 0 + 0 ≤ _), (by decide : 0 + 0 ≤ _)⟩)
  dsimp only [Pt.U, Pt.locs, Pt.cells, Pt.slots] at X64 l64 y64 z64 st64 hQ64
  subst y64 z64
  obtain ⟨rfl, N64q, K64, f65, f66, f67, f68, f69, f70⟩ := hQ64
  have f71 : Old Z n0 T64.heap := f46.keep K64 (allS G_o0 (allS G_w_ids_o0 (allS G_w_slots_o0 all0)))
  have f72 : Exa Z T64.heap o1 "java/lang/String" := f53.keep K64
  have f73 : Fld Z T64.heap o1 "java/lang/String" "coder" "B" (.int (0 : Int32)) := f54.keep K64 (ninS (Exa.ne f53 f47 (by decide)) (ninS (Exa.neArv f53 f51 (hw _ (List.mem_of_getElem? (i := 10) rfl))) (ninS (Exa.neArv f53 f49 (hw _ (List.mem_of_getElem? (i := 10) rfl))) nin0)))
  have f74 : Fld Z T64.heap o1 "java/lang/String" "value" "[B" (.ref w_value_o1) := f55.keep K64 (ninS (Exa.ne f53 f47 (by decide)) (ninS (Exa.neArv f53 f51 (hw _ (List.mem_of_getElem? (i := 10) rfl))) (ninS (Exa.neArv f53 f49 (hw _ (List.mem_of_getElem? (i := 10) rfl))) nin0)))
  have f75 : Arv Z T64.heap w_value_o1 k_d .byte (1 : Int32) [(.int d)] (.int (0 : Int32)) := f56.keep K64 (ninS (Ne.symm (Exa.neArv f47 f56 (hw _ (List.mem_of_getElem? (i := 27) rfl)))) (ninS Hne_w_value_o1_w_ids_o0 (ninS Hne_w_value_o1_w_slots_o0 nin0)))
  have f76 : Exa Z T64.heap i0 "java/lang/String" := f34.keep K64
  have f77 : Fld Z T64.heap i0 "java/lang/String" "hash" "I" (.int hq33_i0) := f40.keep K64 (ninS (Exa.ne f34 f47 (by decide)) (ninS (Exa.neArv f34 f51 (hw _ (List.mem_of_getElem? (i := 10) rfl))) (ninS (Exa.neArv f34 f49 (hw _ (List.mem_of_getElem? (i := 10) rfl))) nin0)))
  have f78 : Fld Z T64.heap i0 "java/lang/String" "hashIsZero" "Z" (.int zq33_i0) := f41.keep K64 (ninS (Exa.ne f34 f47 (by decide)) (ninS (Exa.neArv f34 f51 (hw _ (List.mem_of_getElem? (i := 10) rfl))) (ninS (Exa.neArv f34 f49 (hw _ (List.mem_of_getElem? (i := 10) rfl))) nin0)))
  have f79 : Fld Z T64.heap i0 "java/lang/String" "coder" "B" (.int (0 : Int32)) := f35.keep K64 (ninS (Exa.ne f34 f47 (by decide)) (ninS (Exa.neArv f34 f51 (hw _ (List.mem_of_getElem? (i := 10) rfl))) (ninS (Exa.neArv f34 f49 (hw _ (List.mem_of_getElem? (i := 10) rfl))) nin0)))
  have f80 : Fld Z T64.heap i0 "java/lang/String" "value" "[B" (.ref w_value_i0) := f36.keep K64 (ninS (Exa.ne f34 f47 (by decide)) (ninS (Exa.neArv f34 f51 (hw _ (List.mem_of_getElem? (i := 10) rfl))) (ninS (Exa.neArv f34 f49 (hw _ (List.mem_of_getElem? (i := 10) rfl))) nin0)))
  have f81 : Arv Z T64.heap w_value_i0 k_c0 .byte (1 : Int32) [(.int c0)] (.int (0 : Int32)) := f57.keep K64 (ninS (Ne.symm (Exa.neArv f47 f57 (hw _ (List.mem_of_getElem? (i := 27) rfl)))) (ninS Hne_w_value_i0_w_ids_o0 (ninS Hne_w_value_i0_w_slots_o0 nin0)))
  have f82 : Exa Z T64.heap i1 "java/lang/String" := f37.keep K64
  have f83 : Fld Z T64.heap i1 "java/lang/String" "hash" "I" (.int hq33_i1) := f43.keep K64 (ninS (Exa.ne f37 f47 (by decide)) (ninS (Exa.neArv f37 f51 (hw _ (List.mem_of_getElem? (i := 10) rfl))) (ninS (Exa.neArv f37 f49 (hw _ (List.mem_of_getElem? (i := 10) rfl))) nin0)))
  have f84 : Fld Z T64.heap i1 "java/lang/String" "hashIsZero" "Z" (.int zq33_i1) := f44.keep K64 (ninS (Exa.ne f37 f47 (by decide)) (ninS (Exa.neArv f37 f51 (hw _ (List.mem_of_getElem? (i := 10) rfl))) (ninS (Exa.neArv f37 f49 (hw _ (List.mem_of_getElem? (i := 10) rfl))) nin0)))
  have f85 : Fld Z T64.heap i1 "java/lang/String" "coder" "B" (.int (0 : Int32)) := f38.keep K64 (ninS (Exa.ne f37 f47 (by decide)) (ninS (Exa.neArv f37 f51 (hw _ (List.mem_of_getElem? (i := 10) rfl))) (ninS (Exa.neArv f37 f49 (hw _ (List.mem_of_getElem? (i := 10) rfl))) nin0)))
  have f86 : Fld Z T64.heap i1 "java/lang/String" "value" "[B" (.ref w_value_i1) := f39.keep K64 (ninS (Exa.ne f37 f47 (by decide)) (ninS (Exa.neArv f37 f51 (hw _ (List.mem_of_getElem? (i := 10) rfl))) (ninS (Exa.neArv f37 f49 (hw _ (List.mem_of_getElem? (i := 10) rfl))) nin0)))
  have f87 : Arv Z T64.heap w_value_i1 k_c1 .byte (1 : Int32) [(.int c1)] (.int (0 : Int32)) := f58.keep K64 (ninS (Ne.symm (Exa.neArv f47 f58 (hw _ (List.mem_of_getElem? (i := 27) rfl)))) (ninS Hne_w_value_i1_w_ids_o0 (ninS Hne_w_value_i1_w_slots_o0 nin0)))
  have f88 : Fld Z T64.heap o1 "java/lang/String" "hash" "I" (.int hq1_o0) := f59.keep K64 (ninS (Exa.ne f53 f47 (by decide)) (ninS (Exa.neArv f53 f51 (hw _ (List.mem_of_getElem? (i := 10) rfl))) (ninS (Exa.neArv f53 f49 (hw _ (List.mem_of_getElem? (i := 10) rfl))) nin0)))
  have f89 : Fld Z T64.heap o1 "java/lang/String" "hashIsZero" "Z" (.int zq1_o0) := f60.keep K64 (ninS (Exa.ne f53 f47 (by decide)) (ninS (Exa.neArv f53 f51 (hw _ (List.mem_of_getElem? (i := 10) rfl))) (ninS (Exa.neArv f53 f49 (hw _ (List.mem_of_getElem? (i := 10) rfl))) nin0)))
  have zs90 : n0 ≤ T64.heap.size := Nat.le_trans zs61 K64.1
  have K91 : Keep h0 T64.heap [o0, o1, i0, i1, w_slots_o0, w_ids_o0] := K62.trans K64 (allS (Or.inl (by simp)) (allS (Or.inl (by simp)) (allS (Or.inl (by simp)) all0)))
  have N92 : Fr n0 L64 := by rw [l64]; exact Fr.app N63 N64q
  have pre93 : ∀ t, Steps p.tables e below (T64.setTop (mkF m 27 #[.val (.ref o0), .val (.ref o1), .val (.int (own_f13t2 (d &&& (255 : Int32)) x0 x1 c0 c1))] [(.int (2 : Int32))])) t → Steps p.tables e below (s₁.setTop (entryFrame m #[(.ref o0), (.ref o1)] 3)) t := fun t k => pre0 t (by
      refine XS.aloadN X0.here hx rfl (hb hby own_d9_0) rfl rfl ?_
      show Steps p.tables e below (s₁.setTop (mkF m 1 #[.val (.ref o0), .val (.ref o1), .unset] [(.ref o0)])) _
      refine XS.aloadN X0.here hx rfl (hb hby own_d9_1) rfl rfl ?_
      refine st1.trans ?_
      show Steps p.tables e below (T1.setTop (mkF m 5 #[.val (.ref o0), .val (.ref o1), .unset] [(.int (d &&& (255 : Int32))), (.ref o0)])) _
      refine XS.aloadN X1.here hx rfl (hb hby own_d9_5) rfl rfl ?_
      refine XS.aconstNull X1.here hx rfl (hb hby own_d9_6) ?_
      refine XS.iconst X1.here hx rfl (hb hby own_d9_7) ?_
      refine XS.iconst X1.here hx rfl (hb hby own_d9_8) ?_
      show Steps p.tables e below (T1.setTop (mkF m 9 #[.val (.ref o0), .val (.ref o1), .unset] [(.int (0 : Int32)), (.int (0 : Int32)), .null, (.ref o1), (.int (d &&& (255 : Int32))), (.ref o0)])) _
      refine st33.trans ?_
      show Steps p.tables e below (T33.setTop (mkF m 12 #[.val (.ref o0), .val (.ref o1), .unset] [(.int (own_f13t2 (d &&& (255 : Int32)) x0 x1 c0 c1))])) _
      refine XS.istoreN X33.here hx rfl (hb hby own_d9_12) rfl (l' := #[.val (.ref o0), .val (.ref o1), .val (.int (own_f13t2 (d &&& (255 : Int32)) x0 x1 c0 c1))]) rfl ?_
      refine XS.iloadN X33.here hx rfl (hb hby own_d9_13) rfl ?_
      refine XS.ifYes X33.here hx rfl (pc0 := 14) (pc' := 21) rfl (hb hby own_d9_14) rfl ((if0 _ _).trans (tlt Hf).1) (by decide) (by decide) ?_
      refine XS.aloadN X33.here hx rfl (hb hby own_d9_21) rfl rfl ?_
      show Steps p.tables e below (T33.setTop (mkF m 22 #[.val (.ref o0), .val (.ref o1), .val (.int (own_f13t2 (d &&& (255 : Int32)) x0 x1 c0 c1))] [(.ref o0)])) _
      refine XS.aloadN X33.here hx rfl (hb hby own_d9_22) rfl rfl ?_
      refine XS.iloadN X33.here hx rfl (hb hby own_d9_23) rfl ?_
      refine st64.trans ?_
      show Steps p.tables e below (T64.setTop (mkF m 27 #[.val (.ref o0), .val (.ref o1), .val (.int (own_f13t2 (d &&& (255 : Int32)) x0 x1 c0 c1))] [(.int (2 : Int32))])) _
      exact k)
  obtain ⟨fs, hr, hrun, hended, hW, hsame⟩ := X64.leave (v := some (.int (2 : Int32))) (fun h => by rw [Bd.returns] at h; cases h) (hlocks := hlk)
  refine ⟨_, _, pre93 _ ?_, hrun, hended, _, _, rfl, ?_, ⟨_, rfl⟩, hW, hsame.mono (by decide) (by decide)⟩
  · show Steps p.tables e below (T64.setTop (mkF m 27 #[.val (.ref o0), .val (.ref o1), .val (.int (own_f13t2 (d &&& (255 : Int32)) x0 x1 c0 c1))] [(.int (2 : Int32))])) _
    exact retI X64 hx Bd.returns (hb hby own_d9_27) hr
  · show own_Q9t2n Z o0 o1 x0 x1 k_s k_i k_d d i0 i1 k_c0 c0 k_c1 c1 z_COMPACT_STRINGS w_slots_o0 w_ids_o0 w_value_o1 w_hash_i0 w_hashIsZero_i0 w_value_i0 w_hash_i1 w_hashIsZero_i1 w_value_i1 w_hash_o1 w_hashIsZero_o1 h0 n0 _ T64.heap _; exact ⟨hq1_o0, zq1_o0, hq33_i0, zq33_i0, hq33_i1, zq33_i1, rfl, N92, K91, f65, f68, f70, f67, f69, f66, f72, f73, f74, f76, f79, f80, f82, f85, f86, f88, f89, ok8, f77, f78, ok42, f83, f84, ok45⟩
theorem own_ef9t2f0 (m : MethodId) (x0 : Addr) (x1 : Addr) : entryFrame m #[(.ref x0), (.ref x1)] 3 = (mkF m 0 #[.val (.ref x0), .val (.ref x1), .unset] []) := by first | (simp [entryFrame, mkF, argsToLocals, Value.category]; done) | rfl
def own_f9t2f0 (x0 : Int32) (x1 : Int32) (d : Int32) (c0 : Int32) (c1 : Int32) : Int32 := (own_f13t2 (d &&& (255 : Int32)) x0 x1 c0 c1)
def own_Q9t2f0 (Z : State) (o0 : Addr) (o1 : Addr) (x0 : Int32) (x1 : Int32) (k_s : ClassId) (k_i : ClassId) (k_d : ClassId) (d : Int32) (i0 : Addr) (i1 : Addr) (k_c0 : ClassId) (c0 : Int32) (k_c1 : ClassId) (c1 : Int32) (z_COMPACT_STRINGS : Int32) (w_slots_o0 : Addr) (w_ids_o0 : Addr) (w_value_o1 : Addr) (w_hash_i0 : Int32) (w_hashIsZero_i0 : Int32) (w_value_i0 : Addr) (w_hash_i1 : Int32) (w_hashIsZero_i1 : Int32) (w_value_i1 : Addr) (w_hash_o1 : Int32) (w_hashIsZero_o1 : Int32) (h0 : Heap) (n0 : Nat) (v : Option Value) (h : Heap) (L : List Loc) : Prop := ∃ hq_o1 zq_o1 : Int32, ∃ hq_i0 zq_i0 : Int32, ∃ hq_i1 zq_i1 : Int32, v = some (.int (0 : Int32)) ∧ Fr n0 L ∧ Keep h0 h [o1, i0, i1] ∧ Exa Z h o1 "java/lang/String" ∧ Fld Z h o1 "java/lang/String" "coder" "B" (.int (0 : Int32)) ∧ Fld Z h o1 "java/lang/String" "value" "[B" (.ref w_value_o1) ∧ Exa Z h i0 "java/lang/String" ∧ Fld Z h i0 "java/lang/String" "coder" "B" (.int (0 : Int32)) ∧ Fld Z h i0 "java/lang/String" "value" "[B" (.ref w_value_i0) ∧ Exa Z h i1 "java/lang/String" ∧ Fld Z h i1 "java/lang/String" "coder" "B" (.int (0 : Int32)) ∧ Fld Z h i1 "java/lang/String" "value" "[B" (.ref w_value_i1) ∧ Fld Z h o1 "java/lang/String" "hash" "I" (.int hq_o1) ∧ Fld Z h o1 "java/lang/String" "hashIsZero" "Z" (.int zq_o1) ∧ own_ok hq_o1 zq_o1 d ∧ Fld Z h i0 "java/lang/String" "hash" "I" (.int hq_i0) ∧ Fld Z h i0 "java/lang/String" "hashIsZero" "Z" (.int zq_i0) ∧ own_ok hq_i0 zq_i0 c0 ∧ Fld Z h i1 "java/lang/String" "hash" "I" (.int hq_i1) ∧ Fld Z h i1 "java/lang/String" "hashIsZero" "Z" (.int zq_i1) ∧ own_ok hq_i1 zq_i1 c1
set_option maxRecDepth 65536 in
set_option maxHeartbeats 40000000 in
theorem own_rm9t2f0 (l : Launch) (Z : State) (a0 : Array Value) (hw : ∀ d ∈ tables_1, d.before a0 Z = true) (ws : List Jvm.Cond) (o0 : Addr) (o1 : Addr) (x0 : Int32) (x1 : Int32) (k_s : ClassId) (k_i : ClassId) (k_d : ClassId) (d : Int32) (i0 : Addr) (i1 : Addr) (k_c0 : ClassId) (c0 : Int32) (k_c1 : ClassId) (c1 : Int32) (z_COMPACT_STRINGS : Int32) (w_slots_o0 : Addr) (w_ids_o0 : Addr) (w_value_o1 : Addr) (w_hash_i0 : Int32) (w_hashIsZero_i0 : Int32) (w_value_i0 : Addr) (w_hash_i1 : Int32) (w_hashIsZero_i1 : Int32) (w_value_i1 : Addr) (w_hash_o1 : Int32) (w_hashIsZero_o1 : Int32) (h0 : Heap) (n0 : Nat) (Z0 : n0 ≤ h0.size) (Hov : Ovr Z k_i "java/lang/String") (HC : ¬ (z_COMPACT_STRINGS = (0 : Int32))) (Hx0 : own_in x0) (Hx1 : own_in x1) (Hxy : ¬ x0 = x1) (Hi : i0 ≠ i1) (Ho0 : o1 ≠ i0) (Ho1 : o1 ≠ i1) (Hd : own_by d) (Hb0 : own_by c0) (Hk0 : own_ok w_hash_i0 w_hashIsZero_i0 c0) (Hb1 : own_by c1) (Hk1 : own_ok w_hash_i1 w_hashIsZero_i1 c1) (Hko : own_ok w_hash_o1 w_hashIsZero_o1 d) (Hf : own_f13t2 (d &&& (255 : Int32)) x0 x1 c0 c1 = (0 : Int32)) (P_E_o0 : Exa Z h0 o0 "com/example/nestor/nestor/IdTable") (P_O_ : Old Z n0 h0) (P_B_java_lang_String_COMPACT_STRINGS : Sta Z Z.heap "java/lang/String" "COMPACT_STRINGS" "Z" (.int z_COMPACT_STRINGS)) (P_F_o0_slots : Fld Z h0 o0 "com/example/nestor/nestor/IdTable" "slots" "[I" (.ref w_slots_o0)) (P_V_w_slots_o0 : Arv Z h0 w_slots_o0 k_s .int (16 : Int32) (own_t2 x0 x1) (.int (0 : Int32))) (P_F_o0_ids : Fld Z h0 o0 "com/example/nestor/nestor/IdTable" "ids" "[Ljava/lang/String;" (.ref w_ids_o0)) (P_V_w_ids_o0 : Arv Z h0 w_ids_o0 k_i (.object "java/lang/String") (8 : Int32) [(.ref i0), (.ref i1), .null, .null, .null, .null, .null, .null] .null) (P_F_o0_size : Fld Z h0 o0 "com/example/nestor/nestor/IdTable" "size" "I" (.int (2 : Int32))) (P_E_o1 : Exa Z h0 o1 "java/lang/String") (P_F_o1_coder : Fld Z h0 o1 "java/lang/String" "coder" "B" (.int (0 : Int32))) (P_F_o1_value : Fld Z h0 o1 "java/lang/String" "value" "[B" (.ref w_value_o1)) (P_V_w_value_o1 : Arv Z h0 w_value_o1 k_d .byte (1 : Int32) [(.int d)] (.int (0 : Int32))) (P_E_i0 : Exa Z h0 i0 "java/lang/String") (P_F_i0_hash : Fld Z h0 i0 "java/lang/String" "hash" "I" (.int w_hash_i0)) (P_F_i0_hashIsZero : Fld Z h0 i0 "java/lang/String" "hashIsZero" "Z" (.int w_hashIsZero_i0)) (P_F_i0_coder : Fld Z h0 i0 "java/lang/String" "coder" "B" (.int (0 : Int32))) (P_F_i0_value : Fld Z h0 i0 "java/lang/String" "value" "[B" (.ref w_value_i0)) (P_V_w_value_i0 : Arv Z h0 w_value_i0 k_c0 .byte (1 : Int32) [(.int c0)] (.int (0 : Int32))) (P_E_i1 : Exa Z h0 i1 "java/lang/String") (P_F_i1_hash : Fld Z h0 i1 "java/lang/String" "hash" "I" (.int w_hash_i1)) (P_F_i1_hashIsZero : Fld Z h0 i1 "java/lang/String" "hashIsZero" "Z" (.int w_hashIsZero_i1)) (P_F_i1_coder : Fld Z h0 i1 "java/lang/String" "coder" "B" (.int (0 : Int32))) (P_F_i1_value : Fld Z h0 i1 "java/lang/String" "value" "[B" (.ref w_value_i1)) (P_V_w_value_i1 : Arv Z h0 w_value_i1 k_c1 .byte (1 : Int32) [(.int c1)] (.int (0 : Int32))) (P_F_o1_hash : Fld Z h0 o1 "java/lang/String" "hash" "I" (.int w_hash_o1)) (P_F_o1_hashIsZero : Fld Z h0 o1 "java/lang/String" "hashIsZero" "Z" (.int w_hashIsZero_o1)) (G_o1 : n0 ≤ o1) (G_i0 : n0 ≤ i0) (G_i1 : n0 ≤ i1) :
    MetFree l (⟨"com/example/nestor/nestor/IdTable", "placeOf", "(Ljava/lang/String;)I"⟩ : MethodName) (head1 (Jvm.Cond.code (⟨"com/example/nestor/nestor/IdTable", "placeOf", "(Ljava/lang/String;)I"⟩ : MethodName) prog_10_method_5_code 3 (some .int) :: ws) ({ frames := 3, cells := 0, slots := 0, locals := 49 } : Room)) (fun a U => a = #[(.ref o0), (.ref o1)] ∧ Z.Warmed39 U.vm ∧ U.heap = h0) (fun _ _ _ _ _ => True) (fun _ U o U' => ∃ v L, o = .returned v ∧ own_Q9t2f0 Z o0 o1 x0 x1 k_s k_i k_d d i0 i1 k_c0 c0 k_c1 c1 z_COMPACT_STRINGS w_slots_o0 w_ids_o0 w_value_o1 w_hash_i0 w_hashIsZero_i0 w_value_i0 w_hash_i1 w_hashIsZero_i1 w_value_i1 w_hash_o1 w_hashIsZero_o1 h0 n0 v U'.heap L ∧ FrameEnd U o U' L ({ frames := 3, cells := 0, slots := 0, locals := 49 } : Room).cells ({ frames := 3, cells := 0, slots := 0, locals := 49 } : Room).slots) := by
  refine MetFree.of_bodySF (plainFor_of_name own_pn9) hisR ?_
  intro p e s m args below meth c s₁ Bd hml0 hP hK
  obtain ⟨rfl, hZ, hh⟩ := hP
  have hx := Bd.exec
  have hlk : meth.locks = false := BodyLoose.notSynchronized Bd
  have hby := Bd.bytes
  have hml : c.maxLocals = 3 := hml0
  have hown : s.vm.findClass "com/example/nestor/nestor/IdTable" = some m.cls := findClass_of_methodNamed Bd.named
  have hnm := (name_of_methodNamed Bd.named Bd.method).1
  have X0 : Stand p l e ({ frames := 3, cells := 0, slots := 0, locals := 49 } : Room) s m #[(.ref o0), (.ref o1)] below meth c s₁ [] 0 0 := Stand.of_body Bd
  have e0 : s₁.heap = h0 := by rw [← hh, Bd.state]; rfl
  have N0 := Fr.nil n0
  have pre0 : ∀ t, Steps p.tables e below (s₁.setTop (mkF m 0 #[.val (.ref o0), .val (.ref o1), .unset] [])) t → Steps p.tables e below (s₁.setTop (entryFrame m #[(.ref o0), (.ref o1)] 3)) t := fun t k => castTop (own_ef9t2f0 m o0 o1) k
  have f2 : Sta Z h0 "java/lang/String" "COMPACT_STRINGS" "Z" (.int z_COMPACT_STRINGS) := P_B_java_lang_String_COMPACT_STRINGS.ext P_O_.2
  obtain ⟨cq1, kq1, q1a, q1b, q1c⟩ := isOf hZ e0 P_E_o1
  obtain ⟨_, _, ⟨T1, L1, k1, n1⟩, -, X1, ⟨Lc1, hQ1, l1, y1, z1⟩, st1⟩ := X0.virtualBack hx (y := (⟨"java/lang/String", "hashCode", "()I"⟩ : MethodName)) (z := (⟨"java/lang/String", "hashCode", "()I"⟩ : MethodName)) hown (mvT hZ (hw _ (List.mem_of_getElem? (i := 66) rfl))) (mvT hZ (hw _ (List.mem_of_getElem? (i := 67) rfl))) (notFace_of_selects (args := #[]) (mvT hZ (hw _ (List.mem_of_getElem? (i := 69) rfl)))) (mvT hZ (hw _ (List.mem_of_getElem? (i := 69) rfl))) (mvT hZ (hw _ (List.mem_of_getElem? (i := 68) rfl))) (by decide) (backOf (W := 1) (own_rm10 l Z a0 hw [] o1 w_hash_o1 w_hashIsZero_o1 z_COMPACT_STRINGS w_value_o1 k_d d h0 n0 Z0 Hko P_F_o1_hash P_F_o1_hashIsZero P_F_o1_coder f2 HC P_E_o1 P_F_o1_value P_V_w_value_o1 G_o1) hZ (hw _ (List.mem_of_getElem? (i := 70) rfl)) (hw _ (List.mem_of_getElem? (i := 2) rfl)) (by decide) (by decide)) q1a q1c (g := (mkF m 2 #[.val (.ref o0), .val (.ref o1), .unset] [(.ref o1), (.ref o0)])) rfl (by rw [hml]; rfl) (Steps.refl _) (argsL := []) (rest := [(.ref o0)]) (lenOf own_pd9 rfl) rfl (by show 2 * 0 + _ ≤ _; exact Nat.le_of_eq rfl) (hb hby own_d9_2) (fun _ _ => ⟨rfl, e0, (by decide : 0 + 0 ≤ _), (by decide : 0 + 0 ≤ _)⟩)
  dsimp only [Pt.U, Pt.locs, Pt.cells, Pt.slots] at X1 l1 y1 z1 st1 hQ1
  subst y1 z1
  obtain ⟨hq1_o0, zq1_o0, rfl, N1q, K1, f3, f4, f5, f6, f7, ok8⟩ := hQ1
  have f9 : Old Z n0 T1.heap := P_O_.keep K1 (allS G_o1 all0)
  have f10 : Exa Z T1.heap o0 "com/example/nestor/nestor/IdTable" := P_E_o0.keep K1
  have f11 : Fld Z T1.heap o0 "com/example/nestor/nestor/IdTable" "slots" "[I" (.ref w_slots_o0) := P_F_o0_slots.keep K1 (ninS (Exa.ne P_E_o0 P_E_o1 (by decide)) nin0)
  have f12 : Arv Z T1.heap w_slots_o0 k_s .int (16 : Int32) (own_t2 x0 x1) (.int (0 : Int32)) := P_V_w_slots_o0.keep K1 (ninS (Ne.symm (Exa.neArv P_E_o1 P_V_w_slots_o0 (hw _ (List.mem_of_getElem? (i := 10) rfl)))) nin0)
  have f13 : Fld Z T1.heap o0 "com/example/nestor/nestor/IdTable" "ids" "[Ljava/lang/String;" (.ref w_ids_o0) := P_F_o0_ids.keep K1 (ninS (Exa.ne P_E_o0 P_E_o1 (by decide)) nin0)
  have f14 : Arv Z T1.heap w_ids_o0 k_i (.object "java/lang/String") (8 : Int32) [(.ref i0), (.ref i1), .null, .null, .null, .null, .null, .null] .null := P_V_w_ids_o0.keep K1 (ninS (Ne.symm (Exa.neArv P_E_o1 P_V_w_ids_o0 (hw _ (List.mem_of_getElem? (i := 10) rfl)))) nin0)
  have f15 : Fld Z T1.heap o0 "com/example/nestor/nestor/IdTable" "size" "I" (.int (2 : Int32)) := P_F_o0_size.keep K1 (ninS (Exa.ne P_E_o0 P_E_o1 (by decide)) nin0)
  have f16 : Arv Z T1.heap w_value_o1 k_d .byte (1 : Int32) [(.int d)] (.int (0 : Int32)) := P_V_w_value_o1.keep K1 (ninS (Ne.symm (Exa.neArv P_E_o1 P_V_w_value_o1 (hw _ (List.mem_of_getElem? (i := 10) rfl)))) nin0)
  have f17 : Exa Z T1.heap i0 "java/lang/String" := P_E_i0.keep K1
  have f18 : Fld Z T1.heap i0 "java/lang/String" "hash" "I" (.int w_hash_i0) := P_F_i0_hash.keep K1 (ninS (Ne.symm Ho0) nin0)
  have f19 : Fld Z T1.heap i0 "java/lang/String" "hashIsZero" "Z" (.int w_hashIsZero_i0) := P_F_i0_hashIsZero.keep K1 (ninS (Ne.symm Ho0) nin0)
  have f20 : Fld Z T1.heap i0 "java/lang/String" "coder" "B" (.int (0 : Int32)) := P_F_i0_coder.keep K1 (ninS (Ne.symm Ho0) nin0)
  have f21 : Fld Z T1.heap i0 "java/lang/String" "value" "[B" (.ref w_value_i0) := P_F_i0_value.keep K1 (ninS (Ne.symm Ho0) nin0)
  have f22 : Arv Z T1.heap w_value_i0 k_c0 .byte (1 : Int32) [(.int c0)] (.int (0 : Int32)) := P_V_w_value_i0.keep K1 (ninS (Ne.symm (Exa.neArv P_E_o1 P_V_w_value_i0 (hw _ (List.mem_of_getElem? (i := 10) rfl)))) nin0)
  have f23 : Exa Z T1.heap i1 "java/lang/String" := P_E_i1.keep K1
  have f24 : Fld Z T1.heap i1 "java/lang/String" "hash" "I" (.int w_hash_i1) := P_F_i1_hash.keep K1 (ninS (Ne.symm Ho1) nin0)
  have f25 : Fld Z T1.heap i1 "java/lang/String" "hashIsZero" "Z" (.int w_hashIsZero_i1) := P_F_i1_hashIsZero.keep K1 (ninS (Ne.symm Ho1) nin0)
  have f26 : Fld Z T1.heap i1 "java/lang/String" "coder" "B" (.int (0 : Int32)) := P_F_i1_coder.keep K1 (ninS (Ne.symm Ho1) nin0)
  have f27 : Fld Z T1.heap i1 "java/lang/String" "value" "[B" (.ref w_value_i1) := P_F_i1_value.keep K1 (ninS (Ne.symm Ho1) nin0)
  have f28 : Arv Z T1.heap w_value_i1 k_c1 .byte (1 : Int32) [(.int c1)] (.int (0 : Int32)) := P_V_w_value_i1.keep K1 (ninS (Ne.symm (Exa.neArv P_E_o1 P_V_w_value_i1 (hw _ (List.mem_of_getElem? (i := 10) rfl)))) nin0)
  have zs29 : n0 ≤ T1.heap.size := Nat.le_trans Z0 K1.1
  have K30 : Keep h0 h0 [o1, i0, i1] := Keep.refl h0 [o1, i0, i1]
  have K31 : Keep h0 T1.heap [o1, i0, i1] := K30.trans K1 (allS (Or.inl (by simp)) all0)
  have N32 : Fr n0 L1 := by rw [l1]; exact Fr.app N0 N1q
  obtain ⟨cq33, q33, q33'⟩ := f10.cell
  obtain ⟨_, _, ⟨T33, L33, k33, n33⟩, -, X33, ⟨Lc33, hQ33, l33, y33, z33⟩, st33⟩ := X1.privateBack hx (y := (⟨"com/example/nestor/nestor/IdTable", "find", "(ILjava/lang/String;[BII)I"⟩ : MethodName)) hown (mvT hZ (hw _ (List.mem_of_getElem? (i := 83) rfl))) (mvT hZ (hw _ (List.mem_of_getElem? (i := 84) rfl))) (mvT hZ (own_sel3 Z a0 hw)) (Cond.privateMethod_at (mvP hZ (hw _ (List.mem_of_getElem? (i := 85) rfl)) (args := #[]))) (mvT hZ (hw _ (List.mem_of_getElem? (i := 86) rfl))) (by decide) (backOf (W := 0) (own_rm13t2 l Z a0 hw [] o0 (d &&& (255 : Int32)) o1 x0 x1 k_s k_i k_d d i0 i1 k_c0 c0 k_c1 c1 z_COMPACT_STRINGS w_slots_o0 w_ids_o0 w_value_o1 w_hash_i0 w_hashIsZero_i0 w_value_i0 w_hash_i1 w_hashIsZero_i1 w_value_i1 T1.heap n0 zs29 Hov HC Hx0 Hx1 Hxy Hi Ho0 Ho1 Hd Hb0 Hk0 Hb1 Hk1 rfl f10 f9 P_B_java_lang_String_COMPACT_STRINGS f11 f12 f13 f14 f4 f3 f5 f16 f17 f18 f19 f20 f21 f22 f23 f24 f25 f26 f27 f28 G_i0 G_i1) hZ (hw _ (List.mem_of_getElem? (i := 86) rfl)) (hw _ (List.mem_of_getElem? (i := 28) rfl)) (by decide) (by decide)) (g := (mkF m 9 #[.val (.ref o0), .val (.ref o1), .unset] [(.int (0 : Int32)), (.int (0 : Int32)), .null, (.ref o1), (.int (d &&& (255 : Int32))), (.ref o0)])) rfl (by rw [hml]; rfl) (Steps.refl _) (a := o0) q33 q33' (argsL := [(.int (d &&& (255 : Int32))), (.ref o1), .null, (.int (0 : Int32)), (.int (0 : Int32))]) (rest := []) (lenOf own_pd13 rfl) rfl (by show 2 * 0 + _ ≤ _; exact Nat.le_of_eq rfl) (hb hby own_d9_9) (fun _ _ => ⟨rfl, rfl, (by decide : 0 + 0 ≤ _), (by decide : 0 + 0 ≤ _)⟩)
  dsimp only [Pt.U, Pt.locs, Pt.cells, Pt.slots] at X33 l33 y33 z33 st33 hQ33
  subst y33 z33
  obtain ⟨hq33_i0, zq33_i0, hq33_i1, zq33_i1, rfl, N33q, K33, f34, f35, f36, f37, f38, f39, f40, f41, ok42, f43, f44, ok45⟩ := hQ33
  have f46 : Old Z n0 T33.heap := f9.keep K33 (allS G_i0 (allS G_i1 all0))
  have f47 : Exa Z T33.heap o0 "com/example/nestor/nestor/IdTable" := f10.keep K33
  have f48 : Fld Z T33.heap o0 "com/example/nestor/nestor/IdTable" "slots" "[I" (.ref w_slots_o0) := f11.keep K33 (ninS (Exa.ne f10 f17 (by decide)) (ninS (Exa.ne f10 f23 (by decide)) nin0))
  have f49 : Arv Z T33.heap w_slots_o0 k_s .int (16 : Int32) (own_t2 x0 x1) (.int (0 : Int32)) := f12.keep K33 (ninS (Ne.symm (Exa.neArv f17 f12 (hw _ (List.mem_of_getElem? (i := 10) rfl)))) (ninS (Ne.symm (Exa.neArv f23 f12 (hw _ (List.mem_of_getElem? (i := 10) rfl)))) nin0))
  have f50 : Fld Z T33.heap o0 "com/example/nestor/nestor/IdTable" "ids" "[Ljava/lang/String;" (.ref w_ids_o0) := f13.keep K33 (ninS (Exa.ne f10 f17 (by decide)) (ninS (Exa.ne f10 f23 (by decide)) nin0))
  have f51 : Arv Z T33.heap w_ids_o0 k_i (.object "java/lang/String") (8 : Int32) [(.ref i0), (.ref i1), .null, .null, .null, .null, .null, .null] .null := f14.keep K33 (ninS (Ne.symm (Exa.neArv f17 f14 (hw _ (List.mem_of_getElem? (i := 10) rfl)))) (ninS (Ne.symm (Exa.neArv f23 f14 (hw _ (List.mem_of_getElem? (i := 10) rfl)))) nin0))
  have f52 : Fld Z T33.heap o0 "com/example/nestor/nestor/IdTable" "size" "I" (.int (2 : Int32)) := f15.keep K33 (ninS (Exa.ne f10 f17 (by decide)) (ninS (Exa.ne f10 f23 (by decide)) nin0))
  have f53 : Exa Z T33.heap o1 "java/lang/String" := f4.keep K33
  have f54 : Fld Z T33.heap o1 "java/lang/String" "coder" "B" (.int (0 : Int32)) := f3.keep K33 (ninS Ho0 (ninS Ho1 nin0))
  have f55 : Fld Z T33.heap o1 "java/lang/String" "value" "[B" (.ref w_value_o1) := f5.keep K33 (ninS Ho0 (ninS Ho1 nin0))
  have f56 : Arv Z T33.heap w_value_o1 k_d .byte (1 : Int32) [(.int d)] (.int (0 : Int32)) := f16.keep K33 (ninS (Ne.symm (Exa.neArv f17 f16 (hw _ (List.mem_of_getElem? (i := 10) rfl)))) (ninS (Ne.symm (Exa.neArv f23 f16 (hw _ (List.mem_of_getElem? (i := 10) rfl)))) nin0))
  have f57 : Arv Z T33.heap w_value_i0 k_c0 .byte (1 : Int32) [(.int c0)] (.int (0 : Int32)) := f22.keep K33 (ninS (Ne.symm (Exa.neArv f17 f22 (hw _ (List.mem_of_getElem? (i := 10) rfl)))) (ninS (Ne.symm (Exa.neArv f23 f22 (hw _ (List.mem_of_getElem? (i := 10) rfl)))) nin0))
  have f58 : Arv Z T33.heap w_value_i1 k_c1 .byte (1 : Int32) [(.int c1)] (.int (0 : Int32)) := f28.keep K33 (ninS (Ne.symm (Exa.neArv f17 f28 (hw _ (List.mem_of_getElem? (i := 10) rfl)))) (ninS (Ne.symm (Exa.neArv f23 f28 (hw _ (List.mem_of_getElem? (i := 10) rfl)))) nin0))
  have f59 : Fld Z T33.heap o1 "java/lang/String" "hash" "I" (.int hq1_o0) := f6.keep K33 (ninS Ho0 (ninS Ho1 nin0))
  have f60 : Fld Z T33.heap o1 "java/lang/String" "hashIsZero" "Z" (.int zq1_o0) := f7.keep K33 (ninS Ho0 (ninS Ho1 nin0))
  have zs61 : n0 ≤ T33.heap.size := Nat.le_trans zs29 K33.1
  have K62 : Keep h0 T33.heap [o1, i0, i1] := K31.trans K33 (allS (Or.inl (by simp)) (allS (Or.inl (by simp)) all0))
  have N63 : Fr n0 L33 := by rw [l33]; exact Fr.app N32 N33q
  have pre64 : ∀ t, Steps p.tables e below (T33.setTop (mkF m 27 #[.val (.ref o0), .val (.ref o1), .val (.int (own_f13t2 (d &&& (255 : Int32)) x0 x1 c0 c1))] [(.int (own_f13t2 (d &&& (255 : Int32)) x0 x1 c0 c1))])) t → Steps p.tables e below (s₁.setTop (entryFrame m #[(.ref o0), (.ref o1)] 3)) t := fun t k => pre0 t (by
      refine XS.aloadN X0.here hx rfl (hb hby own_d9_0) rfl rfl ?_
      show Steps p.tables e below (s₁.setTop (mkF m 1 #[.val (.ref o0), .val (.ref o1), .unset] [(.ref o0)])) _
      refine XS.aloadN X0.here hx rfl (hb hby own_d9_1) rfl rfl ?_
      refine st1.trans ?_
      show Steps p.tables e below (T1.setTop (mkF m 5 #[.val (.ref o0), .val (.ref o1), .unset] [(.int (d &&& (255 : Int32))), (.ref o0)])) _
      refine XS.aloadN X1.here hx rfl (hb hby own_d9_5) rfl rfl ?_
      refine XS.aconstNull X1.here hx rfl (hb hby own_d9_6) ?_
      refine XS.iconst X1.here hx rfl (hb hby own_d9_7) ?_
      refine XS.iconst X1.here hx rfl (hb hby own_d9_8) ?_
      show Steps p.tables e below (T1.setTop (mkF m 9 #[.val (.ref o0), .val (.ref o1), .unset] [(.int (0 : Int32)), (.int (0 : Int32)), .null, (.ref o1), (.int (d &&& (255 : Int32))), (.ref o0)])) _
      refine st33.trans ?_
      show Steps p.tables e below (T33.setTop (mkF m 12 #[.val (.ref o0), .val (.ref o1), .unset] [(.int (own_f13t2 (d &&& (255 : Int32)) x0 x1 c0 c1))])) _
      refine XS.istoreN X33.here hx rfl (hb hby own_d9_12) rfl (l' := #[.val (.ref o0), .val (.ref o1), .val (.int (own_f13t2 (d &&& (255 : Int32)) x0 x1 c0 c1))]) rfl ?_
      refine XS.iloadN X33.here hx rfl (hb hby own_d9_13) rfl ?_
      refine XS.ifNo X33.here hx rfl (hb hby own_d9_14) rfl ((if0 _ _).trans (flt (by rw [Hf]; decide)).1) ?_
      refine XS.iloadN X33.here hx rfl (hb hby own_d9_17) rfl ?_
      show Steps p.tables e below (T33.setTop (mkF m 18 #[.val (.ref o0), .val (.ref o1), .val (.int (own_f13t2 (d &&& (255 : Int32)) x0 x1 c0 c1))] [(.int (own_f13t2 (d &&& (255 : Int32)) x0 x1 c0 c1))])) _
      refine XS.goto X33.here hx rfl (pc0 := 18) (pc' := 27) rfl (hb hby own_d9_18) (by decide) (by decide) ?_
      exact k)
  obtain ⟨fs, hr, hrun, hended, hW, hsame⟩ := X33.leave (v := some (.int (own_f13t2 (d &&& (255 : Int32)) x0 x1 c0 c1))) (fun h => by rw [Bd.returns] at h; cases h) (hlocks := hlk)
  refine ⟨_, _, pre64 _ ?_, hrun, hended, _, _, rfl, ?_, ⟨_, rfl⟩, hW, hsame.mono (by decide) (by decide)⟩
  · show Steps p.tables e below (T33.setTop (mkF m 27 #[.val (.ref o0), .val (.ref o1), .val (.int (own_f13t2 (d &&& (255 : Int32)) x0 x1 c0 c1))] [(.int (own_f13t2 (d &&& (255 : Int32)) x0 x1 c0 c1))])) _
    exact retI X33 hx Bd.returns (hb hby own_d9_27) hr
  · show own_Q9t2f0 Z o0 o1 x0 x1 k_s k_i k_d d i0 i1 k_c0 c0 k_c1 c1 z_COMPACT_STRINGS w_slots_o0 w_ids_o0 w_value_o1 w_hash_i0 w_hashIsZero_i0 w_value_i0 w_hash_i1 w_hashIsZero_i1 w_value_i1 w_hash_o1 w_hashIsZero_o1 h0 n0 _ T33.heap _; exact ⟨hq1_o0, zq1_o0, hq33_i0, zq33_i0, hq33_i1, zq33_i1, (by show some (Value.int _) = some (.int (0 : Int32)); rw [Hf]), N63, K62, f53, f54, f55, f34, f35, f36, f37, f38, f39, f59, f60, ok8, f40, f41, ok42, f43, f44, ok45⟩
theorem own_ef9t2f1 (m : MethodId) (x0 : Addr) (x1 : Addr) : entryFrame m #[(.ref x0), (.ref x1)] 3 = (mkF m 0 #[.val (.ref x0), .val (.ref x1), .unset] []) := by first | (simp [entryFrame, mkF, argsToLocals, Value.category]; done) | rfl
def own_f9t2f1 (x0 : Int32) (x1 : Int32) (d : Int32) (c0 : Int32) (c1 : Int32) : Int32 := (own_f13t2 (d &&& (255 : Int32)) x0 x1 c0 c1)
def own_Q9t2f1 (Z : State) (o0 : Addr) (o1 : Addr) (x0 : Int32) (x1 : Int32) (k_s : ClassId) (k_i : ClassId) (k_d : ClassId) (d : Int32) (i0 : Addr) (i1 : Addr) (k_c0 : ClassId) (c0 : Int32) (k_c1 : ClassId) (c1 : Int32) (z_COMPACT_STRINGS : Int32) (w_slots_o0 : Addr) (w_ids_o0 : Addr) (w_value_o1 : Addr) (w_hash_i0 : Int32) (w_hashIsZero_i0 : Int32) (w_value_i0 : Addr) (w_hash_i1 : Int32) (w_hashIsZero_i1 : Int32) (w_value_i1 : Addr) (w_hash_o1 : Int32) (w_hashIsZero_o1 : Int32) (h0 : Heap) (n0 : Nat) (v : Option Value) (h : Heap) (L : List Loc) : Prop := ∃ hq_o1 zq_o1 : Int32, ∃ hq_i0 zq_i0 : Int32, ∃ hq_i1 zq_i1 : Int32, v = some (.int (1 : Int32)) ∧ Fr n0 L ∧ Keep h0 h [o1, i0, i1] ∧ Exa Z h o1 "java/lang/String" ∧ Fld Z h o1 "java/lang/String" "coder" "B" (.int (0 : Int32)) ∧ Fld Z h o1 "java/lang/String" "value" "[B" (.ref w_value_o1) ∧ Exa Z h i0 "java/lang/String" ∧ Fld Z h i0 "java/lang/String" "coder" "B" (.int (0 : Int32)) ∧ Fld Z h i0 "java/lang/String" "value" "[B" (.ref w_value_i0) ∧ Exa Z h i1 "java/lang/String" ∧ Fld Z h i1 "java/lang/String" "coder" "B" (.int (0 : Int32)) ∧ Fld Z h i1 "java/lang/String" "value" "[B" (.ref w_value_i1) ∧ Fld Z h o1 "java/lang/String" "hash" "I" (.int hq_o1) ∧ Fld Z h o1 "java/lang/String" "hashIsZero" "Z" (.int zq_o1) ∧ own_ok hq_o1 zq_o1 d ∧ Fld Z h i0 "java/lang/String" "hash" "I" (.int hq_i0) ∧ Fld Z h i0 "java/lang/String" "hashIsZero" "Z" (.int zq_i0) ∧ own_ok hq_i0 zq_i0 c0 ∧ Fld Z h i1 "java/lang/String" "hash" "I" (.int hq_i1) ∧ Fld Z h i1 "java/lang/String" "hashIsZero" "Z" (.int zq_i1) ∧ own_ok hq_i1 zq_i1 c1
set_option maxRecDepth 65536 in
set_option maxHeartbeats 40000000 in
theorem own_rm9t2f1 (l : Launch) (Z : State) (a0 : Array Value) (hw : ∀ d ∈ tables_1, d.before a0 Z = true) (ws : List Jvm.Cond) (o0 : Addr) (o1 : Addr) (x0 : Int32) (x1 : Int32) (k_s : ClassId) (k_i : ClassId) (k_d : ClassId) (d : Int32) (i0 : Addr) (i1 : Addr) (k_c0 : ClassId) (c0 : Int32) (k_c1 : ClassId) (c1 : Int32) (z_COMPACT_STRINGS : Int32) (w_slots_o0 : Addr) (w_ids_o0 : Addr) (w_value_o1 : Addr) (w_hash_i0 : Int32) (w_hashIsZero_i0 : Int32) (w_value_i0 : Addr) (w_hash_i1 : Int32) (w_hashIsZero_i1 : Int32) (w_value_i1 : Addr) (w_hash_o1 : Int32) (w_hashIsZero_o1 : Int32) (h0 : Heap) (n0 : Nat) (Z0 : n0 ≤ h0.size) (Hov : Ovr Z k_i "java/lang/String") (HC : ¬ (z_COMPACT_STRINGS = (0 : Int32))) (Hx0 : own_in x0) (Hx1 : own_in x1) (Hxy : ¬ x0 = x1) (Hi : i0 ≠ i1) (Ho0 : o1 ≠ i0) (Ho1 : o1 ≠ i1) (Hd : own_by d) (Hb0 : own_by c0) (Hk0 : own_ok w_hash_i0 w_hashIsZero_i0 c0) (Hb1 : own_by c1) (Hk1 : own_ok w_hash_i1 w_hashIsZero_i1 c1) (Hko : own_ok w_hash_o1 w_hashIsZero_o1 d) (Hf : own_f13t2 (d &&& (255 : Int32)) x0 x1 c0 c1 = (1 : Int32)) (P_E_o0 : Exa Z h0 o0 "com/example/nestor/nestor/IdTable") (P_O_ : Old Z n0 h0) (P_B_java_lang_String_COMPACT_STRINGS : Sta Z Z.heap "java/lang/String" "COMPACT_STRINGS" "Z" (.int z_COMPACT_STRINGS)) (P_F_o0_slots : Fld Z h0 o0 "com/example/nestor/nestor/IdTable" "slots" "[I" (.ref w_slots_o0)) (P_V_w_slots_o0 : Arv Z h0 w_slots_o0 k_s .int (16 : Int32) (own_t2 x0 x1) (.int (0 : Int32))) (P_F_o0_ids : Fld Z h0 o0 "com/example/nestor/nestor/IdTable" "ids" "[Ljava/lang/String;" (.ref w_ids_o0)) (P_V_w_ids_o0 : Arv Z h0 w_ids_o0 k_i (.object "java/lang/String") (8 : Int32) [(.ref i0), (.ref i1), .null, .null, .null, .null, .null, .null] .null) (P_F_o0_size : Fld Z h0 o0 "com/example/nestor/nestor/IdTable" "size" "I" (.int (2 : Int32))) (P_E_o1 : Exa Z h0 o1 "java/lang/String") (P_F_o1_coder : Fld Z h0 o1 "java/lang/String" "coder" "B" (.int (0 : Int32))) (P_F_o1_value : Fld Z h0 o1 "java/lang/String" "value" "[B" (.ref w_value_o1)) (P_V_w_value_o1 : Arv Z h0 w_value_o1 k_d .byte (1 : Int32) [(.int d)] (.int (0 : Int32))) (P_E_i0 : Exa Z h0 i0 "java/lang/String") (P_F_i0_hash : Fld Z h0 i0 "java/lang/String" "hash" "I" (.int w_hash_i0)) (P_F_i0_hashIsZero : Fld Z h0 i0 "java/lang/String" "hashIsZero" "Z" (.int w_hashIsZero_i0)) (P_F_i0_coder : Fld Z h0 i0 "java/lang/String" "coder" "B" (.int (0 : Int32))) (P_F_i0_value : Fld Z h0 i0 "java/lang/String" "value" "[B" (.ref w_value_i0)) (P_V_w_value_i0 : Arv Z h0 w_value_i0 k_c0 .byte (1 : Int32) [(.int c0)] (.int (0 : Int32))) (P_E_i1 : Exa Z h0 i1 "java/lang/String") (P_F_i1_hash : Fld Z h0 i1 "java/lang/String" "hash" "I" (.int w_hash_i1)) (P_F_i1_hashIsZero : Fld Z h0 i1 "java/lang/String" "hashIsZero" "Z" (.int w_hashIsZero_i1)) (P_F_i1_coder : Fld Z h0 i1 "java/lang/String" "coder" "B" (.int (0 : Int32))) (P_F_i1_value : Fld Z h0 i1 "java/lang/String" "value" "[B" (.ref w_value_i1)) (P_V_w_value_i1 : Arv Z h0 w_value_i1 k_c1 .byte (1 : Int32) [(.int c1)] (.int (0 : Int32))) (P_F_o1_hash : Fld Z h0 o1 "java/lang/String" "hash" "I" (.int w_hash_o1)) (P_F_o1_hashIsZero : Fld Z h0 o1 "java/lang/String" "hashIsZero" "Z" (.int w_hashIsZero_o1)) (G_o1 : n0 ≤ o1) (G_i0 : n0 ≤ i0) (G_i1 : n0 ≤ i1) :
    MetFree l (⟨"com/example/nestor/nestor/IdTable", "placeOf", "(Ljava/lang/String;)I"⟩ : MethodName) (head1 (Jvm.Cond.code (⟨"com/example/nestor/nestor/IdTable", "placeOf", "(Ljava/lang/String;)I"⟩ : MethodName) prog_10_method_5_code 3 (some .int) :: ws) ({ frames := 3, cells := 0, slots := 0, locals := 49 } : Room)) (fun a U => a = #[(.ref o0), (.ref o1)] ∧ Z.Warmed39 U.vm ∧ U.heap = h0) (fun _ _ _ _ _ => True) (fun _ U o U' => ∃ v L, o = .returned v ∧ own_Q9t2f1 Z o0 o1 x0 x1 k_s k_i k_d d i0 i1 k_c0 c0 k_c1 c1 z_COMPACT_STRINGS w_slots_o0 w_ids_o0 w_value_o1 w_hash_i0 w_hashIsZero_i0 w_value_i0 w_hash_i1 w_hashIsZero_i1 w_value_i1 w_hash_o1 w_hashIsZero_o1 h0 n0 v U'.heap L ∧ FrameEnd U o U' L ({ frames := 3, cells := 0, slots := 0, locals := 49 } : Room).cells ({ frames := 3, cells := 0, slots := 0, locals := 49 } : Room).slots) := by
  refine MetFree.of_bodySF (plainFor_of_name own_pn9) hisR ?_
  intro p e s m args below meth c s₁ Bd hml0 hP hK
  obtain ⟨rfl, hZ, hh⟩ := hP
  have hx := Bd.exec
  have hlk : meth.locks = false := BodyLoose.notSynchronized Bd
  have hby := Bd.bytes
  have hml : c.maxLocals = 3 := hml0
  have hown : s.vm.findClass "com/example/nestor/nestor/IdTable" = some m.cls := findClass_of_methodNamed Bd.named
  have hnm := (name_of_methodNamed Bd.named Bd.method).1
  have X0 : Stand p l e ({ frames := 3, cells := 0, slots := 0, locals := 49 } : Room) s m #[(.ref o0), (.ref o1)] below meth c s₁ [] 0 0 := Stand.of_body Bd
  have e0 : s₁.heap = h0 := by rw [← hh, Bd.state]; rfl
  have N0 := Fr.nil n0
  have pre0 : ∀ t, Steps p.tables e below (s₁.setTop (mkF m 0 #[.val (.ref o0), .val (.ref o1), .unset] [])) t → Steps p.tables e below (s₁.setTop (entryFrame m #[(.ref o0), (.ref o1)] 3)) t := fun t k => castTop (own_ef9t2f1 m o0 o1) k
  have f2 : Sta Z h0 "java/lang/String" "COMPACT_STRINGS" "Z" (.int z_COMPACT_STRINGS) := P_B_java_lang_String_COMPACT_STRINGS.ext P_O_.2
  obtain ⟨cq1, kq1, q1a, q1b, q1c⟩ := isOf hZ e0 P_E_o1
  obtain ⟨_, _, ⟨T1, L1, k1, n1⟩, -, X1, ⟨Lc1, hQ1, l1, y1, z1⟩, st1⟩ := X0.virtualBack hx (y := (⟨"java/lang/String", "hashCode", "()I"⟩ : MethodName)) (z := (⟨"java/lang/String", "hashCode", "()I"⟩ : MethodName)) hown (mvT hZ (hw _ (List.mem_of_getElem? (i := 66) rfl))) (mvT hZ (hw _ (List.mem_of_getElem? (i := 67) rfl))) (notFace_of_selects (args := #[]) (mvT hZ (hw _ (List.mem_of_getElem? (i := 69) rfl)))) (mvT hZ (hw _ (List.mem_of_getElem? (i := 69) rfl))) (mvT hZ (hw _ (List.mem_of_getElem? (i := 68) rfl))) (by decide) (backOf (W := 1) (own_rm10 l Z a0 hw [] o1 w_hash_o1 w_hashIsZero_o1 z_COMPACT_STRINGS w_value_o1 k_d d h0 n0 Z0 Hko P_F_o1_hash P_F_o1_hashIsZero P_F_o1_coder f2 HC P_E_o1 P_F_o1_value P_V_w_value_o1 G_o1) hZ (hw _ (List.mem_of_getElem? (i := 70) rfl)) (hw _ (List.mem_of_getElem? (i := 2) rfl)) (by decide) (by decide)) q1a q1c (g := (mkF m 2 #[.val (.ref o0), .val (.ref o1), .unset] [(.ref o1), (.ref o0)])) rfl (by rw [hml]; rfl) (Steps.refl _) (argsL := []) (rest := [(.ref o0)]) (lenOf own_pd9 rfl) rfl (by show 2 * 0 + _ ≤ _; exact Nat.le_of_eq rfl) (hb hby own_d9_2) (fun _ _ => ⟨rfl, e0, (by decide : 0 + 0 ≤ _), (by decide : 0 + 0 ≤ _)⟩)
  dsimp only [Pt.U, Pt.locs, Pt.cells, Pt.slots] at X1 l1 y1 z1 st1 hQ1
  subst y1 z1
  obtain ⟨hq1_o0, zq1_o0, rfl, N1q, K1, f3, f4, f5, f6, f7, ok8⟩ := hQ1
  have f9 : Old Z n0 T1.heap := P_O_.keep K1 (allS G_o1 all0)
  have f10 : Exa Z T1.heap o0 "com/example/nestor/nestor/IdTable" := P_E_o0.keep K1
  have f11 : Fld Z T1.heap o0 "com/example/nestor/nestor/IdTable" "slots" "[I" (.ref w_slots_o0) := P_F_o0_slots.keep K1 (ninS (Exa.ne P_E_o0 P_E_o1 (by decide)) nin0)
  have f12 : Arv Z T1.heap w_slots_o0 k_s .int (16 : Int32) (own_t2 x0 x1) (.int (0 : Int32)) := P_V_w_slots_o0.keep K1 (ninS (Ne.symm (Exa.neArv P_E_o1 P_V_w_slots_o0 (hw _ (List.mem_of_getElem? (i := 10) rfl)))) nin0)
  have f13 : Fld Z T1.heap o0 "com/example/nestor/nestor/IdTable" "ids" "[Ljava/lang/String;" (.ref w_ids_o0) := P_F_o0_ids.keep K1 (ninS (Exa.ne P_E_o0 P_E_o1 (by decide)) nin0)
  have f14 : Arv Z T1.heap w_ids_o0 k_i (.object "java/lang/String") (8 : Int32) [(.ref i0), (.ref i1), .null, .null, .null, .null, .null, .null] .null := P_V_w_ids_o0.keep K1 (ninS (Ne.symm (Exa.neArv P_E_o1 P_V_w_ids_o0 (hw _ (List.mem_of_getElem? (i := 10) rfl)))) nin0)
  have f15 : Fld Z T1.heap o0 "com/example/nestor/nestor/IdTable" "size" "I" (.int (2 : Int32)) := P_F_o0_size.keep K1 (ninS (Exa.ne P_E_o0 P_E_o1 (by decide)) nin0)
  have f16 : Arv Z T1.heap w_value_o1 k_d .byte (1 : Int32) [(.int d)] (.int (0 : Int32)) := P_V_w_value_o1.keep K1 (ninS (Ne.symm (Exa.neArv P_E_o1 P_V_w_value_o1 (hw _ (List.mem_of_getElem? (i := 10) rfl)))) nin0)
  have f17 : Exa Z T1.heap i0 "java/lang/String" := P_E_i0.keep K1
  have f18 : Fld Z T1.heap i0 "java/lang/String" "hash" "I" (.int w_hash_i0) := P_F_i0_hash.keep K1 (ninS (Ne.symm Ho0) nin0)
  have f19 : Fld Z T1.heap i0 "java/lang/String" "hashIsZero" "Z" (.int w_hashIsZero_i0) := P_F_i0_hashIsZero.keep K1 (ninS (Ne.symm Ho0) nin0)
  have f20 : Fld Z T1.heap i0 "java/lang/String" "coder" "B" (.int (0 : Int32)) := P_F_i0_coder.keep K1 (ninS (Ne.symm Ho0) nin0)
  have f21 : Fld Z T1.heap i0 "java/lang/String" "value" "[B" (.ref w_value_i0) := P_F_i0_value.keep K1 (ninS (Ne.symm Ho0) nin0)
  have f22 : Arv Z T1.heap w_value_i0 k_c0 .byte (1 : Int32) [(.int c0)] (.int (0 : Int32)) := P_V_w_value_i0.keep K1 (ninS (Ne.symm (Exa.neArv P_E_o1 P_V_w_value_i0 (hw _ (List.mem_of_getElem? (i := 10) rfl)))) nin0)
  have f23 : Exa Z T1.heap i1 "java/lang/String" := P_E_i1.keep K1
  have f24 : Fld Z T1.heap i1 "java/lang/String" "hash" "I" (.int w_hash_i1) := P_F_i1_hash.keep K1 (ninS (Ne.symm Ho1) nin0)
  have f25 : Fld Z T1.heap i1 "java/lang/String" "hashIsZero" "Z" (.int w_hashIsZero_i1) := P_F_i1_hashIsZero.keep K1 (ninS (Ne.symm Ho1) nin0)
  have f26 : Fld Z T1.heap i1 "java/lang/String" "coder" "B" (.int (0 : Int32)) := P_F_i1_coder.keep K1 (ninS (Ne.symm Ho1) nin0)
  have f27 : Fld Z T1.heap i1 "java/lang/String" "value" "[B" (.ref w_value_i1) := P_F_i1_value.keep K1 (ninS (Ne.symm Ho1) nin0)
  have f28 : Arv Z T1.heap w_value_i1 k_c1 .byte (1 : Int32) [(.int c1)] (.int (0 : Int32)) := P_V_w_value_i1.keep K1 (ninS (Ne.symm (Exa.neArv P_E_o1 P_V_w_value_i1 (hw _ (List.mem_of_getElem? (i := 10) rfl)))) nin0)
  have zs29 : n0 ≤ T1.heap.size := Nat.le_trans Z0 K1.1
  have K30 : Keep h0 h0 [o1, i0, i1] := Keep.refl h0 [o1, i0, i1]
  have K31 : Keep h0 T1.heap [o1, i0, i1] := K30.trans K1 (allS (Or.inl (by simp)) all0)
  have N32 : Fr n0 L1 := by rw [l1]; exact Fr.app N0 N1q
  obtain ⟨cq33, q33, q33'⟩ := f10.cell
  obtain ⟨_, _, ⟨T33, L33, k33, n33⟩, -, X33, ⟨Lc33, hQ33, l33, y33, z33⟩, st33⟩ := X1.privateBack hx (y := (⟨"com/example/nestor/nestor/IdTable", "find", "(ILjava/lang/String;[BII)I"⟩ : MethodName)) hown (mvT hZ (hw _ (List.mem_of_getElem? (i := 83) rfl))) (mvT hZ (hw _ (List.mem_of_getElem? (i := 84) rfl))) (mvT hZ (own_sel3 Z a0 hw)) (Cond.privateMethod_at (mvP hZ (hw _ (List.mem_of_getElem? (i := 85) rfl)) (args := #[]))) (mvT hZ (hw _ (List.mem_of_getElem? (i := 86) rfl))) (by decide) (backOf (W := 0) (own_rm13t2 l Z a0 hw [] o0 (d &&& (255 : Int32)) o1 x0 x1 k_s k_i k_d d i0 i1 k_c0 c0 k_c1 c1 z_COMPACT_STRINGS w_slots_o0 w_ids_o0 w_value_o1 w_hash_i0 w_hashIsZero_i0 w_value_i0 w_hash_i1 w_hashIsZero_i1 w_value_i1 T1.heap n0 zs29 Hov HC Hx0 Hx1 Hxy Hi Ho0 Ho1 Hd Hb0 Hk0 Hb1 Hk1 rfl f10 f9 P_B_java_lang_String_COMPACT_STRINGS f11 f12 f13 f14 f4 f3 f5 f16 f17 f18 f19 f20 f21 f22 f23 f24 f25 f26 f27 f28 G_i0 G_i1) hZ (hw _ (List.mem_of_getElem? (i := 86) rfl)) (hw _ (List.mem_of_getElem? (i := 28) rfl)) (by decide) (by decide)) (g := (mkF m 9 #[.val (.ref o0), .val (.ref o1), .unset] [(.int (0 : Int32)), (.int (0 : Int32)), .null, (.ref o1), (.int (d &&& (255 : Int32))), (.ref o0)])) rfl (by rw [hml]; rfl) (Steps.refl _) (a := o0) q33 q33' (argsL := [(.int (d &&& (255 : Int32))), (.ref o1), .null, (.int (0 : Int32)), (.int (0 : Int32))]) (rest := []) (lenOf own_pd13 rfl) rfl (by show 2 * 0 + _ ≤ _; exact Nat.le_of_eq rfl) (hb hby own_d9_9) (fun _ _ => ⟨rfl, rfl, (by decide : 0 + 0 ≤ _), (by decide : 0 + 0 ≤ _)⟩)
  dsimp only [Pt.U, Pt.locs, Pt.cells, Pt.slots] at X33 l33 y33 z33 st33 hQ33
  subst y33 z33
  obtain ⟨hq33_i0, zq33_i0, hq33_i1, zq33_i1, rfl, N33q, K33, f34, f35, f36, f37, f38, f39, f40, f41, ok42, f43, f44, ok45⟩ := hQ33
  have f46 : Old Z n0 T33.heap := f9.keep K33 (allS G_i0 (allS G_i1 all0))
  have f47 : Exa Z T33.heap o0 "com/example/nestor/nestor/IdTable" := f10.keep K33
  have f48 : Fld Z T33.heap o0 "com/example/nestor/nestor/IdTable" "slots" "[I" (.ref w_slots_o0) := f11.keep K33 (ninS (Exa.ne f10 f17 (by decide)) (ninS (Exa.ne f10 f23 (by decide)) nin0))
  have f49 : Arv Z T33.heap w_slots_o0 k_s .int (16 : Int32) (own_t2 x0 x1) (.int (0 : Int32)) := f12.keep K33 (ninS (Ne.symm (Exa.neArv f17 f12 (hw _ (List.mem_of_getElem? (i := 10) rfl)))) (ninS (Ne.symm (Exa.neArv f23 f12 (hw _ (List.mem_of_getElem? (i := 10) rfl)))) nin0))
  have f50 : Fld Z T33.heap o0 "com/example/nestor/nestor/IdTable" "ids" "[Ljava/lang/String;" (.ref w_ids_o0) := f13.keep K33 (ninS (Exa.ne f10 f17 (by decide)) (ninS (Exa.ne f10 f23 (by decide)) nin0))
  have f51 : Arv Z T33.heap w_ids_o0 k_i (.object "java/lang/String") (8 : Int32) [(.ref i0), (.ref i1), .null, .null, .null, .null, .null, .null] .null := f14.keep K33 (ninS (Ne.symm (Exa.neArv f17 f14 (hw _ (List.mem_of_getElem? (i := 10) rfl)))) (ninS (Ne.symm (Exa.neArv f23 f14 (hw _ (List.mem_of_getElem? (i := 10) rfl)))) nin0))
  have f52 : Fld Z T33.heap o0 "com/example/nestor/nestor/IdTable" "size" "I" (.int (2 : Int32)) := f15.keep K33 (ninS (Exa.ne f10 f17 (by decide)) (ninS (Exa.ne f10 f23 (by decide)) nin0))
  have f53 : Exa Z T33.heap o1 "java/lang/String" := f4.keep K33
  have f54 : Fld Z T33.heap o1 "java/lang/String" "coder" "B" (.int (0 : Int32)) := f3.keep K33 (ninS Ho0 (ninS Ho1 nin0))
  have f55 : Fld Z T33.heap o1 "java/lang/String" "value" "[B" (.ref w_value_o1) := f5.keep K33 (ninS Ho0 (ninS Ho1 nin0))
  have f56 : Arv Z T33.heap w_value_o1 k_d .byte (1 : Int32) [(.int d)] (.int (0 : Int32)) := f16.keep K33 (ninS (Ne.symm (Exa.neArv f17 f16 (hw _ (List.mem_of_getElem? (i := 10) rfl)))) (ninS (Ne.symm (Exa.neArv f23 f16 (hw _ (List.mem_of_getElem? (i := 10) rfl)))) nin0))
  have f57 : Arv Z T33.heap w_value_i0 k_c0 .byte (1 : Int32) [(.int c0)] (.int (0 : Int32)) := f22.keep K33 (ninS (Ne.symm (Exa.neArv f17 f22 (hw _ (List.mem_of_getElem? (i := 10) rfl)))) (ninS (Ne.symm (Exa.neArv f23 f22 (hw _ (List.mem_of_getElem? (i := 10) rfl)))) nin0))
  have f58 : Arv Z T33.heap w_value_i1 k_c1 .byte (1 : Int32) [(.int c1)] (.int (0 : Int32)) := f28.keep K33 (ninS (Ne.symm (Exa.neArv f17 f28 (hw _ (List.mem_of_getElem? (i := 10) rfl)))) (ninS (Ne.symm (Exa.neArv f23 f28 (hw _ (List.mem_of_getElem? (i := 10) rfl)))) nin0))
  have f59 : Fld Z T33.heap o1 "java/lang/String" "hash" "I" (.int hq1_o0) := f6.keep K33 (ninS Ho0 (ninS Ho1 nin0))
  have f60 : Fld Z T33.heap o1 "java/lang/String" "hashIsZero" "Z" (.int zq1_o0) := f7.keep K33 (ninS Ho0 (ninS Ho1 nin0))
  have zs61 : n0 ≤ T33.heap.size := Nat.le_trans zs29 K33.1
  have K62 : Keep h0 T33.heap [o1, i0, i1] := K31.trans K33 (allS (Or.inl (by simp)) (allS (Or.inl (by simp)) all0))
  have N63 : Fr n0 L33 := by rw [l33]; exact Fr.app N32 N33q
  have pre64 : ∀ t, Steps p.tables e below (T33.setTop (mkF m 27 #[.val (.ref o0), .val (.ref o1), .val (.int (own_f13t2 (d &&& (255 : Int32)) x0 x1 c0 c1))] [(.int (own_f13t2 (d &&& (255 : Int32)) x0 x1 c0 c1))])) t → Steps p.tables e below (s₁.setTop (entryFrame m #[(.ref o0), (.ref o1)] 3)) t := fun t k => pre0 t (by
      refine XS.aloadN X0.here hx rfl (hb hby own_d9_0) rfl rfl ?_
      show Steps p.tables e below (s₁.setTop (mkF m 1 #[.val (.ref o0), .val (.ref o1), .unset] [(.ref o0)])) _
      refine XS.aloadN X0.here hx rfl (hb hby own_d9_1) rfl rfl ?_
      refine st1.trans ?_
      show Steps p.tables e below (T1.setTop (mkF m 5 #[.val (.ref o0), .val (.ref o1), .unset] [(.int (d &&& (255 : Int32))), (.ref o0)])) _
      refine XS.aloadN X1.here hx rfl (hb hby own_d9_5) rfl rfl ?_
      refine XS.aconstNull X1.here hx rfl (hb hby own_d9_6) ?_
      refine XS.iconst X1.here hx rfl (hb hby own_d9_7) ?_
      refine XS.iconst X1.here hx rfl (hb hby own_d9_8) ?_
      show Steps p.tables e below (T1.setTop (mkF m 9 #[.val (.ref o0), .val (.ref o1), .unset] [(.int (0 : Int32)), (.int (0 : Int32)), .null, (.ref o1), (.int (d &&& (255 : Int32))), (.ref o0)])) _
      refine st33.trans ?_
      show Steps p.tables e below (T33.setTop (mkF m 12 #[.val (.ref o0), .val (.ref o1), .unset] [(.int (own_f13t2 (d &&& (255 : Int32)) x0 x1 c0 c1))])) _
      refine XS.istoreN X33.here hx rfl (hb hby own_d9_12) rfl (l' := #[.val (.ref o0), .val (.ref o1), .val (.int (own_f13t2 (d &&& (255 : Int32)) x0 x1 c0 c1))]) rfl ?_
      refine XS.iloadN X33.here hx rfl (hb hby own_d9_13) rfl ?_
      refine XS.ifNo X33.here hx rfl (hb hby own_d9_14) rfl ((if0 _ _).trans (flt (by rw [Hf]; decide)).1) ?_
      refine XS.iloadN X33.here hx rfl (hb hby own_d9_17) rfl ?_
      show Steps p.tables e below (T33.setTop (mkF m 18 #[.val (.ref o0), .val (.ref o1), .val (.int (own_f13t2 (d &&& (255 : Int32)) x0 x1 c0 c1))] [(.int (own_f13t2 (d &&& (255 : Int32)) x0 x1 c0 c1))])) _
      refine XS.goto X33.here hx rfl (pc0 := 18) (pc' := 27) rfl (hb hby own_d9_18) (by decide) (by decide) ?_
      exact k)
  obtain ⟨fs, hr, hrun, hended, hW, hsame⟩ := X33.leave (v := some (.int (own_f13t2 (d &&& (255 : Int32)) x0 x1 c0 c1))) (fun h => by rw [Bd.returns] at h; cases h) (hlocks := hlk)
  refine ⟨_, _, pre64 _ ?_, hrun, hended, _, _, rfl, ?_, ⟨_, rfl⟩, hW, hsame.mono (by decide) (by decide)⟩
  · show Steps p.tables e below (T33.setTop (mkF m 27 #[.val (.ref o0), .val (.ref o1), .val (.int (own_f13t2 (d &&& (255 : Int32)) x0 x1 c0 c1))] [(.int (own_f13t2 (d &&& (255 : Int32)) x0 x1 c0 c1))])) _
    exact retI X33 hx Bd.returns (hb hby own_d9_27) hr
  · show own_Q9t2f1 Z o0 o1 x0 x1 k_s k_i k_d d i0 i1 k_c0 c0 k_c1 c1 z_COMPACT_STRINGS w_slots_o0 w_ids_o0 w_value_o1 w_hash_i0 w_hashIsZero_i0 w_value_i0 w_hash_i1 w_hashIsZero_i1 w_value_i1 w_hash_o1 w_hashIsZero_o1 h0 n0 _ T33.heap _; exact ⟨hq1_o0, zq1_o0, hq33_i0, zq33_i0, hq33_i1, zq33_i1, (by show some (Value.int _) = some (.int (1 : Int32)); rw [Hf]), N63, K62, f53, f54, f55, f34, f35, f36, f37, f38, f39, f59, f60, ok8, f40, f41, ok42, f43, f44, ok45⟩
theorem own_pd14 : parseMethodDescriptor "(II)I" = some ⟨[.int, .int], some .int⟩ := by decide +kernel
theorem own_d22_0 : decode prog_10_method_3_code 0 = .ok (.aload_n 0, 1) := by decide +kernel
theorem own_d22_1 : decode prog_10_method_3_code 1 = .ok (.getfield 11, 3) := by decide +kernel
theorem own_d22_4 : decode prog_10_method_3_code 4 = .ok (.iload_n 1, 1) := by decide +kernel
theorem own_d22_5 : decode prog_10_method_3_code 5 = .ok (.aload_n 0, 1) := by decide +kernel
theorem own_d22_6 : decode prog_10_method_3_code 6 = .ok (.getfield 28, 3) := by decide +kernel
theorem own_d22_9 : decode prog_10_method_3_code 9 = .ok (.invokestatic 32, 3) := by decide +kernel
theorem own_d22_12 : decode prog_10_method_3_code 12 = .ok (.aaload, 1) := by decide +kernel
theorem own_d22_13 : decode prog_10_method_3_code 13 = .ok (.areturn, 1) := by decide +kernel
theorem own_pn22 : plainName "com/example/nestor/nestor/IdTable" = true := by first | (simp [plainName, overriddenIn]; done) | decide +kernel
theorem own_ef22n1k0 (m : MethodId) (x0 : Addr) : entryFrame m #[(.ref x0), (.int (0 : Int32))] 2 = (mkF m 0 #[.val (.ref x0), .val (.int (0 : Int32))] []) := by first | (simp [entryFrame, mkF, argsToLocals, Value.category]; done) | rfl
def own_Q22n1k0 (Z : State) (o0 : Addr) (w_ids_o0 : Addr) (k_i : ClassId) (i0 : Addr) (h0 : Heap) (n0 : Nat) (v : Option Value) (h : Heap) (L : List Loc) : Prop := v = some (.ref i0) ∧ Fr n0 L ∧ h = h0
set_option maxRecDepth 65536 in
set_option maxHeartbeats 40000000 in
theorem own_rm22n1k0 (l : Launch) (Z : State) (a0 : Array Value) (hw : ∀ d ∈ tables_1, d.before a0 Z = true) (ws : List Jvm.Cond) (o0 : Addr) (w_ids_o0 : Addr) (k_i : ClassId) (i0 : Addr) (h0 : Heap) (n0 : Nat) (Z0 : n0 ≤ h0.size) (P_F_o0_size : Fld Z h0 o0 "com/example/nestor/nestor/IdTable" "size" "I" (.int (1 : Int32))) (P_F_o0_ids : Fld Z h0 o0 "com/example/nestor/nestor/IdTable" "ids" "[Ljava/lang/String;" (.ref w_ids_o0)) (Hov2 : Ovr Z k_i "java/lang/String") (P_V_w_ids_o0 : Arv Z h0 w_ids_o0 k_i (.object "java/lang/String") (8 : Int32) [(.ref i0), .null, .null, .null, .null, .null, .null, .null] .null) :
    MetFree l (⟨"com/example/nestor/nestor/IdTable", "id", "(I)Ljava/lang/String;"⟩ : MethodName) (head1 (Jvm.Cond.code (⟨"com/example/nestor/nestor/IdTable", "id", "(I)Ljava/lang/String;"⟩ : MethodName) prog_10_method_3_code 2 (some (.object "java/lang/String")) :: ws) ({ frames := 2, cells := 0, slots := 0, locals := 28 } : Room)) (fun a U => a = #[(.ref o0), (.int (0 : Int32))] ∧ Z.Warmed39 U.vm ∧ U.heap = h0) (fun _ _ _ _ _ => True) (fun _ U o U' => ∃ v L, o = .returned v ∧ own_Q22n1k0 Z o0 w_ids_o0 k_i i0 h0 n0 v U'.heap L ∧ FrameEnd U o U' L ({ frames := 2, cells := 0, slots := 0, locals := 28 } : Room).cells ({ frames := 2, cells := 0, slots := 0, locals := 28 } : Room).slots) := by
  refine MetFree.of_bodySF (plainFor_of_name own_pn22) hisR ?_
  intro p e s m args below meth c s₁ Bd hml0 hP hK
  obtain ⟨rfl, hZ, hh⟩ := hP
  have hx := Bd.exec
  have hlk : meth.locks = false := BodyLoose.notSynchronized Bd
  have hby := Bd.bytes
  have hml : c.maxLocals = 2 := hml0
  have hown : s.vm.findClass "com/example/nestor/nestor/IdTable" = some m.cls := findClass_of_methodNamed Bd.named
  have hnm := (name_of_methodNamed Bd.named Bd.method).1
  have X0 : Stand p l e ({ frames := 2, cells := 0, slots := 0, locals := 28 } : Room) s m #[(.ref o0), (.int (0 : Int32))] below meth c s₁ [] 0 0 := Stand.of_body Bd
  have e0 : s₁.heap = h0 := by rw [← hh, Bd.state]; rfl
  have N0 := Fr.nil n0
  have pre0 : ∀ t, Steps p.tables e below (s₁.setTop (mkF m 0 #[.val (.ref o0), .val (.int (0 : Int32))] [])) t → Steps p.tables e below (s₁.setTop (entryFrame m #[(.ref o0), (.int (0 : Int32))] 2)) t := fun t k => castTop (own_ef22n1k0 m o0) k
  obtain ⟨T1, X1, e1, st1⟩ := getF X0 hx hZ hown (host := "") (Or.inl (hw _ (List.mem_of_getElem? (i := 35) rfl))) Via.refl e0 P_F_o0_ids (g := (mkF m 1 #[.val (.ref o0), .val (.int (0 : Int32))] [(.ref o0)])) rfl rfl (hb hby own_d22_1)
  obtain ⟨T2, X2, e2, st2⟩ := getF X1 hx hZ hown (host := "") (Or.inl (hw _ (List.mem_of_getElem? (i := 106) rfl))) Via.refl e1 P_F_o0_size (g := (mkF m 6 #[.val (.ref o0), .val (.int (0 : Int32))] [(.ref o0), (.int (0 : Int32)), (.ref w_ids_o0)])) rfl rfl (hb hby own_d22_6)
  obtain ⟨_, _, ⟨T3, L3, k3, n3⟩, -, X3, ⟨Lc3, hQ3, l3, y3, z3⟩, st3⟩ := Jvm.LawKit.callS X2 hx (y := (⟨"java/util/Objects", "checkIndex", "(II)I"⟩ : MethodName)) hown (mvT hZ (hw _ (List.mem_of_getElem? (i := 130) rfl))) (mvT hZ (hw _ (List.mem_of_getElem? (i := 131) rfl))) (mvT hZ (hw _ (List.mem_of_getElem? (i := 132) rfl))) (mvT hZ (hw _ (List.mem_of_getElem? (i := 133) rfl))) (by decide) (backOf (W := 1) (own_rm23 l Z a0 hw [] (0 : Int32) (1 : Int32) h0 n0 Z0 (by decide) (by decide)) hZ (hw _ (List.mem_of_getElem? (i := 133) rfl)) (hw _ (List.mem_of_getElem? (i := 132) rfl)) (by decide) (by decide)) (g := (mkF m 9 #[.val (.ref o0), .val (.int (0 : Int32))] [(.int (1 : Int32)), (.int (0 : Int32)), (.ref w_ids_o0)])) rfl (by rw [hml]; rfl) (argsL := [(.int (0 : Int32)), (.int (1 : Int32))]) (rest := [(.ref w_ids_o0)]) (lenOf own_pd14 rfl) rfl (by show 2 * 0 + _ ≤ _; exact Nat.le_of_eq rfl) (hb hby own_d22_9) (fun _ _ => ⟨rfl, e2, (by decide : 0 + 0 ≤ _), (by decide : 0 + 0 ≤ _)⟩)
  dsimp only [Pt.U, Pt.locs, Pt.cells, Pt.slots] at X3 l3 y3 z3 st3 hQ3
  subst y3 z3
  obtain ⟨rfl, N3q, e3⟩ := hQ3
  have N4 : Fr n0 L3 := by rw [l3]; exact Fr.app N0 N3q
  obtain ⟨cl5, Ar5, q5, S5, N_5, Ha5, G5⟩ := id P_V_w_ids_o0
  have hin5 : ¬ ((0 : Int32) < 0 ∨ cl5.slots.size ≤ ((0 : Int32)).toNatClampNeg) := inb_of S5 ⟨by decide, by decide⟩
  have pre6 : ∀ t, Steps p.tables e below (T3.setTop (mkF m 13 #[.val (.ref o0), .val (.int (0 : Int32))] [(.ref i0)])) t → Steps p.tables e below (s₁.setTop (entryFrame m #[(.ref o0), (.int (0 : Int32))] 2)) t := fun t k => pre0 t (by
      refine XS.aloadN X0.here hx rfl (hb hby own_d22_0) rfl rfl ?_
      show Steps p.tables e below (s₁.setTop (mkF m 1 #[.val (.ref o0), .val (.int (0 : Int32))] [(.ref o0)])) _
      refine st1 _ ?_
      show Steps p.tables e below (T1.setTop (mkF m 4 #[.val (.ref o0), .val (.int (0 : Int32))] [(.ref w_ids_o0)])) _
      refine XS.iloadN X1.here hx rfl (hb hby own_d22_4) rfl ?_
      refine XS.aloadN X1.here hx rfl (hb hby own_d22_5) rfl rfl ?_
      refine st2 _ ?_
      show Steps p.tables e below (T2.setTop (mkF m 9 #[.val (.ref o0), .val (.int (0 : Int32))] [(.int (1 : Int32)), (.int (0 : Int32)), (.ref w_ids_o0)])) _
      refine st3 _ ?_
      show Steps p.tables e below (T3.setTop (mkF m 12 #[.val (.ref o0), .val (.int (0 : Int32))] [(.int (0 : Int32)), (.ref w_ids_o0)])) _
      refine X3.aaload hx (j := (0 : Int32)) (v := (.ref i0)) (by rw [e3]; exact Ar5.1) (State.isArrayOf_alike hZ.alike Ar5.2.1) rfl Ar5.2.2 hin5 (Has.at Ha5 hin5 (rfl : (_ : Value) = (.ref i0))) (g := (mkF m 12 #[.val (.ref o0), .val (.int (0 : Int32))] [(.int (0 : Int32)), (.ref w_ids_o0)])) rfl rfl (hb hby own_d22_12) _ ?_
      exact k)
  obtain ⟨fs, hr, hrun, hended, hW, hsame⟩ := X3.leave (v := some (.ref i0)) (fun h => by rw [Bd.returns] at h; cases h) (hlocks := hlk)
  refine ⟨_, _, pre6 _ ?_, hrun, hended, _, _, rfl, ?_, ⟨_, rfl⟩, hW, hsame.mono (by decide) (by decide)⟩
  · show Steps p.tables e below (T3.setTop (mkF m 13 #[.val (.ref o0), .val (.int (0 : Int32))] [(.ref i0)])) _
    jvm_step X3.here [X3.here.top, hx, (hb hby own_d22_13), X3.method', Bd.returns, Value.isRef, FieldType.isReference]
    first | (intro acts; rw [hr _ acts rfl rfl rfl]) | rw [hr _ _ rfl rfl rfl]
    exact Steps.refl _
  · show own_Q22n1k0 Z o0 w_ids_o0 k_i i0 h0 n0 _ T3.heap _; rw [e3]; exact ⟨rfl, N4, rfl⟩
theorem own_ef22n2k0 (m : MethodId) (x0 : Addr) : entryFrame m #[(.ref x0), (.int (0 : Int32))] 2 = (mkF m 0 #[.val (.ref x0), .val (.int (0 : Int32))] []) := by first | (simp [entryFrame, mkF, argsToLocals, Value.category]; done) | rfl
def own_Q22n2k0 (Z : State) (o0 : Addr) (w_ids_o0 : Addr) (k_i : ClassId) (i0 : Addr) (i1 : Addr) (h0 : Heap) (n0 : Nat) (v : Option Value) (h : Heap) (L : List Loc) : Prop := v = some (.ref i0) ∧ Fr n0 L ∧ h = h0
set_option maxRecDepth 65536 in
set_option maxHeartbeats 40000000 in
theorem own_rm22n2k0 (l : Launch) (Z : State) (a0 : Array Value) (hw : ∀ d ∈ tables_1, d.before a0 Z = true) (ws : List Jvm.Cond) (o0 : Addr) (w_ids_o0 : Addr) (k_i : ClassId) (i0 : Addr) (i1 : Addr) (h0 : Heap) (n0 : Nat) (Z0 : n0 ≤ h0.size) (P_F_o0_size : Fld Z h0 o0 "com/example/nestor/nestor/IdTable" "size" "I" (.int (2 : Int32))) (P_F_o0_ids : Fld Z h0 o0 "com/example/nestor/nestor/IdTable" "ids" "[Ljava/lang/String;" (.ref w_ids_o0)) (Hov2 : Ovr Z k_i "java/lang/String") (P_V_w_ids_o0 : Arv Z h0 w_ids_o0 k_i (.object "java/lang/String") (8 : Int32) [(.ref i0), (.ref i1), .null, .null, .null, .null, .null, .null] .null) :
    MetFree l (⟨"com/example/nestor/nestor/IdTable", "id", "(I)Ljava/lang/String;"⟩ : MethodName) (head1 (Jvm.Cond.code (⟨"com/example/nestor/nestor/IdTable", "id", "(I)Ljava/lang/String;"⟩ : MethodName) prog_10_method_3_code 2 (some (.object "java/lang/String")) :: ws) ({ frames := 2, cells := 0, slots := 0, locals := 28 } : Room)) (fun a U => a = #[(.ref o0), (.int (0 : Int32))] ∧ Z.Warmed39 U.vm ∧ U.heap = h0) (fun _ _ _ _ _ => True) (fun _ U o U' => ∃ v L, o = .returned v ∧ own_Q22n2k0 Z o0 w_ids_o0 k_i i0 i1 h0 n0 v U'.heap L ∧ FrameEnd U o U' L ({ frames := 2, cells := 0, slots := 0, locals := 28 } : Room).cells ({ frames := 2, cells := 0, slots := 0, locals := 28 } : Room).slots) := by
  refine MetFree.of_bodySF (plainFor_of_name own_pn22) hisR ?_
  intro p e s m args below meth c s₁ Bd hml0 hP hK
  obtain ⟨rfl, hZ, hh⟩ := hP
  have hx := Bd.exec
  have hlk : meth.locks = false := BodyLoose.notSynchronized Bd
  have hby := Bd.bytes
  have hml : c.maxLocals = 2 := hml0
  have hown : s.vm.findClass "com/example/nestor/nestor/IdTable" = some m.cls := findClass_of_methodNamed Bd.named
  have hnm := (name_of_methodNamed Bd.named Bd.method).1
  have X0 : Stand p l e ({ frames := 2, cells := 0, slots := 0, locals := 28 } : Room) s m #[(.ref o0), (.int (0 : Int32))] below meth c s₁ [] 0 0 := Stand.of_body Bd
  have e0 : s₁.heap = h0 := by rw [← hh, Bd.state]; rfl
  have N0 := Fr.nil n0
  have pre0 : ∀ t, Steps p.tables e below (s₁.setTop (mkF m 0 #[.val (.ref o0), .val (.int (0 : Int32))] [])) t → Steps p.tables e below (s₁.setTop (entryFrame m #[(.ref o0), (.int (0 : Int32))] 2)) t := fun t k => castTop (own_ef22n2k0 m o0) k
  obtain ⟨T1, X1, e1, st1⟩ := getF X0 hx hZ hown (host := "") (Or.inl (hw _ (List.mem_of_getElem? (i := 35) rfl))) Via.refl e0 P_F_o0_ids (g := (mkF m 1 #[.val (.ref o0), .val (.int (0 : Int32))] [(.ref o0)])) rfl rfl (hb hby own_d22_1)
  obtain ⟨T2, X2, e2, st2⟩ := getF X1 hx hZ hown (host := "") (Or.inl (hw _ (List.mem_of_getElem? (i := 106) rfl))) Via.refl e1 P_F_o0_size (g := (mkF m 6 #[.val (.ref o0), .val (.int (0 : Int32))] [(.ref o0), (.int (0 : Int32)), (.ref w_ids_o0)])) rfl rfl (hb hby own_d22_6)
  obtain ⟨_, _, ⟨T3, L3, k3, n3⟩, -, X3, ⟨Lc3, hQ3, l3, y3, z3⟩, st3⟩ := Jvm.LawKit.callS X2 hx (y := (⟨"java/util/Objects", "checkIndex", "(II)I"⟩ : MethodName)) hown (mvT hZ (hw _ (List.mem_of_getElem? (i := 130) rfl))) (mvT hZ (hw _ (List.mem_of_getElem? (i := 131) rfl))) (mvT hZ (hw _ (List.mem_of_getElem? (i := 132) rfl))) (mvT hZ (hw _ (List.mem_of_getElem? (i := 133) rfl))) (by decide) (backOf (W := 1) (own_rm23 l Z a0 hw [] (0 : Int32) (2 : Int32) h0 n0 Z0 (by decide) (by decide)) hZ (hw _ (List.mem_of_getElem? (i := 133) rfl)) (hw _ (List.mem_of_getElem? (i := 132) rfl)) (by decide) (by decide)) (g := (mkF m 9 #[.val (.ref o0), .val (.int (0 : Int32))] [(.int (2 : Int32)), (.int (0 : Int32)), (.ref w_ids_o0)])) rfl (by rw [hml]; rfl) (argsL := [(.int (0 : Int32)), (.int (2 : Int32))]) (rest := [(.ref w_ids_o0)]) (lenOf own_pd14 rfl) rfl (by show 2 * 0 + _ ≤ _; exact Nat.le_of_eq rfl) (hb hby own_d22_9) (fun _ _ => ⟨rfl, e2, (by decide : 0 + 0 ≤ _), (by decide : 0 + 0 ≤ _)⟩)
  dsimp only [Pt.U, Pt.locs, Pt.cells, Pt.slots] at X3 l3 y3 z3 st3 hQ3
  subst y3 z3
  obtain ⟨rfl, N3q, e3⟩ := hQ3
  have N4 : Fr n0 L3 := by rw [l3]; exact Fr.app N0 N3q
  obtain ⟨cl5, Ar5, q5, S5, N_5, Ha5, G5⟩ := id P_V_w_ids_o0
  have hin5 : ¬ ((0 : Int32) < 0 ∨ cl5.slots.size ≤ ((0 : Int32)).toNatClampNeg) := inb_of S5 ⟨by decide, by decide⟩
  have pre6 : ∀ t, Steps p.tables e below (T3.setTop (mkF m 13 #[.val (.ref o0), .val (.int (0 : Int32))] [(.ref i0)])) t → Steps p.tables e below (s₁.setTop (entryFrame m #[(.ref o0), (.int (0 : Int32))] 2)) t := fun t k => pre0 t (by
      refine XS.aloadN X0.here hx rfl (hb hby own_d22_0) rfl rfl ?_
      show Steps p.tables e below (s₁.setTop (mkF m 1 #[.val (.ref o0), .val (.int (0 : Int32))] [(.ref o0)])) _
      refine st1 _ ?_
      show Steps p.tables e below (T1.setTop (mkF m 4 #[.val (.ref o0), .val (.int (0 : Int32))] [(.ref w_ids_o0)])) _
      refine XS.iloadN X1.here hx rfl (hb hby own_d22_4) rfl ?_
      refine XS.aloadN X1.here hx rfl (hb hby own_d22_5) rfl rfl ?_
      refine st2 _ ?_
      show Steps p.tables e below (T2.setTop (mkF m 9 #[.val (.ref o0), .val (.int (0 : Int32))] [(.int (2 : Int32)), (.int (0 : Int32)), (.ref w_ids_o0)])) _
      refine st3 _ ?_
      show Steps p.tables e below (T3.setTop (mkF m 12 #[.val (.ref o0), .val (.int (0 : Int32))] [(.int (0 : Int32)), (.ref w_ids_o0)])) _
      refine X3.aaload hx (j := (0 : Int32)) (v := (.ref i0)) (by rw [e3]; exact Ar5.1) (State.isArrayOf_alike hZ.alike Ar5.2.1) rfl Ar5.2.2 hin5 (Has.at Ha5 hin5 (rfl : (_ : Value) = (.ref i0))) (g := (mkF m 12 #[.val (.ref o0), .val (.int (0 : Int32))] [(.int (0 : Int32)), (.ref w_ids_o0)])) rfl rfl (hb hby own_d22_12) _ ?_
      exact k)
  obtain ⟨fs, hr, hrun, hended, hW, hsame⟩ := X3.leave (v := some (.ref i0)) (fun h => by rw [Bd.returns] at h; cases h) (hlocks := hlk)
  refine ⟨_, _, pre6 _ ?_, hrun, hended, _, _, rfl, ?_, ⟨_, rfl⟩, hW, hsame.mono (by decide) (by decide)⟩
  · show Steps p.tables e below (T3.setTop (mkF m 13 #[.val (.ref o0), .val (.int (0 : Int32))] [(.ref i0)])) _
    jvm_step X3.here [X3.here.top, hx, (hb hby own_d22_13), X3.method', Bd.returns, Value.isRef, FieldType.isReference]
    first | (intro acts; rw [hr _ acts rfl rfl rfl]) | rw [hr _ _ rfl rfl rfl]
    exact Steps.refl _
  · show own_Q22n2k0 Z o0 w_ids_o0 k_i i0 i1 h0 n0 _ T3.heap _; rw [e3]; exact ⟨rfl, N4, rfl⟩
theorem own_ef22n2k1 (m : MethodId) (x0 : Addr) : entryFrame m #[(.ref x0), (.int (1 : Int32))] 2 = (mkF m 0 #[.val (.ref x0), .val (.int (1 : Int32))] []) := by first | (simp [entryFrame, mkF, argsToLocals, Value.category]; done) | rfl
def own_Q22n2k1 (Z : State) (o0 : Addr) (w_ids_o0 : Addr) (k_i : ClassId) (i0 : Addr) (i1 : Addr) (h0 : Heap) (n0 : Nat) (v : Option Value) (h : Heap) (L : List Loc) : Prop := v = some (.ref i1) ∧ Fr n0 L ∧ h = h0
set_option maxRecDepth 65536 in
set_option maxHeartbeats 40000000 in
theorem own_rm22n2k1 (l : Launch) (Z : State) (a0 : Array Value) (hw : ∀ d ∈ tables_1, d.before a0 Z = true) (ws : List Jvm.Cond) (o0 : Addr) (w_ids_o0 : Addr) (k_i : ClassId) (i0 : Addr) (i1 : Addr) (h0 : Heap) (n0 : Nat) (Z0 : n0 ≤ h0.size) (P_F_o0_size : Fld Z h0 o0 "com/example/nestor/nestor/IdTable" "size" "I" (.int (2 : Int32))) (P_F_o0_ids : Fld Z h0 o0 "com/example/nestor/nestor/IdTable" "ids" "[Ljava/lang/String;" (.ref w_ids_o0)) (Hov2 : Ovr Z k_i "java/lang/String") (P_V_w_ids_o0 : Arv Z h0 w_ids_o0 k_i (.object "java/lang/String") (8 : Int32) [(.ref i0), (.ref i1), .null, .null, .null, .null, .null, .null] .null) :
    MetFree l (⟨"com/example/nestor/nestor/IdTable", "id", "(I)Ljava/lang/String;"⟩ : MethodName) (head1 (Jvm.Cond.code (⟨"com/example/nestor/nestor/IdTable", "id", "(I)Ljava/lang/String;"⟩ : MethodName) prog_10_method_3_code 2 (some (.object "java/lang/String")) :: ws) ({ frames := 2, cells := 0, slots := 0, locals := 28 } : Room)) (fun a U => a = #[(.ref o0), (.int (1 : Int32))] ∧ Z.Warmed39 U.vm ∧ U.heap = h0) (fun _ _ _ _ _ => True) (fun _ U o U' => ∃ v L, o = .returned v ∧ own_Q22n2k1 Z o0 w_ids_o0 k_i i0 i1 h0 n0 v U'.heap L ∧ FrameEnd U o U' L ({ frames := 2, cells := 0, slots := 0, locals := 28 } : Room).cells ({ frames := 2, cells := 0, slots := 0, locals := 28 } : Room).slots) := by
  refine MetFree.of_bodySF (plainFor_of_name own_pn22) hisR ?_
  intro p e s m args below meth c s₁ Bd hml0 hP hK
  obtain ⟨rfl, hZ, hh⟩ := hP
  have hx := Bd.exec
  have hlk : meth.locks = false := BodyLoose.notSynchronized Bd
  have hby := Bd.bytes
  have hml : c.maxLocals = 2 := hml0
  have hown : s.vm.findClass "com/example/nestor/nestor/IdTable" = some m.cls := findClass_of_methodNamed Bd.named
  have hnm := (name_of_methodNamed Bd.named Bd.method).1
  have X0 : Stand p l e ({ frames := 2, cells := 0, slots := 0, locals := 28 } : Room) s m #[(.ref o0), (.int (1 : Int32))] below meth c s₁ [] 0 0 := Stand.of_body Bd
  have e0 : s₁.heap = h0 := by rw [← hh, Bd.state]; rfl
  have N0 := Fr.nil n0
  have pre0 : ∀ t, Steps p.tables e below (s₁.setTop (mkF m 0 #[.val (.ref o0), .val (.int (1 : Int32))] [])) t → Steps p.tables e below (s₁.setTop (entryFrame m #[(.ref o0), (.int (1 : Int32))] 2)) t := fun t k => castTop (own_ef22n2k1 m o0) k
  obtain ⟨T1, X1, e1, st1⟩ := getF X0 hx hZ hown (host := "") (Or.inl (hw _ (List.mem_of_getElem? (i := 35) rfl))) Via.refl e0 P_F_o0_ids (g := (mkF m 1 #[.val (.ref o0), .val (.int (1 : Int32))] [(.ref o0)])) rfl rfl (hb hby own_d22_1)
  obtain ⟨T2, X2, e2, st2⟩ := getF X1 hx hZ hown (host := "") (Or.inl (hw _ (List.mem_of_getElem? (i := 106) rfl))) Via.refl e1 P_F_o0_size (g := (mkF m 6 #[.val (.ref o0), .val (.int (1 : Int32))] [(.ref o0), (.int (1 : Int32)), (.ref w_ids_o0)])) rfl rfl (hb hby own_d22_6)
  obtain ⟨_, _, ⟨T3, L3, k3, n3⟩, -, X3, ⟨Lc3, hQ3, l3, y3, z3⟩, st3⟩ := Jvm.LawKit.callS X2 hx (y := (⟨"java/util/Objects", "checkIndex", "(II)I"⟩ : MethodName)) hown (mvT hZ (hw _ (List.mem_of_getElem? (i := 130) rfl))) (mvT hZ (hw _ (List.mem_of_getElem? (i := 131) rfl))) (mvT hZ (hw _ (List.mem_of_getElem? (i := 132) rfl))) (mvT hZ (hw _ (List.mem_of_getElem? (i := 133) rfl))) (by decide) (backOf (W := 1) (own_rm23 l Z a0 hw [] (1 : Int32) (2 : Int32) h0 n0 Z0 (by decide) (by decide)) hZ (hw _ (List.mem_of_getElem? (i := 133) rfl)) (hw _ (List.mem_of_getElem? (i := 132) rfl)) (by decide) (by decide)) (g := (mkF m 9 #[.val (.ref o0), .val (.int (1 : Int32))] [(.int (2 : Int32)), (.int (1 : Int32)), (.ref w_ids_o0)])) rfl (by rw [hml]; rfl) (argsL := [(.int (1 : Int32)), (.int (2 : Int32))]) (rest := [(.ref w_ids_o0)]) (lenOf own_pd14 rfl) rfl (by show 2 * 0 + _ ≤ _; exact Nat.le_of_eq rfl) (hb hby own_d22_9) (fun _ _ => ⟨rfl, e2, (by decide : 0 + 0 ≤ _), (by decide : 0 + 0 ≤ _)⟩)
  dsimp only [Pt.U, Pt.locs, Pt.cells, Pt.slots] at X3 l3 y3 z3 st3 hQ3
  subst y3 z3
  obtain ⟨rfl, N3q, e3⟩ := hQ3
  have N4 : Fr n0 L3 := by rw [l3]; exact Fr.app N0 N3q
  obtain ⟨cl5, Ar5, q5, S5, N_5, Ha5, G5⟩ := id P_V_w_ids_o0
  have hin5 : ¬ ((1 : Int32) < 0 ∨ cl5.slots.size ≤ ((1 : Int32)).toNatClampNeg) := inb_of S5 ⟨by decide, by decide⟩
  have pre6 : ∀ t, Steps p.tables e below (T3.setTop (mkF m 13 #[.val (.ref o0), .val (.int (1 : Int32))] [(.ref i1)])) t → Steps p.tables e below (s₁.setTop (entryFrame m #[(.ref o0), (.int (1 : Int32))] 2)) t := fun t k => pre0 t (by
      refine XS.aloadN X0.here hx rfl (hb hby own_d22_0) rfl rfl ?_
      show Steps p.tables e below (s₁.setTop (mkF m 1 #[.val (.ref o0), .val (.int (1 : Int32))] [(.ref o0)])) _
      refine st1 _ ?_
      show Steps p.tables e below (T1.setTop (mkF m 4 #[.val (.ref o0), .val (.int (1 : Int32))] [(.ref w_ids_o0)])) _
      refine XS.iloadN X1.here hx rfl (hb hby own_d22_4) rfl ?_
      refine XS.aloadN X1.here hx rfl (hb hby own_d22_5) rfl rfl ?_
      refine st2 _ ?_
      show Steps p.tables e below (T2.setTop (mkF m 9 #[.val (.ref o0), .val (.int (1 : Int32))] [(.int (2 : Int32)), (.int (1 : Int32)), (.ref w_ids_o0)])) _
      refine st3 _ ?_
      show Steps p.tables e below (T3.setTop (mkF m 12 #[.val (.ref o0), .val (.int (1 : Int32))] [(.int (1 : Int32)), (.ref w_ids_o0)])) _
      refine X3.aaload hx (j := (1 : Int32)) (v := (.ref i1)) (by rw [e3]; exact Ar5.1) (State.isArrayOf_alike hZ.alike Ar5.2.1) rfl Ar5.2.2 hin5 (Has.at Ha5 hin5 (rfl : (_ : Value) = (.ref i1))) (g := (mkF m 12 #[.val (.ref o0), .val (.int (1 : Int32))] [(.int (1 : Int32)), (.ref w_ids_o0)])) rfl rfl (hb hby own_d22_12) _ ?_
      exact k)
  obtain ⟨fs, hr, hrun, hended, hW, hsame⟩ := X3.leave (v := some (.ref i1)) (fun h => by rw [Bd.returns] at h; cases h) (hlocks := hlk)
  refine ⟨_, _, pre6 _ ?_, hrun, hended, _, _, rfl, ?_, ⟨_, rfl⟩, hW, hsame.mono (by decide) (by decide)⟩
  · show Steps p.tables e below (T3.setTop (mkF m 13 #[.val (.ref o0), .val (.int (1 : Int32))] [(.ref i1)])) _
    jvm_step X3.here [X3.here.top, hx, (hb hby own_d22_13), X3.method', Bd.returns, Value.isRef, FieldType.isReference]
    first | (intro acts; rw [hr _ acts rfl rfl rfl]) | rw [hr _ _ rfl rfl rfl]
    exact Steps.refl _
  · show own_Q22n2k1 Z o0 w_ids_o0 k_i i0 i1 h0 n0 _ T3.heap _; rw [e3]; exact ⟨rfl, N4, rfl⟩
theorem own_ef22n3k0 (m : MethodId) (x0 : Addr) : entryFrame m #[(.ref x0), (.int (0 : Int32))] 2 = (mkF m 0 #[.val (.ref x0), .val (.int (0 : Int32))] []) := by first | (simp [entryFrame, mkF, argsToLocals, Value.category]; done) | rfl
def own_Q22n3k0 (Z : State) (o0 : Addr) (w_ids_o0 : Addr) (k_i : ClassId) (i0 : Addr) (i1 : Addr) (i2 : Addr) (h0 : Heap) (n0 : Nat) (v : Option Value) (h : Heap) (L : List Loc) : Prop := v = some (.ref i0) ∧ Fr n0 L ∧ h = h0
set_option maxRecDepth 65536 in
set_option maxHeartbeats 40000000 in
theorem own_rm22n3k0 (l : Launch) (Z : State) (a0 : Array Value) (hw : ∀ d ∈ tables_1, d.before a0 Z = true) (ws : List Jvm.Cond) (o0 : Addr) (w_ids_o0 : Addr) (k_i : ClassId) (i0 : Addr) (i1 : Addr) (i2 : Addr) (h0 : Heap) (n0 : Nat) (Z0 : n0 ≤ h0.size) (P_F_o0_size : Fld Z h0 o0 "com/example/nestor/nestor/IdTable" "size" "I" (.int (3 : Int32))) (P_F_o0_ids : Fld Z h0 o0 "com/example/nestor/nestor/IdTable" "ids" "[Ljava/lang/String;" (.ref w_ids_o0)) (Hov2 : Ovr Z k_i "java/lang/String") (P_V_w_ids_o0 : Arv Z h0 w_ids_o0 k_i (.object "java/lang/String") (8 : Int32) [(.ref i0), (.ref i1), (.ref i2), .null, .null, .null, .null, .null] .null) :
    MetFree l (⟨"com/example/nestor/nestor/IdTable", "id", "(I)Ljava/lang/String;"⟩ : MethodName) (head1 (Jvm.Cond.code (⟨"com/example/nestor/nestor/IdTable", "id", "(I)Ljava/lang/String;"⟩ : MethodName) prog_10_method_3_code 2 (some (.object "java/lang/String")) :: ws) ({ frames := 2, cells := 0, slots := 0, locals := 28 } : Room)) (fun a U => a = #[(.ref o0), (.int (0 : Int32))] ∧ Z.Warmed39 U.vm ∧ U.heap = h0) (fun _ _ _ _ _ => True) (fun _ U o U' => ∃ v L, o = .returned v ∧ own_Q22n3k0 Z o0 w_ids_o0 k_i i0 i1 i2 h0 n0 v U'.heap L ∧ FrameEnd U o U' L ({ frames := 2, cells := 0, slots := 0, locals := 28 } : Room).cells ({ frames := 2, cells := 0, slots := 0, locals := 28 } : Room).slots) := by
  refine MetFree.of_bodySF (plainFor_of_name own_pn22) hisR ?_
  intro p e s m args below meth c s₁ Bd hml0 hP hK
  obtain ⟨rfl, hZ, hh⟩ := hP
  have hx := Bd.exec
  have hlk : meth.locks = false := BodyLoose.notSynchronized Bd
  have hby := Bd.bytes
  have hml : c.maxLocals = 2 := hml0
  have hown : s.vm.findClass "com/example/nestor/nestor/IdTable" = some m.cls := findClass_of_methodNamed Bd.named
  have hnm := (name_of_methodNamed Bd.named Bd.method).1
  have X0 : Stand p l e ({ frames := 2, cells := 0, slots := 0, locals := 28 } : Room) s m #[(.ref o0), (.int (0 : Int32))] below meth c s₁ [] 0 0 := Stand.of_body Bd
  have e0 : s₁.heap = h0 := by rw [← hh, Bd.state]; rfl
  have N0 := Fr.nil n0
  have pre0 : ∀ t, Steps p.tables e below (s₁.setTop (mkF m 0 #[.val (.ref o0), .val (.int (0 : Int32))] [])) t → Steps p.tables e below (s₁.setTop (entryFrame m #[(.ref o0), (.int (0 : Int32))] 2)) t := fun t k => castTop (own_ef22n3k0 m o0) k
  obtain ⟨T1, X1, e1, st1⟩ := getF X0 hx hZ hown (host := "") (Or.inl (hw _ (List.mem_of_getElem? (i := 35) rfl))) Via.refl e0 P_F_o0_ids (g := (mkF m 1 #[.val (.ref o0), .val (.int (0 : Int32))] [(.ref o0)])) rfl rfl (hb hby own_d22_1)
  obtain ⟨T2, X2, e2, st2⟩ := getF X1 hx hZ hown (host := "") (Or.inl (hw _ (List.mem_of_getElem? (i := 106) rfl))) Via.refl e1 P_F_o0_size (g := (mkF m 6 #[.val (.ref o0), .val (.int (0 : Int32))] [(.ref o0), (.int (0 : Int32)), (.ref w_ids_o0)])) rfl rfl (hb hby own_d22_6)
  obtain ⟨_, _, ⟨T3, L3, k3, n3⟩, -, X3, ⟨Lc3, hQ3, l3, y3, z3⟩, st3⟩ := Jvm.LawKit.callS X2 hx (y := (⟨"java/util/Objects", "checkIndex", "(II)I"⟩ : MethodName)) hown (mvT hZ (hw _ (List.mem_of_getElem? (i := 130) rfl))) (mvT hZ (hw _ (List.mem_of_getElem? (i := 131) rfl))) (mvT hZ (hw _ (List.mem_of_getElem? (i := 132) rfl))) (mvT hZ (hw _ (List.mem_of_getElem? (i := 133) rfl))) (by decide) (backOf (W := 1) (own_rm23 l Z a0 hw [] (0 : Int32) (3 : Int32) h0 n0 Z0 (by decide) (by decide)) hZ (hw _ (List.mem_of_getElem? (i := 133) rfl)) (hw _ (List.mem_of_getElem? (i := 132) rfl)) (by decide) (by decide)) (g := (mkF m 9 #[.val (.ref o0), .val (.int (0 : Int32))] [(.int (3 : Int32)), (.int (0 : Int32)), (.ref w_ids_o0)])) rfl (by rw [hml]; rfl) (argsL := [(.int (0 : Int32)), (.int (3 : Int32))]) (rest := [(.ref w_ids_o0)]) (lenOf own_pd14 rfl) rfl (by show 2 * 0 + _ ≤ _; exact Nat.le_of_eq rfl) (hb hby own_d22_9) (fun _ _ => ⟨rfl, e2, (by decide : 0 + 0 ≤ _), (by decide : 0 + 0 ≤ _)⟩)
  dsimp only [Pt.U, Pt.locs, Pt.cells, Pt.slots] at X3 l3 y3 z3 st3 hQ3
  subst y3 z3
  obtain ⟨rfl, N3q, e3⟩ := hQ3
  have N4 : Fr n0 L3 := by rw [l3]; exact Fr.app N0 N3q
  obtain ⟨cl5, Ar5, q5, S5, N_5, Ha5, G5⟩ := id P_V_w_ids_o0
  have hin5 : ¬ ((0 : Int32) < 0 ∨ cl5.slots.size ≤ ((0 : Int32)).toNatClampNeg) := inb_of S5 ⟨by decide, by decide⟩
  have pre6 : ∀ t, Steps p.tables e below (T3.setTop (mkF m 13 #[.val (.ref o0), .val (.int (0 : Int32))] [(.ref i0)])) t → Steps p.tables e below (s₁.setTop (entryFrame m #[(.ref o0), (.int (0 : Int32))] 2)) t := fun t k => pre0 t (by
      refine XS.aloadN X0.here hx rfl (hb hby own_d22_0) rfl rfl ?_
      show Steps p.tables e below (s₁.setTop (mkF m 1 #[.val (.ref o0), .val (.int (0 : Int32))] [(.ref o0)])) _
      refine st1 _ ?_
      show Steps p.tables e below (T1.setTop (mkF m 4 #[.val (.ref o0), .val (.int (0 : Int32))] [(.ref w_ids_o0)])) _
      refine XS.iloadN X1.here hx rfl (hb hby own_d22_4) rfl ?_
      refine XS.aloadN X1.here hx rfl (hb hby own_d22_5) rfl rfl ?_
      refine st2 _ ?_
      show Steps p.tables e below (T2.setTop (mkF m 9 #[.val (.ref o0), .val (.int (0 : Int32))] [(.int (3 : Int32)), (.int (0 : Int32)), (.ref w_ids_o0)])) _
      refine st3 _ ?_
      show Steps p.tables e below (T3.setTop (mkF m 12 #[.val (.ref o0), .val (.int (0 : Int32))] [(.int (0 : Int32)), (.ref w_ids_o0)])) _
      refine X3.aaload hx (j := (0 : Int32)) (v := (.ref i0)) (by rw [e3]; exact Ar5.1) (State.isArrayOf_alike hZ.alike Ar5.2.1) rfl Ar5.2.2 hin5 (Has.at Ha5 hin5 (rfl : (_ : Value) = (.ref i0))) (g := (mkF m 12 #[.val (.ref o0), .val (.int (0 : Int32))] [(.int (0 : Int32)), (.ref w_ids_o0)])) rfl rfl (hb hby own_d22_12) _ ?_
      exact k)
  obtain ⟨fs, hr, hrun, hended, hW, hsame⟩ := X3.leave (v := some (.ref i0)) (fun h => by rw [Bd.returns] at h; cases h) (hlocks := hlk)
  refine ⟨_, _, pre6 _ ?_, hrun, hended, _, _, rfl, ?_, ⟨_, rfl⟩, hW, hsame.mono (by decide) (by decide)⟩
  · show Steps p.tables e below (T3.setTop (mkF m 13 #[.val (.ref o0), .val (.int (0 : Int32))] [(.ref i0)])) _
    jvm_step X3.here [X3.here.top, hx, (hb hby own_d22_13), X3.method', Bd.returns, Value.isRef, FieldType.isReference]
    first | (intro acts; rw [hr _ acts rfl rfl rfl]) | rw [hr _ _ rfl rfl rfl]
    exact Steps.refl _
  · show own_Q22n3k0 Z o0 w_ids_o0 k_i i0 i1 i2 h0 n0 _ T3.heap _; rw [e3]; exact ⟨rfl, N4, rfl⟩
theorem own_ef22n3k1 (m : MethodId) (x0 : Addr) : entryFrame m #[(.ref x0), (.int (1 : Int32))] 2 = (mkF m 0 #[.val (.ref x0), .val (.int (1 : Int32))] []) := by first | (simp [entryFrame, mkF, argsToLocals, Value.category]; done) | rfl
def own_Q22n3k1 (Z : State) (o0 : Addr) (w_ids_o0 : Addr) (k_i : ClassId) (i0 : Addr) (i1 : Addr) (i2 : Addr) (h0 : Heap) (n0 : Nat) (v : Option Value) (h : Heap) (L : List Loc) : Prop := v = some (.ref i1) ∧ Fr n0 L ∧ h = h0
set_option maxRecDepth 65536 in
set_option maxHeartbeats 40000000 in
theorem own_rm22n3k1 (l : Launch) (Z : State) (a0 : Array Value) (hw : ∀ d ∈ tables_1, d.before a0 Z = true) (ws : List Jvm.Cond) (o0 : Addr) (w_ids_o0 : Addr) (k_i : ClassId) (i0 : Addr) (i1 : Addr) (i2 : Addr) (h0 : Heap) (n0 : Nat) (Z0 : n0 ≤ h0.size) (P_F_o0_size : Fld Z h0 o0 "com/example/nestor/nestor/IdTable" "size" "I" (.int (3 : Int32))) (P_F_o0_ids : Fld Z h0 o0 "com/example/nestor/nestor/IdTable" "ids" "[Ljava/lang/String;" (.ref w_ids_o0)) (Hov2 : Ovr Z k_i "java/lang/String") (P_V_w_ids_o0 : Arv Z h0 w_ids_o0 k_i (.object "java/lang/String") (8 : Int32) [(.ref i0), (.ref i1), (.ref i2), .null, .null, .null, .null, .null] .null) :
    MetFree l (⟨"com/example/nestor/nestor/IdTable", "id", "(I)Ljava/lang/String;"⟩ : MethodName) (head1 (Jvm.Cond.code (⟨"com/example/nestor/nestor/IdTable", "id", "(I)Ljava/lang/String;"⟩ : MethodName) prog_10_method_3_code 2 (some (.object "java/lang/String")) :: ws) ({ frames := 2, cells := 0, slots := 0, locals := 28 } : Room)) (fun a U => a = #[(.ref o0), (.int (1 : Int32))] ∧ Z.Warmed39 U.vm ∧ U.heap = h0) (fun _ _ _ _ _ => True) (fun _ U o U' => ∃ v L, o = .returned v ∧ own_Q22n3k1 Z o0 w_ids_o0 k_i i0 i1 i2 h0 n0 v U'.heap L ∧ FrameEnd U o U' L ({ frames := 2, cells := 0, slots := 0, locals := 28 } : Room).cells ({ frames := 2, cells := 0, slots := 0, locals := 28 } : Room).slots) := by
  refine MetFree.of_bodySF (plainFor_of_name own_pn22) hisR ?_
  intro p e s m args below meth c s₁ Bd hml0 hP hK
  obtain ⟨rfl, hZ, hh⟩ := hP
  have hx := Bd.exec
  have hlk : meth.locks = false := BodyLoose.notSynchronized Bd
  have hby := Bd.bytes
  have hml : c.maxLocals = 2 := hml0
  have hown : s.vm.findClass "com/example/nestor/nestor/IdTable" = some m.cls := findClass_of_methodNamed Bd.named
  have hnm := (name_of_methodNamed Bd.named Bd.method).1
  have X0 : Stand p l e ({ frames := 2, cells := 0, slots := 0, locals := 28 } : Room) s m #[(.ref o0), (.int (1 : Int32))] below meth c s₁ [] 0 0 := Stand.of_body Bd
  have e0 : s₁.heap = h0 := by rw [← hh, Bd.state]; rfl
  have N0 := Fr.nil n0
  have pre0 : ∀ t, Steps p.tables e below (s₁.setTop (mkF m 0 #[.val (.ref o0), .val (.int (1 : Int32))] [])) t → Steps p.tables e below (s₁.setTop (entryFrame m #[(.ref o0), (.int (1 : Int32))] 2)) t := fun t k => castTop (own_ef22n3k1 m o0) k
  obtain ⟨T1, X1, e1, st1⟩ := getF X0 hx hZ hown (host := "") (Or.inl (hw _ (List.mem_of_getElem? (i := 35) rfl))) Via.refl e0 P_F_o0_ids (g := (mkF m 1 #[.val (.ref o0), .val (.int (1 : Int32))] [(.ref o0)])) rfl rfl (hb hby own_d22_1)
  obtain ⟨T2, X2, e2, st2⟩ := getF X1 hx hZ hown (host := "") (Or.inl (hw _ (List.mem_of_getElem? (i := 106) rfl))) Via.refl e1 P_F_o0_size (g := (mkF m 6 #[.val (.ref o0), .val (.int (1 : Int32))] [(.ref o0), (.int (1 : Int32)), (.ref w_ids_o0)])) rfl rfl (hb hby own_d22_6)
  obtain ⟨_, _, ⟨T3, L3, k3, n3⟩, -, X3, ⟨Lc3, hQ3, l3, y3, z3⟩, st3⟩ := Jvm.LawKit.callS X2 hx (y := (⟨"java/util/Objects", "checkIndex", "(II)I"⟩ : MethodName)) hown (mvT hZ (hw _ (List.mem_of_getElem? (i := 130) rfl))) (mvT hZ (hw _ (List.mem_of_getElem? (i := 131) rfl))) (mvT hZ (hw _ (List.mem_of_getElem? (i := 132) rfl))) (mvT hZ (hw _ (List.mem_of_getElem? (i := 133) rfl))) (by decide) (backOf (W := 1) (own_rm23 l Z a0 hw [] (1 : Int32) (3 : Int32) h0 n0 Z0 (by decide) (by decide)) hZ (hw _ (List.mem_of_getElem? (i := 133) rfl)) (hw _ (List.mem_of_getElem? (i := 132) rfl)) (by decide) (by decide)) (g := (mkF m 9 #[.val (.ref o0), .val (.int (1 : Int32))] [(.int (3 : Int32)), (.int (1 : Int32)), (.ref w_ids_o0)])) rfl (by rw [hml]; rfl) (argsL := [(.int (1 : Int32)), (.int (3 : Int32))]) (rest := [(.ref w_ids_o0)]) (lenOf own_pd14 rfl) rfl (by show 2 * 0 + _ ≤ _; exact Nat.le_of_eq rfl) (hb hby own_d22_9) (fun _ _ => ⟨rfl, e2, (by decide : 0 + 0 ≤ _), (by decide : 0 + 0 ≤ _)⟩)
  dsimp only [Pt.U, Pt.locs, Pt.cells, Pt.slots] at X3 l3 y3 z3 st3 hQ3
  subst y3 z3
  obtain ⟨rfl, N3q, e3⟩ := hQ3
  have N4 : Fr n0 L3 := by rw [l3]; exact Fr.app N0 N3q
  obtain ⟨cl5, Ar5, q5, S5, N_5, Ha5, G5⟩ := id P_V_w_ids_o0
  have hin5 : ¬ ((1 : Int32) < 0 ∨ cl5.slots.size ≤ ((1 : Int32)).toNatClampNeg) := inb_of S5 ⟨by decide, by decide⟩
  have pre6 : ∀ t, Steps p.tables e below (T3.setTop (mkF m 13 #[.val (.ref o0), .val (.int (1 : Int32))] [(.ref i1)])) t → Steps p.tables e below (s₁.setTop (entryFrame m #[(.ref o0), (.int (1 : Int32))] 2)) t := fun t k => pre0 t (by
      refine XS.aloadN X0.here hx rfl (hb hby own_d22_0) rfl rfl ?_
      show Steps p.tables e below (s₁.setTop (mkF m 1 #[.val (.ref o0), .val (.int (1 : Int32))] [(.ref o0)])) _
      refine st1 _ ?_
      show Steps p.tables e below (T1.setTop (mkF m 4 #[.val (.ref o0), .val (.int (1 : Int32))] [(.ref w_ids_o0)])) _
      refine XS.iloadN X1.here hx rfl (hb hby own_d22_4) rfl ?_
      refine XS.aloadN X1.here hx rfl (hb hby own_d22_5) rfl rfl ?_
      refine st2 _ ?_
      show Steps p.tables e below (T2.setTop (mkF m 9 #[.val (.ref o0), .val (.int (1 : Int32))] [(.int (3 : Int32)), (.int (1 : Int32)), (.ref w_ids_o0)])) _
      refine st3 _ ?_
      show Steps p.tables e below (T3.setTop (mkF m 12 #[.val (.ref o0), .val (.int (1 : Int32))] [(.int (1 : Int32)), (.ref w_ids_o0)])) _
      refine X3.aaload hx (j := (1 : Int32)) (v := (.ref i1)) (by rw [e3]; exact Ar5.1) (State.isArrayOf_alike hZ.alike Ar5.2.1) rfl Ar5.2.2 hin5 (Has.at Ha5 hin5 (rfl : (_ : Value) = (.ref i1))) (g := (mkF m 12 #[.val (.ref o0), .val (.int (1 : Int32))] [(.int (1 : Int32)), (.ref w_ids_o0)])) rfl rfl (hb hby own_d22_12) _ ?_
      exact k)
  obtain ⟨fs, hr, hrun, hended, hW, hsame⟩ := X3.leave (v := some (.ref i1)) (fun h => by rw [Bd.returns] at h; cases h) (hlocks := hlk)
  refine ⟨_, _, pre6 _ ?_, hrun, hended, _, _, rfl, ?_, ⟨_, rfl⟩, hW, hsame.mono (by decide) (by decide)⟩
  · show Steps p.tables e below (T3.setTop (mkF m 13 #[.val (.ref o0), .val (.int (1 : Int32))] [(.ref i1)])) _
    jvm_step X3.here [X3.here.top, hx, (hb hby own_d22_13), X3.method', Bd.returns, Value.isRef, FieldType.isReference]
    first | (intro acts; rw [hr _ acts rfl rfl rfl]) | rw [hr _ _ rfl rfl rfl]
    exact Steps.refl _
  · show own_Q22n3k1 Z o0 w_ids_o0 k_i i0 i1 i2 h0 n0 _ T3.heap _; rw [e3]; exact ⟨rfl, N4, rfl⟩
theorem own_ef22n3k2 (m : MethodId) (x0 : Addr) : entryFrame m #[(.ref x0), (.int (2 : Int32))] 2 = (mkF m 0 #[.val (.ref x0), .val (.int (2 : Int32))] []) := by first | (simp [entryFrame, mkF, argsToLocals, Value.category]; done) | rfl
def own_Q22n3k2 (Z : State) (o0 : Addr) (w_ids_o0 : Addr) (k_i : ClassId) (i0 : Addr) (i1 : Addr) (i2 : Addr) (h0 : Heap) (n0 : Nat) (v : Option Value) (h : Heap) (L : List Loc) : Prop := v = some (.ref i2) ∧ Fr n0 L ∧ h = h0
set_option maxRecDepth 65536 in
set_option maxHeartbeats 40000000 in
theorem own_rm22n3k2 (l : Launch) (Z : State) (a0 : Array Value) (hw : ∀ d ∈ tables_1, d.before a0 Z = true) (ws : List Jvm.Cond) (o0 : Addr) (w_ids_o0 : Addr) (k_i : ClassId) (i0 : Addr) (i1 : Addr) (i2 : Addr) (h0 : Heap) (n0 : Nat) (Z0 : n0 ≤ h0.size) (P_F_o0_size : Fld Z h0 o0 "com/example/nestor/nestor/IdTable" "size" "I" (.int (3 : Int32))) (P_F_o0_ids : Fld Z h0 o0 "com/example/nestor/nestor/IdTable" "ids" "[Ljava/lang/String;" (.ref w_ids_o0)) (Hov2 : Ovr Z k_i "java/lang/String") (P_V_w_ids_o0 : Arv Z h0 w_ids_o0 k_i (.object "java/lang/String") (8 : Int32) [(.ref i0), (.ref i1), (.ref i2), .null, .null, .null, .null, .null] .null) :
    MetFree l (⟨"com/example/nestor/nestor/IdTable", "id", "(I)Ljava/lang/String;"⟩ : MethodName) (head1 (Jvm.Cond.code (⟨"com/example/nestor/nestor/IdTable", "id", "(I)Ljava/lang/String;"⟩ : MethodName) prog_10_method_3_code 2 (some (.object "java/lang/String")) :: ws) ({ frames := 2, cells := 0, slots := 0, locals := 28 } : Room)) (fun a U => a = #[(.ref o0), (.int (2 : Int32))] ∧ Z.Warmed39 U.vm ∧ U.heap = h0) (fun _ _ _ _ _ => True) (fun _ U o U' => ∃ v L, o = .returned v ∧ own_Q22n3k2 Z o0 w_ids_o0 k_i i0 i1 i2 h0 n0 v U'.heap L ∧ FrameEnd U o U' L ({ frames := 2, cells := 0, slots := 0, locals := 28 } : Room).cells ({ frames := 2, cells := 0, slots := 0, locals := 28 } : Room).slots) := by
  refine MetFree.of_bodySF (plainFor_of_name own_pn22) hisR ?_
  intro p e s m args below meth c s₁ Bd hml0 hP hK
  obtain ⟨rfl, hZ, hh⟩ := hP
  have hx := Bd.exec
  have hlk : meth.locks = false := BodyLoose.notSynchronized Bd
  have hby := Bd.bytes
  have hml : c.maxLocals = 2 := hml0
  have hown : s.vm.findClass "com/example/nestor/nestor/IdTable" = some m.cls := findClass_of_methodNamed Bd.named
  have hnm := (name_of_methodNamed Bd.named Bd.method).1
  have X0 : Stand p l e ({ frames := 2, cells := 0, slots := 0, locals := 28 } : Room) s m #[(.ref o0), (.int (2 : Int32))] below meth c s₁ [] 0 0 := Stand.of_body Bd
  have e0 : s₁.heap = h0 := by rw [← hh, Bd.state]; rfl
  have N0 := Fr.nil n0
  have pre0 : ∀ t, Steps p.tables e below (s₁.setTop (mkF m 0 #[.val (.ref o0), .val (.int (2 : Int32))] [])) t → Steps p.tables e below (s₁.setTop (entryFrame m #[(.ref o0), (.int (2 : Int32))] 2)) t := fun t k => castTop (own_ef22n3k2 m o0) k
  obtain ⟨T1, X1, e1, st1⟩ := getF X0 hx hZ hown (host := "") (Or.inl (hw _ (List.mem_of_getElem? (i := 35) rfl))) Via.refl e0 P_F_o0_ids (g := (mkF m 1 #[.val (.ref o0), .val (.int (2 : Int32))] [(.ref o0)])) rfl rfl (hb hby own_d22_1)
  obtain ⟨T2, X2, e2, st2⟩ := getF X1 hx hZ hown (host := "") (Or.inl (hw _ (List.mem_of_getElem? (i := 106) rfl))) Via.refl e1 P_F_o0_size (g := (mkF m 6 #[.val (.ref o0), .val (.int (2 : Int32))] [(.ref o0), (.int (2 : Int32)), (.ref w_ids_o0)])) rfl rfl (hb hby own_d22_6)
  obtain ⟨_, _, ⟨T3, L3, k3, n3⟩, -, X3, ⟨Lc3, hQ3, l3, y3, z3⟩, st3⟩ := Jvm.LawKit.callS X2 hx (y := (⟨"java/util/Objects", "checkIndex", "(II)I"⟩ : MethodName)) hown (mvT hZ (hw _ (List.mem_of_getElem? (i := 130) rfl))) (mvT hZ (hw _ (List.mem_of_getElem? (i := 131) rfl))) (mvT hZ (hw _ (List.mem_of_getElem? (i := 132) rfl))) (mvT hZ (hw _ (List.mem_of_getElem? (i := 133) rfl))) (by decide) (backOf (W := 1) (own_rm23 l Z a0 hw [] (2 : Int32) (3 : Int32) h0 n0 Z0 (by decide) (by decide)) hZ (hw _ (List.mem_of_getElem? (i := 133) rfl)) (hw _ (List.mem_of_getElem? (i := 132) rfl)) (by decide) (by decide)) (g := (mkF m 9 #[.val (.ref o0), .val (.int (2 : Int32))] [(.int (3 : Int32)), (.int (2 : Int32)), (.ref w_ids_o0)])) rfl (by rw [hml]; rfl) (argsL := [(.int (2 : Int32)), (.int (3 : Int32))]) (rest := [(.ref w_ids_o0)]) (lenOf own_pd14 rfl) rfl (by show 2 * 0 + _ ≤ _; exact Nat.le_of_eq rfl) (hb hby own_d22_9) (fun _ _ => ⟨rfl, e2, (by decide : 0 + 0 ≤ _), (by decide : 0 + 0 ≤ _)⟩)
  dsimp only [Pt.U, Pt.locs, Pt.cells, Pt.slots] at X3 l3 y3 z3 st3 hQ3
  subst y3 z3
  obtain ⟨rfl, N3q, e3⟩ := hQ3
  have N4 : Fr n0 L3 := by rw [l3]; exact Fr.app N0 N3q
  obtain ⟨cl5, Ar5, q5, S5, N_5, Ha5, G5⟩ := id P_V_w_ids_o0
  have hin5 : ¬ ((2 : Int32) < 0 ∨ cl5.slots.size ≤ ((2 : Int32)).toNatClampNeg) := inb_of S5 ⟨by decide, by decide⟩
  have pre6 : ∀ t, Steps p.tables e below (T3.setTop (mkF m 13 #[.val (.ref o0), .val (.int (2 : Int32))] [(.ref i2)])) t → Steps p.tables e below (s₁.setTop (entryFrame m #[(.ref o0), (.int (2 : Int32))] 2)) t := fun t k => pre0 t (by
      refine XS.aloadN X0.here hx rfl (hb hby own_d22_0) rfl rfl ?_
      show Steps p.tables e below (s₁.setTop (mkF m 1 #[.val (.ref o0), .val (.int (2 : Int32))] [(.ref o0)])) _
      refine st1 _ ?_
      show Steps p.tables e below (T1.setTop (mkF m 4 #[.val (.ref o0), .val (.int (2 : Int32))] [(.ref w_ids_o0)])) _
      refine XS.iloadN X1.here hx rfl (hb hby own_d22_4) rfl ?_
      refine XS.aloadN X1.here hx rfl (hb hby own_d22_5) rfl rfl ?_
      refine st2 _ ?_
      show Steps p.tables e below (T2.setTop (mkF m 9 #[.val (.ref o0), .val (.int (2 : Int32))] [(.int (3 : Int32)), (.int (2 : Int32)), (.ref w_ids_o0)])) _
      refine st3 _ ?_
      show Steps p.tables e below (T3.setTop (mkF m 12 #[.val (.ref o0), .val (.int (2 : Int32))] [(.int (2 : Int32)), (.ref w_ids_o0)])) _
      refine X3.aaload hx (j := (2 : Int32)) (v := (.ref i2)) (by rw [e3]; exact Ar5.1) (State.isArrayOf_alike hZ.alike Ar5.2.1) rfl Ar5.2.2 hin5 (Has.at Ha5 hin5 (rfl : (_ : Value) = (.ref i2))) (g := (mkF m 12 #[.val (.ref o0), .val (.int (2 : Int32))] [(.int (2 : Int32)), (.ref w_ids_o0)])) rfl rfl (hb hby own_d22_12) _ ?_
      exact k)
  obtain ⟨fs, hr, hrun, hended, hW, hsame⟩ := X3.leave (v := some (.ref i2)) (fun h => by rw [Bd.returns] at h; cases h) (hlocks := hlk)
  refine ⟨_, _, pre6 _ ?_, hrun, hended, _, _, rfl, ?_, ⟨_, rfl⟩, hW, hsame.mono (by decide) (by decide)⟩
  · show Steps p.tables e below (T3.setTop (mkF m 13 #[.val (.ref o0), .val (.int (2 : Int32))] [(.ref i2)])) _
    jvm_step X3.here [X3.here.top, hx, (hb hby own_d22_13), X3.method', Bd.returns, Value.isRef, FieldType.isReference]
    first | (intro acts; rw [hr _ acts rfl rfl rfl]) | rw [hr _ _ rfl rfl rfl]
    exact Steps.refl _
  · show own_Q22n3k2 Z o0 w_ids_o0 k_i i0 i1 i2 h0 n0 _ T3.heap _; rw [e3]; exact ⟨rfl, N4, rfl⟩
def own_cb (x : Int32) : Int32 := nar .byte (((x &&& (255 : Int32)).toUInt32.toUInt16.toUInt32.toInt32).toInt8.toInt32)
theorem own_narb (x : Int32) : nar .byte x = x.toInt8.toInt32 := rfl
theorem own_cby (x : Int32) : own_by (own_cb x) := by
  unfold own_by own_cb
  rw [own_narb]
  have := c_i2b (((x &&& (255 : Int32)).toUInt32.toUInt16.toUInt32.toInt32).toInt8.toInt32)
  omega
theorem own_i255 (x : Int32) : ¬ ((255 : Int32) < ((x &&& (255 : Int32)).toUInt32.toUInt16.toUInt32.toInt32)) := by
  rw [i2c_mask]
  have m1 : (x &&& (255 : Int32)).toInt = x.toInt % (2 ^ 8 : Nat) := c_mask x 255 8 (by decide) (by decide)
  rw [Int32.lt_iff_toInt_lt, show (255 : Int32).toInt = 255 from by decide]; omega
theorem own_enc (x : Int32) : ¬ (own_f2 ((x &&& (255 : Int32)).toUInt32.toUInt16.toUInt32.toInt32) = (0 : Int32)) := by
  unfold own_f2
  rw [if_neg (own_i255 x)]; decide
theorem own_ok0 (c : Int32) : own_ok (0 : Int32) (0 : Int32) c := by
  unfold own_ok own_f10
  rw [if_pos rfl, if_pos rfl]; split <;> rfl
theorem own_ne1 (d c : Int32) (h : own_f13t1 (d &&& (255 : Int32)) (own_y0 c) c < (0 : Int32)) : ¬ d = c := fun e => by
  subst e
  unfold own_f13t1 at h
  rw [own_y0e, if_pos rfl, if_pos rfl] at h
  exact absurd h (by decide)
theorem own_eq1 (d c : Int32) (hd : own_by d) (hc : own_by c) (h : ¬ own_f13t1 (d &&& (255 : Int32)) (own_y0 c) c < (0 : Int32)) : d = c := by
  by_cases q : own_f14 (d &&& (255 : Int32)) = own_y0 c
  · by_cases q2 : (c &&& (255 : Int32)) = (d &&& (255 : Int32))
    · exact own_inj d c hd hc q2.symm
    · exfalso; apply h
      unfold own_f13t1
      rw [if_pos q, if_neg q2]; exact (own_neg _ (own_m15 _)).2.2
  · exfalso; apply h
    unfold own_f13t1
    rw [if_neg q]; exact (own_neg _ (own_home _)).2.2
theorem own_eqs (c d : Int32) (h : c = d) : ¬ own_f19 c d = (0 : Int32) := by
  unfold own_f19 own_f20
  rw [if_pos h]; decide
theorem own_nes (c d : Int32) (h : ¬ c = d) : own_f19 c d = (0 : Int32) := by
  unfold own_f19 own_f20
  rw [if_neg h]; decide
theorem own_sp (c1 c0 : Int32) : own_f14 (c1 &&& (255 : Int32)) = own_y0 c0 → own_f13t1 (c1 &&& (255 : Int32)) (own_y0 c0) c0 < (0 : Int32) → own_y1 c1 (own_y0 c0) c0 = ((own_f14 (c1 &&& (255 : Int32)) + (1 : Int32)) &&& (15 : Int32)) := by
  intro q h
  revert h
  unfold own_y1 own_f13t1
  rw [if_pos q]
  split
  · intro h; exact absurd h (by decide)
  · intro _; exact (own_neg _ (own_m15 _)).1
theorem own_sq (c1 c0 : Int32) : ¬ own_f14 (c1 &&& (255 : Int32)) = own_y0 c0 → own_y1 c1 (own_y0 c0) c0 = own_f14 (c1 &&& (255 : Int32)) := by
  intro q
  unfold own_y1 own_f13t1
  rw [if_neg q]; exact (own_neg _ (own_home _)).1
theorem own_f2a (c0 c1 : Int32) : own_f13t2 (c0 &&& (255 : Int32)) (own_y0 c0) (own_y1 c1 (own_y0 c0) c0) c0 c1 = (0 : Int32) := by
  unfold own_f13t2
  rw [own_y0e, if_pos rfl, if_pos rfl]
theorem own_f2b (c0 c1 : Int32) (b0 : own_by c0) (b1 : own_by c1) (h : own_f13t1 (c1 &&& (255 : Int32)) (own_y0 c0) c0 < (0 : Int32)) : own_f13t2 (c1 &&& (255 : Int32)) (own_y0 c0) (own_y1 c1 (own_y0 c0) c0) c0 c1 = (1 : Int32) := by
  have n := own_ne1 c1 c0 h
  have n2 : ¬ (c0 &&& (255 : Int32)) = (c1 &&& (255 : Int32)) := fun q => n (own_inj c1 c0 b1 b0 q.symm)
  unfold own_f13t2
  by_cases q : own_f14 (c1 &&& (255 : Int32)) = own_y0 c0
  · rw [if_pos q, if_neg n2, if_pos (own_sp c1 c0 q h).symm, if_pos rfl]
  · rw [if_neg q, if_pos (own_sq c1 c0 q).symm, if_pos rfl]
theorem own_n20 (d c0 c1 : Int32) (b0 : own_by c0) (b1 : own_by c1) (h : own_f13t1 (c1 &&& (255 : Int32)) (own_y0 c0) c0 < (0 : Int32)) (g : own_f13t2 (d &&& (255 : Int32)) (own_y0 c0) (own_y1 c1 (own_y0 c0) c0) c0 c1 < (0 : Int32)) : ¬ d = c0 ∧ ¬ d = c1 :=
  ⟨fun e => by rw [e, own_f2a] at g; exact absurd g (by decide), fun e => by rw [e, own_f2b c0 c1 b0 b1 h] at g; exact absurd g (by decide)⟩
theorem own_hit (p x0 x1 c0 c1 : Int32) : (own_f13t2 p x0 x1 c0 c1 = (0 : Int32) → (c0 &&& (255 : Int32)) = p) ∧ (own_f13t2 p x0 x1 c0 c1 = (1 : Int32) → (c1 &&& (255 : Int32)) = p) := by
  rcases own_k2 _ _ _ _ _ _ (rfl : own_f13t2 p x0 x1 c0 c1 = _) with ⟨e0, q⟩ | ⟨e1, q⟩ | ⟨e, he, er⟩
  · exact ⟨fun _ => q, fun g => absurd (e0.symm.trans g) own_z01⟩
  · exact ⟨fun g => absurd (e1.symm.trans g) own_z10, fun _ => q⟩
  · have n := (own_neg e he).2.2
    exact ⟨fun g => by rw [← er, g] at n; exact absurd n own_zz0, fun g => by rw [← er, g] at n; exact absurd n own_zz1⟩
theorem own_e20 (d c0 c1 x0 x1 : Int32) (bd : own_by d) (b0 : own_by c0) (h : own_f13t2 (d &&& (255 : Int32)) x0 x1 c0 c1 = (0 : Int32)) : d = c0 := own_inj d c0 bd b0 ((own_hit _ _ _ _ _).1 h).symm
theorem own_e21 (d c0 c1 x0 x1 : Int32) (bd : own_by d) (b1 : own_by c1) (h : own_f13t2 (d &&& (255 : Int32)) x0 x1 c0 c1 = (1 : Int32)) : d = c1 := own_inj d c1 bd b1 ((own_hit _ _ _ _ _).2 h).symm
theorem own_pd15 : parseMethodDescriptor "(C)Ljava/lang/String;" = some ⟨[.char], some (.object "java/lang/String")⟩ := by decide +kernel
theorem own_pd16 : parseMethodDescriptor "(Ljava/lang/String;)I" = some ⟨[(.object "java/lang/String")], some .int⟩ := by decide +kernel
theorem own_pd17 : parseMethodDescriptor "(I)Ljava/lang/String;" = some ⟨[.int], some (.object "java/lang/String")⟩ := by decide +kernel
theorem own_pn0 : plainName "com/example/nestor/nestor/IdTableIdPinLaw" = true := by first | (simp [plainName, overriddenIn]; done) | decide +kernel
theorem own_ef0 (m : MethodId) (x0 : Int32) (x1 : Int32) (x2 : Int32) : entryFrame m #[(.int x0), (.int x1), (.int x2)] maxLocals = (mkF m 0 #[.val (.int x0), .val (.int x1), .val (.int x2), .unset, .unset, .unset, .unset, .unset, .unset, .unset, .unset, .unset, .unset, .unset] []) := by first | (simp [entryFrame, mkF, argsToLocals, Value.category, maxLocals]; done) | rfl
def own_f0 (p0 : Int32) (p1 : Int32) (p2 : Int32) : Int32 := (if own_f13t1 ((own_cb p1) &&& (255 : Int32)) (own_y0 (own_cb p0)) (own_cb p0) < (0 : Int32) then (if own_f13t2 ((own_cb p2) &&& (255 : Int32)) (own_y0 (own_cb p0)) (own_y1 (own_cb p1) (own_y0 (own_cb p0)) (own_cb p0)) (own_cb p0) (own_cb p1) < (0 : Int32) then (1 : Int32) else (if own_f13t2 ((own_cb p2) &&& (255 : Int32)) (own_y0 (own_cb p0)) (own_y1 (own_cb p1) (own_y0 (own_cb p0)) (own_cb p0)) (own_cb p0) (own_cb p1) = (0 : Int32) then (1 : Int32) else (1 : Int32))) else (if own_f13t1 ((own_cb p2) &&& (255 : Int32)) (own_y0 (own_cb p0)) (own_cb p0) < (0 : Int32) then (1 : Int32) else (1 : Int32)))
def own_Q0 (Z : State) (p0 : Int32) (p1 : Int32) (p2 : Int32) (z_COMPACT_STRINGS : Int32) (h0 : Heap) (n0 : Nat) (v : Option Value) (h : Heap) (L : List Loc) : Prop := v = some (.int (own_f0 p0 p1 p2)) ∧ Fr n0 L
set_option maxRecDepth 65536 in
set_option maxHeartbeats 40000000 in
theorem own_rm0 (l : Launch) (Z : State) (a0 : Array Value) (hw : ∀ d ∈ tables_1, d.before a0 Z = true) (ws : List Jvm.Cond) (p0 : Int32) (p1 : Int32) (p2 : Int32) (z_COMPACT_STRINGS : Int32) (h0 : Heap) (n0 : Nat) (Z0 : n0 ≤ h0.size) (HC : ¬ (z_COMPACT_STRINGS = (0 : Int32))) (P_O_ : Old Z n0 h0) (P_B_java_lang_String_COMPACT_STRINGS : Sta Z Z.heap "java/lang/String" "COMPACT_STRINGS" "Z" (.int z_COMPACT_STRINGS)) :
    MetFree l x (head1 (Jvm.Cond.code x code maxLocals ret :: ws) room_1) (fun a U => a = #[(.int p0), (.int p1), (.int p2)] ∧ Z.Warmed39 U.vm ∧ U.heap = h0) (fun _ _ _ _ _ => True) (fun _ U o U' => ∃ v L, o = .returned v ∧ own_Q0 Z p0 p1 p2 z_COMPACT_STRINGS h0 n0 v U'.heap L ∧ FrameEnd U o U' L room_1.cells room_1.slots) := by
  refine MetFree.of_bodySF (plainFor_of_name own_pn0) hisR ?_
  intro p e s m args below meth c s₁ Bd hml0 hP hK
  obtain ⟨rfl, hZ, hh⟩ := hP
  have hx := Bd.exec
  have hlk : meth.locks = false := BodyLoose.notSynchronized Bd
  have hby := Bd.bytes
  have hml : c.maxLocals = 14 := hml0
  have hown : s.vm.findClass "com/example/nestor/nestor/IdTableIdPinLaw" = some m.cls := findClass_of_methodNamed Bd.named
  have hnm := (name_of_methodNamed Bd.named Bd.method).1
  have X0 : Stand p l e room_1 s m #[(.int p0), (.int p1), (.int p2)] below meth c s₁ [] 0 0 := Stand.of_body Bd
  have e0 : s₁.heap = h0 := by rw [← hh, Bd.state]; rfl
  have N0 := Fr.nil n0
  have pre0 : ∀ t, Steps p.tables e below (s₁.setTop (mkF m 0 #[.val (.int p0), .val (.int p1), .val (.int p2), .unset, .unset, .unset, .unset, .unset, .unset, .unset, .unset, .unset, .unset, .unset] [])) t → Steps p.tables e below (s₁.setTop (entryFrame m #[(.int p0), (.int p1), (.int p2)] maxLocals)) t := fun t k => castTop (own_ef0 m p0 p1 p2) k
  have f2 : Sta Z h0 "java/lang/String" "COMPACT_STRINGS" "Z" (.int z_COMPACT_STRINGS) := P_B_java_lang_String_COMPACT_STRINGS.ext P_O_.2
  obtain ⟨_, _, ⟨T1, L1, k1, n1⟩, -, X1, ⟨Lc1, hQ1, l1, y1, z1⟩, st1⟩ := Jvm.LawKit.callS X0 hx (y := (⟨"java/lang/String", "valueOf", "(C)Ljava/lang/String;"⟩ : MethodName)) hown (mvT hZ (hw _ (List.mem_of_getElem? (i := 0) rfl))) (mvT hZ (hw _ (List.mem_of_getElem? (i := 1) rfl))) (mvT hZ (hw _ (List.mem_of_getElem? (i := 2) rfl))) (mvT hZ (hw _ (List.mem_of_getElem? (i := 3) rfl))) (by decide) (backOf (W := 0) (own_rm1 l Z a0 hw [] ((p0 &&& (255 : Int32)).toUInt32.toUInt16.toUInt32.toInt32) z_COMPACT_STRINGS h0 n0 Z0 HC (own_enc _) f2) hZ (hw _ (List.mem_of_getElem? (i := 3) rfl)) (hw _ (List.mem_of_getElem? (i := 2) rfl)) (by decide) (by decide)) (g := (mkF m 6 #[.val (.int p0), .val (.int p1), .val (.int p2), .unset, .unset, .unset, .unset, .unset, .unset, .unset, .unset, .unset, .unset, .unset] [(.int ((p0 &&& (255 : Int32)).toUInt32.toUInt16.toUInt32.toInt32))])) rfl (by rw [hml]; rfl) (argsL := [(.int ((p0 &&& (255 : Int32)).toUInt32.toUInt16.toUInt32.toInt32))]) (rest := []) (lenOf own_pd15 rfl) rfl (by show 2 * 0 + _ ≤ _; exact Nat.le_of_eq rfl) (hb hby at_6) (fun _ _ => ⟨rfl, e0, (by decide : 0 + 2 ≤ _), (by decide : 0 + 5 ≤ _)⟩)
  dsimp only [Pt.U, Pt.locs, Pt.cells, Pt.slots] at X1 l1 y1 z1 st1 hQ1
  subst y1 z1
  obtain ⟨b4_1, b1_13_1, k1_13_1, rfl, N1q, K1, sqb4_1_1, sqb1_13_1_1, f3, f4, f5, f6, f7, f8, ne9⟩ := hQ1
  have g_b4_1 : n0 ≤ b4_1 := Nat.le_trans Z0 sqb4_1_1
  have sz_b4_1 : h0.size ≤ b4_1 := Nat.le_trans (Nat.le_refl _) sqb4_1_1
  have g_b1_13_1 : n0 ≤ b1_13_1 := Nat.le_trans Z0 sqb1_13_1_1
  have sz_b1_13_1 : h0.size ≤ b1_13_1 := Nat.le_trans (Nat.le_refl _) sqb1_13_1_1
  have f10 : Old Z n0 T1.heap := P_O_.keep K1 all0
  have zs11 : n0 ≤ T1.heap.size := Nat.le_trans Z0 K1.1
  have K12 : Keep h0 h0 [] := Keep.refl h0 []
  have K13 : Keep h0 T1.heap [] := K12.trans K1 all0
  have N14 : Fr n0 L1 := by rw [l1]; exact Fr.app N0 N1q
  have f16 : Sta Z T1.heap "java/lang/String" "COMPACT_STRINGS" "Z" (.int z_COMPACT_STRINGS) := P_B_java_lang_String_COMPACT_STRINGS.ext f10.2
  obtain ⟨_, _, ⟨T15, L15, k15, n15⟩, -, X15, ⟨Lc15, hQ15, l15, y15, z15⟩, st15⟩ := Jvm.LawKit.callS X1 hx (y := (⟨"java/lang/String", "valueOf", "(C)Ljava/lang/String;"⟩ : MethodName)) hown (mvT hZ (hw _ (List.mem_of_getElem? (i := 0) rfl))) (mvT hZ (hw _ (List.mem_of_getElem? (i := 1) rfl))) (mvT hZ (hw _ (List.mem_of_getElem? (i := 2) rfl))) (mvT hZ (hw _ (List.mem_of_getElem? (i := 3) rfl))) (by decide) (backOf (W := 0) (own_rm1 l Z a0 hw [] ((p1 &&& (255 : Int32)).toUInt32.toUInt16.toUInt32.toInt32) z_COMPACT_STRINGS T1.heap n0 zs11 HC (own_enc _) f16) hZ (hw _ (List.mem_of_getElem? (i := 3) rfl)) (hw _ (List.mem_of_getElem? (i := 2) rfl)) (by decide) (by decide)) (g := (mkF m 16 #[.val (.int p0), .val (.int p1), .val (.int p2), .val (.ref b4_1), .unset, .unset, .unset, .unset, .unset, .unset, .unset, .unset, .unset, .unset] [(.int ((p1 &&& (255 : Int32)).toUInt32.toUInt16.toUInt32.toInt32))])) rfl (by rw [hml]; rfl) (argsL := [(.int ((p1 &&& (255 : Int32)).toUInt32.toUInt16.toUInt32.toInt32))]) (rest := []) (lenOf own_pd15 rfl) rfl (by show 2 * 0 + _ ≤ _; exact Nat.le_of_eq rfl) (hb hby at_16) (fun _ _ => ⟨rfl, rfl, (by decide : 2 + 2 ≤ _), (by decide : 5 + 5 ≤ _)⟩)
  dsimp only [Pt.U, Pt.locs, Pt.cells, Pt.slots] at X15 l15 y15 z15 st15 hQ15
  subst y15 z15
  obtain ⟨b4_15, b1_13_15, k1_13_15, rfl, N15q, K15, sqb4_15_15, sqb1_13_15_15, f17, f18, f19, f20, f21, f22, ne23⟩ := hQ15
  have g_b4_15 : n0 ≤ b4_15 := Nat.le_trans zs11 sqb4_15_15
  have sz_b4_15 : h0.size ≤ b4_15 := Nat.le_trans K13.1 sqb4_15_15
  have lt24 : b4_1 < b4_15 := Nat.lt_of_lt_of_le f7.lt sqb4_15_15
  have lt25 : b1_13_1 < b4_15 := Nat.lt_of_lt_of_le f8.lt sqb4_15_15
  have g_b1_13_15 : n0 ≤ b1_13_15 := Nat.le_trans zs11 sqb1_13_15_15
  have sz_b1_13_15 : h0.size ≤ b1_13_15 := Nat.le_trans K13.1 sqb1_13_15_15
  have lt26 : b4_1 < b1_13_15 := Nat.lt_of_lt_of_le f7.lt sqb1_13_15_15
  have lt27 : b1_13_1 < b1_13_15 := Nat.lt_of_lt_of_le f8.lt sqb1_13_15_15
  have f28 : Old Z n0 T15.heap := f10.keep K15 all0
  have f29 : Exa Z T15.heap b4_1 "java/lang/String" := f3.keep K15
  have f30 : Fld Z T15.heap b4_1 "java/lang/String" "value" "[B" (.ref b1_13_1) := f4.keep K15 nin0
  have f31 : Fld Z T15.heap b4_1 "java/lang/String" "coder" "B" (.int (0 : Int32)) := f5.keep K15 nin0
  have f32 : Fld Z T15.heap b4_1 "java/lang/String" "hash" "I" (.int (0 : Int32)) := f6.keep K15 nin0
  have f33 : Fld Z T15.heap b4_1 "java/lang/String" "hashIsZero" "Z" (.int (0 : Int32)) := f7.keep K15 nin0
  have f34 : Arv Z T15.heap b1_13_1 k1_13_1 .byte (1 : Int32) [(.int (own_cb p0))] (.int (0 : Int32)) := f8.keep K15 nin0
  have zs35 : n0 ≤ T15.heap.size := Nat.le_trans zs11 K15.1
  have K36 : Keep h0 T15.heap [] := K13.trans K15 all0
  have N37 : Fr n0 L15 := by rw [l15]; exact Fr.app N14 N15q
  have f39 : Sta Z T15.heap "java/lang/String" "COMPACT_STRINGS" "Z" (.int z_COMPACT_STRINGS) := P_B_java_lang_String_COMPACT_STRINGS.ext f28.2
  obtain ⟨_, _, ⟨T38, L38, k38, n38⟩, -, X38, ⟨Lc38, hQ38, l38, y38, z38⟩, st38⟩ := Jvm.LawKit.callS X15 hx (y := (⟨"java/lang/String", "valueOf", "(C)Ljava/lang/String;"⟩ : MethodName)) hown (mvT hZ (hw _ (List.mem_of_getElem? (i := 0) rfl))) (mvT hZ (hw _ (List.mem_of_getElem? (i := 1) rfl))) (mvT hZ (hw _ (List.mem_of_getElem? (i := 2) rfl))) (mvT hZ (hw _ (List.mem_of_getElem? (i := 3) rfl))) (by decide) (backOf (W := 0) (own_rm1 l Z a0 hw [] ((p2 &&& (255 : Int32)).toUInt32.toUInt16.toUInt32.toInt32) z_COMPACT_STRINGS T15.heap n0 zs35 HC (own_enc _) f39) hZ (hw _ (List.mem_of_getElem? (i := 3) rfl)) (hw _ (List.mem_of_getElem? (i := 2) rfl)) (by decide) (by decide)) (g := (mkF m 27 #[.val (.int p0), .val (.int p1), .val (.int p2), .val (.ref b4_1), .val (.ref b4_15), .unset, .unset, .unset, .unset, .unset, .unset, .unset, .unset, .unset] [(.int ((p2 &&& (255 : Int32)).toUInt32.toUInt16.toUInt32.toInt32))])) rfl (by rw [hml]; rfl) (argsL := [(.int ((p2 &&& (255 : Int32)).toUInt32.toUInt16.toUInt32.toInt32))]) (rest := []) (lenOf own_pd15 rfl) rfl (by show 2 * 0 + _ ≤ _; exact Nat.le_of_eq rfl) (hb hby at_27) (fun _ _ => ⟨rfl, rfl, (by decide : 4 + 2 ≤ _), (by decide : 10 + 5 ≤ _)⟩)
  dsimp only [Pt.U, Pt.locs, Pt.cells, Pt.slots] at X38 l38 y38 z38 st38 hQ38
  subst y38 z38
  obtain ⟨b4_38, b1_13_38, k1_13_38, rfl, N38q, K38, sqb4_38_38, sqb1_13_38_38, f40, f41, f42, f43, f44, f45, ne46⟩ := hQ38
  have g_b4_38 : n0 ≤ b4_38 := Nat.le_trans zs35 sqb4_38_38
  have sz_b4_38 : h0.size ≤ b4_38 := Nat.le_trans K36.1 sqb4_38_38
  have lt47 : b4_1 < b4_38 := Nat.lt_of_lt_of_le f33.lt sqb4_38_38
  have lt48 : b1_13_1 < b4_38 := Nat.lt_of_lt_of_le f34.lt sqb4_38_38
  have lt49 : b4_15 < b4_38 := Nat.lt_of_lt_of_le f21.lt sqb4_38_38
  have lt50 : b1_13_15 < b4_38 := Nat.lt_of_lt_of_le f22.lt sqb4_38_38
  have g_b1_13_38 : n0 ≤ b1_13_38 := Nat.le_trans zs35 sqb1_13_38_38
  have sz_b1_13_38 : h0.size ≤ b1_13_38 := Nat.le_trans K36.1 sqb1_13_38_38
  have lt51 : b4_1 < b1_13_38 := Nat.lt_of_lt_of_le f33.lt sqb1_13_38_38
  have lt52 : b1_13_1 < b1_13_38 := Nat.lt_of_lt_of_le f34.lt sqb1_13_38_38
  have lt53 : b4_15 < b1_13_38 := Nat.lt_of_lt_of_le f21.lt sqb1_13_38_38
  have lt54 : b1_13_15 < b1_13_38 := Nat.lt_of_lt_of_le f22.lt sqb1_13_38_38
  have f55 : Old Z n0 T38.heap := f28.keep K38 all0
  have f56 : Exa Z T38.heap b4_1 "java/lang/String" := f29.keep K38
  have f57 : Fld Z T38.heap b4_1 "java/lang/String" "value" "[B" (.ref b1_13_1) := f30.keep K38 nin0
  have f58 : Fld Z T38.heap b4_1 "java/lang/String" "coder" "B" (.int (0 : Int32)) := f31.keep K38 nin0
  have f59 : Fld Z T38.heap b4_1 "java/lang/String" "hash" "I" (.int (0 : Int32)) := f32.keep K38 nin0
  have f60 : Fld Z T38.heap b4_1 "java/lang/String" "hashIsZero" "Z" (.int (0 : Int32)) := f33.keep K38 nin0
  have f61 : Arv Z T38.heap b1_13_1 k1_13_1 .byte (1 : Int32) [(.int (own_cb p0))] (.int (0 : Int32)) := f34.keep K38 nin0
  have f62 : Exa Z T38.heap b4_15 "java/lang/String" := f17.keep K38
  have f63 : Fld Z T38.heap b4_15 "java/lang/String" "value" "[B" (.ref b1_13_15) := f18.keep K38 nin0
  have f64 : Fld Z T38.heap b4_15 "java/lang/String" "coder" "B" (.int (0 : Int32)) := f19.keep K38 nin0
  have f65 : Fld Z T38.heap b4_15 "java/lang/String" "hash" "I" (.int (0 : Int32)) := f20.keep K38 nin0
  have f66 : Fld Z T38.heap b4_15 "java/lang/String" "hashIsZero" "Z" (.int (0 : Int32)) := f21.keep K38 nin0
  have f67 : Arv Z T38.heap b1_13_15 k1_13_15 .byte (1 : Int32) [(.int (own_cb p1))] (.int (0 : Int32)) := f22.keep K38 nin0
  have zs68 : n0 ≤ T38.heap.size := Nat.le_trans zs35 K38.1
  have K69 : Keep h0 T38.heap [] := K36.trans K38 all0
  have N70 : Fr n0 L38 := by rw [l38]; exact Fr.app N37 N38q
  obtain ⟨T71, h71, X71, e71, E71, A71, D71, -, st71⟩ := newO X38 hx hZ hown (hw _ (List.mem_of_getElem? (i := 26) rfl)) (hw _ (List.mem_of_getElem? (i := 27) rfl)) (hw _ (List.mem_of_getElem? (i := 28) rfl)) rfl (g := (mkF m 32 #[.val (.int p0), .val (.int p1), .val (.int p2), .val (.ref b4_1), .val (.ref b4_15), .val (.ref b4_38), .unset, .unset, .unset, .unset, .unset, .unset, .unset, .unset] [])) rfl (hb hby at_32) (by decide) (by decide)
  obtain ⟨b71, g71⟩ : ∃ z, z = T38.heap.size := ⟨_, rfl⟩
  rw [← g71] at A71 D71 st71
  have g_b71 : n0 ≤ b71 := Nat.le_trans zs68 (Nat.le_of_eq g71.symm)
  have sz_b71 : h0.size ≤ b71 := Nat.le_trans K69.1 (Nat.le_of_eq g71.symm)
  have lt72 : b4_1 < b71 := Nat.lt_of_lt_of_le f60.lt (Nat.le_of_eq g71.symm)
  have lt73 : b1_13_1 < b71 := Nat.lt_of_lt_of_le f61.lt (Nat.le_of_eq g71.symm)
  have lt74 : b4_15 < b71 := Nat.lt_of_lt_of_le f66.lt (Nat.le_of_eq g71.symm)
  have lt75 : b1_13_15 < b71 := Nat.lt_of_lt_of_le f67.lt (Nat.le_of_eq g71.symm)
  have lt76 : b4_38 < b71 := Nat.lt_of_lt_of_le f44.lt (Nat.le_of_eq g71.symm)
  have lt77 : b1_13_38 < b71 := Nat.lt_of_lt_of_le f45.lt (Nat.le_of_eq g71.symm)
  have f78 : Old Z n0 h71 := f55.ext E71
  have f79 : Exa Z h71 b4_1 "java/lang/String" := f56.ext E71
  have f80 : Fld Z h71 b4_1 "java/lang/String" "value" "[B" (.ref b1_13_1) := f57.ext E71
  have f81 : Fld Z h71 b4_1 "java/lang/String" "coder" "B" (.int (0 : Int32)) := f58.ext E71
  have f82 : Fld Z h71 b4_1 "java/lang/String" "hash" "I" (.int (0 : Int32)) := f59.ext E71
  have f83 : Fld Z h71 b4_1 "java/lang/String" "hashIsZero" "Z" (.int (0 : Int32)) := f60.ext E71
  have f84 : Arv Z h71 b1_13_1 k1_13_1 .byte (1 : Int32) [(.int (own_cb p0))] (.int (0 : Int32)) := f61.ext E71
  have f85 : Exa Z h71 b4_15 "java/lang/String" := f62.ext E71
  have f86 : Fld Z h71 b4_15 "java/lang/String" "value" "[B" (.ref b1_13_15) := f63.ext E71
  have f87 : Fld Z h71 b4_15 "java/lang/String" "coder" "B" (.int (0 : Int32)) := f64.ext E71
  have f88 : Fld Z h71 b4_15 "java/lang/String" "hash" "I" (.int (0 : Int32)) := f65.ext E71
  have f89 : Fld Z h71 b4_15 "java/lang/String" "hashIsZero" "Z" (.int (0 : Int32)) := f66.ext E71
  have f90 : Arv Z h71 b1_13_15 k1_13_15 .byte (1 : Int32) [(.int (own_cb p1))] (.int (0 : Int32)) := f67.ext E71
  have f91 : Exa Z h71 b4_38 "java/lang/String" := f40.ext E71
  have f92 : Fld Z h71 b4_38 "java/lang/String" "value" "[B" (.ref b1_13_38) := f41.ext E71
  have f93 : Fld Z h71 b4_38 "java/lang/String" "coder" "B" (.int (0 : Int32)) := f42.ext E71
  have f94 : Fld Z h71 b4_38 "java/lang/String" "hash" "I" (.int (0 : Int32)) := f43.ext E71
  have f95 : Fld Z h71 b4_38 "java/lang/String" "hashIsZero" "Z" (.int (0 : Int32)) := f44.ext E71
  have f96 : Arv Z h71 b1_13_38 k1_13_38 .byte (1 : Int32) [(.int (own_cb p2))] (.int (0 : Int32)) := f45.ext E71
  have zs97 : n0 ≤ h71.size := Nat.le_trans zs68 E71.1
  have K98 : Keep h0 h71 [] := K69.ext E71
  have f99 : Fld Z h71 b71 "com/example/nestor/nestor/IdTable" "ids" "[Ljava/lang/String;" .null := D71 (Or.inl (hw _ (List.mem_of_getElem? (i := 36) rfl))) (ty := (.array (.object "java/lang/String"))) (by decide)
  have f100 : Fld Z h71 b71 "com/example/nestor/nestor/IdTable" "slots" "[I" .null := D71 (Or.inl (hw _ (List.mem_of_getElem? (i := 39) rfl))) (ty := (.array .int)) (by decide)
  have f101 : Fld Z h71 b71 "com/example/nestor/nestor/IdTable" "crowded" "Ljava/util/TreeMap;" .null := D71 (Or.inr (hw _ (List.mem_of_getElem? (i := 60) rfl))) (ty := (.object "java/util/TreeMap")) (by decide)
  have f102 : Fld Z h71 b71 "com/example/nestor/nestor/IdTable" "size" "I" (.int (0 : Int32)) := D71 (Or.inl (hw _ (List.mem_of_getElem? (i := 107) rfl))) (ty := .int) (by decide)
  obtain ⟨_, _, ⟨T103, L103, k103, n103⟩, -, X103, ⟨Lc103, hQ103, l103, y103, z103⟩, st103⟩ := X71.specialBack hx (y := (⟨"com/example/nestor/nestor/IdTable", "<init>", "()V"⟩ : MethodName)) rfl hown (mvT hZ (hw _ (List.mem_of_getElem? (i := 29) rfl))) (mvT hZ (hw _ (List.mem_of_getElem? (i := 30) rfl))) (mvT hZ (hw _ (List.mem_of_getElem? (i := 31) rfl))) (by decide) (backOf (W := 1) (own_rm6 l Z a0 hw [] b71 (.int (0 : Int32)) .null .null .null h71 n0 zs97 f102 A71 f99 f100 f101 g_b71) hZ (hw _ (List.mem_of_getElem? (i := 31) rfl)) (hw _ (List.mem_of_getElem? (i := 28) rfl)) (by decide) (by decide)) (g := (mkF m 36 #[.val (.int p0), .val (.int p1), .val (.int p2), .val (.ref b4_1), .val (.ref b4_15), .val (.ref b4_38), .unset, .unset, .unset, .unset, .unset, .unset, .unset, .unset] [(.ref b71), (.ref b71)])) rfl (by rw [hml]; rfl) (Steps.refl _) (a := b71) (argsL := []) (rest := [(.ref b71)]) (lenOf own_pd3 rfl) rfl (by show 2 * 0 + _ ≤ _; exact Nat.le_of_eq rfl) (hb hby at_36) (fun _ _ => ⟨rfl, e71, (by decide : 7 + 3 ≤ _), (by decide : 19 + 33 ≤ _)⟩)
  dsimp only [Pt.U, Pt.locs, Pt.cells, Pt.slots] at X103 l103 y103 z103 st103 hQ103
  subst y103 z103
  obtain ⟨b2_103, b23_103, b46_103, k2_103, k23_103, rfl, N103q, K103, sqb2_103_103, sqb23_103_103, sqb46_103_103, f104, f105, f106, f107, f108, f109, f110, f111, f112, f113, f114, Ov115, ne116, ne117, ne118⟩ := hQ103
  have g_b2_103 : n0 ≤ b2_103 := Nat.le_trans zs97 sqb2_103_103
  have sz_b2_103 : h0.size ≤ b2_103 := Nat.le_trans K98.1 sqb2_103_103
  have lt119 : b4_1 < b2_103 := Nat.lt_of_lt_of_le f83.lt sqb2_103_103
  have lt120 : b1_13_1 < b2_103 := Nat.lt_of_lt_of_le f84.lt sqb2_103_103
  have lt121 : b4_15 < b2_103 := Nat.lt_of_lt_of_le f89.lt sqb2_103_103
  have lt122 : b1_13_15 < b2_103 := Nat.lt_of_lt_of_le f90.lt sqb2_103_103
  have lt123 : b4_38 < b2_103 := Nat.lt_of_lt_of_le f95.lt sqb2_103_103
  have lt124 : b1_13_38 < b2_103 := Nat.lt_of_lt_of_le f96.lt sqb2_103_103
  have lt125 : b71 < b2_103 := Nat.lt_of_lt_of_le f102.lt sqb2_103_103
  have g_b23_103 : n0 ≤ b23_103 := Nat.le_trans zs97 sqb23_103_103
  have sz_b23_103 : h0.size ≤ b23_103 := Nat.le_trans K98.1 sqb23_103_103
  have lt126 : b4_1 < b23_103 := Nat.lt_of_lt_of_le f83.lt sqb23_103_103
  have lt127 : b1_13_1 < b23_103 := Nat.lt_of_lt_of_le f84.lt sqb23_103_103
  have lt128 : b4_15 < b23_103 := Nat.lt_of_lt_of_le f89.lt sqb23_103_103
  have lt129 : b1_13_15 < b23_103 := Nat.lt_of_lt_of_le f90.lt sqb23_103_103
  have lt130 : b4_38 < b23_103 := Nat.lt_of_lt_of_le f95.lt sqb23_103_103
  have lt131 : b1_13_38 < b23_103 := Nat.lt_of_lt_of_le f96.lt sqb23_103_103
  have lt132 : b71 < b23_103 := Nat.lt_of_lt_of_le f102.lt sqb23_103_103
  have g_b46_103 : n0 ≤ b46_103 := Nat.le_trans zs97 sqb46_103_103
  have sz_b46_103 : h0.size ≤ b46_103 := Nat.le_trans K98.1 sqb46_103_103
  have lt133 : b4_1 < b46_103 := Nat.lt_of_lt_of_le f83.lt sqb46_103_103
  have lt134 : b1_13_1 < b46_103 := Nat.lt_of_lt_of_le f84.lt sqb46_103_103
  have lt135 : b4_15 < b46_103 := Nat.lt_of_lt_of_le f89.lt sqb46_103_103
  have lt136 : b1_13_15 < b46_103 := Nat.lt_of_lt_of_le f90.lt sqb46_103_103
  have lt137 : b4_38 < b46_103 := Nat.lt_of_lt_of_le f95.lt sqb46_103_103
  have lt138 : b1_13_38 < b46_103 := Nat.lt_of_lt_of_le f96.lt sqb46_103_103
  have lt139 : b71 < b46_103 := Nat.lt_of_lt_of_le f102.lt sqb46_103_103
  have f140 : Old Z n0 T103.heap := f78.keep K103 (allS g_b71 all0)
  have f141 : Exa Z T103.heap b4_1 "java/lang/String" := f79.keep K103
  have f142 : Fld Z T103.heap b4_1 "java/lang/String" "value" "[B" (.ref b1_13_1) := f80.keep K103 (ninS (Nat.ne_of_lt lt72) nin0)
  have f143 : Fld Z T103.heap b4_1 "java/lang/String" "coder" "B" (.int (0 : Int32)) := f81.keep K103 (ninS (Nat.ne_of_lt lt72) nin0)
  have f144 : Fld Z T103.heap b4_1 "java/lang/String" "hash" "I" (.int (0 : Int32)) := f82.keep K103 (ninS (Nat.ne_of_lt lt72) nin0)
  have f145 : Fld Z T103.heap b4_1 "java/lang/String" "hashIsZero" "Z" (.int (0 : Int32)) := f83.keep K103 (ninS (Nat.ne_of_lt lt72) nin0)
  have f146 : Arv Z T103.heap b1_13_1 k1_13_1 .byte (1 : Int32) [(.int (own_cb p0))] (.int (0 : Int32)) := f84.keep K103 (ninS (Nat.ne_of_lt lt73) nin0)
  have f147 : Exa Z T103.heap b4_15 "java/lang/String" := f85.keep K103
  have f148 : Fld Z T103.heap b4_15 "java/lang/String" "value" "[B" (.ref b1_13_15) := f86.keep K103 (ninS (Nat.ne_of_lt lt74) nin0)
  have f149 : Fld Z T103.heap b4_15 "java/lang/String" "coder" "B" (.int (0 : Int32)) := f87.keep K103 (ninS (Nat.ne_of_lt lt74) nin0)
  have f150 : Fld Z T103.heap b4_15 "java/lang/String" "hash" "I" (.int (0 : Int32)) := f88.keep K103 (ninS (Nat.ne_of_lt lt74) nin0)
  have f151 : Fld Z T103.heap b4_15 "java/lang/String" "hashIsZero" "Z" (.int (0 : Int32)) := f89.keep K103 (ninS (Nat.ne_of_lt lt74) nin0)
  have f152 : Arv Z T103.heap b1_13_15 k1_13_15 .byte (1 : Int32) [(.int (own_cb p1))] (.int (0 : Int32)) := f90.keep K103 (ninS (Nat.ne_of_lt lt75) nin0)
  have f153 : Exa Z T103.heap b4_38 "java/lang/String" := f91.keep K103
  have f154 : Fld Z T103.heap b4_38 "java/lang/String" "value" "[B" (.ref b1_13_38) := f92.keep K103 (ninS (Nat.ne_of_lt lt76) nin0)
  have f155 : Fld Z T103.heap b4_38 "java/lang/String" "coder" "B" (.int (0 : Int32)) := f93.keep K103 (ninS (Nat.ne_of_lt lt76) nin0)
  have f156 : Fld Z T103.heap b4_38 "java/lang/String" "hash" "I" (.int (0 : Int32)) := f94.keep K103 (ninS (Nat.ne_of_lt lt76) nin0)
  have f157 : Fld Z T103.heap b4_38 "java/lang/String" "hashIsZero" "Z" (.int (0 : Int32)) := f95.keep K103 (ninS (Nat.ne_of_lt lt76) nin0)
  have f158 : Arv Z T103.heap b1_13_38 k1_13_38 .byte (1 : Int32) [(.int (own_cb p2))] (.int (0 : Int32)) := f96.keep K103 (ninS (Nat.ne_of_lt lt77) nin0)
  have zs159 : n0 ≤ T103.heap.size := Nat.le_trans zs97 K103.1
  have K160 : Keep h0 T103.heap [] := K98.trans K103 (allS (Or.inr sz_b71) all0)
  have N161 : Fr n0 L103 := by rw [l103]; exact Fr.app N70 N103q
  obtain ⟨cq162, kq162, q162a, q162b, q162c⟩ := isOf hZ rfl f105
  obtain ⟨_, _, ⟨T162, L162, k162, n162⟩, -, X162, ⟨Lc162, hQ162, l162, y162, z162⟩, st162⟩ := X103.virtualBack hx (y := (⟨"com/example/nestor/nestor/IdTable", "placeOf", "(Ljava/lang/String;)I"⟩ : MethodName)) (z := (⟨"com/example/nestor/nestor/IdTable", "placeOf", "(Ljava/lang/String;)I"⟩ : MethodName)) hown (mvT hZ (hw _ (List.mem_of_getElem? (i := 61) rfl))) (mvT hZ (hw _ (List.mem_of_getElem? (i := 62) rfl))) (notFace_of_selects (args := #[]) (mvT hZ (hw _ (List.mem_of_getElem? (i := 64) rfl)))) (mvT hZ (hw _ (List.mem_of_getElem? (i := 64) rfl))) (mvT hZ (hw _ (List.mem_of_getElem? (i := 63) rfl))) (by decide) (backOf (W := 0) (own_rm9t0n l Z a0 hw [] b71 b4_1 k23_103 k2_103 k1_13_1 (own_cb p0) z_COMPACT_STRINGS b23_103 b2_103 b1_13_1 (0 : Int32) (0 : Int32) T103.heap n0 zs159 Ov115 HC (own_cby _) (own_ok0 _) ne116 (Nat.ne_of_lt lt127) (Nat.ne_of_lt lt120) f105 f140 P_B_java_lang_String_COMPACT_STRINGS f107 f110 f106 f109 f104 f141 f143 f142 f146 f144 f145 g_b4_1 g_b2_103 g_b71 g_b23_103) hZ (hw _ (List.mem_of_getElem? (i := 65) rfl)) (hw _ (List.mem_of_getElem? (i := 28) rfl)) (by decide) (by decide)) q162a q162c (g := (mkF m 44 #[.val (.int p0), .val (.int p1), .val (.int p2), .val (.ref b4_1), .val (.ref b4_15), .val (.ref b4_38), .val (.ref b71), .unset, .unset, .unset, .unset, .unset, .unset, .unset] [(.ref b4_1), (.ref b71)])) rfl (by rw [hml]; rfl) (Steps.refl _) (argsL := [(.ref b4_1)]) (rest := []) (lenOf own_pd16 rfl) rfl (by show 2 * 0 + _ ≤ _; exact Nat.le_of_eq rfl) (hb hby at_44) (fun _ _ => ⟨rfl, rfl, (by decide : 10 + 0 ≤ _), (by decide : 52 + 0 ≤ _)⟩)
  dsimp only [Pt.U, Pt.locs, Pt.cells, Pt.slots] at X162 l162 y162 z162 st162 hQ162
  subst y162 z162
  obtain ⟨hq162_o1, zq162_o1, rfl, N162q, K162, f163, f164, f165, f166, f167, f168, f169, f170, f171, f172, f173, ok174⟩ := hQ162
  have f175 : Old Z n0 T162.heap := f140.keep K162 (allS g_b71 (allS g_b4_1 (allS g_b23_103 (allS g_b2_103 all0))))
  have f176 : Arv Z T162.heap b1_13_1 k1_13_1 .byte (1 : Int32) [(.int (own_cb p0))] (.int (0 : Int32)) := f146.keep K162 (ninS (Nat.ne_of_lt lt73) (ninS (Ne.symm ne9) (ninS (Nat.ne_of_lt lt127) (ninS (Nat.ne_of_lt lt120) nin0))))
  have f177 : Exa Z T162.heap b4_15 "java/lang/String" := f147.keep K162
  have f178 : Fld Z T162.heap b4_15 "java/lang/String" "value" "[B" (.ref b1_13_15) := f148.keep K162 (ninS (Nat.ne_of_lt lt74) (ninS (Nat.ne_of_gt lt24) (ninS (Nat.ne_of_lt lt128) (ninS (Nat.ne_of_lt lt121) nin0))))
  have f179 : Fld Z T162.heap b4_15 "java/lang/String" "coder" "B" (.int (0 : Int32)) := f149.keep K162 (ninS (Nat.ne_of_lt lt74) (ninS (Nat.ne_of_gt lt24) (ninS (Nat.ne_of_lt lt128) (ninS (Nat.ne_of_lt lt121) nin0))))
  have f180 : Fld Z T162.heap b4_15 "java/lang/String" "hash" "I" (.int (0 : Int32)) := f150.keep K162 (ninS (Nat.ne_of_lt lt74) (ninS (Nat.ne_of_gt lt24) (ninS (Nat.ne_of_lt lt128) (ninS (Nat.ne_of_lt lt121) nin0))))
  have f181 : Fld Z T162.heap b4_15 "java/lang/String" "hashIsZero" "Z" (.int (0 : Int32)) := f151.keep K162 (ninS (Nat.ne_of_lt lt74) (ninS (Nat.ne_of_gt lt24) (ninS (Nat.ne_of_lt lt128) (ninS (Nat.ne_of_lt lt121) nin0))))
  have f182 : Arv Z T162.heap b1_13_15 k1_13_15 .byte (1 : Int32) [(.int (own_cb p1))] (.int (0 : Int32)) := f152.keep K162 (ninS (Nat.ne_of_lt lt75) (ninS (Nat.ne_of_gt lt26) (ninS (Nat.ne_of_lt lt129) (ninS (Nat.ne_of_lt lt122) nin0))))
  have f183 : Exa Z T162.heap b4_38 "java/lang/String" := f153.keep K162
  have f184 : Fld Z T162.heap b4_38 "java/lang/String" "value" "[B" (.ref b1_13_38) := f154.keep K162 (ninS (Nat.ne_of_lt lt76) (ninS (Nat.ne_of_gt lt47) (ninS (Nat.ne_of_lt lt130) (ninS (Nat.ne_of_lt lt123) nin0))))
  have f185 : Fld Z T162.heap b4_38 "java/lang/String" "coder" "B" (.int (0 : Int32)) := f155.keep K162 (ninS (Nat.ne_of_lt lt76) (ninS (Nat.ne_of_gt lt47) (ninS (Nat.ne_of_lt lt130) (ninS (Nat.ne_of_lt lt123) nin0))))
  have f186 : Fld Z T162.heap b4_38 "java/lang/String" "hash" "I" (.int (0 : Int32)) := f156.keep K162 (ninS (Nat.ne_of_lt lt76) (ninS (Nat.ne_of_gt lt47) (ninS (Nat.ne_of_lt lt130) (ninS (Nat.ne_of_lt lt123) nin0))))
  have f187 : Fld Z T162.heap b4_38 "java/lang/String" "hashIsZero" "Z" (.int (0 : Int32)) := f157.keep K162 (ninS (Nat.ne_of_lt lt76) (ninS (Nat.ne_of_gt lt47) (ninS (Nat.ne_of_lt lt130) (ninS (Nat.ne_of_lt lt123) nin0))))
  have f188 : Arv Z T162.heap b1_13_38 k1_13_38 .byte (1 : Int32) [(.int (own_cb p2))] (.int (0 : Int32)) := f158.keep K162 (ninS (Nat.ne_of_lt lt77) (ninS (Nat.ne_of_gt lt51) (ninS (Nat.ne_of_lt lt131) (ninS (Nat.ne_of_lt lt124) nin0))))
  have f189 : Exa Z T162.heap b46_103 "java/util/TreeMap" := f111.keep K162
  have f190 : Fld Z T162.heap b46_103 "java/util/TreeMap" "size" "I" (.int (0 : Int32)) := f112.keep K162 (ninS (Nat.ne_of_gt lt139) (ninS (Nat.ne_of_gt lt133) (ninS (Ne.symm ne118) (ninS (Ne.symm ne117) nin0))))
  have f191 : Fld Z T162.heap b46_103 "java/util/TreeMap" "modCount" "I" (.int (0 : Int32)) := f113.keep K162 (ninS (Nat.ne_of_gt lt139) (ninS (Nat.ne_of_gt lt133) (ninS (Ne.symm ne118) (ninS (Ne.symm ne117) nin0))))
  have f192 : Fld Z T162.heap b46_103 "java/util/TreeMap" "comparator" "Ljava/util/Comparator;" .null := f114.keep K162 (ninS (Nat.ne_of_gt lt139) (ninS (Nat.ne_of_gt lt133) (ninS (Ne.symm ne118) (ninS (Ne.symm ne117) nin0))))
  have zs193 : n0 ≤ T162.heap.size := Nat.le_trans zs159 K162.1
  have K194 : Keep h0 T162.heap [] := K160.trans K162 (allS (Or.inr sz_b71) (allS (Or.inr sz_b4_1) (allS (Or.inr sz_b23_103) (allS (Or.inr sz_b2_103) all0))))
  have N195 : Fr n0 L162 := by rw [l162]; exact Fr.app N161 N162q
  have pre196 : ∀ t, Steps p.tables e below (T162.setTop (mkF m 53 #[.val (.int p0), .val (.int p1), .val (.int p2), .val (.ref b4_1), .val (.ref b4_15), .val (.ref b4_38), .val (.ref b71), .val (.int (0 : Int32)), .unset, .unset, .unset, .unset, .unset, .unset] [(.ref b4_15), (.ref b71)])) t → Steps p.tables e below (s₁.setTop (entryFrame m #[(.int p0), (.int p1), (.int p2)] maxLocals)) t := fun t k => pre0 t (by
      refine XS.iloadN X0.here hx rfl (hb hby at_0) rfl ?_
      show Steps p.tables e below (s₁.setTop (mkF m 1 #[.val (.int p0), .val (.int p1), .val (.int p2), .unset, .unset, .unset, .unset, .unset, .unset, .unset, .unset, .unset, .unset, .unset] [(.int p0)])) _
      refine XS.sipush X0.here hx rfl (hb hby at_1) ?_
      refine XS.iand X0.here hx rfl (hb hby at_4) rfl ?_
      refine XS.i2c X0.here hx rfl (hb hby at_5) rfl ?_
      refine st1 _ ?_
      show Steps p.tables e below (T1.setTop (mkF m 9 #[.val (.int p0), .val (.int p1), .val (.int p2), .unset, .unset, .unset, .unset, .unset, .unset, .unset, .unset, .unset, .unset, .unset] [(.ref b4_1)])) _
      refine XS.astoreN X1.here hx rfl (hb hby at_9) rfl rfl (l' := #[.val (.int p0), .val (.int p1), .val (.int p2), .val (.ref b4_1), .unset, .unset, .unset, .unset, .unset, .unset, .unset, .unset, .unset, .unset]) rfl ?_
      refine XS.iloadN X1.here hx rfl (hb hby at_10) rfl ?_
      refine XS.sipush X1.here hx rfl (hb hby at_11) ?_
      refine XS.iand X1.here hx rfl (hb hby at_14) rfl ?_
      show Steps p.tables e below (T1.setTop (mkF m 15 #[.val (.int p0), .val (.int p1), .val (.int p2), .val (.ref b4_1), .unset, .unset, .unset, .unset, .unset, .unset, .unset, .unset, .unset, .unset] [(.int (p1 &&& (255 : Int32)))])) _
      refine XS.i2c X1.here hx rfl (hb hby at_15) rfl ?_
      refine st15 _ ?_
      show Steps p.tables e below (T15.setTop (mkF m 19 #[.val (.int p0), .val (.int p1), .val (.int p2), .val (.ref b4_1), .unset, .unset, .unset, .unset, .unset, .unset, .unset, .unset, .unset, .unset] [(.ref b4_15)])) _
      refine XS.astore X15.here hx rfl (hb hby at_19) rfl rfl (l' := #[.val (.int p0), .val (.int p1), .val (.int p2), .val (.ref b4_1), .val (.ref b4_15), .unset, .unset, .unset, .unset, .unset, .unset, .unset, .unset, .unset]) rfl ?_
      refine XS.iloadN X15.here hx rfl (hb hby at_21) rfl ?_
      refine XS.sipush X15.here hx rfl (hb hby at_22) ?_
      refine XS.iand X15.here hx rfl (hb hby at_25) rfl ?_
      show Steps p.tables e below (T15.setTop (mkF m 26 #[.val (.int p0), .val (.int p1), .val (.int p2), .val (.ref b4_1), .val (.ref b4_15), .unset, .unset, .unset, .unset, .unset, .unset, .unset, .unset, .unset] [(.int (p2 &&& (255 : Int32)))])) _
      refine XS.i2c X15.here hx rfl (hb hby at_26) rfl ?_
      refine st38 _ ?_
      show Steps p.tables e below (T38.setTop (mkF m 30 #[.val (.int p0), .val (.int p1), .val (.int p2), .val (.ref b4_1), .val (.ref b4_15), .unset, .unset, .unset, .unset, .unset, .unset, .unset, .unset, .unset] [(.ref b4_38)])) _
      refine XS.astore X38.here hx rfl (hb hby at_30) rfl rfl (l' := #[.val (.int p0), .val (.int p1), .val (.int p2), .val (.ref b4_1), .val (.ref b4_15), .val (.ref b4_38), .unset, .unset, .unset, .unset, .unset, .unset, .unset, .unset]) rfl ?_
      refine st71 _ ?_
      show Steps p.tables e below (T71.setTop (mkF m 35 #[.val (.int p0), .val (.int p1), .val (.int p2), .val (.ref b4_1), .val (.ref b4_15), .val (.ref b4_38), .unset, .unset, .unset, .unset, .unset, .unset, .unset, .unset] [(.ref b71)])) _
      refine XS.dup X71.here hx rfl (hb hby at_35) rfl rfl ?_
      refine st103.trans ?_
      show Steps p.tables e below (T103.setTop (mkF m 39 #[.val (.int p0), .val (.int p1), .val (.int p2), .val (.ref b4_1), .val (.ref b4_15), .val (.ref b4_38), .unset, .unset, .unset, .unset, .unset, .unset, .unset, .unset] [(.ref b71)])) _
      refine XS.astore X103.here hx rfl (hb hby at_39) rfl rfl (l' := #[.val (.int p0), .val (.int p1), .val (.int p2), .val (.ref b4_1), .val (.ref b4_15), .val (.ref b4_38), .val (.ref b71), .unset, .unset, .unset, .unset, .unset, .unset, .unset]) rfl ?_
      refine XS.aload X103.here hx rfl (hb hby at_41) rfl rfl ?_
      refine XS.aloadN X103.here hx rfl (hb hby at_43) rfl rfl ?_
      refine st162.trans ?_
      show Steps p.tables e below (T162.setTop (mkF m 47 #[.val (.int p0), .val (.int p1), .val (.int p2), .val (.ref b4_1), .val (.ref b4_15), .val (.ref b4_38), .val (.ref b71), .unset, .unset, .unset, .unset, .unset, .unset, .unset] [(.int (0 : Int32))])) _
      refine XS.istore X162.here hx rfl (hb hby at_47) rfl (l' := #[.val (.int p0), .val (.int p1), .val (.int p2), .val (.ref b4_1), .val (.ref b4_15), .val (.ref b4_38), .val (.ref b71), .val (.int (0 : Int32)), .unset, .unset, .unset, .unset, .unset, .unset]) rfl ?_
      refine XS.aload X162.here hx rfl (hb hby at_49) rfl rfl ?_
      refine XS.aload X162.here hx rfl (hb hby at_51) rfl rfl ?_
      exact k)
  by_cases hc197 : own_f13t1 ((own_cb p1) &&& (255 : Int32)) (own_y0 (own_cb p0)) (own_cb p0) < (0 : Int32)
  · obtain ⟨cq198, kq198, q198a, q198b, q198c⟩ := isOf hZ rfl f163
    obtain ⟨_, _, ⟨T198, L198, k198, n198⟩, -, X198, ⟨Lc198, hQ198, l198, y198, z198⟩, st198⟩ := X162.virtualBack hx (y := (⟨"com/example/nestor/nestor/IdTable", "placeOf", "(Ljava/lang/String;)I"⟩ : MethodName)) (z := (⟨"com/example/nestor/nestor/IdTable", "placeOf", "(Ljava/lang/String;)I"⟩ : MethodName)) hown (mvT hZ (hw _ (List.mem_of_getElem? (i := 61) rfl))) (mvT hZ (hw _ (List.mem_of_getElem? (i := 62) rfl))) (notFace_of_selects (args := #[]) (mvT hZ (hw _ (List.mem_of_getElem? (i := 64) rfl)))) (mvT hZ (hw _ (List.mem_of_getElem? (i := 64) rfl))) (mvT hZ (hw _ (List.mem_of_getElem? (i := 63) rfl))) (by decide) (backOf (W := 0) (own_rm9t1n l Z a0 hw [] b71 b4_15 (own_y0 (own_cb p0)) k23_103 k2_103 k1_13_15 (own_cb p1) b4_1 k1_13_1 (own_cb p0) z_COMPACT_STRINGS b23_103 b2_103 b1_13_15 hq162_o1 zq162_o1 b1_13_1 (0 : Int32) (0 : Int32) T162.heap n0 zs193 Ov115 HC (own_y0i _) (Nat.ne_of_gt lt24) (own_cby _) (own_cby _) ok174 (own_ok0 _) hc197 ne116 (Nat.ne_of_lt lt129) (Nat.ne_of_lt lt122) (Nat.ne_of_lt lt127) (Nat.ne_of_lt lt120) f163 f175 P_B_java_lang_String_COMPACT_STRINGS f164 f165 f166 f167 f168 f177 f179 f178 f182 f169 f172 f173 f170 f171 f176 f180 f181 g_b4_15 g_b4_1 g_b2_103 g_b71 g_b23_103) hZ (hw _ (List.mem_of_getElem? (i := 65) rfl)) (hw _ (List.mem_of_getElem? (i := 28) rfl)) (by decide) (by decide)) q198a q198c (g := (mkF m 53 #[.val (.int p0), .val (.int p1), .val (.int p2), .val (.ref b4_1), .val (.ref b4_15), .val (.ref b4_38), .val (.ref b71), .val (.int (0 : Int32)), .unset, .unset, .unset, .unset, .unset, .unset] [(.ref b4_15), (.ref b71)])) rfl (by rw [hml]; rfl) (Steps.refl _) (argsL := [(.ref b4_15)]) (rest := []) (lenOf own_pd16 rfl) rfl (by show 2 * 0 + _ ≤ _; exact Nat.le_of_eq rfl) (hb hby at_53) (fun _ _ => ⟨rfl, rfl, (by decide : 10 + 0 ≤ _), (by decide : 52 + 0 ≤ _)⟩)
    dsimp only [Pt.U, Pt.locs, Pt.cells, Pt.slots] at X198 l198 y198 z198 st198 hQ198
    subst y198 z198
    obtain ⟨hq198_o1, zq198_o1, hq198_i0, zq198_i0, rfl, N198q, K198, f199, f200, f201, f202, f203, f204, f205, f206, f207, f208, f209, f210, f211, f212, ok213, f214, f215, ok216⟩ := hQ198
    have f217 : Old Z n0 T198.heap := f175.keep K198 (allS g_b71 (allS g_b4_15 (allS g_b4_1 (allS g_b23_103 (allS g_b2_103 all0)))))
    have f218 : Arv Z T198.heap b1_13_1 k1_13_1 .byte (1 : Int32) [(.int (own_cb p0))] (.int (0 : Int32)) := f176.keep K198 (ninS (Nat.ne_of_lt lt73) (ninS (Nat.ne_of_lt lt25) (ninS (Ne.symm ne9) (ninS (Nat.ne_of_lt lt127) (ninS (Nat.ne_of_lt lt120) nin0)))))
    have f219 : Arv Z T198.heap b1_13_15 k1_13_15 .byte (1 : Int32) [(.int (own_cb p1))] (.int (0 : Int32)) := f182.keep K198 (ninS (Nat.ne_of_lt lt75) (ninS (Ne.symm ne23) (ninS (Nat.ne_of_gt lt26) (ninS (Nat.ne_of_lt lt129) (ninS (Nat.ne_of_lt lt122) nin0)))))
    have f220 : Exa Z T198.heap b4_38 "java/lang/String" := f183.keep K198
    have f221 : Fld Z T198.heap b4_38 "java/lang/String" "value" "[B" (.ref b1_13_38) := f184.keep K198 (ninS (Nat.ne_of_lt lt76) (ninS (Nat.ne_of_gt lt49) (ninS (Nat.ne_of_gt lt47) (ninS (Nat.ne_of_lt lt130) (ninS (Nat.ne_of_lt lt123) nin0)))))
    have f222 : Fld Z T198.heap b4_38 "java/lang/String" "coder" "B" (.int (0 : Int32)) := f185.keep K198 (ninS (Nat.ne_of_lt lt76) (ninS (Nat.ne_of_gt lt49) (ninS (Nat.ne_of_gt lt47) (ninS (Nat.ne_of_lt lt130) (ninS (Nat.ne_of_lt lt123) nin0)))))
    have f223 : Fld Z T198.heap b4_38 "java/lang/String" "hash" "I" (.int (0 : Int32)) := f186.keep K198 (ninS (Nat.ne_of_lt lt76) (ninS (Nat.ne_of_gt lt49) (ninS (Nat.ne_of_gt lt47) (ninS (Nat.ne_of_lt lt130) (ninS (Nat.ne_of_lt lt123) nin0)))))
    have f224 : Fld Z T198.heap b4_38 "java/lang/String" "hashIsZero" "Z" (.int (0 : Int32)) := f187.keep K198 (ninS (Nat.ne_of_lt lt76) (ninS (Nat.ne_of_gt lt49) (ninS (Nat.ne_of_gt lt47) (ninS (Nat.ne_of_lt lt130) (ninS (Nat.ne_of_lt lt123) nin0)))))
    have f225 : Arv Z T198.heap b1_13_38 k1_13_38 .byte (1 : Int32) [(.int (own_cb p2))] (.int (0 : Int32)) := f188.keep K198 (ninS (Nat.ne_of_lt lt77) (ninS (Nat.ne_of_gt lt53) (ninS (Nat.ne_of_gt lt51) (ninS (Nat.ne_of_lt lt131) (ninS (Nat.ne_of_lt lt124) nin0)))))
    have f226 : Exa Z T198.heap b46_103 "java/util/TreeMap" := f189.keep K198
    have f227 : Fld Z T198.heap b46_103 "java/util/TreeMap" "size" "I" (.int (0 : Int32)) := f190.keep K198 (ninS (Nat.ne_of_gt lt139) (ninS (Nat.ne_of_gt lt135) (ninS (Nat.ne_of_gt lt133) (ninS (Ne.symm ne118) (ninS (Ne.symm ne117) nin0)))))
    have f228 : Fld Z T198.heap b46_103 "java/util/TreeMap" "modCount" "I" (.int (0 : Int32)) := f191.keep K198 (ninS (Nat.ne_of_gt lt139) (ninS (Nat.ne_of_gt lt135) (ninS (Nat.ne_of_gt lt133) (ninS (Ne.symm ne118) (ninS (Ne.symm ne117) nin0)))))
    have f229 : Fld Z T198.heap b46_103 "java/util/TreeMap" "comparator" "Ljava/util/Comparator;" .null := f192.keep K198 (ninS (Nat.ne_of_gt lt139) (ninS (Nat.ne_of_gt lt135) (ninS (Nat.ne_of_gt lt133) (ninS (Ne.symm ne118) (ninS (Ne.symm ne117) nin0)))))
    have zs230 : n0 ≤ T198.heap.size := Nat.le_trans zs193 K198.1
    have K231 : Keep h0 T198.heap [] := K194.trans K198 (allS (Or.inr sz_b71) (allS (Or.inr sz_b4_15) (allS (Or.inr sz_b4_1) (allS (Or.inr sz_b23_103) (allS (Or.inr sz_b2_103) all0)))))
    have N232 : Fr n0 L198 := by rw [l198]; exact Fr.app N195 N198q
    have pre233 : ∀ t, Steps p.tables e below (T198.setTop (mkF m 62 #[.val (.int p0), .val (.int p1), .val (.int p2), .val (.ref b4_1), .val (.ref b4_15), .val (.ref b4_38), .val (.ref b71), .val (.int (0 : Int32)), .val (.int (1 : Int32)), .unset, .unset, .unset, .unset, .unset] [(.ref b4_38), (.ref b71)])) t → Steps p.tables e below (s₁.setTop (entryFrame m #[(.int p0), (.int p1), (.int p2)] maxLocals)) t := fun t k => pre196 t (by
        refine st198.trans ?_
        show Steps p.tables e below (T198.setTop (mkF m 56 #[.val (.int p0), .val (.int p1), .val (.int p2), .val (.ref b4_1), .val (.ref b4_15), .val (.ref b4_38), .val (.ref b71), .val (.int (0 : Int32)), .unset, .unset, .unset, .unset, .unset, .unset] [(.int (1 : Int32))])) _
        refine XS.istore X198.here hx rfl (hb hby at_56) rfl (l' := #[.val (.int p0), .val (.int p1), .val (.int p2), .val (.ref b4_1), .val (.ref b4_15), .val (.ref b4_38), .val (.ref b71), .val (.int (0 : Int32)), .val (.int (1 : Int32)), .unset, .unset, .unset, .unset, .unset]) rfl ?_
        refine XS.aload X198.here hx rfl (hb hby at_58) rfl rfl ?_
        refine XS.aload X198.here hx rfl (hb hby at_60) rfl rfl ?_
        exact k)
    by_cases hc234 : own_f13t2 ((own_cb p2) &&& (255 : Int32)) (own_y0 (own_cb p0)) (own_y1 (own_cb p1) (own_y0 (own_cb p0)) (own_cb p0)) (own_cb p0) (own_cb p1) < (0 : Int32)
    · obtain ⟨cq235, kq235, q235a, q235b, q235c⟩ := isOf hZ rfl f199
      obtain ⟨_, _, ⟨T235, L235, k235, n235⟩, -, X235, ⟨Lc235, hQ235, l235, y235, z235⟩, st235⟩ := X198.virtualBack hx (y := (⟨"com/example/nestor/nestor/IdTable", "placeOf", "(Ljava/lang/String;)I"⟩ : MethodName)) (z := (⟨"com/example/nestor/nestor/IdTable", "placeOf", "(Ljava/lang/String;)I"⟩ : MethodName)) hown (mvT hZ (hw _ (List.mem_of_getElem? (i := 61) rfl))) (mvT hZ (hw _ (List.mem_of_getElem? (i := 62) rfl))) (notFace_of_selects (args := #[]) (mvT hZ (hw _ (List.mem_of_getElem? (i := 64) rfl)))) (mvT hZ (hw _ (List.mem_of_getElem? (i := 64) rfl))) (mvT hZ (hw _ (List.mem_of_getElem? (i := 63) rfl))) (by decide) (backOf (W := 0) (own_rm9t2n l Z a0 hw [] b71 b4_38 (own_y0 (own_cb p0)) (own_y1 (own_cb p1) (own_y0 (own_cb p0)) (own_cb p0)) k23_103 k2_103 k1_13_38 (own_cb p2) b4_1 b4_15 k1_13_1 (own_cb p0) k1_13_15 (own_cb p1) z_COMPACT_STRINGS b23_103 b2_103 b1_13_38 hq198_i0 zq198_i0 b1_13_1 hq198_o1 zq198_o1 b1_13_15 (0 : Int32) (0 : Int32) T198.heap n0 zs230 Ov115 HC (own_y0i _) (own_g1 _ _ _ (own_y0i _) hc197).2.1 (own_g1 _ _ _ (own_y0i _) hc197).2.2 (Nat.ne_of_lt lt24) (Nat.ne_of_gt lt47) (Nat.ne_of_gt lt49) (own_cby _) (own_cby _) ok216 (own_cby _) ok213 (own_ok0 _) hc234 ne116 (Nat.ne_of_lt lt131) (Nat.ne_of_lt lt124) (Nat.ne_of_lt lt127) (Nat.ne_of_lt lt120) (Nat.ne_of_lt lt129) (Nat.ne_of_lt lt122) f199 f217 P_B_java_lang_String_COMPACT_STRINGS f200 f201 f202 f203 f204 f220 f222 f221 f225 f208 f214 f215 f209 f210 f218 f205 f211 f212 f206 f207 f219 f223 f224 g_b4_38 g_b4_1 g_b4_15 g_b2_103 g_b71 g_b23_103) hZ (hw _ (List.mem_of_getElem? (i := 65) rfl)) (hw _ (List.mem_of_getElem? (i := 28) rfl)) (by decide) (by decide)) q235a q235c (g := (mkF m 62 #[.val (.int p0), .val (.int p1), .val (.int p2), .val (.ref b4_1), .val (.ref b4_15), .val (.ref b4_38), .val (.ref b71), .val (.int (0 : Int32)), .val (.int (1 : Int32)), .unset, .unset, .unset, .unset, .unset] [(.ref b4_38), (.ref b71)])) rfl (by rw [hml]; rfl) (Steps.refl _) (argsL := [(.ref b4_38)]) (rest := []) (lenOf own_pd16 rfl) rfl (by show 2 * 0 + _ ≤ _; exact Nat.le_of_eq rfl) (hb hby at_62) (fun _ _ => ⟨rfl, rfl, (by decide : 10 + 0 ≤ _), (by decide : 52 + 0 ≤ _)⟩)
      dsimp only [Pt.U, Pt.locs, Pt.cells, Pt.slots] at X235 l235 y235 z235 st235 hQ235
      subst y235 z235
      obtain ⟨hq235_o1, zq235_o1, hq235_i0, zq235_i0, hq235_i1, zq235_i1, rfl, N235q, K235, f236, f237, f238, f239, f240, f241, f242, f243, f244, f245, f246, f247, f248, f249, f250, f251, f252, ok253, f254, f255, ok256, f257, f258, ok259⟩ := hQ235
      have f260 : Old Z n0 T235.heap := f217.keep K235 (allS g_b71 (allS g_b4_38 (allS g_b4_1 (allS g_b4_15 (allS g_b23_103 (allS g_b2_103 all0))))))
      have f261 : Arv Z T235.heap b1_13_1 k1_13_1 .byte (1 : Int32) [(.int (own_cb p0))] (.int (0 : Int32)) := f218.keep K235 (ninS (Nat.ne_of_lt lt73) (ninS (Nat.ne_of_lt lt48) (ninS (Ne.symm ne9) (ninS (Nat.ne_of_lt lt25) (ninS (Nat.ne_of_lt lt127) (ninS (Nat.ne_of_lt lt120) nin0))))))
      have f262 : Arv Z T235.heap b1_13_15 k1_13_15 .byte (1 : Int32) [(.int (own_cb p1))] (.int (0 : Int32)) := f219.keep K235 (ninS (Nat.ne_of_lt lt75) (ninS (Nat.ne_of_lt lt50) (ninS (Nat.ne_of_gt lt26) (ninS (Ne.symm ne23) (ninS (Nat.ne_of_lt lt129) (ninS (Nat.ne_of_lt lt122) nin0))))))
      have f263 : Arv Z T235.heap b1_13_38 k1_13_38 .byte (1 : Int32) [(.int (own_cb p2))] (.int (0 : Int32)) := f225.keep K235 (ninS (Nat.ne_of_lt lt77) (ninS (Ne.symm ne46) (ninS (Nat.ne_of_gt lt51) (ninS (Nat.ne_of_gt lt53) (ninS (Nat.ne_of_lt lt131) (ninS (Nat.ne_of_lt lt124) nin0))))))
      have f264 : Exa Z T235.heap b46_103 "java/util/TreeMap" := f226.keep K235
      have f265 : Fld Z T235.heap b46_103 "java/util/TreeMap" "size" "I" (.int (0 : Int32)) := f227.keep K235 (ninS (Nat.ne_of_gt lt139) (ninS (Nat.ne_of_gt lt137) (ninS (Nat.ne_of_gt lt133) (ninS (Nat.ne_of_gt lt135) (ninS (Ne.symm ne118) (ninS (Ne.symm ne117) nin0))))))
      have f266 : Fld Z T235.heap b46_103 "java/util/TreeMap" "modCount" "I" (.int (0 : Int32)) := f228.keep K235 (ninS (Nat.ne_of_gt lt139) (ninS (Nat.ne_of_gt lt137) (ninS (Nat.ne_of_gt lt133) (ninS (Nat.ne_of_gt lt135) (ninS (Ne.symm ne118) (ninS (Ne.symm ne117) nin0))))))
      have f267 : Fld Z T235.heap b46_103 "java/util/TreeMap" "comparator" "Ljava/util/Comparator;" .null := f229.keep K235 (ninS (Nat.ne_of_gt lt139) (ninS (Nat.ne_of_gt lt137) (ninS (Nat.ne_of_gt lt133) (ninS (Nat.ne_of_gt lt135) (ninS (Ne.symm ne118) (ninS (Ne.symm ne117) nin0))))))
      have zs268 : n0 ≤ T235.heap.size := Nat.le_trans zs230 K235.1
      have K269 : Keep h0 T235.heap [] := K231.trans K235 (allS (Or.inr sz_b71) (allS (Or.inr sz_b4_38) (allS (Or.inr sz_b4_1) (allS (Or.inr sz_b4_15) (allS (Or.inr sz_b23_103) (allS (Or.inr sz_b2_103) all0))))))
      have N270 : Fr n0 L235 := by rw [l235]; exact Fr.app N232 N235q
      have f272 : Sta Z T235.heap "java/lang/String" "COMPACT_STRINGS" "Z" (.int z_COMPACT_STRINGS) := P_B_java_lang_String_COMPACT_STRINGS.ext f260.2
      obtain ⟨cq271, kq271, q271a, q271b, q271c⟩ := isOf hZ rfl f248
      obtain ⟨_, _, ⟨T271, L271, k271, n271⟩, -, X271, ⟨Lc271, hQ271, l271, y271, z271⟩, st271⟩ := X235.virtualBack hx (y := (⟨"java/lang/String", "equals", "(Ljava/lang/Object;)Z"⟩ : MethodName)) (z := (⟨"java/lang/String", "equals", "(Ljava/lang/Object;)Z"⟩ : MethodName)) hown (mvT hZ (hw _ (List.mem_of_getElem? (i := 112) rfl))) (mvT hZ (hw _ (List.mem_of_getElem? (i := 113) rfl))) (notFace_of_selects (args := #[]) (mvT hZ (hw _ (List.mem_of_getElem? (i := 115) rfl)))) (mvT hZ (hw _ (List.mem_of_getElem? (i := 115) rfl))) (mvT hZ (hw _ (List.mem_of_getElem? (i := 114) rfl))) (by decide) (backOf (W := 0) (own_rm19 l Z a0 hw [] b4_15 b4_1 z_COMPACT_STRINGS b1_13_15 b1_13_1 k1_13_15 (own_cb p1) k1_13_1 (own_cb p0) T235.heap n0 zs268 HC (Nat.ne_of_gt lt24) f249 f246 f245 f272 f250 f247 f262 f261) hZ (hw _ (List.mem_of_getElem? (i := 116) rfl)) (hw _ (List.mem_of_getElem? (i := 2) rfl)) (by decide) (by decide)) q271a q271c (g := (mkF m 79 #[.val (.int p0), .val (.int p1), .val (.int p2), .val (.ref b4_1), .val (.ref b4_15), .val (.ref b4_38), .val (.ref b71), .val (.int (0 : Int32)), .val (.int (1 : Int32)), .val (.int (2 : Int32)), .val .null, .val .null, .val (.int (1 : Int32)), .unset] [(.ref b4_1), (.ref b4_15)])) rfl (by rw [hml]; rfl) (Steps.refl _) (argsL := [(.ref b4_1)]) (rest := []) (lenOf own_pd10 rfl) rfl (by show 2 * 0 + _ ≤ _; exact Nat.le_of_eq rfl) (hb hby at_79) (fun _ _ => ⟨rfl, rfl, (by decide : 10 + 0 ≤ _), (by decide : 52 + 0 ≤ _)⟩)
      dsimp only [Pt.U, Pt.locs, Pt.cells, Pt.slots] at X271 l271 y271 z271 st271 hQ271
      subst y271 z271
      obtain ⟨rfl, N271q, e271⟩ := hQ271
      have N273 : Fr n0 L271 := by rw [l271]; exact Fr.app N270 N271q
      obtain ⟨cq274, kq274, q274a, q274b, q274c⟩ := isOf hZ e271 f242
      obtain ⟨_, _, ⟨T274, L274, k274, n274⟩, -, X274, ⟨Lc274, hQ274, l274, y274, z274⟩, st274⟩ := X271.virtualBack hx (y := (⟨"java/lang/String", "equals", "(Ljava/lang/Object;)Z"⟩ : MethodName)) (z := (⟨"java/lang/String", "equals", "(Ljava/lang/Object;)Z"⟩ : MethodName)) hown (mvT hZ (hw _ (List.mem_of_getElem? (i := 112) rfl))) (mvT hZ (hw _ (List.mem_of_getElem? (i := 113) rfl))) (notFace_of_selects (args := #[]) (mvT hZ (hw _ (List.mem_of_getElem? (i := 115) rfl)))) (mvT hZ (hw _ (List.mem_of_getElem? (i := 115) rfl))) (mvT hZ (hw _ (List.mem_of_getElem? (i := 114) rfl))) (by decide) (backOf (W := 0) (own_rm19 l Z a0 hw [] b4_38 b4_1 z_COMPACT_STRINGS b1_13_38 b1_13_1 k1_13_38 (own_cb p2) k1_13_1 (own_cb p0) T235.heap n0 zs268 HC (Nat.ne_of_gt lt47) f243 f246 f245 f272 f244 f247 f263 f261) hZ (hw _ (List.mem_of_getElem? (i := 116) rfl)) (hw _ (List.mem_of_getElem? (i := 2) rfl)) (by decide) (by decide)) q274a q274c (g := (mkF m 95 #[.val (.int p0), .val (.int p1), .val (.int p2), .val (.ref b4_1), .val (.ref b4_15), .val (.ref b4_38), .val (.ref b71), .val (.int (0 : Int32)), .val (.int (1 : Int32)), .val (.int (2 : Int32)), .val (.ref b4_15), .val .null, .val (.int (2 : Int32)), .unset] [(.ref b4_1), (.ref b4_38)])) rfl (by rw [hml]; rfl) (Steps.refl _) (argsL := [(.ref b4_1)]) (rest := []) (lenOf own_pd10 rfl) rfl (by show 2 * 0 + _ ≤ _; exact Nat.le_of_eq rfl) (hb hby at_95) (fun _ _ => ⟨rfl, e271, (by decide : 10 + 0 ≤ _), (by decide : 52 + 0 ≤ _)⟩)
      dsimp only [Pt.U, Pt.locs, Pt.cells, Pt.slots] at X274 l274 y274 z274 st274 hQ274
      subst y274 z274
      obtain ⟨rfl, N274q, e274⟩ := hQ274
      have N275 : Fr n0 L274 := by rw [l274]; exact Fr.app N273 N274q
      obtain ⟨cq276, kq276, q276a, q276b, q276c⟩ := isOf hZ e274 f242
      obtain ⟨_, _, ⟨T276, L276, k276, n276⟩, -, X276, ⟨Lc276, hQ276, l276, y276, z276⟩, st276⟩ := X274.virtualBack hx (y := (⟨"java/lang/String", "equals", "(Ljava/lang/Object;)Z"⟩ : MethodName)) (z := (⟨"java/lang/String", "equals", "(Ljava/lang/Object;)Z"⟩ : MethodName)) hown (mvT hZ (hw _ (List.mem_of_getElem? (i := 112) rfl))) (mvT hZ (hw _ (List.mem_of_getElem? (i := 113) rfl))) (notFace_of_selects (args := #[]) (mvT hZ (hw _ (List.mem_of_getElem? (i := 115) rfl)))) (mvT hZ (hw _ (List.mem_of_getElem? (i := 115) rfl))) (mvT hZ (hw _ (List.mem_of_getElem? (i := 114) rfl))) (by decide) (backOf (W := 0) (own_rm19 l Z a0 hw [] b4_38 b4_15 z_COMPACT_STRINGS b1_13_38 b1_13_15 k1_13_38 (own_cb p2) k1_13_15 (own_cb p1) T235.heap n0 zs268 HC (Nat.ne_of_gt lt49) f243 f249 f248 f272 f244 f250 f263 f262) hZ (hw _ (List.mem_of_getElem? (i := 116) rfl)) (hw _ (List.mem_of_getElem? (i := 2) rfl)) (by decide) (by decide)) q276a q276c (g := (mkF m 105 #[.val (.int p0), .val (.int p1), .val (.int p2), .val (.ref b4_1), .val (.ref b4_15), .val (.ref b4_38), .val (.ref b71), .val (.int (0 : Int32)), .val (.int (1 : Int32)), .val (.int (2 : Int32)), .val (.ref b4_15), .val .null, .val (.int (2 : Int32)), .unset] [(.ref b4_15), (.ref b4_38)])) rfl (by rw [hml]; rfl) (Steps.refl _) (argsL := [(.ref b4_15)]) (rest := []) (lenOf own_pd10 rfl) rfl (by show 2 * 0 + _ ≤ _; exact Nat.le_of_eq rfl) (hb hby at_105) (fun _ _ => ⟨rfl, e274, (by decide : 10 + 0 ≤ _), (by decide : 52 + 0 ≤ _)⟩)
      dsimp only [Pt.U, Pt.locs, Pt.cells, Pt.slots] at X276 l276 y276 z276 st276 hQ276
      subst y276 z276
      obtain ⟨rfl, N276q, e276⟩ := hQ276
      have N277 : Fr n0 L276 := by rw [l276]; exact Fr.app N275 N276q
      obtain ⟨cq278, kq278, q278a, q278b, q278c⟩ := isOf hZ e276 f236
      obtain ⟨_, _, ⟨T278, L278, k278, n278⟩, -, X278, ⟨Lc278, hQ278, l278, y278, z278⟩, st278⟩ := X276.virtualBack hx (y := (⟨"com/example/nestor/nestor/IdTable", "size", "()I"⟩ : MethodName)) (z := (⟨"com/example/nestor/nestor/IdTable", "size", "()I"⟩ : MethodName)) hown (mvT hZ (hw _ (List.mem_of_getElem? (i := 120) rfl))) (mvT hZ (hw _ (List.mem_of_getElem? (i := 121) rfl))) (notFace_of_selects (args := #[]) (mvT hZ (hw _ (List.mem_of_getElem? (i := 123) rfl)))) (mvT hZ (hw _ (List.mem_of_getElem? (i := 123) rfl))) (mvT hZ (hw _ (List.mem_of_getElem? (i := 122) rfl))) (by decide) (backOf (W := 0) (own_rm21 l Z a0 hw [] b71 (3 : Int32) T235.heap n0 zs268 f241) hZ (hw _ (List.mem_of_getElem? (i := 124) rfl)) (hw _ (List.mem_of_getElem? (i := 28) rfl)) (by decide) (by decide)) q278a q278c (g := (mkF m 148 #[.val (.int p0), .val (.int p1), .val (.int p2), .val (.ref b4_1), .val (.ref b4_15), .val (.ref b4_38), .val (.ref b71), .val (.int (0 : Int32)), .val (.int (1 : Int32)), .val (.int (2 : Int32)), .val (.ref b4_15), .val (.ref b4_38), .val (.int (3 : Int32)), .val (.int (0 : Int32))] [(.ref b71)])) rfl (by rw [hml]; rfl) (Steps.refl _) (argsL := []) (rest := []) (lenOf own_pd9 rfl) rfl (by show 2 * 0 + _ ≤ _; exact Nat.le_of_eq rfl) (hb hby at_148) (fun _ _ => ⟨rfl, e276, (by decide : 10 + 0 ≤ _), (by decide : 52 + 0 ≤ _)⟩)
      dsimp only [Pt.U, Pt.locs, Pt.cells, Pt.slots] at X278 l278 y278 z278 st278 hQ278
      subst y278 z278
      obtain ⟨rfl, N278q, e278⟩ := hQ278
      have N279 : Fr n0 L278 := by rw [l278]; exact Fr.app N277 N278q
      obtain ⟨cq280, kq280, q280a, q280b, q280c⟩ := isOf hZ e278 f236
      obtain ⟨_, _, ⟨T280, L280, k280, n280⟩, -, X280, ⟨Lc280, hQ280, l280, y280, z280⟩, st280⟩ := X278.virtualBack hx (y := (⟨"com/example/nestor/nestor/IdTable", "id", "(I)Ljava/lang/String;"⟩ : MethodName)) (z := (⟨"com/example/nestor/nestor/IdTable", "id", "(I)Ljava/lang/String;"⟩ : MethodName)) hown (mvT hZ (hw _ (List.mem_of_getElem? (i := 125) rfl))) (mvT hZ (hw _ (List.mem_of_getElem? (i := 126) rfl))) (notFace_of_selects (args := #[]) (mvT hZ (hw _ (List.mem_of_getElem? (i := 128) rfl)))) (mvT hZ (hw _ (List.mem_of_getElem? (i := 128) rfl))) (mvT hZ (hw _ (List.mem_of_getElem? (i := 127) rfl))) (by decide) (backOf (W := 0) (own_rm22n3k0 l Z a0 hw [] b71 b2_103 k2_103 b4_1 b4_15 b4_38 T235.heap n0 zs268 f241 f239 Ov115 f240) hZ (hw _ (List.mem_of_getElem? (i := 129) rfl)) (hw _ (List.mem_of_getElem? (i := 28) rfl)) (by decide) (by decide)) q280a q280c (g := (mkF m 199 #[.val (.int p0), .val (.int p1), .val (.int p2), .val (.ref b4_1), .val (.ref b4_15), .val (.ref b4_38), .val (.ref b71), .val (.int (0 : Int32)), .val (.int (1 : Int32)), .val (.int (2 : Int32)), .val (.ref b4_15), .val (.ref b4_38), .val (.int (3 : Int32)), .val (.int (0 : Int32))] [(.int (0 : Int32)), (.ref b71)])) rfl (by rw [hml]; rfl) (Steps.refl _) (argsL := [(.int (0 : Int32))]) (rest := []) (lenOf own_pd17 rfl) rfl (by show 2 * 0 + _ ≤ _; exact Nat.le_of_eq rfl) (hb hby at_199) (fun _ _ => ⟨rfl, e278, (by decide : 10 + 0 ≤ _), (by decide : 52 + 0 ≤ _)⟩)
      dsimp only [Pt.U, Pt.locs, Pt.cells, Pt.slots] at X280 l280 y280 z280 st280 hQ280
      subst y280 z280
      obtain ⟨rfl, N280q, e280⟩ := hQ280
      have N281 : Fr n0 L280 := by rw [l280]; exact Fr.app N279 N280q
      obtain ⟨cq282, kq282, q282a, q282b, q282c⟩ := isOf hZ e280 f245
      obtain ⟨_, _, ⟨T282, L282, k282, n282⟩, -, X282, ⟨Lc282, hQ282, l282, y282, z282⟩, st282⟩ := X280.virtualBack hx (y := (⟨"java/lang/String", "equals", "(Ljava/lang/Object;)Z"⟩ : MethodName)) (z := (⟨"java/lang/String", "equals", "(Ljava/lang/Object;)Z"⟩ : MethodName)) hown (mvT hZ (hw _ (List.mem_of_getElem? (i := 112) rfl))) (mvT hZ (hw _ (List.mem_of_getElem? (i := 113) rfl))) (notFace_of_selects (args := #[]) (mvT hZ (hw _ (List.mem_of_getElem? (i := 115) rfl)))) (mvT hZ (hw _ (List.mem_of_getElem? (i := 115) rfl))) (mvT hZ (hw _ (List.mem_of_getElem? (i := 114) rfl))) (by decide) (backOf (W := 0) (own_rm19s l Z a0 hw [] b4_1 T235.heap n0 zs268 ) hZ (hw _ (List.mem_of_getElem? (i := 116) rfl)) (hw _ (List.mem_of_getElem? (i := 2) rfl)) (by decide) (by decide)) q282a q282c (g := (mkF m 203 #[.val (.int p0), .val (.int p1), .val (.int p2), .val (.ref b4_1), .val (.ref b4_15), .val (.ref b4_38), .val (.ref b71), .val (.int (0 : Int32)), .val (.int (1 : Int32)), .val (.int (2 : Int32)), .val (.ref b4_15), .val (.ref b4_38), .val (.int (3 : Int32)), .val (.int (0 : Int32))] [(.ref b4_1), (.ref b4_1)])) rfl (by rw [hml]; rfl) (Steps.refl _) (argsL := [(.ref b4_1)]) (rest := []) (lenOf own_pd10 rfl) rfl (by show 2 * 0 + _ ≤ _; exact Nat.le_of_eq rfl) (hb hby at_203) (fun _ _ => ⟨rfl, e280, (by decide : 10 + 0 ≤ _), (by decide : 52 + 0 ≤ _)⟩)
      dsimp only [Pt.U, Pt.locs, Pt.cells, Pt.slots] at X282 l282 y282 z282 st282 hQ282
      subst y282 z282
      obtain ⟨rfl, N282q, e282⟩ := hQ282
      have N283 : Fr n0 L282 := by rw [l282]; exact Fr.app N281 N282q
      obtain ⟨cq284, kq284, q284a, q284b, q284c⟩ := isOf hZ e282 f236
      obtain ⟨_, _, ⟨T284, L284, k284, n284⟩, -, X284, ⟨Lc284, hQ284, l284, y284, z284⟩, st284⟩ := X282.virtualBack hx (y := (⟨"com/example/nestor/nestor/IdTable", "id", "(I)Ljava/lang/String;"⟩ : MethodName)) (z := (⟨"com/example/nestor/nestor/IdTable", "id", "(I)Ljava/lang/String;"⟩ : MethodName)) hown (mvT hZ (hw _ (List.mem_of_getElem? (i := 125) rfl))) (mvT hZ (hw _ (List.mem_of_getElem? (i := 126) rfl))) (notFace_of_selects (args := #[]) (mvT hZ (hw _ (List.mem_of_getElem? (i := 128) rfl)))) (mvT hZ (hw _ (List.mem_of_getElem? (i := 128) rfl))) (mvT hZ (hw _ (List.mem_of_getElem? (i := 127) rfl))) (by decide) (backOf (W := 0) (own_rm22n3k1 l Z a0 hw [] b71 b2_103 k2_103 b4_1 b4_15 b4_38 T235.heap n0 zs268 f241 f239 Ov115 f240) hZ (hw _ (List.mem_of_getElem? (i := 129) rfl)) (hw _ (List.mem_of_getElem? (i := 28) rfl)) (by decide) (by decide)) q284a q284c (g := (mkF m 220 #[.val (.int p0), .val (.int p1), .val (.int p2), .val (.ref b4_1), .val (.ref b4_15), .val (.ref b4_38), .val (.ref b71), .val (.int (0 : Int32)), .val (.int (1 : Int32)), .val (.int (2 : Int32)), .val (.ref b4_15), .val (.ref b4_38), .val (.int (3 : Int32)), .val (.int (0 : Int32))] [(.int (1 : Int32)), (.ref b71)])) rfl (by rw [hml]; rfl) (Steps.refl _) (argsL := [(.int (1 : Int32))]) (rest := []) (lenOf own_pd17 rfl) rfl (by show 2 * 0 + _ ≤ _; exact Nat.le_of_eq rfl) (hb hby at_220) (fun _ _ => ⟨rfl, e282, (by decide : 10 + 0 ≤ _), (by decide : 52 + 0 ≤ _)⟩)
      dsimp only [Pt.U, Pt.locs, Pt.cells, Pt.slots] at X284 l284 y284 z284 st284 hQ284
      subst y284 z284
      obtain ⟨rfl, N284q, e284⟩ := hQ284
      have N285 : Fr n0 L284 := by rw [l284]; exact Fr.app N283 N284q
      obtain ⟨cq286, kq286, q286a, q286b, q286c⟩ := isOf hZ e284 f248
      obtain ⟨_, _, ⟨T286, L286, k286, n286⟩, -, X286, ⟨Lc286, hQ286, l286, y286, z286⟩, st286⟩ := X284.virtualBack hx (y := (⟨"java/lang/String", "equals", "(Ljava/lang/Object;)Z"⟩ : MethodName)) (z := (⟨"java/lang/String", "equals", "(Ljava/lang/Object;)Z"⟩ : MethodName)) hown (mvT hZ (hw _ (List.mem_of_getElem? (i := 112) rfl))) (mvT hZ (hw _ (List.mem_of_getElem? (i := 113) rfl))) (notFace_of_selects (args := #[]) (mvT hZ (hw _ (List.mem_of_getElem? (i := 115) rfl)))) (mvT hZ (hw _ (List.mem_of_getElem? (i := 115) rfl))) (mvT hZ (hw _ (List.mem_of_getElem? (i := 114) rfl))) (by decide) (backOf (W := 0) (own_rm19s l Z a0 hw [] b4_15 T235.heap n0 zs268 ) hZ (hw _ (List.mem_of_getElem? (i := 116) rfl)) (hw _ (List.mem_of_getElem? (i := 2) rfl)) (by decide) (by decide)) q286a q286c (g := (mkF m 225 #[.val (.int p0), .val (.int p1), .val (.int p2), .val (.ref b4_1), .val (.ref b4_15), .val (.ref b4_38), .val (.ref b71), .val (.int (0 : Int32)), .val (.int (1 : Int32)), .val (.int (2 : Int32)), .val (.ref b4_15), .val (.ref b4_38), .val (.int (3 : Int32)), .val (.int (0 : Int32))] [(.ref b4_15), (.ref b4_15)])) rfl (by rw [hml]; rfl) (Steps.refl _) (argsL := [(.ref b4_15)]) (rest := []) (lenOf own_pd10 rfl) rfl (by show 2 * 0 + _ ≤ _; exact Nat.le_of_eq rfl) (hb hby at_225) (fun _ _ => ⟨rfl, e284, (by decide : 10 + 0 ≤ _), (by decide : 52 + 0 ≤ _)⟩)
      dsimp only [Pt.U, Pt.locs, Pt.cells, Pt.slots] at X286 l286 y286 z286 st286 hQ286
      subst y286 z286
      obtain ⟨rfl, N286q, e286⟩ := hQ286
      have N287 : Fr n0 L286 := by rw [l286]; exact Fr.app N285 N286q
      obtain ⟨cq288, kq288, q288a, q288b, q288c⟩ := isOf hZ e286 f236
      obtain ⟨_, _, ⟨T288, L288, k288, n288⟩, -, X288, ⟨Lc288, hQ288, l288, y288, z288⟩, st288⟩ := X286.virtualBack hx (y := (⟨"com/example/nestor/nestor/IdTable", "id", "(I)Ljava/lang/String;"⟩ : MethodName)) (z := (⟨"com/example/nestor/nestor/IdTable", "id", "(I)Ljava/lang/String;"⟩ : MethodName)) hown (mvT hZ (hw _ (List.mem_of_getElem? (i := 125) rfl))) (mvT hZ (hw _ (List.mem_of_getElem? (i := 126) rfl))) (notFace_of_selects (args := #[]) (mvT hZ (hw _ (List.mem_of_getElem? (i := 128) rfl)))) (mvT hZ (hw _ (List.mem_of_getElem? (i := 128) rfl))) (mvT hZ (hw _ (List.mem_of_getElem? (i := 127) rfl))) (by decide) (backOf (W := 0) (own_rm22n3k2 l Z a0 hw [] b71 b2_103 k2_103 b4_1 b4_15 b4_38 T235.heap n0 zs268 f241 f239 Ov115 f240) hZ (hw _ (List.mem_of_getElem? (i := 129) rfl)) (hw _ (List.mem_of_getElem? (i := 28) rfl)) (by decide) (by decide)) q288a q288c (g := (mkF m 242 #[.val (.int p0), .val (.int p1), .val (.int p2), .val (.ref b4_1), .val (.ref b4_15), .val (.ref b4_38), .val (.ref b71), .val (.int (0 : Int32)), .val (.int (1 : Int32)), .val (.int (2 : Int32)), .val (.ref b4_15), .val (.ref b4_38), .val (.int (3 : Int32)), .val (.int (0 : Int32))] [(.int (2 : Int32)), (.ref b71)])) rfl (by rw [hml]; rfl) (Steps.refl _) (argsL := [(.int (2 : Int32))]) (rest := []) (lenOf own_pd17 rfl) rfl (by show 2 * 0 + _ ≤ _; exact Nat.le_of_eq rfl) (hb hby at_242) (fun _ _ => ⟨rfl, e286, (by decide : 10 + 0 ≤ _), (by decide : 52 + 0 ≤ _)⟩)
      dsimp only [Pt.U, Pt.locs, Pt.cells, Pt.slots] at X288 l288 y288 z288 st288 hQ288
      subst y288 z288
      obtain ⟨rfl, N288q, e288⟩ := hQ288
      have N289 : Fr n0 L288 := by rw [l288]; exact Fr.app N287 N288q
      obtain ⟨cq290, kq290, q290a, q290b, q290c⟩ := isOf hZ e288 f242
      obtain ⟨_, _, ⟨T290, L290, k290, n290⟩, -, X290, ⟨Lc290, hQ290, l290, y290, z290⟩, st290⟩ := X288.virtualBack hx (y := (⟨"java/lang/String", "equals", "(Ljava/lang/Object;)Z"⟩ : MethodName)) (z := (⟨"java/lang/String", "equals", "(Ljava/lang/Object;)Z"⟩ : MethodName)) hown (mvT hZ (hw _ (List.mem_of_getElem? (i := 112) rfl))) (mvT hZ (hw _ (List.mem_of_getElem? (i := 113) rfl))) (notFace_of_selects (args := #[]) (mvT hZ (hw _ (List.mem_of_getElem? (i := 115) rfl)))) (mvT hZ (hw _ (List.mem_of_getElem? (i := 115) rfl))) (mvT hZ (hw _ (List.mem_of_getElem? (i := 114) rfl))) (by decide) (backOf (W := 0) (own_rm19s l Z a0 hw [] b4_38 T235.heap n0 zs268 ) hZ (hw _ (List.mem_of_getElem? (i := 116) rfl)) (hw _ (List.mem_of_getElem? (i := 2) rfl)) (by decide) (by decide)) q290a q290c (g := (mkF m 247 #[.val (.int p0), .val (.int p1), .val (.int p2), .val (.ref b4_1), .val (.ref b4_15), .val (.ref b4_38), .val (.ref b71), .val (.int (0 : Int32)), .val (.int (1 : Int32)), .val (.int (2 : Int32)), .val (.ref b4_15), .val (.ref b4_38), .val (.int (3 : Int32)), .val (.int (0 : Int32))] [(.ref b4_38), (.ref b4_38)])) rfl (by rw [hml]; rfl) (Steps.refl _) (argsL := [(.ref b4_38)]) (rest := []) (lenOf own_pd10 rfl) rfl (by show 2 * 0 + _ ≤ _; exact Nat.le_of_eq rfl) (hb hby at_247) (fun _ _ => ⟨rfl, e288, (by decide : 10 + 0 ≤ _), (by decide : 52 + 0 ≤ _)⟩)
      dsimp only [Pt.U, Pt.locs, Pt.cells, Pt.slots] at X290 l290 y290 z290 st290 hQ290
      subst y290 z290
      obtain ⟨rfl, N290q, e290⟩ := hQ290
      have N291 : Fr n0 L290 := by rw [l290]; exact Fr.app N289 N290q
      obtain ⟨cq292, kq292, q292a, q292b, q292c⟩ := isOf hZ e290 f236
      obtain ⟨_, _, ⟨T292, L292, k292, n292⟩, -, X292, ⟨Lc292, hQ292, l292, y292, z292⟩, st292⟩ := X290.virtualBack hx (y := (⟨"com/example/nestor/nestor/IdTable", "id", "(I)Ljava/lang/String;"⟩ : MethodName)) (z := (⟨"com/example/nestor/nestor/IdTable", "id", "(I)Ljava/lang/String;"⟩ : MethodName)) hown (mvT hZ (hw _ (List.mem_of_getElem? (i := 125) rfl))) (mvT hZ (hw _ (List.mem_of_getElem? (i := 126) rfl))) (notFace_of_selects (args := #[]) (mvT hZ (hw _ (List.mem_of_getElem? (i := 128) rfl)))) (mvT hZ (hw _ (List.mem_of_getElem? (i := 128) rfl))) (mvT hZ (hw _ (List.mem_of_getElem? (i := 127) rfl))) (by decide) (backOf (W := 0) (own_rm22n3k0 l Z a0 hw [] b71 b2_103 k2_103 b4_1 b4_15 b4_38 T235.heap n0 zs268 f241 f239 Ov115 f240) hZ (hw _ (List.mem_of_getElem? (i := 129) rfl)) (hw _ (List.mem_of_getElem? (i := 28) rfl)) (by decide) (by decide)) q292a q292c (g := (mkF m 259 #[.val (.int p0), .val (.int p1), .val (.int p2), .val (.ref b4_1), .val (.ref b4_15), .val (.ref b4_38), .val (.ref b71), .val (.int (0 : Int32)), .val (.int (1 : Int32)), .val (.int (2 : Int32)), .val (.ref b4_15), .val (.ref b4_38), .val (.int (3 : Int32)), .val (.int (0 : Int32))] [(.int (0 : Int32)), (.ref b71)])) rfl (by rw [hml]; rfl) (Steps.refl _) (argsL := [(.int (0 : Int32))]) (rest := []) (lenOf own_pd17 rfl) rfl (by show 2 * 0 + _ ≤ _; exact Nat.le_of_eq rfl) (hb hby at_259) (fun _ _ => ⟨rfl, e290, (by decide : 10 + 0 ≤ _), (by decide : 52 + 0 ≤ _)⟩)
      dsimp only [Pt.U, Pt.locs, Pt.cells, Pt.slots] at X292 l292 y292 z292 st292 hQ292
      subst y292 z292
      obtain ⟨rfl, N292q, e292⟩ := hQ292
      have N293 : Fr n0 L292 := by rw [l292]; exact Fr.app N291 N292q
      obtain ⟨cq294, kq294, q294a, q294b, q294c⟩ := isOf hZ e292 f245
      obtain ⟨_, _, ⟨T294, L294, k294, n294⟩, -, X294, ⟨Lc294, hQ294, l294, y294, z294⟩, st294⟩ := X292.virtualBack hx (y := (⟨"java/lang/String", "equals", "(Ljava/lang/Object;)Z"⟩ : MethodName)) (z := (⟨"java/lang/String", "equals", "(Ljava/lang/Object;)Z"⟩ : MethodName)) hown (mvT hZ (hw _ (List.mem_of_getElem? (i := 112) rfl))) (mvT hZ (hw _ (List.mem_of_getElem? (i := 113) rfl))) (notFace_of_selects (args := #[]) (mvT hZ (hw _ (List.mem_of_getElem? (i := 115) rfl)))) (mvT hZ (hw _ (List.mem_of_getElem? (i := 115) rfl))) (mvT hZ (hw _ (List.mem_of_getElem? (i := 114) rfl))) (by decide) (backOf (W := 0) (own_rm19s l Z a0 hw [] b4_1 T235.heap n0 zs268 ) hZ (hw _ (List.mem_of_getElem? (i := 116) rfl)) (hw _ (List.mem_of_getElem? (i := 2) rfl)) (by decide) (by decide)) q294a q294c (g := (mkF m 263 #[.val (.int p0), .val (.int p1), .val (.int p2), .val (.ref b4_1), .val (.ref b4_15), .val (.ref b4_38), .val (.ref b71), .val (.int (0 : Int32)), .val (.int (1 : Int32)), .val (.int (2 : Int32)), .val (.ref b4_15), .val (.ref b4_38), .val (.int (3 : Int32)), .val (.int (0 : Int32))] [(.ref b4_1), (.ref b4_1)])) rfl (by rw [hml]; rfl) (Steps.refl _) (argsL := [(.ref b4_1)]) (rest := []) (lenOf own_pd10 rfl) rfl (by show 2 * 0 + _ ≤ _; exact Nat.le_of_eq rfl) (hb hby at_263) (fun _ _ => ⟨rfl, e292, (by decide : 10 + 0 ≤ _), (by decide : 52 + 0 ≤ _)⟩)
      dsimp only [Pt.U, Pt.locs, Pt.cells, Pt.slots] at X294 l294 y294 z294 st294 hQ294
      subst y294 z294
      obtain ⟨rfl, N294q, e294⟩ := hQ294
      have N295 : Fr n0 L294 := by rw [l294]; exact Fr.app N293 N294q
      obtain ⟨cq296, kq296, q296a, q296b, q296c⟩ := isOf hZ e294 f236
      obtain ⟨_, _, ⟨T296, L296, k296, n296⟩, -, X296, ⟨Lc296, hQ296, l296, y296, z296⟩, st296⟩ := X294.virtualBack hx (y := (⟨"com/example/nestor/nestor/IdTable", "id", "(I)Ljava/lang/String;"⟩ : MethodName)) (z := (⟨"com/example/nestor/nestor/IdTable", "id", "(I)Ljava/lang/String;"⟩ : MethodName)) hown (mvT hZ (hw _ (List.mem_of_getElem? (i := 125) rfl))) (mvT hZ (hw _ (List.mem_of_getElem? (i := 126) rfl))) (notFace_of_selects (args := #[]) (mvT hZ (hw _ (List.mem_of_getElem? (i := 128) rfl)))) (mvT hZ (hw _ (List.mem_of_getElem? (i := 128) rfl))) (mvT hZ (hw _ (List.mem_of_getElem? (i := 127) rfl))) (by decide) (backOf (W := 0) (own_rm22n3k1 l Z a0 hw [] b71 b2_103 k2_103 b4_1 b4_15 b4_38 T235.heap n0 zs268 f241 f239 Ov115 f240) hZ (hw _ (List.mem_of_getElem? (i := 129) rfl)) (hw _ (List.mem_of_getElem? (i := 28) rfl)) (by decide) (by decide)) q296a q296c (g := (mkF m 273 #[.val (.int p0), .val (.int p1), .val (.int p2), .val (.ref b4_1), .val (.ref b4_15), .val (.ref b4_38), .val (.ref b71), .val (.int (0 : Int32)), .val (.int (1 : Int32)), .val (.int (2 : Int32)), .val (.ref b4_15), .val (.ref b4_38), .val (.int (3 : Int32)), .val (.int (0 : Int32))] [(.int (1 : Int32)), (.ref b71)])) rfl (by rw [hml]; rfl) (Steps.refl _) (argsL := [(.int (1 : Int32))]) (rest := []) (lenOf own_pd17 rfl) rfl (by show 2 * 0 + _ ≤ _; exact Nat.le_of_eq rfl) (hb hby at_273) (fun _ _ => ⟨rfl, e294, (by decide : 10 + 0 ≤ _), (by decide : 52 + 0 ≤ _)⟩)
      dsimp only [Pt.U, Pt.locs, Pt.cells, Pt.slots] at X296 l296 y296 z296 st296 hQ296
      subst y296 z296
      obtain ⟨rfl, N296q, e296⟩ := hQ296
      have N297 : Fr n0 L296 := by rw [l296]; exact Fr.app N295 N296q
      obtain ⟨cq298, kq298, q298a, q298b, q298c⟩ := isOf hZ e296 f248
      obtain ⟨_, _, ⟨T298, L298, k298, n298⟩, -, X298, ⟨Lc298, hQ298, l298, y298, z298⟩, st298⟩ := X296.virtualBack hx (y := (⟨"java/lang/String", "equals", "(Ljava/lang/Object;)Z"⟩ : MethodName)) (z := (⟨"java/lang/String", "equals", "(Ljava/lang/Object;)Z"⟩ : MethodName)) hown (mvT hZ (hw _ (List.mem_of_getElem? (i := 112) rfl))) (mvT hZ (hw _ (List.mem_of_getElem? (i := 113) rfl))) (notFace_of_selects (args := #[]) (mvT hZ (hw _ (List.mem_of_getElem? (i := 115) rfl)))) (mvT hZ (hw _ (List.mem_of_getElem? (i := 115) rfl))) (mvT hZ (hw _ (List.mem_of_getElem? (i := 114) rfl))) (by decide) (backOf (W := 0) (own_rm19s l Z a0 hw [] b4_15 T235.heap n0 zs268 ) hZ (hw _ (List.mem_of_getElem? (i := 116) rfl)) (hw _ (List.mem_of_getElem? (i := 2) rfl)) (by decide) (by decide)) q298a q298c (g := (mkF m 278 #[.val (.int p0), .val (.int p1), .val (.int p2), .val (.ref b4_1), .val (.ref b4_15), .val (.ref b4_38), .val (.ref b71), .val (.int (0 : Int32)), .val (.int (1 : Int32)), .val (.int (2 : Int32)), .val (.ref b4_15), .val (.ref b4_38), .val (.int (3 : Int32)), .val (.int (0 : Int32))] [(.ref b4_15), (.ref b4_15)])) rfl (by rw [hml]; rfl) (Steps.refl _) (argsL := [(.ref b4_15)]) (rest := []) (lenOf own_pd10 rfl) rfl (by show 2 * 0 + _ ≤ _; exact Nat.le_of_eq rfl) (hb hby at_278) (fun _ _ => ⟨rfl, e296, (by decide : 10 + 0 ≤ _), (by decide : 52 + 0 ≤ _)⟩)
      dsimp only [Pt.U, Pt.locs, Pt.cells, Pt.slots] at X298 l298 y298 z298 st298 hQ298
      subst y298 z298
      obtain ⟨rfl, N298q, e298⟩ := hQ298
      have N299 : Fr n0 L298 := by rw [l298]; exact Fr.app N297 N298q
      obtain ⟨cq300, kq300, q300a, q300b, q300c⟩ := isOf hZ e298 f236
      obtain ⟨_, _, ⟨T300, L300, k300, n300⟩, -, X300, ⟨Lc300, hQ300, l300, y300, z300⟩, st300⟩ := X298.virtualBack hx (y := (⟨"com/example/nestor/nestor/IdTable", "id", "(I)Ljava/lang/String;"⟩ : MethodName)) (z := (⟨"com/example/nestor/nestor/IdTable", "id", "(I)Ljava/lang/String;"⟩ : MethodName)) hown (mvT hZ (hw _ (List.mem_of_getElem? (i := 125) rfl))) (mvT hZ (hw _ (List.mem_of_getElem? (i := 126) rfl))) (notFace_of_selects (args := #[]) (mvT hZ (hw _ (List.mem_of_getElem? (i := 128) rfl)))) (mvT hZ (hw _ (List.mem_of_getElem? (i := 128) rfl))) (mvT hZ (hw _ (List.mem_of_getElem? (i := 127) rfl))) (by decide) (backOf (W := 0) (own_rm22n3k2 l Z a0 hw [] b71 b2_103 k2_103 b4_1 b4_15 b4_38 T235.heap n0 zs268 f241 f239 Ov115 f240) hZ (hw _ (List.mem_of_getElem? (i := 129) rfl)) (hw _ (List.mem_of_getElem? (i := 28) rfl)) (by decide) (by decide)) q300a q300c (g := (mkF m 288 #[.val (.int p0), .val (.int p1), .val (.int p2), .val (.ref b4_1), .val (.ref b4_15), .val (.ref b4_38), .val (.ref b71), .val (.int (0 : Int32)), .val (.int (1 : Int32)), .val (.int (2 : Int32)), .val (.ref b4_15), .val (.ref b4_38), .val (.int (3 : Int32)), .val (.int (0 : Int32))] [(.int (2 : Int32)), (.ref b71)])) rfl (by rw [hml]; rfl) (Steps.refl _) (argsL := [(.int (2 : Int32))]) (rest := []) (lenOf own_pd17 rfl) rfl (by show 2 * 0 + _ ≤ _; exact Nat.le_of_eq rfl) (hb hby at_288) (fun _ _ => ⟨rfl, e298, (by decide : 10 + 0 ≤ _), (by decide : 52 + 0 ≤ _)⟩)
      dsimp only [Pt.U, Pt.locs, Pt.cells, Pt.slots] at X300 l300 y300 z300 st300 hQ300
      subst y300 z300
      obtain ⟨rfl, N300q, e300⟩ := hQ300
      have N301 : Fr n0 L300 := by rw [l300]; exact Fr.app N299 N300q
      obtain ⟨cq302, kq302, q302a, q302b, q302c⟩ := isOf hZ e300 f242
      obtain ⟨_, _, ⟨T302, L302, k302, n302⟩, -, X302, ⟨Lc302, hQ302, l302, y302, z302⟩, st302⟩ := X300.virtualBack hx (y := (⟨"java/lang/String", "equals", "(Ljava/lang/Object;)Z"⟩ : MethodName)) (z := (⟨"java/lang/String", "equals", "(Ljava/lang/Object;)Z"⟩ : MethodName)) hown (mvT hZ (hw _ (List.mem_of_getElem? (i := 112) rfl))) (mvT hZ (hw _ (List.mem_of_getElem? (i := 113) rfl))) (notFace_of_selects (args := #[]) (mvT hZ (hw _ (List.mem_of_getElem? (i := 115) rfl)))) (mvT hZ (hw _ (List.mem_of_getElem? (i := 115) rfl))) (mvT hZ (hw _ (List.mem_of_getElem? (i := 114) rfl))) (by decide) (backOf (W := 0) (own_rm19s l Z a0 hw [] b4_38 T235.heap n0 zs268 ) hZ (hw _ (List.mem_of_getElem? (i := 116) rfl)) (hw _ (List.mem_of_getElem? (i := 2) rfl)) (by decide) (by decide)) q302a q302c (g := (mkF m 293 #[.val (.int p0), .val (.int p1), .val (.int p2), .val (.ref b4_1), .val (.ref b4_15), .val (.ref b4_38), .val (.ref b71), .val (.int (0 : Int32)), .val (.int (1 : Int32)), .val (.int (2 : Int32)), .val (.ref b4_15), .val (.ref b4_38), .val (.int (3 : Int32)), .val (.int (0 : Int32))] [(.ref b4_38), (.ref b4_38)])) rfl (by rw [hml]; rfl) (Steps.refl _) (argsL := [(.ref b4_38)]) (rest := []) (lenOf own_pd10 rfl) rfl (by show 2 * 0 + _ ≤ _; exact Nat.le_of_eq rfl) (hb hby at_293) (fun _ _ => ⟨rfl, e300, (by decide : 10 + 0 ≤ _), (by decide : 52 + 0 ≤ _)⟩)
      dsimp only [Pt.U, Pt.locs, Pt.cells, Pt.slots] at X302 l302 y302 z302 st302 hQ302
      subst y302 z302
      obtain ⟨rfl, N302q, e302⟩ := hQ302
      have N303 : Fr n0 L302 := by rw [l302]; exact Fr.app N301 N302q
      have pre304 : ∀ t, Steps p.tables e below (T302.setTop (mkF m 302 #[.val (.int p0), .val (.int p1), .val (.int p2), .val (.ref b4_1), .val (.ref b4_15), .val (.ref b4_38), .val (.ref b71), .val (.int (0 : Int32)), .val (.int (1 : Int32)), .val (.int (2 : Int32)), .val (.ref b4_15), .val (.ref b4_38), .val (.int (3 : Int32)), .val (.int (0 : Int32))] [(.int (1 : Int32))])) t → Steps p.tables e below (s₁.setTop (entryFrame m #[(.int p0), (.int p1), (.int p2)] maxLocals)) t := fun t k => pre233 t (by
          refine st235.trans ?_
          show Steps p.tables e below (T235.setTop (mkF m 65 #[.val (.int p0), .val (.int p1), .val (.int p2), .val (.ref b4_1), .val (.ref b4_15), .val (.ref b4_38), .val (.ref b71), .val (.int (0 : Int32)), .val (.int (1 : Int32)), .unset, .unset, .unset, .unset, .unset] [(.int (2 : Int32))])) _
          refine XS.istore X235.here hx rfl (hb hby at_65) rfl (l' := #[.val (.int p0), .val (.int p1), .val (.int p2), .val (.ref b4_1), .val (.ref b4_15), .val (.ref b4_38), .val (.ref b71), .val (.int (0 : Int32)), .val (.int (1 : Int32)), .val (.int (2 : Int32)), .unset, .unset, .unset, .unset]) rfl ?_
          refine XS.aconstNull X235.here hx rfl (hb hby at_67) ?_
          refine XS.astore X235.here hx rfl (hb hby at_68) rfl rfl (l' := #[.val (.int p0), .val (.int p1), .val (.int p2), .val (.ref b4_1), .val (.ref b4_15), .val (.ref b4_38), .val (.ref b71), .val (.int (0 : Int32)), .val (.int (1 : Int32)), .val (.int (2 : Int32)), .val .null, .unset, .unset, .unset]) rfl ?_
          refine XS.aconstNull X235.here hx rfl (hb hby at_70) ?_
          show Steps p.tables e below (T235.setTop (mkF m 71 #[.val (.int p0), .val (.int p1), .val (.int p2), .val (.ref b4_1), .val (.ref b4_15), .val (.ref b4_38), .val (.ref b71), .val (.int (0 : Int32)), .val (.int (1 : Int32)), .val (.int (2 : Int32)), .val .null, .unset, .unset, .unset] [.null])) _
          refine XS.astore X235.here hx rfl (hb hby at_71) rfl rfl (l' := #[.val (.int p0), .val (.int p1), .val (.int p2), .val (.ref b4_1), .val (.ref b4_15), .val (.ref b4_38), .val (.ref b71), .val (.int (0 : Int32)), .val (.int (1 : Int32)), .val (.int (2 : Int32)), .val .null, .val .null, .unset, .unset]) rfl ?_
          refine XS.iconst X235.here hx rfl (hb hby at_73) ?_
          refine XS.istore X235.here hx rfl (hb hby at_74) rfl (l' := #[.val (.int p0), .val (.int p1), .val (.int p2), .val (.ref b4_1), .val (.ref b4_15), .val (.ref b4_38), .val (.ref b71), .val (.int (0 : Int32)), .val (.int (1 : Int32)), .val (.int (2 : Int32)), .val .null, .val .null, .val (.int (1 : Int32)), .unset]) rfl ?_
          refine XS.aload X235.here hx rfl (hb hby at_76) rfl rfl ?_
          show Steps p.tables e below (T235.setTop (mkF m 78 #[.val (.int p0), .val (.int p1), .val (.int p2), .val (.ref b4_1), .val (.ref b4_15), .val (.ref b4_38), .val (.ref b71), .val (.int (0 : Int32)), .val (.int (1 : Int32)), .val (.int (2 : Int32)), .val .null, .val .null, .val (.int (1 : Int32)), .unset] [(.ref b4_15)])) _
          refine XS.aloadN X235.here hx rfl (hb hby at_78) rfl rfl ?_
          refine st271.trans ?_
          show Steps p.tables e below (T271.setTop (mkF m 82 #[.val (.int p0), .val (.int p1), .val (.int p2), .val (.ref b4_1), .val (.ref b4_15), .val (.ref b4_38), .val (.ref b71), .val (.int (0 : Int32)), .val (.int (1 : Int32)), .val (.int (2 : Int32)), .val .null, .val .null, .val (.int (1 : Int32)), .unset] [(.int (own_f19 (own_cb p1) (own_cb p0)))])) _
          refine XS.ifNo X271.here hx rfl (hb hby at_82) rfl ((if0 _ _).trans (teq (own_nes _ _ (own_ne1 _ _ hc197))).2) ?_
          refine XS.aload X271.here hx rfl (hb hby at_85) rfl rfl ?_
          refine XS.astore X271.here hx rfl (hb hby at_87) rfl rfl (l' := #[.val (.int p0), .val (.int p1), .val (.int p2), .val (.ref b4_1), .val (.ref b4_15), .val (.ref b4_38), .val (.ref b71), .val (.int (0 : Int32)), .val (.int (1 : Int32)), .val (.int (2 : Int32)), .val (.ref b4_15), .val .null, .val (.int (1 : Int32)), .unset]) rfl ?_
          refine XS.iconst X271.here hx rfl (hb hby at_89) ?_
          show Steps p.tables e below (T271.setTop (mkF m 90 #[.val (.int p0), .val (.int p1), .val (.int p2), .val (.ref b4_1), .val (.ref b4_15), .val (.ref b4_38), .val (.ref b71), .val (.int (0 : Int32)), .val (.int (1 : Int32)), .val (.int (2 : Int32)), .val (.ref b4_15), .val .null, .val (.int (1 : Int32)), .unset] [(.int (2 : Int32))])) _
          refine XS.istore X271.here hx rfl (hb hby at_90) rfl (l' := #[.val (.int p0), .val (.int p1), .val (.int p2), .val (.ref b4_1), .val (.ref b4_15), .val (.ref b4_38), .val (.ref b71), .val (.int (0 : Int32)), .val (.int (1 : Int32)), .val (.int (2 : Int32)), .val (.ref b4_15), .val .null, .val (.int (2 : Int32)), .unset]) rfl ?_
          refine XS.aload X271.here hx rfl (hb hby at_92) rfl rfl ?_
          refine XS.aloadN X271.here hx rfl (hb hby at_94) rfl rfl ?_
          refine st274.trans ?_
          show Steps p.tables e below (T274.setTop (mkF m 98 #[.val (.int p0), .val (.int p1), .val (.int p2), .val (.ref b4_1), .val (.ref b4_15), .val (.ref b4_38), .val (.ref b71), .val (.int (0 : Int32)), .val (.int (1 : Int32)), .val (.int (2 : Int32)), .val (.ref b4_15), .val .null, .val (.int (2 : Int32)), .unset] [(.int (own_f19 (own_cb p2) (own_cb p0)))])) _
          refine XS.ifNo X274.here hx rfl (hb hby at_98) rfl ((if0 _ _).trans (teq (own_nes _ _ (own_n20 _ _ _ (own_cby p0) (own_cby p1) hc197 hc234).1)).2) ?_
          refine XS.aload X274.here hx rfl (hb hby at_101) rfl rfl ?_
          refine XS.aload X274.here hx rfl (hb hby at_103) rfl rfl ?_
          refine st276.trans ?_
          show Steps p.tables e below (T276.setTop (mkF m 108 #[.val (.int p0), .val (.int p1), .val (.int p2), .val (.ref b4_1), .val (.ref b4_15), .val (.ref b4_38), .val (.ref b71), .val (.int (0 : Int32)), .val (.int (1 : Int32)), .val (.int (2 : Int32)), .val (.ref b4_15), .val .null, .val (.int (2 : Int32)), .unset] [(.int (own_f19 (own_cb p2) (own_cb p1)))])) _
          refine XS.ifYes X276.here hx rfl (pc0 := 108) (pc' := 115) rfl (hb hby at_108) rfl ((if0 _ _).trans (teq (own_nes _ _ (own_n20 _ _ _ (own_cby p0) (own_cby p1) hc197 hc234).2)).1) (by decide) (by decide) ?_
          refine XS.iconst X276.here hx rfl (hb hby at_115) ?_
          refine XS.istore X276.here hx rfl (hb hby at_116) rfl (l' := #[.val (.int p0), .val (.int p1), .val (.int p2), .val (.ref b4_1), .val (.ref b4_15), .val (.ref b4_38), .val (.ref b71), .val (.int (0 : Int32)), .val (.int (1 : Int32)), .val (.int (2 : Int32)), .val (.ref b4_15), .val .null, .val (.int (2 : Int32)), .val (.int (0 : Int32))]) rfl ?_
          refine XS.iload X276.here hx rfl (hb hby at_118) rfl ?_
          show Steps p.tables e below (T276.setTop (mkF m 120 #[.val (.int p0), .val (.int p1), .val (.int p2), .val (.ref b4_1), .val (.ref b4_15), .val (.ref b4_38), .val (.ref b71), .val (.int (0 : Int32)), .val (.int (1 : Int32)), .val (.int (2 : Int32)), .val (.ref b4_15), .val .null, .val (.int (2 : Int32)), .val (.int (0 : Int32))] [(.int (0 : Int32))])) _
          refine XS.ifNo X276.here hx rfl (hb hby at_120) rfl ((if0 _ _).trans (teq (by decide : (0 : Int32) = (0 : Int32))).2) ?_
          refine XS.iload X276.here hx rfl (hb hby at_123) rfl ?_
          refine XS.iconst X276.here hx rfl (hb hby at_125) ?_
          refine XS.icmpYes X276.here hx rfl (pc0 := 126) (pc' := 139) rfl (hb hby at_126) rfl (feq (by decide : ¬ ((2 : Int32) = (1 : Int32)))).2 (by decide) (by decide) ?_
          show Steps p.tables e below (T276.setTop (mkF m 139 #[.val (.int p0), .val (.int p1), .val (.int p2), .val (.ref b4_1), .val (.ref b4_15), .val (.ref b4_38), .val (.ref b71), .val (.int (0 : Int32)), .val (.int (1 : Int32)), .val (.int (2 : Int32)), .val (.ref b4_15), .val .null, .val (.int (2 : Int32)), .val (.int (0 : Int32))] [])) _
          refine XS.aload X276.here hx rfl (hb hby at_139) rfl rfl ?_
          refine XS.astore X276.here hx rfl (hb hby at_141) rfl rfl (l' := #[.val (.int p0), .val (.int p1), .val (.int p2), .val (.ref b4_1), .val (.ref b4_15), .val (.ref b4_38), .val (.ref b71), .val (.int (0 : Int32)), .val (.int (1 : Int32)), .val (.int (2 : Int32)), .val (.ref b4_15), .val (.ref b4_38), .val (.int (2 : Int32)), .val (.int (0 : Int32))]) rfl ?_
          refine XS.iconst X276.here hx rfl (hb hby at_143) ?_
          refine XS.istore X276.here hx rfl (hb hby at_144) rfl (l' := #[.val (.int p0), .val (.int p1), .val (.int p2), .val (.ref b4_1), .val (.ref b4_15), .val (.ref b4_38), .val (.ref b71), .val (.int (0 : Int32)), .val (.int (1 : Int32)), .val (.int (2 : Int32)), .val (.ref b4_15), .val (.ref b4_38), .val (.int (3 : Int32)), .val (.int (0 : Int32))]) rfl ?_
          show Steps p.tables e below (T276.setTop (mkF m 146 #[.val (.int p0), .val (.int p1), .val (.int p2), .val (.ref b4_1), .val (.ref b4_15), .val (.ref b4_38), .val (.ref b71), .val (.int (0 : Int32)), .val (.int (1 : Int32)), .val (.int (2 : Int32)), .val (.ref b4_15), .val (.ref b4_38), .val (.int (3 : Int32)), .val (.int (0 : Int32))] [])) _
          refine XS.aload X276.here hx rfl (hb hby at_146) rfl rfl ?_
          refine st278.trans ?_
          show Steps p.tables e below (T278.setTop (mkF m 151 #[.val (.int p0), .val (.int p1), .val (.int p2), .val (.ref b4_1), .val (.ref b4_15), .val (.ref b4_38), .val (.ref b71), .val (.int (0 : Int32)), .val (.int (1 : Int32)), .val (.int (2 : Int32)), .val (.ref b4_15), .val (.ref b4_38), .val (.int (3 : Int32)), .val (.int (0 : Int32))] [(.int (3 : Int32))])) _
          refine XS.iload X278.here hx rfl (hb hby at_151) rfl ?_
          refine XS.icmpYes X278.here hx rfl (pc0 := 153) (pc' := 158) rfl (hb hby at_153) rfl (teq (by decide : (3 : Int32) = (3 : Int32))).1 (by decide) (by decide) ?_
          refine XS.iload X278.here hx rfl (hb hby at_158) rfl ?_
          refine XS.ifNo X278.here hx rfl (hb hby at_160) rfl ((if0 _ _).trans (flt (by decide : ¬ ((0 : Int32) < (0 : Int32)))).1) ?_
          show Steps p.tables e below (T278.setTop (mkF m 163 #[.val (.int p0), .val (.int p1), .val (.int p2), .val (.ref b4_1), .val (.ref b4_15), .val (.ref b4_38), .val (.ref b71), .val (.int (0 : Int32)), .val (.int (1 : Int32)), .val (.int (2 : Int32)), .val (.ref b4_15), .val (.ref b4_38), .val (.int (3 : Int32)), .val (.int (0 : Int32))] [])) _
          refine XS.iload X278.here hx rfl (hb hby at_163) rfl ?_
          refine XS.iload X278.here hx rfl (hb hby at_165) rfl ?_
          refine XS.icmpNo X278.here hx rfl (hb hby at_167) rfl (tlt (by decide : (0 : Int32) < (3 : Int32))).2.1 ?_
          refine XS.iload X278.here hx rfl (hb hby at_170) rfl ?_
          show Steps p.tables e below (T278.setTop (mkF m 172 #[.val (.int p0), .val (.int p1), .val (.int p2), .val (.ref b4_1), .val (.ref b4_15), .val (.ref b4_38), .val (.ref b71), .val (.int (0 : Int32)), .val (.int (1 : Int32)), .val (.int (2 : Int32)), .val (.ref b4_15), .val (.ref b4_38), .val (.int (3 : Int32)), .val (.int (0 : Int32))] [(.int (1 : Int32))])) _
          refine XS.ifNo X278.here hx rfl (hb hby at_172) rfl ((if0 _ _).trans (flt (by decide : ¬ ((1 : Int32) < (0 : Int32)))).1) ?_
          refine XS.iload X278.here hx rfl (hb hby at_175) rfl ?_
          refine XS.iload X278.here hx rfl (hb hby at_177) rfl ?_
          refine XS.icmpNo X278.here hx rfl (hb hby at_179) rfl (tlt (by decide : (1 : Int32) < (3 : Int32))).2.1 ?_
          show Steps p.tables e below (T278.setTop (mkF m 182 #[.val (.int p0), .val (.int p1), .val (.int p2), .val (.ref b4_1), .val (.ref b4_15), .val (.ref b4_38), .val (.ref b71), .val (.int (0 : Int32)), .val (.int (1 : Int32)), .val (.int (2 : Int32)), .val (.ref b4_15), .val (.ref b4_38), .val (.int (3 : Int32)), .val (.int (0 : Int32))] [])) _
          refine XS.iload X278.here hx rfl (hb hby at_182) rfl ?_
          refine XS.ifNo X278.here hx rfl (hb hby at_184) rfl ((if0 _ _).trans (flt (by decide : ¬ ((2 : Int32) < (0 : Int32)))).1) ?_
          refine XS.iload X278.here hx rfl (hb hby at_187) rfl ?_
          refine XS.iload X278.here hx rfl (hb hby at_189) rfl ?_
          show Steps p.tables e below (T278.setTop (mkF m 191 #[.val (.int p0), .val (.int p1), .val (.int p2), .val (.ref b4_1), .val (.ref b4_15), .val (.ref b4_38), .val (.ref b71), .val (.int (0 : Int32)), .val (.int (1 : Int32)), .val (.int (2 : Int32)), .val (.ref b4_15), .val (.ref b4_38), .val (.int (3 : Int32)), .val (.int (0 : Int32))] [(.int (3 : Int32)), (.int (2 : Int32))])) _
          refine XS.icmpYes X278.here hx rfl (pc0 := 191) (pc' := 196) rfl (hb hby at_191) rfl (tlt (by decide : (2 : Int32) < (3 : Int32))).1 (by decide) (by decide) ?_
          refine XS.aload X278.here hx rfl (hb hby at_196) rfl rfl ?_
          refine XS.iconst X278.here hx rfl (hb hby at_198) ?_
          refine st280.trans ?_
          show Steps p.tables e below (T280.setTop (mkF m 202 #[.val (.int p0), .val (.int p1), .val (.int p2), .val (.ref b4_1), .val (.ref b4_15), .val (.ref b4_38), .val (.ref b71), .val (.int (0 : Int32)), .val (.int (1 : Int32)), .val (.int (2 : Int32)), .val (.ref b4_15), .val (.ref b4_38), .val (.int (3 : Int32)), .val (.int (0 : Int32))] [(.ref b4_1)])) _
          refine XS.aloadN X280.here hx rfl (hb hby at_202) rfl rfl ?_
          refine st282.trans ?_
          show Steps p.tables e below (T282.setTop (mkF m 206 #[.val (.int p0), .val (.int p1), .val (.int p2), .val (.ref b4_1), .val (.ref b4_15), .val (.ref b4_38), .val (.ref b71), .val (.int (0 : Int32)), .val (.int (1 : Int32)), .val (.int (2 : Int32)), .val (.ref b4_15), .val (.ref b4_38), .val (.int (3 : Int32)), .val (.int (0 : Int32))] [(.int (1 : Int32))])) _
          refine XS.ifYes X282.here hx rfl (pc0 := 206) (pc' := 211) rfl (hb hby at_206) rfl ((if0 _ _).trans (feq (by decide : ¬ ((1 : Int32) = (0 : Int32)))).2) (by decide) (by decide) ?_
          refine XS.iload X282.here hx rfl (hb hby at_211) rfl ?_
          refine XS.iconst X282.here hx rfl (hb hby at_213) ?_
          refine XS.icmpNo X282.here hx rfl (hb hby at_214) rfl (flt (by decide : ¬ ((3 : Int32) < (2 : Int32)))).1 ?_
          show Steps p.tables e below (T282.setTop (mkF m 217 #[.val (.int p0), .val (.int p1), .val (.int p2), .val (.ref b4_1), .val (.ref b4_15), .val (.ref b4_38), .val (.ref b71), .val (.int (0 : Int32)), .val (.int (1 : Int32)), .val (.int (2 : Int32)), .val (.ref b4_15), .val (.ref b4_38), .val (.int (3 : Int32)), .val (.int (0 : Int32))] [])) _
          refine XS.aload X282.here hx rfl (hb hby at_217) rfl rfl ?_
          refine XS.iconst X282.here hx rfl (hb hby at_219) ?_
          refine st284.trans ?_
          show Steps p.tables e below (T284.setTop (mkF m 223 #[.val (.int p0), .val (.int p1), .val (.int p2), .val (.ref b4_1), .val (.ref b4_15), .val (.ref b4_38), .val (.ref b71), .val (.int (0 : Int32)), .val (.int (1 : Int32)), .val (.int (2 : Int32)), .val (.ref b4_15), .val (.ref b4_38), .val (.int (3 : Int32)), .val (.int (0 : Int32))] [(.ref b4_15)])) _
          refine XS.aload X284.here hx rfl (hb hby at_223) rfl rfl ?_
          refine st286.trans ?_
          show Steps p.tables e below (T286.setTop (mkF m 228 #[.val (.int p0), .val (.int p1), .val (.int p2), .val (.ref b4_1), .val (.ref b4_15), .val (.ref b4_38), .val (.ref b71), .val (.int (0 : Int32)), .val (.int (1 : Int32)), .val (.int (2 : Int32)), .val (.ref b4_15), .val (.ref b4_38), .val (.int (3 : Int32)), .val (.int (0 : Int32))] [(.int (1 : Int32))])) _
          refine XS.ifYes X286.here hx rfl (pc0 := 228) (pc' := 233) rfl (hb hby at_228) rfl ((if0 _ _).trans (feq (by decide : ¬ ((1 : Int32) = (0 : Int32)))).2) (by decide) (by decide) ?_
          refine XS.iload X286.here hx rfl (hb hby at_233) rfl ?_
          refine XS.iconst X286.here hx rfl (hb hby at_235) ?_
          refine XS.icmpNo X286.here hx rfl (hb hby at_236) rfl (flt (by decide : ¬ ((3 : Int32) < (3 : Int32)))).1 ?_
          show Steps p.tables e below (T286.setTop (mkF m 239 #[.val (.int p0), .val (.int p1), .val (.int p2), .val (.ref b4_1), .val (.ref b4_15), .val (.ref b4_38), .val (.ref b71), .val (.int (0 : Int32)), .val (.int (1 : Int32)), .val (.int (2 : Int32)), .val (.ref b4_15), .val (.ref b4_38), .val (.int (3 : Int32)), .val (.int (0 : Int32))] [])) _
          refine XS.aload X286.here hx rfl (hb hby at_239) rfl rfl ?_
          refine XS.iconst X286.here hx rfl (hb hby at_241) ?_
          refine st288.trans ?_
          show Steps p.tables e below (T288.setTop (mkF m 245 #[.val (.int p0), .val (.int p1), .val (.int p2), .val (.ref b4_1), .val (.ref b4_15), .val (.ref b4_38), .val (.ref b71), .val (.int (0 : Int32)), .val (.int (1 : Int32)), .val (.int (2 : Int32)), .val (.ref b4_15), .val (.ref b4_38), .val (.int (3 : Int32)), .val (.int (0 : Int32))] [(.ref b4_38)])) _
          refine XS.aload X288.here hx rfl (hb hby at_245) rfl rfl ?_
          refine st290.trans ?_
          show Steps p.tables e below (T290.setTop (mkF m 250 #[.val (.int p0), .val (.int p1), .val (.int p2), .val (.ref b4_1), .val (.ref b4_15), .val (.ref b4_38), .val (.ref b71), .val (.int (0 : Int32)), .val (.int (1 : Int32)), .val (.int (2 : Int32)), .val (.ref b4_15), .val (.ref b4_38), .val (.int (3 : Int32)), .val (.int (0 : Int32))] [(.int (1 : Int32))])) _
          refine XS.ifYes X290.here hx rfl (pc0 := 250) (pc' := 255) rfl (hb hby at_250) rfl ((if0 _ _).trans (feq (by decide : ¬ ((1 : Int32) = (0 : Int32)))).2) (by decide) (by decide) ?_
          refine XS.aload X290.here hx rfl (hb hby at_255) rfl rfl ?_
          refine XS.iload X290.here hx rfl (hb hby at_257) rfl ?_
          refine st292.trans ?_
          show Steps p.tables e below (T292.setTop (mkF m 262 #[.val (.int p0), .val (.int p1), .val (.int p2), .val (.ref b4_1), .val (.ref b4_15), .val (.ref b4_38), .val (.ref b71), .val (.int (0 : Int32)), .val (.int (1 : Int32)), .val (.int (2 : Int32)), .val (.ref b4_15), .val (.ref b4_38), .val (.int (3 : Int32)), .val (.int (0 : Int32))] [(.ref b4_1)])) _
          refine XS.aloadN X292.here hx rfl (hb hby at_262) rfl rfl ?_
          refine st294.trans ?_
          show Steps p.tables e below (T294.setTop (mkF m 266 #[.val (.int p0), .val (.int p1), .val (.int p2), .val (.ref b4_1), .val (.ref b4_15), .val (.ref b4_38), .val (.ref b71), .val (.int (0 : Int32)), .val (.int (1 : Int32)), .val (.int (2 : Int32)), .val (.ref b4_15), .val (.ref b4_38), .val (.int (3 : Int32)), .val (.int (0 : Int32))] [(.int (1 : Int32))])) _
          refine XS.ifNo X294.here hx rfl (hb hby at_266) rfl ((if0 _ _).trans (feq (by decide : ¬ ((1 : Int32) = (0 : Int32)))).1) ?_
          refine XS.aload X294.here hx rfl (hb hby at_269) rfl rfl ?_
          refine XS.iload X294.here hx rfl (hb hby at_271) rfl ?_
          refine st296.trans ?_
          show Steps p.tables e below (T296.setTop (mkF m 276 #[.val (.int p0), .val (.int p1), .val (.int p2), .val (.ref b4_1), .val (.ref b4_15), .val (.ref b4_38), .val (.ref b71), .val (.int (0 : Int32)), .val (.int (1 : Int32)), .val (.int (2 : Int32)), .val (.ref b4_15), .val (.ref b4_38), .val (.int (3 : Int32)), .val (.int (0 : Int32))] [(.ref b4_15)])) _
          refine XS.aload X296.here hx rfl (hb hby at_276) rfl rfl ?_
          refine st298.trans ?_
          show Steps p.tables e below (T298.setTop (mkF m 281 #[.val (.int p0), .val (.int p1), .val (.int p2), .val (.ref b4_1), .val (.ref b4_15), .val (.ref b4_38), .val (.ref b71), .val (.int (0 : Int32)), .val (.int (1 : Int32)), .val (.int (2 : Int32)), .val (.ref b4_15), .val (.ref b4_38), .val (.int (3 : Int32)), .val (.int (0 : Int32))] [(.int (1 : Int32))])) _
          refine XS.ifNo X298.here hx rfl (hb hby at_281) rfl ((if0 _ _).trans (feq (by decide : ¬ ((1 : Int32) = (0 : Int32)))).1) ?_
          refine XS.aload X298.here hx rfl (hb hby at_284) rfl rfl ?_
          refine XS.iload X298.here hx rfl (hb hby at_286) rfl ?_
          refine st300.trans ?_
          show Steps p.tables e below (T300.setTop (mkF m 291 #[.val (.int p0), .val (.int p1), .val (.int p2), .val (.ref b4_1), .val (.ref b4_15), .val (.ref b4_38), .val (.ref b71), .val (.int (0 : Int32)), .val (.int (1 : Int32)), .val (.int (2 : Int32)), .val (.ref b4_15), .val (.ref b4_38), .val (.int (3 : Int32)), .val (.int (0 : Int32))] [(.ref b4_38)])) _
          refine XS.aload X300.here hx rfl (hb hby at_291) rfl rfl ?_
          refine st302.trans ?_
          show Steps p.tables e below (T302.setTop (mkF m 296 #[.val (.int p0), .val (.int p1), .val (.int p2), .val (.ref b4_1), .val (.ref b4_15), .val (.ref b4_38), .val (.ref b71), .val (.int (0 : Int32)), .val (.int (1 : Int32)), .val (.int (2 : Int32)), .val (.ref b4_15), .val (.ref b4_38), .val (.int (3 : Int32)), .val (.int (0 : Int32))] [(.int (1 : Int32))])) _
          refine XS.ifYes X302.here hx rfl (pc0 := 296) (pc' := 301) rfl (hb hby at_296) rfl ((if0 _ _).trans (feq (by decide : ¬ ((1 : Int32) = (0 : Int32)))).2) (by decide) (by decide) ?_
          refine XS.iconst X302.here hx rfl (hb hby at_301) ?_
          exact k)
      obtain ⟨fs, hr, hrun, hended, hW, hsame⟩ := X302.leave (v := some (.int (1 : Int32))) (fun h => by rw [Bd.returns] at h; cases h) (hlocks := hlk)
      refine ⟨_, _, pre304 _ ?_, hrun, hended, _, _, rfl, ?_, ⟨_, rfl⟩, hW, hsame.mono (by decide) (by decide)⟩
      · show Steps p.tables e below (T302.setTop (mkF m 302 #[.val (.int p0), .val (.int p1), .val (.int p2), .val (.ref b4_1), .val (.ref b4_15), .val (.ref b4_38), .val (.ref b71), .val (.int (0 : Int32)), .val (.int (1 : Int32)), .val (.int (2 : Int32)), .val (.ref b4_15), .val (.ref b4_38), .val (.int (3 : Int32)), .val (.int (0 : Int32))] [(.int (1 : Int32))])) _
        exact retN X302 hx (t := .boolean) Bd.returns (by simp) (hb hby at_302) hr
      · show own_Q0 Z p0 p1 p2 z_COMPACT_STRINGS h0 n0 _ T302.heap _; exact ⟨(by show some (Value.int _) = some (.int (own_f0 p0 p1 p2)); unfold own_f0; rw [if_pos hc197, if_pos hc234]), N303⟩
    · by_cases hc305 : own_f13t2 ((own_cb p2) &&& (255 : Int32)) (own_y0 (own_cb p0)) (own_y1 (own_cb p1) (own_y0 (own_cb p0)) (own_cb p0)) (own_cb p0) (own_cb p1) = (0 : Int32)
      · obtain ⟨cq306, kq306, q306a, q306b, q306c⟩ := isOf hZ rfl f199
        obtain ⟨_, _, ⟨T306, L306, k306, n306⟩, -, X306, ⟨Lc306, hQ306, l306, y306, z306⟩, st306⟩ := X198.virtualBack hx (y := (⟨"com/example/nestor/nestor/IdTable", "placeOf", "(Ljava/lang/String;)I"⟩ : MethodName)) (z := (⟨"com/example/nestor/nestor/IdTable", "placeOf", "(Ljava/lang/String;)I"⟩ : MethodName)) hown (mvT hZ (hw _ (List.mem_of_getElem? (i := 61) rfl))) (mvT hZ (hw _ (List.mem_of_getElem? (i := 62) rfl))) (notFace_of_selects (args := #[]) (mvT hZ (hw _ (List.mem_of_getElem? (i := 64) rfl)))) (mvT hZ (hw _ (List.mem_of_getElem? (i := 64) rfl))) (mvT hZ (hw _ (List.mem_of_getElem? (i := 63) rfl))) (by decide) (backOf (W := 0) (own_rm9t2f0 l Z a0 hw [] b71 b4_38 (own_y0 (own_cb p0)) (own_y1 (own_cb p1) (own_y0 (own_cb p0)) (own_cb p0)) k23_103 k2_103 k1_13_38 (own_cb p2) b4_1 b4_15 k1_13_1 (own_cb p0) k1_13_15 (own_cb p1) z_COMPACT_STRINGS b23_103 b2_103 b1_13_38 hq198_i0 zq198_i0 b1_13_1 hq198_o1 zq198_o1 b1_13_15 (0 : Int32) (0 : Int32) T198.heap n0 zs230 Ov115 HC (own_y0i _) (own_g1 _ _ _ (own_y0i _) hc197).2.1 (own_g1 _ _ _ (own_y0i _) hc197).2.2 (Nat.ne_of_lt lt24) (Nat.ne_of_gt lt47) (Nat.ne_of_gt lt49) (own_cby _) (own_cby _) ok216 (own_cby _) ok213 (own_ok0 _) hc305 f199 f217 P_B_java_lang_String_COMPACT_STRINGS f200 f201 f202 f203 f204 f220 f222 f221 f225 f208 f214 f215 f209 f210 f218 f205 f211 f212 f206 f207 f219 f223 f224 g_b4_38 g_b4_1 g_b4_15) hZ (hw _ (List.mem_of_getElem? (i := 65) rfl)) (hw _ (List.mem_of_getElem? (i := 28) rfl)) (by decide) (by decide)) q306a q306c (g := (mkF m 62 #[.val (.int p0), .val (.int p1), .val (.int p2), .val (.ref b4_1), .val (.ref b4_15), .val (.ref b4_38), .val (.ref b71), .val (.int (0 : Int32)), .val (.int (1 : Int32)), .unset, .unset, .unset, .unset, .unset] [(.ref b4_38), (.ref b71)])) rfl (by rw [hml]; rfl) (Steps.refl _) (argsL := [(.ref b4_38)]) (rest := []) (lenOf own_pd16 rfl) rfl (by show 2 * 0 + _ ≤ _; exact Nat.le_of_eq rfl) (hb hby at_62) (fun _ _ => ⟨rfl, rfl, (by decide : 10 + 0 ≤ _), (by decide : 52 + 0 ≤ _)⟩)
        dsimp only [Pt.U, Pt.locs, Pt.cells, Pt.slots] at X306 l306 y306 z306 st306 hQ306
        subst y306 z306
        obtain ⟨hq306_o1, zq306_o1, hq306_i0, zq306_i0, hq306_i1, zq306_i1, rfl, N306q, K306, f307, f308, f309, f310, f311, f312, f313, f314, f315, f316, f317, ok318, f319, f320, ok321, f322, f323, ok324⟩ := hQ306
        have f325 : Old Z n0 T306.heap := f217.keep K306 (allS g_b4_38 (allS g_b4_1 (allS g_b4_15 all0)))
        have f326 : Arv Z T306.heap b1_13_1 k1_13_1 .byte (1 : Int32) [(.int (own_cb p0))] (.int (0 : Int32)) := f218.keep K306 (ninS (Nat.ne_of_lt lt48) (ninS (Ne.symm ne9) (ninS (Nat.ne_of_lt lt25) nin0)))
        have f327 : Arv Z T306.heap b1_13_15 k1_13_15 .byte (1 : Int32) [(.int (own_cb p1))] (.int (0 : Int32)) := f219.keep K306 (ninS (Nat.ne_of_lt lt50) (ninS (Nat.ne_of_gt lt26) (ninS (Ne.symm ne23) nin0)))
        have f328 : Arv Z T306.heap b1_13_38 k1_13_38 .byte (1 : Int32) [(.int (own_cb p2))] (.int (0 : Int32)) := f225.keep K306 (ninS (Ne.symm ne46) (ninS (Nat.ne_of_gt lt51) (ninS (Nat.ne_of_gt lt53) nin0)))
        have f329 : Exa Z T306.heap b71 "com/example/nestor/nestor/IdTable" := f199.keep K306
        have f330 : Fld Z T306.heap b71 "com/example/nestor/nestor/IdTable" "ids" "[Ljava/lang/String;" (.ref b2_103) := f202.keep K306 (ninS (Nat.ne_of_gt lt76) (ninS (Nat.ne_of_gt lt72) (ninS (Nat.ne_of_gt lt74) nin0)))
        have f331 : Fld Z T306.heap b71 "com/example/nestor/nestor/IdTable" "slots" "[I" (.ref b23_103) := f200.keep K306 (ninS (Nat.ne_of_gt lt76) (ninS (Nat.ne_of_gt lt72) (ninS (Nat.ne_of_gt lt74) nin0)))
        have f332 : Fld Z T306.heap b71 "com/example/nestor/nestor/IdTable" "size" "I" (.int (2 : Int32)) := f204.keep K306 (ninS (Nat.ne_of_gt lt76) (ninS (Nat.ne_of_gt lt72) (ninS (Nat.ne_of_gt lt74) nin0)))
        have f333 : Arv Z T306.heap b2_103 k2_103 (.object "java/lang/String") (8 : Int32) [(.ref b4_1), (.ref b4_15), .null, .null, .null, .null, .null, .null] .null := f203.keep K306 (ninS (Nat.ne_of_gt lt123) (ninS (Nat.ne_of_gt lt119) (ninS (Nat.ne_of_gt lt121) nin0)))
        have f334 : Arv Z T306.heap b23_103 k23_103 .int (16 : Int32) (own_t2 (own_y0 (own_cb p0)) (own_y1 (own_cb p1) (own_y0 (own_cb p0)) (own_cb p0))) (.int (0 : Int32)) := f201.keep K306 (ninS (Nat.ne_of_gt lt130) (ninS (Nat.ne_of_gt lt126) (ninS (Nat.ne_of_gt lt128) nin0)))
        have f335 : Exa Z T306.heap b46_103 "java/util/TreeMap" := f226.keep K306
        have f336 : Fld Z T306.heap b46_103 "java/util/TreeMap" "size" "I" (.int (0 : Int32)) := f227.keep K306 (ninS (Nat.ne_of_gt lt137) (ninS (Nat.ne_of_gt lt133) (ninS (Nat.ne_of_gt lt135) nin0)))
        have f337 : Fld Z T306.heap b46_103 "java/util/TreeMap" "modCount" "I" (.int (0 : Int32)) := f228.keep K306 (ninS (Nat.ne_of_gt lt137) (ninS (Nat.ne_of_gt lt133) (ninS (Nat.ne_of_gt lt135) nin0)))
        have f338 : Fld Z T306.heap b46_103 "java/util/TreeMap" "comparator" "Ljava/util/Comparator;" .null := f229.keep K306 (ninS (Nat.ne_of_gt lt137) (ninS (Nat.ne_of_gt lt133) (ninS (Nat.ne_of_gt lt135) nin0)))
        have zs339 : n0 ≤ T306.heap.size := Nat.le_trans zs230 K306.1
        have K340 : Keep h0 T306.heap [] := K231.trans K306 (allS (Or.inr sz_b4_38) (allS (Or.inr sz_b4_1) (allS (Or.inr sz_b4_15) all0)))
        have N341 : Fr n0 L306 := by rw [l306]; exact Fr.app N232 N306q
        have f343 : Sta Z T306.heap "java/lang/String" "COMPACT_STRINGS" "Z" (.int z_COMPACT_STRINGS) := P_B_java_lang_String_COMPACT_STRINGS.ext f325.2
        obtain ⟨cq342, kq342, q342a, q342b, q342c⟩ := isOf hZ rfl f313
        obtain ⟨_, _, ⟨T342, L342, k342, n342⟩, -, X342, ⟨Lc342, hQ342, l342, y342, z342⟩, st342⟩ := X306.virtualBack hx (y := (⟨"java/lang/String", "equals", "(Ljava/lang/Object;)Z"⟩ : MethodName)) (z := (⟨"java/lang/String", "equals", "(Ljava/lang/Object;)Z"⟩ : MethodName)) hown (mvT hZ (hw _ (List.mem_of_getElem? (i := 112) rfl))) (mvT hZ (hw _ (List.mem_of_getElem? (i := 113) rfl))) (notFace_of_selects (args := #[]) (mvT hZ (hw _ (List.mem_of_getElem? (i := 115) rfl)))) (mvT hZ (hw _ (List.mem_of_getElem? (i := 115) rfl))) (mvT hZ (hw _ (List.mem_of_getElem? (i := 114) rfl))) (by decide) (backOf (W := 0) (own_rm19 l Z a0 hw [] b4_15 b4_1 z_COMPACT_STRINGS b1_13_15 b1_13_1 k1_13_15 (own_cb p1) k1_13_1 (own_cb p0) T306.heap n0 zs339 HC (Nat.ne_of_gt lt24) f314 f311 f310 f343 f315 f312 f327 f326) hZ (hw _ (List.mem_of_getElem? (i := 116) rfl)) (hw _ (List.mem_of_getElem? (i := 2) rfl)) (by decide) (by decide)) q342a q342c (g := (mkF m 79 #[.val (.int p0), .val (.int p1), .val (.int p2), .val (.ref b4_1), .val (.ref b4_15), .val (.ref b4_38), .val (.ref b71), .val (.int (0 : Int32)), .val (.int (1 : Int32)), .val (.int (0 : Int32)), .val .null, .val .null, .val (.int (1 : Int32)), .unset] [(.ref b4_1), (.ref b4_15)])) rfl (by rw [hml]; rfl) (Steps.refl _) (argsL := [(.ref b4_1)]) (rest := []) (lenOf own_pd10 rfl) rfl (by show 2 * 0 + _ ≤ _; exact Nat.le_of_eq rfl) (hb hby at_79) (fun _ _ => ⟨rfl, rfl, (by decide : 10 + 0 ≤ _), (by decide : 52 + 0 ≤ _)⟩)
        dsimp only [Pt.U, Pt.locs, Pt.cells, Pt.slots] at X342 l342 y342 z342 st342 hQ342
        subst y342 z342
        obtain ⟨rfl, N342q, e342⟩ := hQ342
        have N344 : Fr n0 L342 := by rw [l342]; exact Fr.app N341 N342q
        obtain ⟨cq345, kq345, q345a, q345b, q345c⟩ := isOf hZ e342 f307
        obtain ⟨_, _, ⟨T345, L345, k345, n345⟩, -, X345, ⟨Lc345, hQ345, l345, y345, z345⟩, st345⟩ := X342.virtualBack hx (y := (⟨"java/lang/String", "equals", "(Ljava/lang/Object;)Z"⟩ : MethodName)) (z := (⟨"java/lang/String", "equals", "(Ljava/lang/Object;)Z"⟩ : MethodName)) hown (mvT hZ (hw _ (List.mem_of_getElem? (i := 112) rfl))) (mvT hZ (hw _ (List.mem_of_getElem? (i := 113) rfl))) (notFace_of_selects (args := #[]) (mvT hZ (hw _ (List.mem_of_getElem? (i := 115) rfl)))) (mvT hZ (hw _ (List.mem_of_getElem? (i := 115) rfl))) (mvT hZ (hw _ (List.mem_of_getElem? (i := 114) rfl))) (by decide) (backOf (W := 0) (own_rm19 l Z a0 hw [] b4_38 b4_1 z_COMPACT_STRINGS b1_13_38 b1_13_1 k1_13_38 (own_cb p2) k1_13_1 (own_cb p0) T306.heap n0 zs339 HC (Nat.ne_of_gt lt47) f308 f311 f310 f343 f309 f312 f328 f326) hZ (hw _ (List.mem_of_getElem? (i := 116) rfl)) (hw _ (List.mem_of_getElem? (i := 2) rfl)) (by decide) (by decide)) q345a q345c (g := (mkF m 95 #[.val (.int p0), .val (.int p1), .val (.int p2), .val (.ref b4_1), .val (.ref b4_15), .val (.ref b4_38), .val (.ref b71), .val (.int (0 : Int32)), .val (.int (1 : Int32)), .val (.int (0 : Int32)), .val (.ref b4_15), .val .null, .val (.int (2 : Int32)), .unset] [(.ref b4_1), (.ref b4_38)])) rfl (by rw [hml]; rfl) (Steps.refl _) (argsL := [(.ref b4_1)]) (rest := []) (lenOf own_pd10 rfl) rfl (by show 2 * 0 + _ ≤ _; exact Nat.le_of_eq rfl) (hb hby at_95) (fun _ _ => ⟨rfl, e342, (by decide : 10 + 0 ≤ _), (by decide : 52 + 0 ≤ _)⟩)
        dsimp only [Pt.U, Pt.locs, Pt.cells, Pt.slots] at X345 l345 y345 z345 st345 hQ345
        subst y345 z345
        obtain ⟨rfl, N345q, e345⟩ := hQ345
        have N346 : Fr n0 L345 := by rw [l345]; exact Fr.app N344 N345q
        obtain ⟨cq347, kq347, q347a, q347b, q347c⟩ := isOf hZ e345 f329
        obtain ⟨_, _, ⟨T347, L347, k347, n347⟩, -, X347, ⟨Lc347, hQ347, l347, y347, z347⟩, st347⟩ := X345.virtualBack hx (y := (⟨"com/example/nestor/nestor/IdTable", "size", "()I"⟩ : MethodName)) (z := (⟨"com/example/nestor/nestor/IdTable", "size", "()I"⟩ : MethodName)) hown (mvT hZ (hw _ (List.mem_of_getElem? (i := 120) rfl))) (mvT hZ (hw _ (List.mem_of_getElem? (i := 121) rfl))) (notFace_of_selects (args := #[]) (mvT hZ (hw _ (List.mem_of_getElem? (i := 123) rfl)))) (mvT hZ (hw _ (List.mem_of_getElem? (i := 123) rfl))) (mvT hZ (hw _ (List.mem_of_getElem? (i := 122) rfl))) (by decide) (backOf (W := 0) (own_rm21 l Z a0 hw [] b71 (2 : Int32) T306.heap n0 zs339 f332) hZ (hw _ (List.mem_of_getElem? (i := 124) rfl)) (hw _ (List.mem_of_getElem? (i := 28) rfl)) (by decide) (by decide)) q347a q347c (g := (mkF m 148 #[.val (.int p0), .val (.int p1), .val (.int p2), .val (.ref b4_1), .val (.ref b4_15), .val (.ref b4_38), .val (.ref b71), .val (.int (0 : Int32)), .val (.int (1 : Int32)), .val (.int (0 : Int32)), .val (.ref b4_15), .val .null, .val (.int (2 : Int32)), .val (.int (1 : Int32))] [(.ref b71)])) rfl (by rw [hml]; rfl) (Steps.refl _) (argsL := []) (rest := []) (lenOf own_pd9 rfl) rfl (by show 2 * 0 + _ ≤ _; exact Nat.le_of_eq rfl) (hb hby at_148) (fun _ _ => ⟨rfl, e345, (by decide : 10 + 0 ≤ _), (by decide : 52 + 0 ≤ _)⟩)
        dsimp only [Pt.U, Pt.locs, Pt.cells, Pt.slots] at X347 l347 y347 z347 st347 hQ347
        subst y347 z347
        obtain ⟨rfl, N347q, e347⟩ := hQ347
        have N348 : Fr n0 L347 := by rw [l347]; exact Fr.app N346 N347q
        obtain ⟨cq349, kq349, q349a, q349b, q349c⟩ := isOf hZ e347 f329
        obtain ⟨_, _, ⟨T349, L349, k349, n349⟩, -, X349, ⟨Lc349, hQ349, l349, y349, z349⟩, st349⟩ := X347.virtualBack hx (y := (⟨"com/example/nestor/nestor/IdTable", "id", "(I)Ljava/lang/String;"⟩ : MethodName)) (z := (⟨"com/example/nestor/nestor/IdTable", "id", "(I)Ljava/lang/String;"⟩ : MethodName)) hown (mvT hZ (hw _ (List.mem_of_getElem? (i := 125) rfl))) (mvT hZ (hw _ (List.mem_of_getElem? (i := 126) rfl))) (notFace_of_selects (args := #[]) (mvT hZ (hw _ (List.mem_of_getElem? (i := 128) rfl)))) (mvT hZ (hw _ (List.mem_of_getElem? (i := 128) rfl))) (mvT hZ (hw _ (List.mem_of_getElem? (i := 127) rfl))) (by decide) (backOf (W := 0) (own_rm22n2k0 l Z a0 hw [] b71 b2_103 k2_103 b4_1 b4_15 T306.heap n0 zs339 f332 f330 Ov115 f333) hZ (hw _ (List.mem_of_getElem? (i := 129) rfl)) (hw _ (List.mem_of_getElem? (i := 28) rfl)) (by decide) (by decide)) q349a q349c (g := (mkF m 199 #[.val (.int p0), .val (.int p1), .val (.int p2), .val (.ref b4_1), .val (.ref b4_15), .val (.ref b4_38), .val (.ref b71), .val (.int (0 : Int32)), .val (.int (1 : Int32)), .val (.int (0 : Int32)), .val (.ref b4_15), .val .null, .val (.int (2 : Int32)), .val (.int (1 : Int32))] [(.int (0 : Int32)), (.ref b71)])) rfl (by rw [hml]; rfl) (Steps.refl _) (argsL := [(.int (0 : Int32))]) (rest := []) (lenOf own_pd17 rfl) rfl (by show 2 * 0 + _ ≤ _; exact Nat.le_of_eq rfl) (hb hby at_199) (fun _ _ => ⟨rfl, e347, (by decide : 10 + 0 ≤ _), (by decide : 52 + 0 ≤ _)⟩)
        dsimp only [Pt.U, Pt.locs, Pt.cells, Pt.slots] at X349 l349 y349 z349 st349 hQ349
        subst y349 z349
        obtain ⟨rfl, N349q, e349⟩ := hQ349
        have N350 : Fr n0 L349 := by rw [l349]; exact Fr.app N348 N349q
        obtain ⟨cq351, kq351, q351a, q351b, q351c⟩ := isOf hZ e349 f310
        obtain ⟨_, _, ⟨T351, L351, k351, n351⟩, -, X351, ⟨Lc351, hQ351, l351, y351, z351⟩, st351⟩ := X349.virtualBack hx (y := (⟨"java/lang/String", "equals", "(Ljava/lang/Object;)Z"⟩ : MethodName)) (z := (⟨"java/lang/String", "equals", "(Ljava/lang/Object;)Z"⟩ : MethodName)) hown (mvT hZ (hw _ (List.mem_of_getElem? (i := 112) rfl))) (mvT hZ (hw _ (List.mem_of_getElem? (i := 113) rfl))) (notFace_of_selects (args := #[]) (mvT hZ (hw _ (List.mem_of_getElem? (i := 115) rfl)))) (mvT hZ (hw _ (List.mem_of_getElem? (i := 115) rfl))) (mvT hZ (hw _ (List.mem_of_getElem? (i := 114) rfl))) (by decide) (backOf (W := 0) (own_rm19s l Z a0 hw [] b4_1 T306.heap n0 zs339 ) hZ (hw _ (List.mem_of_getElem? (i := 116) rfl)) (hw _ (List.mem_of_getElem? (i := 2) rfl)) (by decide) (by decide)) q351a q351c (g := (mkF m 203 #[.val (.int p0), .val (.int p1), .val (.int p2), .val (.ref b4_1), .val (.ref b4_15), .val (.ref b4_38), .val (.ref b71), .val (.int (0 : Int32)), .val (.int (1 : Int32)), .val (.int (0 : Int32)), .val (.ref b4_15), .val .null, .val (.int (2 : Int32)), .val (.int (1 : Int32))] [(.ref b4_1), (.ref b4_1)])) rfl (by rw [hml]; rfl) (Steps.refl _) (argsL := [(.ref b4_1)]) (rest := []) (lenOf own_pd10 rfl) rfl (by show 2 * 0 + _ ≤ _; exact Nat.le_of_eq rfl) (hb hby at_203) (fun _ _ => ⟨rfl, e349, (by decide : 10 + 0 ≤ _), (by decide : 52 + 0 ≤ _)⟩)
        dsimp only [Pt.U, Pt.locs, Pt.cells, Pt.slots] at X351 l351 y351 z351 st351 hQ351
        subst y351 z351
        obtain ⟨rfl, N351q, e351⟩ := hQ351
        have N352 : Fr n0 L351 := by rw [l351]; exact Fr.app N350 N351q
        obtain ⟨cq353, kq353, q353a, q353b, q353c⟩ := isOf hZ e351 f329
        obtain ⟨_, _, ⟨T353, L353, k353, n353⟩, -, X353, ⟨Lc353, hQ353, l353, y353, z353⟩, st353⟩ := X351.virtualBack hx (y := (⟨"com/example/nestor/nestor/IdTable", "id", "(I)Ljava/lang/String;"⟩ : MethodName)) (z := (⟨"com/example/nestor/nestor/IdTable", "id", "(I)Ljava/lang/String;"⟩ : MethodName)) hown (mvT hZ (hw _ (List.mem_of_getElem? (i := 125) rfl))) (mvT hZ (hw _ (List.mem_of_getElem? (i := 126) rfl))) (notFace_of_selects (args := #[]) (mvT hZ (hw _ (List.mem_of_getElem? (i := 128) rfl)))) (mvT hZ (hw _ (List.mem_of_getElem? (i := 128) rfl))) (mvT hZ (hw _ (List.mem_of_getElem? (i := 127) rfl))) (by decide) (backOf (W := 0) (own_rm22n2k1 l Z a0 hw [] b71 b2_103 k2_103 b4_1 b4_15 T306.heap n0 zs339 f332 f330 Ov115 f333) hZ (hw _ (List.mem_of_getElem? (i := 129) rfl)) (hw _ (List.mem_of_getElem? (i := 28) rfl)) (by decide) (by decide)) q353a q353c (g := (mkF m 220 #[.val (.int p0), .val (.int p1), .val (.int p2), .val (.ref b4_1), .val (.ref b4_15), .val (.ref b4_38), .val (.ref b71), .val (.int (0 : Int32)), .val (.int (1 : Int32)), .val (.int (0 : Int32)), .val (.ref b4_15), .val .null, .val (.int (2 : Int32)), .val (.int (1 : Int32))] [(.int (1 : Int32)), (.ref b71)])) rfl (by rw [hml]; rfl) (Steps.refl _) (argsL := [(.int (1 : Int32))]) (rest := []) (lenOf own_pd17 rfl) rfl (by show 2 * 0 + _ ≤ _; exact Nat.le_of_eq rfl) (hb hby at_220) (fun _ _ => ⟨rfl, e351, (by decide : 10 + 0 ≤ _), (by decide : 52 + 0 ≤ _)⟩)
        dsimp only [Pt.U, Pt.locs, Pt.cells, Pt.slots] at X353 l353 y353 z353 st353 hQ353
        subst y353 z353
        obtain ⟨rfl, N353q, e353⟩ := hQ353
        have N354 : Fr n0 L353 := by rw [l353]; exact Fr.app N352 N353q
        obtain ⟨cq355, kq355, q355a, q355b, q355c⟩ := isOf hZ e353 f313
        obtain ⟨_, _, ⟨T355, L355, k355, n355⟩, -, X355, ⟨Lc355, hQ355, l355, y355, z355⟩, st355⟩ := X353.virtualBack hx (y := (⟨"java/lang/String", "equals", "(Ljava/lang/Object;)Z"⟩ : MethodName)) (z := (⟨"java/lang/String", "equals", "(Ljava/lang/Object;)Z"⟩ : MethodName)) hown (mvT hZ (hw _ (List.mem_of_getElem? (i := 112) rfl))) (mvT hZ (hw _ (List.mem_of_getElem? (i := 113) rfl))) (notFace_of_selects (args := #[]) (mvT hZ (hw _ (List.mem_of_getElem? (i := 115) rfl)))) (mvT hZ (hw _ (List.mem_of_getElem? (i := 115) rfl))) (mvT hZ (hw _ (List.mem_of_getElem? (i := 114) rfl))) (by decide) (backOf (W := 0) (own_rm19s l Z a0 hw [] b4_15 T306.heap n0 zs339 ) hZ (hw _ (List.mem_of_getElem? (i := 116) rfl)) (hw _ (List.mem_of_getElem? (i := 2) rfl)) (by decide) (by decide)) q355a q355c (g := (mkF m 225 #[.val (.int p0), .val (.int p1), .val (.int p2), .val (.ref b4_1), .val (.ref b4_15), .val (.ref b4_38), .val (.ref b71), .val (.int (0 : Int32)), .val (.int (1 : Int32)), .val (.int (0 : Int32)), .val (.ref b4_15), .val .null, .val (.int (2 : Int32)), .val (.int (1 : Int32))] [(.ref b4_15), (.ref b4_15)])) rfl (by rw [hml]; rfl) (Steps.refl _) (argsL := [(.ref b4_15)]) (rest := []) (lenOf own_pd10 rfl) rfl (by show 2 * 0 + _ ≤ _; exact Nat.le_of_eq rfl) (hb hby at_225) (fun _ _ => ⟨rfl, e353, (by decide : 10 + 0 ≤ _), (by decide : 52 + 0 ≤ _)⟩)
        dsimp only [Pt.U, Pt.locs, Pt.cells, Pt.slots] at X355 l355 y355 z355 st355 hQ355
        subst y355 z355
        obtain ⟨rfl, N355q, e355⟩ := hQ355
        have N356 : Fr n0 L355 := by rw [l355]; exact Fr.app N354 N355q
        obtain ⟨cq357, kq357, q357a, q357b, q357c⟩ := isOf hZ e355 f329
        obtain ⟨_, _, ⟨T357, L357, k357, n357⟩, -, X357, ⟨Lc357, hQ357, l357, y357, z357⟩, st357⟩ := X355.virtualBack hx (y := (⟨"com/example/nestor/nestor/IdTable", "id", "(I)Ljava/lang/String;"⟩ : MethodName)) (z := (⟨"com/example/nestor/nestor/IdTable", "id", "(I)Ljava/lang/String;"⟩ : MethodName)) hown (mvT hZ (hw _ (List.mem_of_getElem? (i := 125) rfl))) (mvT hZ (hw _ (List.mem_of_getElem? (i := 126) rfl))) (notFace_of_selects (args := #[]) (mvT hZ (hw _ (List.mem_of_getElem? (i := 128) rfl)))) (mvT hZ (hw _ (List.mem_of_getElem? (i := 128) rfl))) (mvT hZ (hw _ (List.mem_of_getElem? (i := 127) rfl))) (by decide) (backOf (W := 0) (own_rm22n2k0 l Z a0 hw [] b71 b2_103 k2_103 b4_1 b4_15 T306.heap n0 zs339 f332 f330 Ov115 f333) hZ (hw _ (List.mem_of_getElem? (i := 129) rfl)) (hw _ (List.mem_of_getElem? (i := 28) rfl)) (by decide) (by decide)) q357a q357c (g := (mkF m 259 #[.val (.int p0), .val (.int p1), .val (.int p2), .val (.ref b4_1), .val (.ref b4_15), .val (.ref b4_38), .val (.ref b71), .val (.int (0 : Int32)), .val (.int (1 : Int32)), .val (.int (0 : Int32)), .val (.ref b4_15), .val .null, .val (.int (2 : Int32)), .val (.int (1 : Int32))] [(.int (0 : Int32)), (.ref b71)])) rfl (by rw [hml]; rfl) (Steps.refl _) (argsL := [(.int (0 : Int32))]) (rest := []) (lenOf own_pd17 rfl) rfl (by show 2 * 0 + _ ≤ _; exact Nat.le_of_eq rfl) (hb hby at_259) (fun _ _ => ⟨rfl, e355, (by decide : 10 + 0 ≤ _), (by decide : 52 + 0 ≤ _)⟩)
        dsimp only [Pt.U, Pt.locs, Pt.cells, Pt.slots] at X357 l357 y357 z357 st357 hQ357
        subst y357 z357
        obtain ⟨rfl, N357q, e357⟩ := hQ357
        have N358 : Fr n0 L357 := by rw [l357]; exact Fr.app N356 N357q
        obtain ⟨cq359, kq359, q359a, q359b, q359c⟩ := isOf hZ e357 f310
        obtain ⟨_, _, ⟨T359, L359, k359, n359⟩, -, X359, ⟨Lc359, hQ359, l359, y359, z359⟩, st359⟩ := X357.virtualBack hx (y := (⟨"java/lang/String", "equals", "(Ljava/lang/Object;)Z"⟩ : MethodName)) (z := (⟨"java/lang/String", "equals", "(Ljava/lang/Object;)Z"⟩ : MethodName)) hown (mvT hZ (hw _ (List.mem_of_getElem? (i := 112) rfl))) (mvT hZ (hw _ (List.mem_of_getElem? (i := 113) rfl))) (notFace_of_selects (args := #[]) (mvT hZ (hw _ (List.mem_of_getElem? (i := 115) rfl)))) (mvT hZ (hw _ (List.mem_of_getElem? (i := 115) rfl))) (mvT hZ (hw _ (List.mem_of_getElem? (i := 114) rfl))) (by decide) (backOf (W := 0) (own_rm19s l Z a0 hw [] b4_1 T306.heap n0 zs339 ) hZ (hw _ (List.mem_of_getElem? (i := 116) rfl)) (hw _ (List.mem_of_getElem? (i := 2) rfl)) (by decide) (by decide)) q359a q359c (g := (mkF m 263 #[.val (.int p0), .val (.int p1), .val (.int p2), .val (.ref b4_1), .val (.ref b4_15), .val (.ref b4_38), .val (.ref b71), .val (.int (0 : Int32)), .val (.int (1 : Int32)), .val (.int (0 : Int32)), .val (.ref b4_15), .val .null, .val (.int (2 : Int32)), .val (.int (1 : Int32))] [(.ref b4_1), (.ref b4_1)])) rfl (by rw [hml]; rfl) (Steps.refl _) (argsL := [(.ref b4_1)]) (rest := []) (lenOf own_pd10 rfl) rfl (by show 2 * 0 + _ ≤ _; exact Nat.le_of_eq rfl) (hb hby at_263) (fun _ _ => ⟨rfl, e357, (by decide : 10 + 0 ≤ _), (by decide : 52 + 0 ≤ _)⟩)
        dsimp only [Pt.U, Pt.locs, Pt.cells, Pt.slots] at X359 l359 y359 z359 st359 hQ359
        subst y359 z359
        obtain ⟨rfl, N359q, e359⟩ := hQ359
        have N360 : Fr n0 L359 := by rw [l359]; exact Fr.app N358 N359q
        obtain ⟨cq361, kq361, q361a, q361b, q361c⟩ := isOf hZ e359 f329
        obtain ⟨_, _, ⟨T361, L361, k361, n361⟩, -, X361, ⟨Lc361, hQ361, l361, y361, z361⟩, st361⟩ := X359.virtualBack hx (y := (⟨"com/example/nestor/nestor/IdTable", "id", "(I)Ljava/lang/String;"⟩ : MethodName)) (z := (⟨"com/example/nestor/nestor/IdTable", "id", "(I)Ljava/lang/String;"⟩ : MethodName)) hown (mvT hZ (hw _ (List.mem_of_getElem? (i := 125) rfl))) (mvT hZ (hw _ (List.mem_of_getElem? (i := 126) rfl))) (notFace_of_selects (args := #[]) (mvT hZ (hw _ (List.mem_of_getElem? (i := 128) rfl)))) (mvT hZ (hw _ (List.mem_of_getElem? (i := 128) rfl))) (mvT hZ (hw _ (List.mem_of_getElem? (i := 127) rfl))) (by decide) (backOf (W := 0) (own_rm22n2k1 l Z a0 hw [] b71 b2_103 k2_103 b4_1 b4_15 T306.heap n0 zs339 f332 f330 Ov115 f333) hZ (hw _ (List.mem_of_getElem? (i := 129) rfl)) (hw _ (List.mem_of_getElem? (i := 28) rfl)) (by decide) (by decide)) q361a q361c (g := (mkF m 273 #[.val (.int p0), .val (.int p1), .val (.int p2), .val (.ref b4_1), .val (.ref b4_15), .val (.ref b4_38), .val (.ref b71), .val (.int (0 : Int32)), .val (.int (1 : Int32)), .val (.int (0 : Int32)), .val (.ref b4_15), .val .null, .val (.int (2 : Int32)), .val (.int (1 : Int32))] [(.int (1 : Int32)), (.ref b71)])) rfl (by rw [hml]; rfl) (Steps.refl _) (argsL := [(.int (1 : Int32))]) (rest := []) (lenOf own_pd17 rfl) rfl (by show 2 * 0 + _ ≤ _; exact Nat.le_of_eq rfl) (hb hby at_273) (fun _ _ => ⟨rfl, e359, (by decide : 10 + 0 ≤ _), (by decide : 52 + 0 ≤ _)⟩)
        dsimp only [Pt.U, Pt.locs, Pt.cells, Pt.slots] at X361 l361 y361 z361 st361 hQ361
        subst y361 z361
        obtain ⟨rfl, N361q, e361⟩ := hQ361
        have N362 : Fr n0 L361 := by rw [l361]; exact Fr.app N360 N361q
        obtain ⟨cq363, kq363, q363a, q363b, q363c⟩ := isOf hZ e361 f313
        obtain ⟨_, _, ⟨T363, L363, k363, n363⟩, -, X363, ⟨Lc363, hQ363, l363, y363, z363⟩, st363⟩ := X361.virtualBack hx (y := (⟨"java/lang/String", "equals", "(Ljava/lang/Object;)Z"⟩ : MethodName)) (z := (⟨"java/lang/String", "equals", "(Ljava/lang/Object;)Z"⟩ : MethodName)) hown (mvT hZ (hw _ (List.mem_of_getElem? (i := 112) rfl))) (mvT hZ (hw _ (List.mem_of_getElem? (i := 113) rfl))) (notFace_of_selects (args := #[]) (mvT hZ (hw _ (List.mem_of_getElem? (i := 115) rfl)))) (mvT hZ (hw _ (List.mem_of_getElem? (i := 115) rfl))) (mvT hZ (hw _ (List.mem_of_getElem? (i := 114) rfl))) (by decide) (backOf (W := 0) (own_rm19s l Z a0 hw [] b4_15 T306.heap n0 zs339 ) hZ (hw _ (List.mem_of_getElem? (i := 116) rfl)) (hw _ (List.mem_of_getElem? (i := 2) rfl)) (by decide) (by decide)) q363a q363c (g := (mkF m 278 #[.val (.int p0), .val (.int p1), .val (.int p2), .val (.ref b4_1), .val (.ref b4_15), .val (.ref b4_38), .val (.ref b71), .val (.int (0 : Int32)), .val (.int (1 : Int32)), .val (.int (0 : Int32)), .val (.ref b4_15), .val .null, .val (.int (2 : Int32)), .val (.int (1 : Int32))] [(.ref b4_15), (.ref b4_15)])) rfl (by rw [hml]; rfl) (Steps.refl _) (argsL := [(.ref b4_15)]) (rest := []) (lenOf own_pd10 rfl) rfl (by show 2 * 0 + _ ≤ _; exact Nat.le_of_eq rfl) (hb hby at_278) (fun _ _ => ⟨rfl, e361, (by decide : 10 + 0 ≤ _), (by decide : 52 + 0 ≤ _)⟩)
        dsimp only [Pt.U, Pt.locs, Pt.cells, Pt.slots] at X363 l363 y363 z363 st363 hQ363
        subst y363 z363
        obtain ⟨rfl, N363q, e363⟩ := hQ363
        have N364 : Fr n0 L363 := by rw [l363]; exact Fr.app N362 N363q
        obtain ⟨cq365, kq365, q365a, q365b, q365c⟩ := isOf hZ e363 f329
        obtain ⟨_, _, ⟨T365, L365, k365, n365⟩, -, X365, ⟨Lc365, hQ365, l365, y365, z365⟩, st365⟩ := X363.virtualBack hx (y := (⟨"com/example/nestor/nestor/IdTable", "id", "(I)Ljava/lang/String;"⟩ : MethodName)) (z := (⟨"com/example/nestor/nestor/IdTable", "id", "(I)Ljava/lang/String;"⟩ : MethodName)) hown (mvT hZ (hw _ (List.mem_of_getElem? (i := 125) rfl))) (mvT hZ (hw _ (List.mem_of_getElem? (i := 126) rfl))) (notFace_of_selects (args := #[]) (mvT hZ (hw _ (List.mem_of_getElem? (i := 128) rfl)))) (mvT hZ (hw _ (List.mem_of_getElem? (i := 128) rfl))) (mvT hZ (hw _ (List.mem_of_getElem? (i := 127) rfl))) (by decide) (backOf (W := 0) (own_rm22n2k0 l Z a0 hw [] b71 b2_103 k2_103 b4_1 b4_15 T306.heap n0 zs339 f332 f330 Ov115 f333) hZ (hw _ (List.mem_of_getElem? (i := 129) rfl)) (hw _ (List.mem_of_getElem? (i := 28) rfl)) (by decide) (by decide)) q365a q365c (g := (mkF m 288 #[.val (.int p0), .val (.int p1), .val (.int p2), .val (.ref b4_1), .val (.ref b4_15), .val (.ref b4_38), .val (.ref b71), .val (.int (0 : Int32)), .val (.int (1 : Int32)), .val (.int (0 : Int32)), .val (.ref b4_15), .val .null, .val (.int (2 : Int32)), .val (.int (1 : Int32))] [(.int (0 : Int32)), (.ref b71)])) rfl (by rw [hml]; rfl) (Steps.refl _) (argsL := [(.int (0 : Int32))]) (rest := []) (lenOf own_pd17 rfl) rfl (by show 2 * 0 + _ ≤ _; exact Nat.le_of_eq rfl) (hb hby at_288) (fun _ _ => ⟨rfl, e363, (by decide : 10 + 0 ≤ _), (by decide : 52 + 0 ≤ _)⟩)
        dsimp only [Pt.U, Pt.locs, Pt.cells, Pt.slots] at X365 l365 y365 z365 st365 hQ365
        subst y365 z365
        obtain ⟨rfl, N365q, e365⟩ := hQ365
        have N366 : Fr n0 L365 := by rw [l365]; exact Fr.app N364 N365q
        obtain ⟨cq367, kq367, q367a, q367b, q367c⟩ := isOf hZ e365 f310
        obtain ⟨_, _, ⟨T367, L367, k367, n367⟩, -, X367, ⟨Lc367, hQ367, l367, y367, z367⟩, st367⟩ := X365.virtualBack hx (y := (⟨"java/lang/String", "equals", "(Ljava/lang/Object;)Z"⟩ : MethodName)) (z := (⟨"java/lang/String", "equals", "(Ljava/lang/Object;)Z"⟩ : MethodName)) hown (mvT hZ (hw _ (List.mem_of_getElem? (i := 112) rfl))) (mvT hZ (hw _ (List.mem_of_getElem? (i := 113) rfl))) (notFace_of_selects (args := #[]) (mvT hZ (hw _ (List.mem_of_getElem? (i := 115) rfl)))) (mvT hZ (hw _ (List.mem_of_getElem? (i := 115) rfl))) (mvT hZ (hw _ (List.mem_of_getElem? (i := 114) rfl))) (by decide) (backOf (W := 0) (own_rm19 l Z a0 hw [] b4_1 b4_38 z_COMPACT_STRINGS b1_13_1 b1_13_38 k1_13_1 (own_cb p0) k1_13_38 (own_cb p2) T306.heap n0 zs339 HC (Nat.ne_of_lt lt47) f311 f308 f307 f343 f312 f309 f326 f328) hZ (hw _ (List.mem_of_getElem? (i := 116) rfl)) (hw _ (List.mem_of_getElem? (i := 2) rfl)) (by decide) (by decide)) q367a q367c (g := (mkF m 293 #[.val (.int p0), .val (.int p1), .val (.int p2), .val (.ref b4_1), .val (.ref b4_15), .val (.ref b4_38), .val (.ref b71), .val (.int (0 : Int32)), .val (.int (1 : Int32)), .val (.int (0 : Int32)), .val (.ref b4_15), .val .null, .val (.int (2 : Int32)), .val (.int (1 : Int32))] [(.ref b4_38), (.ref b4_1)])) rfl (by rw [hml]; rfl) (Steps.refl _) (argsL := [(.ref b4_38)]) (rest := []) (lenOf own_pd10 rfl) rfl (by show 2 * 0 + _ ≤ _; exact Nat.le_of_eq rfl) (hb hby at_293) (fun _ _ => ⟨rfl, e365, (by decide : 10 + 0 ≤ _), (by decide : 52 + 0 ≤ _)⟩)
        dsimp only [Pt.U, Pt.locs, Pt.cells, Pt.slots] at X367 l367 y367 z367 st367 hQ367
        subst y367 z367
        obtain ⟨rfl, N367q, e367⟩ := hQ367
        have N368 : Fr n0 L367 := by rw [l367]; exact Fr.app N366 N367q
        have pre369 : ∀ t, Steps p.tables e below (T367.setTop (mkF m 302 #[.val (.int p0), .val (.int p1), .val (.int p2), .val (.ref b4_1), .val (.ref b4_15), .val (.ref b4_38), .val (.ref b71), .val (.int (0 : Int32)), .val (.int (1 : Int32)), .val (.int (0 : Int32)), .val (.ref b4_15), .val .null, .val (.int (2 : Int32)), .val (.int (1 : Int32))] [(.int (1 : Int32))])) t → Steps p.tables e below (s₁.setTop (entryFrame m #[(.int p0), (.int p1), (.int p2)] maxLocals)) t := fun t k => pre233 t (by
            refine st306.trans ?_
            show Steps p.tables e below (T306.setTop (mkF m 65 #[.val (.int p0), .val (.int p1), .val (.int p2), .val (.ref b4_1), .val (.ref b4_15), .val (.ref b4_38), .val (.ref b71), .val (.int (0 : Int32)), .val (.int (1 : Int32)), .unset, .unset, .unset, .unset, .unset] [(.int (0 : Int32))])) _
            refine XS.istore X306.here hx rfl (hb hby at_65) rfl (l' := #[.val (.int p0), .val (.int p1), .val (.int p2), .val (.ref b4_1), .val (.ref b4_15), .val (.ref b4_38), .val (.ref b71), .val (.int (0 : Int32)), .val (.int (1 : Int32)), .val (.int (0 : Int32)), .unset, .unset, .unset, .unset]) rfl ?_
            refine XS.aconstNull X306.here hx rfl (hb hby at_67) ?_
            refine XS.astore X306.here hx rfl (hb hby at_68) rfl rfl (l' := #[.val (.int p0), .val (.int p1), .val (.int p2), .val (.ref b4_1), .val (.ref b4_15), .val (.ref b4_38), .val (.ref b71), .val (.int (0 : Int32)), .val (.int (1 : Int32)), .val (.int (0 : Int32)), .val .null, .unset, .unset, .unset]) rfl ?_
            refine XS.aconstNull X306.here hx rfl (hb hby at_70) ?_
            show Steps p.tables e below (T306.setTop (mkF m 71 #[.val (.int p0), .val (.int p1), .val (.int p2), .val (.ref b4_1), .val (.ref b4_15), .val (.ref b4_38), .val (.ref b71), .val (.int (0 : Int32)), .val (.int (1 : Int32)), .val (.int (0 : Int32)), .val .null, .unset, .unset, .unset] [.null])) _
            refine XS.astore X306.here hx rfl (hb hby at_71) rfl rfl (l' := #[.val (.int p0), .val (.int p1), .val (.int p2), .val (.ref b4_1), .val (.ref b4_15), .val (.ref b4_38), .val (.ref b71), .val (.int (0 : Int32)), .val (.int (1 : Int32)), .val (.int (0 : Int32)), .val .null, .val .null, .unset, .unset]) rfl ?_
            refine XS.iconst X306.here hx rfl (hb hby at_73) ?_
            refine XS.istore X306.here hx rfl (hb hby at_74) rfl (l' := #[.val (.int p0), .val (.int p1), .val (.int p2), .val (.ref b4_1), .val (.ref b4_15), .val (.ref b4_38), .val (.ref b71), .val (.int (0 : Int32)), .val (.int (1 : Int32)), .val (.int (0 : Int32)), .val .null, .val .null, .val (.int (1 : Int32)), .unset]) rfl ?_
            refine XS.aload X306.here hx rfl (hb hby at_76) rfl rfl ?_
            show Steps p.tables e below (T306.setTop (mkF m 78 #[.val (.int p0), .val (.int p1), .val (.int p2), .val (.ref b4_1), .val (.ref b4_15), .val (.ref b4_38), .val (.ref b71), .val (.int (0 : Int32)), .val (.int (1 : Int32)), .val (.int (0 : Int32)), .val .null, .val .null, .val (.int (1 : Int32)), .unset] [(.ref b4_15)])) _
            refine XS.aloadN X306.here hx rfl (hb hby at_78) rfl rfl ?_
            refine st342.trans ?_
            show Steps p.tables e below (T342.setTop (mkF m 82 #[.val (.int p0), .val (.int p1), .val (.int p2), .val (.ref b4_1), .val (.ref b4_15), .val (.ref b4_38), .val (.ref b71), .val (.int (0 : Int32)), .val (.int (1 : Int32)), .val (.int (0 : Int32)), .val .null, .val .null, .val (.int (1 : Int32)), .unset] [(.int (own_f19 (own_cb p1) (own_cb p0)))])) _
            refine XS.ifNo X342.here hx rfl (hb hby at_82) rfl ((if0 _ _).trans (teq (own_nes _ _ (own_ne1 _ _ hc197))).2) ?_
            refine XS.aload X342.here hx rfl (hb hby at_85) rfl rfl ?_
            refine XS.astore X342.here hx rfl (hb hby at_87) rfl rfl (l' := #[.val (.int p0), .val (.int p1), .val (.int p2), .val (.ref b4_1), .val (.ref b4_15), .val (.ref b4_38), .val (.ref b71), .val (.int (0 : Int32)), .val (.int (1 : Int32)), .val (.int (0 : Int32)), .val (.ref b4_15), .val .null, .val (.int (1 : Int32)), .unset]) rfl ?_
            refine XS.iconst X342.here hx rfl (hb hby at_89) ?_
            show Steps p.tables e below (T342.setTop (mkF m 90 #[.val (.int p0), .val (.int p1), .val (.int p2), .val (.ref b4_1), .val (.ref b4_15), .val (.ref b4_38), .val (.ref b71), .val (.int (0 : Int32)), .val (.int (1 : Int32)), .val (.int (0 : Int32)), .val (.ref b4_15), .val .null, .val (.int (1 : Int32)), .unset] [(.int (2 : Int32))])) _
            refine XS.istore X342.here hx rfl (hb hby at_90) rfl (l' := #[.val (.int p0), .val (.int p1), .val (.int p2), .val (.ref b4_1), .val (.ref b4_15), .val (.ref b4_38), .val (.ref b71), .val (.int (0 : Int32)), .val (.int (1 : Int32)), .val (.int (0 : Int32)), .val (.ref b4_15), .val .null, .val (.int (2 : Int32)), .unset]) rfl ?_
            refine XS.aload X342.here hx rfl (hb hby at_92) rfl rfl ?_
            refine XS.aloadN X342.here hx rfl (hb hby at_94) rfl rfl ?_
            refine st345.trans ?_
            show Steps p.tables e below (T345.setTop (mkF m 98 #[.val (.int p0), .val (.int p1), .val (.int p2), .val (.ref b4_1), .val (.ref b4_15), .val (.ref b4_38), .val (.ref b71), .val (.int (0 : Int32)), .val (.int (1 : Int32)), .val (.int (0 : Int32)), .val (.ref b4_15), .val .null, .val (.int (2 : Int32)), .unset] [(.int (own_f19 (own_cb p2) (own_cb p0)))])) _
            refine XS.ifYes X345.here hx rfl (pc0 := 98) (pc' := 111) rfl (hb hby at_98) rfl ((if0 _ _).trans (feq (own_eqs _ _ (own_e20 _ _ (own_cb p1) _ _ (own_cby p2) (own_cby p0) hc305))).2) (by decide) (by decide) ?_
            refine XS.iconst X345.here hx rfl (hb hby at_111) ?_
            refine XS.goto X345.here hx rfl (pc0 := 112) (pc' := 116) rfl (hb hby at_112) (by decide) (by decide) ?_
            refine XS.istore X345.here hx rfl (hb hby at_116) rfl (l' := #[.val (.int p0), .val (.int p1), .val (.int p2), .val (.ref b4_1), .val (.ref b4_15), .val (.ref b4_38), .val (.ref b71), .val (.int (0 : Int32)), .val (.int (1 : Int32)), .val (.int (0 : Int32)), .val (.ref b4_15), .val .null, .val (.int (2 : Int32)), .val (.int (1 : Int32))]) rfl ?_
            show Steps p.tables e below (T345.setTop (mkF m 118 #[.val (.int p0), .val (.int p1), .val (.int p2), .val (.ref b4_1), .val (.ref b4_15), .val (.ref b4_38), .val (.ref b71), .val (.int (0 : Int32)), .val (.int (1 : Int32)), .val (.int (0 : Int32)), .val (.ref b4_15), .val .null, .val (.int (2 : Int32)), .val (.int (1 : Int32))] [])) _
            refine XS.iload X345.here hx rfl (hb hby at_118) rfl ?_
            refine XS.ifYes X345.here hx rfl (pc0 := 120) (pc' := 146) rfl (hb hby at_120) rfl ((if0 _ _).trans (feq (by decide : ¬ ((1 : Int32) = (0 : Int32)))).2) (by decide) (by decide) ?_
            refine XS.aload X345.here hx rfl (hb hby at_146) rfl rfl ?_
            refine st347.trans ?_
            show Steps p.tables e below (T347.setTop (mkF m 151 #[.val (.int p0), .val (.int p1), .val (.int p2), .val (.ref b4_1), .val (.ref b4_15), .val (.ref b4_38), .val (.ref b71), .val (.int (0 : Int32)), .val (.int (1 : Int32)), .val (.int (0 : Int32)), .val (.ref b4_15), .val .null, .val (.int (2 : Int32)), .val (.int (1 : Int32))] [(.int (2 : Int32))])) _
            refine XS.iload X347.here hx rfl (hb hby at_151) rfl ?_
            refine XS.icmpYes X347.here hx rfl (pc0 := 153) (pc' := 158) rfl (hb hby at_153) rfl (teq (by decide : (2 : Int32) = (2 : Int32))).1 (by decide) (by decide) ?_
            refine XS.iload X347.here hx rfl (hb hby at_158) rfl ?_
            refine XS.ifNo X347.here hx rfl (hb hby at_160) rfl ((if0 _ _).trans (flt (by decide : ¬ ((0 : Int32) < (0 : Int32)))).1) ?_
            show Steps p.tables e below (T347.setTop (mkF m 163 #[.val (.int p0), .val (.int p1), .val (.int p2), .val (.ref b4_1), .val (.ref b4_15), .val (.ref b4_38), .val (.ref b71), .val (.int (0 : Int32)), .val (.int (1 : Int32)), .val (.int (0 : Int32)), .val (.ref b4_15), .val .null, .val (.int (2 : Int32)), .val (.int (1 : Int32))] [])) _
            refine XS.iload X347.here hx rfl (hb hby at_163) rfl ?_
            refine XS.iload X347.here hx rfl (hb hby at_165) rfl ?_
            refine XS.icmpNo X347.here hx rfl (hb hby at_167) rfl (tlt (by decide : (0 : Int32) < (2 : Int32))).2.1 ?_
            refine XS.iload X347.here hx rfl (hb hby at_170) rfl ?_
            show Steps p.tables e below (T347.setTop (mkF m 172 #[.val (.int p0), .val (.int p1), .val (.int p2), .val (.ref b4_1), .val (.ref b4_15), .val (.ref b4_38), .val (.ref b71), .val (.int (0 : Int32)), .val (.int (1 : Int32)), .val (.int (0 : Int32)), .val (.ref b4_15), .val .null, .val (.int (2 : Int32)), .val (.int (1 : Int32))] [(.int (1 : Int32))])) _
            refine XS.ifNo X347.here hx rfl (hb hby at_172) rfl ((if0 _ _).trans (flt (by decide : ¬ ((1 : Int32) < (0 : Int32)))).1) ?_
            refine XS.iload X347.here hx rfl (hb hby at_175) rfl ?_
            refine XS.iload X347.here hx rfl (hb hby at_177) rfl ?_
            refine XS.icmpNo X347.here hx rfl (hb hby at_179) rfl (tlt (by decide : (1 : Int32) < (2 : Int32))).2.1 ?_
            show Steps p.tables e below (T347.setTop (mkF m 182 #[.val (.int p0), .val (.int p1), .val (.int p2), .val (.ref b4_1), .val (.ref b4_15), .val (.ref b4_38), .val (.ref b71), .val (.int (0 : Int32)), .val (.int (1 : Int32)), .val (.int (0 : Int32)), .val (.ref b4_15), .val .null, .val (.int (2 : Int32)), .val (.int (1 : Int32))] [])) _
            refine XS.iload X347.here hx rfl (hb hby at_182) rfl ?_
            refine XS.ifNo X347.here hx rfl (hb hby at_184) rfl ((if0 _ _).trans (flt (by decide : ¬ ((0 : Int32) < (0 : Int32)))).1) ?_
            refine XS.iload X347.here hx rfl (hb hby at_187) rfl ?_
            refine XS.iload X347.here hx rfl (hb hby at_189) rfl ?_
            show Steps p.tables e below (T347.setTop (mkF m 191 #[.val (.int p0), .val (.int p1), .val (.int p2), .val (.ref b4_1), .val (.ref b4_15), .val (.ref b4_38), .val (.ref b71), .val (.int (0 : Int32)), .val (.int (1 : Int32)), .val (.int (0 : Int32)), .val (.ref b4_15), .val .null, .val (.int (2 : Int32)), .val (.int (1 : Int32))] [(.int (2 : Int32)), (.int (0 : Int32))])) _
            refine XS.icmpYes X347.here hx rfl (pc0 := 191) (pc' := 196) rfl (hb hby at_191) rfl (tlt (by decide : (0 : Int32) < (2 : Int32))).1 (by decide) (by decide) ?_
            refine XS.aload X347.here hx rfl (hb hby at_196) rfl rfl ?_
            refine XS.iconst X347.here hx rfl (hb hby at_198) ?_
            refine st349.trans ?_
            show Steps p.tables e below (T349.setTop (mkF m 202 #[.val (.int p0), .val (.int p1), .val (.int p2), .val (.ref b4_1), .val (.ref b4_15), .val (.ref b4_38), .val (.ref b71), .val (.int (0 : Int32)), .val (.int (1 : Int32)), .val (.int (0 : Int32)), .val (.ref b4_15), .val .null, .val (.int (2 : Int32)), .val (.int (1 : Int32))] [(.ref b4_1)])) _
            refine XS.aloadN X349.here hx rfl (hb hby at_202) rfl rfl ?_
            refine st351.trans ?_
            show Steps p.tables e below (T351.setTop (mkF m 206 #[.val (.int p0), .val (.int p1), .val (.int p2), .val (.ref b4_1), .val (.ref b4_15), .val (.ref b4_38), .val (.ref b71), .val (.int (0 : Int32)), .val (.int (1 : Int32)), .val (.int (0 : Int32)), .val (.ref b4_15), .val .null, .val (.int (2 : Int32)), .val (.int (1 : Int32))] [(.int (1 : Int32))])) _
            refine XS.ifYes X351.here hx rfl (pc0 := 206) (pc' := 211) rfl (hb hby at_206) rfl ((if0 _ _).trans (feq (by decide : ¬ ((1 : Int32) = (0 : Int32)))).2) (by decide) (by decide) ?_
            refine XS.iload X351.here hx rfl (hb hby at_211) rfl ?_
            refine XS.iconst X351.here hx rfl (hb hby at_213) ?_
            refine XS.icmpNo X351.here hx rfl (hb hby at_214) rfl (flt (by decide : ¬ ((2 : Int32) < (2 : Int32)))).1 ?_
            show Steps p.tables e below (T351.setTop (mkF m 217 #[.val (.int p0), .val (.int p1), .val (.int p2), .val (.ref b4_1), .val (.ref b4_15), .val (.ref b4_38), .val (.ref b71), .val (.int (0 : Int32)), .val (.int (1 : Int32)), .val (.int (0 : Int32)), .val (.ref b4_15), .val .null, .val (.int (2 : Int32)), .val (.int (1 : Int32))] [])) _
            refine XS.aload X351.here hx rfl (hb hby at_217) rfl rfl ?_
            refine XS.iconst X351.here hx rfl (hb hby at_219) ?_
            refine st353.trans ?_
            show Steps p.tables e below (T353.setTop (mkF m 223 #[.val (.int p0), .val (.int p1), .val (.int p2), .val (.ref b4_1), .val (.ref b4_15), .val (.ref b4_38), .val (.ref b71), .val (.int (0 : Int32)), .val (.int (1 : Int32)), .val (.int (0 : Int32)), .val (.ref b4_15), .val .null, .val (.int (2 : Int32)), .val (.int (1 : Int32))] [(.ref b4_15)])) _
            refine XS.aload X353.here hx rfl (hb hby at_223) rfl rfl ?_
            refine st355.trans ?_
            show Steps p.tables e below (T355.setTop (mkF m 228 #[.val (.int p0), .val (.int p1), .val (.int p2), .val (.ref b4_1), .val (.ref b4_15), .val (.ref b4_38), .val (.ref b71), .val (.int (0 : Int32)), .val (.int (1 : Int32)), .val (.int (0 : Int32)), .val (.ref b4_15), .val .null, .val (.int (2 : Int32)), .val (.int (1 : Int32))] [(.int (1 : Int32))])) _
            refine XS.ifYes X355.here hx rfl (pc0 := 228) (pc' := 233) rfl (hb hby at_228) rfl ((if0 _ _).trans (feq (by decide : ¬ ((1 : Int32) = (0 : Int32)))).2) (by decide) (by decide) ?_
            refine XS.iload X355.here hx rfl (hb hby at_233) rfl ?_
            refine XS.iconst X355.here hx rfl (hb hby at_235) ?_
            refine XS.icmpYes X355.here hx rfl (pc0 := 236) (pc' := 255) rfl (hb hby at_236) rfl (tlt (by decide : (2 : Int32) < (3 : Int32))).1 (by decide) (by decide) ?_
            show Steps p.tables e below (T355.setTop (mkF m 255 #[.val (.int p0), .val (.int p1), .val (.int p2), .val (.ref b4_1), .val (.ref b4_15), .val (.ref b4_38), .val (.ref b71), .val (.int (0 : Int32)), .val (.int (1 : Int32)), .val (.int (0 : Int32)), .val (.ref b4_15), .val .null, .val (.int (2 : Int32)), .val (.int (1 : Int32))] [])) _
            refine XS.aload X355.here hx rfl (hb hby at_255) rfl rfl ?_
            refine XS.iload X355.here hx rfl (hb hby at_257) rfl ?_
            refine st357.trans ?_
            show Steps p.tables e below (T357.setTop (mkF m 262 #[.val (.int p0), .val (.int p1), .val (.int p2), .val (.ref b4_1), .val (.ref b4_15), .val (.ref b4_38), .val (.ref b71), .val (.int (0 : Int32)), .val (.int (1 : Int32)), .val (.int (0 : Int32)), .val (.ref b4_15), .val .null, .val (.int (2 : Int32)), .val (.int (1 : Int32))] [(.ref b4_1)])) _
            refine XS.aloadN X357.here hx rfl (hb hby at_262) rfl rfl ?_
            refine st359.trans ?_
            show Steps p.tables e below (T359.setTop (mkF m 266 #[.val (.int p0), .val (.int p1), .val (.int p2), .val (.ref b4_1), .val (.ref b4_15), .val (.ref b4_38), .val (.ref b71), .val (.int (0 : Int32)), .val (.int (1 : Int32)), .val (.int (0 : Int32)), .val (.ref b4_15), .val .null, .val (.int (2 : Int32)), .val (.int (1 : Int32))] [(.int (1 : Int32))])) _
            refine XS.ifNo X359.here hx rfl (hb hby at_266) rfl ((if0 _ _).trans (feq (by decide : ¬ ((1 : Int32) = (0 : Int32)))).1) ?_
            refine XS.aload X359.here hx rfl (hb hby at_269) rfl rfl ?_
            refine XS.iload X359.here hx rfl (hb hby at_271) rfl ?_
            refine st361.trans ?_
            show Steps p.tables e below (T361.setTop (mkF m 276 #[.val (.int p0), .val (.int p1), .val (.int p2), .val (.ref b4_1), .val (.ref b4_15), .val (.ref b4_38), .val (.ref b71), .val (.int (0 : Int32)), .val (.int (1 : Int32)), .val (.int (0 : Int32)), .val (.ref b4_15), .val .null, .val (.int (2 : Int32)), .val (.int (1 : Int32))] [(.ref b4_15)])) _
            refine XS.aload X361.here hx rfl (hb hby at_276) rfl rfl ?_
            refine st363.trans ?_
            show Steps p.tables e below (T363.setTop (mkF m 281 #[.val (.int p0), .val (.int p1), .val (.int p2), .val (.ref b4_1), .val (.ref b4_15), .val (.ref b4_38), .val (.ref b71), .val (.int (0 : Int32)), .val (.int (1 : Int32)), .val (.int (0 : Int32)), .val (.ref b4_15), .val .null, .val (.int (2 : Int32)), .val (.int (1 : Int32))] [(.int (1 : Int32))])) _
            refine XS.ifNo X363.here hx rfl (hb hby at_281) rfl ((if0 _ _).trans (feq (by decide : ¬ ((1 : Int32) = (0 : Int32)))).1) ?_
            refine XS.aload X363.here hx rfl (hb hby at_284) rfl rfl ?_
            refine XS.iload X363.here hx rfl (hb hby at_286) rfl ?_
            refine st365.trans ?_
            show Steps p.tables e below (T365.setTop (mkF m 291 #[.val (.int p0), .val (.int p1), .val (.int p2), .val (.ref b4_1), .val (.ref b4_15), .val (.ref b4_38), .val (.ref b71), .val (.int (0 : Int32)), .val (.int (1 : Int32)), .val (.int (0 : Int32)), .val (.ref b4_15), .val .null, .val (.int (2 : Int32)), .val (.int (1 : Int32))] [(.ref b4_1)])) _
            refine XS.aload X365.here hx rfl (hb hby at_291) rfl rfl ?_
            refine st367.trans ?_
            show Steps p.tables e below (T367.setTop (mkF m 296 #[.val (.int p0), .val (.int p1), .val (.int p2), .val (.ref b4_1), .val (.ref b4_15), .val (.ref b4_38), .val (.ref b71), .val (.int (0 : Int32)), .val (.int (1 : Int32)), .val (.int (0 : Int32)), .val (.ref b4_15), .val .null, .val (.int (2 : Int32)), .val (.int (1 : Int32))] [(.int (own_f19 (own_cb p0) (own_cb p2)))])) _
            refine XS.ifYes X367.here hx rfl (pc0 := 296) (pc' := 301) rfl (hb hby at_296) rfl ((if0 _ _).trans (feq (own_eqs _ _ (Eq.symm (own_e20 _ _ (own_cb p1) _ _ (own_cby p2) (own_cby p0) hc305)))).2) (by decide) (by decide) ?_
            refine XS.iconst X367.here hx rfl (hb hby at_301) ?_
            exact k)
        obtain ⟨fs, hr, hrun, hended, hW, hsame⟩ := X367.leave (v := some (.int (1 : Int32))) (fun h => by rw [Bd.returns] at h; cases h) (hlocks := hlk)
        refine ⟨_, _, pre369 _ ?_, hrun, hended, _, _, rfl, ?_, ⟨_, rfl⟩, hW, hsame.mono (by decide) (by decide)⟩
        · show Steps p.tables e below (T367.setTop (mkF m 302 #[.val (.int p0), .val (.int p1), .val (.int p2), .val (.ref b4_1), .val (.ref b4_15), .val (.ref b4_38), .val (.ref b71), .val (.int (0 : Int32)), .val (.int (1 : Int32)), .val (.int (0 : Int32)), .val (.ref b4_15), .val .null, .val (.int (2 : Int32)), .val (.int (1 : Int32))] [(.int (1 : Int32))])) _
          exact retN X367 hx (t := .boolean) Bd.returns (by simp) (hb hby at_302) hr
        · show own_Q0 Z p0 p1 p2 z_COMPACT_STRINGS h0 n0 _ T367.heap _; exact ⟨(by show some (Value.int _) = some (.int (own_f0 p0 p1 p2)); unfold own_f0; rw [if_pos hc197, if_neg hc234, if_pos hc305]), N368⟩
      · obtain ⟨cq370, kq370, q370a, q370b, q370c⟩ := isOf hZ rfl f199
        obtain ⟨_, _, ⟨T370, L370, k370, n370⟩, -, X370, ⟨Lc370, hQ370, l370, y370, z370⟩, st370⟩ := X198.virtualBack hx (y := (⟨"com/example/nestor/nestor/IdTable", "placeOf", "(Ljava/lang/String;)I"⟩ : MethodName)) (z := (⟨"com/example/nestor/nestor/IdTable", "placeOf", "(Ljava/lang/String;)I"⟩ : MethodName)) hown (mvT hZ (hw _ (List.mem_of_getElem? (i := 61) rfl))) (mvT hZ (hw _ (List.mem_of_getElem? (i := 62) rfl))) (notFace_of_selects (args := #[]) (mvT hZ (hw _ (List.mem_of_getElem? (i := 64) rfl)))) (mvT hZ (hw _ (List.mem_of_getElem? (i := 64) rfl))) (mvT hZ (hw _ (List.mem_of_getElem? (i := 63) rfl))) (by decide) (backOf (W := 0) (own_rm9t2f1 l Z a0 hw [] b71 b4_38 (own_y0 (own_cb p0)) (own_y1 (own_cb p1) (own_y0 (own_cb p0)) (own_cb p0)) k23_103 k2_103 k1_13_38 (own_cb p2) b4_1 b4_15 k1_13_1 (own_cb p0) k1_13_15 (own_cb p1) z_COMPACT_STRINGS b23_103 b2_103 b1_13_38 hq198_i0 zq198_i0 b1_13_1 hq198_o1 zq198_o1 b1_13_15 (0 : Int32) (0 : Int32) T198.heap n0 zs230 Ov115 HC (own_y0i _) (own_g1 _ _ _ (own_y0i _) hc197).2.1 (own_g1 _ _ _ (own_y0i _) hc197).2.2 (Nat.ne_of_lt lt24) (Nat.ne_of_gt lt47) (Nat.ne_of_gt lt49) (own_cby _) (own_cby _) ok216 (own_cby _) ok213 (own_ok0 _) (own_c2 _ _ _ _ _ hc234 hc305) f199 f217 P_B_java_lang_String_COMPACT_STRINGS f200 f201 f202 f203 f204 f220 f222 f221 f225 f208 f214 f215 f209 f210 f218 f205 f211 f212 f206 f207 f219 f223 f224 g_b4_38 g_b4_1 g_b4_15) hZ (hw _ (List.mem_of_getElem? (i := 65) rfl)) (hw _ (List.mem_of_getElem? (i := 28) rfl)) (by decide) (by decide)) q370a q370c (g := (mkF m 62 #[.val (.int p0), .val (.int p1), .val (.int p2), .val (.ref b4_1), .val (.ref b4_15), .val (.ref b4_38), .val (.ref b71), .val (.int (0 : Int32)), .val (.int (1 : Int32)), .unset, .unset, .unset, .unset, .unset] [(.ref b4_38), (.ref b71)])) rfl (by rw [hml]; rfl) (Steps.refl _) (argsL := [(.ref b4_38)]) (rest := []) (lenOf own_pd16 rfl) rfl (by show 2 * 0 + _ ≤ _; exact Nat.le_of_eq rfl) (hb hby at_62) (fun _ _ => ⟨rfl, rfl, (by decide : 10 + 0 ≤ _), (by decide : 52 + 0 ≤ _)⟩)
        dsimp only [Pt.U, Pt.locs, Pt.cells, Pt.slots] at X370 l370 y370 z370 st370 hQ370
        subst y370 z370
        obtain ⟨hq370_o1, zq370_o1, hq370_i0, zq370_i0, hq370_i1, zq370_i1, rfl, N370q, K370, f371, f372, f373, f374, f375, f376, f377, f378, f379, f380, f381, ok382, f383, f384, ok385, f386, f387, ok388⟩ := hQ370
        have f389 : Old Z n0 T370.heap := f217.keep K370 (allS g_b4_38 (allS g_b4_1 (allS g_b4_15 all0)))
        have f390 : Arv Z T370.heap b1_13_1 k1_13_1 .byte (1 : Int32) [(.int (own_cb p0))] (.int (0 : Int32)) := f218.keep K370 (ninS (Nat.ne_of_lt lt48) (ninS (Ne.symm ne9) (ninS (Nat.ne_of_lt lt25) nin0)))
        have f391 : Arv Z T370.heap b1_13_15 k1_13_15 .byte (1 : Int32) [(.int (own_cb p1))] (.int (0 : Int32)) := f219.keep K370 (ninS (Nat.ne_of_lt lt50) (ninS (Nat.ne_of_gt lt26) (ninS (Ne.symm ne23) nin0)))
        have f392 : Arv Z T370.heap b1_13_38 k1_13_38 .byte (1 : Int32) [(.int (own_cb p2))] (.int (0 : Int32)) := f225.keep K370 (ninS (Ne.symm ne46) (ninS (Nat.ne_of_gt lt51) (ninS (Nat.ne_of_gt lt53) nin0)))
        have f393 : Exa Z T370.heap b71 "com/example/nestor/nestor/IdTable" := f199.keep K370
        have f394 : Fld Z T370.heap b71 "com/example/nestor/nestor/IdTable" "ids" "[Ljava/lang/String;" (.ref b2_103) := f202.keep K370 (ninS (Nat.ne_of_gt lt76) (ninS (Nat.ne_of_gt lt72) (ninS (Nat.ne_of_gt lt74) nin0)))
        have f395 : Fld Z T370.heap b71 "com/example/nestor/nestor/IdTable" "slots" "[I" (.ref b23_103) := f200.keep K370 (ninS (Nat.ne_of_gt lt76) (ninS (Nat.ne_of_gt lt72) (ninS (Nat.ne_of_gt lt74) nin0)))
        have f396 : Fld Z T370.heap b71 "com/example/nestor/nestor/IdTable" "size" "I" (.int (2 : Int32)) := f204.keep K370 (ninS (Nat.ne_of_gt lt76) (ninS (Nat.ne_of_gt lt72) (ninS (Nat.ne_of_gt lt74) nin0)))
        have f397 : Arv Z T370.heap b2_103 k2_103 (.object "java/lang/String") (8 : Int32) [(.ref b4_1), (.ref b4_15), .null, .null, .null, .null, .null, .null] .null := f203.keep K370 (ninS (Nat.ne_of_gt lt123) (ninS (Nat.ne_of_gt lt119) (ninS (Nat.ne_of_gt lt121) nin0)))
        have f398 : Arv Z T370.heap b23_103 k23_103 .int (16 : Int32) (own_t2 (own_y0 (own_cb p0)) (own_y1 (own_cb p1) (own_y0 (own_cb p0)) (own_cb p0))) (.int (0 : Int32)) := f201.keep K370 (ninS (Nat.ne_of_gt lt130) (ninS (Nat.ne_of_gt lt126) (ninS (Nat.ne_of_gt lt128) nin0)))
        have f399 : Exa Z T370.heap b46_103 "java/util/TreeMap" := f226.keep K370
        have f400 : Fld Z T370.heap b46_103 "java/util/TreeMap" "size" "I" (.int (0 : Int32)) := f227.keep K370 (ninS (Nat.ne_of_gt lt137) (ninS (Nat.ne_of_gt lt133) (ninS (Nat.ne_of_gt lt135) nin0)))
        have f401 : Fld Z T370.heap b46_103 "java/util/TreeMap" "modCount" "I" (.int (0 : Int32)) := f228.keep K370 (ninS (Nat.ne_of_gt lt137) (ninS (Nat.ne_of_gt lt133) (ninS (Nat.ne_of_gt lt135) nin0)))
        have f402 : Fld Z T370.heap b46_103 "java/util/TreeMap" "comparator" "Ljava/util/Comparator;" .null := f229.keep K370 (ninS (Nat.ne_of_gt lt137) (ninS (Nat.ne_of_gt lt133) (ninS (Nat.ne_of_gt lt135) nin0)))
        have zs403 : n0 ≤ T370.heap.size := Nat.le_trans zs230 K370.1
        have K404 : Keep h0 T370.heap [] := K231.trans K370 (allS (Or.inr sz_b4_38) (allS (Or.inr sz_b4_1) (allS (Or.inr sz_b4_15) all0)))
        have N405 : Fr n0 L370 := by rw [l370]; exact Fr.app N232 N370q
        have f407 : Sta Z T370.heap "java/lang/String" "COMPACT_STRINGS" "Z" (.int z_COMPACT_STRINGS) := P_B_java_lang_String_COMPACT_STRINGS.ext f389.2
        obtain ⟨cq406, kq406, q406a, q406b, q406c⟩ := isOf hZ rfl f377
        obtain ⟨_, _, ⟨T406, L406, k406, n406⟩, -, X406, ⟨Lc406, hQ406, l406, y406, z406⟩, st406⟩ := X370.virtualBack hx (y := (⟨"java/lang/String", "equals", "(Ljava/lang/Object;)Z"⟩ : MethodName)) (z := (⟨"java/lang/String", "equals", "(Ljava/lang/Object;)Z"⟩ : MethodName)) hown (mvT hZ (hw _ (List.mem_of_getElem? (i := 112) rfl))) (mvT hZ (hw _ (List.mem_of_getElem? (i := 113) rfl))) (notFace_of_selects (args := #[]) (mvT hZ (hw _ (List.mem_of_getElem? (i := 115) rfl)))) (mvT hZ (hw _ (List.mem_of_getElem? (i := 115) rfl))) (mvT hZ (hw _ (List.mem_of_getElem? (i := 114) rfl))) (by decide) (backOf (W := 0) (own_rm19 l Z a0 hw [] b4_15 b4_1 z_COMPACT_STRINGS b1_13_15 b1_13_1 k1_13_15 (own_cb p1) k1_13_1 (own_cb p0) T370.heap n0 zs403 HC (Nat.ne_of_gt lt24) f378 f375 f374 f407 f379 f376 f391 f390) hZ (hw _ (List.mem_of_getElem? (i := 116) rfl)) (hw _ (List.mem_of_getElem? (i := 2) rfl)) (by decide) (by decide)) q406a q406c (g := (mkF m 79 #[.val (.int p0), .val (.int p1), .val (.int p2), .val (.ref b4_1), .val (.ref b4_15), .val (.ref b4_38), .val (.ref b71), .val (.int (0 : Int32)), .val (.int (1 : Int32)), .val (.int (1 : Int32)), .val .null, .val .null, .val (.int (1 : Int32)), .unset] [(.ref b4_1), (.ref b4_15)])) rfl (by rw [hml]; rfl) (Steps.refl _) (argsL := [(.ref b4_1)]) (rest := []) (lenOf own_pd10 rfl) rfl (by show 2 * 0 + _ ≤ _; exact Nat.le_of_eq rfl) (hb hby at_79) (fun _ _ => ⟨rfl, rfl, (by decide : 10 + 0 ≤ _), (by decide : 52 + 0 ≤ _)⟩)
        dsimp only [Pt.U, Pt.locs, Pt.cells, Pt.slots] at X406 l406 y406 z406 st406 hQ406
        subst y406 z406
        obtain ⟨rfl, N406q, e406⟩ := hQ406
        have N408 : Fr n0 L406 := by rw [l406]; exact Fr.app N405 N406q
        obtain ⟨cq409, kq409, q409a, q409b, q409c⟩ := isOf hZ e406 f371
        obtain ⟨_, _, ⟨T409, L409, k409, n409⟩, -, X409, ⟨Lc409, hQ409, l409, y409, z409⟩, st409⟩ := X406.virtualBack hx (y := (⟨"java/lang/String", "equals", "(Ljava/lang/Object;)Z"⟩ : MethodName)) (z := (⟨"java/lang/String", "equals", "(Ljava/lang/Object;)Z"⟩ : MethodName)) hown (mvT hZ (hw _ (List.mem_of_getElem? (i := 112) rfl))) (mvT hZ (hw _ (List.mem_of_getElem? (i := 113) rfl))) (notFace_of_selects (args := #[]) (mvT hZ (hw _ (List.mem_of_getElem? (i := 115) rfl)))) (mvT hZ (hw _ (List.mem_of_getElem? (i := 115) rfl))) (mvT hZ (hw _ (List.mem_of_getElem? (i := 114) rfl))) (by decide) (backOf (W := 0) (own_rm19 l Z a0 hw [] b4_38 b4_1 z_COMPACT_STRINGS b1_13_38 b1_13_1 k1_13_38 (own_cb p2) k1_13_1 (own_cb p0) T370.heap n0 zs403 HC (Nat.ne_of_gt lt47) f372 f375 f374 f407 f373 f376 f392 f390) hZ (hw _ (List.mem_of_getElem? (i := 116) rfl)) (hw _ (List.mem_of_getElem? (i := 2) rfl)) (by decide) (by decide)) q409a q409c (g := (mkF m 95 #[.val (.int p0), .val (.int p1), .val (.int p2), .val (.ref b4_1), .val (.ref b4_15), .val (.ref b4_38), .val (.ref b71), .val (.int (0 : Int32)), .val (.int (1 : Int32)), .val (.int (1 : Int32)), .val (.ref b4_15), .val .null, .val (.int (2 : Int32)), .unset] [(.ref b4_1), (.ref b4_38)])) rfl (by rw [hml]; rfl) (Steps.refl _) (argsL := [(.ref b4_1)]) (rest := []) (lenOf own_pd10 rfl) rfl (by show 2 * 0 + _ ≤ _; exact Nat.le_of_eq rfl) (hb hby at_95) (fun _ _ => ⟨rfl, e406, (by decide : 10 + 0 ≤ _), (by decide : 52 + 0 ≤ _)⟩)
        dsimp only [Pt.U, Pt.locs, Pt.cells, Pt.slots] at X409 l409 y409 z409 st409 hQ409
        subst y409 z409
        obtain ⟨rfl, N409q, e409⟩ := hQ409
        have N410 : Fr n0 L409 := by rw [l409]; exact Fr.app N408 N409q
        obtain ⟨cq411, kq411, q411a, q411b, q411c⟩ := isOf hZ e409 f371
        obtain ⟨_, _, ⟨T411, L411, k411, n411⟩, -, X411, ⟨Lc411, hQ411, l411, y411, z411⟩, st411⟩ := X409.virtualBack hx (y := (⟨"java/lang/String", "equals", "(Ljava/lang/Object;)Z"⟩ : MethodName)) (z := (⟨"java/lang/String", "equals", "(Ljava/lang/Object;)Z"⟩ : MethodName)) hown (mvT hZ (hw _ (List.mem_of_getElem? (i := 112) rfl))) (mvT hZ (hw _ (List.mem_of_getElem? (i := 113) rfl))) (notFace_of_selects (args := #[]) (mvT hZ (hw _ (List.mem_of_getElem? (i := 115) rfl)))) (mvT hZ (hw _ (List.mem_of_getElem? (i := 115) rfl))) (mvT hZ (hw _ (List.mem_of_getElem? (i := 114) rfl))) (by decide) (backOf (W := 0) (own_rm19 l Z a0 hw [] b4_38 b4_15 z_COMPACT_STRINGS b1_13_38 b1_13_15 k1_13_38 (own_cb p2) k1_13_15 (own_cb p1) T370.heap n0 zs403 HC (Nat.ne_of_gt lt49) f372 f378 f377 f407 f373 f379 f392 f391) hZ (hw _ (List.mem_of_getElem? (i := 116) rfl)) (hw _ (List.mem_of_getElem? (i := 2) rfl)) (by decide) (by decide)) q411a q411c (g := (mkF m 105 #[.val (.int p0), .val (.int p1), .val (.int p2), .val (.ref b4_1), .val (.ref b4_15), .val (.ref b4_38), .val (.ref b71), .val (.int (0 : Int32)), .val (.int (1 : Int32)), .val (.int (1 : Int32)), .val (.ref b4_15), .val .null, .val (.int (2 : Int32)), .unset] [(.ref b4_15), (.ref b4_38)])) rfl (by rw [hml]; rfl) (Steps.refl _) (argsL := [(.ref b4_15)]) (rest := []) (lenOf own_pd10 rfl) rfl (by show 2 * 0 + _ ≤ _; exact Nat.le_of_eq rfl) (hb hby at_105) (fun _ _ => ⟨rfl, e409, (by decide : 10 + 0 ≤ _), (by decide : 52 + 0 ≤ _)⟩)
        dsimp only [Pt.U, Pt.locs, Pt.cells, Pt.slots] at X411 l411 y411 z411 st411 hQ411
        subst y411 z411
        obtain ⟨rfl, N411q, e411⟩ := hQ411
        have N412 : Fr n0 L411 := by rw [l411]; exact Fr.app N410 N411q
        obtain ⟨cq413, kq413, q413a, q413b, q413c⟩ := isOf hZ e411 f393
        obtain ⟨_, _, ⟨T413, L413, k413, n413⟩, -, X413, ⟨Lc413, hQ413, l413, y413, z413⟩, st413⟩ := X411.virtualBack hx (y := (⟨"com/example/nestor/nestor/IdTable", "size", "()I"⟩ : MethodName)) (z := (⟨"com/example/nestor/nestor/IdTable", "size", "()I"⟩ : MethodName)) hown (mvT hZ (hw _ (List.mem_of_getElem? (i := 120) rfl))) (mvT hZ (hw _ (List.mem_of_getElem? (i := 121) rfl))) (notFace_of_selects (args := #[]) (mvT hZ (hw _ (List.mem_of_getElem? (i := 123) rfl)))) (mvT hZ (hw _ (List.mem_of_getElem? (i := 123) rfl))) (mvT hZ (hw _ (List.mem_of_getElem? (i := 122) rfl))) (by decide) (backOf (W := 0) (own_rm21 l Z a0 hw [] b71 (2 : Int32) T370.heap n0 zs403 f396) hZ (hw _ (List.mem_of_getElem? (i := 124) rfl)) (hw _ (List.mem_of_getElem? (i := 28) rfl)) (by decide) (by decide)) q413a q413c (g := (mkF m 148 #[.val (.int p0), .val (.int p1), .val (.int p2), .val (.ref b4_1), .val (.ref b4_15), .val (.ref b4_38), .val (.ref b71), .val (.int (0 : Int32)), .val (.int (1 : Int32)), .val (.int (1 : Int32)), .val (.ref b4_15), .val .null, .val (.int (2 : Int32)), .val (.int (1 : Int32))] [(.ref b71)])) rfl (by rw [hml]; rfl) (Steps.refl _) (argsL := []) (rest := []) (lenOf own_pd9 rfl) rfl (by show 2 * 0 + _ ≤ _; exact Nat.le_of_eq rfl) (hb hby at_148) (fun _ _ => ⟨rfl, e411, (by decide : 10 + 0 ≤ _), (by decide : 52 + 0 ≤ _)⟩)
        dsimp only [Pt.U, Pt.locs, Pt.cells, Pt.slots] at X413 l413 y413 z413 st413 hQ413
        subst y413 z413
        obtain ⟨rfl, N413q, e413⟩ := hQ413
        have N414 : Fr n0 L413 := by rw [l413]; exact Fr.app N412 N413q
        obtain ⟨cq415, kq415, q415a, q415b, q415c⟩ := isOf hZ e413 f393
        obtain ⟨_, _, ⟨T415, L415, k415, n415⟩, -, X415, ⟨Lc415, hQ415, l415, y415, z415⟩, st415⟩ := X413.virtualBack hx (y := (⟨"com/example/nestor/nestor/IdTable", "id", "(I)Ljava/lang/String;"⟩ : MethodName)) (z := (⟨"com/example/nestor/nestor/IdTable", "id", "(I)Ljava/lang/String;"⟩ : MethodName)) hown (mvT hZ (hw _ (List.mem_of_getElem? (i := 125) rfl))) (mvT hZ (hw _ (List.mem_of_getElem? (i := 126) rfl))) (notFace_of_selects (args := #[]) (mvT hZ (hw _ (List.mem_of_getElem? (i := 128) rfl)))) (mvT hZ (hw _ (List.mem_of_getElem? (i := 128) rfl))) (mvT hZ (hw _ (List.mem_of_getElem? (i := 127) rfl))) (by decide) (backOf (W := 0) (own_rm22n2k0 l Z a0 hw [] b71 b2_103 k2_103 b4_1 b4_15 T370.heap n0 zs403 f396 f394 Ov115 f397) hZ (hw _ (List.mem_of_getElem? (i := 129) rfl)) (hw _ (List.mem_of_getElem? (i := 28) rfl)) (by decide) (by decide)) q415a q415c (g := (mkF m 199 #[.val (.int p0), .val (.int p1), .val (.int p2), .val (.ref b4_1), .val (.ref b4_15), .val (.ref b4_38), .val (.ref b71), .val (.int (0 : Int32)), .val (.int (1 : Int32)), .val (.int (1 : Int32)), .val (.ref b4_15), .val .null, .val (.int (2 : Int32)), .val (.int (1 : Int32))] [(.int (0 : Int32)), (.ref b71)])) rfl (by rw [hml]; rfl) (Steps.refl _) (argsL := [(.int (0 : Int32))]) (rest := []) (lenOf own_pd17 rfl) rfl (by show 2 * 0 + _ ≤ _; exact Nat.le_of_eq rfl) (hb hby at_199) (fun _ _ => ⟨rfl, e413, (by decide : 10 + 0 ≤ _), (by decide : 52 + 0 ≤ _)⟩)
        dsimp only [Pt.U, Pt.locs, Pt.cells, Pt.slots] at X415 l415 y415 z415 st415 hQ415
        subst y415 z415
        obtain ⟨rfl, N415q, e415⟩ := hQ415
        have N416 : Fr n0 L415 := by rw [l415]; exact Fr.app N414 N415q
        obtain ⟨cq417, kq417, q417a, q417b, q417c⟩ := isOf hZ e415 f374
        obtain ⟨_, _, ⟨T417, L417, k417, n417⟩, -, X417, ⟨Lc417, hQ417, l417, y417, z417⟩, st417⟩ := X415.virtualBack hx (y := (⟨"java/lang/String", "equals", "(Ljava/lang/Object;)Z"⟩ : MethodName)) (z := (⟨"java/lang/String", "equals", "(Ljava/lang/Object;)Z"⟩ : MethodName)) hown (mvT hZ (hw _ (List.mem_of_getElem? (i := 112) rfl))) (mvT hZ (hw _ (List.mem_of_getElem? (i := 113) rfl))) (notFace_of_selects (args := #[]) (mvT hZ (hw _ (List.mem_of_getElem? (i := 115) rfl)))) (mvT hZ (hw _ (List.mem_of_getElem? (i := 115) rfl))) (mvT hZ (hw _ (List.mem_of_getElem? (i := 114) rfl))) (by decide) (backOf (W := 0) (own_rm19s l Z a0 hw [] b4_1 T370.heap n0 zs403 ) hZ (hw _ (List.mem_of_getElem? (i := 116) rfl)) (hw _ (List.mem_of_getElem? (i := 2) rfl)) (by decide) (by decide)) q417a q417c (g := (mkF m 203 #[.val (.int p0), .val (.int p1), .val (.int p2), .val (.ref b4_1), .val (.ref b4_15), .val (.ref b4_38), .val (.ref b71), .val (.int (0 : Int32)), .val (.int (1 : Int32)), .val (.int (1 : Int32)), .val (.ref b4_15), .val .null, .val (.int (2 : Int32)), .val (.int (1 : Int32))] [(.ref b4_1), (.ref b4_1)])) rfl (by rw [hml]; rfl) (Steps.refl _) (argsL := [(.ref b4_1)]) (rest := []) (lenOf own_pd10 rfl) rfl (by show 2 * 0 + _ ≤ _; exact Nat.le_of_eq rfl) (hb hby at_203) (fun _ _ => ⟨rfl, e415, (by decide : 10 + 0 ≤ _), (by decide : 52 + 0 ≤ _)⟩)
        dsimp only [Pt.U, Pt.locs, Pt.cells, Pt.slots] at X417 l417 y417 z417 st417 hQ417
        subst y417 z417
        obtain ⟨rfl, N417q, e417⟩ := hQ417
        have N418 : Fr n0 L417 := by rw [l417]; exact Fr.app N416 N417q
        obtain ⟨cq419, kq419, q419a, q419b, q419c⟩ := isOf hZ e417 f393
        obtain ⟨_, _, ⟨T419, L419, k419, n419⟩, -, X419, ⟨Lc419, hQ419, l419, y419, z419⟩, st419⟩ := X417.virtualBack hx (y := (⟨"com/example/nestor/nestor/IdTable", "id", "(I)Ljava/lang/String;"⟩ : MethodName)) (z := (⟨"com/example/nestor/nestor/IdTable", "id", "(I)Ljava/lang/String;"⟩ : MethodName)) hown (mvT hZ (hw _ (List.mem_of_getElem? (i := 125) rfl))) (mvT hZ (hw _ (List.mem_of_getElem? (i := 126) rfl))) (notFace_of_selects (args := #[]) (mvT hZ (hw _ (List.mem_of_getElem? (i := 128) rfl)))) (mvT hZ (hw _ (List.mem_of_getElem? (i := 128) rfl))) (mvT hZ (hw _ (List.mem_of_getElem? (i := 127) rfl))) (by decide) (backOf (W := 0) (own_rm22n2k1 l Z a0 hw [] b71 b2_103 k2_103 b4_1 b4_15 T370.heap n0 zs403 f396 f394 Ov115 f397) hZ (hw _ (List.mem_of_getElem? (i := 129) rfl)) (hw _ (List.mem_of_getElem? (i := 28) rfl)) (by decide) (by decide)) q419a q419c (g := (mkF m 220 #[.val (.int p0), .val (.int p1), .val (.int p2), .val (.ref b4_1), .val (.ref b4_15), .val (.ref b4_38), .val (.ref b71), .val (.int (0 : Int32)), .val (.int (1 : Int32)), .val (.int (1 : Int32)), .val (.ref b4_15), .val .null, .val (.int (2 : Int32)), .val (.int (1 : Int32))] [(.int (1 : Int32)), (.ref b71)])) rfl (by rw [hml]; rfl) (Steps.refl _) (argsL := [(.int (1 : Int32))]) (rest := []) (lenOf own_pd17 rfl) rfl (by show 2 * 0 + _ ≤ _; exact Nat.le_of_eq rfl) (hb hby at_220) (fun _ _ => ⟨rfl, e417, (by decide : 10 + 0 ≤ _), (by decide : 52 + 0 ≤ _)⟩)
        dsimp only [Pt.U, Pt.locs, Pt.cells, Pt.slots] at X419 l419 y419 z419 st419 hQ419
        subst y419 z419
        obtain ⟨rfl, N419q, e419⟩ := hQ419
        have N420 : Fr n0 L419 := by rw [l419]; exact Fr.app N418 N419q
        obtain ⟨cq421, kq421, q421a, q421b, q421c⟩ := isOf hZ e419 f377
        obtain ⟨_, _, ⟨T421, L421, k421, n421⟩, -, X421, ⟨Lc421, hQ421, l421, y421, z421⟩, st421⟩ := X419.virtualBack hx (y := (⟨"java/lang/String", "equals", "(Ljava/lang/Object;)Z"⟩ : MethodName)) (z := (⟨"java/lang/String", "equals", "(Ljava/lang/Object;)Z"⟩ : MethodName)) hown (mvT hZ (hw _ (List.mem_of_getElem? (i := 112) rfl))) (mvT hZ (hw _ (List.mem_of_getElem? (i := 113) rfl))) (notFace_of_selects (args := #[]) (mvT hZ (hw _ (List.mem_of_getElem? (i := 115) rfl)))) (mvT hZ (hw _ (List.mem_of_getElem? (i := 115) rfl))) (mvT hZ (hw _ (List.mem_of_getElem? (i := 114) rfl))) (by decide) (backOf (W := 0) (own_rm19s l Z a0 hw [] b4_15 T370.heap n0 zs403 ) hZ (hw _ (List.mem_of_getElem? (i := 116) rfl)) (hw _ (List.mem_of_getElem? (i := 2) rfl)) (by decide) (by decide)) q421a q421c (g := (mkF m 225 #[.val (.int p0), .val (.int p1), .val (.int p2), .val (.ref b4_1), .val (.ref b4_15), .val (.ref b4_38), .val (.ref b71), .val (.int (0 : Int32)), .val (.int (1 : Int32)), .val (.int (1 : Int32)), .val (.ref b4_15), .val .null, .val (.int (2 : Int32)), .val (.int (1 : Int32))] [(.ref b4_15), (.ref b4_15)])) rfl (by rw [hml]; rfl) (Steps.refl _) (argsL := [(.ref b4_15)]) (rest := []) (lenOf own_pd10 rfl) rfl (by show 2 * 0 + _ ≤ _; exact Nat.le_of_eq rfl) (hb hby at_225) (fun _ _ => ⟨rfl, e419, (by decide : 10 + 0 ≤ _), (by decide : 52 + 0 ≤ _)⟩)
        dsimp only [Pt.U, Pt.locs, Pt.cells, Pt.slots] at X421 l421 y421 z421 st421 hQ421
        subst y421 z421
        obtain ⟨rfl, N421q, e421⟩ := hQ421
        have N422 : Fr n0 L421 := by rw [l421]; exact Fr.app N420 N421q
        obtain ⟨cq423, kq423, q423a, q423b, q423c⟩ := isOf hZ e421 f393
        obtain ⟨_, _, ⟨T423, L423, k423, n423⟩, -, X423, ⟨Lc423, hQ423, l423, y423, z423⟩, st423⟩ := X421.virtualBack hx (y := (⟨"com/example/nestor/nestor/IdTable", "id", "(I)Ljava/lang/String;"⟩ : MethodName)) (z := (⟨"com/example/nestor/nestor/IdTable", "id", "(I)Ljava/lang/String;"⟩ : MethodName)) hown (mvT hZ (hw _ (List.mem_of_getElem? (i := 125) rfl))) (mvT hZ (hw _ (List.mem_of_getElem? (i := 126) rfl))) (notFace_of_selects (args := #[]) (mvT hZ (hw _ (List.mem_of_getElem? (i := 128) rfl)))) (mvT hZ (hw _ (List.mem_of_getElem? (i := 128) rfl))) (mvT hZ (hw _ (List.mem_of_getElem? (i := 127) rfl))) (by decide) (backOf (W := 0) (own_rm22n2k0 l Z a0 hw [] b71 b2_103 k2_103 b4_1 b4_15 T370.heap n0 zs403 f396 f394 Ov115 f397) hZ (hw _ (List.mem_of_getElem? (i := 129) rfl)) (hw _ (List.mem_of_getElem? (i := 28) rfl)) (by decide) (by decide)) q423a q423c (g := (mkF m 259 #[.val (.int p0), .val (.int p1), .val (.int p2), .val (.ref b4_1), .val (.ref b4_15), .val (.ref b4_38), .val (.ref b71), .val (.int (0 : Int32)), .val (.int (1 : Int32)), .val (.int (1 : Int32)), .val (.ref b4_15), .val .null, .val (.int (2 : Int32)), .val (.int (1 : Int32))] [(.int (0 : Int32)), (.ref b71)])) rfl (by rw [hml]; rfl) (Steps.refl _) (argsL := [(.int (0 : Int32))]) (rest := []) (lenOf own_pd17 rfl) rfl (by show 2 * 0 + _ ≤ _; exact Nat.le_of_eq rfl) (hb hby at_259) (fun _ _ => ⟨rfl, e421, (by decide : 10 + 0 ≤ _), (by decide : 52 + 0 ≤ _)⟩)
        dsimp only [Pt.U, Pt.locs, Pt.cells, Pt.slots] at X423 l423 y423 z423 st423 hQ423
        subst y423 z423
        obtain ⟨rfl, N423q, e423⟩ := hQ423
        have N424 : Fr n0 L423 := by rw [l423]; exact Fr.app N422 N423q
        obtain ⟨cq425, kq425, q425a, q425b, q425c⟩ := isOf hZ e423 f374
        obtain ⟨_, _, ⟨T425, L425, k425, n425⟩, -, X425, ⟨Lc425, hQ425, l425, y425, z425⟩, st425⟩ := X423.virtualBack hx (y := (⟨"java/lang/String", "equals", "(Ljava/lang/Object;)Z"⟩ : MethodName)) (z := (⟨"java/lang/String", "equals", "(Ljava/lang/Object;)Z"⟩ : MethodName)) hown (mvT hZ (hw _ (List.mem_of_getElem? (i := 112) rfl))) (mvT hZ (hw _ (List.mem_of_getElem? (i := 113) rfl))) (notFace_of_selects (args := #[]) (mvT hZ (hw _ (List.mem_of_getElem? (i := 115) rfl)))) (mvT hZ (hw _ (List.mem_of_getElem? (i := 115) rfl))) (mvT hZ (hw _ (List.mem_of_getElem? (i := 114) rfl))) (by decide) (backOf (W := 0) (own_rm19s l Z a0 hw [] b4_1 T370.heap n0 zs403 ) hZ (hw _ (List.mem_of_getElem? (i := 116) rfl)) (hw _ (List.mem_of_getElem? (i := 2) rfl)) (by decide) (by decide)) q425a q425c (g := (mkF m 263 #[.val (.int p0), .val (.int p1), .val (.int p2), .val (.ref b4_1), .val (.ref b4_15), .val (.ref b4_38), .val (.ref b71), .val (.int (0 : Int32)), .val (.int (1 : Int32)), .val (.int (1 : Int32)), .val (.ref b4_15), .val .null, .val (.int (2 : Int32)), .val (.int (1 : Int32))] [(.ref b4_1), (.ref b4_1)])) rfl (by rw [hml]; rfl) (Steps.refl _) (argsL := [(.ref b4_1)]) (rest := []) (lenOf own_pd10 rfl) rfl (by show 2 * 0 + _ ≤ _; exact Nat.le_of_eq rfl) (hb hby at_263) (fun _ _ => ⟨rfl, e423, (by decide : 10 + 0 ≤ _), (by decide : 52 + 0 ≤ _)⟩)
        dsimp only [Pt.U, Pt.locs, Pt.cells, Pt.slots] at X425 l425 y425 z425 st425 hQ425
        subst y425 z425
        obtain ⟨rfl, N425q, e425⟩ := hQ425
        have N426 : Fr n0 L425 := by rw [l425]; exact Fr.app N424 N425q
        obtain ⟨cq427, kq427, q427a, q427b, q427c⟩ := isOf hZ e425 f393
        obtain ⟨_, _, ⟨T427, L427, k427, n427⟩, -, X427, ⟨Lc427, hQ427, l427, y427, z427⟩, st427⟩ := X425.virtualBack hx (y := (⟨"com/example/nestor/nestor/IdTable", "id", "(I)Ljava/lang/String;"⟩ : MethodName)) (z := (⟨"com/example/nestor/nestor/IdTable", "id", "(I)Ljava/lang/String;"⟩ : MethodName)) hown (mvT hZ (hw _ (List.mem_of_getElem? (i := 125) rfl))) (mvT hZ (hw _ (List.mem_of_getElem? (i := 126) rfl))) (notFace_of_selects (args := #[]) (mvT hZ (hw _ (List.mem_of_getElem? (i := 128) rfl)))) (mvT hZ (hw _ (List.mem_of_getElem? (i := 128) rfl))) (mvT hZ (hw _ (List.mem_of_getElem? (i := 127) rfl))) (by decide) (backOf (W := 0) (own_rm22n2k1 l Z a0 hw [] b71 b2_103 k2_103 b4_1 b4_15 T370.heap n0 zs403 f396 f394 Ov115 f397) hZ (hw _ (List.mem_of_getElem? (i := 129) rfl)) (hw _ (List.mem_of_getElem? (i := 28) rfl)) (by decide) (by decide)) q427a q427c (g := (mkF m 273 #[.val (.int p0), .val (.int p1), .val (.int p2), .val (.ref b4_1), .val (.ref b4_15), .val (.ref b4_38), .val (.ref b71), .val (.int (0 : Int32)), .val (.int (1 : Int32)), .val (.int (1 : Int32)), .val (.ref b4_15), .val .null, .val (.int (2 : Int32)), .val (.int (1 : Int32))] [(.int (1 : Int32)), (.ref b71)])) rfl (by rw [hml]; rfl) (Steps.refl _) (argsL := [(.int (1 : Int32))]) (rest := []) (lenOf own_pd17 rfl) rfl (by show 2 * 0 + _ ≤ _; exact Nat.le_of_eq rfl) (hb hby at_273) (fun _ _ => ⟨rfl, e425, (by decide : 10 + 0 ≤ _), (by decide : 52 + 0 ≤ _)⟩)
        dsimp only [Pt.U, Pt.locs, Pt.cells, Pt.slots] at X427 l427 y427 z427 st427 hQ427
        subst y427 z427
        obtain ⟨rfl, N427q, e427⟩ := hQ427
        have N428 : Fr n0 L427 := by rw [l427]; exact Fr.app N426 N427q
        obtain ⟨cq429, kq429, q429a, q429b, q429c⟩ := isOf hZ e427 f377
        obtain ⟨_, _, ⟨T429, L429, k429, n429⟩, -, X429, ⟨Lc429, hQ429, l429, y429, z429⟩, st429⟩ := X427.virtualBack hx (y := (⟨"java/lang/String", "equals", "(Ljava/lang/Object;)Z"⟩ : MethodName)) (z := (⟨"java/lang/String", "equals", "(Ljava/lang/Object;)Z"⟩ : MethodName)) hown (mvT hZ (hw _ (List.mem_of_getElem? (i := 112) rfl))) (mvT hZ (hw _ (List.mem_of_getElem? (i := 113) rfl))) (notFace_of_selects (args := #[]) (mvT hZ (hw _ (List.mem_of_getElem? (i := 115) rfl)))) (mvT hZ (hw _ (List.mem_of_getElem? (i := 115) rfl))) (mvT hZ (hw _ (List.mem_of_getElem? (i := 114) rfl))) (by decide) (backOf (W := 0) (own_rm19s l Z a0 hw [] b4_15 T370.heap n0 zs403 ) hZ (hw _ (List.mem_of_getElem? (i := 116) rfl)) (hw _ (List.mem_of_getElem? (i := 2) rfl)) (by decide) (by decide)) q429a q429c (g := (mkF m 278 #[.val (.int p0), .val (.int p1), .val (.int p2), .val (.ref b4_1), .val (.ref b4_15), .val (.ref b4_38), .val (.ref b71), .val (.int (0 : Int32)), .val (.int (1 : Int32)), .val (.int (1 : Int32)), .val (.ref b4_15), .val .null, .val (.int (2 : Int32)), .val (.int (1 : Int32))] [(.ref b4_15), (.ref b4_15)])) rfl (by rw [hml]; rfl) (Steps.refl _) (argsL := [(.ref b4_15)]) (rest := []) (lenOf own_pd10 rfl) rfl (by show 2 * 0 + _ ≤ _; exact Nat.le_of_eq rfl) (hb hby at_278) (fun _ _ => ⟨rfl, e427, (by decide : 10 + 0 ≤ _), (by decide : 52 + 0 ≤ _)⟩)
        dsimp only [Pt.U, Pt.locs, Pt.cells, Pt.slots] at X429 l429 y429 z429 st429 hQ429
        subst y429 z429
        obtain ⟨rfl, N429q, e429⟩ := hQ429
        have N430 : Fr n0 L429 := by rw [l429]; exact Fr.app N428 N429q
        obtain ⟨cq431, kq431, q431a, q431b, q431c⟩ := isOf hZ e429 f393
        obtain ⟨_, _, ⟨T431, L431, k431, n431⟩, -, X431, ⟨Lc431, hQ431, l431, y431, z431⟩, st431⟩ := X429.virtualBack hx (y := (⟨"com/example/nestor/nestor/IdTable", "id", "(I)Ljava/lang/String;"⟩ : MethodName)) (z := (⟨"com/example/nestor/nestor/IdTable", "id", "(I)Ljava/lang/String;"⟩ : MethodName)) hown (mvT hZ (hw _ (List.mem_of_getElem? (i := 125) rfl))) (mvT hZ (hw _ (List.mem_of_getElem? (i := 126) rfl))) (notFace_of_selects (args := #[]) (mvT hZ (hw _ (List.mem_of_getElem? (i := 128) rfl)))) (mvT hZ (hw _ (List.mem_of_getElem? (i := 128) rfl))) (mvT hZ (hw _ (List.mem_of_getElem? (i := 127) rfl))) (by decide) (backOf (W := 0) (own_rm22n2k1 l Z a0 hw [] b71 b2_103 k2_103 b4_1 b4_15 T370.heap n0 zs403 f396 f394 Ov115 f397) hZ (hw _ (List.mem_of_getElem? (i := 129) rfl)) (hw _ (List.mem_of_getElem? (i := 28) rfl)) (by decide) (by decide)) q431a q431c (g := (mkF m 288 #[.val (.int p0), .val (.int p1), .val (.int p2), .val (.ref b4_1), .val (.ref b4_15), .val (.ref b4_38), .val (.ref b71), .val (.int (0 : Int32)), .val (.int (1 : Int32)), .val (.int (1 : Int32)), .val (.ref b4_15), .val .null, .val (.int (2 : Int32)), .val (.int (1 : Int32))] [(.int (1 : Int32)), (.ref b71)])) rfl (by rw [hml]; rfl) (Steps.refl _) (argsL := [(.int (1 : Int32))]) (rest := []) (lenOf own_pd17 rfl) rfl (by show 2 * 0 + _ ≤ _; exact Nat.le_of_eq rfl) (hb hby at_288) (fun _ _ => ⟨rfl, e429, (by decide : 10 + 0 ≤ _), (by decide : 52 + 0 ≤ _)⟩)
        dsimp only [Pt.U, Pt.locs, Pt.cells, Pt.slots] at X431 l431 y431 z431 st431 hQ431
        subst y431 z431
        obtain ⟨rfl, N431q, e431⟩ := hQ431
        have N432 : Fr n0 L431 := by rw [l431]; exact Fr.app N430 N431q
        obtain ⟨cq433, kq433, q433a, q433b, q433c⟩ := isOf hZ e431 f377
        obtain ⟨_, _, ⟨T433, L433, k433, n433⟩, -, X433, ⟨Lc433, hQ433, l433, y433, z433⟩, st433⟩ := X431.virtualBack hx (y := (⟨"java/lang/String", "equals", "(Ljava/lang/Object;)Z"⟩ : MethodName)) (z := (⟨"java/lang/String", "equals", "(Ljava/lang/Object;)Z"⟩ : MethodName)) hown (mvT hZ (hw _ (List.mem_of_getElem? (i := 112) rfl))) (mvT hZ (hw _ (List.mem_of_getElem? (i := 113) rfl))) (notFace_of_selects (args := #[]) (mvT hZ (hw _ (List.mem_of_getElem? (i := 115) rfl)))) (mvT hZ (hw _ (List.mem_of_getElem? (i := 115) rfl))) (mvT hZ (hw _ (List.mem_of_getElem? (i := 114) rfl))) (by decide) (backOf (W := 0) (own_rm19 l Z a0 hw [] b4_15 b4_38 z_COMPACT_STRINGS b1_13_15 b1_13_38 k1_13_15 (own_cb p1) k1_13_38 (own_cb p2) T370.heap n0 zs403 HC (Nat.ne_of_lt lt49) f378 f372 f371 f407 f379 f373 f391 f392) hZ (hw _ (List.mem_of_getElem? (i := 116) rfl)) (hw _ (List.mem_of_getElem? (i := 2) rfl)) (by decide) (by decide)) q433a q433c (g := (mkF m 293 #[.val (.int p0), .val (.int p1), .val (.int p2), .val (.ref b4_1), .val (.ref b4_15), .val (.ref b4_38), .val (.ref b71), .val (.int (0 : Int32)), .val (.int (1 : Int32)), .val (.int (1 : Int32)), .val (.ref b4_15), .val .null, .val (.int (2 : Int32)), .val (.int (1 : Int32))] [(.ref b4_38), (.ref b4_15)])) rfl (by rw [hml]; rfl) (Steps.refl _) (argsL := [(.ref b4_38)]) (rest := []) (lenOf own_pd10 rfl) rfl (by show 2 * 0 + _ ≤ _; exact Nat.le_of_eq rfl) (hb hby at_293) (fun _ _ => ⟨rfl, e431, (by decide : 10 + 0 ≤ _), (by decide : 52 + 0 ≤ _)⟩)
        dsimp only [Pt.U, Pt.locs, Pt.cells, Pt.slots] at X433 l433 y433 z433 st433 hQ433
        subst y433 z433
        obtain ⟨rfl, N433q, e433⟩ := hQ433
        have N434 : Fr n0 L433 := by rw [l433]; exact Fr.app N432 N433q
        have pre435 : ∀ t, Steps p.tables e below (T433.setTop (mkF m 302 #[.val (.int p0), .val (.int p1), .val (.int p2), .val (.ref b4_1), .val (.ref b4_15), .val (.ref b4_38), .val (.ref b71), .val (.int (0 : Int32)), .val (.int (1 : Int32)), .val (.int (1 : Int32)), .val (.ref b4_15), .val .null, .val (.int (2 : Int32)), .val (.int (1 : Int32))] [(.int (1 : Int32))])) t → Steps p.tables e below (s₁.setTop (entryFrame m #[(.int p0), (.int p1), (.int p2)] maxLocals)) t := fun t k => pre233 t (by
            refine st370.trans ?_
            show Steps p.tables e below (T370.setTop (mkF m 65 #[.val (.int p0), .val (.int p1), .val (.int p2), .val (.ref b4_1), .val (.ref b4_15), .val (.ref b4_38), .val (.ref b71), .val (.int (0 : Int32)), .val (.int (1 : Int32)), .unset, .unset, .unset, .unset, .unset] [(.int (1 : Int32))])) _
            refine XS.istore X370.here hx rfl (hb hby at_65) rfl (l' := #[.val (.int p0), .val (.int p1), .val (.int p2), .val (.ref b4_1), .val (.ref b4_15), .val (.ref b4_38), .val (.ref b71), .val (.int (0 : Int32)), .val (.int (1 : Int32)), .val (.int (1 : Int32)), .unset, .unset, .unset, .unset]) rfl ?_
            refine XS.aconstNull X370.here hx rfl (hb hby at_67) ?_
            refine XS.astore X370.here hx rfl (hb hby at_68) rfl rfl (l' := #[.val (.int p0), .val (.int p1), .val (.int p2), .val (.ref b4_1), .val (.ref b4_15), .val (.ref b4_38), .val (.ref b71), .val (.int (0 : Int32)), .val (.int (1 : Int32)), .val (.int (1 : Int32)), .val .null, .unset, .unset, .unset]) rfl ?_
            refine XS.aconstNull X370.here hx rfl (hb hby at_70) ?_
            show Steps p.tables e below (T370.setTop (mkF m 71 #[.val (.int p0), .val (.int p1), .val (.int p2), .val (.ref b4_1), .val (.ref b4_15), .val (.ref b4_38), .val (.ref b71), .val (.int (0 : Int32)), .val (.int (1 : Int32)), .val (.int (1 : Int32)), .val .null, .unset, .unset, .unset] [.null])) _
            refine XS.astore X370.here hx rfl (hb hby at_71) rfl rfl (l' := #[.val (.int p0), .val (.int p1), .val (.int p2), .val (.ref b4_1), .val (.ref b4_15), .val (.ref b4_38), .val (.ref b71), .val (.int (0 : Int32)), .val (.int (1 : Int32)), .val (.int (1 : Int32)), .val .null, .val .null, .unset, .unset]) rfl ?_
            refine XS.iconst X370.here hx rfl (hb hby at_73) ?_
            refine XS.istore X370.here hx rfl (hb hby at_74) rfl (l' := #[.val (.int p0), .val (.int p1), .val (.int p2), .val (.ref b4_1), .val (.ref b4_15), .val (.ref b4_38), .val (.ref b71), .val (.int (0 : Int32)), .val (.int (1 : Int32)), .val (.int (1 : Int32)), .val .null, .val .null, .val (.int (1 : Int32)), .unset]) rfl ?_
            refine XS.aload X370.here hx rfl (hb hby at_76) rfl rfl ?_
            show Steps p.tables e below (T370.setTop (mkF m 78 #[.val (.int p0), .val (.int p1), .val (.int p2), .val (.ref b4_1), .val (.ref b4_15), .val (.ref b4_38), .val (.ref b71), .val (.int (0 : Int32)), .val (.int (1 : Int32)), .val (.int (1 : Int32)), .val .null, .val .null, .val (.int (1 : Int32)), .unset] [(.ref b4_15)])) _
            refine XS.aloadN X370.here hx rfl (hb hby at_78) rfl rfl ?_
            refine st406.trans ?_
            show Steps p.tables e below (T406.setTop (mkF m 82 #[.val (.int p0), .val (.int p1), .val (.int p2), .val (.ref b4_1), .val (.ref b4_15), .val (.ref b4_38), .val (.ref b71), .val (.int (0 : Int32)), .val (.int (1 : Int32)), .val (.int (1 : Int32)), .val .null, .val .null, .val (.int (1 : Int32)), .unset] [(.int (own_f19 (own_cb p1) (own_cb p0)))])) _
            refine XS.ifNo X406.here hx rfl (hb hby at_82) rfl ((if0 _ _).trans (teq (own_nes _ _ (own_ne1 _ _ hc197))).2) ?_
            refine XS.aload X406.here hx rfl (hb hby at_85) rfl rfl ?_
            refine XS.astore X406.here hx rfl (hb hby at_87) rfl rfl (l' := #[.val (.int p0), .val (.int p1), .val (.int p2), .val (.ref b4_1), .val (.ref b4_15), .val (.ref b4_38), .val (.ref b71), .val (.int (0 : Int32)), .val (.int (1 : Int32)), .val (.int (1 : Int32)), .val (.ref b4_15), .val .null, .val (.int (1 : Int32)), .unset]) rfl ?_
            refine XS.iconst X406.here hx rfl (hb hby at_89) ?_
            show Steps p.tables e below (T406.setTop (mkF m 90 #[.val (.int p0), .val (.int p1), .val (.int p2), .val (.ref b4_1), .val (.ref b4_15), .val (.ref b4_38), .val (.ref b71), .val (.int (0 : Int32)), .val (.int (1 : Int32)), .val (.int (1 : Int32)), .val (.ref b4_15), .val .null, .val (.int (1 : Int32)), .unset] [(.int (2 : Int32))])) _
            refine XS.istore X406.here hx rfl (hb hby at_90) rfl (l' := #[.val (.int p0), .val (.int p1), .val (.int p2), .val (.ref b4_1), .val (.ref b4_15), .val (.ref b4_38), .val (.ref b71), .val (.int (0 : Int32)), .val (.int (1 : Int32)), .val (.int (1 : Int32)), .val (.ref b4_15), .val .null, .val (.int (2 : Int32)), .unset]) rfl ?_
            refine XS.aload X406.here hx rfl (hb hby at_92) rfl rfl ?_
            refine XS.aloadN X406.here hx rfl (hb hby at_94) rfl rfl ?_
            refine st409.trans ?_
            show Steps p.tables e below (T409.setTop (mkF m 98 #[.val (.int p0), .val (.int p1), .val (.int p2), .val (.ref b4_1), .val (.ref b4_15), .val (.ref b4_38), .val (.ref b71), .val (.int (0 : Int32)), .val (.int (1 : Int32)), .val (.int (1 : Int32)), .val (.ref b4_15), .val .null, .val (.int (2 : Int32)), .unset] [(.int (own_f19 (own_cb p2) (own_cb p0)))])) _
            refine XS.ifNo X409.here hx rfl (hb hby at_98) rfl ((if0 _ _).trans (teq (own_nes _ _ (fun q => (own_ne1 _ _ hc197) ((own_e21 _ (own_cb p0) _ _ _ (own_cby p2) (own_cby p1) (own_c2 _ _ _ _ _ hc234 hc305)).symm.trans q)))).2) ?_
            refine XS.aload X409.here hx rfl (hb hby at_101) rfl rfl ?_
            refine XS.aload X409.here hx rfl (hb hby at_103) rfl rfl ?_
            refine st411.trans ?_
            show Steps p.tables e below (T411.setTop (mkF m 108 #[.val (.int p0), .val (.int p1), .val (.int p2), .val (.ref b4_1), .val (.ref b4_15), .val (.ref b4_38), .val (.ref b71), .val (.int (0 : Int32)), .val (.int (1 : Int32)), .val (.int (1 : Int32)), .val (.ref b4_15), .val .null, .val (.int (2 : Int32)), .unset] [(.int (own_f19 (own_cb p2) (own_cb p1)))])) _
            refine XS.ifNo X411.here hx rfl (hb hby at_108) rfl ((if0 _ _).trans (feq (own_eqs _ _ (own_e21 _ (own_cb p0) _ _ _ (own_cby p2) (own_cby p1) (own_c2 _ _ _ _ _ hc234 hc305)))).1) ?_
            refine XS.iconst X411.here hx rfl (hb hby at_111) ?_
            refine XS.goto X411.here hx rfl (pc0 := 112) (pc' := 116) rfl (hb hby at_112) (by decide) (by decide) ?_
            refine XS.istore X411.here hx rfl (hb hby at_116) rfl (l' := #[.val (.int p0), .val (.int p1), .val (.int p2), .val (.ref b4_1), .val (.ref b4_15), .val (.ref b4_38), .val (.ref b71), .val (.int (0 : Int32)), .val (.int (1 : Int32)), .val (.int (1 : Int32)), .val (.ref b4_15), .val .null, .val (.int (2 : Int32)), .val (.int (1 : Int32))]) rfl ?_
            show Steps p.tables e below (T411.setTop (mkF m 118 #[.val (.int p0), .val (.int p1), .val (.int p2), .val (.ref b4_1), .val (.ref b4_15), .val (.ref b4_38), .val (.ref b71), .val (.int (0 : Int32)), .val (.int (1 : Int32)), .val (.int (1 : Int32)), .val (.ref b4_15), .val .null, .val (.int (2 : Int32)), .val (.int (1 : Int32))] [])) _
            refine XS.iload X411.here hx rfl (hb hby at_118) rfl ?_
            refine XS.ifYes X411.here hx rfl (pc0 := 120) (pc' := 146) rfl (hb hby at_120) rfl ((if0 _ _).trans (feq (by decide : ¬ ((1 : Int32) = (0 : Int32)))).2) (by decide) (by decide) ?_
            refine XS.aload X411.here hx rfl (hb hby at_146) rfl rfl ?_
            refine st413.trans ?_
            show Steps p.tables e below (T413.setTop (mkF m 151 #[.val (.int p0), .val (.int p1), .val (.int p2), .val (.ref b4_1), .val (.ref b4_15), .val (.ref b4_38), .val (.ref b71), .val (.int (0 : Int32)), .val (.int (1 : Int32)), .val (.int (1 : Int32)), .val (.ref b4_15), .val .null, .val (.int (2 : Int32)), .val (.int (1 : Int32))] [(.int (2 : Int32))])) _
            refine XS.iload X413.here hx rfl (hb hby at_151) rfl ?_
            refine XS.icmpYes X413.here hx rfl (pc0 := 153) (pc' := 158) rfl (hb hby at_153) rfl (teq (by decide : (2 : Int32) = (2 : Int32))).1 (by decide) (by decide) ?_
            refine XS.iload X413.here hx rfl (hb hby at_158) rfl ?_
            refine XS.ifNo X413.here hx rfl (hb hby at_160) rfl ((if0 _ _).trans (flt (by decide : ¬ ((0 : Int32) < (0 : Int32)))).1) ?_
            show Steps p.tables e below (T413.setTop (mkF m 163 #[.val (.int p0), .val (.int p1), .val (.int p2), .val (.ref b4_1), .val (.ref b4_15), .val (.ref b4_38), .val (.ref b71), .val (.int (0 : Int32)), .val (.int (1 : Int32)), .val (.int (1 : Int32)), .val (.ref b4_15), .val .null, .val (.int (2 : Int32)), .val (.int (1 : Int32))] [])) _
            refine XS.iload X413.here hx rfl (hb hby at_163) rfl ?_
            refine XS.iload X413.here hx rfl (hb hby at_165) rfl ?_
            refine XS.icmpNo X413.here hx rfl (hb hby at_167) rfl (tlt (by decide : (0 : Int32) < (2 : Int32))).2.1 ?_
            refine XS.iload X413.here hx rfl (hb hby at_170) rfl ?_
            show Steps p.tables e below (T413.setTop (mkF m 172 #[.val (.int p0), .val (.int p1), .val (.int p2), .val (.ref b4_1), .val (.ref b4_15), .val (.ref b4_38), .val (.ref b71), .val (.int (0 : Int32)), .val (.int (1 : Int32)), .val (.int (1 : Int32)), .val (.ref b4_15), .val .null, .val (.int (2 : Int32)), .val (.int (1 : Int32))] [(.int (1 : Int32))])) _
            refine XS.ifNo X413.here hx rfl (hb hby at_172) rfl ((if0 _ _).trans (flt (by decide : ¬ ((1 : Int32) < (0 : Int32)))).1) ?_
            refine XS.iload X413.here hx rfl (hb hby at_175) rfl ?_
            refine XS.iload X413.here hx rfl (hb hby at_177) rfl ?_
            refine XS.icmpNo X413.here hx rfl (hb hby at_179) rfl (tlt (by decide : (1 : Int32) < (2 : Int32))).2.1 ?_
            show Steps p.tables e below (T413.setTop (mkF m 182 #[.val (.int p0), .val (.int p1), .val (.int p2), .val (.ref b4_1), .val (.ref b4_15), .val (.ref b4_38), .val (.ref b71), .val (.int (0 : Int32)), .val (.int (1 : Int32)), .val (.int (1 : Int32)), .val (.ref b4_15), .val .null, .val (.int (2 : Int32)), .val (.int (1 : Int32))] [])) _
            refine XS.iload X413.here hx rfl (hb hby at_182) rfl ?_
            refine XS.ifNo X413.here hx rfl (hb hby at_184) rfl ((if0 _ _).trans (flt (by decide : ¬ ((1 : Int32) < (0 : Int32)))).1) ?_
            refine XS.iload X413.here hx rfl (hb hby at_187) rfl ?_
            refine XS.iload X413.here hx rfl (hb hby at_189) rfl ?_
            show Steps p.tables e below (T413.setTop (mkF m 191 #[.val (.int p0), .val (.int p1), .val (.int p2), .val (.ref b4_1), .val (.ref b4_15), .val (.ref b4_38), .val (.ref b71), .val (.int (0 : Int32)), .val (.int (1 : Int32)), .val (.int (1 : Int32)), .val (.ref b4_15), .val .null, .val (.int (2 : Int32)), .val (.int (1 : Int32))] [(.int (2 : Int32)), (.int (1 : Int32))])) _
            refine XS.icmpYes X413.here hx rfl (pc0 := 191) (pc' := 196) rfl (hb hby at_191) rfl (tlt (by decide : (1 : Int32) < (2 : Int32))).1 (by decide) (by decide) ?_
            refine XS.aload X413.here hx rfl (hb hby at_196) rfl rfl ?_
            refine XS.iconst X413.here hx rfl (hb hby at_198) ?_
            refine st415.trans ?_
            show Steps p.tables e below (T415.setTop (mkF m 202 #[.val (.int p0), .val (.int p1), .val (.int p2), .val (.ref b4_1), .val (.ref b4_15), .val (.ref b4_38), .val (.ref b71), .val (.int (0 : Int32)), .val (.int (1 : Int32)), .val (.int (1 : Int32)), .val (.ref b4_15), .val .null, .val (.int (2 : Int32)), .val (.int (1 : Int32))] [(.ref b4_1)])) _
            refine XS.aloadN X415.here hx rfl (hb hby at_202) rfl rfl ?_
            refine st417.trans ?_
            show Steps p.tables e below (T417.setTop (mkF m 206 #[.val (.int p0), .val (.int p1), .val (.int p2), .val (.ref b4_1), .val (.ref b4_15), .val (.ref b4_38), .val (.ref b71), .val (.int (0 : Int32)), .val (.int (1 : Int32)), .val (.int (1 : Int32)), .val (.ref b4_15), .val .null, .val (.int (2 : Int32)), .val (.int (1 : Int32))] [(.int (1 : Int32))])) _
            refine XS.ifYes X417.here hx rfl (pc0 := 206) (pc' := 211) rfl (hb hby at_206) rfl ((if0 _ _).trans (feq (by decide : ¬ ((1 : Int32) = (0 : Int32)))).2) (by decide) (by decide) ?_
            refine XS.iload X417.here hx rfl (hb hby at_211) rfl ?_
            refine XS.iconst X417.here hx rfl (hb hby at_213) ?_
            refine XS.icmpNo X417.here hx rfl (hb hby at_214) rfl (flt (by decide : ¬ ((2 : Int32) < (2 : Int32)))).1 ?_
            show Steps p.tables e below (T417.setTop (mkF m 217 #[.val (.int p0), .val (.int p1), .val (.int p2), .val (.ref b4_1), .val (.ref b4_15), .val (.ref b4_38), .val (.ref b71), .val (.int (0 : Int32)), .val (.int (1 : Int32)), .val (.int (1 : Int32)), .val (.ref b4_15), .val .null, .val (.int (2 : Int32)), .val (.int (1 : Int32))] [])) _
            refine XS.aload X417.here hx rfl (hb hby at_217) rfl rfl ?_
            refine XS.iconst X417.here hx rfl (hb hby at_219) ?_
            refine st419.trans ?_
            show Steps p.tables e below (T419.setTop (mkF m 223 #[.val (.int p0), .val (.int p1), .val (.int p2), .val (.ref b4_1), .val (.ref b4_15), .val (.ref b4_38), .val (.ref b71), .val (.int (0 : Int32)), .val (.int (1 : Int32)), .val (.int (1 : Int32)), .val (.ref b4_15), .val .null, .val (.int (2 : Int32)), .val (.int (1 : Int32))] [(.ref b4_15)])) _
            refine XS.aload X419.here hx rfl (hb hby at_223) rfl rfl ?_
            refine st421.trans ?_
            show Steps p.tables e below (T421.setTop (mkF m 228 #[.val (.int p0), .val (.int p1), .val (.int p2), .val (.ref b4_1), .val (.ref b4_15), .val (.ref b4_38), .val (.ref b71), .val (.int (0 : Int32)), .val (.int (1 : Int32)), .val (.int (1 : Int32)), .val (.ref b4_15), .val .null, .val (.int (2 : Int32)), .val (.int (1 : Int32))] [(.int (1 : Int32))])) _
            refine XS.ifYes X421.here hx rfl (pc0 := 228) (pc' := 233) rfl (hb hby at_228) rfl ((if0 _ _).trans (feq (by decide : ¬ ((1 : Int32) = (0 : Int32)))).2) (by decide) (by decide) ?_
            refine XS.iload X421.here hx rfl (hb hby at_233) rfl ?_
            refine XS.iconst X421.here hx rfl (hb hby at_235) ?_
            refine XS.icmpYes X421.here hx rfl (pc0 := 236) (pc' := 255) rfl (hb hby at_236) rfl (tlt (by decide : (2 : Int32) < (3 : Int32))).1 (by decide) (by decide) ?_
            show Steps p.tables e below (T421.setTop (mkF m 255 #[.val (.int p0), .val (.int p1), .val (.int p2), .val (.ref b4_1), .val (.ref b4_15), .val (.ref b4_38), .val (.ref b71), .val (.int (0 : Int32)), .val (.int (1 : Int32)), .val (.int (1 : Int32)), .val (.ref b4_15), .val .null, .val (.int (2 : Int32)), .val (.int (1 : Int32))] [])) _
            refine XS.aload X421.here hx rfl (hb hby at_255) rfl rfl ?_
            refine XS.iload X421.here hx rfl (hb hby at_257) rfl ?_
            refine st423.trans ?_
            show Steps p.tables e below (T423.setTop (mkF m 262 #[.val (.int p0), .val (.int p1), .val (.int p2), .val (.ref b4_1), .val (.ref b4_15), .val (.ref b4_38), .val (.ref b71), .val (.int (0 : Int32)), .val (.int (1 : Int32)), .val (.int (1 : Int32)), .val (.ref b4_15), .val .null, .val (.int (2 : Int32)), .val (.int (1 : Int32))] [(.ref b4_1)])) _
            refine XS.aloadN X423.here hx rfl (hb hby at_262) rfl rfl ?_
            refine st425.trans ?_
            show Steps p.tables e below (T425.setTop (mkF m 266 #[.val (.int p0), .val (.int p1), .val (.int p2), .val (.ref b4_1), .val (.ref b4_15), .val (.ref b4_38), .val (.ref b71), .val (.int (0 : Int32)), .val (.int (1 : Int32)), .val (.int (1 : Int32)), .val (.ref b4_15), .val .null, .val (.int (2 : Int32)), .val (.int (1 : Int32))] [(.int (1 : Int32))])) _
            refine XS.ifNo X425.here hx rfl (hb hby at_266) rfl ((if0 _ _).trans (feq (by decide : ¬ ((1 : Int32) = (0 : Int32)))).1) ?_
            refine XS.aload X425.here hx rfl (hb hby at_269) rfl rfl ?_
            refine XS.iload X425.here hx rfl (hb hby at_271) rfl ?_
            refine st427.trans ?_
            show Steps p.tables e below (T427.setTop (mkF m 276 #[.val (.int p0), .val (.int p1), .val (.int p2), .val (.ref b4_1), .val (.ref b4_15), .val (.ref b4_38), .val (.ref b71), .val (.int (0 : Int32)), .val (.int (1 : Int32)), .val (.int (1 : Int32)), .val (.ref b4_15), .val .null, .val (.int (2 : Int32)), .val (.int (1 : Int32))] [(.ref b4_15)])) _
            refine XS.aload X427.here hx rfl (hb hby at_276) rfl rfl ?_
            refine st429.trans ?_
            show Steps p.tables e below (T429.setTop (mkF m 281 #[.val (.int p0), .val (.int p1), .val (.int p2), .val (.ref b4_1), .val (.ref b4_15), .val (.ref b4_38), .val (.ref b71), .val (.int (0 : Int32)), .val (.int (1 : Int32)), .val (.int (1 : Int32)), .val (.ref b4_15), .val .null, .val (.int (2 : Int32)), .val (.int (1 : Int32))] [(.int (1 : Int32))])) _
            refine XS.ifNo X429.here hx rfl (hb hby at_281) rfl ((if0 _ _).trans (feq (by decide : ¬ ((1 : Int32) = (0 : Int32)))).1) ?_
            refine XS.aload X429.here hx rfl (hb hby at_284) rfl rfl ?_
            refine XS.iload X429.here hx rfl (hb hby at_286) rfl ?_
            refine st431.trans ?_
            show Steps p.tables e below (T431.setTop (mkF m 291 #[.val (.int p0), .val (.int p1), .val (.int p2), .val (.ref b4_1), .val (.ref b4_15), .val (.ref b4_38), .val (.ref b71), .val (.int (0 : Int32)), .val (.int (1 : Int32)), .val (.int (1 : Int32)), .val (.ref b4_15), .val .null, .val (.int (2 : Int32)), .val (.int (1 : Int32))] [(.ref b4_15)])) _
            refine XS.aload X431.here hx rfl (hb hby at_291) rfl rfl ?_
            refine st433.trans ?_
            show Steps p.tables e below (T433.setTop (mkF m 296 #[.val (.int p0), .val (.int p1), .val (.int p2), .val (.ref b4_1), .val (.ref b4_15), .val (.ref b4_38), .val (.ref b71), .val (.int (0 : Int32)), .val (.int (1 : Int32)), .val (.int (1 : Int32)), .val (.ref b4_15), .val .null, .val (.int (2 : Int32)), .val (.int (1 : Int32))] [(.int (own_f19 (own_cb p1) (own_cb p2)))])) _
            refine XS.ifYes X433.here hx rfl (pc0 := 296) (pc' := 301) rfl (hb hby at_296) rfl ((if0 _ _).trans (feq (own_eqs _ _ (Eq.symm (own_e21 _ (own_cb p0) _ _ _ (own_cby p2) (own_cby p1) (own_c2 _ _ _ _ _ hc234 hc305))))).2) (by decide) (by decide) ?_
            refine XS.iconst X433.here hx rfl (hb hby at_301) ?_
            exact k)
        obtain ⟨fs, hr, hrun, hended, hW, hsame⟩ := X433.leave (v := some (.int (1 : Int32))) (fun h => by rw [Bd.returns] at h; cases h) (hlocks := hlk)
        refine ⟨_, _, pre435 _ ?_, hrun, hended, _, _, rfl, ?_, ⟨_, rfl⟩, hW, hsame.mono (by decide) (by decide)⟩
        · show Steps p.tables e below (T433.setTop (mkF m 302 #[.val (.int p0), .val (.int p1), .val (.int p2), .val (.ref b4_1), .val (.ref b4_15), .val (.ref b4_38), .val (.ref b71), .val (.int (0 : Int32)), .val (.int (1 : Int32)), .val (.int (1 : Int32)), .val (.ref b4_15), .val .null, .val (.int (2 : Int32)), .val (.int (1 : Int32))] [(.int (1 : Int32))])) _
          exact retN X433 hx (t := .boolean) Bd.returns (by simp) (hb hby at_302) hr
        · show own_Q0 Z p0 p1 p2 z_COMPACT_STRINGS h0 n0 _ T433.heap _; exact ⟨(by show some (Value.int _) = some (.int (own_f0 p0 p1 p2)); unfold own_f0; rw [if_pos hc197, if_neg hc234, if_neg hc305]), N434⟩
  · obtain ⟨cq436, kq436, q436a, q436b, q436c⟩ := isOf hZ rfl f163
    obtain ⟨_, _, ⟨T436, L436, k436, n436⟩, -, X436, ⟨Lc436, hQ436, l436, y436, z436⟩, st436⟩ := X162.virtualBack hx (y := (⟨"com/example/nestor/nestor/IdTable", "placeOf", "(Ljava/lang/String;)I"⟩ : MethodName)) (z := (⟨"com/example/nestor/nestor/IdTable", "placeOf", "(Ljava/lang/String;)I"⟩ : MethodName)) hown (mvT hZ (hw _ (List.mem_of_getElem? (i := 61) rfl))) (mvT hZ (hw _ (List.mem_of_getElem? (i := 62) rfl))) (notFace_of_selects (args := #[]) (mvT hZ (hw _ (List.mem_of_getElem? (i := 64) rfl)))) (mvT hZ (hw _ (List.mem_of_getElem? (i := 64) rfl))) (mvT hZ (hw _ (List.mem_of_getElem? (i := 63) rfl))) (by decide) (backOf (W := 0) (own_rm9t1f0 l Z a0 hw [] b71 b4_15 (own_y0 (own_cb p0)) k23_103 k2_103 k1_13_15 (own_cb p1) b4_1 k1_13_1 (own_cb p0) z_COMPACT_STRINGS b23_103 b2_103 b1_13_15 hq162_o1 zq162_o1 b1_13_1 (0 : Int32) (0 : Int32) T162.heap n0 zs193 Ov115 HC (own_y0i _) (Nat.ne_of_gt lt24) (own_cby _) (own_cby _) ok174 (own_ok0 _) (own_c1 _ _ _ hc197) f163 f175 P_B_java_lang_String_COMPACT_STRINGS f164 f165 f166 f167 f168 f177 f179 f178 f182 f169 f172 f173 f170 f171 f176 f180 f181 g_b4_15 g_b4_1) hZ (hw _ (List.mem_of_getElem? (i := 65) rfl)) (hw _ (List.mem_of_getElem? (i := 28) rfl)) (by decide) (by decide)) q436a q436c (g := (mkF m 53 #[.val (.int p0), .val (.int p1), .val (.int p2), .val (.ref b4_1), .val (.ref b4_15), .val (.ref b4_38), .val (.ref b71), .val (.int (0 : Int32)), .unset, .unset, .unset, .unset, .unset, .unset] [(.ref b4_15), (.ref b71)])) rfl (by rw [hml]; rfl) (Steps.refl _) (argsL := [(.ref b4_15)]) (rest := []) (lenOf own_pd16 rfl) rfl (by show 2 * 0 + _ ≤ _; exact Nat.le_of_eq rfl) (hb hby at_53) (fun _ _ => ⟨rfl, rfl, (by decide : 10 + 0 ≤ _), (by decide : 52 + 0 ≤ _)⟩)
    dsimp only [Pt.U, Pt.locs, Pt.cells, Pt.slots] at X436 l436 y436 z436 st436 hQ436
    subst y436 z436
    obtain ⟨hq436_o1, zq436_o1, hq436_i0, zq436_i0, rfl, N436q, K436, f437, f438, f439, f440, f441, f442, f443, f444, ok445, f446, f447, ok448⟩ := hQ436
    have f449 : Old Z n0 T436.heap := f175.keep K436 (allS g_b4_15 (allS g_b4_1 all0))
    have f450 : Arv Z T436.heap b1_13_1 k1_13_1 .byte (1 : Int32) [(.int (own_cb p0))] (.int (0 : Int32)) := f176.keep K436 (ninS (Nat.ne_of_lt lt25) (ninS (Ne.symm ne9) nin0))
    have f451 : Arv Z T436.heap b1_13_15 k1_13_15 .byte (1 : Int32) [(.int (own_cb p1))] (.int (0 : Int32)) := f182.keep K436 (ninS (Ne.symm ne23) (ninS (Nat.ne_of_gt lt26) nin0))
    have f452 : Exa Z T436.heap b4_38 "java/lang/String" := f183.keep K436
    have f453 : Fld Z T436.heap b4_38 "java/lang/String" "value" "[B" (.ref b1_13_38) := f184.keep K436 (ninS (Nat.ne_of_gt lt49) (ninS (Nat.ne_of_gt lt47) nin0))
    have f454 : Fld Z T436.heap b4_38 "java/lang/String" "coder" "B" (.int (0 : Int32)) := f185.keep K436 (ninS (Nat.ne_of_gt lt49) (ninS (Nat.ne_of_gt lt47) nin0))
    have f455 : Fld Z T436.heap b4_38 "java/lang/String" "hash" "I" (.int (0 : Int32)) := f186.keep K436 (ninS (Nat.ne_of_gt lt49) (ninS (Nat.ne_of_gt lt47) nin0))
    have f456 : Fld Z T436.heap b4_38 "java/lang/String" "hashIsZero" "Z" (.int (0 : Int32)) := f187.keep K436 (ninS (Nat.ne_of_gt lt49) (ninS (Nat.ne_of_gt lt47) nin0))
    have f457 : Arv Z T436.heap b1_13_38 k1_13_38 .byte (1 : Int32) [(.int (own_cb p2))] (.int (0 : Int32)) := f188.keep K436 (ninS (Nat.ne_of_gt lt53) (ninS (Nat.ne_of_gt lt51) nin0))
    have f458 : Exa Z T436.heap b71 "com/example/nestor/nestor/IdTable" := f163.keep K436
    have f459 : Fld Z T436.heap b71 "com/example/nestor/nestor/IdTable" "ids" "[Ljava/lang/String;" (.ref b2_103) := f166.keep K436 (ninS (Nat.ne_of_gt lt74) (ninS (Nat.ne_of_gt lt72) nin0))
    have f460 : Fld Z T436.heap b71 "com/example/nestor/nestor/IdTable" "slots" "[I" (.ref b23_103) := f164.keep K436 (ninS (Nat.ne_of_gt lt74) (ninS (Nat.ne_of_gt lt72) nin0))
    have f461 : Fld Z T436.heap b71 "com/example/nestor/nestor/IdTable" "size" "I" (.int (1 : Int32)) := f168.keep K436 (ninS (Nat.ne_of_gt lt74) (ninS (Nat.ne_of_gt lt72) nin0))
    have f462 : Arv Z T436.heap b2_103 k2_103 (.object "java/lang/String") (8 : Int32) [(.ref b4_1), .null, .null, .null, .null, .null, .null, .null] .null := f167.keep K436 (ninS (Nat.ne_of_gt lt121) (ninS (Nat.ne_of_gt lt119) nin0))
    have f463 : Arv Z T436.heap b23_103 k23_103 .int (16 : Int32) (own_t1 (own_y0 (own_cb p0))) (.int (0 : Int32)) := f165.keep K436 (ninS (Nat.ne_of_gt lt128) (ninS (Nat.ne_of_gt lt126) nin0))
    have f464 : Exa Z T436.heap b46_103 "java/util/TreeMap" := f189.keep K436
    have f465 : Fld Z T436.heap b46_103 "java/util/TreeMap" "size" "I" (.int (0 : Int32)) := f190.keep K436 (ninS (Nat.ne_of_gt lt135) (ninS (Nat.ne_of_gt lt133) nin0))
    have f466 : Fld Z T436.heap b46_103 "java/util/TreeMap" "modCount" "I" (.int (0 : Int32)) := f191.keep K436 (ninS (Nat.ne_of_gt lt135) (ninS (Nat.ne_of_gt lt133) nin0))
    have f467 : Fld Z T436.heap b46_103 "java/util/TreeMap" "comparator" "Ljava/util/Comparator;" .null := f192.keep K436 (ninS (Nat.ne_of_gt lt135) (ninS (Nat.ne_of_gt lt133) nin0))
    have zs468 : n0 ≤ T436.heap.size := Nat.le_trans zs193 K436.1
    have K469 : Keep h0 T436.heap [] := K194.trans K436 (allS (Or.inr sz_b4_15) (allS (Or.inr sz_b4_1) all0))
    have N470 : Fr n0 L436 := by rw [l436]; exact Fr.app N195 N436q
    have pre471 : ∀ t, Steps p.tables e below (T436.setTop (mkF m 62 #[.val (.int p0), .val (.int p1), .val (.int p2), .val (.ref b4_1), .val (.ref b4_15), .val (.ref b4_38), .val (.ref b71), .val (.int (0 : Int32)), .val (.int (0 : Int32)), .unset, .unset, .unset, .unset, .unset] [(.ref b4_38), (.ref b71)])) t → Steps p.tables e below (s₁.setTop (entryFrame m #[(.int p0), (.int p1), (.int p2)] maxLocals)) t := fun t k => pre196 t (by
        refine st436.trans ?_
        show Steps p.tables e below (T436.setTop (mkF m 56 #[.val (.int p0), .val (.int p1), .val (.int p2), .val (.ref b4_1), .val (.ref b4_15), .val (.ref b4_38), .val (.ref b71), .val (.int (0 : Int32)), .unset, .unset, .unset, .unset, .unset, .unset] [(.int (0 : Int32))])) _
        refine XS.istore X436.here hx rfl (hb hby at_56) rfl (l' := #[.val (.int p0), .val (.int p1), .val (.int p2), .val (.ref b4_1), .val (.ref b4_15), .val (.ref b4_38), .val (.ref b71), .val (.int (0 : Int32)), .val (.int (0 : Int32)), .unset, .unset, .unset, .unset, .unset]) rfl ?_
        refine XS.aload X436.here hx rfl (hb hby at_58) rfl rfl ?_
        refine XS.aload X436.here hx rfl (hb hby at_60) rfl rfl ?_
        exact k)
    by_cases hc472 : own_f13t1 ((own_cb p2) &&& (255 : Int32)) (own_y0 (own_cb p0)) (own_cb p0) < (0 : Int32)
    · obtain ⟨cq473, kq473, q473a, q473b, q473c⟩ := isOf hZ rfl f458
      obtain ⟨_, _, ⟨T473, L473, k473, n473⟩, -, X473, ⟨Lc473, hQ473, l473, y473, z473⟩, st473⟩ := X436.virtualBack hx (y := (⟨"com/example/nestor/nestor/IdTable", "placeOf", "(Ljava/lang/String;)I"⟩ : MethodName)) (z := (⟨"com/example/nestor/nestor/IdTable", "placeOf", "(Ljava/lang/String;)I"⟩ : MethodName)) hown (mvT hZ (hw _ (List.mem_of_getElem? (i := 61) rfl))) (mvT hZ (hw _ (List.mem_of_getElem? (i := 62) rfl))) (notFace_of_selects (args := #[]) (mvT hZ (hw _ (List.mem_of_getElem? (i := 64) rfl)))) (mvT hZ (hw _ (List.mem_of_getElem? (i := 64) rfl))) (mvT hZ (hw _ (List.mem_of_getElem? (i := 63) rfl))) (by decide) (backOf (W := 0) (own_rm9t1n l Z a0 hw [] b71 b4_38 (own_y0 (own_cb p0)) k23_103 k2_103 k1_13_38 (own_cb p2) b4_1 k1_13_1 (own_cb p0) z_COMPACT_STRINGS b23_103 b2_103 b1_13_38 hq436_i0 zq436_i0 b1_13_1 (0 : Int32) (0 : Int32) T436.heap n0 zs468 Ov115 HC (own_y0i _) (Nat.ne_of_gt lt47) (own_cby _) (own_cby _) ok448 (own_ok0 _) hc472 ne116 (Nat.ne_of_lt lt131) (Nat.ne_of_lt lt124) (Nat.ne_of_lt lt127) (Nat.ne_of_lt lt120) f458 f449 P_B_java_lang_String_COMPACT_STRINGS f460 f463 f459 f462 f461 f452 f454 f453 f457 f440 f446 f447 f441 f442 f450 f455 f456 g_b4_38 g_b4_1 g_b2_103 g_b71 g_b23_103) hZ (hw _ (List.mem_of_getElem? (i := 65) rfl)) (hw _ (List.mem_of_getElem? (i := 28) rfl)) (by decide) (by decide)) q473a q473c (g := (mkF m 62 #[.val (.int p0), .val (.int p1), .val (.int p2), .val (.ref b4_1), .val (.ref b4_15), .val (.ref b4_38), .val (.ref b71), .val (.int (0 : Int32)), .val (.int (0 : Int32)), .unset, .unset, .unset, .unset, .unset] [(.ref b4_38), (.ref b71)])) rfl (by rw [hml]; rfl) (Steps.refl _) (argsL := [(.ref b4_38)]) (rest := []) (lenOf own_pd16 rfl) rfl (by show 2 * 0 + _ ≤ _; exact Nat.le_of_eq rfl) (hb hby at_62) (fun _ _ => ⟨rfl, rfl, (by decide : 10 + 0 ≤ _), (by decide : 52 + 0 ≤ _)⟩)
      dsimp only [Pt.U, Pt.locs, Pt.cells, Pt.slots] at X473 l473 y473 z473 st473 hQ473
      subst y473 z473
      obtain ⟨hq473_o1, zq473_o1, hq473_i0, zq473_i0, rfl, N473q, K473, f474, f475, f476, f477, f478, f479, f480, f481, f482, f483, f484, f485, f486, f487, ok488, f489, f490, ok491⟩ := hQ473
      have f492 : Old Z n0 T473.heap := f449.keep K473 (allS g_b71 (allS g_b4_38 (allS g_b4_1 (allS g_b23_103 (allS g_b2_103 all0)))))
      have f493 : Arv Z T473.heap b1_13_1 k1_13_1 .byte (1 : Int32) [(.int (own_cb p0))] (.int (0 : Int32)) := f450.keep K473 (ninS (Nat.ne_of_lt lt73) (ninS (Nat.ne_of_lt lt48) (ninS (Ne.symm ne9) (ninS (Nat.ne_of_lt lt127) (ninS (Nat.ne_of_lt lt120) nin0)))))
      have f494 : Exa Z T473.heap b4_15 "java/lang/String" := f437.keep K473
      have f495 : Fld Z T473.heap b4_15 "java/lang/String" "value" "[B" (.ref b1_13_15) := f439.keep K473 (ninS (Nat.ne_of_lt lt74) (ninS (Nat.ne_of_lt lt49) (ninS (Nat.ne_of_gt lt24) (ninS (Nat.ne_of_lt lt128) (ninS (Nat.ne_of_lt lt121) nin0)))))
      have f496 : Fld Z T473.heap b4_15 "java/lang/String" "coder" "B" (.int (0 : Int32)) := f438.keep K473 (ninS (Nat.ne_of_lt lt74) (ninS (Nat.ne_of_lt lt49) (ninS (Nat.ne_of_gt lt24) (ninS (Nat.ne_of_lt lt128) (ninS (Nat.ne_of_lt lt121) nin0)))))
      have f497 : Fld Z T473.heap b4_15 "java/lang/String" "hash" "I" (.int hq436_o1) := f443.keep K473 (ninS (Nat.ne_of_lt lt74) (ninS (Nat.ne_of_lt lt49) (ninS (Nat.ne_of_gt lt24) (ninS (Nat.ne_of_lt lt128) (ninS (Nat.ne_of_lt lt121) nin0)))))
      have f498 : Fld Z T473.heap b4_15 "java/lang/String" "hashIsZero" "Z" (.int zq436_o1) := f444.keep K473 (ninS (Nat.ne_of_lt lt74) (ninS (Nat.ne_of_lt lt49) (ninS (Nat.ne_of_gt lt24) (ninS (Nat.ne_of_lt lt128) (ninS (Nat.ne_of_lt lt121) nin0)))))
      have f499 : Arv Z T473.heap b1_13_15 k1_13_15 .byte (1 : Int32) [(.int (own_cb p1))] (.int (0 : Int32)) := f451.keep K473 (ninS (Nat.ne_of_lt lt75) (ninS (Nat.ne_of_lt lt50) (ninS (Nat.ne_of_gt lt26) (ninS (Nat.ne_of_lt lt129) (ninS (Nat.ne_of_lt lt122) nin0)))))
      have f500 : Arv Z T473.heap b1_13_38 k1_13_38 .byte (1 : Int32) [(.int (own_cb p2))] (.int (0 : Int32)) := f457.keep K473 (ninS (Nat.ne_of_lt lt77) (ninS (Ne.symm ne46) (ninS (Nat.ne_of_gt lt51) (ninS (Nat.ne_of_lt lt131) (ninS (Nat.ne_of_lt lt124) nin0)))))
      have f501 : Exa Z T473.heap b46_103 "java/util/TreeMap" := f464.keep K473
      have f502 : Fld Z T473.heap b46_103 "java/util/TreeMap" "size" "I" (.int (0 : Int32)) := f465.keep K473 (ninS (Nat.ne_of_gt lt139) (ninS (Nat.ne_of_gt lt137) (ninS (Nat.ne_of_gt lt133) (ninS (Ne.symm ne118) (ninS (Ne.symm ne117) nin0)))))
      have f503 : Fld Z T473.heap b46_103 "java/util/TreeMap" "modCount" "I" (.int (0 : Int32)) := f466.keep K473 (ninS (Nat.ne_of_gt lt139) (ninS (Nat.ne_of_gt lt137) (ninS (Nat.ne_of_gt lt133) (ninS (Ne.symm ne118) (ninS (Ne.symm ne117) nin0)))))
      have f504 : Fld Z T473.heap b46_103 "java/util/TreeMap" "comparator" "Ljava/util/Comparator;" .null := f467.keep K473 (ninS (Nat.ne_of_gt lt139) (ninS (Nat.ne_of_gt lt137) (ninS (Nat.ne_of_gt lt133) (ninS (Ne.symm ne118) (ninS (Ne.symm ne117) nin0)))))
      have zs505 : n0 ≤ T473.heap.size := Nat.le_trans zs468 K473.1
      have K506 : Keep h0 T473.heap [] := K469.trans K473 (allS (Or.inr sz_b71) (allS (Or.inr sz_b4_38) (allS (Or.inr sz_b4_1) (allS (Or.inr sz_b23_103) (allS (Or.inr sz_b2_103) all0)))))
      have N507 : Fr n0 L473 := by rw [l473]; exact Fr.app N470 N473q
      have f509 : Sta Z T473.heap "java/lang/String" "COMPACT_STRINGS" "Z" (.int z_COMPACT_STRINGS) := P_B_java_lang_String_COMPACT_STRINGS.ext f492.2
      obtain ⟨cq508, kq508, q508a, q508b, q508c⟩ := isOf hZ rfl f494
      obtain ⟨_, _, ⟨T508, L508, k508, n508⟩, -, X508, ⟨Lc508, hQ508, l508, y508, z508⟩, st508⟩ := X473.virtualBack hx (y := (⟨"java/lang/String", "equals", "(Ljava/lang/Object;)Z"⟩ : MethodName)) (z := (⟨"java/lang/String", "equals", "(Ljava/lang/Object;)Z"⟩ : MethodName)) hown (mvT hZ (hw _ (List.mem_of_getElem? (i := 112) rfl))) (mvT hZ (hw _ (List.mem_of_getElem? (i := 113) rfl))) (notFace_of_selects (args := #[]) (mvT hZ (hw _ (List.mem_of_getElem? (i := 115) rfl)))) (mvT hZ (hw _ (List.mem_of_getElem? (i := 115) rfl))) (mvT hZ (hw _ (List.mem_of_getElem? (i := 114) rfl))) (by decide) (backOf (W := 0) (own_rm19 l Z a0 hw [] b4_15 b4_1 z_COMPACT_STRINGS b1_13_15 b1_13_1 k1_13_15 (own_cb p1) k1_13_1 (own_cb p0) T473.heap n0 zs505 HC (Nat.ne_of_gt lt24) f496 f484 f483 f509 f495 f485 f499 f493) hZ (hw _ (List.mem_of_getElem? (i := 116) rfl)) (hw _ (List.mem_of_getElem? (i := 2) rfl)) (by decide) (by decide)) q508a q508c (g := (mkF m 79 #[.val (.int p0), .val (.int p1), .val (.int p2), .val (.ref b4_1), .val (.ref b4_15), .val (.ref b4_38), .val (.ref b71), .val (.int (0 : Int32)), .val (.int (0 : Int32)), .val (.int (1 : Int32)), .val .null, .val .null, .val (.int (1 : Int32)), .unset] [(.ref b4_1), (.ref b4_15)])) rfl (by rw [hml]; rfl) (Steps.refl _) (argsL := [(.ref b4_1)]) (rest := []) (lenOf own_pd10 rfl) rfl (by show 2 * 0 + _ ≤ _; exact Nat.le_of_eq rfl) (hb hby at_79) (fun _ _ => ⟨rfl, rfl, (by decide : 10 + 0 ≤ _), (by decide : 52 + 0 ≤ _)⟩)
      dsimp only [Pt.U, Pt.locs, Pt.cells, Pt.slots] at X508 l508 y508 z508 st508 hQ508
      subst y508 z508
      obtain ⟨rfl, N508q, e508⟩ := hQ508
      have N510 : Fr n0 L508 := by rw [l508]; exact Fr.app N507 N508q
      obtain ⟨cq511, kq511, q511a, q511b, q511c⟩ := isOf hZ e508 f480
      obtain ⟨_, _, ⟨T511, L511, k511, n511⟩, -, X511, ⟨Lc511, hQ511, l511, y511, z511⟩, st511⟩ := X508.virtualBack hx (y := (⟨"java/lang/String", "equals", "(Ljava/lang/Object;)Z"⟩ : MethodName)) (z := (⟨"java/lang/String", "equals", "(Ljava/lang/Object;)Z"⟩ : MethodName)) hown (mvT hZ (hw _ (List.mem_of_getElem? (i := 112) rfl))) (mvT hZ (hw _ (List.mem_of_getElem? (i := 113) rfl))) (notFace_of_selects (args := #[]) (mvT hZ (hw _ (List.mem_of_getElem? (i := 115) rfl)))) (mvT hZ (hw _ (List.mem_of_getElem? (i := 115) rfl))) (mvT hZ (hw _ (List.mem_of_getElem? (i := 114) rfl))) (by decide) (backOf (W := 0) (own_rm19 l Z a0 hw [] b4_38 b4_1 z_COMPACT_STRINGS b1_13_38 b1_13_1 k1_13_38 (own_cb p2) k1_13_1 (own_cb p0) T473.heap n0 zs505 HC (Nat.ne_of_gt lt47) f481 f484 f483 f509 f482 f485 f500 f493) hZ (hw _ (List.mem_of_getElem? (i := 116) rfl)) (hw _ (List.mem_of_getElem? (i := 2) rfl)) (by decide) (by decide)) q511a q511c (g := (mkF m 95 #[.val (.int p0), .val (.int p1), .val (.int p2), .val (.ref b4_1), .val (.ref b4_15), .val (.ref b4_38), .val (.ref b71), .val (.int (0 : Int32)), .val (.int (0 : Int32)), .val (.int (1 : Int32)), .val .null, .val .null, .val (.int (1 : Int32)), .unset] [(.ref b4_1), (.ref b4_38)])) rfl (by rw [hml]; rfl) (Steps.refl _) (argsL := [(.ref b4_1)]) (rest := []) (lenOf own_pd10 rfl) rfl (by show 2 * 0 + _ ≤ _; exact Nat.le_of_eq rfl) (hb hby at_95) (fun _ _ => ⟨rfl, e508, (by decide : 10 + 0 ≤ _), (by decide : 52 + 0 ≤ _)⟩)
      dsimp only [Pt.U, Pt.locs, Pt.cells, Pt.slots] at X511 l511 y511 z511 st511 hQ511
      subst y511 z511
      obtain ⟨rfl, N511q, e511⟩ := hQ511
      have N512 : Fr n0 L511 := by rw [l511]; exact Fr.app N510 N511q
      obtain ⟨cq513, kq513, q513a, q513b, q513c⟩ := isOf hZ e511 f480
      obtain ⟨_, _, ⟨T513, L513, k513, n513⟩, -, X513, ⟨Lc513, hQ513, l513, y513, z513⟩, st513⟩ := X511.virtualBack hx (y := (⟨"java/lang/String", "equals", "(Ljava/lang/Object;)Z"⟩ : MethodName)) (z := (⟨"java/lang/String", "equals", "(Ljava/lang/Object;)Z"⟩ : MethodName)) hown (mvT hZ (hw _ (List.mem_of_getElem? (i := 112) rfl))) (mvT hZ (hw _ (List.mem_of_getElem? (i := 113) rfl))) (notFace_of_selects (args := #[]) (mvT hZ (hw _ (List.mem_of_getElem? (i := 115) rfl)))) (mvT hZ (hw _ (List.mem_of_getElem? (i := 115) rfl))) (mvT hZ (hw _ (List.mem_of_getElem? (i := 114) rfl))) (by decide) (backOf (W := 0) (own_rm19 l Z a0 hw [] b4_38 b4_15 z_COMPACT_STRINGS b1_13_38 b1_13_15 k1_13_38 (own_cb p2) k1_13_15 (own_cb p1) T473.heap n0 zs505 HC (Nat.ne_of_gt lt49) f481 f496 f494 f509 f482 f495 f500 f499) hZ (hw _ (List.mem_of_getElem? (i := 116) rfl)) (hw _ (List.mem_of_getElem? (i := 2) rfl)) (by decide) (by decide)) q513a q513c (g := (mkF m 105 #[.val (.int p0), .val (.int p1), .val (.int p2), .val (.ref b4_1), .val (.ref b4_15), .val (.ref b4_38), .val (.ref b71), .val (.int (0 : Int32)), .val (.int (0 : Int32)), .val (.int (1 : Int32)), .val .null, .val .null, .val (.int (1 : Int32)), .unset] [(.ref b4_15), (.ref b4_38)])) rfl (by rw [hml]; rfl) (Steps.refl _) (argsL := [(.ref b4_15)]) (rest := []) (lenOf own_pd10 rfl) rfl (by show 2 * 0 + _ ≤ _; exact Nat.le_of_eq rfl) (hb hby at_105) (fun _ _ => ⟨rfl, e511, (by decide : 10 + 0 ≤ _), (by decide : 52 + 0 ≤ _)⟩)
      dsimp only [Pt.U, Pt.locs, Pt.cells, Pt.slots] at X513 l513 y513 z513 st513 hQ513
      subst y513 z513
      obtain ⟨rfl, N513q, e513⟩ := hQ513
      have N514 : Fr n0 L513 := by rw [l513]; exact Fr.app N512 N513q
      obtain ⟨cq515, kq515, q515a, q515b, q515c⟩ := isOf hZ e513 f474
      obtain ⟨_, _, ⟨T515, L515, k515, n515⟩, -, X515, ⟨Lc515, hQ515, l515, y515, z515⟩, st515⟩ := X513.virtualBack hx (y := (⟨"com/example/nestor/nestor/IdTable", "size", "()I"⟩ : MethodName)) (z := (⟨"com/example/nestor/nestor/IdTable", "size", "()I"⟩ : MethodName)) hown (mvT hZ (hw _ (List.mem_of_getElem? (i := 120) rfl))) (mvT hZ (hw _ (List.mem_of_getElem? (i := 121) rfl))) (notFace_of_selects (args := #[]) (mvT hZ (hw _ (List.mem_of_getElem? (i := 123) rfl)))) (mvT hZ (hw _ (List.mem_of_getElem? (i := 123) rfl))) (mvT hZ (hw _ (List.mem_of_getElem? (i := 122) rfl))) (by decide) (backOf (W := 0) (own_rm21 l Z a0 hw [] b71 (2 : Int32) T473.heap n0 zs505 f479) hZ (hw _ (List.mem_of_getElem? (i := 124) rfl)) (hw _ (List.mem_of_getElem? (i := 28) rfl)) (by decide) (by decide)) q515a q515c (g := (mkF m 148 #[.val (.int p0), .val (.int p1), .val (.int p2), .val (.ref b4_1), .val (.ref b4_15), .val (.ref b4_38), .val (.ref b71), .val (.int (0 : Int32)), .val (.int (0 : Int32)), .val (.int (1 : Int32)), .val (.ref b4_38), .val .null, .val (.int (2 : Int32)), .val (.int (0 : Int32))] [(.ref b71)])) rfl (by rw [hml]; rfl) (Steps.refl _) (argsL := []) (rest := []) (lenOf own_pd9 rfl) rfl (by show 2 * 0 + _ ≤ _; exact Nat.le_of_eq rfl) (hb hby at_148) (fun _ _ => ⟨rfl, e513, (by decide : 10 + 0 ≤ _), (by decide : 52 + 0 ≤ _)⟩)
      dsimp only [Pt.U, Pt.locs, Pt.cells, Pt.slots] at X515 l515 y515 z515 st515 hQ515
      subst y515 z515
      obtain ⟨rfl, N515q, e515⟩ := hQ515
      have N516 : Fr n0 L515 := by rw [l515]; exact Fr.app N514 N515q
      obtain ⟨cq517, kq517, q517a, q517b, q517c⟩ := isOf hZ e515 f474
      obtain ⟨_, _, ⟨T517, L517, k517, n517⟩, -, X517, ⟨Lc517, hQ517, l517, y517, z517⟩, st517⟩ := X515.virtualBack hx (y := (⟨"com/example/nestor/nestor/IdTable", "id", "(I)Ljava/lang/String;"⟩ : MethodName)) (z := (⟨"com/example/nestor/nestor/IdTable", "id", "(I)Ljava/lang/String;"⟩ : MethodName)) hown (mvT hZ (hw _ (List.mem_of_getElem? (i := 125) rfl))) (mvT hZ (hw _ (List.mem_of_getElem? (i := 126) rfl))) (notFace_of_selects (args := #[]) (mvT hZ (hw _ (List.mem_of_getElem? (i := 128) rfl)))) (mvT hZ (hw _ (List.mem_of_getElem? (i := 128) rfl))) (mvT hZ (hw _ (List.mem_of_getElem? (i := 127) rfl))) (by decide) (backOf (W := 0) (own_rm22n2k0 l Z a0 hw [] b71 b2_103 k2_103 b4_1 b4_38 T473.heap n0 zs505 f479 f477 Ov115 f478) hZ (hw _ (List.mem_of_getElem? (i := 129) rfl)) (hw _ (List.mem_of_getElem? (i := 28) rfl)) (by decide) (by decide)) q517a q517c (g := (mkF m 199 #[.val (.int p0), .val (.int p1), .val (.int p2), .val (.ref b4_1), .val (.ref b4_15), .val (.ref b4_38), .val (.ref b71), .val (.int (0 : Int32)), .val (.int (0 : Int32)), .val (.int (1 : Int32)), .val (.ref b4_38), .val .null, .val (.int (2 : Int32)), .val (.int (0 : Int32))] [(.int (0 : Int32)), (.ref b71)])) rfl (by rw [hml]; rfl) (Steps.refl _) (argsL := [(.int (0 : Int32))]) (rest := []) (lenOf own_pd17 rfl) rfl (by show 2 * 0 + _ ≤ _; exact Nat.le_of_eq rfl) (hb hby at_199) (fun _ _ => ⟨rfl, e515, (by decide : 10 + 0 ≤ _), (by decide : 52 + 0 ≤ _)⟩)
      dsimp only [Pt.U, Pt.locs, Pt.cells, Pt.slots] at X517 l517 y517 z517 st517 hQ517
      subst y517 z517
      obtain ⟨rfl, N517q, e517⟩ := hQ517
      have N518 : Fr n0 L517 := by rw [l517]; exact Fr.app N516 N517q
      obtain ⟨cq519, kq519, q519a, q519b, q519c⟩ := isOf hZ e517 f483
      obtain ⟨_, _, ⟨T519, L519, k519, n519⟩, -, X519, ⟨Lc519, hQ519, l519, y519, z519⟩, st519⟩ := X517.virtualBack hx (y := (⟨"java/lang/String", "equals", "(Ljava/lang/Object;)Z"⟩ : MethodName)) (z := (⟨"java/lang/String", "equals", "(Ljava/lang/Object;)Z"⟩ : MethodName)) hown (mvT hZ (hw _ (List.mem_of_getElem? (i := 112) rfl))) (mvT hZ (hw _ (List.mem_of_getElem? (i := 113) rfl))) (notFace_of_selects (args := #[]) (mvT hZ (hw _ (List.mem_of_getElem? (i := 115) rfl)))) (mvT hZ (hw _ (List.mem_of_getElem? (i := 115) rfl))) (mvT hZ (hw _ (List.mem_of_getElem? (i := 114) rfl))) (by decide) (backOf (W := 0) (own_rm19s l Z a0 hw [] b4_1 T473.heap n0 zs505 ) hZ (hw _ (List.mem_of_getElem? (i := 116) rfl)) (hw _ (List.mem_of_getElem? (i := 2) rfl)) (by decide) (by decide)) q519a q519c (g := (mkF m 203 #[.val (.int p0), .val (.int p1), .val (.int p2), .val (.ref b4_1), .val (.ref b4_15), .val (.ref b4_38), .val (.ref b71), .val (.int (0 : Int32)), .val (.int (0 : Int32)), .val (.int (1 : Int32)), .val (.ref b4_38), .val .null, .val (.int (2 : Int32)), .val (.int (0 : Int32))] [(.ref b4_1), (.ref b4_1)])) rfl (by rw [hml]; rfl) (Steps.refl _) (argsL := [(.ref b4_1)]) (rest := []) (lenOf own_pd10 rfl) rfl (by show 2 * 0 + _ ≤ _; exact Nat.le_of_eq rfl) (hb hby at_203) (fun _ _ => ⟨rfl, e517, (by decide : 10 + 0 ≤ _), (by decide : 52 + 0 ≤ _)⟩)
      dsimp only [Pt.U, Pt.locs, Pt.cells, Pt.slots] at X519 l519 y519 z519 st519 hQ519
      subst y519 z519
      obtain ⟨rfl, N519q, e519⟩ := hQ519
      have N520 : Fr n0 L519 := by rw [l519]; exact Fr.app N518 N519q
      obtain ⟨cq521, kq521, q521a, q521b, q521c⟩ := isOf hZ e519 f474
      obtain ⟨_, _, ⟨T521, L521, k521, n521⟩, -, X521, ⟨Lc521, hQ521, l521, y521, z521⟩, st521⟩ := X519.virtualBack hx (y := (⟨"com/example/nestor/nestor/IdTable", "id", "(I)Ljava/lang/String;"⟩ : MethodName)) (z := (⟨"com/example/nestor/nestor/IdTable", "id", "(I)Ljava/lang/String;"⟩ : MethodName)) hown (mvT hZ (hw _ (List.mem_of_getElem? (i := 125) rfl))) (mvT hZ (hw _ (List.mem_of_getElem? (i := 126) rfl))) (notFace_of_selects (args := #[]) (mvT hZ (hw _ (List.mem_of_getElem? (i := 128) rfl)))) (mvT hZ (hw _ (List.mem_of_getElem? (i := 128) rfl))) (mvT hZ (hw _ (List.mem_of_getElem? (i := 127) rfl))) (by decide) (backOf (W := 0) (own_rm22n2k1 l Z a0 hw [] b71 b2_103 k2_103 b4_1 b4_38 T473.heap n0 zs505 f479 f477 Ov115 f478) hZ (hw _ (List.mem_of_getElem? (i := 129) rfl)) (hw _ (List.mem_of_getElem? (i := 28) rfl)) (by decide) (by decide)) q521a q521c (g := (mkF m 220 #[.val (.int p0), .val (.int p1), .val (.int p2), .val (.ref b4_1), .val (.ref b4_15), .val (.ref b4_38), .val (.ref b71), .val (.int (0 : Int32)), .val (.int (0 : Int32)), .val (.int (1 : Int32)), .val (.ref b4_38), .val .null, .val (.int (2 : Int32)), .val (.int (0 : Int32))] [(.int (1 : Int32)), (.ref b71)])) rfl (by rw [hml]; rfl) (Steps.refl _) (argsL := [(.int (1 : Int32))]) (rest := []) (lenOf own_pd17 rfl) rfl (by show 2 * 0 + _ ≤ _; exact Nat.le_of_eq rfl) (hb hby at_220) (fun _ _ => ⟨rfl, e519, (by decide : 10 + 0 ≤ _), (by decide : 52 + 0 ≤ _)⟩)
      dsimp only [Pt.U, Pt.locs, Pt.cells, Pt.slots] at X521 l521 y521 z521 st521 hQ521
      subst y521 z521
      obtain ⟨rfl, N521q, e521⟩ := hQ521
      have N522 : Fr n0 L521 := by rw [l521]; exact Fr.app N520 N521q
      obtain ⟨cq523, kq523, q523a, q523b, q523c⟩ := isOf hZ e521 f480
      obtain ⟨_, _, ⟨T523, L523, k523, n523⟩, -, X523, ⟨Lc523, hQ523, l523, y523, z523⟩, st523⟩ := X521.virtualBack hx (y := (⟨"java/lang/String", "equals", "(Ljava/lang/Object;)Z"⟩ : MethodName)) (z := (⟨"java/lang/String", "equals", "(Ljava/lang/Object;)Z"⟩ : MethodName)) hown (mvT hZ (hw _ (List.mem_of_getElem? (i := 112) rfl))) (mvT hZ (hw _ (List.mem_of_getElem? (i := 113) rfl))) (notFace_of_selects (args := #[]) (mvT hZ (hw _ (List.mem_of_getElem? (i := 115) rfl)))) (mvT hZ (hw _ (List.mem_of_getElem? (i := 115) rfl))) (mvT hZ (hw _ (List.mem_of_getElem? (i := 114) rfl))) (by decide) (backOf (W := 0) (own_rm19s l Z a0 hw [] b4_38 T473.heap n0 zs505 ) hZ (hw _ (List.mem_of_getElem? (i := 116) rfl)) (hw _ (List.mem_of_getElem? (i := 2) rfl)) (by decide) (by decide)) q523a q523c (g := (mkF m 225 #[.val (.int p0), .val (.int p1), .val (.int p2), .val (.ref b4_1), .val (.ref b4_15), .val (.ref b4_38), .val (.ref b71), .val (.int (0 : Int32)), .val (.int (0 : Int32)), .val (.int (1 : Int32)), .val (.ref b4_38), .val .null, .val (.int (2 : Int32)), .val (.int (0 : Int32))] [(.ref b4_38), (.ref b4_38)])) rfl (by rw [hml]; rfl) (Steps.refl _) (argsL := [(.ref b4_38)]) (rest := []) (lenOf own_pd10 rfl) rfl (by show 2 * 0 + _ ≤ _; exact Nat.le_of_eq rfl) (hb hby at_225) (fun _ _ => ⟨rfl, e521, (by decide : 10 + 0 ≤ _), (by decide : 52 + 0 ≤ _)⟩)
      dsimp only [Pt.U, Pt.locs, Pt.cells, Pt.slots] at X523 l523 y523 z523 st523 hQ523
      subst y523 z523
      obtain ⟨rfl, N523q, e523⟩ := hQ523
      have N524 : Fr n0 L523 := by rw [l523]; exact Fr.app N522 N523q
      obtain ⟨cq525, kq525, q525a, q525b, q525c⟩ := isOf hZ e523 f474
      obtain ⟨_, _, ⟨T525, L525, k525, n525⟩, -, X525, ⟨Lc525, hQ525, l525, y525, z525⟩, st525⟩ := X523.virtualBack hx (y := (⟨"com/example/nestor/nestor/IdTable", "id", "(I)Ljava/lang/String;"⟩ : MethodName)) (z := (⟨"com/example/nestor/nestor/IdTable", "id", "(I)Ljava/lang/String;"⟩ : MethodName)) hown (mvT hZ (hw _ (List.mem_of_getElem? (i := 125) rfl))) (mvT hZ (hw _ (List.mem_of_getElem? (i := 126) rfl))) (notFace_of_selects (args := #[]) (mvT hZ (hw _ (List.mem_of_getElem? (i := 128) rfl)))) (mvT hZ (hw _ (List.mem_of_getElem? (i := 128) rfl))) (mvT hZ (hw _ (List.mem_of_getElem? (i := 127) rfl))) (by decide) (backOf (W := 0) (own_rm22n2k0 l Z a0 hw [] b71 b2_103 k2_103 b4_1 b4_38 T473.heap n0 zs505 f479 f477 Ov115 f478) hZ (hw _ (List.mem_of_getElem? (i := 129) rfl)) (hw _ (List.mem_of_getElem? (i := 28) rfl)) (by decide) (by decide)) q525a q525c (g := (mkF m 259 #[.val (.int p0), .val (.int p1), .val (.int p2), .val (.ref b4_1), .val (.ref b4_15), .val (.ref b4_38), .val (.ref b71), .val (.int (0 : Int32)), .val (.int (0 : Int32)), .val (.int (1 : Int32)), .val (.ref b4_38), .val .null, .val (.int (2 : Int32)), .val (.int (0 : Int32))] [(.int (0 : Int32)), (.ref b71)])) rfl (by rw [hml]; rfl) (Steps.refl _) (argsL := [(.int (0 : Int32))]) (rest := []) (lenOf own_pd17 rfl) rfl (by show 2 * 0 + _ ≤ _; exact Nat.le_of_eq rfl) (hb hby at_259) (fun _ _ => ⟨rfl, e523, (by decide : 10 + 0 ≤ _), (by decide : 52 + 0 ≤ _)⟩)
      dsimp only [Pt.U, Pt.locs, Pt.cells, Pt.slots] at X525 l525 y525 z525 st525 hQ525
      subst y525 z525
      obtain ⟨rfl, N525q, e525⟩ := hQ525
      have N526 : Fr n0 L525 := by rw [l525]; exact Fr.app N524 N525q
      obtain ⟨cq527, kq527, q527a, q527b, q527c⟩ := isOf hZ e525 f483
      obtain ⟨_, _, ⟨T527, L527, k527, n527⟩, -, X527, ⟨Lc527, hQ527, l527, y527, z527⟩, st527⟩ := X525.virtualBack hx (y := (⟨"java/lang/String", "equals", "(Ljava/lang/Object;)Z"⟩ : MethodName)) (z := (⟨"java/lang/String", "equals", "(Ljava/lang/Object;)Z"⟩ : MethodName)) hown (mvT hZ (hw _ (List.mem_of_getElem? (i := 112) rfl))) (mvT hZ (hw _ (List.mem_of_getElem? (i := 113) rfl))) (notFace_of_selects (args := #[]) (mvT hZ (hw _ (List.mem_of_getElem? (i := 115) rfl)))) (mvT hZ (hw _ (List.mem_of_getElem? (i := 115) rfl))) (mvT hZ (hw _ (List.mem_of_getElem? (i := 114) rfl))) (by decide) (backOf (W := 0) (own_rm19s l Z a0 hw [] b4_1 T473.heap n0 zs505 ) hZ (hw _ (List.mem_of_getElem? (i := 116) rfl)) (hw _ (List.mem_of_getElem? (i := 2) rfl)) (by decide) (by decide)) q527a q527c (g := (mkF m 263 #[.val (.int p0), .val (.int p1), .val (.int p2), .val (.ref b4_1), .val (.ref b4_15), .val (.ref b4_38), .val (.ref b71), .val (.int (0 : Int32)), .val (.int (0 : Int32)), .val (.int (1 : Int32)), .val (.ref b4_38), .val .null, .val (.int (2 : Int32)), .val (.int (0 : Int32))] [(.ref b4_1), (.ref b4_1)])) rfl (by rw [hml]; rfl) (Steps.refl _) (argsL := [(.ref b4_1)]) (rest := []) (lenOf own_pd10 rfl) rfl (by show 2 * 0 + _ ≤ _; exact Nat.le_of_eq rfl) (hb hby at_263) (fun _ _ => ⟨rfl, e525, (by decide : 10 + 0 ≤ _), (by decide : 52 + 0 ≤ _)⟩)
      dsimp only [Pt.U, Pt.locs, Pt.cells, Pt.slots] at X527 l527 y527 z527 st527 hQ527
      subst y527 z527
      obtain ⟨rfl, N527q, e527⟩ := hQ527
      have N528 : Fr n0 L527 := by rw [l527]; exact Fr.app N526 N527q
      obtain ⟨cq529, kq529, q529a, q529b, q529c⟩ := isOf hZ e527 f474
      obtain ⟨_, _, ⟨T529, L529, k529, n529⟩, -, X529, ⟨Lc529, hQ529, l529, y529, z529⟩, st529⟩ := X527.virtualBack hx (y := (⟨"com/example/nestor/nestor/IdTable", "id", "(I)Ljava/lang/String;"⟩ : MethodName)) (z := (⟨"com/example/nestor/nestor/IdTable", "id", "(I)Ljava/lang/String;"⟩ : MethodName)) hown (mvT hZ (hw _ (List.mem_of_getElem? (i := 125) rfl))) (mvT hZ (hw _ (List.mem_of_getElem? (i := 126) rfl))) (notFace_of_selects (args := #[]) (mvT hZ (hw _ (List.mem_of_getElem? (i := 128) rfl)))) (mvT hZ (hw _ (List.mem_of_getElem? (i := 128) rfl))) (mvT hZ (hw _ (List.mem_of_getElem? (i := 127) rfl))) (by decide) (backOf (W := 0) (own_rm22n2k0 l Z a0 hw [] b71 b2_103 k2_103 b4_1 b4_38 T473.heap n0 zs505 f479 f477 Ov115 f478) hZ (hw _ (List.mem_of_getElem? (i := 129) rfl)) (hw _ (List.mem_of_getElem? (i := 28) rfl)) (by decide) (by decide)) q529a q529c (g := (mkF m 273 #[.val (.int p0), .val (.int p1), .val (.int p2), .val (.ref b4_1), .val (.ref b4_15), .val (.ref b4_38), .val (.ref b71), .val (.int (0 : Int32)), .val (.int (0 : Int32)), .val (.int (1 : Int32)), .val (.ref b4_38), .val .null, .val (.int (2 : Int32)), .val (.int (0 : Int32))] [(.int (0 : Int32)), (.ref b71)])) rfl (by rw [hml]; rfl) (Steps.refl _) (argsL := [(.int (0 : Int32))]) (rest := []) (lenOf own_pd17 rfl) rfl (by show 2 * 0 + _ ≤ _; exact Nat.le_of_eq rfl) (hb hby at_273) (fun _ _ => ⟨rfl, e527, (by decide : 10 + 0 ≤ _), (by decide : 52 + 0 ≤ _)⟩)
      dsimp only [Pt.U, Pt.locs, Pt.cells, Pt.slots] at X529 l529 y529 z529 st529 hQ529
      subst y529 z529
      obtain ⟨rfl, N529q, e529⟩ := hQ529
      have N530 : Fr n0 L529 := by rw [l529]; exact Fr.app N528 N529q
      obtain ⟨cq531, kq531, q531a, q531b, q531c⟩ := isOf hZ e529 f483
      obtain ⟨_, _, ⟨T531, L531, k531, n531⟩, -, X531, ⟨Lc531, hQ531, l531, y531, z531⟩, st531⟩ := X529.virtualBack hx (y := (⟨"java/lang/String", "equals", "(Ljava/lang/Object;)Z"⟩ : MethodName)) (z := (⟨"java/lang/String", "equals", "(Ljava/lang/Object;)Z"⟩ : MethodName)) hown (mvT hZ (hw _ (List.mem_of_getElem? (i := 112) rfl))) (mvT hZ (hw _ (List.mem_of_getElem? (i := 113) rfl))) (notFace_of_selects (args := #[]) (mvT hZ (hw _ (List.mem_of_getElem? (i := 115) rfl)))) (mvT hZ (hw _ (List.mem_of_getElem? (i := 115) rfl))) (mvT hZ (hw _ (List.mem_of_getElem? (i := 114) rfl))) (by decide) (backOf (W := 0) (own_rm19 l Z a0 hw [] b4_1 b4_15 z_COMPACT_STRINGS b1_13_1 b1_13_15 k1_13_1 (own_cb p0) k1_13_15 (own_cb p1) T473.heap n0 zs505 HC (Nat.ne_of_lt lt24) f484 f496 f494 f509 f485 f495 f493 f499) hZ (hw _ (List.mem_of_getElem? (i := 116) rfl)) (hw _ (List.mem_of_getElem? (i := 2) rfl)) (by decide) (by decide)) q531a q531c (g := (mkF m 278 #[.val (.int p0), .val (.int p1), .val (.int p2), .val (.ref b4_1), .val (.ref b4_15), .val (.ref b4_38), .val (.ref b71), .val (.int (0 : Int32)), .val (.int (0 : Int32)), .val (.int (1 : Int32)), .val (.ref b4_38), .val .null, .val (.int (2 : Int32)), .val (.int (0 : Int32))] [(.ref b4_15), (.ref b4_1)])) rfl (by rw [hml]; rfl) (Steps.refl _) (argsL := [(.ref b4_15)]) (rest := []) (lenOf own_pd10 rfl) rfl (by show 2 * 0 + _ ≤ _; exact Nat.le_of_eq rfl) (hb hby at_278) (fun _ _ => ⟨rfl, e529, (by decide : 10 + 0 ≤ _), (by decide : 52 + 0 ≤ _)⟩)
      dsimp only [Pt.U, Pt.locs, Pt.cells, Pt.slots] at X531 l531 y531 z531 st531 hQ531
      subst y531 z531
      obtain ⟨rfl, N531q, e531⟩ := hQ531
      have N532 : Fr n0 L531 := by rw [l531]; exact Fr.app N530 N531q
      obtain ⟨cq533, kq533, q533a, q533b, q533c⟩ := isOf hZ e531 f474
      obtain ⟨_, _, ⟨T533, L533, k533, n533⟩, -, X533, ⟨Lc533, hQ533, l533, y533, z533⟩, st533⟩ := X531.virtualBack hx (y := (⟨"com/example/nestor/nestor/IdTable", "id", "(I)Ljava/lang/String;"⟩ : MethodName)) (z := (⟨"com/example/nestor/nestor/IdTable", "id", "(I)Ljava/lang/String;"⟩ : MethodName)) hown (mvT hZ (hw _ (List.mem_of_getElem? (i := 125) rfl))) (mvT hZ (hw _ (List.mem_of_getElem? (i := 126) rfl))) (notFace_of_selects (args := #[]) (mvT hZ (hw _ (List.mem_of_getElem? (i := 128) rfl)))) (mvT hZ (hw _ (List.mem_of_getElem? (i := 128) rfl))) (mvT hZ (hw _ (List.mem_of_getElem? (i := 127) rfl))) (by decide) (backOf (W := 0) (own_rm22n2k1 l Z a0 hw [] b71 b2_103 k2_103 b4_1 b4_38 T473.heap n0 zs505 f479 f477 Ov115 f478) hZ (hw _ (List.mem_of_getElem? (i := 129) rfl)) (hw _ (List.mem_of_getElem? (i := 28) rfl)) (by decide) (by decide)) q533a q533c (g := (mkF m 288 #[.val (.int p0), .val (.int p1), .val (.int p2), .val (.ref b4_1), .val (.ref b4_15), .val (.ref b4_38), .val (.ref b71), .val (.int (0 : Int32)), .val (.int (0 : Int32)), .val (.int (1 : Int32)), .val (.ref b4_38), .val .null, .val (.int (2 : Int32)), .val (.int (0 : Int32))] [(.int (1 : Int32)), (.ref b71)])) rfl (by rw [hml]; rfl) (Steps.refl _) (argsL := [(.int (1 : Int32))]) (rest := []) (lenOf own_pd17 rfl) rfl (by show 2 * 0 + _ ≤ _; exact Nat.le_of_eq rfl) (hb hby at_288) (fun _ _ => ⟨rfl, e531, (by decide : 10 + 0 ≤ _), (by decide : 52 + 0 ≤ _)⟩)
      dsimp only [Pt.U, Pt.locs, Pt.cells, Pt.slots] at X533 l533 y533 z533 st533 hQ533
      subst y533 z533
      obtain ⟨rfl, N533q, e533⟩ := hQ533
      have N534 : Fr n0 L533 := by rw [l533]; exact Fr.app N532 N533q
      obtain ⟨cq535, kq535, q535a, q535b, q535c⟩ := isOf hZ e533 f480
      obtain ⟨_, _, ⟨T535, L535, k535, n535⟩, -, X535, ⟨Lc535, hQ535, l535, y535, z535⟩, st535⟩ := X533.virtualBack hx (y := (⟨"java/lang/String", "equals", "(Ljava/lang/Object;)Z"⟩ : MethodName)) (z := (⟨"java/lang/String", "equals", "(Ljava/lang/Object;)Z"⟩ : MethodName)) hown (mvT hZ (hw _ (List.mem_of_getElem? (i := 112) rfl))) (mvT hZ (hw _ (List.mem_of_getElem? (i := 113) rfl))) (notFace_of_selects (args := #[]) (mvT hZ (hw _ (List.mem_of_getElem? (i := 115) rfl)))) (mvT hZ (hw _ (List.mem_of_getElem? (i := 115) rfl))) (mvT hZ (hw _ (List.mem_of_getElem? (i := 114) rfl))) (by decide) (backOf (W := 0) (own_rm19s l Z a0 hw [] b4_38 T473.heap n0 zs505 ) hZ (hw _ (List.mem_of_getElem? (i := 116) rfl)) (hw _ (List.mem_of_getElem? (i := 2) rfl)) (by decide) (by decide)) q535a q535c (g := (mkF m 293 #[.val (.int p0), .val (.int p1), .val (.int p2), .val (.ref b4_1), .val (.ref b4_15), .val (.ref b4_38), .val (.ref b71), .val (.int (0 : Int32)), .val (.int (0 : Int32)), .val (.int (1 : Int32)), .val (.ref b4_38), .val .null, .val (.int (2 : Int32)), .val (.int (0 : Int32))] [(.ref b4_38), (.ref b4_38)])) rfl (by rw [hml]; rfl) (Steps.refl _) (argsL := [(.ref b4_38)]) (rest := []) (lenOf own_pd10 rfl) rfl (by show 2 * 0 + _ ≤ _; exact Nat.le_of_eq rfl) (hb hby at_293) (fun _ _ => ⟨rfl, e533, (by decide : 10 + 0 ≤ _), (by decide : 52 + 0 ≤ _)⟩)
      dsimp only [Pt.U, Pt.locs, Pt.cells, Pt.slots] at X535 l535 y535 z535 st535 hQ535
      subst y535 z535
      obtain ⟨rfl, N535q, e535⟩ := hQ535
      have N536 : Fr n0 L535 := by rw [l535]; exact Fr.app N534 N535q
      have pre537 : ∀ t, Steps p.tables e below (T535.setTop (mkF m 302 #[.val (.int p0), .val (.int p1), .val (.int p2), .val (.ref b4_1), .val (.ref b4_15), .val (.ref b4_38), .val (.ref b71), .val (.int (0 : Int32)), .val (.int (0 : Int32)), .val (.int (1 : Int32)), .val (.ref b4_38), .val .null, .val (.int (2 : Int32)), .val (.int (0 : Int32))] [(.int (1 : Int32))])) t → Steps p.tables e below (s₁.setTop (entryFrame m #[(.int p0), (.int p1), (.int p2)] maxLocals)) t := fun t k => pre471 t (by
          refine st473.trans ?_
          show Steps p.tables e below (T473.setTop (mkF m 65 #[.val (.int p0), .val (.int p1), .val (.int p2), .val (.ref b4_1), .val (.ref b4_15), .val (.ref b4_38), .val (.ref b71), .val (.int (0 : Int32)), .val (.int (0 : Int32)), .unset, .unset, .unset, .unset, .unset] [(.int (1 : Int32))])) _
          refine XS.istore X473.here hx rfl (hb hby at_65) rfl (l' := #[.val (.int p0), .val (.int p1), .val (.int p2), .val (.ref b4_1), .val (.ref b4_15), .val (.ref b4_38), .val (.ref b71), .val (.int (0 : Int32)), .val (.int (0 : Int32)), .val (.int (1 : Int32)), .unset, .unset, .unset, .unset]) rfl ?_
          refine XS.aconstNull X473.here hx rfl (hb hby at_67) ?_
          refine XS.astore X473.here hx rfl (hb hby at_68) rfl rfl (l' := #[.val (.int p0), .val (.int p1), .val (.int p2), .val (.ref b4_1), .val (.ref b4_15), .val (.ref b4_38), .val (.ref b71), .val (.int (0 : Int32)), .val (.int (0 : Int32)), .val (.int (1 : Int32)), .val .null, .unset, .unset, .unset]) rfl ?_
          refine XS.aconstNull X473.here hx rfl (hb hby at_70) ?_
          show Steps p.tables e below (T473.setTop (mkF m 71 #[.val (.int p0), .val (.int p1), .val (.int p2), .val (.ref b4_1), .val (.ref b4_15), .val (.ref b4_38), .val (.ref b71), .val (.int (0 : Int32)), .val (.int (0 : Int32)), .val (.int (1 : Int32)), .val .null, .unset, .unset, .unset] [.null])) _
          refine XS.astore X473.here hx rfl (hb hby at_71) rfl rfl (l' := #[.val (.int p0), .val (.int p1), .val (.int p2), .val (.ref b4_1), .val (.ref b4_15), .val (.ref b4_38), .val (.ref b71), .val (.int (0 : Int32)), .val (.int (0 : Int32)), .val (.int (1 : Int32)), .val .null, .val .null, .unset, .unset]) rfl ?_
          refine XS.iconst X473.here hx rfl (hb hby at_73) ?_
          refine XS.istore X473.here hx rfl (hb hby at_74) rfl (l' := #[.val (.int p0), .val (.int p1), .val (.int p2), .val (.ref b4_1), .val (.ref b4_15), .val (.ref b4_38), .val (.ref b71), .val (.int (0 : Int32)), .val (.int (0 : Int32)), .val (.int (1 : Int32)), .val .null, .val .null, .val (.int (1 : Int32)), .unset]) rfl ?_
          refine XS.aload X473.here hx rfl (hb hby at_76) rfl rfl ?_
          show Steps p.tables e below (T473.setTop (mkF m 78 #[.val (.int p0), .val (.int p1), .val (.int p2), .val (.ref b4_1), .val (.ref b4_15), .val (.ref b4_38), .val (.ref b71), .val (.int (0 : Int32)), .val (.int (0 : Int32)), .val (.int (1 : Int32)), .val .null, .val .null, .val (.int (1 : Int32)), .unset] [(.ref b4_15)])) _
          refine XS.aloadN X473.here hx rfl (hb hby at_78) rfl rfl ?_
          refine st508.trans ?_
          show Steps p.tables e below (T508.setTop (mkF m 82 #[.val (.int p0), .val (.int p1), .val (.int p2), .val (.ref b4_1), .val (.ref b4_15), .val (.ref b4_38), .val (.ref b71), .val (.int (0 : Int32)), .val (.int (0 : Int32)), .val (.int (1 : Int32)), .val .null, .val .null, .val (.int (1 : Int32)), .unset] [(.int (own_f19 (own_cb p1) (own_cb p0)))])) _
          refine XS.ifYes X508.here hx rfl (pc0 := 82) (pc' := 92) rfl (hb hby at_82) rfl ((if0 _ _).trans (feq (own_eqs _ _ (own_eq1 _ _ (own_cby p1) (own_cby p0) hc197))).2) (by decide) (by decide) ?_
          refine XS.aload X508.here hx rfl (hb hby at_92) rfl rfl ?_
          refine XS.aloadN X508.here hx rfl (hb hby at_94) rfl rfl ?_
          refine st511.trans ?_
          show Steps p.tables e below (T511.setTop (mkF m 98 #[.val (.int p0), .val (.int p1), .val (.int p2), .val (.ref b4_1), .val (.ref b4_15), .val (.ref b4_38), .val (.ref b71), .val (.int (0 : Int32)), .val (.int (0 : Int32)), .val (.int (1 : Int32)), .val .null, .val .null, .val (.int (1 : Int32)), .unset] [(.int (own_f19 (own_cb p2) (own_cb p0)))])) _
          refine XS.ifNo X511.here hx rfl (hb hby at_98) rfl ((if0 _ _).trans (teq (own_nes _ _ (own_ne1 _ _ hc472))).2) ?_
          refine XS.aload X511.here hx rfl (hb hby at_101) rfl rfl ?_
          refine XS.aload X511.here hx rfl (hb hby at_103) rfl rfl ?_
          refine st513.trans ?_
          show Steps p.tables e below (T513.setTop (mkF m 108 #[.val (.int p0), .val (.int p1), .val (.int p2), .val (.ref b4_1), .val (.ref b4_15), .val (.ref b4_38), .val (.ref b71), .val (.int (0 : Int32)), .val (.int (0 : Int32)), .val (.int (1 : Int32)), .val .null, .val .null, .val (.int (1 : Int32)), .unset] [(.int (own_f19 (own_cb p2) (own_cb p1)))])) _
          refine XS.ifYes X513.here hx rfl (pc0 := 108) (pc' := 115) rfl (hb hby at_108) rfl ((if0 _ _).trans (teq (own_nes _ _ (fun q => (own_ne1 _ _ hc472) (q.trans (own_eq1 _ _ (own_cby p1) (own_cby p0) hc197))))).1) (by decide) (by decide) ?_
          refine XS.iconst X513.here hx rfl (hb hby at_115) ?_
          refine XS.istore X513.here hx rfl (hb hby at_116) rfl (l' := #[.val (.int p0), .val (.int p1), .val (.int p2), .val (.ref b4_1), .val (.ref b4_15), .val (.ref b4_38), .val (.ref b71), .val (.int (0 : Int32)), .val (.int (0 : Int32)), .val (.int (1 : Int32)), .val .null, .val .null, .val (.int (1 : Int32)), .val (.int (0 : Int32))]) rfl ?_
          refine XS.iload X513.here hx rfl (hb hby at_118) rfl ?_
          show Steps p.tables e below (T513.setTop (mkF m 120 #[.val (.int p0), .val (.int p1), .val (.int p2), .val (.ref b4_1), .val (.ref b4_15), .val (.ref b4_38), .val (.ref b71), .val (.int (0 : Int32)), .val (.int (0 : Int32)), .val (.int (1 : Int32)), .val .null, .val .null, .val (.int (1 : Int32)), .val (.int (0 : Int32))] [(.int (0 : Int32))])) _
          refine XS.ifNo X513.here hx rfl (hb hby at_120) rfl ((if0 _ _).trans (teq (by decide : (0 : Int32) = (0 : Int32))).2) ?_
          refine XS.iload X513.here hx rfl (hb hby at_123) rfl ?_
          refine XS.iconst X513.here hx rfl (hb hby at_125) ?_
          refine XS.icmpNo X513.here hx rfl (hb hby at_126) rfl (teq (by decide : (1 : Int32) = (1 : Int32))).2 ?_
          show Steps p.tables e below (T513.setTop (mkF m 129 #[.val (.int p0), .val (.int p1), .val (.int p2), .val (.ref b4_1), .val (.ref b4_15), .val (.ref b4_38), .val (.ref b71), .val (.int (0 : Int32)), .val (.int (0 : Int32)), .val (.int (1 : Int32)), .val .null, .val .null, .val (.int (1 : Int32)), .val (.int (0 : Int32))] [])) _
          refine XS.aload X513.here hx rfl (hb hby at_129) rfl rfl ?_
          refine XS.astore X513.here hx rfl (hb hby at_131) rfl rfl (l' := #[.val (.int p0), .val (.int p1), .val (.int p2), .val (.ref b4_1), .val (.ref b4_15), .val (.ref b4_38), .val (.ref b71), .val (.int (0 : Int32)), .val (.int (0 : Int32)), .val (.int (1 : Int32)), .val (.ref b4_38), .val .null, .val (.int (1 : Int32)), .val (.int (0 : Int32))]) rfl ?_
          refine XS.iconst X513.here hx rfl (hb hby at_133) ?_
          refine XS.istore X513.here hx rfl (hb hby at_134) rfl (l' := #[.val (.int p0), .val (.int p1), .val (.int p2), .val (.ref b4_1), .val (.ref b4_15), .val (.ref b4_38), .val (.ref b71), .val (.int (0 : Int32)), .val (.int (0 : Int32)), .val (.int (1 : Int32)), .val (.ref b4_38), .val .null, .val (.int (2 : Int32)), .val (.int (0 : Int32))]) rfl ?_
          show Steps p.tables e below (T513.setTop (mkF m 136 #[.val (.int p0), .val (.int p1), .val (.int p2), .val (.ref b4_1), .val (.ref b4_15), .val (.ref b4_38), .val (.ref b71), .val (.int (0 : Int32)), .val (.int (0 : Int32)), .val (.int (1 : Int32)), .val (.ref b4_38), .val .null, .val (.int (2 : Int32)), .val (.int (0 : Int32))] [])) _
          refine XS.goto X513.here hx rfl (pc0 := 136) (pc' := 146) rfl (hb hby at_136) (by decide) (by decide) ?_
          refine XS.aload X513.here hx rfl (hb hby at_146) rfl rfl ?_
          refine st515.trans ?_
          show Steps p.tables e below (T515.setTop (mkF m 151 #[.val (.int p0), .val (.int p1), .val (.int p2), .val (.ref b4_1), .val (.ref b4_15), .val (.ref b4_38), .val (.ref b71), .val (.int (0 : Int32)), .val (.int (0 : Int32)), .val (.int (1 : Int32)), .val (.ref b4_38), .val .null, .val (.int (2 : Int32)), .val (.int (0 : Int32))] [(.int (2 : Int32))])) _
          refine XS.iload X515.here hx rfl (hb hby at_151) rfl ?_
          refine XS.icmpYes X515.here hx rfl (pc0 := 153) (pc' := 158) rfl (hb hby at_153) rfl (teq (by decide : (2 : Int32) = (2 : Int32))).1 (by decide) (by decide) ?_
          refine XS.iload X515.here hx rfl (hb hby at_158) rfl ?_
          refine XS.ifNo X515.here hx rfl (hb hby at_160) rfl ((if0 _ _).trans (flt (by decide : ¬ ((0 : Int32) < (0 : Int32)))).1) ?_
          show Steps p.tables e below (T515.setTop (mkF m 163 #[.val (.int p0), .val (.int p1), .val (.int p2), .val (.ref b4_1), .val (.ref b4_15), .val (.ref b4_38), .val (.ref b71), .val (.int (0 : Int32)), .val (.int (0 : Int32)), .val (.int (1 : Int32)), .val (.ref b4_38), .val .null, .val (.int (2 : Int32)), .val (.int (0 : Int32))] [])) _
          refine XS.iload X515.here hx rfl (hb hby at_163) rfl ?_
          refine XS.iload X515.here hx rfl (hb hby at_165) rfl ?_
          refine XS.icmpNo X515.here hx rfl (hb hby at_167) rfl (tlt (by decide : (0 : Int32) < (2 : Int32))).2.1 ?_
          refine XS.iload X515.here hx rfl (hb hby at_170) rfl ?_
          show Steps p.tables e below (T515.setTop (mkF m 172 #[.val (.int p0), .val (.int p1), .val (.int p2), .val (.ref b4_1), .val (.ref b4_15), .val (.ref b4_38), .val (.ref b71), .val (.int (0 : Int32)), .val (.int (0 : Int32)), .val (.int (1 : Int32)), .val (.ref b4_38), .val .null, .val (.int (2 : Int32)), .val (.int (0 : Int32))] [(.int (0 : Int32))])) _
          refine XS.ifNo X515.here hx rfl (hb hby at_172) rfl ((if0 _ _).trans (flt (by decide : ¬ ((0 : Int32) < (0 : Int32)))).1) ?_
          refine XS.iload X515.here hx rfl (hb hby at_175) rfl ?_
          refine XS.iload X515.here hx rfl (hb hby at_177) rfl ?_
          refine XS.icmpNo X515.here hx rfl (hb hby at_179) rfl (tlt (by decide : (0 : Int32) < (2 : Int32))).2.1 ?_
          show Steps p.tables e below (T515.setTop (mkF m 182 #[.val (.int p0), .val (.int p1), .val (.int p2), .val (.ref b4_1), .val (.ref b4_15), .val (.ref b4_38), .val (.ref b71), .val (.int (0 : Int32)), .val (.int (0 : Int32)), .val (.int (1 : Int32)), .val (.ref b4_38), .val .null, .val (.int (2 : Int32)), .val (.int (0 : Int32))] [])) _
          refine XS.iload X515.here hx rfl (hb hby at_182) rfl ?_
          refine XS.ifNo X515.here hx rfl (hb hby at_184) rfl ((if0 _ _).trans (flt (by decide : ¬ ((1 : Int32) < (0 : Int32)))).1) ?_
          refine XS.iload X515.here hx rfl (hb hby at_187) rfl ?_
          refine XS.iload X515.here hx rfl (hb hby at_189) rfl ?_
          show Steps p.tables e below (T515.setTop (mkF m 191 #[.val (.int p0), .val (.int p1), .val (.int p2), .val (.ref b4_1), .val (.ref b4_15), .val (.ref b4_38), .val (.ref b71), .val (.int (0 : Int32)), .val (.int (0 : Int32)), .val (.int (1 : Int32)), .val (.ref b4_38), .val .null, .val (.int (2 : Int32)), .val (.int (0 : Int32))] [(.int (2 : Int32)), (.int (1 : Int32))])) _
          refine XS.icmpYes X515.here hx rfl (pc0 := 191) (pc' := 196) rfl (hb hby at_191) rfl (tlt (by decide : (1 : Int32) < (2 : Int32))).1 (by decide) (by decide) ?_
          refine XS.aload X515.here hx rfl (hb hby at_196) rfl rfl ?_
          refine XS.iconst X515.here hx rfl (hb hby at_198) ?_
          refine st517.trans ?_
          show Steps p.tables e below (T517.setTop (mkF m 202 #[.val (.int p0), .val (.int p1), .val (.int p2), .val (.ref b4_1), .val (.ref b4_15), .val (.ref b4_38), .val (.ref b71), .val (.int (0 : Int32)), .val (.int (0 : Int32)), .val (.int (1 : Int32)), .val (.ref b4_38), .val .null, .val (.int (2 : Int32)), .val (.int (0 : Int32))] [(.ref b4_1)])) _
          refine XS.aloadN X517.here hx rfl (hb hby at_202) rfl rfl ?_
          refine st519.trans ?_
          show Steps p.tables e below (T519.setTop (mkF m 206 #[.val (.int p0), .val (.int p1), .val (.int p2), .val (.ref b4_1), .val (.ref b4_15), .val (.ref b4_38), .val (.ref b71), .val (.int (0 : Int32)), .val (.int (0 : Int32)), .val (.int (1 : Int32)), .val (.ref b4_38), .val .null, .val (.int (2 : Int32)), .val (.int (0 : Int32))] [(.int (1 : Int32))])) _
          refine XS.ifYes X519.here hx rfl (pc0 := 206) (pc' := 211) rfl (hb hby at_206) rfl ((if0 _ _).trans (feq (by decide : ¬ ((1 : Int32) = (0 : Int32)))).2) (by decide) (by decide) ?_
          refine XS.iload X519.here hx rfl (hb hby at_211) rfl ?_
          refine XS.iconst X519.here hx rfl (hb hby at_213) ?_
          refine XS.icmpNo X519.here hx rfl (hb hby at_214) rfl (flt (by decide : ¬ ((2 : Int32) < (2 : Int32)))).1 ?_
          show Steps p.tables e below (T519.setTop (mkF m 217 #[.val (.int p0), .val (.int p1), .val (.int p2), .val (.ref b4_1), .val (.ref b4_15), .val (.ref b4_38), .val (.ref b71), .val (.int (0 : Int32)), .val (.int (0 : Int32)), .val (.int (1 : Int32)), .val (.ref b4_38), .val .null, .val (.int (2 : Int32)), .val (.int (0 : Int32))] [])) _
          refine XS.aload X519.here hx rfl (hb hby at_217) rfl rfl ?_
          refine XS.iconst X519.here hx rfl (hb hby at_219) ?_
          refine st521.trans ?_
          show Steps p.tables e below (T521.setTop (mkF m 223 #[.val (.int p0), .val (.int p1), .val (.int p2), .val (.ref b4_1), .val (.ref b4_15), .val (.ref b4_38), .val (.ref b71), .val (.int (0 : Int32)), .val (.int (0 : Int32)), .val (.int (1 : Int32)), .val (.ref b4_38), .val .null, .val (.int (2 : Int32)), .val (.int (0 : Int32))] [(.ref b4_38)])) _
          refine XS.aload X521.here hx rfl (hb hby at_223) rfl rfl ?_
          refine st523.trans ?_
          show Steps p.tables e below (T523.setTop (mkF m 228 #[.val (.int p0), .val (.int p1), .val (.int p2), .val (.ref b4_1), .val (.ref b4_15), .val (.ref b4_38), .val (.ref b71), .val (.int (0 : Int32)), .val (.int (0 : Int32)), .val (.int (1 : Int32)), .val (.ref b4_38), .val .null, .val (.int (2 : Int32)), .val (.int (0 : Int32))] [(.int (1 : Int32))])) _
          refine XS.ifYes X523.here hx rfl (pc0 := 228) (pc' := 233) rfl (hb hby at_228) rfl ((if0 _ _).trans (feq (by decide : ¬ ((1 : Int32) = (0 : Int32)))).2) (by decide) (by decide) ?_
          refine XS.iload X523.here hx rfl (hb hby at_233) rfl ?_
          refine XS.iconst X523.here hx rfl (hb hby at_235) ?_
          refine XS.icmpYes X523.here hx rfl (pc0 := 236) (pc' := 255) rfl (hb hby at_236) rfl (tlt (by decide : (2 : Int32) < (3 : Int32))).1 (by decide) (by decide) ?_
          show Steps p.tables e below (T523.setTop (mkF m 255 #[.val (.int p0), .val (.int p1), .val (.int p2), .val (.ref b4_1), .val (.ref b4_15), .val (.ref b4_38), .val (.ref b71), .val (.int (0 : Int32)), .val (.int (0 : Int32)), .val (.int (1 : Int32)), .val (.ref b4_38), .val .null, .val (.int (2 : Int32)), .val (.int (0 : Int32))] [])) _
          refine XS.aload X523.here hx rfl (hb hby at_255) rfl rfl ?_
          refine XS.iload X523.here hx rfl (hb hby at_257) rfl ?_
          refine st525.trans ?_
          show Steps p.tables e below (T525.setTop (mkF m 262 #[.val (.int p0), .val (.int p1), .val (.int p2), .val (.ref b4_1), .val (.ref b4_15), .val (.ref b4_38), .val (.ref b71), .val (.int (0 : Int32)), .val (.int (0 : Int32)), .val (.int (1 : Int32)), .val (.ref b4_38), .val .null, .val (.int (2 : Int32)), .val (.int (0 : Int32))] [(.ref b4_1)])) _
          refine XS.aloadN X525.here hx rfl (hb hby at_262) rfl rfl ?_
          refine st527.trans ?_
          show Steps p.tables e below (T527.setTop (mkF m 266 #[.val (.int p0), .val (.int p1), .val (.int p2), .val (.ref b4_1), .val (.ref b4_15), .val (.ref b4_38), .val (.ref b71), .val (.int (0 : Int32)), .val (.int (0 : Int32)), .val (.int (1 : Int32)), .val (.ref b4_38), .val .null, .val (.int (2 : Int32)), .val (.int (0 : Int32))] [(.int (1 : Int32))])) _
          refine XS.ifNo X527.here hx rfl (hb hby at_266) rfl ((if0 _ _).trans (feq (by decide : ¬ ((1 : Int32) = (0 : Int32)))).1) ?_
          refine XS.aload X527.here hx rfl (hb hby at_269) rfl rfl ?_
          refine XS.iload X527.here hx rfl (hb hby at_271) rfl ?_
          refine st529.trans ?_
          show Steps p.tables e below (T529.setTop (mkF m 276 #[.val (.int p0), .val (.int p1), .val (.int p2), .val (.ref b4_1), .val (.ref b4_15), .val (.ref b4_38), .val (.ref b71), .val (.int (0 : Int32)), .val (.int (0 : Int32)), .val (.int (1 : Int32)), .val (.ref b4_38), .val .null, .val (.int (2 : Int32)), .val (.int (0 : Int32))] [(.ref b4_1)])) _
          refine XS.aload X529.here hx rfl (hb hby at_276) rfl rfl ?_
          refine st531.trans ?_
          show Steps p.tables e below (T531.setTop (mkF m 281 #[.val (.int p0), .val (.int p1), .val (.int p2), .val (.ref b4_1), .val (.ref b4_15), .val (.ref b4_38), .val (.ref b71), .val (.int (0 : Int32)), .val (.int (0 : Int32)), .val (.int (1 : Int32)), .val (.ref b4_38), .val .null, .val (.int (2 : Int32)), .val (.int (0 : Int32))] [(.int (own_f19 (own_cb p0) (own_cb p1)))])) _
          refine XS.ifNo X531.here hx rfl (hb hby at_281) rfl ((if0 _ _).trans (feq (own_eqs _ _ (Eq.symm (own_eq1 _ _ (own_cby p1) (own_cby p0) hc197)))).1) ?_
          refine XS.aload X531.here hx rfl (hb hby at_284) rfl rfl ?_
          refine XS.iload X531.here hx rfl (hb hby at_286) rfl ?_
          refine st533.trans ?_
          show Steps p.tables e below (T533.setTop (mkF m 291 #[.val (.int p0), .val (.int p1), .val (.int p2), .val (.ref b4_1), .val (.ref b4_15), .val (.ref b4_38), .val (.ref b71), .val (.int (0 : Int32)), .val (.int (0 : Int32)), .val (.int (1 : Int32)), .val (.ref b4_38), .val .null, .val (.int (2 : Int32)), .val (.int (0 : Int32))] [(.ref b4_38)])) _
          refine XS.aload X533.here hx rfl (hb hby at_291) rfl rfl ?_
          refine st535.trans ?_
          show Steps p.tables e below (T535.setTop (mkF m 296 #[.val (.int p0), .val (.int p1), .val (.int p2), .val (.ref b4_1), .val (.ref b4_15), .val (.ref b4_38), .val (.ref b71), .val (.int (0 : Int32)), .val (.int (0 : Int32)), .val (.int (1 : Int32)), .val (.ref b4_38), .val .null, .val (.int (2 : Int32)), .val (.int (0 : Int32))] [(.int (1 : Int32))])) _
          refine XS.ifYes X535.here hx rfl (pc0 := 296) (pc' := 301) rfl (hb hby at_296) rfl ((if0 _ _).trans (feq (by decide : ¬ ((1 : Int32) = (0 : Int32)))).2) (by decide) (by decide) ?_
          refine XS.iconst X535.here hx rfl (hb hby at_301) ?_
          exact k)
      obtain ⟨fs, hr, hrun, hended, hW, hsame⟩ := X535.leave (v := some (.int (1 : Int32))) (fun h => by rw [Bd.returns] at h; cases h) (hlocks := hlk)
      refine ⟨_, _, pre537 _ ?_, hrun, hended, _, _, rfl, ?_, ⟨_, rfl⟩, hW, hsame.mono (by decide) (by decide)⟩
      · show Steps p.tables e below (T535.setTop (mkF m 302 #[.val (.int p0), .val (.int p1), .val (.int p2), .val (.ref b4_1), .val (.ref b4_15), .val (.ref b4_38), .val (.ref b71), .val (.int (0 : Int32)), .val (.int (0 : Int32)), .val (.int (1 : Int32)), .val (.ref b4_38), .val .null, .val (.int (2 : Int32)), .val (.int (0 : Int32))] [(.int (1 : Int32))])) _
        exact retN X535 hx (t := .boolean) Bd.returns (by simp) (hb hby at_302) hr
      · show own_Q0 Z p0 p1 p2 z_COMPACT_STRINGS h0 n0 _ T535.heap _; exact ⟨(by show some (Value.int _) = some (.int (own_f0 p0 p1 p2)); unfold own_f0; rw [if_neg hc197, if_pos hc472]), N536⟩
    · obtain ⟨cq538, kq538, q538a, q538b, q538c⟩ := isOf hZ rfl f458
      obtain ⟨_, _, ⟨T538, L538, k538, n538⟩, -, X538, ⟨Lc538, hQ538, l538, y538, z538⟩, st538⟩ := X436.virtualBack hx (y := (⟨"com/example/nestor/nestor/IdTable", "placeOf", "(Ljava/lang/String;)I"⟩ : MethodName)) (z := (⟨"com/example/nestor/nestor/IdTable", "placeOf", "(Ljava/lang/String;)I"⟩ : MethodName)) hown (mvT hZ (hw _ (List.mem_of_getElem? (i := 61) rfl))) (mvT hZ (hw _ (List.mem_of_getElem? (i := 62) rfl))) (notFace_of_selects (args := #[]) (mvT hZ (hw _ (List.mem_of_getElem? (i := 64) rfl)))) (mvT hZ (hw _ (List.mem_of_getElem? (i := 64) rfl))) (mvT hZ (hw _ (List.mem_of_getElem? (i := 63) rfl))) (by decide) (backOf (W := 0) (own_rm9t1f0 l Z a0 hw [] b71 b4_38 (own_y0 (own_cb p0)) k23_103 k2_103 k1_13_38 (own_cb p2) b4_1 k1_13_1 (own_cb p0) z_COMPACT_STRINGS b23_103 b2_103 b1_13_38 hq436_i0 zq436_i0 b1_13_1 (0 : Int32) (0 : Int32) T436.heap n0 zs468 Ov115 HC (own_y0i _) (Nat.ne_of_gt lt47) (own_cby _) (own_cby _) ok448 (own_ok0 _) (own_c1 _ _ _ hc472) f458 f449 P_B_java_lang_String_COMPACT_STRINGS f460 f463 f459 f462 f461 f452 f454 f453 f457 f440 f446 f447 f441 f442 f450 f455 f456 g_b4_38 g_b4_1) hZ (hw _ (List.mem_of_getElem? (i := 65) rfl)) (hw _ (List.mem_of_getElem? (i := 28) rfl)) (by decide) (by decide)) q538a q538c (g := (mkF m 62 #[.val (.int p0), .val (.int p1), .val (.int p2), .val (.ref b4_1), .val (.ref b4_15), .val (.ref b4_38), .val (.ref b71), .val (.int (0 : Int32)), .val (.int (0 : Int32)), .unset, .unset, .unset, .unset, .unset] [(.ref b4_38), (.ref b71)])) rfl (by rw [hml]; rfl) (Steps.refl _) (argsL := [(.ref b4_38)]) (rest := []) (lenOf own_pd16 rfl) rfl (by show 2 * 0 + _ ≤ _; exact Nat.le_of_eq rfl) (hb hby at_62) (fun _ _ => ⟨rfl, rfl, (by decide : 10 + 0 ≤ _), (by decide : 52 + 0 ≤ _)⟩)
      dsimp only [Pt.U, Pt.locs, Pt.cells, Pt.slots] at X538 l538 y538 z538 st538 hQ538
      subst y538 z538
      obtain ⟨hq538_o1, zq538_o1, hq538_i0, zq538_i0, rfl, N538q, K538, f539, f540, f541, f542, f543, f544, f545, f546, ok547, f548, f549, ok550⟩ := hQ538
      have f551 : Old Z n0 T538.heap := f449.keep K538 (allS g_b4_38 (allS g_b4_1 all0))
      have f552 : Arv Z T538.heap b1_13_1 k1_13_1 .byte (1 : Int32) [(.int (own_cb p0))] (.int (0 : Int32)) := f450.keep K538 (ninS (Nat.ne_of_lt lt48) (ninS (Ne.symm ne9) nin0))
      have f553 : Exa Z T538.heap b4_15 "java/lang/String" := f437.keep K538
      have f554 : Fld Z T538.heap b4_15 "java/lang/String" "value" "[B" (.ref b1_13_15) := f439.keep K538 (ninS (Nat.ne_of_lt lt49) (ninS (Nat.ne_of_gt lt24) nin0))
      have f555 : Fld Z T538.heap b4_15 "java/lang/String" "coder" "B" (.int (0 : Int32)) := f438.keep K538 (ninS (Nat.ne_of_lt lt49) (ninS (Nat.ne_of_gt lt24) nin0))
      have f556 : Fld Z T538.heap b4_15 "java/lang/String" "hash" "I" (.int hq436_o1) := f443.keep K538 (ninS (Nat.ne_of_lt lt49) (ninS (Nat.ne_of_gt lt24) nin0))
      have f557 : Fld Z T538.heap b4_15 "java/lang/String" "hashIsZero" "Z" (.int zq436_o1) := f444.keep K538 (ninS (Nat.ne_of_lt lt49) (ninS (Nat.ne_of_gt lt24) nin0))
      have f558 : Arv Z T538.heap b1_13_15 k1_13_15 .byte (1 : Int32) [(.int (own_cb p1))] (.int (0 : Int32)) := f451.keep K538 (ninS (Nat.ne_of_lt lt50) (ninS (Nat.ne_of_gt lt26) nin0))
      have f559 : Arv Z T538.heap b1_13_38 k1_13_38 .byte (1 : Int32) [(.int (own_cb p2))] (.int (0 : Int32)) := f457.keep K538 (ninS (Ne.symm ne46) (ninS (Nat.ne_of_gt lt51) nin0))
      have f560 : Exa Z T538.heap b71 "com/example/nestor/nestor/IdTable" := f458.keep K538
      have f561 : Fld Z T538.heap b71 "com/example/nestor/nestor/IdTable" "ids" "[Ljava/lang/String;" (.ref b2_103) := f459.keep K538 (ninS (Nat.ne_of_gt lt76) (ninS (Nat.ne_of_gt lt72) nin0))
      have f562 : Fld Z T538.heap b71 "com/example/nestor/nestor/IdTable" "slots" "[I" (.ref b23_103) := f460.keep K538 (ninS (Nat.ne_of_gt lt76) (ninS (Nat.ne_of_gt lt72) nin0))
      have f563 : Fld Z T538.heap b71 "com/example/nestor/nestor/IdTable" "size" "I" (.int (1 : Int32)) := f461.keep K538 (ninS (Nat.ne_of_gt lt76) (ninS (Nat.ne_of_gt lt72) nin0))
      have f564 : Arv Z T538.heap b2_103 k2_103 (.object "java/lang/String") (8 : Int32) [(.ref b4_1), .null, .null, .null, .null, .null, .null, .null] .null := f462.keep K538 (ninS (Nat.ne_of_gt lt123) (ninS (Nat.ne_of_gt lt119) nin0))
      have f565 : Arv Z T538.heap b23_103 k23_103 .int (16 : Int32) (own_t1 (own_y0 (own_cb p0))) (.int (0 : Int32)) := f463.keep K538 (ninS (Nat.ne_of_gt lt130) (ninS (Nat.ne_of_gt lt126) nin0))
      have f566 : Exa Z T538.heap b46_103 "java/util/TreeMap" := f464.keep K538
      have f567 : Fld Z T538.heap b46_103 "java/util/TreeMap" "size" "I" (.int (0 : Int32)) := f465.keep K538 (ninS (Nat.ne_of_gt lt137) (ninS (Nat.ne_of_gt lt133) nin0))
      have f568 : Fld Z T538.heap b46_103 "java/util/TreeMap" "modCount" "I" (.int (0 : Int32)) := f466.keep K538 (ninS (Nat.ne_of_gt lt137) (ninS (Nat.ne_of_gt lt133) nin0))
      have f569 : Fld Z T538.heap b46_103 "java/util/TreeMap" "comparator" "Ljava/util/Comparator;" .null := f467.keep K538 (ninS (Nat.ne_of_gt lt137) (ninS (Nat.ne_of_gt lt133) nin0))
      have zs570 : n0 ≤ T538.heap.size := Nat.le_trans zs468 K538.1
      have K571 : Keep h0 T538.heap [] := K469.trans K538 (allS (Or.inr sz_b4_38) (allS (Or.inr sz_b4_1) all0))
      have N572 : Fr n0 L538 := by rw [l538]; exact Fr.app N470 N538q
      have f574 : Sta Z T538.heap "java/lang/String" "COMPACT_STRINGS" "Z" (.int z_COMPACT_STRINGS) := P_B_java_lang_String_COMPACT_STRINGS.ext f551.2
      obtain ⟨cq573, kq573, q573a, q573b, q573c⟩ := isOf hZ rfl f553
      obtain ⟨_, _, ⟨T573, L573, k573, n573⟩, -, X573, ⟨Lc573, hQ573, l573, y573, z573⟩, st573⟩ := X538.virtualBack hx (y := (⟨"java/lang/String", "equals", "(Ljava/lang/Object;)Z"⟩ : MethodName)) (z := (⟨"java/lang/String", "equals", "(Ljava/lang/Object;)Z"⟩ : MethodName)) hown (mvT hZ (hw _ (List.mem_of_getElem? (i := 112) rfl))) (mvT hZ (hw _ (List.mem_of_getElem? (i := 113) rfl))) (notFace_of_selects (args := #[]) (mvT hZ (hw _ (List.mem_of_getElem? (i := 115) rfl)))) (mvT hZ (hw _ (List.mem_of_getElem? (i := 115) rfl))) (mvT hZ (hw _ (List.mem_of_getElem? (i := 114) rfl))) (by decide) (backOf (W := 0) (own_rm19 l Z a0 hw [] b4_15 b4_1 z_COMPACT_STRINGS b1_13_15 b1_13_1 k1_13_15 (own_cb p1) k1_13_1 (own_cb p0) T538.heap n0 zs570 HC (Nat.ne_of_gt lt24) f555 f543 f542 f574 f554 f544 f558 f552) hZ (hw _ (List.mem_of_getElem? (i := 116) rfl)) (hw _ (List.mem_of_getElem? (i := 2) rfl)) (by decide) (by decide)) q573a q573c (g := (mkF m 79 #[.val (.int p0), .val (.int p1), .val (.int p2), .val (.ref b4_1), .val (.ref b4_15), .val (.ref b4_38), .val (.ref b71), .val (.int (0 : Int32)), .val (.int (0 : Int32)), .val (.int (0 : Int32)), .val .null, .val .null, .val (.int (1 : Int32)), .unset] [(.ref b4_1), (.ref b4_15)])) rfl (by rw [hml]; rfl) (Steps.refl _) (argsL := [(.ref b4_1)]) (rest := []) (lenOf own_pd10 rfl) rfl (by show 2 * 0 + _ ≤ _; exact Nat.le_of_eq rfl) (hb hby at_79) (fun _ _ => ⟨rfl, rfl, (by decide : 10 + 0 ≤ _), (by decide : 52 + 0 ≤ _)⟩)
      dsimp only [Pt.U, Pt.locs, Pt.cells, Pt.slots] at X573 l573 y573 z573 st573 hQ573
      subst y573 z573
      obtain ⟨rfl, N573q, e573⟩ := hQ573
      have N575 : Fr n0 L573 := by rw [l573]; exact Fr.app N572 N573q
      obtain ⟨cq576, kq576, q576a, q576b, q576c⟩ := isOf hZ e573 f539
      obtain ⟨_, _, ⟨T576, L576, k576, n576⟩, -, X576, ⟨Lc576, hQ576, l576, y576, z576⟩, st576⟩ := X573.virtualBack hx (y := (⟨"java/lang/String", "equals", "(Ljava/lang/Object;)Z"⟩ : MethodName)) (z := (⟨"java/lang/String", "equals", "(Ljava/lang/Object;)Z"⟩ : MethodName)) hown (mvT hZ (hw _ (List.mem_of_getElem? (i := 112) rfl))) (mvT hZ (hw _ (List.mem_of_getElem? (i := 113) rfl))) (notFace_of_selects (args := #[]) (mvT hZ (hw _ (List.mem_of_getElem? (i := 115) rfl)))) (mvT hZ (hw _ (List.mem_of_getElem? (i := 115) rfl))) (mvT hZ (hw _ (List.mem_of_getElem? (i := 114) rfl))) (by decide) (backOf (W := 0) (own_rm19 l Z a0 hw [] b4_38 b4_1 z_COMPACT_STRINGS b1_13_38 b1_13_1 k1_13_38 (own_cb p2) k1_13_1 (own_cb p0) T538.heap n0 zs570 HC (Nat.ne_of_gt lt47) f540 f543 f542 f574 f541 f544 f559 f552) hZ (hw _ (List.mem_of_getElem? (i := 116) rfl)) (hw _ (List.mem_of_getElem? (i := 2) rfl)) (by decide) (by decide)) q576a q576c (g := (mkF m 95 #[.val (.int p0), .val (.int p1), .val (.int p2), .val (.ref b4_1), .val (.ref b4_15), .val (.ref b4_38), .val (.ref b71), .val (.int (0 : Int32)), .val (.int (0 : Int32)), .val (.int (0 : Int32)), .val .null, .val .null, .val (.int (1 : Int32)), .unset] [(.ref b4_1), (.ref b4_38)])) rfl (by rw [hml]; rfl) (Steps.refl _) (argsL := [(.ref b4_1)]) (rest := []) (lenOf own_pd10 rfl) rfl (by show 2 * 0 + _ ≤ _; exact Nat.le_of_eq rfl) (hb hby at_95) (fun _ _ => ⟨rfl, e573, (by decide : 10 + 0 ≤ _), (by decide : 52 + 0 ≤ _)⟩)
      dsimp only [Pt.U, Pt.locs, Pt.cells, Pt.slots] at X576 l576 y576 z576 st576 hQ576
      subst y576 z576
      obtain ⟨rfl, N576q, e576⟩ := hQ576
      have N577 : Fr n0 L576 := by rw [l576]; exact Fr.app N575 N576q
      obtain ⟨cq578, kq578, q578a, q578b, q578c⟩ := isOf hZ e576 f560
      obtain ⟨_, _, ⟨T578, L578, k578, n578⟩, -, X578, ⟨Lc578, hQ578, l578, y578, z578⟩, st578⟩ := X576.virtualBack hx (y := (⟨"com/example/nestor/nestor/IdTable", "size", "()I"⟩ : MethodName)) (z := (⟨"com/example/nestor/nestor/IdTable", "size", "()I"⟩ : MethodName)) hown (mvT hZ (hw _ (List.mem_of_getElem? (i := 120) rfl))) (mvT hZ (hw _ (List.mem_of_getElem? (i := 121) rfl))) (notFace_of_selects (args := #[]) (mvT hZ (hw _ (List.mem_of_getElem? (i := 123) rfl)))) (mvT hZ (hw _ (List.mem_of_getElem? (i := 123) rfl))) (mvT hZ (hw _ (List.mem_of_getElem? (i := 122) rfl))) (by decide) (backOf (W := 0) (own_rm21 l Z a0 hw [] b71 (1 : Int32) T538.heap n0 zs570 f563) hZ (hw _ (List.mem_of_getElem? (i := 124) rfl)) (hw _ (List.mem_of_getElem? (i := 28) rfl)) (by decide) (by decide)) q578a q578c (g := (mkF m 148 #[.val (.int p0), .val (.int p1), .val (.int p2), .val (.ref b4_1), .val (.ref b4_15), .val (.ref b4_38), .val (.ref b71), .val (.int (0 : Int32)), .val (.int (0 : Int32)), .val (.int (0 : Int32)), .val .null, .val .null, .val (.int (1 : Int32)), .val (.int (1 : Int32))] [(.ref b71)])) rfl (by rw [hml]; rfl) (Steps.refl _) (argsL := []) (rest := []) (lenOf own_pd9 rfl) rfl (by show 2 * 0 + _ ≤ _; exact Nat.le_of_eq rfl) (hb hby at_148) (fun _ _ => ⟨rfl, e576, (by decide : 10 + 0 ≤ _), (by decide : 52 + 0 ≤ _)⟩)
      dsimp only [Pt.U, Pt.locs, Pt.cells, Pt.slots] at X578 l578 y578 z578 st578 hQ578
      subst y578 z578
      obtain ⟨rfl, N578q, e578⟩ := hQ578
      have N579 : Fr n0 L578 := by rw [l578]; exact Fr.app N577 N578q
      obtain ⟨cq580, kq580, q580a, q580b, q580c⟩ := isOf hZ e578 f560
      obtain ⟨_, _, ⟨T580, L580, k580, n580⟩, -, X580, ⟨Lc580, hQ580, l580, y580, z580⟩, st580⟩ := X578.virtualBack hx (y := (⟨"com/example/nestor/nestor/IdTable", "id", "(I)Ljava/lang/String;"⟩ : MethodName)) (z := (⟨"com/example/nestor/nestor/IdTable", "id", "(I)Ljava/lang/String;"⟩ : MethodName)) hown (mvT hZ (hw _ (List.mem_of_getElem? (i := 125) rfl))) (mvT hZ (hw _ (List.mem_of_getElem? (i := 126) rfl))) (notFace_of_selects (args := #[]) (mvT hZ (hw _ (List.mem_of_getElem? (i := 128) rfl)))) (mvT hZ (hw _ (List.mem_of_getElem? (i := 128) rfl))) (mvT hZ (hw _ (List.mem_of_getElem? (i := 127) rfl))) (by decide) (backOf (W := 0) (own_rm22n1k0 l Z a0 hw [] b71 b2_103 k2_103 b4_1 T538.heap n0 zs570 f563 f561 Ov115 f564) hZ (hw _ (List.mem_of_getElem? (i := 129) rfl)) (hw _ (List.mem_of_getElem? (i := 28) rfl)) (by decide) (by decide)) q580a q580c (g := (mkF m 199 #[.val (.int p0), .val (.int p1), .val (.int p2), .val (.ref b4_1), .val (.ref b4_15), .val (.ref b4_38), .val (.ref b71), .val (.int (0 : Int32)), .val (.int (0 : Int32)), .val (.int (0 : Int32)), .val .null, .val .null, .val (.int (1 : Int32)), .val (.int (1 : Int32))] [(.int (0 : Int32)), (.ref b71)])) rfl (by rw [hml]; rfl) (Steps.refl _) (argsL := [(.int (0 : Int32))]) (rest := []) (lenOf own_pd17 rfl) rfl (by show 2 * 0 + _ ≤ _; exact Nat.le_of_eq rfl) (hb hby at_199) (fun _ _ => ⟨rfl, e578, (by decide : 10 + 0 ≤ _), (by decide : 52 + 0 ≤ _)⟩)
      dsimp only [Pt.U, Pt.locs, Pt.cells, Pt.slots] at X580 l580 y580 z580 st580 hQ580
      subst y580 z580
      obtain ⟨rfl, N580q, e580⟩ := hQ580
      have N581 : Fr n0 L580 := by rw [l580]; exact Fr.app N579 N580q
      obtain ⟨cq582, kq582, q582a, q582b, q582c⟩ := isOf hZ e580 f542
      obtain ⟨_, _, ⟨T582, L582, k582, n582⟩, -, X582, ⟨Lc582, hQ582, l582, y582, z582⟩, st582⟩ := X580.virtualBack hx (y := (⟨"java/lang/String", "equals", "(Ljava/lang/Object;)Z"⟩ : MethodName)) (z := (⟨"java/lang/String", "equals", "(Ljava/lang/Object;)Z"⟩ : MethodName)) hown (mvT hZ (hw _ (List.mem_of_getElem? (i := 112) rfl))) (mvT hZ (hw _ (List.mem_of_getElem? (i := 113) rfl))) (notFace_of_selects (args := #[]) (mvT hZ (hw _ (List.mem_of_getElem? (i := 115) rfl)))) (mvT hZ (hw _ (List.mem_of_getElem? (i := 115) rfl))) (mvT hZ (hw _ (List.mem_of_getElem? (i := 114) rfl))) (by decide) (backOf (W := 0) (own_rm19s l Z a0 hw [] b4_1 T538.heap n0 zs570 ) hZ (hw _ (List.mem_of_getElem? (i := 116) rfl)) (hw _ (List.mem_of_getElem? (i := 2) rfl)) (by decide) (by decide)) q582a q582c (g := (mkF m 203 #[.val (.int p0), .val (.int p1), .val (.int p2), .val (.ref b4_1), .val (.ref b4_15), .val (.ref b4_38), .val (.ref b71), .val (.int (0 : Int32)), .val (.int (0 : Int32)), .val (.int (0 : Int32)), .val .null, .val .null, .val (.int (1 : Int32)), .val (.int (1 : Int32))] [(.ref b4_1), (.ref b4_1)])) rfl (by rw [hml]; rfl) (Steps.refl _) (argsL := [(.ref b4_1)]) (rest := []) (lenOf own_pd10 rfl) rfl (by show 2 * 0 + _ ≤ _; exact Nat.le_of_eq rfl) (hb hby at_203) (fun _ _ => ⟨rfl, e580, (by decide : 10 + 0 ≤ _), (by decide : 52 + 0 ≤ _)⟩)
      dsimp only [Pt.U, Pt.locs, Pt.cells, Pt.slots] at X582 l582 y582 z582 st582 hQ582
      subst y582 z582
      obtain ⟨rfl, N582q, e582⟩ := hQ582
      have N583 : Fr n0 L582 := by rw [l582]; exact Fr.app N581 N582q
      obtain ⟨cq584, kq584, q584a, q584b, q584c⟩ := isOf hZ e582 f560
      obtain ⟨_, _, ⟨T584, L584, k584, n584⟩, -, X584, ⟨Lc584, hQ584, l584, y584, z584⟩, st584⟩ := X582.virtualBack hx (y := (⟨"com/example/nestor/nestor/IdTable", "id", "(I)Ljava/lang/String;"⟩ : MethodName)) (z := (⟨"com/example/nestor/nestor/IdTable", "id", "(I)Ljava/lang/String;"⟩ : MethodName)) hown (mvT hZ (hw _ (List.mem_of_getElem? (i := 125) rfl))) (mvT hZ (hw _ (List.mem_of_getElem? (i := 126) rfl))) (notFace_of_selects (args := #[]) (mvT hZ (hw _ (List.mem_of_getElem? (i := 128) rfl)))) (mvT hZ (hw _ (List.mem_of_getElem? (i := 128) rfl))) (mvT hZ (hw _ (List.mem_of_getElem? (i := 127) rfl))) (by decide) (backOf (W := 0) (own_rm22n1k0 l Z a0 hw [] b71 b2_103 k2_103 b4_1 T538.heap n0 zs570 f563 f561 Ov115 f564) hZ (hw _ (List.mem_of_getElem? (i := 129) rfl)) (hw _ (List.mem_of_getElem? (i := 28) rfl)) (by decide) (by decide)) q584a q584c (g := (mkF m 259 #[.val (.int p0), .val (.int p1), .val (.int p2), .val (.ref b4_1), .val (.ref b4_15), .val (.ref b4_38), .val (.ref b71), .val (.int (0 : Int32)), .val (.int (0 : Int32)), .val (.int (0 : Int32)), .val .null, .val .null, .val (.int (1 : Int32)), .val (.int (1 : Int32))] [(.int (0 : Int32)), (.ref b71)])) rfl (by rw [hml]; rfl) (Steps.refl _) (argsL := [(.int (0 : Int32))]) (rest := []) (lenOf own_pd17 rfl) rfl (by show 2 * 0 + _ ≤ _; exact Nat.le_of_eq rfl) (hb hby at_259) (fun _ _ => ⟨rfl, e582, (by decide : 10 + 0 ≤ _), (by decide : 52 + 0 ≤ _)⟩)
      dsimp only [Pt.U, Pt.locs, Pt.cells, Pt.slots] at X584 l584 y584 z584 st584 hQ584
      subst y584 z584
      obtain ⟨rfl, N584q, e584⟩ := hQ584
      have N585 : Fr n0 L584 := by rw [l584]; exact Fr.app N583 N584q
      obtain ⟨cq586, kq586, q586a, q586b, q586c⟩ := isOf hZ e584 f542
      obtain ⟨_, _, ⟨T586, L586, k586, n586⟩, -, X586, ⟨Lc586, hQ586, l586, y586, z586⟩, st586⟩ := X584.virtualBack hx (y := (⟨"java/lang/String", "equals", "(Ljava/lang/Object;)Z"⟩ : MethodName)) (z := (⟨"java/lang/String", "equals", "(Ljava/lang/Object;)Z"⟩ : MethodName)) hown (mvT hZ (hw _ (List.mem_of_getElem? (i := 112) rfl))) (mvT hZ (hw _ (List.mem_of_getElem? (i := 113) rfl))) (notFace_of_selects (args := #[]) (mvT hZ (hw _ (List.mem_of_getElem? (i := 115) rfl)))) (mvT hZ (hw _ (List.mem_of_getElem? (i := 115) rfl))) (mvT hZ (hw _ (List.mem_of_getElem? (i := 114) rfl))) (by decide) (backOf (W := 0) (own_rm19s l Z a0 hw [] b4_1 T538.heap n0 zs570 ) hZ (hw _ (List.mem_of_getElem? (i := 116) rfl)) (hw _ (List.mem_of_getElem? (i := 2) rfl)) (by decide) (by decide)) q586a q586c (g := (mkF m 263 #[.val (.int p0), .val (.int p1), .val (.int p2), .val (.ref b4_1), .val (.ref b4_15), .val (.ref b4_38), .val (.ref b71), .val (.int (0 : Int32)), .val (.int (0 : Int32)), .val (.int (0 : Int32)), .val .null, .val .null, .val (.int (1 : Int32)), .val (.int (1 : Int32))] [(.ref b4_1), (.ref b4_1)])) rfl (by rw [hml]; rfl) (Steps.refl _) (argsL := [(.ref b4_1)]) (rest := []) (lenOf own_pd10 rfl) rfl (by show 2 * 0 + _ ≤ _; exact Nat.le_of_eq rfl) (hb hby at_263) (fun _ _ => ⟨rfl, e584, (by decide : 10 + 0 ≤ _), (by decide : 52 + 0 ≤ _)⟩)
      dsimp only [Pt.U, Pt.locs, Pt.cells, Pt.slots] at X586 l586 y586 z586 st586 hQ586
      subst y586 z586
      obtain ⟨rfl, N586q, e586⟩ := hQ586
      have N587 : Fr n0 L586 := by rw [l586]; exact Fr.app N585 N586q
      obtain ⟨cq588, kq588, q588a, q588b, q588c⟩ := isOf hZ e586 f560
      obtain ⟨_, _, ⟨T588, L588, k588, n588⟩, -, X588, ⟨Lc588, hQ588, l588, y588, z588⟩, st588⟩ := X586.virtualBack hx (y := (⟨"com/example/nestor/nestor/IdTable", "id", "(I)Ljava/lang/String;"⟩ : MethodName)) (z := (⟨"com/example/nestor/nestor/IdTable", "id", "(I)Ljava/lang/String;"⟩ : MethodName)) hown (mvT hZ (hw _ (List.mem_of_getElem? (i := 125) rfl))) (mvT hZ (hw _ (List.mem_of_getElem? (i := 126) rfl))) (notFace_of_selects (args := #[]) (mvT hZ (hw _ (List.mem_of_getElem? (i := 128) rfl)))) (mvT hZ (hw _ (List.mem_of_getElem? (i := 128) rfl))) (mvT hZ (hw _ (List.mem_of_getElem? (i := 127) rfl))) (by decide) (backOf (W := 0) (own_rm22n1k0 l Z a0 hw [] b71 b2_103 k2_103 b4_1 T538.heap n0 zs570 f563 f561 Ov115 f564) hZ (hw _ (List.mem_of_getElem? (i := 129) rfl)) (hw _ (List.mem_of_getElem? (i := 28) rfl)) (by decide) (by decide)) q588a q588c (g := (mkF m 273 #[.val (.int p0), .val (.int p1), .val (.int p2), .val (.ref b4_1), .val (.ref b4_15), .val (.ref b4_38), .val (.ref b71), .val (.int (0 : Int32)), .val (.int (0 : Int32)), .val (.int (0 : Int32)), .val .null, .val .null, .val (.int (1 : Int32)), .val (.int (1 : Int32))] [(.int (0 : Int32)), (.ref b71)])) rfl (by rw [hml]; rfl) (Steps.refl _) (argsL := [(.int (0 : Int32))]) (rest := []) (lenOf own_pd17 rfl) rfl (by show 2 * 0 + _ ≤ _; exact Nat.le_of_eq rfl) (hb hby at_273) (fun _ _ => ⟨rfl, e586, (by decide : 10 + 0 ≤ _), (by decide : 52 + 0 ≤ _)⟩)
      dsimp only [Pt.U, Pt.locs, Pt.cells, Pt.slots] at X588 l588 y588 z588 st588 hQ588
      subst y588 z588
      obtain ⟨rfl, N588q, e588⟩ := hQ588
      have N589 : Fr n0 L588 := by rw [l588]; exact Fr.app N587 N588q
      obtain ⟨cq590, kq590, q590a, q590b, q590c⟩ := isOf hZ e588 f542
      obtain ⟨_, _, ⟨T590, L590, k590, n590⟩, -, X590, ⟨Lc590, hQ590, l590, y590, z590⟩, st590⟩ := X588.virtualBack hx (y := (⟨"java/lang/String", "equals", "(Ljava/lang/Object;)Z"⟩ : MethodName)) (z := (⟨"java/lang/String", "equals", "(Ljava/lang/Object;)Z"⟩ : MethodName)) hown (mvT hZ (hw _ (List.mem_of_getElem? (i := 112) rfl))) (mvT hZ (hw _ (List.mem_of_getElem? (i := 113) rfl))) (notFace_of_selects (args := #[]) (mvT hZ (hw _ (List.mem_of_getElem? (i := 115) rfl)))) (mvT hZ (hw _ (List.mem_of_getElem? (i := 115) rfl))) (mvT hZ (hw _ (List.mem_of_getElem? (i := 114) rfl))) (by decide) (backOf (W := 0) (own_rm19 l Z a0 hw [] b4_1 b4_15 z_COMPACT_STRINGS b1_13_1 b1_13_15 k1_13_1 (own_cb p0) k1_13_15 (own_cb p1) T538.heap n0 zs570 HC (Nat.ne_of_lt lt24) f543 f555 f553 f574 f544 f554 f552 f558) hZ (hw _ (List.mem_of_getElem? (i := 116) rfl)) (hw _ (List.mem_of_getElem? (i := 2) rfl)) (by decide) (by decide)) q590a q590c (g := (mkF m 278 #[.val (.int p0), .val (.int p1), .val (.int p2), .val (.ref b4_1), .val (.ref b4_15), .val (.ref b4_38), .val (.ref b71), .val (.int (0 : Int32)), .val (.int (0 : Int32)), .val (.int (0 : Int32)), .val .null, .val .null, .val (.int (1 : Int32)), .val (.int (1 : Int32))] [(.ref b4_15), (.ref b4_1)])) rfl (by rw [hml]; rfl) (Steps.refl _) (argsL := [(.ref b4_15)]) (rest := []) (lenOf own_pd10 rfl) rfl (by show 2 * 0 + _ ≤ _; exact Nat.le_of_eq rfl) (hb hby at_278) (fun _ _ => ⟨rfl, e588, (by decide : 10 + 0 ≤ _), (by decide : 52 + 0 ≤ _)⟩)
      dsimp only [Pt.U, Pt.locs, Pt.cells, Pt.slots] at X590 l590 y590 z590 st590 hQ590
      subst y590 z590
      obtain ⟨rfl, N590q, e590⟩ := hQ590
      have N591 : Fr n0 L590 := by rw [l590]; exact Fr.app N589 N590q
      obtain ⟨cq592, kq592, q592a, q592b, q592c⟩ := isOf hZ e590 f560
      obtain ⟨_, _, ⟨T592, L592, k592, n592⟩, -, X592, ⟨Lc592, hQ592, l592, y592, z592⟩, st592⟩ := X590.virtualBack hx (y := (⟨"com/example/nestor/nestor/IdTable", "id", "(I)Ljava/lang/String;"⟩ : MethodName)) (z := (⟨"com/example/nestor/nestor/IdTable", "id", "(I)Ljava/lang/String;"⟩ : MethodName)) hown (mvT hZ (hw _ (List.mem_of_getElem? (i := 125) rfl))) (mvT hZ (hw _ (List.mem_of_getElem? (i := 126) rfl))) (notFace_of_selects (args := #[]) (mvT hZ (hw _ (List.mem_of_getElem? (i := 128) rfl)))) (mvT hZ (hw _ (List.mem_of_getElem? (i := 128) rfl))) (mvT hZ (hw _ (List.mem_of_getElem? (i := 127) rfl))) (by decide) (backOf (W := 0) (own_rm22n1k0 l Z a0 hw [] b71 b2_103 k2_103 b4_1 T538.heap n0 zs570 f563 f561 Ov115 f564) hZ (hw _ (List.mem_of_getElem? (i := 129) rfl)) (hw _ (List.mem_of_getElem? (i := 28) rfl)) (by decide) (by decide)) q592a q592c (g := (mkF m 288 #[.val (.int p0), .val (.int p1), .val (.int p2), .val (.ref b4_1), .val (.ref b4_15), .val (.ref b4_38), .val (.ref b71), .val (.int (0 : Int32)), .val (.int (0 : Int32)), .val (.int (0 : Int32)), .val .null, .val .null, .val (.int (1 : Int32)), .val (.int (1 : Int32))] [(.int (0 : Int32)), (.ref b71)])) rfl (by rw [hml]; rfl) (Steps.refl _) (argsL := [(.int (0 : Int32))]) (rest := []) (lenOf own_pd17 rfl) rfl (by show 2 * 0 + _ ≤ _; exact Nat.le_of_eq rfl) (hb hby at_288) (fun _ _ => ⟨rfl, e590, (by decide : 10 + 0 ≤ _), (by decide : 52 + 0 ≤ _)⟩)
      dsimp only [Pt.U, Pt.locs, Pt.cells, Pt.slots] at X592 l592 y592 z592 st592 hQ592
      subst y592 z592
      obtain ⟨rfl, N592q, e592⟩ := hQ592
      have N593 : Fr n0 L592 := by rw [l592]; exact Fr.app N591 N592q
      obtain ⟨cq594, kq594, q594a, q594b, q594c⟩ := isOf hZ e592 f542
      obtain ⟨_, _, ⟨T594, L594, k594, n594⟩, -, X594, ⟨Lc594, hQ594, l594, y594, z594⟩, st594⟩ := X592.virtualBack hx (y := (⟨"java/lang/String", "equals", "(Ljava/lang/Object;)Z"⟩ : MethodName)) (z := (⟨"java/lang/String", "equals", "(Ljava/lang/Object;)Z"⟩ : MethodName)) hown (mvT hZ (hw _ (List.mem_of_getElem? (i := 112) rfl))) (mvT hZ (hw _ (List.mem_of_getElem? (i := 113) rfl))) (notFace_of_selects (args := #[]) (mvT hZ (hw _ (List.mem_of_getElem? (i := 115) rfl)))) (mvT hZ (hw _ (List.mem_of_getElem? (i := 115) rfl))) (mvT hZ (hw _ (List.mem_of_getElem? (i := 114) rfl))) (by decide) (backOf (W := 0) (own_rm19 l Z a0 hw [] b4_1 b4_38 z_COMPACT_STRINGS b1_13_1 b1_13_38 k1_13_1 (own_cb p0) k1_13_38 (own_cb p2) T538.heap n0 zs570 HC (Nat.ne_of_lt lt47) f543 f540 f539 f574 f544 f541 f552 f559) hZ (hw _ (List.mem_of_getElem? (i := 116) rfl)) (hw _ (List.mem_of_getElem? (i := 2) rfl)) (by decide) (by decide)) q594a q594c (g := (mkF m 293 #[.val (.int p0), .val (.int p1), .val (.int p2), .val (.ref b4_1), .val (.ref b4_15), .val (.ref b4_38), .val (.ref b71), .val (.int (0 : Int32)), .val (.int (0 : Int32)), .val (.int (0 : Int32)), .val .null, .val .null, .val (.int (1 : Int32)), .val (.int (1 : Int32))] [(.ref b4_38), (.ref b4_1)])) rfl (by rw [hml]; rfl) (Steps.refl _) (argsL := [(.ref b4_38)]) (rest := []) (lenOf own_pd10 rfl) rfl (by show 2 * 0 + _ ≤ _; exact Nat.le_of_eq rfl) (hb hby at_293) (fun _ _ => ⟨rfl, e592, (by decide : 10 + 0 ≤ _), (by decide : 52 + 0 ≤ _)⟩)
      dsimp only [Pt.U, Pt.locs, Pt.cells, Pt.slots] at X594 l594 y594 z594 st594 hQ594
      subst y594 z594
      obtain ⟨rfl, N594q, e594⟩ := hQ594
      have N595 : Fr n0 L594 := by rw [l594]; exact Fr.app N593 N594q
      have pre596 : ∀ t, Steps p.tables e below (T594.setTop (mkF m 302 #[.val (.int p0), .val (.int p1), .val (.int p2), .val (.ref b4_1), .val (.ref b4_15), .val (.ref b4_38), .val (.ref b71), .val (.int (0 : Int32)), .val (.int (0 : Int32)), .val (.int (0 : Int32)), .val .null, .val .null, .val (.int (1 : Int32)), .val (.int (1 : Int32))] [(.int (1 : Int32))])) t → Steps p.tables e below (s₁.setTop (entryFrame m #[(.int p0), (.int p1), (.int p2)] maxLocals)) t := fun t k => pre471 t (by
          refine st538.trans ?_
          show Steps p.tables e below (T538.setTop (mkF m 65 #[.val (.int p0), .val (.int p1), .val (.int p2), .val (.ref b4_1), .val (.ref b4_15), .val (.ref b4_38), .val (.ref b71), .val (.int (0 : Int32)), .val (.int (0 : Int32)), .unset, .unset, .unset, .unset, .unset] [(.int (0 : Int32))])) _
          refine XS.istore X538.here hx rfl (hb hby at_65) rfl (l' := #[.val (.int p0), .val (.int p1), .val (.int p2), .val (.ref b4_1), .val (.ref b4_15), .val (.ref b4_38), .val (.ref b71), .val (.int (0 : Int32)), .val (.int (0 : Int32)), .val (.int (0 : Int32)), .unset, .unset, .unset, .unset]) rfl ?_
          refine XS.aconstNull X538.here hx rfl (hb hby at_67) ?_
          refine XS.astore X538.here hx rfl (hb hby at_68) rfl rfl (l' := #[.val (.int p0), .val (.int p1), .val (.int p2), .val (.ref b4_1), .val (.ref b4_15), .val (.ref b4_38), .val (.ref b71), .val (.int (0 : Int32)), .val (.int (0 : Int32)), .val (.int (0 : Int32)), .val .null, .unset, .unset, .unset]) rfl ?_
          refine XS.aconstNull X538.here hx rfl (hb hby at_70) ?_
          show Steps p.tables e below (T538.setTop (mkF m 71 #[.val (.int p0), .val (.int p1), .val (.int p2), .val (.ref b4_1), .val (.ref b4_15), .val (.ref b4_38), .val (.ref b71), .val (.int (0 : Int32)), .val (.int (0 : Int32)), .val (.int (0 : Int32)), .val .null, .unset, .unset, .unset] [.null])) _
          refine XS.astore X538.here hx rfl (hb hby at_71) rfl rfl (l' := #[.val (.int p0), .val (.int p1), .val (.int p2), .val (.ref b4_1), .val (.ref b4_15), .val (.ref b4_38), .val (.ref b71), .val (.int (0 : Int32)), .val (.int (0 : Int32)), .val (.int (0 : Int32)), .val .null, .val .null, .unset, .unset]) rfl ?_
          refine XS.iconst X538.here hx rfl (hb hby at_73) ?_
          refine XS.istore X538.here hx rfl (hb hby at_74) rfl (l' := #[.val (.int p0), .val (.int p1), .val (.int p2), .val (.ref b4_1), .val (.ref b4_15), .val (.ref b4_38), .val (.ref b71), .val (.int (0 : Int32)), .val (.int (0 : Int32)), .val (.int (0 : Int32)), .val .null, .val .null, .val (.int (1 : Int32)), .unset]) rfl ?_
          refine XS.aload X538.here hx rfl (hb hby at_76) rfl rfl ?_
          show Steps p.tables e below (T538.setTop (mkF m 78 #[.val (.int p0), .val (.int p1), .val (.int p2), .val (.ref b4_1), .val (.ref b4_15), .val (.ref b4_38), .val (.ref b71), .val (.int (0 : Int32)), .val (.int (0 : Int32)), .val (.int (0 : Int32)), .val .null, .val .null, .val (.int (1 : Int32)), .unset] [(.ref b4_15)])) _
          refine XS.aloadN X538.here hx rfl (hb hby at_78) rfl rfl ?_
          refine st573.trans ?_
          show Steps p.tables e below (T573.setTop (mkF m 82 #[.val (.int p0), .val (.int p1), .val (.int p2), .val (.ref b4_1), .val (.ref b4_15), .val (.ref b4_38), .val (.ref b71), .val (.int (0 : Int32)), .val (.int (0 : Int32)), .val (.int (0 : Int32)), .val .null, .val .null, .val (.int (1 : Int32)), .unset] [(.int (own_f19 (own_cb p1) (own_cb p0)))])) _
          refine XS.ifYes X573.here hx rfl (pc0 := 82) (pc' := 92) rfl (hb hby at_82) rfl ((if0 _ _).trans (feq (own_eqs _ _ (own_eq1 _ _ (own_cby p1) (own_cby p0) hc197))).2) (by decide) (by decide) ?_
          refine XS.aload X573.here hx rfl (hb hby at_92) rfl rfl ?_
          refine XS.aloadN X573.here hx rfl (hb hby at_94) rfl rfl ?_
          refine st576.trans ?_
          show Steps p.tables e below (T576.setTop (mkF m 98 #[.val (.int p0), .val (.int p1), .val (.int p2), .val (.ref b4_1), .val (.ref b4_15), .val (.ref b4_38), .val (.ref b71), .val (.int (0 : Int32)), .val (.int (0 : Int32)), .val (.int (0 : Int32)), .val .null, .val .null, .val (.int (1 : Int32)), .unset] [(.int (own_f19 (own_cb p2) (own_cb p0)))])) _
          refine XS.ifYes X576.here hx rfl (pc0 := 98) (pc' := 111) rfl (hb hby at_98) rfl ((if0 _ _).trans (feq (own_eqs _ _ (own_eq1 _ _ (own_cby p2) (own_cby p0) hc472))).2) (by decide) (by decide) ?_
          refine XS.iconst X576.here hx rfl (hb hby at_111) ?_
          refine XS.goto X576.here hx rfl (pc0 := 112) (pc' := 116) rfl (hb hby at_112) (by decide) (by decide) ?_
          refine XS.istore X576.here hx rfl (hb hby at_116) rfl (l' := #[.val (.int p0), .val (.int p1), .val (.int p2), .val (.ref b4_1), .val (.ref b4_15), .val (.ref b4_38), .val (.ref b71), .val (.int (0 : Int32)), .val (.int (0 : Int32)), .val (.int (0 : Int32)), .val .null, .val .null, .val (.int (1 : Int32)), .val (.int (1 : Int32))]) rfl ?_
          show Steps p.tables e below (T576.setTop (mkF m 118 #[.val (.int p0), .val (.int p1), .val (.int p2), .val (.ref b4_1), .val (.ref b4_15), .val (.ref b4_38), .val (.ref b71), .val (.int (0 : Int32)), .val (.int (0 : Int32)), .val (.int (0 : Int32)), .val .null, .val .null, .val (.int (1 : Int32)), .val (.int (1 : Int32))] [])) _
          refine XS.iload X576.here hx rfl (hb hby at_118) rfl ?_
          refine XS.ifYes X576.here hx rfl (pc0 := 120) (pc' := 146) rfl (hb hby at_120) rfl ((if0 _ _).trans (feq (by decide : ¬ ((1 : Int32) = (0 : Int32)))).2) (by decide) (by decide) ?_
          refine XS.aload X576.here hx rfl (hb hby at_146) rfl rfl ?_
          refine st578.trans ?_
          show Steps p.tables e below (T578.setTop (mkF m 151 #[.val (.int p0), .val (.int p1), .val (.int p2), .val (.ref b4_1), .val (.ref b4_15), .val (.ref b4_38), .val (.ref b71), .val (.int (0 : Int32)), .val (.int (0 : Int32)), .val (.int (0 : Int32)), .val .null, .val .null, .val (.int (1 : Int32)), .val (.int (1 : Int32))] [(.int (1 : Int32))])) _
          refine XS.iload X578.here hx rfl (hb hby at_151) rfl ?_
          refine XS.icmpYes X578.here hx rfl (pc0 := 153) (pc' := 158) rfl (hb hby at_153) rfl (teq (by decide : (1 : Int32) = (1 : Int32))).1 (by decide) (by decide) ?_
          refine XS.iload X578.here hx rfl (hb hby at_158) rfl ?_
          refine XS.ifNo X578.here hx rfl (hb hby at_160) rfl ((if0 _ _).trans (flt (by decide : ¬ ((0 : Int32) < (0 : Int32)))).1) ?_
          show Steps p.tables e below (T578.setTop (mkF m 163 #[.val (.int p0), .val (.int p1), .val (.int p2), .val (.ref b4_1), .val (.ref b4_15), .val (.ref b4_38), .val (.ref b71), .val (.int (0 : Int32)), .val (.int (0 : Int32)), .val (.int (0 : Int32)), .val .null, .val .null, .val (.int (1 : Int32)), .val (.int (1 : Int32))] [])) _
          refine XS.iload X578.here hx rfl (hb hby at_163) rfl ?_
          refine XS.iload X578.here hx rfl (hb hby at_165) rfl ?_
          refine XS.icmpNo X578.here hx rfl (hb hby at_167) rfl (tlt (by decide : (0 : Int32) < (1 : Int32))).2.1 ?_
          refine XS.iload X578.here hx rfl (hb hby at_170) rfl ?_
          show Steps p.tables e below (T578.setTop (mkF m 172 #[.val (.int p0), .val (.int p1), .val (.int p2), .val (.ref b4_1), .val (.ref b4_15), .val (.ref b4_38), .val (.ref b71), .val (.int (0 : Int32)), .val (.int (0 : Int32)), .val (.int (0 : Int32)), .val .null, .val .null, .val (.int (1 : Int32)), .val (.int (1 : Int32))] [(.int (0 : Int32))])) _
          refine XS.ifNo X578.here hx rfl (hb hby at_172) rfl ((if0 _ _).trans (flt (by decide : ¬ ((0 : Int32) < (0 : Int32)))).1) ?_
          refine XS.iload X578.here hx rfl (hb hby at_175) rfl ?_
          refine XS.iload X578.here hx rfl (hb hby at_177) rfl ?_
          refine XS.icmpNo X578.here hx rfl (hb hby at_179) rfl (tlt (by decide : (0 : Int32) < (1 : Int32))).2.1 ?_
          show Steps p.tables e below (T578.setTop (mkF m 182 #[.val (.int p0), .val (.int p1), .val (.int p2), .val (.ref b4_1), .val (.ref b4_15), .val (.ref b4_38), .val (.ref b71), .val (.int (0 : Int32)), .val (.int (0 : Int32)), .val (.int (0 : Int32)), .val .null, .val .null, .val (.int (1 : Int32)), .val (.int (1 : Int32))] [])) _
          refine XS.iload X578.here hx rfl (hb hby at_182) rfl ?_
          refine XS.ifNo X578.here hx rfl (hb hby at_184) rfl ((if0 _ _).trans (flt (by decide : ¬ ((0 : Int32) < (0 : Int32)))).1) ?_
          refine XS.iload X578.here hx rfl (hb hby at_187) rfl ?_
          refine XS.iload X578.here hx rfl (hb hby at_189) rfl ?_
          show Steps p.tables e below (T578.setTop (mkF m 191 #[.val (.int p0), .val (.int p1), .val (.int p2), .val (.ref b4_1), .val (.ref b4_15), .val (.ref b4_38), .val (.ref b71), .val (.int (0 : Int32)), .val (.int (0 : Int32)), .val (.int (0 : Int32)), .val .null, .val .null, .val (.int (1 : Int32)), .val (.int (1 : Int32))] [(.int (1 : Int32)), (.int (0 : Int32))])) _
          refine XS.icmpYes X578.here hx rfl (pc0 := 191) (pc' := 196) rfl (hb hby at_191) rfl (tlt (by decide : (0 : Int32) < (1 : Int32))).1 (by decide) (by decide) ?_
          refine XS.aload X578.here hx rfl (hb hby at_196) rfl rfl ?_
          refine XS.iconst X578.here hx rfl (hb hby at_198) ?_
          refine st580.trans ?_
          show Steps p.tables e below (T580.setTop (mkF m 202 #[.val (.int p0), .val (.int p1), .val (.int p2), .val (.ref b4_1), .val (.ref b4_15), .val (.ref b4_38), .val (.ref b71), .val (.int (0 : Int32)), .val (.int (0 : Int32)), .val (.int (0 : Int32)), .val .null, .val .null, .val (.int (1 : Int32)), .val (.int (1 : Int32))] [(.ref b4_1)])) _
          refine XS.aloadN X580.here hx rfl (hb hby at_202) rfl rfl ?_
          refine st582.trans ?_
          show Steps p.tables e below (T582.setTop (mkF m 206 #[.val (.int p0), .val (.int p1), .val (.int p2), .val (.ref b4_1), .val (.ref b4_15), .val (.ref b4_38), .val (.ref b71), .val (.int (0 : Int32)), .val (.int (0 : Int32)), .val (.int (0 : Int32)), .val .null, .val .null, .val (.int (1 : Int32)), .val (.int (1 : Int32))] [(.int (1 : Int32))])) _
          refine XS.ifYes X582.here hx rfl (pc0 := 206) (pc' := 211) rfl (hb hby at_206) rfl ((if0 _ _).trans (feq (by decide : ¬ ((1 : Int32) = (0 : Int32)))).2) (by decide) (by decide) ?_
          refine XS.iload X582.here hx rfl (hb hby at_211) rfl ?_
          refine XS.iconst X582.here hx rfl (hb hby at_213) ?_
          refine XS.icmpYes X582.here hx rfl (pc0 := 214) (pc' := 233) rfl (hb hby at_214) rfl (tlt (by decide : (1 : Int32) < (2 : Int32))).1 (by decide) (by decide) ?_
          show Steps p.tables e below (T582.setTop (mkF m 233 #[.val (.int p0), .val (.int p1), .val (.int p2), .val (.ref b4_1), .val (.ref b4_15), .val (.ref b4_38), .val (.ref b71), .val (.int (0 : Int32)), .val (.int (0 : Int32)), .val (.int (0 : Int32)), .val .null, .val .null, .val (.int (1 : Int32)), .val (.int (1 : Int32))] [])) _
          refine XS.iload X582.here hx rfl (hb hby at_233) rfl ?_
          refine XS.iconst X582.here hx rfl (hb hby at_235) ?_
          refine XS.icmpYes X582.here hx rfl (pc0 := 236) (pc' := 255) rfl (hb hby at_236) rfl (tlt (by decide : (1 : Int32) < (3 : Int32))).1 (by decide) (by decide) ?_
          refine XS.aload X582.here hx rfl (hb hby at_255) rfl rfl ?_
          show Steps p.tables e below (T582.setTop (mkF m 257 #[.val (.int p0), .val (.int p1), .val (.int p2), .val (.ref b4_1), .val (.ref b4_15), .val (.ref b4_38), .val (.ref b71), .val (.int (0 : Int32)), .val (.int (0 : Int32)), .val (.int (0 : Int32)), .val .null, .val .null, .val (.int (1 : Int32)), .val (.int (1 : Int32))] [(.ref b71)])) _
          refine XS.iload X582.here hx rfl (hb hby at_257) rfl ?_
          refine st584.trans ?_
          show Steps p.tables e below (T584.setTop (mkF m 262 #[.val (.int p0), .val (.int p1), .val (.int p2), .val (.ref b4_1), .val (.ref b4_15), .val (.ref b4_38), .val (.ref b71), .val (.int (0 : Int32)), .val (.int (0 : Int32)), .val (.int (0 : Int32)), .val .null, .val .null, .val (.int (1 : Int32)), .val (.int (1 : Int32))] [(.ref b4_1)])) _
          refine XS.aloadN X584.here hx rfl (hb hby at_262) rfl rfl ?_
          refine st586.trans ?_
          show Steps p.tables e below (T586.setTop (mkF m 266 #[.val (.int p0), .val (.int p1), .val (.int p2), .val (.ref b4_1), .val (.ref b4_15), .val (.ref b4_38), .val (.ref b71), .val (.int (0 : Int32)), .val (.int (0 : Int32)), .val (.int (0 : Int32)), .val .null, .val .null, .val (.int (1 : Int32)), .val (.int (1 : Int32))] [(.int (1 : Int32))])) _
          refine XS.ifNo X586.here hx rfl (hb hby at_266) rfl ((if0 _ _).trans (feq (by decide : ¬ ((1 : Int32) = (0 : Int32)))).1) ?_
          refine XS.aload X586.here hx rfl (hb hby at_269) rfl rfl ?_
          refine XS.iload X586.here hx rfl (hb hby at_271) rfl ?_
          refine st588.trans ?_
          show Steps p.tables e below (T588.setTop (mkF m 276 #[.val (.int p0), .val (.int p1), .val (.int p2), .val (.ref b4_1), .val (.ref b4_15), .val (.ref b4_38), .val (.ref b71), .val (.int (0 : Int32)), .val (.int (0 : Int32)), .val (.int (0 : Int32)), .val .null, .val .null, .val (.int (1 : Int32)), .val (.int (1 : Int32))] [(.ref b4_1)])) _
          refine XS.aload X588.here hx rfl (hb hby at_276) rfl rfl ?_
          refine st590.trans ?_
          show Steps p.tables e below (T590.setTop (mkF m 281 #[.val (.int p0), .val (.int p1), .val (.int p2), .val (.ref b4_1), .val (.ref b4_15), .val (.ref b4_38), .val (.ref b71), .val (.int (0 : Int32)), .val (.int (0 : Int32)), .val (.int (0 : Int32)), .val .null, .val .null, .val (.int (1 : Int32)), .val (.int (1 : Int32))] [(.int (own_f19 (own_cb p0) (own_cb p1)))])) _
          refine XS.ifNo X590.here hx rfl (hb hby at_281) rfl ((if0 _ _).trans (feq (own_eqs _ _ (Eq.symm (own_eq1 _ _ (own_cby p1) (own_cby p0) hc197)))).1) ?_
          refine XS.aload X590.here hx rfl (hb hby at_284) rfl rfl ?_
          refine XS.iload X590.here hx rfl (hb hby at_286) rfl ?_
          refine st592.trans ?_
          show Steps p.tables e below (T592.setTop (mkF m 291 #[.val (.int p0), .val (.int p1), .val (.int p2), .val (.ref b4_1), .val (.ref b4_15), .val (.ref b4_38), .val (.ref b71), .val (.int (0 : Int32)), .val (.int (0 : Int32)), .val (.int (0 : Int32)), .val .null, .val .null, .val (.int (1 : Int32)), .val (.int (1 : Int32))] [(.ref b4_1)])) _
          refine XS.aload X592.here hx rfl (hb hby at_291) rfl rfl ?_
          refine st594.trans ?_
          show Steps p.tables e below (T594.setTop (mkF m 296 #[.val (.int p0), .val (.int p1), .val (.int p2), .val (.ref b4_1), .val (.ref b4_15), .val (.ref b4_38), .val (.ref b71), .val (.int (0 : Int32)), .val (.int (0 : Int32)), .val (.int (0 : Int32)), .val .null, .val .null, .val (.int (1 : Int32)), .val (.int (1 : Int32))] [(.int (own_f19 (own_cb p0) (own_cb p2)))])) _
          refine XS.ifYes X594.here hx rfl (pc0 := 296) (pc' := 301) rfl (hb hby at_296) rfl ((if0 _ _).trans (feq (own_eqs _ _ (Eq.symm (own_eq1 _ _ (own_cby p2) (own_cby p0) hc472)))).2) (by decide) (by decide) ?_
          refine XS.iconst X594.here hx rfl (hb hby at_301) ?_
          exact k)
      obtain ⟨fs, hr, hrun, hended, hW, hsame⟩ := X594.leave (v := some (.int (1 : Int32))) (fun h => by rw [Bd.returns] at h; cases h) (hlocks := hlk)
      refine ⟨_, _, pre596 _ ?_, hrun, hended, _, _, rfl, ?_, ⟨_, rfl⟩, hW, hsame.mono (by decide) (by decide)⟩
      · show Steps p.tables e below (T594.setTop (mkF m 302 #[.val (.int p0), .val (.int p1), .val (.int p2), .val (.ref b4_1), .val (.ref b4_15), .val (.ref b4_38), .val (.ref b71), .val (.int (0 : Int32)), .val (.int (0 : Int32)), .val (.int (0 : Int32)), .val .null, .val .null, .val (.int (1 : Int32)), .val (.int (1 : Int32))] [(.int (1 : Int32))])) _
        exact retN X594 hx (t := .boolean) Bd.returns (by simp) (hb hby at_302) hr
      · show own_Q0 Z p0 p1 p2 z_COMPACT_STRINGS h0 n0 _ T594.heap _; exact ⟨(by show some (Value.int _) = some (.int (own_f0 p0 p1 p2)); unfold own_f0; rw [if_neg hc197, if_neg hc472]), N595⟩
theorem own_plain (p0 p1 p2 : Int32) : own_f0 p0 p1 p2 = 1 := by
  unfold own_f0
  repeat' split
  all_goals rfl
set_option maxRecDepth 65536 in
set_option maxHeartbeats 40000000 in
theorem comes_1 {Post : Tables → Env → Array Value → State → Outcome → State → Prop} (hpost : ∀ tb e args s v u, (limb_1_1.after args s (.returned v) u = true ∧ limb_1_2.after args s (.returned v) u = true ∧ True) → FrameEnd s (.returned v) u (Jvm.fieldLocs frame_1_writes args s ++ Jvm.arrayLocs frame_1_arrays args s ++ Jvm.staticLocs frame_1_statics s) 32 192 → Post tb e args s (.returned v) u) :
    ArmFor flags0 classFile x code maxLocals ret World_1 tables_1 room_1 Calls_1 rest_1 Pre_1 Post := by
  intro l hfl _ _ p e ha hc hk s m args below hf hA hF happ hP
  obtain ⟨hcalls, hrest, hpre⟩ := hP
  obtain ⟨-, -, -, hnamed, -, -, -, hat⟩ := (Spec.applies_iff hf).mp happ
  obtain ⟨hg, hn⟩ := and_e (Cond.before_iff.mp (show (Jvm.Cond.and given_1 narrow_1).before args s = true from hpre))
  obtain ⟨gc, gr0⟩ := and_e hg
  obtain ⟨ga0, gr1⟩ := and_e gr0
  obtain ⟨ga1, gr2⟩ := and_e gr1
  have ga2 := gr2
  obtain ⟨w0, w1, w2, rfl⟩ : ∃ w0 w1 w2 : Value, args = #[w0, w1, w2] := by
    have hs : args.size = 3 := by simpa [Cond.value, given_1] using gc
    obtain ⟨L⟩ := args
    match L, hs with
    | [w0, w1, w2], _ => exact ⟨w0, w1, w2, rfl⟩
  have hw := fun d (hd : d ∈ tables_1) => atoms_spec (ws := Jvm.Cond.code x code maxLocals ret :: tables_1) hat d (List.mem_cons_of_mem _ hd)
  obtain ⟨i0, ei0⟩ := is_v ga0
  obtain rfl : w0 = (.int i0) := Option.some.inj ei0
  obtain ⟨i1, ei1⟩ := is_v ga1
  obtain rfl : w1 = (.int i1) := Option.some.inj ei1
  obtain ⟨i2, ei2⟩ := is_v ga2
  obtain rfl : w2 = (.int i2) := Option.some.inj ei2
  obtain ⟨hsets, hown0⟩ := atoms_of _ (rest_1_c_eq ▸ (show rest_1_c.before _ s = true from hrest))
  have n5 := not_v (Cond.before_iff.mp (hsets _ (List.mem_of_getElem? (i := 2) rfl)))
  obtain ⟨g1, e10⟩ := is_v (Cond.before_iff.mp (hsets _ (List.mem_of_getElem? (i := 1) rfl)))
  have S12 : Sta s s.heap "java/lang/String" "COMPACT_STRINGS" "Z" (.int g1) := Sta.start e10 (Or.inl (hsets _ (List.mem_of_getElem? (i := 0) rfl)))
  have c17 : ¬ (g1 = (0 : Int32)) := gotF (Cond.eq_ints e10 (Term.int_eval (0))) n5
  obtain ⟨n, o, h1, h2, h3, _, L, rfl, ⟨hv, N⟩, hq⟩ := own_rm0 l s _ hw tables_1 i0 i1 i2 g1 s.heap s.heap.size (Nat.le_refl _) c17 (Old.start s) S12 p e ha hc hk s m _ below hf ((Spec.applies_iff_loose hf).mp happ).1 ⟨rfl, State.Warmed39.refl s, rfl⟩ trivial
  rw [show (own_f0 i0 i1 i2) = (1 : Int32) from own_plain i0 i1 i2] at hv
  subst hv
  refine ⟨n, _, h1, h2, h3, hpost _ _ _ _ _ _ ⟨Cond.after_iff.mpr rfl, Cond.after_iff.mpr (eq_i res_at (Term.int_eval (1)) rfl), trivial⟩ ⟨hq.1, hq.2.1, (hq.2.2.sift fun y hy => Or.inr (N y hy)).mono (by decide) (by decide)⟩⟩
theorem main_1_1 : Claimed_1_1 := comes_1 fun _ _ _ _ _ _ h hF => ⟨h.1, hF⟩
theorem main_1_2 : Claimed_1_2 := comes_1 fun _ _ _ _ _ _ h hF => ⟨h.2.1, hF⟩
end Jvm.Pilot.@@N@@
namespace Jvm.Pilot.@@N@@
open Jvm Jvm.ClassFile Sem Op Lib Jvm.Free Jvm.Stand Jvm.Pilot.@@N@@.Jvm.D
/-! MADE BY PROGRAM (witnessworld.py) out of the Statement's table words and the real class files: 27 classes; the members and pool entries that the words name. The judged class is class 1, her method 1. -/
namespace start1
open Jvm.ClassFile
def u (s : String) : CpInfo := .utf8 (stringToUtf16 s)
/-- a pool by its gaps: so many unusable entries, then the entry; so many at the end -/
def gap : Nat → List CpInfo → List CpInfo
  | 0, r => r
  | n + 1, r => .unusable :: gap n r
def poolList (es : List (Nat × CpInfo)) (last : Nat) : List CpInfo := es.foldr (fun e r => gap e.1 (e.2 :: r)) (gap last [])
def pool (es : List (Nat × CpInfo)) (last : Nat) : Array CpInfo := ⟨poolList es last⟩
def fileOf (pool : Array CpInfo) (this : Nat) (attrs : Array Attribute := #[]) (ms : Array MethodInfo := #[]) (fl : Nat := 33) (sup : Nat := 0) (ifs : Array Nat := #[]) (fds : Array FieldInfo := #[]) : ClassFile where
  minorVersion := 0
  majorVersion := 65
  constantPool := pool
  accessFlags := fl
  thisClass := this
  superClass := sup
  interfaces := ifs
  fields := fds
  methods := ms
  attributes := attrs
def plain (name : String) (sup : Option ClassId) : Class where
  name := name
  kind := .ordinary
  loader := none
  accessFlags := 33
  super := sup
  interfaces := #[]
  cf := none
  fields := #[]
  methods := #[]
  instanceTypes := #[]
  staticTypes := #[]
  resolved := #[]
  callSites := []
  init := .initialized
  statics := none
  mirror := none

def pool0 : Array CpInfo := pool [(5, u "<init>"), (0, u "()V"), (1, .class_ 10), (1, u "java/lang/Object")] 113

def k0c0 : Code := { maxStack := 0, maxLocals := 1, code := object_method_1_code, exceptionTable := #[], attributes := #[] }
def k0m0 : Method := { name := "<init>", desc := "()V", sig := { parameters := [], returnType := none }, accessFlags := 1, code := some k0c0 }
/-- java/lang/Object -/
def k0 : Class := { plain "java/lang/Object" none with
  accessFlags := 33
  interfaces := #[]
  cf := some (fileOf pool0 8 #[] #[{ accessFlags := 1, nameIndex := 5, descriptorIndex := 6, attributes := #[] }] 33 0 #[] #[])
  fields := #[]
  methods := #[k0m0]
  instanceTypes := #[]
  staticTypes := #[]
  resolved := Array.replicate 124 none
  statics := none }

def pool1 : Array CpInfo := pool [(2, .class_ 4), (0, .nameAndType 5 6), (0, u "java/lang/Object"), (0, u "<init>"), (0, u "()V"), (0, .methodref 8 9), (0, .class_ 10), (0, .nameAndType 11 12), (0, u "java/lang/String"), (0, u "valueOf"), (0, u "(C)Ljava/lang/String;"), (0, .class_ 14), (0, u "com/example/nestor/nestor/IdTable"), (0, .methodref 13 3), (0, .methodref 13 17), (0, .nameAndType 18 19), (0, u "placeOf"), (0, u "(Ljava/lang/String;)I"), (0, .methodref 8 21), (0, .nameAndType 22 23), (0, u "equals"), (0, u "(Ljava/lang/Object;)Z"), (0, .methodref 13 25), (0, .nameAndType 26 27), (0, u "size"), (0, u "()I"), (0, .methodref 13 29), (0, .nameAndType 30 31), (0, u "id"), (0, u "(I)Ljava/lang/String;"), (0, .class_ 33), (0, u "com/example/nestor/nestor/IdTableIdPinLaw"), (2, u "law"), (0, u "(III)Z")] 3

def k1m0 : Method := { name := "<init>", desc := "()V", sig := { parameters := [], returnType := none }, accessFlags := 1, code := none }
def k1c1 : Code := { maxStack := 2, maxLocals := 14, code := code, exceptionTable := #[], attributes := #[] }
def k1m1 : Method := { name := "law", desc := "(III)Z", sig := { parameters := [.int, .int, .int], returnType := some .boolean }, accessFlags := 9, code := some k1c1 }
/-- com/example/nestor/nestor/IdTableIdPinLaw -/
def k1 : Class := { plain "com/example/nestor/nestor/IdTableIdPinLaw" (some 0) with
  accessFlags := 49
  interfaces := #[]
  cf := some (fileOf pool1 32 #[] #[{ accessFlags := 1, nameIndex := 5, descriptorIndex := 6, attributes := #[] }, { accessFlags := 9, nameIndex := 36, descriptorIndex := 37, attributes := #[] }] 49 2 #[] #[])
  fields := #[]
  methods := #[k1m0, k1m1]
  instanceTypes := #[]
  staticTypes := #[]
  resolved := Array.replicate 41 none
  statics := none }

def pool2 : Array CpInfo := pool [(1, .class_ 2), (0, u "java/io/Serializable"), (0, .class_ 4), (0, u "java/lang/Object")] 2

/-- java/io/Serializable -/
def k2 : Class := { plain "java/io/Serializable" (some 0) with
  accessFlags := 1537
  interfaces := #[]
  cf := some (fileOf pool2 1 #[] #[] 1537 3 #[] #[])
  fields := #[]
  methods := #[]
  instanceTypes := #[]
  staticTypes := #[]
  resolved := Array.replicate 7 none
  statics := none }

def pool3 : Array CpInfo := pool [(1, .class_ 2), (0, u "java/lang/Comparable"), (0, .class_ 4), (0, u "java/lang/Object")] 7

/-- java/lang/Comparable -/
def k3 : Class := { plain "java/lang/Comparable" (some 0) with
  accessFlags := 1537
  interfaces := #[]
  cf := some (fileOf pool3 1 #[] #[] 1537 3 #[] #[])
  fields := #[]
  methods := #[]
  instanceTypes := #[]
  staticTypes := #[]
  resolved := Array.replicate 12 none
  statics := none }

def pool4 : Array CpInfo := pool [(2, .class_ 4), (1, u "java/lang/CharSequence"), (42, .class_ 48), (0, u "java/lang/CharSequence$1CodePointIterator"), (10, .class_ 60), (0, u "java/lang/CharSequence$1CharIterator"), (5, .class_ 67), (0, u "java/lang/Object")] 63

/-- java/lang/CharSequence -/
def k4 : Class := { plain "java/lang/CharSequence" (some 0) with
  accessFlags := 1537
  interfaces := #[]
  cf := some (fileOf pool4 2 #[.nestMembers #[47, 59]] #[] 1537 66 #[] #[])
  fields := #[]
  methods := #[]
  instanceTypes := #[]
  staticTypes := #[]
  resolved := Array.replicate 131 none
  statics := none }

def pool5 : Array CpInfo := pool [(1, .class_ 2), (0, u "java/lang/constant/Constable"), (0, .class_ 4), (0, u "java/lang/Object")] 6

/-- java/lang/constant/Constable -/
def k5 : Class := { plain "java/lang/constant/Constable" (some 0) with
  accessFlags := 1537
  interfaces := #[]
  cf := some (fileOf pool5 1 #[] #[] 1537 3 #[] #[])
  fields := #[]
  methods := #[]
  instanceTypes := #[]
  staticTypes := #[]
  resolved := Array.replicate 11 none
  statics := none }

def pool6 : Array CpInfo := pool [(1, .class_ 2), (0, u "java/lang/constant/ConstantDesc"), (0, .class_ 4), (0, u "java/lang/Object")] 32

/-- java/lang/constant/ConstantDesc -/
def k6 : Class := { plain "java/lang/constant/ConstantDesc" (some 0) with
  accessFlags := 1537
  interfaces := #[]
  cf := some (fileOf pool6 1 #[] #[] 1537 3 #[] #[])
  fields := #[]
  methods := #[]
  instanceTypes := #[]
  staticTypes := #[]
  resolved := Array.replicate 37 none
  statics := none }

def pool7 : Array CpInfo := pool [(1, .methodref 2 3), (0, .class_ 4), (0, .nameAndType 5 6), (0, u "java/lang/Object"), (0, u "<init>"), (0, u "()V"), (2, .fieldref 10 11), (0, .class_ 12), (0, .nameAndType 13 14), (0, u "java/lang/String"), (0, u "value"), (0, u "[B"), (0, .fieldref 10 16), (0, .nameAndType 17 18), (0, u "coder"), (0, u "B"), (0, .fieldref 10 20), (0, .nameAndType 21 22), (0, u "hash"), (0, u "I"), (0, .fieldref 10 24), (0, .nameAndType 25 26), (0, u "hashIsZero"), (0, u "Z"), (11, .fieldref 10 39), (0, .nameAndType 40 26), (0, u "COMPACT_STRINGS"), (12, u "toBytes"), (53, .class_ 109), (1, u "java/lang/StringLatin1"), (32, u "()Z"), (66, .methodref 10 210), (0, .nameAndType 5 211), (0, u "([BB)V"), (122, u "()I"), (34, u "(C)Z"), (122, .methodref 10 493), (0, .nameAndType 494 142), (0, u "isLatin1"), (46, .methodref 107 542), (0, .nameAndType 543 544), (0, u "equals"), (0, u "([B[B)Z"), (28, u "(Ljava/lang/Object;)Z"), (1, .class_ 576), (0, u "java/lang/CharSequence"), (22, u "CASE_INSENSITIVE_ORDER"), (0, u "Ljava/util/Comparator;"), (27, .methodref 107 629), (0, .nameAndType 630 631), (0, u "hashCode"), (0, u "([B)I"), (150, u "valueOf"), (0, u "(C)Ljava/lang/String;"), (231, .methodref 107 1016), (0, .nameAndType 1017 369), (0, u "canEncode"), (0, .methodref 107 1019), (0, .nameAndType 53 1020), (0, u "(C)[B"), (80, u "serialPersistentFields"), (0, u "[Ljava/io/ObjectStreamField;"), (0, .class_ 1104), (0, u "java/lang/String$CaseInsensitiveComparator"), (1, .class_ 1107), (0, u "java/io/Serializable"), (0, .class_ 1109), (0, u "java/lang/Comparable"), (0, .class_ 1111), (0, u "java/lang/constant/Constable"), (0, .class_ 1113), (0, u "java/lang/constant/ConstantDesc"), (2, u "serialVersionUID"), (0, u "J"), (3, u "REPL"), (0, u "C"), (2, u "LATIN1"), (1, u "UTF16")] 323

def k7m0 : Method := { name := "<init>", desc := "()V", sig := { parameters := [], returnType := none }, accessFlags := 1, code := none }
def k7c1 : Code := { maxStack := 2, maxLocals := 3, code := jdk_42_method_66_code, exceptionTable := #[], attributes := #[] }
def k7m1 : Method := { name := "equals", desc := "(Ljava/lang/Object;)Z", sig := { parameters := [(.object "java/lang/Object")], returnType := some .boolean }, accessFlags := 1, code := some k7c1 }
def k7c2 : Code := { maxStack := 2, maxLocals := 2, code := jdk_42_method_78_code, exceptionTable := #[], attributes := #[] }
def k7m2 : Method := { name := "hashCode", desc := "()I", sig := { parameters := [], returnType := some .int }, accessFlags := 1, code := some k7c2 }
def k7c3 : Code := { maxStack := 4, maxLocals := 1, code := jdk_42_method_139_code, exceptionTable := #[], attributes := #[] }
def k7m3 : Method := { name := "valueOf", desc := "(C)Ljava/lang/String;", sig := { parameters := [.char], returnType := some (.object "java/lang/String") }, accessFlags := 9, code := some k7c3 }
def k7c4 : Code := { maxStack := 2, maxLocals := 3, code := jdk_42_method_151_code, exceptionTable := #[], attributes := #[] }
def k7m4 : Method := { name := "<init>", desc := "([BB)V", sig := { parameters := [(.array .byte), .byte], returnType := none }, accessFlags := 0, code := some k7c4 }
def k7c5 : Code := { maxStack := 1, maxLocals := 1, code := jdk_42_method_154_code, exceptionTable := #[], attributes := #[] }
def k7m5 : Method := { name := "isLatin1", desc := "()Z", sig := { parameters := [], returnType := some .boolean }, accessFlags := 0, code := some k7c5 }
/-- java/lang/String -/
def k7 : Class := { plain "java/lang/String" (some 0) with
  accessFlags := 49
  interfaces := #[2, 3, 4, 5, 6]
  cf := some (fileOf pool7 10 #[.nestMembers #[1103]] #[{ accessFlags := 1, nameIndex := 5, descriptorIndex := 6, attributes := #[] }, { accessFlags := 1, nameIndex := 543, descriptorIndex := 573, attributes := #[] }, { accessFlags := 1, nameIndex := 630, descriptorIndex := 334, attributes := #[] }, { accessFlags := 9, nameIndex := 782, descriptorIndex := 783, attributes := #[] }, { accessFlags := 0, nameIndex := 5, descriptorIndex := 211, attributes := #[] }, { accessFlags := 0, nameIndex := 494, descriptorIndex := 142, attributes := #[] }] 49 2 #[1106, 1108, 575, 1110, 1112] #[{ accessFlags := 18, nameIndex := 13, descriptorIndex := 14, attributes := #[] }, { accessFlags := 18, nameIndex := 17, descriptorIndex := 18, attributes := #[] }, { accessFlags := 2, nameIndex := 21, descriptorIndex := 22, attributes := #[] }, { accessFlags := 2, nameIndex := 25, descriptorIndex := 26, attributes := #[] }, { accessFlags := 26, nameIndex := 1116, descriptorIndex := 1117, attributes := #[] }, { accessFlags := 24, nameIndex := 40, descriptorIndex := 26, attributes := #[] }, { accessFlags := 26, nameIndex := 1101, descriptorIndex := 1102, attributes := #[] }, { accessFlags := 26, nameIndex := 1121, descriptorIndex := 1122, attributes := #[] }, { accessFlags := 25, nameIndex := 599, descriptorIndex := 600, attributes := #[] }, { accessFlags := 24, nameIndex := 1125, descriptorIndex := 18, attributes := #[] }, { accessFlags := 24, nameIndex := 1127, descriptorIndex := 18, attributes := #[] }])
  fields := #[{ name := "value", type := (.array .byte), accessFlags := 18, slot := 0, constantValue := 0 }, { name := "coder", type := .byte, accessFlags := 18, slot := 1, constantValue := 0 }, { name := "hash", type := .int, accessFlags := 2, slot := 2, constantValue := 0 }, { name := "hashIsZero", type := .boolean, accessFlags := 2, slot := 3, constantValue := 0 }, { name := "serialVersionUID", type := .long, accessFlags := 26, slot := 0, constantValue := 0 }, { name := "COMPACT_STRINGS", type := .boolean, accessFlags := 24, slot := 1, constantValue := 0 }, { name := "serialPersistentFields", type := (.array (.object "java/io/ObjectStreamField")), accessFlags := 26, slot := 2, constantValue := 0 }, { name := "REPL", type := .char, accessFlags := 26, slot := 3, constantValue := 0 }, { name := "CASE_INSENSITIVE_ORDER", type := (.object "java/util/Comparator"), accessFlags := 25, slot := 4, constantValue := 0 }, { name := "LATIN1", type := .byte, accessFlags := 24, slot := 5, constantValue := 0 }, { name := "UTF16", type := .byte, accessFlags := 24, slot := 6, constantValue := 0 }]
  methods := #[k7m0, k7m1, k7m2, k7m3, k7m4, k7m5]
  instanceTypes := #[(.array .byte), .byte, .int, .boolean]
  staticTypes := #[.long, .boolean, (.array (.object "java/io/ObjectStreamField")), .char, (.object "java/util/Comparator"), .byte, .byte]
  resolved := Array.replicate 1451 none
  statics := some 0 }

def pool8 : Array CpInfo := pool [(4, .class_ 6), (1, u "java/lang/Object"), (0, u "<init>"), (0, u "()V"), (5, .class_ 16), (1, u "java/lang/StringLatin1"), (40, u "([B)I"), (32, u "canEncode"), (14, u "(C)Z"), (15, u "$assertionsDisabled"), (0, u "Z"), (98, .class_ 223), (1, u "java/lang/StringLatin1$LinesSpliterator"), (57, u "equals"), (0, u "([B[B)Z"), (15, u "hashCode"), (81, u "toBytes"), (1, u "(C)[B"), (7, .class_ 391), (0, u "java/lang/StringLatin1$CharsSpliterator")] 3

def k8m0 : Method := { name := "<init>", desc := "()V", sig := { parameters := [], returnType := none }, accessFlags := 0, code := none }
def k8c1 : Code := { maxStack := 2, maxLocals := 1, code := jdk_43_method_3_code, exceptionTable := #[], attributes := #[] }
def k8m1 : Method := { name := "canEncode", desc := "(C)Z", sig := { parameters := [.char], returnType := some .boolean }, accessFlags := 9, code := some k8c1 }
def k8c2 : Code := { maxStack := 3, maxLocals := 3, code := jdk_43_method_13_code, exceptionTable := #[], attributes := #[] }
def k8m2 : Method := { name := "equals", desc := "([B[B)Z", sig := { parameters := [(.array .byte), (.array .byte)], returnType := some .boolean }, accessFlags := 9, code := some k8c2 }
def k8c3 : Code := { maxStack := 5, maxLocals := 1, code := jdk_43_method_21_code, exceptionTable := #[], attributes := #[] }
def k8m3 : Method := { name := "hashCode", desc := "([B)I", sig := { parameters := [(.array .byte)], returnType := some .int }, accessFlags := 9, code := some k8c3 }
def k8c4 : Code := { maxStack := 4, maxLocals := 1, code := jdk_43_method_46_code, exceptionTable := #[], attributes := #[] }
def k8m4 : Method := { name := "toBytes", desc := "(C)[B", sig := { parameters := [.char], returnType := some (.array .byte) }, accessFlags := 9, code := some k8c4 }
/-- java/lang/StringLatin1 -/
def k8 : Class := { plain "java/lang/StringLatin1" (some 0) with
  accessFlags := 48
  interfaces := #[]
  cf := some (fileOf pool8 14 #[.nestMembers #[390, 221]] #[{ accessFlags := 0, nameIndex := 7, descriptorIndex := 8, attributes := #[] }, { accessFlags := 9, nameIndex := 90, descriptorIndex := 105, attributes := #[] }, { accessFlags := 9, nameIndex := 281, descriptorIndex := 282, attributes := #[] }, { accessFlags := 9, nameIndex := 298, descriptorIndex := 57, attributes := #[] }, { accessFlags := 9, nameIndex := 380, descriptorIndex := 382, attributes := #[] }] 48 4 #[] #[{ accessFlags := 4120, nameIndex := 121, descriptorIndex := 122, attributes := #[] }])
  fields := #[{ name := "$assertionsDisabled", type := .boolean, accessFlags := 4120, slot := 0, constantValue := 0 }]
  methods := #[k8m0, k8m1, k8m2, k8m3, k8m4]
  instanceTypes := #[]
  staticTypes := #[.boolean]
  resolved := Array.replicate 395 none
  statics := none }

def pool9 : Array CpInfo := pool [(1, .class_ 2), (0, u "java/lang/Integer"), (0, .methodref 4 5), (0, .class_ 6), (0, .nameAndType 7 8), (0, u "java/lang/Object"), (0, u "<init>"), (0, u "()V"), (0, .class_ 10), (0, u "java/lang/String"), (0, .fieldref 12 13), (0, .class_ 14), (0, .nameAndType 15 16), (0, u "com/example/nestor/nestor/IdTable"), (0, u "ids"), (0, u "[Ljava/lang/String;"), (0, .fieldref 12 18), (0, .nameAndType 19 20), (0, u "slots"), (0, u "[I"), (0, .class_ 22), (0, u "java/util/TreeMap"), (0, .methodref 21 5), (0, .fieldref 12 25), (0, .nameAndType 26 27), (0, u "crowded"), (0, u "Ljava/util/TreeMap;"), (0, .fieldref 12 29), (0, .nameAndType 30 31), (0, u "size"), (0, u "I"), (0, .methodref 33 34), (0, .class_ 35), (0, .nameAndType 36 37), (0, u "java/util/Objects"), (0, u "checkIndex"), (0, u "(II)I"), (7, .methodref 9 46), (0, .nameAndType 47 48), (0, u "hashCode"), (0, u "()I"), (0, .methodref 12 50), (0, .nameAndType 51 52), (0, u "find"), (0, u "(ILjava/lang/String;[BII)I"), (0, .methodref 12 54), (0, .nameAndType 55 56), (0, u "placeOfUnfound"), (0, u "(Ljava/lang/String;I)I"), (9, .methodref 12 67), (0, .nameAndType 68 69), (0, u "home"), (0, u "(I)I"), (4, .methodref 9 75), (0, .nameAndType 76 77), (0, u "equals"), (0, u "(Ljava/lang/Object;)Z"), (0, .integer 2147483648), (7, .methodref 12 87), (0, .nameAndType 88 56), (0, u "add"), (0, .methodref 12 90), (0, .nameAndType 91 92), (0, u "put"), (0, u "(II)V"), (10, .integer 2654435769), (0, .methodref 1 105), (0, .nameAndType 106 69), (0, u "numberOfTrailingZeros"), (7, u "REACH"), (2, u "CROWDED"), (4, u "id"), (0, u "(I)Ljava/lang/String;"), (2, u "placeOf"), (0, u "(Ljava/lang/String;)I")] 4

def k9c0 : Code := { maxStack := 3, maxLocals := 1, code := prog_10_method_1_code, exceptionTable := #[], attributes := #[] }
def k9m0 : Method := { name := "<init>", desc := "()V", sig := { parameters := [], returnType := none }, accessFlags := 1, code := some k9c0 }
def k9c1 : Code := { maxStack := 1, maxLocals := 1, code := prog_10_method_2_code, exceptionTable := #[], attributes := #[] }
def k9m1 : Method := { name := "size", desc := "()I", sig := { parameters := [], returnType := some .int }, accessFlags := 1, code := some k9c1 }
def k9c2 : Code := { maxStack := 3, maxLocals := 2, code := prog_10_method_3_code, exceptionTable := #[], attributes := #[] }
def k9m2 : Method := { name := "id", desc := "(I)Ljava/lang/String;", sig := { parameters := [.int], returnType := some (.object "java/lang/String") }, accessFlags := 1, code := some k9c2 }
def k9c3 : Code := { maxStack := 6, maxLocals := 3, code := prog_10_method_5_code, exceptionTable := #[], attributes := #[] }
def k9m3 : Method := { name := "placeOf", desc := "(Ljava/lang/String;)I", sig := { parameters := [(.object "java/lang/String")], returnType := some .int }, accessFlags := 1, code := some k9c3 }
def k9c4 : Code := { maxStack := 4, maxLocals := 10, code := prog_10_method_7_code, exceptionTable := #[], attributes := #[] }
def k9m4 : Method := { name := "find", desc := "(ILjava/lang/String;[BII)I", sig := { parameters := [.int, (.object "java/lang/String"), (.array .byte), .int, .int], returnType := some .int }, accessFlags := 2, code := some k9c4 }
def k9c5 : Code := { maxStack := 3, maxLocals := 4, code := prog_10_method_8_code, exceptionTable := #[], attributes := #[] }
def k9m5 : Method := { name := "placeOfUnfound", desc := "(Ljava/lang/String;I)I", sig := { parameters := [(.object "java/lang/String"), .int], returnType := some .int }, accessFlags := 2, code := some k9c5 }
def k9c6 : Code := { maxStack := 8, maxLocals := 6, code := prog_10_method_9_code, exceptionTable := #[], attributes := #[] }
def k9m6 : Method := { name := "add", desc := "(Ljava/lang/String;I)I", sig := { parameters := [(.object "java/lang/String"), .int], returnType := some .int }, accessFlags := 2, code := some k9c6 }
def k9c7 : Code := { maxStack := 4, maxLocals := 3, code := prog_10_method_10_code, exceptionTable := #[], attributes := #[] }
def k9m7 : Method := { name := "put", desc := "(II)V", sig := { parameters := [.int, .int], returnType := none }, accessFlags := 2, code := some k9c7 }
def k9c8 : Code := { maxStack := 3, maxLocals := 2, code := prog_10_method_11_code, exceptionTable := #[], attributes := #[] }
def k9m8 : Method := { name := "home", desc := "(I)I", sig := { parameters := [.int], returnType := some .int }, accessFlags := 2, code := some k9c8 }
/-- com/example/nestor/nestor/IdTable -/
def k9 : Class := { plain "com/example/nestor/nestor/IdTable" (some 0) with
  accessFlags := 49
  interfaces := #[]
  cf := some (fileOf pool9 12 #[] #[{ accessFlags := 1, nameIndex := 7, descriptorIndex := 8, attributes := #[] }, { accessFlags := 1, nameIndex := 30, descriptorIndex := 48, attributes := #[] }, { accessFlags := 1, nameIndex := 122, descriptorIndex := 123, attributes := #[] }, { accessFlags := 1, nameIndex := 126, descriptorIndex := 127, attributes := #[] }, { accessFlags := 2, nameIndex := 51, descriptorIndex := 52, attributes := #[] }, { accessFlags := 2, nameIndex := 55, descriptorIndex := 56, attributes := #[] }, { accessFlags := 2, nameIndex := 88, descriptorIndex := 56, attributes := #[] }, { accessFlags := 2, nameIndex := 91, descriptorIndex := 92, attributes := #[] }, { accessFlags := 2, nameIndex := 68, descriptorIndex := 69, attributes := #[] }] 49 4 #[] #[{ accessFlags := 26, nameIndex := 114, descriptorIndex := 31, attributes := #[] }, { accessFlags := 26, nameIndex := 117, descriptorIndex := 31, attributes := #[] }, { accessFlags := 2, nameIndex := 15, descriptorIndex := 16, attributes := #[] }, { accessFlags := 2, nameIndex := 30, descriptorIndex := 31, attributes := #[] }, { accessFlags := 2, nameIndex := 19, descriptorIndex := 20, attributes := #[] }, { accessFlags := 18, nameIndex := 26, descriptorIndex := 27, attributes := #[] }])
  fields := #[{ name := "REACH", type := .int, accessFlags := 26, slot := 0, constantValue := 0 }, { name := "CROWDED", type := .int, accessFlags := 26, slot := 1, constantValue := 0 }, { name := "ids", type := (.array (.object "java/lang/String")), accessFlags := 2, slot := 0, constantValue := 0 }, { name := "size", type := .int, accessFlags := 2, slot := 1, constantValue := 0 }, { name := "slots", type := (.array .int), accessFlags := 2, slot := 2, constantValue := 0 }, { name := "crowded", type := (.object "java/util/TreeMap"), accessFlags := 18, slot := 3, constantValue := 0 }]
  methods := #[k9m0, k9m1, k9m2, k9m3, k9m4, k9m5, k9m6, k9m7, k9m8]
  instanceTypes := #[(.array (.object "java/lang/String")), .int, (.array .int), (.object "java/util/TreeMap")]
  staticTypes := #[.int, .int]
  resolved := Array.replicate 132 none
  statics := none }

def pool10 : Array CpInfo := pool [(2, .class_ 4), (1, u "java/util/Map"), (31, .class_ 37), (0, u "java/util/Map$Entry"), (55, .class_ 94), (0, u "java/lang/Object")] 168

/-- java/util/Map -/
def k10 : Class := { plain "java/util/Map" (some 0) with
  accessFlags := 1537
  interfaces := #[]
  cf := some (fileOf pool10 2 #[.nestMembers #[36]] #[] 1537 93 #[] #[])
  fields := #[]
  methods := #[]
  instanceTypes := #[]
  staticTypes := #[]
  resolved := Array.replicate 263 none
  statics := none }

def pool11 : Array CpInfo := pool [(1, .methodref 2 3), (0, .class_ 4), (0, .nameAndType 5 6), (0, u "java/lang/Object"), (0, u "<init>"), (0, u "()V"), (1, .class_ 10), (1, u "java/util/AbstractMap"), (42, .class_ 54), (0, u "java/util/Map"), (9, u "keySet"), (0, u "Ljava/util/Set;"), (0, .class_ 67), (0, u "java/util/AbstractMap$1"), (5, u "values"), (0, u "Ljava/util/Collection;"), (0, .class_ 76), (0, u "java/util/AbstractMap$2"), (104, .class_ 182), (0, u "java/util/AbstractMap$ViewCollection"), (0, .class_ 184), (0, u "java/util/AbstractMap$SimpleImmutableEntry"), (0, .class_ 186), (0, u "java/util/AbstractMap$SimpleEntry"), (0, .class_ 188), (0, u "java/util/AbstractMap$2$1"), (0, .class_ 190), (0, u "java/util/AbstractMap$1$1")] 5

def k11c0 : Code := { maxStack := 1, maxLocals := 1, code := jdk_71_method_1_code, exceptionTable := #[], attributes := #[] }
def k11m0 : Method := { name := "<init>", desc := "()V", sig := { parameters := [], returnType := none }, accessFlags := 4, code := some k11c0 }
/-- java/util/AbstractMap -/
def k11 : Class := { plain "java/util/AbstractMap" (some 0) with
  accessFlags := 1057
  interfaces := #[10]
  cf := some (fileOf pool11 8 #[.nestMembers #[181, 183, 185, 75, 187, 66, 189]] #[{ accessFlags := 4, nameIndex := 5, descriptorIndex := 6, attributes := #[] }] 1057 2 #[53] #[{ accessFlags := 128, nameIndex := 64, descriptorIndex := 65, attributes := #[] }, { accessFlags := 128, nameIndex := 73, descriptorIndex := 74, attributes := #[] }])
  fields := #[{ name := "keySet", type := (.object "java/util/Set"), accessFlags := 128, slot := 0, constantValue := 0 }, { name := "values", type := (.object "java/util/Collection"), accessFlags := 128, slot := 1, constantValue := 0 }]
  methods := #[k11m0]
  instanceTypes := #[(.object "java/util/Set"), (.object "java/util/Collection")]
  staticTypes := #[]
  resolved := Array.replicate 196 none
  statics := none }

def pool12 : Array CpInfo := pool [(2, .class_ 4), (1, u "java/util/SequencedMap"), (38, .class_ 44), (0, u "java/util/SequencedMap$1SeqKeySet"), (3, .class_ 49), (0, u "java/util/SequencedMap$1SeqValues"), (1, .class_ 52), (0, u "java/util/SequencedMap$1SeqEntrySet"), (1, .class_ 55), (0, u "java/lang/Object"), (0, .class_ 57), (0, u "java/util/Map")] 48

/-- java/util/SequencedMap -/
def k12 : Class := { plain "java/util/SequencedMap" (some 0) with
  accessFlags := 1537
  interfaces := #[10]
  cf := some (fileOf pool12 2 #[.nestMembers #[51, 48, 43]] #[] 1537 54 #[56] #[])
  fields := #[]
  methods := #[]
  instanceTypes := #[]
  staticTypes := #[]
  resolved := Array.replicate 106 none
  statics := none }

def pool13 : Array CpInfo := pool [(14, .class_ 16), (1, u "java/util/SortedMap"), (2, .class_ 20), (0, u "java/lang/Object"), (0, .class_ 22), (0, u "java/util/SequencedMap")] 50

/-- java/util/SortedMap -/
def k13 : Class := { plain "java/util/SortedMap" (some 0) with
  accessFlags := 1537
  interfaces := #[12]
  cf := some (fileOf pool13 14 #[] #[] 1537 19 #[21] #[])
  fields := #[]
  methods := #[]
  instanceTypes := #[]
  staticTypes := #[]
  resolved := Array.replicate 73 none
  statics := none }

def pool14 : Array CpInfo := pool [(2, .class_ 4), (1, u "java/util/NavigableMap"), (5, .class_ 11), (0, u "java/lang/Object"), (0, .class_ 13), (0, u "java/util/SortedMap")] 53

/-- java/util/NavigableMap -/
def k14 : Class := { plain "java/util/NavigableMap" (some 0) with
  accessFlags := 1537
  interfaces := #[13]
  cf := some (fileOf pool14 2 #[] #[] 1537 10 #[12] #[])
  fields := #[]
  methods := #[]
  instanceTypes := #[]
  staticTypes := #[]
  resolved := Array.replicate 67 none
  statics := none }

def pool15 : Array CpInfo := pool [(1, .class_ 2), (0, u "java/lang/Cloneable"), (0, .class_ 4), (0, u "java/lang/Object")] 2

/-- java/lang/Cloneable -/
def k15 : Class := { plain "java/lang/Cloneable" (some 0) with
  accessFlags := 1537
  interfaces := #[]
  cf := some (fileOf pool15 1 #[] #[] 1537 3 #[] #[])
  fields := #[]
  methods := #[]
  instanceTypes := #[]
  staticTypes := #[]
  resolved := Array.replicate 7 none
  statics := none }

def pool16 : Array CpInfo := pool [(1, .methodref 2 3), (0, .class_ 4), (0, .nameAndType 5 6), (0, u "java/util/AbstractMap"), (0, u "<init>"), (0, u "()V"), (0, .fieldref 8 9), (0, .class_ 10), (0, .nameAndType 11 12), (0, u "java/util/TreeMap"), (0, u "size"), (0, u "I"), (0, .fieldref 8 14), (0, .nameAndType 15 12), (0, u "modCount"), (0, .fieldref 8 17), (0, .nameAndType 18 19), (0, u "comparator"), (0, u "Ljava/util/Comparator;"), (14, u "entrySet"), (24, .class_ 61), (1, u "java/util/TreeMap$Entry"), (1, u "Ljava/lang/Object;"), (39, u "root"), (0, u "Ljava/util/TreeMap$Entry;"), (85, u "Ljava/util/TreeMap$EntrySet;"), (2, u "navigableKeySet"), (0, u "Ljava/util/TreeMap$KeySet;"), (2, u "descendingMap"), (0, u "Ljava/util/NavigableMap;"), (23, .class_ 223), (0, u "java/util/TreeMap$KeySet"), (7, .class_ 232), (0, u "java/util/NavigableMap"), (4, .class_ 238), (0, u "java/util/TreeMap$Values"), (3, .class_ 243), (0, u "java/util/TreeMap$EntrySet"), (1, .class_ 246), (0, u "java/util/TreeMap$DescendingSubMap"), (3, .class_ 251), (0, u "java/util/TreeMap$AscendingSubMap"), (17, .class_ 270), (0, u "java/util/TreeMap$KeyIterator"), (3, .class_ 275), (0, u "java/util/TreeMap$DescendingKeyIterator"), (17, u "Z"), (94, .class_ 389), (0, u "java/util/TreeMap$NavigableSubMap"), (1, .class_ 392), (0, u "java/util/TreeMap$KeySpliterator"), (3, .class_ 397), (0, u "java/util/TreeMap$DescendingKeySpliterator"), (4, u "UNBOUNDED"), (0, .class_ 404), (0, u "java/lang/Cloneable"), (0, .class_ 406), (0, u "java/io/Serializable"), (6, u "RED"), (2, u "BLACK"), (1, u "serialVersionUID"), (0, u "J"), (214, .class_ 635), (0, u "java/util/TreeMap$EntrySpliterator"), (0, .class_ 637), (0, u "java/util/TreeMap$ValueSpliterator"), (0, .class_ 639), (0, u "java/util/TreeMap$TreeMapSpliterator"), (0, .class_ 641), (0, u "java/util/TreeMap$SubMap"), (0, .class_ 643), (0, u "java/util/TreeMap$DescendingSubMap$DescendingEntrySetView"), (0, .class_ 645), (0, u "java/util/TreeMap$AscendingSubMap$AscendingEntrySetView"), (0, .class_ 647), (0, u "java/util/TreeMap$NavigableSubMap$DescendingSubMapKeyIterator"), (0, .class_ 649), (0, u "java/util/TreeMap$NavigableSubMap$SubMapKeyIterator"), (0, .class_ 651), (0, u "java/util/TreeMap$NavigableSubMap$DescendingSubMapEntryIterator"), (0, .class_ 653), (0, u "java/util/TreeMap$NavigableSubMap$SubMapEntryIterator"), (0, .class_ 655), (0, u "java/util/TreeMap$NavigableSubMap$SubMapIterator"), (0, .class_ 657), (0, u "java/util/TreeMap$NavigableSubMap$EntrySetView"), (0, .class_ 659), (0, u "java/util/TreeMap$ValueIterator"), (0, .class_ 661), (0, u "java/util/TreeMap$EntryIterator"), (0, .class_ 663), (0, u "java/util/TreeMap$PrivateEntryIterator")] 28

def k16c0 : Code := { maxStack := 2, maxLocals := 1, code := jdk_2729_method_1_code, exceptionTable := #[], attributes := #[] }
def k16m0 : Method := { name := "<init>", desc := "()V", sig := { parameters := [], returnType := none }, accessFlags := 1, code := some k16c0 }
/-- java/util/TreeMap -/
def k16 : Class := { plain "java/util/TreeMap" (some 11) with
  accessFlags := 33
  interfaces := #[14, 15, 2]
  cf := some (fileOf pool16 8 #[.nestMembers #[634, 636, 396, 391, 638, 59, 640, 245, 642, 250, 644, 388, 646, 648, 650, 652, 654, 656, 274, 269, 658, 660, 662, 222, 242, 237]] #[{ accessFlags := 1, nameIndex := 5, descriptorIndex := 6, attributes := #[] }] 33 2 #[231, 403, 405] #[{ accessFlags := 18, nameIndex := 18, descriptorIndex := 19, attributes := #[] }, { accessFlags := 130, nameIndex := 103, descriptorIndex := 104, attributes := #[] }, { accessFlags := 130, nameIndex := 11, descriptorIndex := 12, attributes := #[] }, { accessFlags := 130, nameIndex := 15, descriptorIndex := 12, attributes := #[] }, { accessFlags := 130, nameIndex := 34, descriptorIndex := 190, attributes := #[] }, { accessFlags := 130, nameIndex := 193, descriptorIndex := 194, attributes := #[] }, { accessFlags := 130, nameIndex := 197, descriptorIndex := 198, attributes := #[] }, { accessFlags := 26, nameIndex := 402, descriptorIndex := 63, attributes := #[] }, { accessFlags := 26, nameIndex := 413, descriptorIndex := 293, attributes := #[] }, { accessFlags := 26, nameIndex := 416, descriptorIndex := 293, attributes := #[] }, { accessFlags := 26, nameIndex := 418, descriptorIndex := 419, attributes := #[] }])
  fields := #[{ name := "comparator", type := (.object "java/util/Comparator"), accessFlags := 18, slot := 2, constantValue := 0 }, { name := "root", type := (.object "java/util/TreeMap$Entry"), accessFlags := 130, slot := 3, constantValue := 0 }, { name := "size", type := .int, accessFlags := 130, slot := 4, constantValue := 0 }, { name := "modCount", type := .int, accessFlags := 130, slot := 5, constantValue := 0 }, { name := "entrySet", type := (.object "java/util/TreeMap$EntrySet"), accessFlags := 130, slot := 6, constantValue := 0 }, { name := "navigableKeySet", type := (.object "java/util/TreeMap$KeySet"), accessFlags := 130, slot := 7, constantValue := 0 }, { name := "descendingMap", type := (.object "java/util/NavigableMap"), accessFlags := 130, slot := 8, constantValue := 0 }, { name := "UNBOUNDED", type := (.object "java/lang/Object"), accessFlags := 26, slot := 0, constantValue := 0 }, { name := "RED", type := .boolean, accessFlags := 26, slot := 1, constantValue := 0 }, { name := "BLACK", type := .boolean, accessFlags := 26, slot := 2, constantValue := 0 }, { name := "serialVersionUID", type := .long, accessFlags := 26, slot := 3, constantValue := 0 }]
  methods := #[k16m0]
  instanceTypes := #[(.object "java/util/Set"), (.object "java/util/Collection"), (.object "java/util/Comparator"), (.object "java/util/TreeMap$Entry"), .int, .int, (.object "java/util/TreeMap$EntrySet"), (.object "java/util/TreeMap$KeySet"), (.object "java/util/NavigableMap")]
  staticTypes := #[(.object "java/lang/Object"), .boolean, .boolean, .long]
  resolved := Array.replicate 692 none
  statics := none }

def pool17 : Array CpInfo := pool [(2, .class_ 4), (1, u "java/lang/Object"), (0, u "<init>"), (0, u "()V"), (1, .class_ 10), (1, u "java/lang/Number"), (2, .class_ 14), (0, u "java/io/Serializable"), (0, u "serialVersionUID"), (0, u "J")] 20

def k17m0 : Method := { name := "<init>", desc := "()V", sig := { parameters := [], returnType := none }, accessFlags := 1, code := none }
/-- java/lang/Number -/
def k17 : Class := { plain "java/lang/Number" (some 0) with
  accessFlags := 1057
  interfaces := #[2]
  cf := some (fileOf pool17 8 #[] #[{ accessFlags := 1, nameIndex := 5, descriptorIndex := 6, attributes := #[] }] 1057 2 #[13] #[{ accessFlags := 26, nameIndex := 15, descriptorIndex := 16, attributes := #[] }])
  fields := #[{ name := "serialVersionUID", type := .long, accessFlags := 26, slot := 0, constantValue := 0 }]
  methods := #[k17m0]
  instanceTypes := #[]
  staticTypes := #[.long]
  resolved := Array.replicate 37 none
  statics := none }

def pool18 : Array CpInfo := pool [(1, .class_ 2), (0, u "java/lang/Integer"), (16, u "digits"), (0, u "[C"), (33, u "(I)I"), (30, u "DigitOnes"), (0, u "[B"), (2, u "DigitTens"), (99, .class_ 190), (0, u "java/lang/Integer$IntegerCache"), (3, u "I"), (8, .class_ 204), (0, u "java/lang/Number"), (2, u "value"), (56, .integer 65536), (37, u "TYPE"), (0, u "Ljava/lang/Class;"), (0, .class_ 305), (0, u "java/lang/Comparable"), (0, .class_ 307), (0, u "java/lang/constant/Constable"), (0, .class_ 309), (0, u "java/lang/constant/ConstantDesc"), (0, u "MIN_VALUE"), (1, u "MAX_VALUE"), (3, u "SIZE"), (1, u "BYTES"), (1, u "serialVersionUID"), (0, u "J"), (84, u "numberOfTrailingZeros")] 46

def k18c0 : Code := { maxStack := 3, maxLocals := 2, code := jdk_33_method_48_code, exceptionTable := #[], attributes := #[] }
def k18m0 : Method := { name := "numberOfTrailingZeros", desc := "(I)I", sig := { parameters := [.int], returnType := some .int }, accessFlags := 9, code := some k18c0 }
/-- java/lang/Integer -/
def k18 : Class := { plain "java/lang/Integer" (some 17) with
  accessFlags := 49
  interfaces := #[3, 5, 6]
  cf := some (fileOf pool18 1 #[.nestMembers #[189]] #[{ accessFlags := 9, nameIndex := 406, descriptorIndex := 54, attributes := #[] }] 49 203 #[304, 306, 308] #[{ accessFlags := 25, nameIndex := 310, descriptorIndex := 194, attributes := #[] }, { accessFlags := 25, nameIndex := 312, descriptorIndex := 194, attributes := #[] }, { accessFlags := 25, nameIndex := 302, descriptorIndex := 303, attributes := #[] }, { accessFlags := 24, nameIndex := 19, descriptorIndex := 20, attributes := #[] }, { accessFlags := 24, nameIndex := 89, descriptorIndex := 86, attributes := #[] }, { accessFlags := 24, nameIndex := 85, descriptorIndex := 86, attributes := #[] }, { accessFlags := 18, nameIndex := 207, descriptorIndex := 194, attributes := #[] }, { accessFlags := 25, nameIndex := 316, descriptorIndex := 194, attributes := #[] }, { accessFlags := 25, nameIndex := 318, descriptorIndex := 194, attributes := #[] }, { accessFlags := 26, nameIndex := 320, descriptorIndex := 321, attributes := #[] }])
  fields := #[{ name := "MIN_VALUE", type := .int, accessFlags := 25, slot := 0, constantValue := 0 }, { name := "MAX_VALUE", type := .int, accessFlags := 25, slot := 1, constantValue := 0 }, { name := "TYPE", type := (.object "java/lang/Class"), accessFlags := 25, slot := 2, constantValue := 0 }, { name := "digits", type := (.array .char), accessFlags := 24, slot := 3, constantValue := 0 }, { name := "DigitTens", type := (.array .byte), accessFlags := 24, slot := 4, constantValue := 0 }, { name := "DigitOnes", type := (.array .byte), accessFlags := 24, slot := 5, constantValue := 0 }, { name := "value", type := .int, accessFlags := 18, slot := 0, constantValue := 0 }, { name := "SIZE", type := .int, accessFlags := 25, slot := 6, constantValue := 0 }, { name := "BYTES", type := .int, accessFlags := 25, slot := 7, constantValue := 0 }, { name := "serialVersionUID", type := .long, accessFlags := 26, slot := 8, constantValue := 0 }]
  methods := #[k18m0]
  instanceTypes := #[.int]
  staticTypes := #[.int, .int, (.object "java/lang/Class"), (.array .char), (.array .byte), (.array .byte), .int, .int, .long]
  resolved := Array.replicate 453 none
  statics := none }

def pool19 : Array CpInfo := pool [(2, .class_ 4), (1, u "java/lang/Object"), (0, u "<init>"), (0, u "()V"), (35, .class_ 44), (1, u "java/util/Objects"), (60, .methodref 106 107), (0, .class_ 108), (0, .nameAndType 109 110), (0, u "jdk/internal/util/Preconditions"), (0, u "checkIndex"), (0, u "(IILjava/util/function/BiFunction;)I"), (60, u "(II)I")] 12

def k19m0 : Method := { name := "<init>", desc := "()V", sig := { parameters := [], returnType := none }, accessFlags := 2, code := none }
def k19c1 : Code := { maxStack := 3, maxLocals := 2, code := jdk_31_method_17_code, exceptionTable := #[], attributes := #[] }
def k19m1 : Method := { name := "checkIndex", desc := "(II)I", sig := { parameters := [.int, .int], returnType := some .int }, accessFlags := 9, code := some k19c1 }
/-- java/util/Objects -/
def k19 : Class := { plain "java/util/Objects" (some 0) with
  accessFlags := 49
  interfaces := #[]
  cf := some (fileOf pool19 42 #[] #[{ accessFlags := 2, nameIndex := 5, descriptorIndex := 6, attributes := #[] }, { accessFlags := 9, nameIndex := 109, descriptorIndex := 171, attributes := #[] }] 49 2 #[] #[])
  fields := #[]
  methods := #[k19m0, k19m1]
  instanceTypes := #[]
  staticTypes := #[]
  resolved := Array.replicate 184 none
  statics := none }

def pool20 : Array CpInfo := pool [(2, .class_ 4), (1, u "java/lang/Object"), (0, u "<init>"), (0, u "()V"), (17, .class_ 26), (1, u "jdk/internal/util/Preconditions"), (6, u "checkIndex"), (21, .class_ 56), (0, u "jdk/internal/util/Preconditions$4"), (57, .class_ 115), (0, u "jdk/internal/util/Preconditions$1"), (7, u "SIOOBE_FORMATTER"), (0, u "Ljava/util/function/BiFunction;"), (0, .class_ 126), (0, u "jdk/internal/util/Preconditions$2"), (3, u "AIOOBE_FORMATTER"), (0, .class_ 132), (0, u "jdk/internal/util/Preconditions$3"), (3, u "IOOBE_FORMATTER"), (41, u "(IILjava/util/function/BiFunction;)I")] 15

def k20m0 : Method := { name := "<init>", desc := "()V", sig := { parameters := [], returnType := none }, accessFlags := 1, code := none }
def k20c1 : Code := { maxStack := 3, maxLocals := 3, code := jdk_41_method_11_code, exceptionTable := #[], attributes := #[] }
def k20m1 : Method := { name := "checkIndex", desc := "(IILjava/util/function/BiFunction;)I", sig := { parameters := [.int, .int, (.object "java/util/function/BiFunction")], returnType := some .int }, accessFlags := 9, code := some k20c1 }
/-- jdk/internal/util/Preconditions -/
def k20 : Class := { plain "jdk/internal/util/Preconditions" (some 0) with
  accessFlags := 33
  interfaces := #[]
  cf := some (fileOf pool20 24 #[.nestMembers #[55, 131, 125, 114]] #[{ accessFlags := 1, nameIndex := 5, descriptorIndex := 6, attributes := #[] }, { accessFlags := 9, nameIndex := 33, descriptorIndex := 178, attributes := #[] }] 33 2 #[] #[{ accessFlags := 25, nameIndex := 123, descriptorIndex := 124, attributes := #[] }, { accessFlags := 25, nameIndex := 130, descriptorIndex := 124, attributes := #[] }, { accessFlags := 25, nameIndex := 136, descriptorIndex := 124, attributes := #[] }])
  fields := #[{ name := "SIOOBE_FORMATTER", type := (.object "java/util/function/BiFunction"), accessFlags := 25, slot := 0, constantValue := 0 }, { name := "AIOOBE_FORMATTER", type := (.object "java/util/function/BiFunction"), accessFlags := 25, slot := 1, constantValue := 0 }, { name := "IOOBE_FORMATTER", type := (.object "java/util/function/BiFunction"), accessFlags := 25, slot := 2, constantValue := 0 }]
  methods := #[k20m0, k20m1]
  instanceTypes := #[]
  staticTypes := #[(.object "java/util/function/BiFunction"), (.object "java/util/function/BiFunction"), (.object "java/util/function/BiFunction")]
  resolved := Array.replicate 194 none
  statics := some 1 }

def pool21 : Array CpInfo := pool [(9, u "<init>"), (6, .class_ 18), (1, u "java/lang/Object"), (0, u "()V"), (1, .class_ 23), (1, u "jdk/internal/util/ArraysSupport"), (0, u "LOG2_ARRAY_LONG_INDEX_SCALE"), (0, u "I"), (2, u "U"), (0, u "Ljdk/internal/misc/Unsafe;"), (8, u "BIG_ENDIAN"), (0, u "Z"), (8, u "LOG2_BYTE_BIT_SIZE"), (4, u "LOG2_ARRAY_INT_INDEX_SCALE"), (54, u "JLA"), (0, u "Ljdk/internal/access/JavaLangAccess;"), (11, u "LOG2_ARRAY_BOOLEAN_INDEX_SCALE"), (9, u "LOG2_ARRAY_BYTE_INDEX_SCALE"), (5, u "LOG2_ARRAY_CHAR_INDEX_SCALE"), (5, u "LOG2_ARRAY_SHORT_INDEX_SCALE"), (18, u "LOG2_ARRAY_FLOAT_INDEX_SCALE"), (24, u "LOG2_ARRAY_DOUBLE_INDEX_SCALE"), (89, u "T_BOOLEAN"), (2, u "T_CHAR"), (1, u "T_FLOAT"), (1, u "T_DOUBLE"), (1, u "T_BYTE"), (1, u "T_SHORT"), (1, u "T_INT"), (1, u "T_LONG"), (1, u "SOFT_MAX_ARRAY_LENGTH")] 83

def k21m0 : Method := { name := "<init>", desc := "()V", sig := { parameters := [], returnType := none }, accessFlags := 2, code := none }
/-- jdk/internal/util/ArraysSupport -/
def k21 : Class := { plain "jdk/internal/util/ArraysSupport" (some 0) with
  accessFlags := 33
  interfaces := #[]
  cf := some (fileOf pool21 21 #[] #[{ accessFlags := 2, nameIndex := 9, descriptorIndex := 19, attributes := #[] }] 33 16 #[] #[{ accessFlags := 24, nameIndex := 28, descriptorIndex := 29, attributes := #[] }, { accessFlags := 26, nameIndex := 38, descriptorIndex := 39, attributes := #[] }, { accessFlags := 25, nameIndex := 121, descriptorIndex := 25, attributes := #[] }, { accessFlags := 25, nameIndex := 131, descriptorIndex := 25, attributes := #[] }, { accessFlags := 25, nameIndex := 137, descriptorIndex := 25, attributes := #[] }, { accessFlags := 25, nameIndex := 143, descriptorIndex := 25, attributes := #[] }, { accessFlags := 25, nameIndex := 53, descriptorIndex := 25, attributes := #[] }, { accessFlags := 25, nameIndex := 24, descriptorIndex := 25, attributes := #[] }, { accessFlags := 25, nameIndex := 162, descriptorIndex := 25, attributes := #[] }, { accessFlags := 25, nameIndex := 187, descriptorIndex := 25, attributes := #[] }, { accessFlags := 26, nameIndex := 48, descriptorIndex := 25, attributes := #[] }, { accessFlags := 25, nameIndex := 277, descriptorIndex := 25, attributes := #[] }, { accessFlags := 25, nameIndex := 280, descriptorIndex := 25, attributes := #[] }, { accessFlags := 25, nameIndex := 282, descriptorIndex := 25, attributes := #[] }, { accessFlags := 25, nameIndex := 284, descriptorIndex := 25, attributes := #[] }, { accessFlags := 25, nameIndex := 286, descriptorIndex := 25, attributes := #[] }, { accessFlags := 25, nameIndex := 288, descriptorIndex := 25, attributes := #[] }, { accessFlags := 25, nameIndex := 290, descriptorIndex := 25, attributes := #[] }, { accessFlags := 25, nameIndex := 292, descriptorIndex := 25, attributes := #[] }, { accessFlags := 26, nameIndex := 108, descriptorIndex := 109, attributes := #[] }, { accessFlags := 25, nameIndex := 294, descriptorIndex := 25, attributes := #[] }])
  fields := #[{ name := "U", type := (.object "jdk/internal/misc/Unsafe"), accessFlags := 24, slot := 0, constantValue := 0 }, { name := "BIG_ENDIAN", type := .boolean, accessFlags := 26, slot := 1, constantValue := 0 }, { name := "LOG2_ARRAY_BOOLEAN_INDEX_SCALE", type := .int, accessFlags := 25, slot := 2, constantValue := 0 }, { name := "LOG2_ARRAY_BYTE_INDEX_SCALE", type := .int, accessFlags := 25, slot := 3, constantValue := 0 }, { name := "LOG2_ARRAY_CHAR_INDEX_SCALE", type := .int, accessFlags := 25, slot := 4, constantValue := 0 }, { name := "LOG2_ARRAY_SHORT_INDEX_SCALE", type := .int, accessFlags := 25, slot := 5, constantValue := 0 }, { name := "LOG2_ARRAY_INT_INDEX_SCALE", type := .int, accessFlags := 25, slot := 6, constantValue := 0 }, { name := "LOG2_ARRAY_LONG_INDEX_SCALE", type := .int, accessFlags := 25, slot := 7, constantValue := 0 }, { name := "LOG2_ARRAY_FLOAT_INDEX_SCALE", type := .int, accessFlags := 25, slot := 8, constantValue := 0 }, { name := "LOG2_ARRAY_DOUBLE_INDEX_SCALE", type := .int, accessFlags := 25, slot := 9, constantValue := 0 }, { name := "LOG2_BYTE_BIT_SIZE", type := .int, accessFlags := 26, slot := 10, constantValue := 0 }, { name := "T_BOOLEAN", type := .int, accessFlags := 25, slot := 11, constantValue := 0 }, { name := "T_CHAR", type := .int, accessFlags := 25, slot := 12, constantValue := 0 }, { name := "T_FLOAT", type := .int, accessFlags := 25, slot := 13, constantValue := 0 }, { name := "T_DOUBLE", type := .int, accessFlags := 25, slot := 14, constantValue := 0 }, { name := "T_BYTE", type := .int, accessFlags := 25, slot := 15, constantValue := 0 }, { name := "T_SHORT", type := .int, accessFlags := 25, slot := 16, constantValue := 0 }, { name := "T_INT", type := .int, accessFlags := 25, slot := 17, constantValue := 0 }, { name := "T_LONG", type := .int, accessFlags := 25, slot := 18, constantValue := 0 }, { name := "JLA", type := (.object "jdk/internal/access/JavaLangAccess"), accessFlags := 26, slot := 19, constantValue := 0 }, { name := "SOFT_MAX_ARRAY_LENGTH", type := .int, accessFlags := 25, slot := 20, constantValue := 0 }]
  methods := #[k21m0]
  instanceTypes := #[]
  staticTypes := #[(.object "jdk/internal/misc/Unsafe"), .boolean, .int, .int, .int, .int, .int, .int, .int, .int, .int, .int, .int, .int, .int, .int, .int, .int, .int, (.object "jdk/internal/access/JavaLangAccess"), .int]
  resolved := Array.replicate 378 none
  statics := none }

/-- the primitive byte -/
def k22 : Class := { plain "byte" none with kind := .primitive 'B', accessFlags := 0x411 }
/-- [B -/
def k23 : Class := { plain "[B" (some 0) with kind := .array 22 .byte, interfaces := #[15, 2], accessFlags := 1041 }

/-- the primitive int -/
def k24 : Class := { plain "int" none with kind := .primitive 'I', accessFlags := 0x411 }
/-- [I -/
def k25 : Class := { plain "[I" (some 0) with kind := .array 24 .int, interfaces := #[15, 2], accessFlags := 1041 }

/-- [Ljava/lang/String; -/
def k26 : Class := { plain "[Ljava/lang/String;" (some 0) with kind := .array 7 (.object "java/lang/String"), interfaces := #[15, 2], accessFlags := 1041 }

def heap : Heap := #[{ cls := 7, slots := #[.long 0, .int 1, .null, .int 0, .null, .int 0, .int 0], vm := .statics 7 },
  { cls := 20, slots := #[.null, .null, .null], vm := .statics 20 }]
def classes : Array Class := #[k0, k1, k2, k3, k4, k5, k6, k7, k8, k9, k10, k11, k12, k13, k14, k15, k16, k17, k18, k19, k20, k21, k22, k23, k24, k25, k26]
def interned : List (Array UInt16 × Addr) := []
def slotsUsed : Nat := 10
def theMethod : MethodId := ⟨1, 1⟩
def args0 : Array Value := #[.int 65, .int 66, .int 65]
def aboutOver (below : List Frame) : State where
  vm := { classes := classes, interned := interned.toArray }
  heap := heap
  slotsUsed := slotsUsed
  threads := #[{ frames := .invoking theMethod args0 :: below }]
def below0 : List Frame := [.native { method := ⟨0, 0⟩, args := #[] }]
def about1 : State := aboutOver below0
def p0 : Program := .bare "" "" ""
def e0 : Env := launch0.env 0 0 0
theorem w_frames : about1.frames = Frame.invoking theMethod args0 :: below0 := rfl
set_option maxRecDepth 65536 in
theorem w_args : argsFit about1.vm theMethod args0 = true := by decide +kernel
set_option maxRecDepth 65536 in
theorem w_heap : heapFits about1 = true := by decide +kernel
set_option maxRecDepth 65536 in
theorem w_runnable : about1.curStatus? = some .runnable := by decide +kernel
set_option maxRecDepth 65536 in
theorem w_alone : about1.alone = true := by decide +kernel
set_option maxRecDepth 65536 in
theorem w_named : about1.methodNamed? x = some theMethod := by decide +kernel
set_option maxRecDepth 65536 in
theorem w_hears : about1.hears theMethod below0 = true := by decide +kernel
set_option maxRecDepth 65536 in
theorem w_ripe : about1.ripe theMethod args0 below0 = true := by decide +kernel
theorem w_running : about1.status = .running := rfl
set_option maxRecDepth 65536 in
theorem w_room : about1.hasRoom e0.platform room_1 = true :=
  launch0.hasRoom_least _ room_1 (by decide +kernel) (by decide +kernel) (by decide +kernel) (by decide +kernel) (by decide +kernel) (by decide +kernel)
theorem allAtoms_all (ts : List Jvm.Cond) (a : Array Jvm.Value) (st : Jvm.State) : (allAtoms ts).before a st = ts.all (fun c => c.before a st) := by
  induction ts with
  | nil => rfl
  | cons c t ih =>
    show (Jvm.Cond.and c (allAtoms t)).before a st = _
    rw [Jvm.Cond.before_and, ih, List.all_cons]
def words1 : List Jvm.Cond := Jvm.Cond.code x code maxLocals ret :: tables_1
/-- a 'code' word, met by the world's own term for the bytes: nothing is compared byte by byte -/
theorem code_word {y : MethodName} {bytes : ByteArray} {mx : Nat} {rt : Option FieldType} {a : Array Value} {s : State} {m : MethodId} {meth : Method} {c : Code} (h1 : s.methodNamed? y = some m) (h2 : s.vm.method? m = some meth) (h3 : meth.code = some c) (h4 : c.code = bytes)
    (h5 : (c.maxLocals == mx && c.exceptionTable.isEmpty && decide (c.maxStack ≤ mostOperands) && decide (meth.sig.returnType = rt) && !meth.locks && decide (parseMethodDescriptor y.desc = some meth.sig)) = true) : (Jvm.Cond.code y bytes mx rt).before a s = true := by
  simp only [Bool.and_eq_true, beq_iff_eq, Bool.not_eq_true', decide_eq_true_eq] at h5
  obtain ⟨⟨⟨⟨⟨g1, g2⟩, g3⟩, g4⟩, g5⟩, g6⟩ := h5
  simp [Cond.before, Cond.holds, Cond.value, h1, h2, h3, h4, g1, g2, g3, g4, g5, g6]
def isCode : Jvm.Cond → Bool
  | .code _ _ _ _ => true
  | _ => false
theorem all_split {L : List Jvm.Cond} {P : Jvm.Cond → Bool} (h1 : L.all (fun c => isCode c || P c) = true) (h2 : ∀ c ∈ L.filter isCode, P c = true) : L.all P = true := by
  refine List.all_eq_true.mpr fun c hc => ?_
  have h := List.all_eq_true.mp h1 c hc
  rcases Bool.eq_false_or_eq_true (isCode c) with hi | hi
  · exact h2 c (List.mem_filter.mpr ⟨hc, hi⟩)
  · simpa [hi] using h
set_option maxRecDepth 65536 in
theorem w_c0 : (Jvm.Cond.code x code maxLocals ret).before args0 about1 = true := code_word (m := ⟨1, 1⟩) (meth := k1m1) (c := k1c1) (by decide +kernel) rfl rfl rfl (by decide +kernel)
set_option maxRecDepth 65536 in
theorem w_c1 : (Jvm.Cond.code ({ cls := "java/lang/String", name := "valueOf", desc := "(C)Ljava/lang/String;" } : Jvm.MethodName) jdk_42_method_139_code (1 : Nat) (Option.some (Jvm.ClassFile.FieldType.object "java/lang/String"))).before args0 about1 = true := code_word (m := ⟨7, 3⟩) (meth := k7m3) (c := k7c3) (by decide +kernel) rfl rfl rfl (by decide +kernel)
set_option maxRecDepth 65536 in
theorem w_c2 : (Jvm.Cond.code ({ cls := "java/lang/StringLatin1", name := "canEncode", desc := "(C)Z" } : Jvm.MethodName) jdk_43_method_3_code (1 : Nat) (Option.some Jvm.ClassFile.FieldType.boolean)).before args0 about1 = true := code_word (m := ⟨8, 1⟩) (meth := k8m1) (c := k8c1) (by decide +kernel) rfl rfl rfl (by decide +kernel)
set_option maxRecDepth 65536 in
theorem w_c3 : (Jvm.Cond.code ({ cls := "java/lang/StringLatin1", name := "toBytes", desc := "(C)[B" } : Jvm.MethodName) jdk_43_method_46_code (1 : Nat) (Option.some (Jvm.ClassFile.FieldType.array Jvm.ClassFile.FieldType.byte))).before args0 about1 = true := code_word (m := ⟨8, 4⟩) (meth := k8m4) (c := k8c4) (by decide +kernel) rfl rfl rfl (by decide +kernel)
set_option maxRecDepth 65536 in
theorem w_c4 : (Jvm.Cond.code ({ cls := "java/lang/String", name := "<init>", desc := "([BB)V" } : Jvm.MethodName) jdk_42_method_151_code (3 : Nat) (Option.none : Option Jvm.ClassFile.FieldType)).before args0 about1 = true := code_word (m := ⟨7, 4⟩) (meth := k7m4) (c := k7c4) (by decide +kernel) rfl rfl rfl (by decide +kernel)
set_option maxRecDepth 65536 in
theorem w_c5 : (Jvm.Cond.code ({ cls := "java/lang/Object", name := "<init>", desc := "()V" } : Jvm.MethodName) object_method_1_code (1 : Nat) (Option.none : Option Jvm.ClassFile.FieldType)).before args0 about1 = true := code_word (m := ⟨0, 0⟩) (meth := k0m0) (c := k0c0) (by decide +kernel) rfl rfl rfl (by decide +kernel)
set_option maxRecDepth 65536 in
theorem w_c6 : (Jvm.Cond.code ({ cls := "com/example/nestor/nestor/IdTable", name := "<init>", desc := "()V" } : Jvm.MethodName) prog_10_method_1_code (1 : Nat) (Option.none : Option Jvm.ClassFile.FieldType)).before args0 about1 = true := code_word (m := ⟨9, 0⟩) (meth := k9m0) (c := k9c0) (by decide +kernel) rfl rfl rfl (by decide +kernel)
set_option maxRecDepth 65536 in
theorem w_c7 : (Jvm.Cond.code ({ cls := "java/util/TreeMap", name := "<init>", desc := "()V" } : Jvm.MethodName) jdk_2729_method_1_code (1 : Nat) (Option.none : Option Jvm.ClassFile.FieldType)).before args0 about1 = true := code_word (m := ⟨16, 0⟩) (meth := k16m0) (c := k16c0) (by decide +kernel) rfl rfl rfl (by decide +kernel)
set_option maxRecDepth 65536 in
theorem w_c8 : (Jvm.Cond.code ({ cls := "java/util/AbstractMap", name := "<init>", desc := "()V" } : Jvm.MethodName) jdk_71_method_1_code (1 : Nat) (Option.none : Option Jvm.ClassFile.FieldType)).before args0 about1 = true := code_word (m := ⟨11, 0⟩) (meth := k11m0) (c := k11c0) (by decide +kernel) rfl rfl rfl (by decide +kernel)
set_option maxRecDepth 65536 in
theorem w_c9 : (Jvm.Cond.code ({ cls := "com/example/nestor/nestor/IdTable", name := "placeOf", desc := "(Ljava/lang/String;)I" } : Jvm.MethodName) prog_10_method_5_code (3 : Nat) (Option.some Jvm.ClassFile.FieldType.int)).before args0 about1 = true := code_word (m := ⟨9, 3⟩) (meth := k9m3) (c := k9c3) (by decide +kernel) rfl rfl rfl (by decide +kernel)
set_option maxRecDepth 65536 in
theorem w_c10 : (Jvm.Cond.code ({ cls := "java/lang/String", name := "hashCode", desc := "()I" } : Jvm.MethodName) jdk_42_method_78_code (2 : Nat) (Option.some Jvm.ClassFile.FieldType.int)).before args0 about1 = true := code_word (m := ⟨7, 2⟩) (meth := k7m2) (c := k7c2) (by decide +kernel) rfl rfl rfl (by decide +kernel)
set_option maxRecDepth 65536 in
theorem w_c11 : (Jvm.Cond.code ({ cls := "java/lang/String", name := "isLatin1", desc := "()Z" } : Jvm.MethodName) jdk_42_method_154_code (1 : Nat) (Option.some Jvm.ClassFile.FieldType.boolean)).before args0 about1 = true := code_word (m := ⟨7, 5⟩) (meth := k7m5) (c := k7c5) (by decide +kernel) rfl rfl rfl (by decide +kernel)
set_option maxRecDepth 65536 in
theorem w_c12 : (Jvm.Cond.code ({ cls := "java/lang/StringLatin1", name := "hashCode", desc := "([B)I" } : Jvm.MethodName) jdk_43_method_21_code (1 : Nat) (Option.some Jvm.ClassFile.FieldType.int)).before args0 about1 = true := code_word (m := ⟨8, 3⟩) (meth := k8m3) (c := k8c3) (by decide +kernel) rfl rfl rfl (by decide +kernel)
set_option maxRecDepth 65536 in
theorem w_c13 : (Jvm.Cond.code ({ cls := "com/example/nestor/nestor/IdTable", name := "find", desc := "(ILjava/lang/String;[BII)I" } : Jvm.MethodName) prog_10_method_7_code (10 : Nat) (Option.some Jvm.ClassFile.FieldType.int)).before args0 about1 = true := code_word (m := ⟨9, 4⟩) (meth := k9m4) (c := k9c4) (by decide +kernel) rfl rfl rfl (by decide +kernel)
set_option maxRecDepth 65536 in
theorem w_c14 : (Jvm.Cond.code ({ cls := "com/example/nestor/nestor/IdTable", name := "home", desc := "(I)I" } : Jvm.MethodName) prog_10_method_11_code (2 : Nat) (Option.some Jvm.ClassFile.FieldType.int)).before args0 about1 = true := code_word (m := ⟨9, 8⟩) (meth := k9m8) (c := k9c8) (by decide +kernel) rfl rfl rfl (by decide +kernel)
set_option maxRecDepth 65536 in
theorem w_c15 : (Jvm.Cond.code ({ cls := "java/lang/Integer", name := "numberOfTrailingZeros", desc := "(I)I" } : Jvm.MethodName) jdk_33_method_48_code (2 : Nat) (Option.some Jvm.ClassFile.FieldType.int)).before args0 about1 = true := code_word (m := ⟨18, 0⟩) (meth := k18m0) (c := k18c0) (by decide +kernel) rfl rfl rfl (by decide +kernel)
set_option maxRecDepth 65536 in
theorem w_c16 : (Jvm.Cond.code ({ cls := "com/example/nestor/nestor/IdTable", name := "placeOfUnfound", desc := "(Ljava/lang/String;I)I" } : Jvm.MethodName) prog_10_method_8_code (4 : Nat) (Option.some Jvm.ClassFile.FieldType.int)).before args0 about1 = true := code_word (m := ⟨9, 5⟩) (meth := k9m5) (c := k9c5) (by decide +kernel) rfl rfl rfl (by decide +kernel)
set_option maxRecDepth 65536 in
theorem w_c17 : (Jvm.Cond.code ({ cls := "com/example/nestor/nestor/IdTable", name := "add", desc := "(Ljava/lang/String;I)I" } : Jvm.MethodName) prog_10_method_9_code (6 : Nat) (Option.some Jvm.ClassFile.FieldType.int)).before args0 about1 = true := code_word (m := ⟨9, 6⟩) (meth := k9m6) (c := k9c6) (by decide +kernel) rfl rfl rfl (by decide +kernel)
set_option maxRecDepth 65536 in
theorem w_c18 : (Jvm.Cond.code ({ cls := "com/example/nestor/nestor/IdTable", name := "put", desc := "(II)V" } : Jvm.MethodName) prog_10_method_10_code (3 : Nat) (Option.none : Option Jvm.ClassFile.FieldType)).before args0 about1 = true := code_word (m := ⟨9, 7⟩) (meth := k9m7) (c := k9c7) (by decide +kernel) rfl rfl rfl (by decide +kernel)
set_option maxRecDepth 65536 in
theorem w_c19 : (Jvm.Cond.code ({ cls := "java/lang/String", name := "equals", desc := "(Ljava/lang/Object;)Z" } : Jvm.MethodName) jdk_42_method_66_code (3 : Nat) (Option.some Jvm.ClassFile.FieldType.boolean)).before args0 about1 = true := code_word (m := ⟨7, 1⟩) (meth := k7m1) (c := k7c1) (by decide +kernel) rfl rfl rfl (by decide +kernel)
set_option maxRecDepth 65536 in
theorem w_c20 : (Jvm.Cond.code ({ cls := "java/lang/StringLatin1", name := "equals", desc := "([B[B)Z" } : Jvm.MethodName) jdk_43_method_13_code (3 : Nat) (Option.some Jvm.ClassFile.FieldType.boolean)).before args0 about1 = true := code_word (m := ⟨8, 2⟩) (meth := k8m2) (c := k8c2) (by decide +kernel) rfl rfl rfl (by decide +kernel)
set_option maxRecDepth 65536 in
theorem w_c21 : (Jvm.Cond.code ({ cls := "com/example/nestor/nestor/IdTable", name := "size", desc := "()I" } : Jvm.MethodName) prog_10_method_2_code (1 : Nat) (Option.some Jvm.ClassFile.FieldType.int)).before args0 about1 = true := code_word (m := ⟨9, 1⟩) (meth := k9m1) (c := k9c1) (by decide +kernel) rfl rfl rfl (by decide +kernel)
set_option maxRecDepth 65536 in
theorem w_c22 : (Jvm.Cond.code ({ cls := "com/example/nestor/nestor/IdTable", name := "id", desc := "(I)Ljava/lang/String;" } : Jvm.MethodName) prog_10_method_3_code (2 : Nat) (Option.some (Jvm.ClassFile.FieldType.object "java/lang/String"))).before args0 about1 = true := code_word (m := ⟨9, 2⟩) (meth := k9m2) (c := k9c2) (by decide +kernel) rfl rfl rfl (by decide +kernel)
set_option maxRecDepth 65536 in
theorem w_c23 : (Jvm.Cond.code ({ cls := "java/util/Objects", name := "checkIndex", desc := "(II)I" } : Jvm.MethodName) jdk_31_method_17_code (2 : Nat) (Option.some Jvm.ClassFile.FieldType.int)).before args0 about1 = true := code_word (m := ⟨19, 1⟩) (meth := k19m1) (c := k19c1) (by decide +kernel) rfl rfl rfl (by decide +kernel)
set_option maxRecDepth 65536 in
theorem w_c24 : (Jvm.Cond.code ({ cls := "jdk/internal/util/Preconditions", name := "checkIndex", desc := "(IILjava/util/function/BiFunction;)I" } : Jvm.MethodName) jdk_41_method_11_code (3 : Nat) (Option.some Jvm.ClassFile.FieldType.int)).before args0 about1 = true := code_word (m := ⟨20, 1⟩) (meth := k20m1) (c := k20c1) (by decide +kernel) rfl rfl rfl (by decide +kernel)
def codes1 : List Jvm.Cond := [Jvm.Cond.code x code maxLocals ret, Jvm.Cond.code ({ cls := "java/lang/String", name := "valueOf", desc := "(C)Ljava/lang/String;" } : Jvm.MethodName) jdk_42_method_139_code (1 : Nat) (Option.some (Jvm.ClassFile.FieldType.object "java/lang/String")), Jvm.Cond.code ({ cls := "java/lang/StringLatin1", name := "canEncode", desc := "(C)Z" } : Jvm.MethodName) jdk_43_method_3_code (1 : Nat) (Option.some Jvm.ClassFile.FieldType.boolean), Jvm.Cond.code ({ cls := "java/lang/StringLatin1", name := "toBytes", desc := "(C)[B" } : Jvm.MethodName) jdk_43_method_46_code (1 : Nat) (Option.some (Jvm.ClassFile.FieldType.array Jvm.ClassFile.FieldType.byte)), Jvm.Cond.code ({ cls := "java/lang/String", name := "<init>", desc := "([BB)V" } : Jvm.MethodName) jdk_42_method_151_code (3 : Nat) (Option.none : Option Jvm.ClassFile.FieldType), Jvm.Cond.code ({ cls := "java/lang/Object", name := "<init>", desc := "()V" } : Jvm.MethodName) object_method_1_code (1 : Nat) (Option.none : Option Jvm.ClassFile.FieldType), Jvm.Cond.code ({ cls := "com/example/nestor/nestor/IdTable", name := "<init>", desc := "()V" } : Jvm.MethodName) prog_10_method_1_code (1 : Nat) (Option.none : Option Jvm.ClassFile.FieldType), Jvm.Cond.code ({ cls := "java/util/TreeMap", name := "<init>", desc := "()V" } : Jvm.MethodName) jdk_2729_method_1_code (1 : Nat) (Option.none : Option Jvm.ClassFile.FieldType), Jvm.Cond.code ({ cls := "java/util/AbstractMap", name := "<init>", desc := "()V" } : Jvm.MethodName) jdk_71_method_1_code (1 : Nat) (Option.none : Option Jvm.ClassFile.FieldType), Jvm.Cond.code ({ cls := "com/example/nestor/nestor/IdTable", name := "placeOf", desc := "(Ljava/lang/String;)I" } : Jvm.MethodName) prog_10_method_5_code (3 : Nat) (Option.some Jvm.ClassFile.FieldType.int), Jvm.Cond.code ({ cls := "java/lang/String", name := "hashCode", desc := "()I" } : Jvm.MethodName) jdk_42_method_78_code (2 : Nat) (Option.some Jvm.ClassFile.FieldType.int), Jvm.Cond.code ({ cls := "java/lang/String", name := "isLatin1", desc := "()Z" } : Jvm.MethodName) jdk_42_method_154_code (1 : Nat) (Option.some Jvm.ClassFile.FieldType.boolean), Jvm.Cond.code ({ cls := "java/lang/StringLatin1", name := "hashCode", desc := "([B)I" } : Jvm.MethodName) jdk_43_method_21_code (1 : Nat) (Option.some Jvm.ClassFile.FieldType.int), Jvm.Cond.code ({ cls := "com/example/nestor/nestor/IdTable", name := "find", desc := "(ILjava/lang/String;[BII)I" } : Jvm.MethodName) prog_10_method_7_code (10 : Nat) (Option.some Jvm.ClassFile.FieldType.int), Jvm.Cond.code ({ cls := "com/example/nestor/nestor/IdTable", name := "home", desc := "(I)I" } : Jvm.MethodName) prog_10_method_11_code (2 : Nat) (Option.some Jvm.ClassFile.FieldType.int), Jvm.Cond.code ({ cls := "java/lang/Integer", name := "numberOfTrailingZeros", desc := "(I)I" } : Jvm.MethodName) jdk_33_method_48_code (2 : Nat) (Option.some Jvm.ClassFile.FieldType.int), Jvm.Cond.code ({ cls := "com/example/nestor/nestor/IdTable", name := "placeOfUnfound", desc := "(Ljava/lang/String;I)I" } : Jvm.MethodName) prog_10_method_8_code (4 : Nat) (Option.some Jvm.ClassFile.FieldType.int), Jvm.Cond.code ({ cls := "com/example/nestor/nestor/IdTable", name := "add", desc := "(Ljava/lang/String;I)I" } : Jvm.MethodName) prog_10_method_9_code (6 : Nat) (Option.some Jvm.ClassFile.FieldType.int), Jvm.Cond.code ({ cls := "com/example/nestor/nestor/IdTable", name := "put", desc := "(II)V" } : Jvm.MethodName) prog_10_method_10_code (3 : Nat) (Option.none : Option Jvm.ClassFile.FieldType), Jvm.Cond.code ({ cls := "java/lang/String", name := "equals", desc := "(Ljava/lang/Object;)Z" } : Jvm.MethodName) jdk_42_method_66_code (3 : Nat) (Option.some Jvm.ClassFile.FieldType.boolean), Jvm.Cond.code ({ cls := "java/lang/StringLatin1", name := "equals", desc := "([B[B)Z" } : Jvm.MethodName) jdk_43_method_13_code (3 : Nat) (Option.some Jvm.ClassFile.FieldType.boolean), Jvm.Cond.code ({ cls := "com/example/nestor/nestor/IdTable", name := "size", desc := "()I" } : Jvm.MethodName) prog_10_method_2_code (1 : Nat) (Option.some Jvm.ClassFile.FieldType.int), Jvm.Cond.code ({ cls := "com/example/nestor/nestor/IdTable", name := "id", desc := "(I)Ljava/lang/String;" } : Jvm.MethodName) prog_10_method_3_code (2 : Nat) (Option.some (Jvm.ClassFile.FieldType.object "java/lang/String")), Jvm.Cond.code ({ cls := "java/util/Objects", name := "checkIndex", desc := "(II)I" } : Jvm.MethodName) jdk_31_method_17_code (2 : Nat) (Option.some Jvm.ClassFile.FieldType.int), Jvm.Cond.code ({ cls := "jdk/internal/util/Preconditions", name := "checkIndex", desc := "(IILjava/util/function/BiFunction;)I" } : Jvm.MethodName) jdk_41_method_11_code (3 : Nat) (Option.some Jvm.ClassFile.FieldType.int)]
set_option maxRecDepth 65536 in
theorem codes_eq : words1.filter isCode = codes1 := rfl
theorem w_codes : ∀ c ∈ words1.filter isCode, c.before args0 about1 = true := by
  rw [codes_eq]
  intro c hc
  simp only [codes1, List.mem_cons, List.not_mem_nil, or_false] at hc
  rcases hc with rfl | rfl | rfl | rfl | rfl | rfl | rfl | rfl | rfl | rfl | rfl | rfl | rfl | rfl | rfl | rfl | rfl | rfl | rfl | rfl | rfl | rfl | rfl | rfl | rfl
  · exact w_c0
  · exact w_c1
  · exact w_c2
  · exact w_c3
  · exact w_c4
  · exact w_c5
  · exact w_c6
  · exact w_c7
  · exact w_c8
  · exact w_c9
  · exact w_c10
  · exact w_c11
  · exact w_c12
  · exact w_c13
  · exact w_c14
  · exact w_c15
  · exact w_c16
  · exact w_c17
  · exact w_c18
  · exact w_c19
  · exact w_c20
  · exact w_c21
  · exact w_c22
  · exact w_c23
  · exact w_c24
set_option maxRecDepth 65536 in
theorem w_t1 : (words1.take 24).all (fun c => isCode c || c.before args0 about1) = true := by decide +kernel
set_option maxRecDepth 65536 in
theorem w_t2 : ((words1.drop 24).take 24).all (fun c => isCode c || c.before args0 about1) = true := by decide +kernel
set_option maxRecDepth 65536 in
theorem w_t3 : (((words1.drop 24).drop 24).take 24).all (fun c => isCode c || c.before args0 about1) = true := by decide +kernel
set_option maxRecDepth 65536 in
theorem w_t4 : ((((words1.drop 24).drop 24).drop 24).take 24).all (fun c => isCode c || c.before args0 about1) = true := by decide +kernel
set_option maxRecDepth 65536 in
theorem w_t5 : (((((words1.drop 24).drop 24).drop 24).drop 24).take 24).all (fun c => isCode c || c.before args0 about1) = true := by decide +kernel
set_option maxRecDepth 65536 in
theorem w_t6 : (((((words1.drop 24).drop 24).drop 24).drop 24).drop 24).all (fun c => isCode c || c.before args0 about1) = true := by decide +kernel
theorem w_tables : (allAtoms (Jvm.Cond.code x code maxLocals ret :: tables_1)).before args0 about1 = true := by
  rw [allAtoms_all]
  show words1.all (fun c => c.before args0 about1) = true
  refine all_split ?_ w_codes
  rw [← List.take_append_drop 24 words1, List.all_append, w_t1, ← List.take_append_drop 24 (words1.drop 24), List.all_append, w_t2, ← List.take_append_drop 24 ((words1.drop 24).drop 24), List.all_append, w_t3, ← List.take_append_drop 24 (((words1.drop 24).drop 24).drop 24), List.all_append, w_t4, ← List.take_append_drop 24 ((((words1.drop 24).drop 24).drop 24).drop 24), List.all_append, w_t5, w_t6]
  rfl
set_option maxRecDepth 65536 in
theorem w_rest : rest_1_c.before args0 about1 = true := by decide +kernel
set_option maxRecDepth 65536 in
theorem w_case : (Jvm.Cond.and given_1 narrow_1).before args0 about1 = true := by decide +kernel
theorem w_applies : (headSpec (Jvm.Cond.code x code maxLocals ret :: tables_1) room_1).applies x e0.platform about1 = true :=
  (Spec.applies_iff w_frames).mpr ⟨w_running, w_runnable, w_alone, w_named, w_hears, w_ripe, w_room, w_tables⟩
theorem atStart : AtStart classFile x code maxLocals ret World_1 tables_1 room_1 Calls_1 rest_1 Pre_1 launch0 p0 e0 about1 theMethod args0 below0 :=
  ⟨lists_1, trivial, launch0.admits_env _ _ _, launch0.least_env, fairChoices_fair.cas, fairChoices_fair.clock, w_frames, w_args, w_heap, w_applies, trivial, w_rest, w_case⟩
end start1
theorem witness_1 : WitnessClaimed_1 := ⟨start1.p0, start1.e0, start1.about1, start1.theMethod, start1.args0, start1.below0, start1.atStart⟩
end Jvm.Pilot.@@N@@
