import JvmDerived
import JvmDerived.Pilot.@@N@@Statement
import JvmDerived.Pilot.@@N@@Code
set_option linter.unusedVariables false
set_option linter.unusedSimpArgs false
namespace Jvm.RoadKit
open Sem ClassFile Op Lib Jvm.Stand Jvm.Free Jvm.LawKit
section New
variable {p : Program} {l : Launch} {e : Env} {R : Room} {s : State} {m : MethodId} {args : Array Value} {below : List Frame} {meth : Method} {c : Code} {T : State} {locs : List Loc} {cells slots : Nat}
theorem retI (X : Stand p l e R s m args below meth c T locs cells slots) (hx : p.tables.exec = Jvm.exec) {pc : Nat} {Ls : Array Slot} {z : Int32} {rest : List Value} (hret : meth.sig.returnType = some .int) (hd : decode c.code pc = .ok (.ireturn, 1)) {fs : List Frame}
    (hl : ∀ (f : JFrame) (acts : List Action), f.method = m → f.locked = none → f.entered = [] → (doReturn e (T.setTop f) acts (some (.int z))).1 = T.setFrames fs) : Steps p.tables e below (T.setTop (mkF m pc Ls (.int z :: rest))) (T.setFrames fs) := by
  have hm' : T.vm.method? m = some meth := X.method'
  have hn : narrow .int (.int z) = .int z := rfl
  show Steps p.tables e below (T.setTop { method := m, pc := pc, locals := Ls, stack := _ :: rest, locked := none }) _
  jvm_step X.here [X.here.top, hx, hd, hm', hret, hn]
  first | (intro acts; rw [hl _ acts rfl rfl rfl]) | rw [hl _ _ rfl rfl rfl]
  exact Steps.refl _
end New
end Jvm.RoadKit
namespace Jvm.Pilot.@@N@@
open Jvm Jvm.ClassFile Sem Op Lib Jvm.Free Jvm.Stand Jvm.LawKit Jvm.RoadKit Bundle Jvm.Pilot.@@N@@.Jvm.D
theorem own_lw_lt (x y : Int64) : lcmpW x y < 0 ↔ x < y := by rw [lcW]; exact lc_lt x y
theorem own_lw_gt (x y : Int64) : 0 < lcmpW x y ↔ y < x := by rw [lcW]; exact lc_gt x y
theorem own_lw_eq (x y : Int64) : lcmpW x y = 0 ↔ x = y := by rw [lcW]; exact lc_eq x y
theorem own_retJ {p : Program} {l : Launch} {e : Env} {R : Room} {s : State} {m : MethodId} {args : Array Value} {below : List Frame} {meth : Method} {c : Code} {T : State} {locs : List Loc} {cells slots : Nat} (X : Stand p l e R s m args below meth c T locs cells slots) (hx : p.tables.exec = Jvm.exec) {pc : Nat} {Ls : Array Slot} {z : Int64} {rest : List Value} (hret : meth.sig.returnType = some .long) (hd : decode c.code pc = .ok (.lreturn, 1)) {fs : List Frame}
    (hl : ∀ (f : JFrame) (acts : List Action), f.method = m → f.locked = none → f.entered = [] → (doReturn e (T.setTop f) acts (some (.long z))).1 = T.setFrames fs) : Steps p.tables e below (T.setTop (mkF m pc Ls (.long z :: rest))) (T.setFrames fs) := by
  have hm' : T.vm.method? m = some meth := X.method'
  have hn : narrow .long (.long z) = .long z := rfl
  show Steps p.tables e below (T.setTop { method := m, pc := pc, locals := Ls, stack := _ :: rest, locked := none }) _
  jvm_step X.here [X.here.top, hx, hd, hm', hret, hn]
  first | (intro acts; rw [hl _ acts rfl rfl rfl]) | rw [hl _ _ rfl rfl rfl]
  exact Steps.refl _
theorem own_ne32 {k n : Int32} (h : ¬ k = n) : n.toInt ≠ k.toInt := fun e => h (Int32.toInt_inj.mp e.symm)
def own_byte (v : Value) : Int32 := match v with
  | .int x => x
  | _ => 0
def own_hs (vs : List Value) : Nat → Int32
  | 0 => 0
  | k + 1 => (31 : Int32) * own_hs vs k + own_byte (vs.getD k (.int (0 : Int32)))
theorem own_up (i : Nat) (h : i + 1 < 2 ^ 31) : i.toInt32 + (1 : Int32) = (i + 1).toInt32 := by
  have a1 := c_iadd i.toInt32 (1 : Int32)
  have a2 := rng32 (i.toInt32 + (1 : Int32))
  have a3 := len_toInt (n := i) (by omega)
  have a4 := len_toInt (n := i + 1) h
  have a5 : (1 : Int32).toInt = 1 := by decide
  apply Int32.toInt_inj.mp
  omega
theorem own_d7_0 : decode method_3_code 0 = .ok (.iload 4, 2) := by decide +kernel
theorem own_d7_2 : decode method_3_code 2 = .ok (.bipush 8, 2) := by decide +kernel
theorem own_d7_4 : decode method_3_code 4 = .ok (.if_icmp .ge 13, 3) := by decide +kernel
theorem own_d7_7 : decode method_3_code 7 = .ok (.lload_n 0, 1) := by decide +kernel
theorem own_d7_8 : decode method_3_code 8 = .ok (.bipush 8, 2) := by decide +kernel
theorem own_d7_10 : decode method_3_code 10 = .ok (.iload 4, 2) := by decide +kernel
theorem own_d7_12 : decode method_3_code 12 = .ok (.imul, 1) := by decide +kernel
theorem own_d7_13 : decode method_3_code 13 = .ok (.lushr, 1) := by decide +kernel
theorem own_d7_14 : decode method_3_code 14 = .ok (.goto 13, 3) := by decide +kernel
theorem own_d7_17 : decode method_3_code 17 = .ok (.lload_n 2, 1) := by decide +kernel
theorem own_d7_18 : decode method_3_code 18 = .ok (.bipush 8, 2) := by decide +kernel
theorem own_d7_20 : decode method_3_code 20 = .ok (.iload 4, 2) := by decide +kernel
theorem own_d7_22 : decode method_3_code 22 = .ok (.bipush 8, 2) := by decide +kernel
theorem own_d7_24 : decode method_3_code 24 = .ok (.isub, 1) := by decide +kernel
theorem own_d7_25 : decode method_3_code 25 = .ok (.imul, 1) := by decide +kernel
theorem own_d7_26 : decode method_3_code 26 = .ok (.lushr, 1) := by decide +kernel
theorem own_d7_27 : decode method_3_code 27 = .ok (.lstore 5, 2) := by decide +kernel
theorem own_d7_29 : decode method_3_code 29 = .ok (.lload 5, 2) := by decide +kernel
theorem own_d7_31 : decode method_3_code 31 = .ok (.ldc2_w 25, 3) := by decide +kernel
theorem own_d7_34 : decode method_3_code 34 = .ok (.land, 1) := by decide +kernel
theorem own_d7_35 : decode method_3_code 35 = .ok (.l2i, 1) := by decide +kernel
theorem own_d7_36 : decode method_3_code 36 = .ok (.i2b, 1) := by decide +kernel
theorem own_d7_37 : decode method_3_code 37 = .ok (.ireturn, 1) := by decide +kernel
theorem own_pn7 : plainName "com/example/meaning_into_numbers/meaningintonumbers/VersionHashCodePinLaw" = true := by first | (simp [plainName, overriddenIn]; done) | decide +kernel
theorem own_ef7 (m : MethodId) (x0 : Int64) (x1 : Int64) (x2 : Int32) : entryFrame m #[(.long x0), (.long x1), (.int x2)] 7 = (mkF m 0 #[.val (.long x0), .second, .val (.long x1), .second, .val (.int x2), .unset, .unset] []) := by first | (simp [entryFrame, mkF, argsToLocals, Value.category]; done) | rfl
def own_v7_27_0 (q0 : Int64) (p2 : Int32) : Int64 := ((q0.toUInt64 >>> (((8 : Int32) * p2) &&& 0x3f).toInt64.toUInt64).toInt64)
def own_v7_27_1 (q1 : Int64) (p2 : Int32) : Int64 := ((q1.toUInt64 >>> (((8 : Int32) * (p2 - (8 : Int32))) &&& 0x3f).toInt64.toUInt64).toInt64)
def own_f7 (q0 : Int64) (q1 : Int64) (p2 : Int32) : Int32 := (if p2 < (8 : Int32) then (nar .byte ((((own_v7_27_0 q0 p2) &&& (127 : Int64)).toInt32).toInt8.toInt32)) else (nar .byte ((((own_v7_27_1 q1 p2) &&& (127 : Int64)).toInt32).toInt8.toInt32)))
def own_Q7 (Z : State) (q0 : Int64) (q1 : Int64) (p2 : Int32) (h0 : Heap) (n0 : Nat) (v : Option Value) (h : Heap) (L : List Loc) : Prop := v = some (.int (own_f7 q0 q1 p2)) ∧ Fr n0 L ∧ h = h0
set_option maxRecDepth 65536 in
set_option maxHeartbeats 40000000 in
theorem own_rm7 (l : Launch) (Z : State) (a0 : Array Value) (hw : ∀ d ∈ tables_1, d.before a0 Z = true) (ws : List Jvm.Cond) (q0 : Int64) (q1 : Int64) (p2 : Int32) (h0 : Heap) (n0 : Nat) (Z0 : n0 ≤ h0.size) :
    MetFree l (⟨"com/example/meaning_into_numbers/meaningintonumbers/VersionHashCodePinLaw", "drawn", "(JJI)B"⟩ : MethodName) (head1 (Jvm.Cond.code (⟨"com/example/meaning_into_numbers/meaningintonumbers/VersionHashCodePinLaw", "drawn", "(JJI)B"⟩ : MethodName) method_3_code 7 (some .byte) :: ws) ({ frames := 0, cells := 0, slots := 0, locals := 0 } : Room)) (fun a U => a = #[(.long q0), (.long q1), (.int p2)] ∧ Z.Warmed39 U.vm ∧ U.heap = h0) (fun _ _ _ _ _ => True) (fun _ U o U' => ∃ v L, o = .returned v ∧ own_Q7 Z q0 q1 p2 h0 n0 v U'.heap L ∧ FrameEnd U o U' L ({ frames := 0, cells := 0, slots := 0, locals := 0 } : Room).cells ({ frames := 0, cells := 0, slots := 0, locals := 0 } : Room).slots) := by
  refine MetFree.of_bodySF (plainFor_of_name own_pn7) hisR ?_
  intro p e s m args below meth c s₁ Bd hml0 hP hK
  obtain ⟨rfl, hZ, hh⟩ := hP
  have hx := Bd.exec
  have hlk : meth.locks = false := BodyLoose.notSynchronized Bd
  have hby := Bd.bytes
  have hml : c.maxLocals = 7 := hml0
  have hown : s.vm.findClass "com/example/meaning_into_numbers/meaningintonumbers/VersionHashCodePinLaw" = some m.cls := findClass_of_methodNamed Bd.named
  have hnm := (name_of_methodNamed Bd.named Bd.method).1
  have X0 : Stand p l e ({ frames := 0, cells := 0, slots := 0, locals := 0 } : Room) s m #[(.long q0), (.long q1), (.int p2)] below meth c s₁ [] 0 0 := Stand.of_body Bd
  have e0 : s₁.heap = h0 := by rw [← hh, Bd.state]; rfl
  have N0 := Fr.nil n0
  have pre0 : ∀ t, Steps p.tables e below (s₁.setTop (mkF m 0 #[.val (.long q0), .second, .val (.long q1), .second, .val (.int p2), .unset, .unset] [])) t → Steps p.tables e below (s₁.setTop (entryFrame m #[(.long q0), (.long q1), (.int p2)] 7)) t := fun t k => castTop (own_ef7 m q0 q1 p2) k
  have pre1 : ∀ t, Steps p.tables e below (s₁.setTop (mkF m 4 #[.val (.long q0), .second, .val (.long q1), .second, .val (.int p2), .unset, .unset] [(.int (8 : Int32)), (.int p2)])) t → Steps p.tables e below (s₁.setTop (entryFrame m #[(.long q0), (.long q1), (.int p2)] 7)) t := fun t k => pre0 t (by
      refine XS.iload X0.here hx rfl (hb hby own_d7_0) rfl ?_
      show Steps p.tables e below (s₁.setTop (mkF m 2 #[.val (.long q0), .second, .val (.long q1), .second, .val (.int p2), .unset, .unset] [(.int p2)])) _
      refine XS.bipush X0.here hx rfl (hb hby own_d7_2) ?_
      show Steps p.tables e below (s₁.setTop (mkF m 4 #[.val (.long q0), .second, .val (.long q1), .second, .val (.int p2), .unset, .unset] [(.int (8 : Int32)), (.int p2)])) _
      exact k)
  by_cases hc2 : p2 < (8 : Int32)
  · have pre3 : ∀ t, Steps p.tables e below (s₁.setTop (mkF m 37 #[.val (.long q0), .second, .val (.long q1), .second, .val (.int p2), .val (.long (own_v7_27_0 q0 p2)), .second] [(.int ((((own_v7_27_0 q0 p2) &&& (127 : Int64)).toInt32).toInt8.toInt32))])) t → Steps p.tables e below (s₁.setTop (entryFrame m #[(.long q0), (.long q1), (.int p2)] 7)) t := fun t k => pre1 t (by
        refine XS.icmpNo X0.here hx rfl (hb hby own_d7_4) rfl (tlt hc2).2.1 ?_
        show Steps p.tables e below (s₁.setTop (mkF m 7 #[.val (.long q0), .second, .val (.long q1), .second, .val (.int p2), .unset, .unset] [])) _
        refine XS.lloadN X0.here hx rfl (hb hby own_d7_7) rfl ?_
        show Steps p.tables e below (s₁.setTop (mkF m 8 #[.val (.long q0), .second, .val (.long q1), .second, .val (.int p2), .unset, .unset] [(.long q0)])) _
        refine XS.bipush X0.here hx rfl (hb hby own_d7_8) ?_
        show Steps p.tables e below (s₁.setTop (mkF m 10 #[.val (.long q0), .second, .val (.long q1), .second, .val (.int p2), .unset, .unset] [(.int (8 : Int32)), (.long q0)])) _
        refine XS.iload X0.here hx rfl (hb hby own_d7_10) rfl ?_
        show Steps p.tables e below (s₁.setTop (mkF m 12 #[.val (.long q0), .second, .val (.long q1), .second, .val (.int p2), .unset, .unset] [(.int p2), (.int (8 : Int32)), (.long q0)])) _
        refine XS.imul X0.here hx rfl (hb hby own_d7_12) rfl ?_
        show Steps p.tables e below (s₁.setTop (mkF m 13 #[.val (.long q0), .second, .val (.long q1), .second, .val (.int p2), .unset, .unset] [(.int ((8 : Int32) * p2)), (.long q0)])) _
        refine XS.lushr X0.here hx rfl (hb hby own_d7_13) rfl ?_
        show Steps p.tables e below (s₁.setTop (mkF m 14 #[.val (.long q0), .second, .val (.long q1), .second, .val (.int p2), .unset, .unset] [(.long ((q0.toUInt64 >>> (((8 : Int32) * p2) &&& 0x3f).toInt64.toUInt64).toInt64))])) _
        refine XS.goto X0.here hx rfl (pc0 := 14) (pc' := 27) rfl (hb hby own_d7_14) (by decide) (by decide) ?_
        show Steps p.tables e below (s₁.setTop (mkF m 27 #[.val (.long q0), .second, .val (.long q1), .second, .val (.int p2), .unset, .unset] [(.long ((q0.toUInt64 >>> (((8 : Int32) * p2) &&& 0x3f).toInt64.toUInt64).toInt64))])) _
        refine XS.lstore X0.here hx rfl (hb hby own_d7_27) rfl (l' := #[.val (.long q0), .second, .val (.long q1), .second, .val (.int p2), .val (.long (own_v7_27_0 q0 p2)), .second]) rfl ?_
        show Steps p.tables e below (s₁.setTop (mkF m 29 #[.val (.long q0), .second, .val (.long q1), .second, .val (.int p2), .val (.long (own_v7_27_0 q0 p2)), .second] [])) _
        refine XS.lload X0.here hx rfl (hb hby own_d7_29) rfl ?_
        show Steps p.tables e below (s₁.setTop (mkF m 31 #[.val (.long q0), .second, .val (.long q1), .second, .val (.int p2), .val (.long (own_v7_27_0 q0 p2)), .second] [(.long (own_v7_27_0 q0 p2))])) _
        refine X0.ldc2Long hx hown (mvT hZ (hw _ (List.mem_of_getElem? (i := 36) rfl))) (g := (mkF m 31 #[.val (.long q0), .second, .val (.long q1), .second, .val (.int p2), .val (.long (own_v7_27_0 q0 p2)), .second] [(.long (own_v7_27_0 q0 p2))])) rfl (hb hby own_d7_31) _ ?_
        show Steps p.tables e below (s₁.setTop (mkF m 34 #[.val (.long q0), .second, .val (.long q1), .second, .val (.int p2), .val (.long (own_v7_27_0 q0 p2)), .second] [(.long (127 : Int64)), (.long (own_v7_27_0 q0 p2))])) _
        refine XS.land X0.here hx rfl (hb hby own_d7_34) rfl ?_
        show Steps p.tables e below (s₁.setTop (mkF m 35 #[.val (.long q0), .second, .val (.long q1), .second, .val (.int p2), .val (.long (own_v7_27_0 q0 p2)), .second] [(.long ((own_v7_27_0 q0 p2) &&& (127 : Int64)))])) _
        refine XS.l2i X0.here hx rfl (hb hby own_d7_35) rfl ?_
        show Steps p.tables e below (s₁.setTop (mkF m 36 #[.val (.long q0), .second, .val (.long q1), .second, .val (.int p2), .val (.long (own_v7_27_0 q0 p2)), .second] [(.int (((own_v7_27_0 q0 p2) &&& (127 : Int64)).toInt32))])) _
        refine XS.i2b X0.here hx rfl (hb hby own_d7_36) rfl ?_
        show Steps p.tables e below (s₁.setTop (mkF m 37 #[.val (.long q0), .second, .val (.long q1), .second, .val (.int p2), .val (.long (own_v7_27_0 q0 p2)), .second] [(.int ((((own_v7_27_0 q0 p2) &&& (127 : Int64)).toInt32).toInt8.toInt32))])) _
        exact k)
    obtain ⟨fs, hr, hrun, hended, hW, hsame⟩ := X0.leave (v := some (.int (nar .byte ((((own_v7_27_0 q0 p2) &&& (127 : Int64)).toInt32).toInt8.toInt32)))) (fun h => by rw [Bd.returns] at h; cases h) (hlocks := hlk)
    refine ⟨_, _, pre3 _ ?_, hrun, hended, _, _, rfl, ?_, ⟨_, rfl⟩, hW, hsame.mono (by decide) (by decide)⟩
    · show Steps p.tables e below (s₁.setTop (mkF m 37 #[.val (.long q0), .second, .val (.long q1), .second, .val (.int p2), .val (.long (own_v7_27_0 q0 p2)), .second] [(.int ((((own_v7_27_0 q0 p2) &&& (127 : Int64)).toInt32).toInt8.toInt32))])) _
      exact retN X0 hx (t := .byte) Bd.returns (by simp) (hb hby own_d7_37) hr
    · show own_Q7 Z q0 q1 p2 h0 n0 _ s₁.heap _; rw [e0]; exact ⟨(by show some (Value.int _) = some (.int (own_f7 q0 q1 p2)); unfold own_f7; rw [if_pos hc2]), N0, rfl⟩
  · have pre4 : ∀ t, Steps p.tables e below (s₁.setTop (mkF m 37 #[.val (.long q0), .second, .val (.long q1), .second, .val (.int p2), .val (.long (own_v7_27_1 q1 p2)), .second] [(.int ((((own_v7_27_1 q1 p2) &&& (127 : Int64)).toInt32).toInt8.toInt32))])) t → Steps p.tables e below (s₁.setTop (entryFrame m #[(.long q0), (.long q1), (.int p2)] 7)) t := fun t k => pre1 t (by
        refine XS.icmpYes X0.here hx rfl (pc0 := 4) (pc' := 17) rfl (hb hby own_d7_4) rfl (flt hc2).2.1 (by decide) (by decide) ?_
        show Steps p.tables e below (s₁.setTop (mkF m 17 #[.val (.long q0), .second, .val (.long q1), .second, .val (.int p2), .unset, .unset] [])) _
        refine XS.lloadN X0.here hx rfl (hb hby own_d7_17) rfl ?_
        show Steps p.tables e below (s₁.setTop (mkF m 18 #[.val (.long q0), .second, .val (.long q1), .second, .val (.int p2), .unset, .unset] [(.long q1)])) _
        refine XS.bipush X0.here hx rfl (hb hby own_d7_18) ?_
        show Steps p.tables e below (s₁.setTop (mkF m 20 #[.val (.long q0), .second, .val (.long q1), .second, .val (.int p2), .unset, .unset] [(.int (8 : Int32)), (.long q1)])) _
        refine XS.iload X0.here hx rfl (hb hby own_d7_20) rfl ?_
        show Steps p.tables e below (s₁.setTop (mkF m 22 #[.val (.long q0), .second, .val (.long q1), .second, .val (.int p2), .unset, .unset] [(.int p2), (.int (8 : Int32)), (.long q1)])) _
        refine XS.bipush X0.here hx rfl (hb hby own_d7_22) ?_
        show Steps p.tables e below (s₁.setTop (mkF m 24 #[.val (.long q0), .second, .val (.long q1), .second, .val (.int p2), .unset, .unset] [(.int (8 : Int32)), (.int p2), (.int (8 : Int32)), (.long q1)])) _
        refine XS.isub X0.here hx rfl (hb hby own_d7_24) rfl ?_
        show Steps p.tables e below (s₁.setTop (mkF m 25 #[.val (.long q0), .second, .val (.long q1), .second, .val (.int p2), .unset, .unset] [(.int (p2 - (8 : Int32))), (.int (8 : Int32)), (.long q1)])) _
        refine XS.imul X0.here hx rfl (hb hby own_d7_25) rfl ?_
        show Steps p.tables e below (s₁.setTop (mkF m 26 #[.val (.long q0), .second, .val (.long q1), .second, .val (.int p2), .unset, .unset] [(.int ((8 : Int32) * (p2 - (8 : Int32)))), (.long q1)])) _
        refine XS.lushr X0.here hx rfl (hb hby own_d7_26) rfl ?_
        show Steps p.tables e below (s₁.setTop (mkF m 27 #[.val (.long q0), .second, .val (.long q1), .second, .val (.int p2), .unset, .unset] [(.long ((q1.toUInt64 >>> (((8 : Int32) * (p2 - (8 : Int32))) &&& 0x3f).toInt64.toUInt64).toInt64))])) _
        refine XS.lstore X0.here hx rfl (hb hby own_d7_27) rfl (l' := #[.val (.long q0), .second, .val (.long q1), .second, .val (.int p2), .val (.long (own_v7_27_1 q1 p2)), .second]) rfl ?_
        show Steps p.tables e below (s₁.setTop (mkF m 29 #[.val (.long q0), .second, .val (.long q1), .second, .val (.int p2), .val (.long (own_v7_27_1 q1 p2)), .second] [])) _
        refine XS.lload X0.here hx rfl (hb hby own_d7_29) rfl ?_
        show Steps p.tables e below (s₁.setTop (mkF m 31 #[.val (.long q0), .second, .val (.long q1), .second, .val (.int p2), .val (.long (own_v7_27_1 q1 p2)), .second] [(.long (own_v7_27_1 q1 p2))])) _
        refine X0.ldc2Long hx hown (mvT hZ (hw _ (List.mem_of_getElem? (i := 36) rfl))) (g := (mkF m 31 #[.val (.long q0), .second, .val (.long q1), .second, .val (.int p2), .val (.long (own_v7_27_1 q1 p2)), .second] [(.long (own_v7_27_1 q1 p2))])) rfl (hb hby own_d7_31) _ ?_
        show Steps p.tables e below (s₁.setTop (mkF m 34 #[.val (.long q0), .second, .val (.long q1), .second, .val (.int p2), .val (.long (own_v7_27_1 q1 p2)), .second] [(.long (127 : Int64)), (.long (own_v7_27_1 q1 p2))])) _
        refine XS.land X0.here hx rfl (hb hby own_d7_34) rfl ?_
        show Steps p.tables e below (s₁.setTop (mkF m 35 #[.val (.long q0), .second, .val (.long q1), .second, .val (.int p2), .val (.long (own_v7_27_1 q1 p2)), .second] [(.long ((own_v7_27_1 q1 p2) &&& (127 : Int64)))])) _
        refine XS.l2i X0.here hx rfl (hb hby own_d7_35) rfl ?_
        show Steps p.tables e below (s₁.setTop (mkF m 36 #[.val (.long q0), .second, .val (.long q1), .second, .val (.int p2), .val (.long (own_v7_27_1 q1 p2)), .second] [(.int (((own_v7_27_1 q1 p2) &&& (127 : Int64)).toInt32))])) _
        refine XS.i2b X0.here hx rfl (hb hby own_d7_36) rfl ?_
        show Steps p.tables e below (s₁.setTop (mkF m 37 #[.val (.long q0), .second, .val (.long q1), .second, .val (.int p2), .val (.long (own_v7_27_1 q1 p2)), .second] [(.int ((((own_v7_27_1 q1 p2) &&& (127 : Int64)).toInt32).toInt8.toInt32))])) _
        exact k)
    obtain ⟨fs, hr, hrun, hended, hW, hsame⟩ := X0.leave (v := some (.int (nar .byte ((((own_v7_27_1 q1 p2) &&& (127 : Int64)).toInt32).toInt8.toInt32)))) (fun h => by rw [Bd.returns] at h; cases h) (hlocks := hlk)
    refine ⟨_, _, pre4 _ ?_, hrun, hended, _, _, rfl, ?_, ⟨_, rfl⟩, hW, hsame.mono (by decide) (by decide)⟩
    · show Steps p.tables e below (s₁.setTop (mkF m 37 #[.val (.long q0), .second, .val (.long q1), .second, .val (.int p2), .val (.long (own_v7_27_1 q1 p2)), .second] [(.int ((((own_v7_27_1 q1 p2) &&& (127 : Int64)).toInt32).toInt8.toInt32))])) _
      exact retN X0 hx (t := .byte) Bd.returns (by simp) (hb hby own_d7_37) hr
    · show own_Q7 Z q0 q1 p2 h0 n0 _ s₁.heap _; rw [e0]; exact ⟨(by show some (Value.int _) = some (.int (own_f7 q0 q1 p2)); unfold own_f7; rw [if_neg hc2]), N0, rfl⟩
theorem own_pd0 : parseMethodDescriptor "(JJI)B" = some ⟨[.long, .long, .int], some .byte⟩ := by decide +kernel
theorem own_d2_0 : decode method_4_code 0 = .ok (.iload_n 2, 1) := by decide +kernel
theorem own_d2_1 : decode method_4_code 1 = .ok (.iload_n 1, 1) := by decide +kernel
theorem own_d2_2 : decode method_4_code 2 = .ok (.if_icmp .ge 13, 3) := by decide +kernel
theorem own_d2_5 : decode method_4_code 5 = .ok (.aload_n 0, 1) := by decide +kernel
theorem own_d2_6 : decode method_4_code 6 = .ok (.iload_n 2, 1) := by decide +kernel
theorem own_d2_7 : decode method_4_code 7 = .ok (.lload_n 3, 1) := by decide +kernel
theorem own_d2_8 : decode method_4_code 8 = .ok (.lload 5, 2) := by decide +kernel
theorem own_d2_10 : decode method_4_code 10 = .ok (.iload_n 2, 1) := by decide +kernel
theorem own_d2_11 : decode method_4_code 11 = .ok (.invokestatic 27, 3) := by decide +kernel
theorem own_d2_14 : decode method_4_code 14 = .ok (.bastore, 1) := by decide +kernel
theorem own_d2_15 : decode method_4_code 15 = .ok (.return_, 1) := by decide +kernel
theorem own_pn2 : plainName "com/example/meaning_into_numbers/meaningintonumbers/VersionHashCodePinLaw" = true := by first | (simp [plainName, overriddenIn]; done) | decide +kernel
theorem own_ef2 (m : MethodId) (x0 : Addr) (x1 : Int32) (x2 : Int32) (x3 : Int64) (x4 : Int64) : entryFrame m #[(.ref x0), (.int x1), (.int x2), (.long x3), (.long x4)] 7 = (mkF m 0 #[.val (.ref x0), .val (.int x1), .val (.int x2), .val (.long x3), .second, .val (.long x4), .second] []) := by first | (simp [entryFrame, mkF, argsToLocals, Value.category]; done) | rfl
def own_w2_0 (p1 : Int32) (p2 : Int32) (q3 : Int64) (q4 : Int64) (vs_o0 : List Value) : List Value := (if p2 < p1 then (vs_o0.set p2.toNatClampNeg (.int (nar .byte (own_f7 q3 q4 p2)))) else vs_o0)
def own_Q2 (Z : State) (o0 : Addr) (p1 : Int32) (p2 : Int32) (q3 : Int64) (q4 : Int64) (k_o0 : ClassId) (n_o0 : Int32) (vs_o0 : List Value) (h0 : Heap) (n0 : Nat) (v : Option Value) (h : Heap) (L : List Loc) : Prop := v = none ∧ Fr n0 L ∧ Keep h0 h [o0] ∧ Arv Z h o0 k_o0 .byte n_o0 (own_w2_0 p1 p2 q3 q4 vs_o0) (.int (0 : Int32))
set_option maxRecDepth 65536 in
set_option maxHeartbeats 40000000 in
theorem own_rm2 (l : Launch) (Z : State) (a0 : Array Value) (hw : ∀ d ∈ tables_1, d.before a0 Z = true) (ws : List Jvm.Cond) (o0 : Addr) (p1 : Int32) (p2 : Int32) (q3 : Int64) (q4 : Int64) (k_o0 : ClassId) (n_o0 : Int32) (vs_o0 : List Value) (h0 : Heap) (n0 : Nat) (Z0 : n0 ≤ h0.size) (H1 : ¬ (p2 < (0 : Int32))) (H2 : ¬ (n_o0 < p1)) (H3 : p2.toNatClampNeg < vs_o0.length) (P_V_o0 : Arv Z h0 o0 k_o0 .byte n_o0 vs_o0 (.int (0 : Int32))) (G_o0 : n0 ≤ o0) :
    MetFree l (⟨"com/example/meaning_into_numbers/meaningintonumbers/VersionHashCodePinLaw", "put", "([BIIJJ)V"⟩ : MethodName) (head1 (Jvm.Cond.code (⟨"com/example/meaning_into_numbers/meaningintonumbers/VersionHashCodePinLaw", "put", "([BIIJJ)V"⟩ : MethodName) method_4_code 7 none :: ws) ({ frames := 1, cells := 0, slots := 0, locals := 20 } : Room)) (fun a U => a = #[(.ref o0), (.int p1), (.int p2), (.long q3), (.long q4)] ∧ Z.Warmed39 U.vm ∧ U.heap = h0) (fun _ _ _ _ _ => True) (fun _ U o U' => ∃ v L, o = .returned v ∧ own_Q2 Z o0 p1 p2 q3 q4 k_o0 n_o0 vs_o0 h0 n0 v U'.heap L ∧ FrameEnd U o U' L ({ frames := 1, cells := 0, slots := 0, locals := 20 } : Room).cells ({ frames := 1, cells := 0, slots := 0, locals := 20 } : Room).slots) := by
  refine MetFree.of_bodySF (plainFor_of_name own_pn2) hisR ?_
  intro p e s m args below meth c s₁ Bd hml0 hP hK
  obtain ⟨rfl, hZ, hh⟩ := hP
  have hx := Bd.exec
  have hlk : meth.locks = false := BodyLoose.notSynchronized Bd
  have hby := Bd.bytes
  have hml : c.maxLocals = 7 := hml0
  have hown : s.vm.findClass "com/example/meaning_into_numbers/meaningintonumbers/VersionHashCodePinLaw" = some m.cls := findClass_of_methodNamed Bd.named
  have hnm := (name_of_methodNamed Bd.named Bd.method).1
  have X0 : Stand p l e ({ frames := 1, cells := 0, slots := 0, locals := 20 } : Room) s m #[(.ref o0), (.int p1), (.int p2), (.long q3), (.long q4)] below meth c s₁ [] 0 0 := Stand.of_body Bd
  have e0 : s₁.heap = h0 := by rw [← hh, Bd.state]; rfl
  have N0 := Fr.nil n0
  have pre0 : ∀ t, Steps p.tables e below (s₁.setTop (mkF m 0 #[.val (.ref o0), .val (.int p1), .val (.int p2), .val (.long q3), .second, .val (.long q4), .second] [])) t → Steps p.tables e below (s₁.setTop (entryFrame m #[(.ref o0), (.int p1), (.int p2), (.long q3), (.long q4)] 7)) t := fun t k => castTop (own_ef2 m o0 p1 p2 q3 q4) k
  have pre1 : ∀ t, Steps p.tables e below (s₁.setTop (mkF m 2 #[.val (.ref o0), .val (.int p1), .val (.int p2), .val (.long q3), .second, .val (.long q4), .second] [(.int p1), (.int p2)])) t → Steps p.tables e below (s₁.setTop (entryFrame m #[(.ref o0), (.int p1), (.int p2), (.long q3), (.long q4)] 7)) t := fun t k => pre0 t (by
      refine XS.iloadN X0.here hx rfl (hb hby own_d2_0) rfl ?_
      show Steps p.tables e below (s₁.setTop (mkF m 1 #[.val (.ref o0), .val (.int p1), .val (.int p2), .val (.long q3), .second, .val (.long q4), .second] [(.int p2)])) _
      refine XS.iloadN X0.here hx rfl (hb hby own_d2_1) rfl ?_
      show Steps p.tables e below (s₁.setTop (mkF m 2 #[.val (.ref o0), .val (.int p1), .val (.int p2), .val (.long q3), .second, .val (.long q4), .second] [(.int p1), (.int p2)])) _
      exact k)
  by_cases hc2 : p2 < p1
  · obtain ⟨_, _, ⟨T3, L3, k3, n3⟩, -, X3, ⟨Lc3, hQ3, l3, y3, z3⟩, st3⟩ := Jvm.LawKit.callS X0 hx (y := (⟨"com/example/meaning_into_numbers/meaningintonumbers/VersionHashCodePinLaw", "drawn", "(JJI)B"⟩ : MethodName)) hown (mvT hZ (hw _ (List.mem_of_getElem? (i := 33) rfl))) (mvT hZ (hw _ (List.mem_of_getElem? (i := 34) rfl))) (mvT hZ (hw _ (List.mem_of_getElem? (i := 3) rfl))) (mvT hZ (hw _ (List.mem_of_getElem? (i := 35) rfl))) (by decide) (backOf (W := 2) (own_rm7 l Z a0 hw [] q3 q4 p2 h0 n0 Z0 ) hZ (hw _ (List.mem_of_getElem? (i := 35) rfl)) (hw _ (List.mem_of_getElem? (i := 3) rfl)) (by decide) (by decide)) (g := (mkF m 11 #[.val (.ref o0), .val (.int p1), .val (.int p2), .val (.long q3), .second, .val (.long q4), .second] [(.int p2), (.long q4), (.long q3), (.int p2), (.ref o0)])) rfl (by rw [hml]; rfl) (argsL := [(.long q3), (.long q4), (.int p2)]) (rest := [(.int p2), (.ref o0)]) (lenOf own_pd0 rfl) rfl (by show 2 * 0 + _ ≤ _; exact Nat.le_of_eq rfl) (hb hby own_d2_11) (fun _ _ => ⟨rfl, e0, (by decide : 0 + 0 ≤ _), (by decide : 0 + 0 ≤ _)⟩)
    dsimp only [Pt.U, Pt.locs, Pt.cells, Pt.slots] at X3 l3 y3 z3 st3 hQ3
    subst l3 y3 z3
    obtain ⟨rfl, N3q, e3⟩ := hQ3
    have N4 := Fr.app N0 N3q
    obtain ⟨cl5, Ar5, q5, S5, N_5, Ha5, G5⟩ := id P_V_o0
    have hin5 : ¬ (p2 < 0 ∨ cl5.slots.size ≤ (p2).toNatClampNeg) := inb_of S5 ⟨H1, Int32.lt_of_lt_of_le hc2 (Int32.not_lt.mp H2)⟩
    obtain ⟨T6, h6, X6, e6, W6, st6⟩ := stB X3 hx hZ e3 Ar5 (j := p2) hin5 (g := (mkF m 14 #[.val (.ref o0), .val (.int p1), .val (.int p2), .val (.long q3), .second, .val (.long q4), .second] [(.int (own_f7 q3 q4 p2)), (.int p2), (.ref o0)])) rfl rfl (hb hby own_d2_14)
    have f7 : Arv Z h6 o0 k_o0 .byte n_o0 (vs_o0.set p2.toNatClampNeg (.int (nar .byte (own_f7 q3 q4 p2)))) (.int (0 : Int32)) := Arv.set Ar5 q5 S5 N_5 Ha5 G5 (fits_nar_byte _) W6 p2.toNatClampNeg rfl H3
    have zs8 : n0 ≤ h6.size := Nat.le_trans Z0 (Keep.of_wr W6).1
    have N9 := Fr.snoc X6 N4 G_o0
    have K10 : Keep h0 h0 [o0] := Keep.refl h0 [o0]
    have K11 : Keep h0 h6 [o0] := K10.wr W6 (Or.inl (by simp))
    have pre12 : ∀ t, Steps p.tables e below (T6.setTop (mkF m 15 #[.val (.ref o0), .val (.int p1), .val (.int p2), .val (.long q3), .second, .val (.long q4), .second] [])) t → Steps p.tables e below (s₁.setTop (entryFrame m #[(.ref o0), (.int p1), (.int p2), (.long q3), (.long q4)] 7)) t := fun t k => pre1 t (by
        refine XS.icmpNo X0.here hx rfl (hb hby own_d2_2) rfl (tlt hc2).2.1 ?_
        show Steps p.tables e below (s₁.setTop (mkF m 5 #[.val (.ref o0), .val (.int p1), .val (.int p2), .val (.long q3), .second, .val (.long q4), .second] [])) _
        refine XS.aloadN X0.here hx rfl (hb hby own_d2_5) rfl rfl ?_
        show Steps p.tables e below (s₁.setTop (mkF m 6 #[.val (.ref o0), .val (.int p1), .val (.int p2), .val (.long q3), .second, .val (.long q4), .second] [(.ref o0)])) _
        refine XS.iloadN X0.here hx rfl (hb hby own_d2_6) rfl ?_
        show Steps p.tables e below (s₁.setTop (mkF m 7 #[.val (.ref o0), .val (.int p1), .val (.int p2), .val (.long q3), .second, .val (.long q4), .second] [(.int p2), (.ref o0)])) _
        refine XS.lloadN X0.here hx rfl (hb hby own_d2_7) rfl ?_
        show Steps p.tables e below (s₁.setTop (mkF m 8 #[.val (.ref o0), .val (.int p1), .val (.int p2), .val (.long q3), .second, .val (.long q4), .second] [(.long q3), (.int p2), (.ref o0)])) _
        refine XS.lload X0.here hx rfl (hb hby own_d2_8) rfl ?_
        show Steps p.tables e below (s₁.setTop (mkF m 10 #[.val (.ref o0), .val (.int p1), .val (.int p2), .val (.long q3), .second, .val (.long q4), .second] [(.long q4), (.long q3), (.int p2), (.ref o0)])) _
        refine XS.iloadN X0.here hx rfl (hb hby own_d2_10) rfl ?_
        show Steps p.tables e below (s₁.setTop (mkF m 11 #[.val (.ref o0), .val (.int p1), .val (.int p2), .val (.long q3), .second, .val (.long q4), .second] [(.int p2), (.long q4), (.long q3), (.int p2), (.ref o0)])) _
        refine st3 _ ?_
        show Steps p.tables e below (T3.setTop (mkF m 14 #[.val (.ref o0), .val (.int p1), .val (.int p2), .val (.long q3), .second, .val (.long q4), .second] [(.int (own_f7 q3 q4 p2)), (.int p2), (.ref o0)])) _
        refine st6 _ ?_
        show Steps p.tables e below (T6.setTop (mkF m 15 #[.val (.ref o0), .val (.int p1), .val (.int p2), .val (.long q3), .second, .val (.long q4), .second] [])) _
        exact k)
    obtain ⟨fs, hr, hrun, hended, hW, hsame⟩ := X6.leave (v := none) (fun _ => rfl) (hlocks := hlk)
    refine ⟨_, _, pre12 _ ?_, hrun, hended, _, _, rfl, ?_, ⟨_, rfl⟩, hW, hsame.mono (by decide) (by decide)⟩
    · show Steps p.tables e below (T6.setTop (mkF m 15 #[.val (.ref o0), .val (.int p1), .val (.int p2), .val (.long q3), .second, .val (.long q4), .second] [])) _
      exact X6.returnOut hx Bd.returns (hb hby own_d2_15) hr
    · show own_Q2 Z o0 p1 p2 q3 q4 k_o0 n_o0 vs_o0 h0 n0 _ T6.heap _; rw [e6]; exact ⟨rfl, N9, K11, (by rw [show (own_w2_0 p1 p2 q3 q4 vs_o0) = (vs_o0.set p2.toNatClampNeg (.int (nar .byte (own_f7 q3 q4 p2)))) from by unfold own_w2_0; rw [if_pos hc2]]; exact f7)⟩
  · have pre13 : ∀ t, Steps p.tables e below (s₁.setTop (mkF m 15 #[.val (.ref o0), .val (.int p1), .val (.int p2), .val (.long q3), .second, .val (.long q4), .second] [])) t → Steps p.tables e below (s₁.setTop (entryFrame m #[(.ref o0), (.int p1), (.int p2), (.long q3), (.long q4)] 7)) t := fun t k => pre1 t (by
        refine XS.icmpYes X0.here hx rfl (pc0 := 2) (pc' := 15) rfl (hb hby own_d2_2) rfl (flt hc2).2.1 (by decide) (by decide) ?_
        show Steps p.tables e below (s₁.setTop (mkF m 15 #[.val (.ref o0), .val (.int p1), .val (.int p2), .val (.long q3), .second, .val (.long q4), .second] [])) _
        exact k)
    obtain ⟨fs, hr, hrun, hended, hW, hsame⟩ := X0.leave (v := none) (fun _ => rfl) (hlocks := hlk)
    refine ⟨_, _, pre13 _ ?_, hrun, hended, _, _, rfl, ?_, ⟨_, rfl⟩, hW, hsame.mono (by decide) (by decide)⟩
    · show Steps p.tables e below (s₁.setTop (mkF m 15 #[.val (.ref o0), .val (.int p1), .val (.int p2), .val (.long q3), .second, .val (.long q4), .second] [])) _
      exact X0.returnOut hx Bd.returns (hb hby own_d2_15) hr
    · show own_Q2 Z o0 p1 p2 q3 q4 k_o0 n_o0 vs_o0 h0 n0 _ s₁.heap _; rw [e0]; exact ⟨rfl, N0, Keep.refl h0 [o0], (by rw [show (own_w2_0 p1 p2 q3 q4 vs_o0) = vs_o0 from by unfold own_w2_0; rw [if_neg hc2]]; exact P_V_o0)⟩
theorem own_wlen (p1 p2 : Int32) (q3 q4 : Int64) (vs : List Value) : (own_w2_0 p1 p2 q3 q4 vs).length = vs.length := by
  unfold own_w2_0; split
  · rw [List.length_set]
  · rfl
theorem own_pd1 : parseMethodDescriptor "([BIIJJ)V" = some ⟨[(.array .byte), .int, .int, .long, .long], none⟩ := by decide +kernel
theorem own_d1_0 : decode method_5_code 0 = .ok (.aload_n 0, 1) := by decide +kernel
theorem own_d1_1 : decode method_5_code 1 = .ok (.iload_n 1, 1) := by decide +kernel
theorem own_d1_2 : decode method_5_code 2 = .ok (.iconst 0, 1) := by decide +kernel
theorem own_d1_3 : decode method_5_code 3 = .ok (.lload_n 2, 1) := by decide +kernel
theorem own_d1_4 : decode method_5_code 4 = .ok (.lload 4, 2) := by decide +kernel
theorem own_d1_6 : decode method_5_code 6 = .ok (.invokestatic 31, 3) := by decide +kernel
theorem own_d1_9 : decode method_5_code 9 = .ok (.aload_n 0, 1) := by decide +kernel
theorem own_d1_10 : decode method_5_code 10 = .ok (.iload_n 1, 1) := by decide +kernel
theorem own_d1_11 : decode method_5_code 11 = .ok (.iconst 1, 1) := by decide +kernel
theorem own_d1_12 : decode method_5_code 12 = .ok (.lload_n 2, 1) := by decide +kernel
theorem own_d1_13 : decode method_5_code 13 = .ok (.lload 4, 2) := by decide +kernel
theorem own_d1_15 : decode method_5_code 15 = .ok (.invokestatic 31, 3) := by decide +kernel
theorem own_d1_18 : decode method_5_code 18 = .ok (.aload_n 0, 1) := by decide +kernel
theorem own_d1_19 : decode method_5_code 19 = .ok (.iload_n 1, 1) := by decide +kernel
theorem own_d1_20 : decode method_5_code 20 = .ok (.iconst 2, 1) := by decide +kernel
theorem own_d1_21 : decode method_5_code 21 = .ok (.lload_n 2, 1) := by decide +kernel
theorem own_d1_22 : decode method_5_code 22 = .ok (.lload 4, 2) := by decide +kernel
theorem own_d1_24 : decode method_5_code 24 = .ok (.invokestatic 31, 3) := by decide +kernel
theorem own_d1_27 : decode method_5_code 27 = .ok (.aload_n 0, 1) := by decide +kernel
theorem own_d1_28 : decode method_5_code 28 = .ok (.iload_n 1, 1) := by decide +kernel
theorem own_d1_29 : decode method_5_code 29 = .ok (.iconst 3, 1) := by decide +kernel
theorem own_d1_30 : decode method_5_code 30 = .ok (.lload_n 2, 1) := by decide +kernel
theorem own_d1_31 : decode method_5_code 31 = .ok (.lload 4, 2) := by decide +kernel
theorem own_d1_33 : decode method_5_code 33 = .ok (.invokestatic 31, 3) := by decide +kernel
theorem own_d1_36 : decode method_5_code 36 = .ok (.aload_n 0, 1) := by decide +kernel
theorem own_d1_37 : decode method_5_code 37 = .ok (.iload_n 1, 1) := by decide +kernel
theorem own_d1_38 : decode method_5_code 38 = .ok (.iconst 4, 1) := by decide +kernel
theorem own_d1_39 : decode method_5_code 39 = .ok (.lload_n 2, 1) := by decide +kernel
theorem own_d1_40 : decode method_5_code 40 = .ok (.lload 4, 2) := by decide +kernel
theorem own_d1_42 : decode method_5_code 42 = .ok (.invokestatic 31, 3) := by decide +kernel
theorem own_d1_45 : decode method_5_code 45 = .ok (.aload_n 0, 1) := by decide +kernel
theorem own_d1_46 : decode method_5_code 46 = .ok (.iload_n 1, 1) := by decide +kernel
theorem own_d1_47 : decode method_5_code 47 = .ok (.iconst 5, 1) := by decide +kernel
theorem own_d1_48 : decode method_5_code 48 = .ok (.lload_n 2, 1) := by decide +kernel
theorem own_d1_49 : decode method_5_code 49 = .ok (.lload 4, 2) := by decide +kernel
theorem own_d1_51 : decode method_5_code 51 = .ok (.invokestatic 31, 3) := by decide +kernel
theorem own_d1_54 : decode method_5_code 54 = .ok (.aload_n 0, 1) := by decide +kernel
theorem own_d1_55 : decode method_5_code 55 = .ok (.iload_n 1, 1) := by decide +kernel
theorem own_d1_56 : decode method_5_code 56 = .ok (.bipush 6, 2) := by decide +kernel
theorem own_d1_58 : decode method_5_code 58 = .ok (.lload_n 2, 1) := by decide +kernel
theorem own_d1_59 : decode method_5_code 59 = .ok (.lload 4, 2) := by decide +kernel
theorem own_d1_61 : decode method_5_code 61 = .ok (.invokestatic 31, 3) := by decide +kernel
theorem own_d1_64 : decode method_5_code 64 = .ok (.aload_n 0, 1) := by decide +kernel
theorem own_d1_65 : decode method_5_code 65 = .ok (.iload_n 1, 1) := by decide +kernel
theorem own_d1_66 : decode method_5_code 66 = .ok (.bipush 7, 2) := by decide +kernel
theorem own_d1_68 : decode method_5_code 68 = .ok (.lload_n 2, 1) := by decide +kernel
theorem own_d1_69 : decode method_5_code 69 = .ok (.lload 4, 2) := by decide +kernel
theorem own_d1_71 : decode method_5_code 71 = .ok (.invokestatic 31, 3) := by decide +kernel
theorem own_d1_74 : decode method_5_code 74 = .ok (.aload_n 0, 1) := by decide +kernel
theorem own_d1_75 : decode method_5_code 75 = .ok (.iload_n 1, 1) := by decide +kernel
theorem own_d1_76 : decode method_5_code 76 = .ok (.bipush 8, 2) := by decide +kernel
theorem own_d1_78 : decode method_5_code 78 = .ok (.lload_n 2, 1) := by decide +kernel
theorem own_d1_79 : decode method_5_code 79 = .ok (.lload 4, 2) := by decide +kernel
theorem own_d1_81 : decode method_5_code 81 = .ok (.invokestatic 31, 3) := by decide +kernel
theorem own_d1_84 : decode method_5_code 84 = .ok (.aload_n 0, 1) := by decide +kernel
theorem own_d1_85 : decode method_5_code 85 = .ok (.iload_n 1, 1) := by decide +kernel
theorem own_d1_86 : decode method_5_code 86 = .ok (.bipush 9, 2) := by decide +kernel
theorem own_d1_88 : decode method_5_code 88 = .ok (.lload_n 2, 1) := by decide +kernel
theorem own_d1_89 : decode method_5_code 89 = .ok (.lload 4, 2) := by decide +kernel
theorem own_d1_91 : decode method_5_code 91 = .ok (.invokestatic 31, 3) := by decide +kernel
theorem own_d1_94 : decode method_5_code 94 = .ok (.aload_n 0, 1) := by decide +kernel
theorem own_d1_95 : decode method_5_code 95 = .ok (.iload_n 1, 1) := by decide +kernel
theorem own_d1_96 : decode method_5_code 96 = .ok (.bipush 10, 2) := by decide +kernel
theorem own_d1_98 : decode method_5_code 98 = .ok (.lload_n 2, 1) := by decide +kernel
theorem own_d1_99 : decode method_5_code 99 = .ok (.lload 4, 2) := by decide +kernel
theorem own_d1_101 : decode method_5_code 101 = .ok (.invokestatic 31, 3) := by decide +kernel
theorem own_d1_104 : decode method_5_code 104 = .ok (.aload_n 0, 1) := by decide +kernel
theorem own_d1_105 : decode method_5_code 105 = .ok (.iload_n 1, 1) := by decide +kernel
theorem own_d1_106 : decode method_5_code 106 = .ok (.bipush 11, 2) := by decide +kernel
theorem own_d1_108 : decode method_5_code 108 = .ok (.lload_n 2, 1) := by decide +kernel
theorem own_d1_109 : decode method_5_code 109 = .ok (.lload 4, 2) := by decide +kernel
theorem own_d1_111 : decode method_5_code 111 = .ok (.invokestatic 31, 3) := by decide +kernel
theorem own_d1_114 : decode method_5_code 114 = .ok (.aload_n 0, 1) := by decide +kernel
theorem own_d1_115 : decode method_5_code 115 = .ok (.iload_n 1, 1) := by decide +kernel
theorem own_d1_116 : decode method_5_code 116 = .ok (.bipush 12, 2) := by decide +kernel
theorem own_d1_118 : decode method_5_code 118 = .ok (.lload_n 2, 1) := by decide +kernel
theorem own_d1_119 : decode method_5_code 119 = .ok (.lload 4, 2) := by decide +kernel
theorem own_d1_121 : decode method_5_code 121 = .ok (.invokestatic 31, 3) := by decide +kernel
theorem own_d1_124 : decode method_5_code 124 = .ok (.aload_n 0, 1) := by decide +kernel
theorem own_d1_125 : decode method_5_code 125 = .ok (.iload_n 1, 1) := by decide +kernel
theorem own_d1_126 : decode method_5_code 126 = .ok (.bipush 13, 2) := by decide +kernel
theorem own_d1_128 : decode method_5_code 128 = .ok (.lload_n 2, 1) := by decide +kernel
theorem own_d1_129 : decode method_5_code 129 = .ok (.lload 4, 2) := by decide +kernel
theorem own_d1_131 : decode method_5_code 131 = .ok (.invokestatic 31, 3) := by decide +kernel
theorem own_d1_134 : decode method_5_code 134 = .ok (.aload_n 0, 1) := by decide +kernel
theorem own_d1_135 : decode method_5_code 135 = .ok (.iload_n 1, 1) := by decide +kernel
theorem own_d1_136 : decode method_5_code 136 = .ok (.bipush 14, 2) := by decide +kernel
theorem own_d1_138 : decode method_5_code 138 = .ok (.lload_n 2, 1) := by decide +kernel
theorem own_d1_139 : decode method_5_code 139 = .ok (.lload 4, 2) := by decide +kernel
theorem own_d1_141 : decode method_5_code 141 = .ok (.invokestatic 31, 3) := by decide +kernel
theorem own_d1_144 : decode method_5_code 144 = .ok (.return_, 1) := by decide +kernel
theorem own_pn1 : plainName "com/example/meaning_into_numbers/meaningintonumbers/VersionHashCodePinLaw" = true := by first | (simp [plainName, overriddenIn]; done) | decide +kernel
theorem own_ef1 (m : MethodId) (x0 : Addr) (x1 : Int32) (x2 : Int64) (x3 : Int64) : entryFrame m #[(.ref x0), (.int x1), (.long x2), (.long x3)] 6 = (mkF m 0 #[.val (.ref x0), .val (.int x1), .val (.long x2), .second, .val (.long x3), .second] []) := by first | (simp [entryFrame, mkF, argsToLocals, Value.category]; done) | rfl
def own_l1_0 (p1 : Int32) (q2 : Int64) (q3 : Int64) (vs_o0 : List Value) : List Value := (own_w2_0 p1 (14 : Int32) q2 q3 (own_w2_0 p1 (13 : Int32) q2 q3 (own_w2_0 p1 (12 : Int32) q2 q3 (own_w2_0 p1 (11 : Int32) q2 q3 (own_w2_0 p1 (10 : Int32) q2 q3 (own_w2_0 p1 (9 : Int32) q2 q3 (own_w2_0 p1 (8 : Int32) q2 q3 (own_w2_0 p1 (7 : Int32) q2 q3 (own_w2_0 p1 (6 : Int32) q2 q3 (own_w2_0 p1 (5 : Int32) q2 q3 (own_w2_0 p1 (4 : Int32) q2 q3 (own_w2_0 p1 (3 : Int32) q2 q3 (own_w2_0 p1 (2 : Int32) q2 q3 (own_w2_0 p1 (1 : Int32) q2 q3 (own_w2_0 p1 (0 : Int32) q2 q3 vs_o0)))))))))))))))
def own_Q1 (Z : State) (o0 : Addr) (p1 : Int32) (q2 : Int64) (q3 : Int64) (k_o0 : ClassId) (n_o0 : Int32) (vs_o0 : List Value) (h0 : Heap) (n0 : Nat) (v : Option Value) (h : Heap) (L : List Loc) : Prop := v = none ∧ Fr n0 L ∧ Keep h0 h [o0] ∧ Arv Z h o0 k_o0 .byte n_o0 (own_l1_0 p1 q2 q3 vs_o0) (.int (0 : Int32))
set_option maxRecDepth 65536 in
set_option maxHeartbeats 40000000 in
theorem own_rm1 (l : Launch) (Z : State) (a0 : Array Value) (hw : ∀ d ∈ tables_1, d.before a0 Z = true) (ws : List Jvm.Cond) (o0 : Addr) (p1 : Int32) (q2 : Int64) (q3 : Int64) (k_o0 : ClassId) (n_o0 : Int32) (vs_o0 : List Value) (h0 : Heap) (n0 : Nat) (Z0 : n0 ≤ h0.size) (H2 : ¬ (n_o0 < p1)) (H3 : vs_o0.length = 16) (P_V_o0 : Arv Z h0 o0 k_o0 .byte n_o0 vs_o0 (.int (0 : Int32))) (G_o0 : n0 ≤ o0) :
    MetFree l (⟨"com/example/meaning_into_numbers/meaningintonumbers/VersionHashCodePinLaw", "fill", "([BIJJ)V"⟩ : MethodName) (head1 (Jvm.Cond.code (⟨"com/example/meaning_into_numbers/meaningintonumbers/VersionHashCodePinLaw", "fill", "([BIJJ)V"⟩ : MethodName) method_5_code 6 none :: ws) ({ frames := 2, cells := 0, slots := 0, locals := 38 } : Room)) (fun a U => a = #[(.ref o0), (.int p1), (.long q2), (.long q3)] ∧ Z.Warmed39 U.vm ∧ U.heap = h0) (fun _ _ _ _ _ => True) (fun _ U o U' => ∃ v L, o = .returned v ∧ own_Q1 Z o0 p1 q2 q3 k_o0 n_o0 vs_o0 h0 n0 v U'.heap L ∧ FrameEnd U o U' L ({ frames := 2, cells := 0, slots := 0, locals := 38 } : Room).cells ({ frames := 2, cells := 0, slots := 0, locals := 38 } : Room).slots) := by
  refine MetFree.of_bodySF (plainFor_of_name own_pn1) hisR ?_
  intro p e s m args below meth c s₁ Bd hml0 hP hK
  obtain ⟨rfl, hZ, hh⟩ := hP
  have hx := Bd.exec
  have hlk : meth.locks = false := BodyLoose.notSynchronized Bd
  have hby := Bd.bytes
  have hml : c.maxLocals = 6 := hml0
  have hown : s.vm.findClass "com/example/meaning_into_numbers/meaningintonumbers/VersionHashCodePinLaw" = some m.cls := findClass_of_methodNamed Bd.named
  have hnm := (name_of_methodNamed Bd.named Bd.method).1
  have X0 : Stand p l e ({ frames := 2, cells := 0, slots := 0, locals := 38 } : Room) s m #[(.ref o0), (.int p1), (.long q2), (.long q3)] below meth c s₁ [] 0 0 := Stand.of_body Bd
  have e0 : s₁.heap = h0 := by rw [← hh, Bd.state]; rfl
  have N0 := Fr.nil n0
  have pre0 : ∀ t, Steps p.tables e below (s₁.setTop (mkF m 0 #[.val (.ref o0), .val (.int p1), .val (.long q2), .second, .val (.long q3), .second] [])) t → Steps p.tables e below (s₁.setTop (entryFrame m #[(.ref o0), (.int p1), (.long q2), (.long q3)] 6)) t := fun t k => castTop (own_ef1 m o0 p1 q2 q3) k
  obtain ⟨_, _, ⟨T1, L1, k1, n1⟩, -, X1, ⟨Lc1, hQ1, l1, y1, z1⟩, st1⟩ := Jvm.LawKit.callS X0 hx (y := (⟨"com/example/meaning_into_numbers/meaningintonumbers/VersionHashCodePinLaw", "put", "([BIIJJ)V"⟩ : MethodName)) hown (mvT hZ (hw _ (List.mem_of_getElem? (i := 5) rfl))) (mvT hZ (hw _ (List.mem_of_getElem? (i := 6) rfl))) (mvT hZ (hw _ (List.mem_of_getElem? (i := 3) rfl))) (mvT hZ (hw _ (List.mem_of_getElem? (i := 7) rfl))) (by decide) (backOf (W := 0) (own_rm2 l Z a0 hw [] o0 p1 (0 : Int32) q2 q3 k_o0 n_o0 vs_o0 h0 n0 Z0 (by decide) H2 (by first | (rw [H3]; decide) | (simp only [own_wlen]; rw [H3]; decide)) P_V_o0 G_o0) hZ (hw _ (List.mem_of_getElem? (i := 7) rfl)) (hw _ (List.mem_of_getElem? (i := 3) rfl)) (by decide) (by decide)) (g := (mkF m 6 #[.val (.ref o0), .val (.int p1), .val (.long q2), .second, .val (.long q3), .second] [(.long q3), (.long q2), (.int (0 : Int32)), (.int p1), (.ref o0)])) rfl (by rw [hml]; rfl) (argsL := [(.ref o0), (.int p1), (.int (0 : Int32)), (.long q2), (.long q3)]) (rest := []) (lenOf own_pd1 rfl) rfl (by show 2 * 0 + _ ≤ _; exact Nat.le_of_eq rfl) (hb hby own_d1_6) (fun _ _ => ⟨rfl, e0, (by decide : 0 + 0 ≤ _), (by decide : 0 + 0 ≤ _)⟩)
  dsimp only [Pt.U, Pt.locs, Pt.cells, Pt.slots] at X1 l1 y1 z1 st1 hQ1
  subst l1 y1 z1
  obtain ⟨rfl, N1q, K1, f2⟩ := hQ1
  have zs3 : n0 ≤ T1.heap.size := Nat.le_trans Z0 K1.1
  have K4 : Keep h0 h0 [o0] := Keep.refl h0 [o0]
  have K5 : Keep h0 T1.heap [o0] := K4.trans K1 (allS (Or.inl (by simp)) all0)
  have N6 := Fr.app N0 N1q
  obtain ⟨_, _, ⟨T7, L7, k7, n7⟩, -, X7, ⟨Lc7, hQ7, l7, y7, z7⟩, st7⟩ := Jvm.LawKit.callS X1 hx (y := (⟨"com/example/meaning_into_numbers/meaningintonumbers/VersionHashCodePinLaw", "put", "([BIIJJ)V"⟩ : MethodName)) hown (mvT hZ (hw _ (List.mem_of_getElem? (i := 5) rfl))) (mvT hZ (hw _ (List.mem_of_getElem? (i := 6) rfl))) (mvT hZ (hw _ (List.mem_of_getElem? (i := 3) rfl))) (mvT hZ (hw _ (List.mem_of_getElem? (i := 7) rfl))) (by decide) (backOf (W := 0) (own_rm2 l Z a0 hw [] o0 p1 (1 : Int32) q2 q3 k_o0 n_o0 (own_w2_0 p1 (0 : Int32) q2 q3 vs_o0) T1.heap n0 zs3 (by decide) H2 (by first | (rw [H3]; decide) | (simp only [own_wlen]; rw [H3]; decide)) f2 G_o0) hZ (hw _ (List.mem_of_getElem? (i := 7) rfl)) (hw _ (List.mem_of_getElem? (i := 3) rfl)) (by decide) (by decide)) (g := (mkF m 15 #[.val (.ref o0), .val (.int p1), .val (.long q2), .second, .val (.long q3), .second] [(.long q3), (.long q2), (.int (1 : Int32)), (.int p1), (.ref o0)])) rfl (by rw [hml]; rfl) (argsL := [(.ref o0), (.int p1), (.int (1 : Int32)), (.long q2), (.long q3)]) (rest := []) (lenOf own_pd1 rfl) rfl (by show 2 * 0 + _ ≤ _; exact Nat.le_of_eq rfl) (hb hby own_d1_15) (fun _ _ => ⟨rfl, rfl, (by decide : 0 + 0 ≤ _), (by decide : 0 + 0 ≤ _)⟩)
  dsimp only [Pt.U, Pt.locs, Pt.cells, Pt.slots] at X7 l7 y7 z7 st7 hQ7
  subst l7 y7 z7
  obtain ⟨rfl, N7q, K7, f8⟩ := hQ7
  have zs9 : n0 ≤ T7.heap.size := Nat.le_trans zs3 K7.1
  have K10 : Keep h0 T7.heap [o0] := K5.trans K7 (allS (Or.inl (by simp)) all0)
  have N11 := Fr.app N6 N7q
  obtain ⟨_, _, ⟨T12, L12, k12, n12⟩, -, X12, ⟨Lc12, hQ12, l12, y12, z12⟩, st12⟩ := Jvm.LawKit.callS X7 hx (y := (⟨"com/example/meaning_into_numbers/meaningintonumbers/VersionHashCodePinLaw", "put", "([BIIJJ)V"⟩ : MethodName)) hown (mvT hZ (hw _ (List.mem_of_getElem? (i := 5) rfl))) (mvT hZ (hw _ (List.mem_of_getElem? (i := 6) rfl))) (mvT hZ (hw _ (List.mem_of_getElem? (i := 3) rfl))) (mvT hZ (hw _ (List.mem_of_getElem? (i := 7) rfl))) (by decide) (backOf (W := 0) (own_rm2 l Z a0 hw [] o0 p1 (2 : Int32) q2 q3 k_o0 n_o0 (own_w2_0 p1 (1 : Int32) q2 q3 (own_w2_0 p1 (0 : Int32) q2 q3 vs_o0)) T7.heap n0 zs9 (by decide) H2 (by first | (rw [H3]; decide) | (simp only [own_wlen]; rw [H3]; decide)) f8 G_o0) hZ (hw _ (List.mem_of_getElem? (i := 7) rfl)) (hw _ (List.mem_of_getElem? (i := 3) rfl)) (by decide) (by decide)) (g := (mkF m 24 #[.val (.ref o0), .val (.int p1), .val (.long q2), .second, .val (.long q3), .second] [(.long q3), (.long q2), (.int (2 : Int32)), (.int p1), (.ref o0)])) rfl (by rw [hml]; rfl) (argsL := [(.ref o0), (.int p1), (.int (2 : Int32)), (.long q2), (.long q3)]) (rest := []) (lenOf own_pd1 rfl) rfl (by show 2 * 0 + _ ≤ _; exact Nat.le_of_eq rfl) (hb hby own_d1_24) (fun _ _ => ⟨rfl, rfl, (by decide : 0 + 0 ≤ _), (by decide : 0 + 0 ≤ _)⟩)
  dsimp only [Pt.U, Pt.locs, Pt.cells, Pt.slots] at X12 l12 y12 z12 st12 hQ12
  subst l12 y12 z12
  obtain ⟨rfl, N12q, K12, f13⟩ := hQ12
  have zs14 : n0 ≤ T12.heap.size := Nat.le_trans zs9 K12.1
  have K15 : Keep h0 T12.heap [o0] := K10.trans K12 (allS (Or.inl (by simp)) all0)
  have N16 := Fr.app N11 N12q
  obtain ⟨_, _, ⟨T17, L17, k17, n17⟩, -, X17, ⟨Lc17, hQ17, l17, y17, z17⟩, st17⟩ := Jvm.LawKit.callS X12 hx (y := (⟨"com/example/meaning_into_numbers/meaningintonumbers/VersionHashCodePinLaw", "put", "([BIIJJ)V"⟩ : MethodName)) hown (mvT hZ (hw _ (List.mem_of_getElem? (i := 5) rfl))) (mvT hZ (hw _ (List.mem_of_getElem? (i := 6) rfl))) (mvT hZ (hw _ (List.mem_of_getElem? (i := 3) rfl))) (mvT hZ (hw _ (List.mem_of_getElem? (i := 7) rfl))) (by decide) (backOf (W := 0) (own_rm2 l Z a0 hw [] o0 p1 (3 : Int32) q2 q3 k_o0 n_o0 (own_w2_0 p1 (2 : Int32) q2 q3 (own_w2_0 p1 (1 : Int32) q2 q3 (own_w2_0 p1 (0 : Int32) q2 q3 vs_o0))) T12.heap n0 zs14 (by decide) H2 (by first | (rw [H3]; decide) | (simp only [own_wlen]; rw [H3]; decide)) f13 G_o0) hZ (hw _ (List.mem_of_getElem? (i := 7) rfl)) (hw _ (List.mem_of_getElem? (i := 3) rfl)) (by decide) (by decide)) (g := (mkF m 33 #[.val (.ref o0), .val (.int p1), .val (.long q2), .second, .val (.long q3), .second] [(.long q3), (.long q2), (.int (3 : Int32)), (.int p1), (.ref o0)])) rfl (by rw [hml]; rfl) (argsL := [(.ref o0), (.int p1), (.int (3 : Int32)), (.long q2), (.long q3)]) (rest := []) (lenOf own_pd1 rfl) rfl (by show 2 * 0 + _ ≤ _; exact Nat.le_of_eq rfl) (hb hby own_d1_33) (fun _ _ => ⟨rfl, rfl, (by decide : 0 + 0 ≤ _), (by decide : 0 + 0 ≤ _)⟩)
  dsimp only [Pt.U, Pt.locs, Pt.cells, Pt.slots] at X17 l17 y17 z17 st17 hQ17
  subst l17 y17 z17
  obtain ⟨rfl, N17q, K17, f18⟩ := hQ17
  have zs19 : n0 ≤ T17.heap.size := Nat.le_trans zs14 K17.1
  have K20 : Keep h0 T17.heap [o0] := K15.trans K17 (allS (Or.inl (by simp)) all0)
  have N21 := Fr.app N16 N17q
  obtain ⟨_, _, ⟨T22, L22, k22, n22⟩, -, X22, ⟨Lc22, hQ22, l22, y22, z22⟩, st22⟩ := Jvm.LawKit.callS X17 hx (y := (⟨"com/example/meaning_into_numbers/meaningintonumbers/VersionHashCodePinLaw", "put", "([BIIJJ)V"⟩ : MethodName)) hown (mvT hZ (hw _ (List.mem_of_getElem? (i := 5) rfl))) (mvT hZ (hw _ (List.mem_of_getElem? (i := 6) rfl))) (mvT hZ (hw _ (List.mem_of_getElem? (i := 3) rfl))) (mvT hZ (hw _ (List.mem_of_getElem? (i := 7) rfl))) (by decide) (backOf (W := 0) (own_rm2 l Z a0 hw [] o0 p1 (4 : Int32) q2 q3 k_o0 n_o0 (own_w2_0 p1 (3 : Int32) q2 q3 (own_w2_0 p1 (2 : Int32) q2 q3 (own_w2_0 p1 (1 : Int32) q2 q3 (own_w2_0 p1 (0 : Int32) q2 q3 vs_o0)))) T17.heap n0 zs19 (by decide) H2 (by first | (rw [H3]; decide) | (simp only [own_wlen]; rw [H3]; decide)) f18 G_o0) hZ (hw _ (List.mem_of_getElem? (i := 7) rfl)) (hw _ (List.mem_of_getElem? (i := 3) rfl)) (by decide) (by decide)) (g := (mkF m 42 #[.val (.ref o0), .val (.int p1), .val (.long q2), .second, .val (.long q3), .second] [(.long q3), (.long q2), (.int (4 : Int32)), (.int p1), (.ref o0)])) rfl (by rw [hml]; rfl) (argsL := [(.ref o0), (.int p1), (.int (4 : Int32)), (.long q2), (.long q3)]) (rest := []) (lenOf own_pd1 rfl) rfl (by show 2 * 0 + _ ≤ _; exact Nat.le_of_eq rfl) (hb hby own_d1_42) (fun _ _ => ⟨rfl, rfl, (by decide : 0 + 0 ≤ _), (by decide : 0 + 0 ≤ _)⟩)
  dsimp only [Pt.U, Pt.locs, Pt.cells, Pt.slots] at X22 l22 y22 z22 st22 hQ22
  subst l22 y22 z22
  obtain ⟨rfl, N22q, K22, f23⟩ := hQ22
  have zs24 : n0 ≤ T22.heap.size := Nat.le_trans zs19 K22.1
  have K25 : Keep h0 T22.heap [o0] := K20.trans K22 (allS (Or.inl (by simp)) all0)
  have N26 := Fr.app N21 N22q
  obtain ⟨_, _, ⟨T27, L27, k27, n27⟩, -, X27, ⟨Lc27, hQ27, l27, y27, z27⟩, st27⟩ := Jvm.LawKit.callS X22 hx (y := (⟨"com/example/meaning_into_numbers/meaningintonumbers/VersionHashCodePinLaw", "put", "([BIIJJ)V"⟩ : MethodName)) hown (mvT hZ (hw _ (List.mem_of_getElem? (i := 5) rfl))) (mvT hZ (hw _ (List.mem_of_getElem? (i := 6) rfl))) (mvT hZ (hw _ (List.mem_of_getElem? (i := 3) rfl))) (mvT hZ (hw _ (List.mem_of_getElem? (i := 7) rfl))) (by decide) (backOf (W := 0) (own_rm2 l Z a0 hw [] o0 p1 (5 : Int32) q2 q3 k_o0 n_o0 (own_w2_0 p1 (4 : Int32) q2 q3 (own_w2_0 p1 (3 : Int32) q2 q3 (own_w2_0 p1 (2 : Int32) q2 q3 (own_w2_0 p1 (1 : Int32) q2 q3 (own_w2_0 p1 (0 : Int32) q2 q3 vs_o0))))) T22.heap n0 zs24 (by decide) H2 (by first | (rw [H3]; decide) | (simp only [own_wlen]; rw [H3]; decide)) f23 G_o0) hZ (hw _ (List.mem_of_getElem? (i := 7) rfl)) (hw _ (List.mem_of_getElem? (i := 3) rfl)) (by decide) (by decide)) (g := (mkF m 51 #[.val (.ref o0), .val (.int p1), .val (.long q2), .second, .val (.long q3), .second] [(.long q3), (.long q2), (.int (5 : Int32)), (.int p1), (.ref o0)])) rfl (by rw [hml]; rfl) (argsL := [(.ref o0), (.int p1), (.int (5 : Int32)), (.long q2), (.long q3)]) (rest := []) (lenOf own_pd1 rfl) rfl (by show 2 * 0 + _ ≤ _; exact Nat.le_of_eq rfl) (hb hby own_d1_51) (fun _ _ => ⟨rfl, rfl, (by decide : 0 + 0 ≤ _), (by decide : 0 + 0 ≤ _)⟩)
  dsimp only [Pt.U, Pt.locs, Pt.cells, Pt.slots] at X27 l27 y27 z27 st27 hQ27
  subst l27 y27 z27
  obtain ⟨rfl, N27q, K27, f28⟩ := hQ27
  have zs29 : n0 ≤ T27.heap.size := Nat.le_trans zs24 K27.1
  have K30 : Keep h0 T27.heap [o0] := K25.trans K27 (allS (Or.inl (by simp)) all0)
  have N31 := Fr.app N26 N27q
  obtain ⟨_, _, ⟨T32, L32, k32, n32⟩, -, X32, ⟨Lc32, hQ32, l32, y32, z32⟩, st32⟩ := Jvm.LawKit.callS X27 hx (y := (⟨"com/example/meaning_into_numbers/meaningintonumbers/VersionHashCodePinLaw", "put", "([BIIJJ)V"⟩ : MethodName)) hown (mvT hZ (hw _ (List.mem_of_getElem? (i := 5) rfl))) (mvT hZ (hw _ (List.mem_of_getElem? (i := 6) rfl))) (mvT hZ (hw _ (List.mem_of_getElem? (i := 3) rfl))) (mvT hZ (hw _ (List.mem_of_getElem? (i := 7) rfl))) (by decide) (backOf (W := 0) (own_rm2 l Z a0 hw [] o0 p1 (6 : Int32) q2 q3 k_o0 n_o0 (own_w2_0 p1 (5 : Int32) q2 q3 (own_w2_0 p1 (4 : Int32) q2 q3 (own_w2_0 p1 (3 : Int32) q2 q3 (own_w2_0 p1 (2 : Int32) q2 q3 (own_w2_0 p1 (1 : Int32) q2 q3 (own_w2_0 p1 (0 : Int32) q2 q3 vs_o0)))))) T27.heap n0 zs29 (by decide) H2 (by first | (rw [H3]; decide) | (simp only [own_wlen]; rw [H3]; decide)) f28 G_o0) hZ (hw _ (List.mem_of_getElem? (i := 7) rfl)) (hw _ (List.mem_of_getElem? (i := 3) rfl)) (by decide) (by decide)) (g := (mkF m 61 #[.val (.ref o0), .val (.int p1), .val (.long q2), .second, .val (.long q3), .second] [(.long q3), (.long q2), (.int (6 : Int32)), (.int p1), (.ref o0)])) rfl (by rw [hml]; rfl) (argsL := [(.ref o0), (.int p1), (.int (6 : Int32)), (.long q2), (.long q3)]) (rest := []) (lenOf own_pd1 rfl) rfl (by show 2 * 0 + _ ≤ _; exact Nat.le_of_eq rfl) (hb hby own_d1_61) (fun _ _ => ⟨rfl, rfl, (by decide : 0 + 0 ≤ _), (by decide : 0 + 0 ≤ _)⟩)
  dsimp only [Pt.U, Pt.locs, Pt.cells, Pt.slots] at X32 l32 y32 z32 st32 hQ32
  subst l32 y32 z32
  obtain ⟨rfl, N32q, K32, f33⟩ := hQ32
  have zs34 : n0 ≤ T32.heap.size := Nat.le_trans zs29 K32.1
  have K35 : Keep h0 T32.heap [o0] := K30.trans K32 (allS (Or.inl (by simp)) all0)
  have N36 := Fr.app N31 N32q
  obtain ⟨_, _, ⟨T37, L37, k37, n37⟩, -, X37, ⟨Lc37, hQ37, l37, y37, z37⟩, st37⟩ := Jvm.LawKit.callS X32 hx (y := (⟨"com/example/meaning_into_numbers/meaningintonumbers/VersionHashCodePinLaw", "put", "([BIIJJ)V"⟩ : MethodName)) hown (mvT hZ (hw _ (List.mem_of_getElem? (i := 5) rfl))) (mvT hZ (hw _ (List.mem_of_getElem? (i := 6) rfl))) (mvT hZ (hw _ (List.mem_of_getElem? (i := 3) rfl))) (mvT hZ (hw _ (List.mem_of_getElem? (i := 7) rfl))) (by decide) (backOf (W := 0) (own_rm2 l Z a0 hw [] o0 p1 (7 : Int32) q2 q3 k_o0 n_o0 (own_w2_0 p1 (6 : Int32) q2 q3 (own_w2_0 p1 (5 : Int32) q2 q3 (own_w2_0 p1 (4 : Int32) q2 q3 (own_w2_0 p1 (3 : Int32) q2 q3 (own_w2_0 p1 (2 : Int32) q2 q3 (own_w2_0 p1 (1 : Int32) q2 q3 (own_w2_0 p1 (0 : Int32) q2 q3 vs_o0))))))) T32.heap n0 zs34 (by decide) H2 (by first | (rw [H3]; decide) | (simp only [own_wlen]; rw [H3]; decide)) f33 G_o0) hZ (hw _ (List.mem_of_getElem? (i := 7) rfl)) (hw _ (List.mem_of_getElem? (i := 3) rfl)) (by decide) (by decide)) (g := (mkF m 71 #[.val (.ref o0), .val (.int p1), .val (.long q2), .second, .val (.long q3), .second] [(.long q3), (.long q2), (.int (7 : Int32)), (.int p1), (.ref o0)])) rfl (by rw [hml]; rfl) (argsL := [(.ref o0), (.int p1), (.int (7 : Int32)), (.long q2), (.long q3)]) (rest := []) (lenOf own_pd1 rfl) rfl (by show 2 * 0 + _ ≤ _; exact Nat.le_of_eq rfl) (hb hby own_d1_71) (fun _ _ => ⟨rfl, rfl, (by decide : 0 + 0 ≤ _), (by decide : 0 + 0 ≤ _)⟩)
  dsimp only [Pt.U, Pt.locs, Pt.cells, Pt.slots] at X37 l37 y37 z37 st37 hQ37
  subst l37 y37 z37
  obtain ⟨rfl, N37q, K37, f38⟩ := hQ37
  have zs39 : n0 ≤ T37.heap.size := Nat.le_trans zs34 K37.1
  have K40 : Keep h0 T37.heap [o0] := K35.trans K37 (allS (Or.inl (by simp)) all0)
  have N41 := Fr.app N36 N37q
  obtain ⟨_, _, ⟨T42, L42, k42, n42⟩, -, X42, ⟨Lc42, hQ42, l42, y42, z42⟩, st42⟩ := Jvm.LawKit.callS X37 hx (y := (⟨"com/example/meaning_into_numbers/meaningintonumbers/VersionHashCodePinLaw", "put", "([BIIJJ)V"⟩ : MethodName)) hown (mvT hZ (hw _ (List.mem_of_getElem? (i := 5) rfl))) (mvT hZ (hw _ (List.mem_of_getElem? (i := 6) rfl))) (mvT hZ (hw _ (List.mem_of_getElem? (i := 3) rfl))) (mvT hZ (hw _ (List.mem_of_getElem? (i := 7) rfl))) (by decide) (backOf (W := 0) (own_rm2 l Z a0 hw [] o0 p1 (8 : Int32) q2 q3 k_o0 n_o0 (own_w2_0 p1 (7 : Int32) q2 q3 (own_w2_0 p1 (6 : Int32) q2 q3 (own_w2_0 p1 (5 : Int32) q2 q3 (own_w2_0 p1 (4 : Int32) q2 q3 (own_w2_0 p1 (3 : Int32) q2 q3 (own_w2_0 p1 (2 : Int32) q2 q3 (own_w2_0 p1 (1 : Int32) q2 q3 (own_w2_0 p1 (0 : Int32) q2 q3 vs_o0)))))))) T37.heap n0 zs39 (by decide) H2 (by first | (rw [H3]; decide) | (simp only [own_wlen]; rw [H3]; decide)) f38 G_o0) hZ (hw _ (List.mem_of_getElem? (i := 7) rfl)) (hw _ (List.mem_of_getElem? (i := 3) rfl)) (by decide) (by decide)) (g := (mkF m 81 #[.val (.ref o0), .val (.int p1), .val (.long q2), .second, .val (.long q3), .second] [(.long q3), (.long q2), (.int (8 : Int32)), (.int p1), (.ref o0)])) rfl (by rw [hml]; rfl) (argsL := [(.ref o0), (.int p1), (.int (8 : Int32)), (.long q2), (.long q3)]) (rest := []) (lenOf own_pd1 rfl) rfl (by show 2 * 0 + _ ≤ _; exact Nat.le_of_eq rfl) (hb hby own_d1_81) (fun _ _ => ⟨rfl, rfl, (by decide : 0 + 0 ≤ _), (by decide : 0 + 0 ≤ _)⟩)
  dsimp only [Pt.U, Pt.locs, Pt.cells, Pt.slots] at X42 l42 y42 z42 st42 hQ42
  subst l42 y42 z42
  obtain ⟨rfl, N42q, K42, f43⟩ := hQ42
  have zs44 : n0 ≤ T42.heap.size := Nat.le_trans zs39 K42.1
  have K45 : Keep h0 T42.heap [o0] := K40.trans K42 (allS (Or.inl (by simp)) all0)
  have N46 := Fr.app N41 N42q
  obtain ⟨_, _, ⟨T47, L47, k47, n47⟩, -, X47, ⟨Lc47, hQ47, l47, y47, z47⟩, st47⟩ := Jvm.LawKit.callS X42 hx (y := (⟨"com/example/meaning_into_numbers/meaningintonumbers/VersionHashCodePinLaw", "put", "([BIIJJ)V"⟩ : MethodName)) hown (mvT hZ (hw _ (List.mem_of_getElem? (i := 5) rfl))) (mvT hZ (hw _ (List.mem_of_getElem? (i := 6) rfl))) (mvT hZ (hw _ (List.mem_of_getElem? (i := 3) rfl))) (mvT hZ (hw _ (List.mem_of_getElem? (i := 7) rfl))) (by decide) (backOf (W := 0) (own_rm2 l Z a0 hw [] o0 p1 (9 : Int32) q2 q3 k_o0 n_o0 (own_w2_0 p1 (8 : Int32) q2 q3 (own_w2_0 p1 (7 : Int32) q2 q3 (own_w2_0 p1 (6 : Int32) q2 q3 (own_w2_0 p1 (5 : Int32) q2 q3 (own_w2_0 p1 (4 : Int32) q2 q3 (own_w2_0 p1 (3 : Int32) q2 q3 (own_w2_0 p1 (2 : Int32) q2 q3 (own_w2_0 p1 (1 : Int32) q2 q3 (own_w2_0 p1 (0 : Int32) q2 q3 vs_o0))))))))) T42.heap n0 zs44 (by decide) H2 (by first | (rw [H3]; decide) | (simp only [own_wlen]; rw [H3]; decide)) f43 G_o0) hZ (hw _ (List.mem_of_getElem? (i := 7) rfl)) (hw _ (List.mem_of_getElem? (i := 3) rfl)) (by decide) (by decide)) (g := (mkF m 91 #[.val (.ref o0), .val (.int p1), .val (.long q2), .second, .val (.long q3), .second] [(.long q3), (.long q2), (.int (9 : Int32)), (.int p1), (.ref o0)])) rfl (by rw [hml]; rfl) (argsL := [(.ref o0), (.int p1), (.int (9 : Int32)), (.long q2), (.long q3)]) (rest := []) (lenOf own_pd1 rfl) rfl (by show 2 * 0 + _ ≤ _; exact Nat.le_of_eq rfl) (hb hby own_d1_91) (fun _ _ => ⟨rfl, rfl, (by decide : 0 + 0 ≤ _), (by decide : 0 + 0 ≤ _)⟩)
  dsimp only [Pt.U, Pt.locs, Pt.cells, Pt.slots] at X47 l47 y47 z47 st47 hQ47
  subst l47 y47 z47
  obtain ⟨rfl, N47q, K47, f48⟩ := hQ47
  have zs49 : n0 ≤ T47.heap.size := Nat.le_trans zs44 K47.1
  have K50 : Keep h0 T47.heap [o0] := K45.trans K47 (allS (Or.inl (by simp)) all0)
  have N51 := Fr.app N46 N47q
  obtain ⟨_, _, ⟨T52, L52, k52, n52⟩, -, X52, ⟨Lc52, hQ52, l52, y52, z52⟩, st52⟩ := Jvm.LawKit.callS X47 hx (y := (⟨"com/example/meaning_into_numbers/meaningintonumbers/VersionHashCodePinLaw", "put", "([BIIJJ)V"⟩ : MethodName)) hown (mvT hZ (hw _ (List.mem_of_getElem? (i := 5) rfl))) (mvT hZ (hw _ (List.mem_of_getElem? (i := 6) rfl))) (mvT hZ (hw _ (List.mem_of_getElem? (i := 3) rfl))) (mvT hZ (hw _ (List.mem_of_getElem? (i := 7) rfl))) (by decide) (backOf (W := 0) (own_rm2 l Z a0 hw [] o0 p1 (10 : Int32) q2 q3 k_o0 n_o0 (own_w2_0 p1 (9 : Int32) q2 q3 (own_w2_0 p1 (8 : Int32) q2 q3 (own_w2_0 p1 (7 : Int32) q2 q3 (own_w2_0 p1 (6 : Int32) q2 q3 (own_w2_0 p1 (5 : Int32) q2 q3 (own_w2_0 p1 (4 : Int32) q2 q3 (own_w2_0 p1 (3 : Int32) q2 q3 (own_w2_0 p1 (2 : Int32) q2 q3 (own_w2_0 p1 (1 : Int32) q2 q3 (own_w2_0 p1 (0 : Int32) q2 q3 vs_o0)))))))))) T47.heap n0 zs49 (by decide) H2 (by first | (rw [H3]; decide) | (simp only [own_wlen]; rw [H3]; decide)) f48 G_o0) hZ (hw _ (List.mem_of_getElem? (i := 7) rfl)) (hw _ (List.mem_of_getElem? (i := 3) rfl)) (by decide) (by decide)) (g := (mkF m 101 #[.val (.ref o0), .val (.int p1), .val (.long q2), .second, .val (.long q3), .second] [(.long q3), (.long q2), (.int (10 : Int32)), (.int p1), (.ref o0)])) rfl (by rw [hml]; rfl) (argsL := [(.ref o0), (.int p1), (.int (10 : Int32)), (.long q2), (.long q3)]) (rest := []) (lenOf own_pd1 rfl) rfl (by show 2 * 0 + _ ≤ _; exact Nat.le_of_eq rfl) (hb hby own_d1_101) (fun _ _ => ⟨rfl, rfl, (by decide : 0 + 0 ≤ _), (by decide : 0 + 0 ≤ _)⟩)
  dsimp only [Pt.U, Pt.locs, Pt.cells, Pt.slots] at X52 l52 y52 z52 st52 hQ52
  subst l52 y52 z52
  obtain ⟨rfl, N52q, K52, f53⟩ := hQ52
  have zs54 : n0 ≤ T52.heap.size := Nat.le_trans zs49 K52.1
  have K55 : Keep h0 T52.heap [o0] := K50.trans K52 (allS (Or.inl (by simp)) all0)
  have N56 := Fr.app N51 N52q
  obtain ⟨_, _, ⟨T57, L57, k57, n57⟩, -, X57, ⟨Lc57, hQ57, l57, y57, z57⟩, st57⟩ := Jvm.LawKit.callS X52 hx (y := (⟨"com/example/meaning_into_numbers/meaningintonumbers/VersionHashCodePinLaw", "put", "([BIIJJ)V"⟩ : MethodName)) hown (mvT hZ (hw _ (List.mem_of_getElem? (i := 5) rfl))) (mvT hZ (hw _ (List.mem_of_getElem? (i := 6) rfl))) (mvT hZ (hw _ (List.mem_of_getElem? (i := 3) rfl))) (mvT hZ (hw _ (List.mem_of_getElem? (i := 7) rfl))) (by decide) (backOf (W := 0) (own_rm2 l Z a0 hw [] o0 p1 (11 : Int32) q2 q3 k_o0 n_o0 (own_w2_0 p1 (10 : Int32) q2 q3 (own_w2_0 p1 (9 : Int32) q2 q3 (own_w2_0 p1 (8 : Int32) q2 q3 (own_w2_0 p1 (7 : Int32) q2 q3 (own_w2_0 p1 (6 : Int32) q2 q3 (own_w2_0 p1 (5 : Int32) q2 q3 (own_w2_0 p1 (4 : Int32) q2 q3 (own_w2_0 p1 (3 : Int32) q2 q3 (own_w2_0 p1 (2 : Int32) q2 q3 (own_w2_0 p1 (1 : Int32) q2 q3 (own_w2_0 p1 (0 : Int32) q2 q3 vs_o0))))))))))) T52.heap n0 zs54 (by decide) H2 (by first | (rw [H3]; decide) | (simp only [own_wlen]; rw [H3]; decide)) f53 G_o0) hZ (hw _ (List.mem_of_getElem? (i := 7) rfl)) (hw _ (List.mem_of_getElem? (i := 3) rfl)) (by decide) (by decide)) (g := (mkF m 111 #[.val (.ref o0), .val (.int p1), .val (.long q2), .second, .val (.long q3), .second] [(.long q3), (.long q2), (.int (11 : Int32)), (.int p1), (.ref o0)])) rfl (by rw [hml]; rfl) (argsL := [(.ref o0), (.int p1), (.int (11 : Int32)), (.long q2), (.long q3)]) (rest := []) (lenOf own_pd1 rfl) rfl (by show 2 * 0 + _ ≤ _; exact Nat.le_of_eq rfl) (hb hby own_d1_111) (fun _ _ => ⟨rfl, rfl, (by decide : 0 + 0 ≤ _), (by decide : 0 + 0 ≤ _)⟩)
  dsimp only [Pt.U, Pt.locs, Pt.cells, Pt.slots] at X57 l57 y57 z57 st57 hQ57
  subst l57 y57 z57
  obtain ⟨rfl, N57q, K57, f58⟩ := hQ57
  have zs59 : n0 ≤ T57.heap.size := Nat.le_trans zs54 K57.1
  have K60 : Keep h0 T57.heap [o0] := K55.trans K57 (allS (Or.inl (by simp)) all0)
  have N61 := Fr.app N56 N57q
  obtain ⟨_, _, ⟨T62, L62, k62, n62⟩, -, X62, ⟨Lc62, hQ62, l62, y62, z62⟩, st62⟩ := Jvm.LawKit.callS X57 hx (y := (⟨"com/example/meaning_into_numbers/meaningintonumbers/VersionHashCodePinLaw", "put", "([BIIJJ)V"⟩ : MethodName)) hown (mvT hZ (hw _ (List.mem_of_getElem? (i := 5) rfl))) (mvT hZ (hw _ (List.mem_of_getElem? (i := 6) rfl))) (mvT hZ (hw _ (List.mem_of_getElem? (i := 3) rfl))) (mvT hZ (hw _ (List.mem_of_getElem? (i := 7) rfl))) (by decide) (backOf (W := 0) (own_rm2 l Z a0 hw [] o0 p1 (12 : Int32) q2 q3 k_o0 n_o0 (own_w2_0 p1 (11 : Int32) q2 q3 (own_w2_0 p1 (10 : Int32) q2 q3 (own_w2_0 p1 (9 : Int32) q2 q3 (own_w2_0 p1 (8 : Int32) q2 q3 (own_w2_0 p1 (7 : Int32) q2 q3 (own_w2_0 p1 (6 : Int32) q2 q3 (own_w2_0 p1 (5 : Int32) q2 q3 (own_w2_0 p1 (4 : Int32) q2 q3 (own_w2_0 p1 (3 : Int32) q2 q3 (own_w2_0 p1 (2 : Int32) q2 q3 (own_w2_0 p1 (1 : Int32) q2 q3 (own_w2_0 p1 (0 : Int32) q2 q3 vs_o0)))))))))))) T57.heap n0 zs59 (by decide) H2 (by first | (rw [H3]; decide) | (simp only [own_wlen]; rw [H3]; decide)) f58 G_o0) hZ (hw _ (List.mem_of_getElem? (i := 7) rfl)) (hw _ (List.mem_of_getElem? (i := 3) rfl)) (by decide) (by decide)) (g := (mkF m 121 #[.val (.ref o0), .val (.int p1), .val (.long q2), .second, .val (.long q3), .second] [(.long q3), (.long q2), (.int (12 : Int32)), (.int p1), (.ref o0)])) rfl (by rw [hml]; rfl) (argsL := [(.ref o0), (.int p1), (.int (12 : Int32)), (.long q2), (.long q3)]) (rest := []) (lenOf own_pd1 rfl) rfl (by show 2 * 0 + _ ≤ _; exact Nat.le_of_eq rfl) (hb hby own_d1_121) (fun _ _ => ⟨rfl, rfl, (by decide : 0 + 0 ≤ _), (by decide : 0 + 0 ≤ _)⟩)
  dsimp only [Pt.U, Pt.locs, Pt.cells, Pt.slots] at X62 l62 y62 z62 st62 hQ62
  subst l62 y62 z62
  obtain ⟨rfl, N62q, K62, f63⟩ := hQ62
  have zs64 : n0 ≤ T62.heap.size := Nat.le_trans zs59 K62.1
  have K65 : Keep h0 T62.heap [o0] := K60.trans K62 (allS (Or.inl (by simp)) all0)
  have N66 := Fr.app N61 N62q
  obtain ⟨_, _, ⟨T67, L67, k67, n67⟩, -, X67, ⟨Lc67, hQ67, l67, y67, z67⟩, st67⟩ := Jvm.LawKit.callS X62 hx (y := (⟨"com/example/meaning_into_numbers/meaningintonumbers/VersionHashCodePinLaw", "put", "([BIIJJ)V"⟩ : MethodName)) hown (mvT hZ (hw _ (List.mem_of_getElem? (i := 5) rfl))) (mvT hZ (hw _ (List.mem_of_getElem? (i := 6) rfl))) (mvT hZ (hw _ (List.mem_of_getElem? (i := 3) rfl))) (mvT hZ (hw _ (List.mem_of_getElem? (i := 7) rfl))) (by decide) (backOf (W := 0) (own_rm2 l Z a0 hw [] o0 p1 (13 : Int32) q2 q3 k_o0 n_o0 (own_w2_0 p1 (12 : Int32) q2 q3 (own_w2_0 p1 (11 : Int32) q2 q3 (own_w2_0 p1 (10 : Int32) q2 q3 (own_w2_0 p1 (9 : Int32) q2 q3 (own_w2_0 p1 (8 : Int32) q2 q3 (own_w2_0 p1 (7 : Int32) q2 q3 (own_w2_0 p1 (6 : Int32) q2 q3 (own_w2_0 p1 (5 : Int32) q2 q3 (own_w2_0 p1 (4 : Int32) q2 q3 (own_w2_0 p1 (3 : Int32) q2 q3 (own_w2_0 p1 (2 : Int32) q2 q3 (own_w2_0 p1 (1 : Int32) q2 q3 (own_w2_0 p1 (0 : Int32) q2 q3 vs_o0))))))))))))) T62.heap n0 zs64 (by decide) H2 (by first | (rw [H3]; decide) | (simp only [own_wlen]; rw [H3]; decide)) f63 G_o0) hZ (hw _ (List.mem_of_getElem? (i := 7) rfl)) (hw _ (List.mem_of_getElem? (i := 3) rfl)) (by decide) (by decide)) (g := (mkF m 131 #[.val (.ref o0), .val (.int p1), .val (.long q2), .second, .val (.long q3), .second] [(.long q3), (.long q2), (.int (13 : Int32)), (.int p1), (.ref o0)])) rfl (by rw [hml]; rfl) (argsL := [(.ref o0), (.int p1), (.int (13 : Int32)), (.long q2), (.long q3)]) (rest := []) (lenOf own_pd1 rfl) rfl (by show 2 * 0 + _ ≤ _; exact Nat.le_of_eq rfl) (hb hby own_d1_131) (fun _ _ => ⟨rfl, rfl, (by decide : 0 + 0 ≤ _), (by decide : 0 + 0 ≤ _)⟩)
  dsimp only [Pt.U, Pt.locs, Pt.cells, Pt.slots] at X67 l67 y67 z67 st67 hQ67
  subst l67 y67 z67
  obtain ⟨rfl, N67q, K67, f68⟩ := hQ67
  have zs69 : n0 ≤ T67.heap.size := Nat.le_trans zs64 K67.1
  have K70 : Keep h0 T67.heap [o0] := K65.trans K67 (allS (Or.inl (by simp)) all0)
  have N71 := Fr.app N66 N67q
  obtain ⟨_, _, ⟨T72, L72, k72, n72⟩, -, X72, ⟨Lc72, hQ72, l72, y72, z72⟩, st72⟩ := Jvm.LawKit.callS X67 hx (y := (⟨"com/example/meaning_into_numbers/meaningintonumbers/VersionHashCodePinLaw", "put", "([BIIJJ)V"⟩ : MethodName)) hown (mvT hZ (hw _ (List.mem_of_getElem? (i := 5) rfl))) (mvT hZ (hw _ (List.mem_of_getElem? (i := 6) rfl))) (mvT hZ (hw _ (List.mem_of_getElem? (i := 3) rfl))) (mvT hZ (hw _ (List.mem_of_getElem? (i := 7) rfl))) (by decide) (backOf (W := 0) (own_rm2 l Z a0 hw [] o0 p1 (14 : Int32) q2 q3 k_o0 n_o0 (own_w2_0 p1 (13 : Int32) q2 q3 (own_w2_0 p1 (12 : Int32) q2 q3 (own_w2_0 p1 (11 : Int32) q2 q3 (own_w2_0 p1 (10 : Int32) q2 q3 (own_w2_0 p1 (9 : Int32) q2 q3 (own_w2_0 p1 (8 : Int32) q2 q3 (own_w2_0 p1 (7 : Int32) q2 q3 (own_w2_0 p1 (6 : Int32) q2 q3 (own_w2_0 p1 (5 : Int32) q2 q3 (own_w2_0 p1 (4 : Int32) q2 q3 (own_w2_0 p1 (3 : Int32) q2 q3 (own_w2_0 p1 (2 : Int32) q2 q3 (own_w2_0 p1 (1 : Int32) q2 q3 (own_w2_0 p1 (0 : Int32) q2 q3 vs_o0)))))))))))))) T67.heap n0 zs69 (by decide) H2 (by first | (rw [H3]; decide) | (simp only [own_wlen]; rw [H3]; decide)) f68 G_o0) hZ (hw _ (List.mem_of_getElem? (i := 7) rfl)) (hw _ (List.mem_of_getElem? (i := 3) rfl)) (by decide) (by decide)) (g := (mkF m 141 #[.val (.ref o0), .val (.int p1), .val (.long q2), .second, .val (.long q3), .second] [(.long q3), (.long q2), (.int (14 : Int32)), (.int p1), (.ref o0)])) rfl (by rw [hml]; rfl) (argsL := [(.ref o0), (.int p1), (.int (14 : Int32)), (.long q2), (.long q3)]) (rest := []) (lenOf own_pd1 rfl) rfl (by show 2 * 0 + _ ≤ _; exact Nat.le_of_eq rfl) (hb hby own_d1_141) (fun _ _ => ⟨rfl, rfl, (by decide : 0 + 0 ≤ _), (by decide : 0 + 0 ≤ _)⟩)
  dsimp only [Pt.U, Pt.locs, Pt.cells, Pt.slots] at X72 l72 y72 z72 st72 hQ72
  subst l72 y72 z72
  obtain ⟨rfl, N72q, K72, f73⟩ := hQ72
  have zs74 : n0 ≤ T72.heap.size := Nat.le_trans zs69 K72.1
  have K75 : Keep h0 T72.heap [o0] := K70.trans K72 (allS (Or.inl (by simp)) all0)
  have N76 := Fr.app N71 N72q
  have pre77 : ∀ t, Steps p.tables e below (T72.setTop (mkF m 144 #[.val (.ref o0), .val (.int p1), .val (.long q2), .second, .val (.long q3), .second] [])) t → Steps p.tables e below (s₁.setTop (entryFrame m #[(.ref o0), (.int p1), (.long q2), (.long q3)] 6)) t := fun t k => pre0 t (by
      refine XS.aloadN X0.here hx rfl (hb hby own_d1_0) rfl rfl ?_
      show Steps p.tables e below (s₁.setTop (mkF m 1 #[.val (.ref o0), .val (.int p1), .val (.long q2), .second, .val (.long q3), .second] [(.ref o0)])) _
      refine XS.iloadN X0.here hx rfl (hb hby own_d1_1) rfl ?_
      show Steps p.tables e below (s₁.setTop (mkF m 2 #[.val (.ref o0), .val (.int p1), .val (.long q2), .second, .val (.long q3), .second] [(.int p1), (.ref o0)])) _
      refine XS.iconst X0.here hx rfl (hb hby own_d1_2) ?_
      show Steps p.tables e below (s₁.setTop (mkF m 3 #[.val (.ref o0), .val (.int p1), .val (.long q2), .second, .val (.long q3), .second] [(.int (0 : Int32)), (.int p1), (.ref o0)])) _
      refine XS.lloadN X0.here hx rfl (hb hby own_d1_3) rfl ?_
      show Steps p.tables e below (s₁.setTop (mkF m 4 #[.val (.ref o0), .val (.int p1), .val (.long q2), .second, .val (.long q3), .second] [(.long q2), (.int (0 : Int32)), (.int p1), (.ref o0)])) _
      refine XS.lload X0.here hx rfl (hb hby own_d1_4) rfl ?_
      show Steps p.tables e below (s₁.setTop (mkF m 6 #[.val (.ref o0), .val (.int p1), .val (.long q2), .second, .val (.long q3), .second] [(.long q3), (.long q2), (.int (0 : Int32)), (.int p1), (.ref o0)])) _
      refine st1 _ ?_
      show Steps p.tables e below (T1.setTop (mkF m 9 #[.val (.ref o0), .val (.int p1), .val (.long q2), .second, .val (.long q3), .second] [])) _
      refine XS.aloadN X1.here hx rfl (hb hby own_d1_9) rfl rfl ?_
      show Steps p.tables e below (T1.setTop (mkF m 10 #[.val (.ref o0), .val (.int p1), .val (.long q2), .second, .val (.long q3), .second] [(.ref o0)])) _
      refine XS.iloadN X1.here hx rfl (hb hby own_d1_10) rfl ?_
      show Steps p.tables e below (T1.setTop (mkF m 11 #[.val (.ref o0), .val (.int p1), .val (.long q2), .second, .val (.long q3), .second] [(.int p1), (.ref o0)])) _
      refine XS.iconst X1.here hx rfl (hb hby own_d1_11) ?_
      show Steps p.tables e below (T1.setTop (mkF m 12 #[.val (.ref o0), .val (.int p1), .val (.long q2), .second, .val (.long q3), .second] [(.int (1 : Int32)), (.int p1), (.ref o0)])) _
      refine XS.lloadN X1.here hx rfl (hb hby own_d1_12) rfl ?_
      show Steps p.tables e below (T1.setTop (mkF m 13 #[.val (.ref o0), .val (.int p1), .val (.long q2), .second, .val (.long q3), .second] [(.long q2), (.int (1 : Int32)), (.int p1), (.ref o0)])) _
      refine XS.lload X1.here hx rfl (hb hby own_d1_13) rfl ?_
      show Steps p.tables e below (T1.setTop (mkF m 15 #[.val (.ref o0), .val (.int p1), .val (.long q2), .second, .val (.long q3), .second] [(.long q3), (.long q2), (.int (1 : Int32)), (.int p1), (.ref o0)])) _
      refine st7 _ ?_
      show Steps p.tables e below (T7.setTop (mkF m 18 #[.val (.ref o0), .val (.int p1), .val (.long q2), .second, .val (.long q3), .second] [])) _
      refine XS.aloadN X7.here hx rfl (hb hby own_d1_18) rfl rfl ?_
      show Steps p.tables e below (T7.setTop (mkF m 19 #[.val (.ref o0), .val (.int p1), .val (.long q2), .second, .val (.long q3), .second] [(.ref o0)])) _
      refine XS.iloadN X7.here hx rfl (hb hby own_d1_19) rfl ?_
      show Steps p.tables e below (T7.setTop (mkF m 20 #[.val (.ref o0), .val (.int p1), .val (.long q2), .second, .val (.long q3), .second] [(.int p1), (.ref o0)])) _
      refine XS.iconst X7.here hx rfl (hb hby own_d1_20) ?_
      show Steps p.tables e below (T7.setTop (mkF m 21 #[.val (.ref o0), .val (.int p1), .val (.long q2), .second, .val (.long q3), .second] [(.int (2 : Int32)), (.int p1), (.ref o0)])) _
      refine XS.lloadN X7.here hx rfl (hb hby own_d1_21) rfl ?_
      show Steps p.tables e below (T7.setTop (mkF m 22 #[.val (.ref o0), .val (.int p1), .val (.long q2), .second, .val (.long q3), .second] [(.long q2), (.int (2 : Int32)), (.int p1), (.ref o0)])) _
      refine XS.lload X7.here hx rfl (hb hby own_d1_22) rfl ?_
      show Steps p.tables e below (T7.setTop (mkF m 24 #[.val (.ref o0), .val (.int p1), .val (.long q2), .second, .val (.long q3), .second] [(.long q3), (.long q2), (.int (2 : Int32)), (.int p1), (.ref o0)])) _
      refine st12 _ ?_
      show Steps p.tables e below (T12.setTop (mkF m 27 #[.val (.ref o0), .val (.int p1), .val (.long q2), .second, .val (.long q3), .second] [])) _
      refine XS.aloadN X12.here hx rfl (hb hby own_d1_27) rfl rfl ?_
      show Steps p.tables e below (T12.setTop (mkF m 28 #[.val (.ref o0), .val (.int p1), .val (.long q2), .second, .val (.long q3), .second] [(.ref o0)])) _
      refine XS.iloadN X12.here hx rfl (hb hby own_d1_28) rfl ?_
      show Steps p.tables e below (T12.setTop (mkF m 29 #[.val (.ref o0), .val (.int p1), .val (.long q2), .second, .val (.long q3), .second] [(.int p1), (.ref o0)])) _
      refine XS.iconst X12.here hx rfl (hb hby own_d1_29) ?_
      show Steps p.tables e below (T12.setTop (mkF m 30 #[.val (.ref o0), .val (.int p1), .val (.long q2), .second, .val (.long q3), .second] [(.int (3 : Int32)), (.int p1), (.ref o0)])) _
      refine XS.lloadN X12.here hx rfl (hb hby own_d1_30) rfl ?_
      show Steps p.tables e below (T12.setTop (mkF m 31 #[.val (.ref o0), .val (.int p1), .val (.long q2), .second, .val (.long q3), .second] [(.long q2), (.int (3 : Int32)), (.int p1), (.ref o0)])) _
      refine XS.lload X12.here hx rfl (hb hby own_d1_31) rfl ?_
      show Steps p.tables e below (T12.setTop (mkF m 33 #[.val (.ref o0), .val (.int p1), .val (.long q2), .second, .val (.long q3), .second] [(.long q3), (.long q2), (.int (3 : Int32)), (.int p1), (.ref o0)])) _
      refine st17 _ ?_
      show Steps p.tables e below (T17.setTop (mkF m 36 #[.val (.ref o0), .val (.int p1), .val (.long q2), .second, .val (.long q3), .second] [])) _
      refine XS.aloadN X17.here hx rfl (hb hby own_d1_36) rfl rfl ?_
      show Steps p.tables e below (T17.setTop (mkF m 37 #[.val (.ref o0), .val (.int p1), .val (.long q2), .second, .val (.long q3), .second] [(.ref o0)])) _
      refine XS.iloadN X17.here hx rfl (hb hby own_d1_37) rfl ?_
      show Steps p.tables e below (T17.setTop (mkF m 38 #[.val (.ref o0), .val (.int p1), .val (.long q2), .second, .val (.long q3), .second] [(.int p1), (.ref o0)])) _
      refine XS.iconst X17.here hx rfl (hb hby own_d1_38) ?_
      show Steps p.tables e below (T17.setTop (mkF m 39 #[.val (.ref o0), .val (.int p1), .val (.long q2), .second, .val (.long q3), .second] [(.int (4 : Int32)), (.int p1), (.ref o0)])) _
      refine XS.lloadN X17.here hx rfl (hb hby own_d1_39) rfl ?_
      show Steps p.tables e below (T17.setTop (mkF m 40 #[.val (.ref o0), .val (.int p1), .val (.long q2), .second, .val (.long q3), .second] [(.long q2), (.int (4 : Int32)), (.int p1), (.ref o0)])) _
      refine XS.lload X17.here hx rfl (hb hby own_d1_40) rfl ?_
      show Steps p.tables e below (T17.setTop (mkF m 42 #[.val (.ref o0), .val (.int p1), .val (.long q2), .second, .val (.long q3), .second] [(.long q3), (.long q2), (.int (4 : Int32)), (.int p1), (.ref o0)])) _
      refine st22 _ ?_
      show Steps p.tables e below (T22.setTop (mkF m 45 #[.val (.ref o0), .val (.int p1), .val (.long q2), .second, .val (.long q3), .second] [])) _
      refine XS.aloadN X22.here hx rfl (hb hby own_d1_45) rfl rfl ?_
      show Steps p.tables e below (T22.setTop (mkF m 46 #[.val (.ref o0), .val (.int p1), .val (.long q2), .second, .val (.long q3), .second] [(.ref o0)])) _
      refine XS.iloadN X22.here hx rfl (hb hby own_d1_46) rfl ?_
      show Steps p.tables e below (T22.setTop (mkF m 47 #[.val (.ref o0), .val (.int p1), .val (.long q2), .second, .val (.long q3), .second] [(.int p1), (.ref o0)])) _
      refine XS.iconst X22.here hx rfl (hb hby own_d1_47) ?_
      show Steps p.tables e below (T22.setTop (mkF m 48 #[.val (.ref o0), .val (.int p1), .val (.long q2), .second, .val (.long q3), .second] [(.int (5 : Int32)), (.int p1), (.ref o0)])) _
      refine XS.lloadN X22.here hx rfl (hb hby own_d1_48) rfl ?_
      show Steps p.tables e below (T22.setTop (mkF m 49 #[.val (.ref o0), .val (.int p1), .val (.long q2), .second, .val (.long q3), .second] [(.long q2), (.int (5 : Int32)), (.int p1), (.ref o0)])) _
      refine XS.lload X22.here hx rfl (hb hby own_d1_49) rfl ?_
      show Steps p.tables e below (T22.setTop (mkF m 51 #[.val (.ref o0), .val (.int p1), .val (.long q2), .second, .val (.long q3), .second] [(.long q3), (.long q2), (.int (5 : Int32)), (.int p1), (.ref o0)])) _
      refine st27 _ ?_
      show Steps p.tables e below (T27.setTop (mkF m 54 #[.val (.ref o0), .val (.int p1), .val (.long q2), .second, .val (.long q3), .second] [])) _
      refine XS.aloadN X27.here hx rfl (hb hby own_d1_54) rfl rfl ?_
      show Steps p.tables e below (T27.setTop (mkF m 55 #[.val (.ref o0), .val (.int p1), .val (.long q2), .second, .val (.long q3), .second] [(.ref o0)])) _
      refine XS.iloadN X27.here hx rfl (hb hby own_d1_55) rfl ?_
      show Steps p.tables e below (T27.setTop (mkF m 56 #[.val (.ref o0), .val (.int p1), .val (.long q2), .second, .val (.long q3), .second] [(.int p1), (.ref o0)])) _
      refine XS.bipush X27.here hx rfl (hb hby own_d1_56) ?_
      show Steps p.tables e below (T27.setTop (mkF m 58 #[.val (.ref o0), .val (.int p1), .val (.long q2), .second, .val (.long q3), .second] [(.int (6 : Int32)), (.int p1), (.ref o0)])) _
      refine XS.lloadN X27.here hx rfl (hb hby own_d1_58) rfl ?_
      show Steps p.tables e below (T27.setTop (mkF m 59 #[.val (.ref o0), .val (.int p1), .val (.long q2), .second, .val (.long q3), .second] [(.long q2), (.int (6 : Int32)), (.int p1), (.ref o0)])) _
      refine XS.lload X27.here hx rfl (hb hby own_d1_59) rfl ?_
      show Steps p.tables e below (T27.setTop (mkF m 61 #[.val (.ref o0), .val (.int p1), .val (.long q2), .second, .val (.long q3), .second] [(.long q3), (.long q2), (.int (6 : Int32)), (.int p1), (.ref o0)])) _
      refine st32 _ ?_
      show Steps p.tables e below (T32.setTop (mkF m 64 #[.val (.ref o0), .val (.int p1), .val (.long q2), .second, .val (.long q3), .second] [])) _
      refine XS.aloadN X32.here hx rfl (hb hby own_d1_64) rfl rfl ?_
      show Steps p.tables e below (T32.setTop (mkF m 65 #[.val (.ref o0), .val (.int p1), .val (.long q2), .second, .val (.long q3), .second] [(.ref o0)])) _
      refine XS.iloadN X32.here hx rfl (hb hby own_d1_65) rfl ?_
      show Steps p.tables e below (T32.setTop (mkF m 66 #[.val (.ref o0), .val (.int p1), .val (.long q2), .second, .val (.long q3), .second] [(.int p1), (.ref o0)])) _
      refine XS.bipush X32.here hx rfl (hb hby own_d1_66) ?_
      show Steps p.tables e below (T32.setTop (mkF m 68 #[.val (.ref o0), .val (.int p1), .val (.long q2), .second, .val (.long q3), .second] [(.int (7 : Int32)), (.int p1), (.ref o0)])) _
      refine XS.lloadN X32.here hx rfl (hb hby own_d1_68) rfl ?_
      show Steps p.tables e below (T32.setTop (mkF m 69 #[.val (.ref o0), .val (.int p1), .val (.long q2), .second, .val (.long q3), .second] [(.long q2), (.int (7 : Int32)), (.int p1), (.ref o0)])) _
      refine XS.lload X32.here hx rfl (hb hby own_d1_69) rfl ?_
      show Steps p.tables e below (T32.setTop (mkF m 71 #[.val (.ref o0), .val (.int p1), .val (.long q2), .second, .val (.long q3), .second] [(.long q3), (.long q2), (.int (7 : Int32)), (.int p1), (.ref o0)])) _
      refine st37 _ ?_
      show Steps p.tables e below (T37.setTop (mkF m 74 #[.val (.ref o0), .val (.int p1), .val (.long q2), .second, .val (.long q3), .second] [])) _
      refine XS.aloadN X37.here hx rfl (hb hby own_d1_74) rfl rfl ?_
      show Steps p.tables e below (T37.setTop (mkF m 75 #[.val (.ref o0), .val (.int p1), .val (.long q2), .second, .val (.long q3), .second] [(.ref o0)])) _
      refine XS.iloadN X37.here hx rfl (hb hby own_d1_75) rfl ?_
      show Steps p.tables e below (T37.setTop (mkF m 76 #[.val (.ref o0), .val (.int p1), .val (.long q2), .second, .val (.long q3), .second] [(.int p1), (.ref o0)])) _
      refine XS.bipush X37.here hx rfl (hb hby own_d1_76) ?_
      show Steps p.tables e below (T37.setTop (mkF m 78 #[.val (.ref o0), .val (.int p1), .val (.long q2), .second, .val (.long q3), .second] [(.int (8 : Int32)), (.int p1), (.ref o0)])) _
      refine XS.lloadN X37.here hx rfl (hb hby own_d1_78) rfl ?_
      show Steps p.tables e below (T37.setTop (mkF m 79 #[.val (.ref o0), .val (.int p1), .val (.long q2), .second, .val (.long q3), .second] [(.long q2), (.int (8 : Int32)), (.int p1), (.ref o0)])) _
      refine XS.lload X37.here hx rfl (hb hby own_d1_79) rfl ?_
      show Steps p.tables e below (T37.setTop (mkF m 81 #[.val (.ref o0), .val (.int p1), .val (.long q2), .second, .val (.long q3), .second] [(.long q3), (.long q2), (.int (8 : Int32)), (.int p1), (.ref o0)])) _
      refine st42 _ ?_
      show Steps p.tables e below (T42.setTop (mkF m 84 #[.val (.ref o0), .val (.int p1), .val (.long q2), .second, .val (.long q3), .second] [])) _
      refine XS.aloadN X42.here hx rfl (hb hby own_d1_84) rfl rfl ?_
      show Steps p.tables e below (T42.setTop (mkF m 85 #[.val (.ref o0), .val (.int p1), .val (.long q2), .second, .val (.long q3), .second] [(.ref o0)])) _
      refine XS.iloadN X42.here hx rfl (hb hby own_d1_85) rfl ?_
      show Steps p.tables e below (T42.setTop (mkF m 86 #[.val (.ref o0), .val (.int p1), .val (.long q2), .second, .val (.long q3), .second] [(.int p1), (.ref o0)])) _
      refine XS.bipush X42.here hx rfl (hb hby own_d1_86) ?_
      show Steps p.tables e below (T42.setTop (mkF m 88 #[.val (.ref o0), .val (.int p1), .val (.long q2), .second, .val (.long q3), .second] [(.int (9 : Int32)), (.int p1), (.ref o0)])) _
      refine XS.lloadN X42.here hx rfl (hb hby own_d1_88) rfl ?_
      show Steps p.tables e below (T42.setTop (mkF m 89 #[.val (.ref o0), .val (.int p1), .val (.long q2), .second, .val (.long q3), .second] [(.long q2), (.int (9 : Int32)), (.int p1), (.ref o0)])) _
      refine XS.lload X42.here hx rfl (hb hby own_d1_89) rfl ?_
      show Steps p.tables e below (T42.setTop (mkF m 91 #[.val (.ref o0), .val (.int p1), .val (.long q2), .second, .val (.long q3), .second] [(.long q3), (.long q2), (.int (9 : Int32)), (.int p1), (.ref o0)])) _
      refine st47 _ ?_
      show Steps p.tables e below (T47.setTop (mkF m 94 #[.val (.ref o0), .val (.int p1), .val (.long q2), .second, .val (.long q3), .second] [])) _
      refine XS.aloadN X47.here hx rfl (hb hby own_d1_94) rfl rfl ?_
      show Steps p.tables e below (T47.setTop (mkF m 95 #[.val (.ref o0), .val (.int p1), .val (.long q2), .second, .val (.long q3), .second] [(.ref o0)])) _
      refine XS.iloadN X47.here hx rfl (hb hby own_d1_95) rfl ?_
      show Steps p.tables e below (T47.setTop (mkF m 96 #[.val (.ref o0), .val (.int p1), .val (.long q2), .second, .val (.long q3), .second] [(.int p1), (.ref o0)])) _
      refine XS.bipush X47.here hx rfl (hb hby own_d1_96) ?_
      show Steps p.tables e below (T47.setTop (mkF m 98 #[.val (.ref o0), .val (.int p1), .val (.long q2), .second, .val (.long q3), .second] [(.int (10 : Int32)), (.int p1), (.ref o0)])) _
      refine XS.lloadN X47.here hx rfl (hb hby own_d1_98) rfl ?_
      show Steps p.tables e below (T47.setTop (mkF m 99 #[.val (.ref o0), .val (.int p1), .val (.long q2), .second, .val (.long q3), .second] [(.long q2), (.int (10 : Int32)), (.int p1), (.ref o0)])) _
      refine XS.lload X47.here hx rfl (hb hby own_d1_99) rfl ?_
      show Steps p.tables e below (T47.setTop (mkF m 101 #[.val (.ref o0), .val (.int p1), .val (.long q2), .second, .val (.long q3), .second] [(.long q3), (.long q2), (.int (10 : Int32)), (.int p1), (.ref o0)])) _
      refine st52 _ ?_
      show Steps p.tables e below (T52.setTop (mkF m 104 #[.val (.ref o0), .val (.int p1), .val (.long q2), .second, .val (.long q3), .second] [])) _
      refine XS.aloadN X52.here hx rfl (hb hby own_d1_104) rfl rfl ?_
      show Steps p.tables e below (T52.setTop (mkF m 105 #[.val (.ref o0), .val (.int p1), .val (.long q2), .second, .val (.long q3), .second] [(.ref o0)])) _
      refine XS.iloadN X52.here hx rfl (hb hby own_d1_105) rfl ?_
      show Steps p.tables e below (T52.setTop (mkF m 106 #[.val (.ref o0), .val (.int p1), .val (.long q2), .second, .val (.long q3), .second] [(.int p1), (.ref o0)])) _
      refine XS.bipush X52.here hx rfl (hb hby own_d1_106) ?_
      show Steps p.tables e below (T52.setTop (mkF m 108 #[.val (.ref o0), .val (.int p1), .val (.long q2), .second, .val (.long q3), .second] [(.int (11 : Int32)), (.int p1), (.ref o0)])) _
      refine XS.lloadN X52.here hx rfl (hb hby own_d1_108) rfl ?_
      show Steps p.tables e below (T52.setTop (mkF m 109 #[.val (.ref o0), .val (.int p1), .val (.long q2), .second, .val (.long q3), .second] [(.long q2), (.int (11 : Int32)), (.int p1), (.ref o0)])) _
      refine XS.lload X52.here hx rfl (hb hby own_d1_109) rfl ?_
      show Steps p.tables e below (T52.setTop (mkF m 111 #[.val (.ref o0), .val (.int p1), .val (.long q2), .second, .val (.long q3), .second] [(.long q3), (.long q2), (.int (11 : Int32)), (.int p1), (.ref o0)])) _
      refine st57 _ ?_
      show Steps p.tables e below (T57.setTop (mkF m 114 #[.val (.ref o0), .val (.int p1), .val (.long q2), .second, .val (.long q3), .second] [])) _
      refine XS.aloadN X57.here hx rfl (hb hby own_d1_114) rfl rfl ?_
      show Steps p.tables e below (T57.setTop (mkF m 115 #[.val (.ref o0), .val (.int p1), .val (.long q2), .second, .val (.long q3), .second] [(.ref o0)])) _
      refine XS.iloadN X57.here hx rfl (hb hby own_d1_115) rfl ?_
      show Steps p.tables e below (T57.setTop (mkF m 116 #[.val (.ref o0), .val (.int p1), .val (.long q2), .second, .val (.long q3), .second] [(.int p1), (.ref o0)])) _
      refine XS.bipush X57.here hx rfl (hb hby own_d1_116) ?_
      show Steps p.tables e below (T57.setTop (mkF m 118 #[.val (.ref o0), .val (.int p1), .val (.long q2), .second, .val (.long q3), .second] [(.int (12 : Int32)), (.int p1), (.ref o0)])) _
      refine XS.lloadN X57.here hx rfl (hb hby own_d1_118) rfl ?_
      show Steps p.tables e below (T57.setTop (mkF m 119 #[.val (.ref o0), .val (.int p1), .val (.long q2), .second, .val (.long q3), .second] [(.long q2), (.int (12 : Int32)), (.int p1), (.ref o0)])) _
      refine XS.lload X57.here hx rfl (hb hby own_d1_119) rfl ?_
      show Steps p.tables e below (T57.setTop (mkF m 121 #[.val (.ref o0), .val (.int p1), .val (.long q2), .second, .val (.long q3), .second] [(.long q3), (.long q2), (.int (12 : Int32)), (.int p1), (.ref o0)])) _
      refine st62 _ ?_
      show Steps p.tables e below (T62.setTop (mkF m 124 #[.val (.ref o0), .val (.int p1), .val (.long q2), .second, .val (.long q3), .second] [])) _
      refine XS.aloadN X62.here hx rfl (hb hby own_d1_124) rfl rfl ?_
      show Steps p.tables e below (T62.setTop (mkF m 125 #[.val (.ref o0), .val (.int p1), .val (.long q2), .second, .val (.long q3), .second] [(.ref o0)])) _
      refine XS.iloadN X62.here hx rfl (hb hby own_d1_125) rfl ?_
      show Steps p.tables e below (T62.setTop (mkF m 126 #[.val (.ref o0), .val (.int p1), .val (.long q2), .second, .val (.long q3), .second] [(.int p1), (.ref o0)])) _
      refine XS.bipush X62.here hx rfl (hb hby own_d1_126) ?_
      show Steps p.tables e below (T62.setTop (mkF m 128 #[.val (.ref o0), .val (.int p1), .val (.long q2), .second, .val (.long q3), .second] [(.int (13 : Int32)), (.int p1), (.ref o0)])) _
      refine XS.lloadN X62.here hx rfl (hb hby own_d1_128) rfl ?_
      show Steps p.tables e below (T62.setTop (mkF m 129 #[.val (.ref o0), .val (.int p1), .val (.long q2), .second, .val (.long q3), .second] [(.long q2), (.int (13 : Int32)), (.int p1), (.ref o0)])) _
      refine XS.lload X62.here hx rfl (hb hby own_d1_129) rfl ?_
      show Steps p.tables e below (T62.setTop (mkF m 131 #[.val (.ref o0), .val (.int p1), .val (.long q2), .second, .val (.long q3), .second] [(.long q3), (.long q2), (.int (13 : Int32)), (.int p1), (.ref o0)])) _
      refine st67 _ ?_
      show Steps p.tables e below (T67.setTop (mkF m 134 #[.val (.ref o0), .val (.int p1), .val (.long q2), .second, .val (.long q3), .second] [])) _
      refine XS.aloadN X67.here hx rfl (hb hby own_d1_134) rfl rfl ?_
      show Steps p.tables e below (T67.setTop (mkF m 135 #[.val (.ref o0), .val (.int p1), .val (.long q2), .second, .val (.long q3), .second] [(.ref o0)])) _
      refine XS.iloadN X67.here hx rfl (hb hby own_d1_135) rfl ?_
      show Steps p.tables e below (T67.setTop (mkF m 136 #[.val (.ref o0), .val (.int p1), .val (.long q2), .second, .val (.long q3), .second] [(.int p1), (.ref o0)])) _
      refine XS.bipush X67.here hx rfl (hb hby own_d1_136) ?_
      show Steps p.tables e below (T67.setTop (mkF m 138 #[.val (.ref o0), .val (.int p1), .val (.long q2), .second, .val (.long q3), .second] [(.int (14 : Int32)), (.int p1), (.ref o0)])) _
      refine XS.lloadN X67.here hx rfl (hb hby own_d1_138) rfl ?_
      show Steps p.tables e below (T67.setTop (mkF m 139 #[.val (.ref o0), .val (.int p1), .val (.long q2), .second, .val (.long q3), .second] [(.long q2), (.int (14 : Int32)), (.int p1), (.ref o0)])) _
      refine XS.lload X67.here hx rfl (hb hby own_d1_139) rfl ?_
      show Steps p.tables e below (T67.setTop (mkF m 141 #[.val (.ref o0), .val (.int p1), .val (.long q2), .second, .val (.long q3), .second] [(.long q3), (.long q2), (.int (14 : Int32)), (.int p1), (.ref o0)])) _
      refine st72 _ ?_
      show Steps p.tables e below (T72.setTop (mkF m 144 #[.val (.ref o0), .val (.int p1), .val (.long q2), .second, .val (.long q3), .second] [])) _
      exact k)
  obtain ⟨fs, hr, hrun, hended, hW, hsame⟩ := X72.leave (v := none) (fun _ => rfl) (hlocks := hlk)
  refine ⟨_, _, pre77 _ ?_, hrun, hended, _, _, rfl, ?_, ⟨_, rfl⟩, hW, hsame.mono (by decide) (by decide)⟩
  · show Steps p.tables e below (T72.setTop (mkF m 144 #[.val (.ref o0), .val (.int p1), .val (.long q2), .second, .val (.long q3), .second] [])) _
    exact X72.returnOut hx Bd.returns (hb hby own_d1_144) hr
  · show own_Q1 Z o0 p1 q2 q3 k_o0 n_o0 vs_o0 h0 n0 _ T72.heap _; exact ⟨rfl, N76, K75, f73⟩
theorem own_d3_0 : decode prog_28_method_1_code 0 = .ok (.aload_n 0, 1) := by decide +kernel
theorem own_d3_1 : decode prog_28_method_1_code 1 = .ok (.invokespecial 1, 3) := by decide +kernel
theorem own_d3_4 : decode prog_28_method_1_code 4 = .ok (.return_, 1) := by decide +kernel
theorem own_pn3 : plainName "com/example/meaning_into_numbers/meaningintonumbers/VersionParts" = true := by first | (simp [plainName, overriddenIn]; done) | decide +kernel
theorem own_ef3 (m : MethodId) (x0 : Addr) : entryFrame m #[(.ref x0)] 1 = (mkF m 0 #[.val (.ref x0)] []) := by first | (simp [entryFrame, mkF, argsToLocals, Value.category]; done) | rfl
def own_Q3 (Z : State) (o0 : Addr) (h0 : Heap) (n0 : Nat) (v : Option Value) (h : Heap) (L : List Loc) : Prop := v = none ∧ Fr n0 L ∧ h = h0
set_option maxRecDepth 65536 in
set_option maxHeartbeats 40000000 in
theorem own_rm3 (l : Launch) (Z : State) (a0 : Array Value) (hw : ∀ d ∈ tables_1, d.before a0 Z = true) (ws : List Jvm.Cond) (o0 : Addr) (h0 : Heap) (n0 : Nat) (Z0 : n0 ≤ h0.size) :
    MetFree l (⟨"com/example/meaning_into_numbers/meaningintonumbers/VersionParts", "<init>", "()V"⟩ : MethodName) (head1 (Jvm.Cond.code (⟨"com/example/meaning_into_numbers/meaningintonumbers/VersionParts", "<init>", "()V"⟩ : MethodName) prog_28_method_1_code 1 none :: ws) ({ frames := 1, cells := 0, slots := 0, locals := 12 } : Room)) (fun a U => a = #[(.ref o0)] ∧ Z.Warmed39 U.vm ∧ U.heap = h0) (fun _ _ _ _ _ => True) (fun _ U o U' => ∃ v L, o = .returned v ∧ own_Q3 Z o0 h0 n0 v U'.heap L ∧ FrameEnd U o U' L ({ frames := 1, cells := 0, slots := 0, locals := 12 } : Room).cells ({ frames := 1, cells := 0, slots := 0, locals := 12 } : Room).slots) := by
  refine MetFree.of_bodySF (plainFor_of_name own_pn3) hisR ?_
  intro p e s m args below meth c s₁ Bd hml0 hP hK
  obtain ⟨rfl, hZ, hh⟩ := hP
  have hx := Bd.exec
  have hlk : meth.locks = false := BodyLoose.notSynchronized Bd
  have hby := Bd.bytes
  have hml : c.maxLocals = 1 := hml0
  have hown : s.vm.findClass "com/example/meaning_into_numbers/meaningintonumbers/VersionParts" = some m.cls := findClass_of_methodNamed Bd.named
  have hnm := (name_of_methodNamed Bd.named Bd.method).1
  have X0 : Stand p l e ({ frames := 1, cells := 0, slots := 0, locals := 12 } : Room) s m #[(.ref o0)] below meth c s₁ [] 0 0 := Stand.of_body Bd
  have e0 : s₁.heap = h0 := by rw [← hh, Bd.state]; rfl
  have N0 := Fr.nil n0
  have pre0 : ∀ t, Steps p.tables e below (s₁.setTop (mkF m 0 #[.val (.ref o0)] [])) t → Steps p.tables e below (s₁.setTop (entryFrame m #[(.ref o0)] 1)) t := fun t k => castTop (own_ef3 m o0) k
  obtain ⟨T1, X1, e1, st1⟩ := initO X0 hx hZ hown (hw _ (List.mem_of_getElem? (i := 14) rfl)) (hw _ (List.mem_of_getElem? (i := 15) rfl)) (hw _ (List.mem_of_getElem? (i := 16) rfl)) e0 (g := (mkF m 1 #[.val (.ref o0)] [(.ref o0)])) rfl (by rw [hml]; rfl) rfl (hb hby own_d3_1) (by decide) (W := 0) (by show 2 * 0 + _ ≤ _; exact Nat.le_of_eq rfl) (by decide)
  have pre2 : ∀ t, Steps p.tables e below (T1.setTop (mkF m 4 #[.val (.ref o0)] [])) t → Steps p.tables e below (s₁.setTop (entryFrame m #[(.ref o0)] 1)) t := fun t k => pre0 t (by
      refine XS.aloadN X0.here hx rfl (hb hby own_d3_0) rfl rfl ?_
      show Steps p.tables e below (s₁.setTop (mkF m 1 #[.val (.ref o0)] [(.ref o0)])) _
      refine st1 _ ?_
      show Steps p.tables e below (T1.setTop (mkF m 4 #[.val (.ref o0)] [])) _
      exact k)
  obtain ⟨fs, hr, hrun, hended, hW, hsame⟩ := X1.leave (v := none) (fun _ => rfl) (hlocks := hlk)
  refine ⟨_, _, pre2 _ ?_, hrun, hended, _, _, rfl, ?_, ⟨_, rfl⟩, hW, hsame.mono (by decide) (by decide)⟩
  · show Steps p.tables e below (T1.setTop (mkF m 4 #[.val (.ref o0)] [])) _
    exact X1.returnOut hx Bd.returns (hb hby own_d3_4) hr
  · show own_Q3 Z o0 h0 n0 _ T1.heap _; rw [e1]; exact ⟨rfl, N0, rfl⟩
theorem own_d5_0 : decode prog_19_method_1_code 0 = .ok (.aload_n 0, 1) := by decide +kernel
theorem own_d5_1 : decode prog_19_method_1_code 1 = .ok (.invokespecial 1, 3) := by decide +kernel
theorem own_d5_4 : decode prog_19_method_1_code 4 = .ok (.aload_n 0, 1) := by decide +kernel
theorem own_d5_5 : decode prog_19_method_1_code 5 = .ok (.aload_n 1, 1) := by decide +kernel
theorem own_d5_6 : decode prog_19_method_1_code 6 = .ok (.putfield 7, 3) := by decide +kernel
theorem own_d5_9 : decode prog_19_method_1_code 9 = .ok (.aload_n 0, 1) := by decide +kernel
theorem own_d5_10 : decode prog_19_method_1_code 10 = .ok (.aload_n 2, 1) := by decide +kernel
theorem own_d5_11 : decode prog_19_method_1_code 11 = .ok (.putfield 13, 3) := by decide +kernel
theorem own_d5_14 : decode prog_19_method_1_code 14 = .ok (.return_, 1) := by decide +kernel
theorem own_pn5 : plainName "com/example/meaning_into_numbers/meaningintonumbers/Version" = true := by first | (simp [plainName, overriddenIn]; done) | decide +kernel
theorem own_ef5 (m : MethodId) (x0 : Addr) (x1 : Addr) (x2 : Addr) : entryFrame m #[(.ref x0), (.ref x1), (.ref x2)] 3 = (mkF m 0 #[.val (.ref x0), .val (.ref x1), .val (.ref x2)] []) := by first | (simp [entryFrame, mkF, argsToLocals, Value.category]; done) | rfl
def own_Q5 (Z : State) (o0 : Addr) (o1 : Addr) (o2 : Addr) (u_parts_o0 : Value) (u_bytes_o0 : Value) (h0 : Heap) (n0 : Nat) (v : Option Value) (h : Heap) (L : List Loc) : Prop := v = none ∧ Fr n0 L ∧ Keep h0 h [o0] ∧ Fld Z h o0 "com/example/meaning_into_numbers/meaningintonumbers/Version" "parts" "Lcom/example/meaning_into_numbers/meaningintonumbers/VersionParts;" (.ref o2) ∧ Exa Z h o0 "com/example/meaning_into_numbers/meaningintonumbers/Version" ∧ Fld Z h o0 "com/example/meaning_into_numbers/meaningintonumbers/Version" "bytes" "[B" (.ref o1)
set_option maxRecDepth 65536 in
set_option maxHeartbeats 40000000 in
theorem own_rm5 (l : Launch) (Z : State) (a0 : Array Value) (hw : ∀ d ∈ tables_1, d.before a0 Z = true) (ws : List Jvm.Cond) (o0 : Addr) (o1 : Addr) (o2 : Addr) (u_parts_o0 : Value) (u_bytes_o0 : Value) (h0 : Heap) (n0 : Nat) (Z0 : n0 ≤ h0.size) (P_F_o0_parts : Fld Z h0 o0 "com/example/meaning_into_numbers/meaningintonumbers/Version" "parts" "Lcom/example/meaning_into_numbers/meaningintonumbers/VersionParts;" u_parts_o0) (P_E_o0 : Exa Z h0 o0 "com/example/meaning_into_numbers/meaningintonumbers/Version") (P_F_o0_bytes : Fld Z h0 o0 "com/example/meaning_into_numbers/meaningintonumbers/Version" "bytes" "[B" u_bytes_o0) (G_o0 : n0 ≤ o0) :
    MetFree l (⟨"com/example/meaning_into_numbers/meaningintonumbers/Version", "<init>", "([BLcom/example/meaning_into_numbers/meaningintonumbers/VersionParts;)V"⟩ : MethodName) (head1 (Jvm.Cond.code (⟨"com/example/meaning_into_numbers/meaningintonumbers/Version", "<init>", "([BLcom/example/meaning_into_numbers/meaningintonumbers/VersionParts;)V"⟩ : MethodName) prog_19_method_1_code 3 none :: ws) ({ frames := 1, cells := 0, slots := 0, locals := 12 } : Room)) (fun a U => a = #[(.ref o0), (.ref o1), (.ref o2)] ∧ Z.Warmed39 U.vm ∧ U.heap = h0) (fun _ _ _ _ _ => True) (fun _ U o U' => ∃ v L, o = .returned v ∧ own_Q5 Z o0 o1 o2 u_parts_o0 u_bytes_o0 h0 n0 v U'.heap L ∧ FrameEnd U o U' L ({ frames := 1, cells := 0, slots := 0, locals := 12 } : Room).cells ({ frames := 1, cells := 0, slots := 0, locals := 12 } : Room).slots) := by
  refine MetFree.of_bodySF (plainFor_of_name own_pn5) hisR ?_
  intro p e s m args below meth c s₁ Bd hml0 hP hK
  obtain ⟨rfl, hZ, hh⟩ := hP
  have hx := Bd.exec
  have hlk : meth.locks = false := BodyLoose.notSynchronized Bd
  have hby := Bd.bytes
  have hml : c.maxLocals = 3 := hml0
  have hown : s.vm.findClass "com/example/meaning_into_numbers/meaningintonumbers/Version" = some m.cls := findClass_of_methodNamed Bd.named
  have hnm := (name_of_methodNamed Bd.named Bd.method).1
  have X0 : Stand p l e ({ frames := 1, cells := 0, slots := 0, locals := 12 } : Room) s m #[(.ref o0), (.ref o1), (.ref o2)] below meth c s₁ [] 0 0 := Stand.of_body Bd
  have e0 : s₁.heap = h0 := by rw [← hh, Bd.state]; rfl
  have N0 := Fr.nil n0
  have pre0 : ∀ t, Steps p.tables e below (s₁.setTop (mkF m 0 #[.val (.ref o0), .val (.ref o1), .val (.ref o2)] [])) t → Steps p.tables e below (s₁.setTop (entryFrame m #[(.ref o0), (.ref o1), (.ref o2)] 3)) t := fun t k => castTop (own_ef5 m o0 o1 o2) k
  obtain ⟨T1, X1, e1, st1⟩ := initO X0 hx hZ hown (hw _ (List.mem_of_getElem? (i := 23) rfl)) (hw _ (List.mem_of_getElem? (i := 15) rfl)) (hw _ (List.mem_of_getElem? (i := 16) rfl)) e0 (g := (mkF m 1 #[.val (.ref o0), .val (.ref o1), .val (.ref o2)] [(.ref o0)])) rfl (by rw [hml]; rfl) rfl (hb hby own_d5_1) (by decide) (W := 0) (by show 2 * 0 + _ ≤ _; exact Nat.le_of_eq rfl) (by decide)
  obtain ⟨T2, h2, X2, e2, W2, st2⟩ := putF X1 hx hZ hown (host := "") (Or.inl (hw _ (List.mem_of_getElem? (i := 24) rfl))) Via.refl e1 P_F_o0_bytes P_E_o0 (Or.inr ⟨(hw _ (List.mem_of_getElem? (i := 25) rfl)), rfl, hnm⟩) (hw _ (List.mem_of_getElem? (i := 18) rfl)) (ty := (.array .byte)) (by decide) rfl rfl (g := (mkF m 6 #[.val (.ref o0), .val (.ref o1), .val (.ref o2)] [(.ref o1), (.ref o0)])) rfl rfl (hb hby own_d5_6)
  have f3 : Fld Z h2 o0 "com/example/meaning_into_numbers/meaningintonumbers/Version" "parts" "Lcom/example/meaning_into_numbers/meaningintonumbers/VersionParts;" u_parts_o0 := P_F_o0_parts.other W2 (Or.inr (slot_ne (Or.inr (hw _ (List.mem_of_getElem? (i := 27) rfl))) (Or.inr (hw _ (List.mem_of_getElem? (i := 25) rfl))) (by decide) (t := (.object "com/example/meaning_into_numbers/meaningintonumbers/VersionParts")) (t' := (.array .byte)) (by decide) (by decide)))
  have f4 : Exa Z h2 o0 "com/example/meaning_into_numbers/meaningintonumbers/Version" := P_E_o0.wr W2
  have f5 : Fld Z h2 o0 "com/example/meaning_into_numbers/meaningintonumbers/Version" "bytes" "[B" (.ref o1) := P_F_o0_bytes.same W2
  have zs6 : n0 ≤ h2.size := Nat.le_trans Z0 (Keep.of_wr W2).1
  have N7 := Fr.snoc X2 N0 G_o0
  have K8 : Keep h0 h0 [o0] := Keep.refl h0 [o0]
  have K9 : Keep h0 h2 [o0] := K8.wr W2 (Or.inl (by simp))
  obtain ⟨T10, h10, X10, e10, W10, st10⟩ := putF X2 hx hZ hown (host := "") (Or.inl (hw _ (List.mem_of_getElem? (i := 26) rfl))) Via.refl e2 f3 f4 (Or.inr ⟨(hw _ (List.mem_of_getElem? (i := 27) rfl)), rfl, hnm⟩) (hw _ (List.mem_of_getElem? (i := 18) rfl)) (ty := (.object "com/example/meaning_into_numbers/meaningintonumbers/VersionParts")) (by decide) rfl rfl (g := (mkF m 11 #[.val (.ref o0), .val (.ref o1), .val (.ref o2)] [(.ref o2), (.ref o0)])) rfl rfl (hb hby own_d5_11)
  have f11 : Fld Z h10 o0 "com/example/meaning_into_numbers/meaningintonumbers/Version" "parts" "Lcom/example/meaning_into_numbers/meaningintonumbers/VersionParts;" (.ref o2) := f3.same W10
  have f12 : Exa Z h10 o0 "com/example/meaning_into_numbers/meaningintonumbers/Version" := f4.wr W10
  have f13 : Fld Z h10 o0 "com/example/meaning_into_numbers/meaningintonumbers/Version" "bytes" "[B" (.ref o1) := f5.other W10 (Or.inr (slot_ne (Or.inr (hw _ (List.mem_of_getElem? (i := 25) rfl))) (Or.inr (hw _ (List.mem_of_getElem? (i := 27) rfl))) (by decide) (t := (.array .byte)) (t' := (.object "com/example/meaning_into_numbers/meaningintonumbers/VersionParts")) (by decide) (by decide)))
  have zs14 : n0 ≤ h10.size := Nat.le_trans zs6 (Keep.of_wr W10).1
  have N15 := Fr.snoc X10 N7 G_o0
  have K16 : Keep h0 h10 [o0] := K9.wr W10 (Or.inl (by simp))
  have pre17 : ∀ t, Steps p.tables e below (T10.setTop (mkF m 14 #[.val (.ref o0), .val (.ref o1), .val (.ref o2)] [])) t → Steps p.tables e below (s₁.setTop (entryFrame m #[(.ref o0), (.ref o1), (.ref o2)] 3)) t := fun t k => pre0 t (by
      refine XS.aloadN X0.here hx rfl (hb hby own_d5_0) rfl rfl ?_
      show Steps p.tables e below (s₁.setTop (mkF m 1 #[.val (.ref o0), .val (.ref o1), .val (.ref o2)] [(.ref o0)])) _
      refine st1 _ ?_
      show Steps p.tables e below (T1.setTop (mkF m 4 #[.val (.ref o0), .val (.ref o1), .val (.ref o2)] [])) _
      refine XS.aloadN X1.here hx rfl (hb hby own_d5_4) rfl rfl ?_
      show Steps p.tables e below (T1.setTop (mkF m 5 #[.val (.ref o0), .val (.ref o1), .val (.ref o2)] [(.ref o0)])) _
      refine XS.aloadN X1.here hx rfl (hb hby own_d5_5) rfl rfl ?_
      show Steps p.tables e below (T1.setTop (mkF m 6 #[.val (.ref o0), .val (.ref o1), .val (.ref o2)] [(.ref o1), (.ref o0)])) _
      refine st2 _ ?_
      show Steps p.tables e below (T2.setTop (mkF m 9 #[.val (.ref o0), .val (.ref o1), .val (.ref o2)] [])) _
      refine XS.aloadN X2.here hx rfl (hb hby own_d5_9) rfl rfl ?_
      show Steps p.tables e below (T2.setTop (mkF m 10 #[.val (.ref o0), .val (.ref o1), .val (.ref o2)] [(.ref o0)])) _
      refine XS.aloadN X2.here hx rfl (hb hby own_d5_10) rfl rfl ?_
      show Steps p.tables e below (T2.setTop (mkF m 11 #[.val (.ref o0), .val (.ref o1), .val (.ref o2)] [(.ref o2), (.ref o0)])) _
      refine st10 _ ?_
      show Steps p.tables e below (T10.setTop (mkF m 14 #[.val (.ref o0), .val (.ref o1), .val (.ref o2)] [])) _
      exact k)
  obtain ⟨fs, hr, hrun, hended, hW, hsame⟩ := X10.leave (v := none) (fun _ => rfl) (hlocks := hlk)
  refine ⟨_, _, pre17 _ ?_, hrun, hended, _, _, rfl, ?_, ⟨_, rfl⟩, hW, hsame.mono (by decide) (by decide)⟩
  · show Steps p.tables e below (T10.setTop (mkF m 14 #[.val (.ref o0), .val (.ref o1), .val (.ref o2)] [])) _
    exact X10.returnOut hx Bd.returns (hb hby own_d5_14) hr
  · show own_Q5 Z o0 o1 o2 u_parts_o0 u_bytes_o0 h0 n0 _ T10.heap _; rw [e10]; exact ⟨rfl, N15, K16, f11, f12, f13⟩
theorem own_d6_0 : decode prog_19_method_23_code 0 = .ok (.iconst 0, 1) := by decide +kernel
theorem own_d6_1 : decode prog_19_method_23_code 1 = .ok (.istore_n 1, 1) := by decide +kernel
theorem own_d6_2 : decode prog_19_method_23_code 2 = .ok (.aload_n 0, 1) := by decide +kernel
theorem own_d6_3 : decode prog_19_method_23_code 3 = .ok (.getfield 7, 3) := by decide +kernel
theorem own_d6_6 : decode prog_19_method_23_code 6 = .ok (.astore_n 2, 1) := by decide +kernel
theorem own_d6_7 : decode prog_19_method_23_code 7 = .ok (.aload_n 2, 1) := by decide +kernel
theorem own_d6_8 : decode prog_19_method_23_code 8 = .ok (.arraylength, 1) := by decide +kernel
theorem own_d6_9 : decode prog_19_method_23_code 9 = .ok (.istore_n 3, 1) := by decide +kernel
theorem own_d6_10 : decode prog_19_method_23_code 10 = .ok (.iconst 0, 1) := by decide +kernel
theorem own_d6_11 : decode prog_19_method_23_code 11 = .ok (.istore 4, 2) := by decide +kernel
theorem own_d6_13 : decode prog_19_method_23_code 13 = .ok (.iload 4, 2) := by decide +kernel
theorem own_d6_15 : decode prog_19_method_23_code 15 = .ok (.iload_n 3, 1) := by decide +kernel
theorem own_d6_16 : decode prog_19_method_23_code 16 = .ok (.if_icmp .ge 23, 3) := by decide +kernel
theorem own_d6_19 : decode prog_19_method_23_code 19 = .ok (.aload_n 2, 1) := by decide +kernel
theorem own_d6_20 : decode prog_19_method_23_code 20 = .ok (.iload 4, 2) := by decide +kernel
theorem own_d6_22 : decode prog_19_method_23_code 22 = .ok (.baload, 1) := by decide +kernel
theorem own_d6_23 : decode prog_19_method_23_code 23 = .ok (.istore 5, 2) := by decide +kernel
theorem own_d6_25 : decode prog_19_method_23_code 25 = .ok (.bipush 31, 2) := by decide +kernel
theorem own_d6_27 : decode prog_19_method_23_code 27 = .ok (.iload_n 1, 1) := by decide +kernel
theorem own_d6_28 : decode prog_19_method_23_code 28 = .ok (.imul, 1) := by decide +kernel
theorem own_d6_29 : decode prog_19_method_23_code 29 = .ok (.iload 5, 2) := by decide +kernel
theorem own_d6_31 : decode prog_19_method_23_code 31 = .ok (.iadd, 1) := by decide +kernel
theorem own_d6_32 : decode prog_19_method_23_code 32 = .ok (.istore_n 1, 1) := by decide +kernel
theorem own_d6_33 : decode prog_19_method_23_code 33 = .ok (.iinc 4 1, 3) := by decide +kernel
theorem own_d6_36 : decode prog_19_method_23_code 36 = .ok (.goto (-23), 3) := by decide +kernel
theorem own_d6_39 : decode prog_19_method_23_code 39 = .ok (.iload_n 1, 1) := by decide +kernel
theorem own_d6_40 : decode prog_19_method_23_code 40 = .ok (.ireturn, 1) := by decide +kernel
theorem own_pn6 : plainName "com/example/meaning_into_numbers/meaningintonumbers/Version" = true := by first | (simp [plainName, overriddenIn]; done) | decide +kernel
theorem own_ef6 (m : MethodId) (x0 : Addr) : entryFrame m #[(.ref x0)] 6 = (mkF m 0 #[.val (.ref x0), .unset, .unset, .unset, .unset, .unset] []) := by first | (simp [entryFrame, mkF, argsToLocals, Value.category]; done) | rfl
def own_f6 (n_w_bytes_o0 : Int32) (vs_w_bytes_o0 : List Value) : Int32 := (own_hs vs_w_bytes_o0 (n_w_bytes_o0).toNatClampNeg)
def own_Q6 (Z : State) (o0 : Addr) (w_bytes_o0 : Addr) (k_w_bytes_o0 : ClassId) (n_w_bytes_o0 : Int32) (vs_w_bytes_o0 : List Value) (h0 : Heap) (n0 : Nat) (v : Option Value) (h : Heap) (L : List Loc) : Prop := v = some (.int (own_f6 n_w_bytes_o0 vs_w_bytes_o0)) ∧ Fr n0 L ∧ h = h0
set_option maxRecDepth 65536 in
set_option maxHeartbeats 40000000 in
theorem own_rm6 (l : Launch) (Z : State) (a0 : Array Value) (hw : ∀ d ∈ tables_1, d.before a0 Z = true) (ws : List Jvm.Cond) (o0 : Addr) (w_bytes_o0 : Addr) (k_w_bytes_o0 : ClassId) (n_w_bytes_o0 : Int32) (vs_w_bytes_o0 : List Value) (h0 : Heap) (n0 : Nat) (Z0 : n0 ≤ h0.size) (P_F_o0_bytes : Fld Z h0 o0 "com/example/meaning_into_numbers/meaningintonumbers/Version" "bytes" "[B" (.ref w_bytes_o0)) (P_V_w_bytes_o0 : Arv Z h0 w_bytes_o0 k_w_bytes_o0 .byte n_w_bytes_o0 vs_w_bytes_o0 (.int (0 : Int32))) :
    MetFree l (⟨"com/example/meaning_into_numbers/meaningintonumbers/Version", "hashCode", "()I"⟩ : MethodName) (head1 (Jvm.Cond.code (⟨"com/example/meaning_into_numbers/meaningintonumbers/Version", "hashCode", "()I"⟩ : MethodName) prog_19_method_23_code 6 (some .int) :: ws) ({ frames := 0, cells := 0, slots := 0, locals := 0 } : Room)) (fun a U => a = #[(.ref o0)] ∧ Z.Warmed39 U.vm ∧ U.heap = h0) (fun _ _ _ _ _ => True) (fun _ U o U' => ∃ v L, o = .returned v ∧ own_Q6 Z o0 w_bytes_o0 k_w_bytes_o0 n_w_bytes_o0 vs_w_bytes_o0 h0 n0 v U'.heap L ∧ FrameEnd U o U' L ({ frames := 0, cells := 0, slots := 0, locals := 0 } : Room).cells ({ frames := 0, cells := 0, slots := 0, locals := 0 } : Room).slots) := by
  refine MetFree.of_bodySF (plainFor_of_name own_pn6) hisR ?_
  intro p e s m args below meth c s₁ Bd hml0 hP hK
  obtain ⟨rfl, hZ, hh⟩ := hP
  have hx := Bd.exec
  have hlk : meth.locks = false := BodyLoose.notSynchronized Bd
  have hby := Bd.bytes
  have hml : c.maxLocals = 6 := hml0
  have hown : s.vm.findClass "com/example/meaning_into_numbers/meaningintonumbers/Version" = some m.cls := findClass_of_methodNamed Bd.named
  have hnm := (name_of_methodNamed Bd.named Bd.method).1
  have X0 : Stand p l e ({ frames := 0, cells := 0, slots := 0, locals := 0 } : Room) s m #[(.ref o0)] below meth c s₁ [] 0 0 := Stand.of_body Bd
  have e0 : s₁.heap = h0 := by rw [← hh, Bd.state]; rfl
  have N0 := Fr.nil n0
  have pre0 : ∀ t, Steps p.tables e below (s₁.setTop (mkF m 0 #[.val (.ref o0), .unset, .unset, .unset, .unset, .unset] [])) t → Steps p.tables e below (s₁.setTop (entryFrame m #[(.ref o0)] 6)) t := fun t k => castTop (own_ef6 m o0) k
  obtain ⟨T1, X1, e1, st1⟩ := getF X0 hx hZ hown (host := "") (Or.inl (hw _ (List.mem_of_getElem? (i := 24) rfl))) Via.refl e0 P_F_o0_bytes (g := (mkF m 3 #[.val (.ref o0), .val (.int (0 : Int32)), .unset, .unset, .unset, .unset] [(.ref o0)])) rfl rfl (hb hby own_d6_3)
  obtain ⟨cl2, Ar2, q2, S2, N_2, Ha2, G2⟩ := id P_V_w_bytes_o0
  have pre3 : ∀ t, Steps p.tables e below (T1.setTop (mkF m 13 #[.val (.ref o0), .val (.int (0 : Int32)), .val (.ref w_bytes_o0), .val (.int n_w_bytes_o0), .val (.int (0 : Int32)), .unset] [])) t → Steps p.tables e below (s₁.setTop (entryFrame m #[(.ref o0)] 6)) t := fun t k => pre0 t (by
      refine XS.iconst X0.here hx rfl (hb hby own_d6_0) ?_
      show Steps p.tables e below (s₁.setTop (mkF m 1 #[.val (.ref o0), .unset, .unset, .unset, .unset, .unset] [(.int (0 : Int32))])) _
      refine XS.istoreN X0.here hx rfl (hb hby own_d6_1) rfl (l' := #[.val (.ref o0), .val (.int (0 : Int32)), .unset, .unset, .unset, .unset]) rfl ?_
      show Steps p.tables e below (s₁.setTop (mkF m 2 #[.val (.ref o0), .val (.int (0 : Int32)), .unset, .unset, .unset, .unset] [])) _
      refine XS.aloadN X0.here hx rfl (hb hby own_d6_2) rfl rfl ?_
      show Steps p.tables e below (s₁.setTop (mkF m 3 #[.val (.ref o0), .val (.int (0 : Int32)), .unset, .unset, .unset, .unset] [(.ref o0)])) _
      refine st1 _ ?_
      show Steps p.tables e below (T1.setTop (mkF m 6 #[.val (.ref o0), .val (.int (0 : Int32)), .unset, .unset, .unset, .unset] [(.ref w_bytes_o0)])) _
      refine XS.astoreN X1.here hx rfl (hb hby own_d6_6) rfl rfl (l' := #[.val (.ref o0), .val (.int (0 : Int32)), .val (.ref w_bytes_o0), .unset, .unset, .unset]) rfl ?_
      show Steps p.tables e below (T1.setTop (mkF m 7 #[.val (.ref o0), .val (.int (0 : Int32)), .val (.ref w_bytes_o0), .unset, .unset, .unset] [])) _
      refine XS.aloadN X1.here hx rfl (hb hby own_d6_7) rfl rfl ?_
      show Steps p.tables e below (T1.setTop (mkF m 8 #[.val (.ref o0), .val (.int (0 : Int32)), .val (.ref w_bytes_o0), .unset, .unset, .unset] [(.ref w_bytes_o0)])) _
      refine X1.arraylength hx (by rw [e1]; exact Ar2.1) (State.isArrayOf_alike hZ.alike Ar2.2.1) (g := (mkF m 8 #[.val (.ref o0), .val (.int (0 : Int32)), .val (.ref w_bytes_o0), .unset, .unset, .unset] [(.ref w_bytes_o0)])) rfl rfl (hb hby own_d6_8) _ ?_
      rw [len_of S2 N_2]
      show Steps p.tables e below (T1.setTop (mkF m 9 #[.val (.ref o0), .val (.int (0 : Int32)), .val (.ref w_bytes_o0), .unset, .unset, .unset] [(.int n_w_bytes_o0)])) _
      refine XS.istoreN X1.here hx rfl (hb hby own_d6_9) rfl (l' := #[.val (.ref o0), .val (.int (0 : Int32)), .val (.ref w_bytes_o0), .val (.int n_w_bytes_o0), .unset, .unset]) rfl ?_
      show Steps p.tables e below (T1.setTop (mkF m 10 #[.val (.ref o0), .val (.int (0 : Int32)), .val (.ref w_bytes_o0), .val (.int n_w_bytes_o0), .unset, .unset] [])) _
      refine XS.iconst X1.here hx rfl (hb hby own_d6_10) ?_
      show Steps p.tables e below (T1.setTop (mkF m 11 #[.val (.ref o0), .val (.int (0 : Int32)), .val (.ref w_bytes_o0), .val (.int n_w_bytes_o0), .unset, .unset] [(.int (0 : Int32))])) _
      refine XS.istore X1.here hx rfl (hb hby own_d6_11) rfl (l' := #[.val (.ref o0), .val (.int (0 : Int32)), .val (.ref w_bytes_o0), .val (.int n_w_bytes_o0), .val (.int (0 : Int32)), .unset]) rfl ?_
      show Steps p.tables e below (T1.setTop (mkF m 13 #[.val (.ref o0), .val (.int (0 : Int32)), .val (.ref w_bytes_o0), .val (.int n_w_bytes_o0), .val (.int (0 : Int32)), .unset] [])) _
      exact k)
  obtain ⟨clL, ArL, qL, SL, NL, HaL, GL⟩ := id P_V_w_bytes_o0
  have hb31 := (back32 NL).2
  have hnI : (n_w_bytes_o0).toInt = ((n_w_bytes_o0).toNatClampNeg : Int) := by have := len_toInt (back32 NL).2; rwa [(back32 NL).1] at this
  have loopL : ∀ (k i : Nat) (hh : Int32) (sl : Slot), (sl = .unset ∨ ∃ w : Int32, sl = .val (.int w)) → i + k = (n_w_bytes_o0).toNatClampNeg → hh = own_hs vs_w_bytes_o0 i → ∀ t, (∀ sl' : Slot, Steps p.tables e below (T1.setTop (mkF m 39 #[.val (.ref o0), .val (.int (own_hs vs_w_bytes_o0 (n_w_bytes_o0).toNatClampNeg)), .val (.ref w_bytes_o0), .val (.int n_w_bytes_o0), .val (.int n_w_bytes_o0), sl'] [])) t) → Steps p.tables e below (T1.setTop (mkF m 13 #[.val (.ref o0), .val (.int hh), .val (.ref w_bytes_o0), .val (.int n_w_bytes_o0), .val (.int i.toInt32), sl] [])) t := by
    intro k
    induction k with
    | zero =>
      intro i hh sl hsl hik hhh t kt
      obtain rfl : i = (n_w_bytes_o0).toNatClampNeg := by omega
      subst hhh
      rw [(back32 NL).1]
      refine XS.iload X1.here hx rfl (hb hby own_d6_13) rfl ?_
      show Steps p.tables e below (T1.setTop (mkF m 15 #[.val (.ref o0), .val (.int (own_hs vs_w_bytes_o0 (n_w_bytes_o0).toNatClampNeg)), .val (.ref w_bytes_o0), .val (.int n_w_bytes_o0), .val (.int n_w_bytes_o0), sl] [(.int n_w_bytes_o0)])) _
      refine XS.iloadN X1.here hx rfl (hb hby own_d6_15) rfl ?_
      show Steps p.tables e below (T1.setTop (mkF m 16 #[.val (.ref o0), .val (.int (own_hs vs_w_bytes_o0 (n_w_bytes_o0).toNatClampNeg)), .val (.ref w_bytes_o0), .val (.int n_w_bytes_o0), .val (.int n_w_bytes_o0), sl] [(.int n_w_bytes_o0), (.int n_w_bytes_o0)])) _
      refine XS.icmpYes X1.here hx rfl (pc0 := 16) (pc' := 39) rfl (hb hby own_d6_16) rfl (flt (by rw [Int32.lt_iff_toInt_lt]; omega : ¬ n_w_bytes_o0 < n_w_bytes_o0)).2.1 (by decide) (by decide) ?_
      exact kt sl
    | succ k ih =>
      intro i hh sl hsl hik hhh t kt
      have hi : i < (n_w_bytes_o0).toNatClampNeg := by omega
      have hlt : i.toInt32 < n_w_bytes_o0 := by rw [Int32.lt_iff_toInt_lt, len_toInt (by omega), hnI]; omega
      have hin : ¬ (i.toInt32 < 0 ∨ clL.slots.size ≤ (i.toInt32).toNatClampNeg) := by rw [SL]; exact idx_in hi hb31
      have htn : (i.toInt32).toNatClampNeg = i := by have := len_toInt (n := i) (by omega); rw [Int32.toNatClampNeg, this]; rfl
      obtain ⟨x, hxv⟩ := fit_I (GL i (by rw [SL]; exact hi)) (by simp)
      have hat : clL.slots[(i.toInt32).toNatClampNeg]? = some (.int x) := HaL.at hin (by rw [htn]; exact hxv)
      rcases hsl with rfl | ⟨w, rfl⟩
      · refine XS.iload X1.here hx rfl (hb hby own_d6_13) rfl ?_
        show Steps p.tables e below (T1.setTop (mkF m 15 #[.val (.ref o0), .val (.int hh), .val (.ref w_bytes_o0), .val (.int n_w_bytes_o0), .val (.int i.toInt32), .unset] [(.int i.toInt32)])) _
        refine XS.iloadN X1.here hx rfl (hb hby own_d6_15) rfl ?_
        show Steps p.tables e below (T1.setTop (mkF m 16 #[.val (.ref o0), .val (.int hh), .val (.ref w_bytes_o0), .val (.int n_w_bytes_o0), .val (.int i.toInt32), .unset] [(.int n_w_bytes_o0), (.int i.toInt32)])) _
        refine XS.icmpNo X1.here hx rfl (hb hby own_d6_16) rfl (tlt hlt).2.1 ?_
        show Steps p.tables e below (T1.setTop (mkF m 19 #[.val (.ref o0), .val (.int hh), .val (.ref w_bytes_o0), .val (.int n_w_bytes_o0), .val (.int i.toInt32), .unset] [])) _
        refine XS.aloadN X1.here hx rfl (hb hby own_d6_19) rfl rfl ?_
        show Steps p.tables e below (T1.setTop (mkF m 20 #[.val (.ref o0), .val (.int hh), .val (.ref w_bytes_o0), .val (.int n_w_bytes_o0), .val (.int i.toInt32), .unset] [(.ref w_bytes_o0)])) _
        refine XS.iload X1.here hx rfl (hb hby own_d6_20) rfl ?_
        show Steps p.tables e below (T1.setTop (mkF m 22 #[.val (.ref o0), .val (.int hh), .val (.ref w_bytes_o0), .val (.int n_w_bytes_o0), .val (.int i.toInt32), .unset] [(.int i.toInt32), (.ref w_bytes_o0)])) _
        refine X1.baloadBytes hx (j := i.toInt32) (v := .int x) (by rw [e1]; exact ArL.1) (State.isArrayOf_alike hZ.alike ArL.2.1) ArL.2.2 hin hat (g := (mkF m 22 #[.val (.ref o0), .val (.int hh), .val (.ref w_bytes_o0), .val (.int n_w_bytes_o0), .val (.int i.toInt32), .unset] [(.int i.toInt32), (.ref w_bytes_o0)])) rfl rfl (hb hby own_d6_22) _ ?_
        show Steps p.tables e below (T1.setTop (mkF m 23 #[.val (.ref o0), .val (.int hh), .val (.ref w_bytes_o0), .val (.int n_w_bytes_o0), .val (.int i.toInt32), .unset] [(.int x)])) _
        refine XS.istore X1.here hx rfl (hb hby own_d6_23) rfl (l' := #[.val (.ref o0), .val (.int hh), .val (.ref w_bytes_o0), .val (.int n_w_bytes_o0), .val (.int i.toInt32), .val (.int x)]) rfl ?_
        show Steps p.tables e below (T1.setTop (mkF m 25 #[.val (.ref o0), .val (.int hh), .val (.ref w_bytes_o0), .val (.int n_w_bytes_o0), .val (.int i.toInt32), .val (.int x)] [])) _
        refine XS.bipush X1.here hx rfl (hb hby own_d6_25) ?_
        show Steps p.tables e below (T1.setTop (mkF m 27 #[.val (.ref o0), .val (.int hh), .val (.ref w_bytes_o0), .val (.int n_w_bytes_o0), .val (.int i.toInt32), .val (.int x)] [(.int (31 : Int32))])) _
        refine XS.iloadN X1.here hx rfl (hb hby own_d6_27) rfl ?_
        show Steps p.tables e below (T1.setTop (mkF m 28 #[.val (.ref o0), .val (.int hh), .val (.ref w_bytes_o0), .val (.int n_w_bytes_o0), .val (.int i.toInt32), .val (.int x)] [(.int hh), (.int (31 : Int32))])) _
        refine XS.imul X1.here hx rfl (hb hby own_d6_28) rfl ?_
        show Steps p.tables e below (T1.setTop (mkF m 29 #[.val (.ref o0), .val (.int hh), .val (.ref w_bytes_o0), .val (.int n_w_bytes_o0), .val (.int i.toInt32), .val (.int x)] [(.int ((31 : Int32) * hh))])) _
        refine XS.iload X1.here hx rfl (hb hby own_d6_29) rfl ?_
        show Steps p.tables e below (T1.setTop (mkF m 31 #[.val (.ref o0), .val (.int hh), .val (.ref w_bytes_o0), .val (.int n_w_bytes_o0), .val (.int i.toInt32), .val (.int x)] [(.int x), (.int ((31 : Int32) * hh))])) _
        refine XS.iadd X1.here hx rfl (hb hby own_d6_31) rfl ?_
        show Steps p.tables e below (T1.setTop (mkF m 32 #[.val (.ref o0), .val (.int hh), .val (.ref w_bytes_o0), .val (.int n_w_bytes_o0), .val (.int i.toInt32), .val (.int x)] [(.int ((31 : Int32) * hh + x))])) _
        refine XS.istoreN X1.here hx rfl (hb hby own_d6_32) rfl (l' := #[.val (.ref o0), .val (.int ((31 : Int32) * hh + x)), .val (.ref w_bytes_o0), .val (.int n_w_bytes_o0), .val (.int i.toInt32), .val (.int x)]) rfl ?_
        show Steps p.tables e below (T1.setTop (mkF m 33 #[.val (.ref o0), .val (.int ((31 : Int32) * hh + x)), .val (.ref w_bytes_o0), .val (.int n_w_bytes_o0), .val (.int i.toInt32), .val (.int x)] [])) _
        refine XS.iinc X1.here hx rfl (hb hby own_d6_33) rfl (l' := #[.val (.ref o0), .val (.int ((31 : Int32) * hh + x)), .val (.ref w_bytes_o0), .val (.int n_w_bytes_o0), .val (.int (i.toInt32 + (1 : Int32))), .val (.int x)]) rfl ?_
        show Steps p.tables e below (T1.setTop (mkF m 36 #[.val (.ref o0), .val (.int ((31 : Int32) * hh + x)), .val (.ref w_bytes_o0), .val (.int n_w_bytes_o0), .val (.int (i.toInt32 + (1 : Int32))), .val (.int x)] [])) _
        refine XS.goto X1.here hx rfl (pc0 := 36) (pc' := 13) rfl (hb hby own_d6_36) (by decide) (by decide) ?_
        show Steps p.tables e below (T1.setTop (mkF m 13 #[.val (.ref o0), .val (.int ((31 : Int32) * hh + x)), .val (.ref w_bytes_o0), .val (.int n_w_bytes_o0), .val (.int (i.toInt32 + (1 : Int32))), .val (.int x)] [])) _
        rw [own_up i (by omega)]
        exact ih (i + 1) _ _ (Or.inr ⟨x, rfl⟩) (by omega) (by subst hhh; show _ = (31 : Int32) * own_hs vs_w_bytes_o0 i + own_byte (List.getD vs_w_bytes_o0 i (.int (0 : Int32))); rw [hxv]; rfl) t kt
      · refine XS.iload X1.here hx rfl (hb hby own_d6_13) rfl ?_
        show Steps p.tables e below (T1.setTop (mkF m 15 #[.val (.ref o0), .val (.int hh), .val (.ref w_bytes_o0), .val (.int n_w_bytes_o0), .val (.int i.toInt32), .val (.int w)] [(.int i.toInt32)])) _
        refine XS.iloadN X1.here hx rfl (hb hby own_d6_15) rfl ?_
        show Steps p.tables e below (T1.setTop (mkF m 16 #[.val (.ref o0), .val (.int hh), .val (.ref w_bytes_o0), .val (.int n_w_bytes_o0), .val (.int i.toInt32), .val (.int w)] [(.int n_w_bytes_o0), (.int i.toInt32)])) _
        refine XS.icmpNo X1.here hx rfl (hb hby own_d6_16) rfl (tlt hlt).2.1 ?_
        show Steps p.tables e below (T1.setTop (mkF m 19 #[.val (.ref o0), .val (.int hh), .val (.ref w_bytes_o0), .val (.int n_w_bytes_o0), .val (.int i.toInt32), .val (.int w)] [])) _
        refine XS.aloadN X1.here hx rfl (hb hby own_d6_19) rfl rfl ?_
        show Steps p.tables e below (T1.setTop (mkF m 20 #[.val (.ref o0), .val (.int hh), .val (.ref w_bytes_o0), .val (.int n_w_bytes_o0), .val (.int i.toInt32), .val (.int w)] [(.ref w_bytes_o0)])) _
        refine XS.iload X1.here hx rfl (hb hby own_d6_20) rfl ?_
        show Steps p.tables e below (T1.setTop (mkF m 22 #[.val (.ref o0), .val (.int hh), .val (.ref w_bytes_o0), .val (.int n_w_bytes_o0), .val (.int i.toInt32), .val (.int w)] [(.int i.toInt32), (.ref w_bytes_o0)])) _
        refine X1.baloadBytes hx (j := i.toInt32) (v := .int x) (by rw [e1]; exact ArL.1) (State.isArrayOf_alike hZ.alike ArL.2.1) ArL.2.2 hin hat (g := (mkF m 22 #[.val (.ref o0), .val (.int hh), .val (.ref w_bytes_o0), .val (.int n_w_bytes_o0), .val (.int i.toInt32), .val (.int w)] [(.int i.toInt32), (.ref w_bytes_o0)])) rfl rfl (hb hby own_d6_22) _ ?_
        show Steps p.tables e below (T1.setTop (mkF m 23 #[.val (.ref o0), .val (.int hh), .val (.ref w_bytes_o0), .val (.int n_w_bytes_o0), .val (.int i.toInt32), .val (.int w)] [(.int x)])) _
        refine XS.istore X1.here hx rfl (hb hby own_d6_23) rfl (l' := #[.val (.ref o0), .val (.int hh), .val (.ref w_bytes_o0), .val (.int n_w_bytes_o0), .val (.int i.toInt32), .val (.int x)]) rfl ?_
        show Steps p.tables e below (T1.setTop (mkF m 25 #[.val (.ref o0), .val (.int hh), .val (.ref w_bytes_o0), .val (.int n_w_bytes_o0), .val (.int i.toInt32), .val (.int x)] [])) _
        refine XS.bipush X1.here hx rfl (hb hby own_d6_25) ?_
        show Steps p.tables e below (T1.setTop (mkF m 27 #[.val (.ref o0), .val (.int hh), .val (.ref w_bytes_o0), .val (.int n_w_bytes_o0), .val (.int i.toInt32), .val (.int x)] [(.int (31 : Int32))])) _
        refine XS.iloadN X1.here hx rfl (hb hby own_d6_27) rfl ?_
        show Steps p.tables e below (T1.setTop (mkF m 28 #[.val (.ref o0), .val (.int hh), .val (.ref w_bytes_o0), .val (.int n_w_bytes_o0), .val (.int i.toInt32), .val (.int x)] [(.int hh), (.int (31 : Int32))])) _
        refine XS.imul X1.here hx rfl (hb hby own_d6_28) rfl ?_
        show Steps p.tables e below (T1.setTop (mkF m 29 #[.val (.ref o0), .val (.int hh), .val (.ref w_bytes_o0), .val (.int n_w_bytes_o0), .val (.int i.toInt32), .val (.int x)] [(.int ((31 : Int32) * hh))])) _
        refine XS.iload X1.here hx rfl (hb hby own_d6_29) rfl ?_
        show Steps p.tables e below (T1.setTop (mkF m 31 #[.val (.ref o0), .val (.int hh), .val (.ref w_bytes_o0), .val (.int n_w_bytes_o0), .val (.int i.toInt32), .val (.int x)] [(.int x), (.int ((31 : Int32) * hh))])) _
        refine XS.iadd X1.here hx rfl (hb hby own_d6_31) rfl ?_
        show Steps p.tables e below (T1.setTop (mkF m 32 #[.val (.ref o0), .val (.int hh), .val (.ref w_bytes_o0), .val (.int n_w_bytes_o0), .val (.int i.toInt32), .val (.int x)] [(.int ((31 : Int32) * hh + x))])) _
        refine XS.istoreN X1.here hx rfl (hb hby own_d6_32) rfl (l' := #[.val (.ref o0), .val (.int ((31 : Int32) * hh + x)), .val (.ref w_bytes_o0), .val (.int n_w_bytes_o0), .val (.int i.toInt32), .val (.int x)]) rfl ?_
        show Steps p.tables e below (T1.setTop (mkF m 33 #[.val (.ref o0), .val (.int ((31 : Int32) * hh + x)), .val (.ref w_bytes_o0), .val (.int n_w_bytes_o0), .val (.int i.toInt32), .val (.int x)] [])) _
        refine XS.iinc X1.here hx rfl (hb hby own_d6_33) rfl (l' := #[.val (.ref o0), .val (.int ((31 : Int32) * hh + x)), .val (.ref w_bytes_o0), .val (.int n_w_bytes_o0), .val (.int (i.toInt32 + (1 : Int32))), .val (.int x)]) rfl ?_
        show Steps p.tables e below (T1.setTop (mkF m 36 #[.val (.ref o0), .val (.int ((31 : Int32) * hh + x)), .val (.ref w_bytes_o0), .val (.int n_w_bytes_o0), .val (.int (i.toInt32 + (1 : Int32))), .val (.int x)] [])) _
        refine XS.goto X1.here hx rfl (pc0 := 36) (pc' := 13) rfl (hb hby own_d6_36) (by decide) (by decide) ?_
        show Steps p.tables e below (T1.setTop (mkF m 13 #[.val (.ref o0), .val (.int ((31 : Int32) * hh + x)), .val (.ref w_bytes_o0), .val (.int n_w_bytes_o0), .val (.int (i.toInt32 + (1 : Int32))), .val (.int x)] [])) _
        rw [own_up i (by omega)]
        exact ih (i + 1) _ _ (Or.inr ⟨x, rfl⟩) (by omega) (by subst hhh; show _ = (31 : Int32) * own_hs vs_w_bytes_o0 i + own_byte (List.getD vs_w_bytes_o0 i (.int (0 : Int32))); rw [hxv]; rfl) t kt
  have pre4 : ∀ t, (∀ sl9, Steps p.tables e below (T1.setTop (mkF m 40 #[.val (.ref o0), .val (.int (own_hs vs_w_bytes_o0 (n_w_bytes_o0).toNatClampNeg)), .val (.ref w_bytes_o0), .val (.int n_w_bytes_o0), .val (.int n_w_bytes_o0), sl9] [(.int (own_hs vs_w_bytes_o0 (n_w_bytes_o0).toNatClampNeg))])) t) → Steps p.tables e below (s₁.setTop (entryFrame m #[(.ref o0)] 6)) t := fun t k => pre3 t (by
      refine loopL (n_w_bytes_o0).toNatClampNeg 0 (0 : Int32) .unset (Or.inl rfl) (Nat.zero_add _) rfl _ (fun sl9 => ?_)
      show Steps p.tables e below (T1.setTop (mkF m 39 #[.val (.ref o0), .val (.int (own_hs vs_w_bytes_o0 (n_w_bytes_o0).toNatClampNeg)), .val (.ref w_bytes_o0), .val (.int n_w_bytes_o0), .val (.int n_w_bytes_o0), sl9] [])) _
      refine XS.iloadN X1.here hx rfl (hb hby own_d6_39) rfl ?_
      show Steps p.tables e below (T1.setTop (mkF m 40 #[.val (.ref o0), .val (.int (own_hs vs_w_bytes_o0 (n_w_bytes_o0).toNatClampNeg)), .val (.ref w_bytes_o0), .val (.int n_w_bytes_o0), .val (.int n_w_bytes_o0), sl9] [(.int (own_hs vs_w_bytes_o0 (n_w_bytes_o0).toNatClampNeg))])) _
      exact k sl9)
  obtain ⟨fs, hr, hrun, hended, hW, hsame⟩ := X1.leave (v := some (.int (own_hs vs_w_bytes_o0 (n_w_bytes_o0).toNatClampNeg))) (fun h => by rw [Bd.returns] at h; cases h) (hlocks := hlk)
  refine ⟨_, _, pre4 _ ?_, hrun, hended, _, _, rfl, ?_, ⟨_, rfl⟩, hW, hsame.mono (by decide) (by decide)⟩
  · intro sl9; show Steps p.tables e below (T1.setTop (mkF m 40 #[.val (.ref o0), .val (.int (own_hs vs_w_bytes_o0 (n_w_bytes_o0).toNatClampNeg)), .val (.ref w_bytes_o0), .val (.int n_w_bytes_o0), .val (.int n_w_bytes_o0), sl9] [(.int (own_hs vs_w_bytes_o0 (n_w_bytes_o0).toNatClampNeg))])) _
    exact retI X1 hx Bd.returns (hb hby own_d6_40) hr
  · show own_Q6 Z o0 w_bytes_o0 k_w_bytes_o0 n_w_bytes_o0 vs_w_bytes_o0 h0 n0 _ T1.heap _; rw [e1]; exact ⟨(by show some (Value.int _) = some (.int (own_f6 n_w_bytes_o0 vs_w_bytes_o0)); unfold own_f6; rfl), N0, rfl⟩
theorem own_pd2 : parseMethodDescriptor "([BIJJ)V" = some ⟨[(.array .byte), .int, .long, .long], none⟩ := by decide +kernel
theorem own_pd3 : parseMethodDescriptor "()V" = some ⟨[], none⟩ := by decide +kernel
theorem own_pd4 : parseMethodDescriptor "([BLcom/example/meaning_into_numbers/meaningintonumbers/VersionParts;)V" = some ⟨[(.array .byte), (.object "com/example/meaning_into_numbers/meaningintonumbers/VersionParts")], none⟩ := by decide +kernel
theorem own_pd5 : parseMethodDescriptor "()I" = some ⟨[], some .int⟩ := by decide +kernel
theorem own_pn0 : plainName "com/example/meaning_into_numbers/meaningintonumbers/VersionHashCodePinLaw" = true := by first | (simp [plainName, overriddenIn]; done) | decide +kernel
theorem own_ef0 (m : MethodId) (x0 : Int64) (x1 : Int64) (x2 : Int32) (x3 : Int32) : entryFrame m #[(.long x0), (.long x1), (.int x2), (.int x3)] maxLocals = (mkF m 0 #[.val (.long x0), .second, .val (.long x1), .second, .val (.int x2), .val (.int x3), .unset, .unset, .unset, .unset, .unset, .unset, .unset, .unset] []) := by first | (simp [entryFrame, mkF, argsToLocals, Value.category, maxLocals]; done) | rfl
def own_n (p2 : Int32) : Int32 := (p2 &&& (15 : Int32))
def own_v0_77_1 (q0 : Int64) (q1 : Int64) (p2 : Int32) : Int32 := (own_f6 (own_n p2) (own_l1_0 (own_n p2) q0 q1 (List.replicate 16 (.int (0 : Int32)))))
def own_v0_93_2 (q0 : Int64) (q1 : Int64) (p2 : Int32) (p3 : Int32) : Int32 := (own_f6 ((own_n p2) + (1 : Int32)) ((own_l1_0 (own_n p2) q0 q1 (List.replicate 16 (.int (0 : Int32)))).set (own_n p2).toNatClampNeg (.int (nar .byte ((p3 &&& (127 : Int32)).toInt8.toInt32)))))
def own_f0 (q0 : Int64) (q1 : Int64) (p2 : Int32) (p3 : Int32) : Int32 := (if (own_n p2) = (0 : Int32) then (if (own_v0_77_1 q0 q1 p2) = (0 : Int32) then (if (own_v0_93_2 q0 q1 p2 p3) = (((31 : Int32) * (own_v0_77_1 q0 q1 p2)) + (p3 &&& (127 : Int32))) then (1 : Int32) else (0 : Int32)) else (0 : Int32)) else (if (own_v0_93_2 q0 q1 p2 p3) = (((31 : Int32) * (own_v0_77_1 q0 q1 p2)) + (p3 &&& (127 : Int32))) then (1 : Int32) else (0 : Int32)))
theorem own_nr (x : Int32) : 0 ≤ (own_n x).toInt ∧ (own_n x).toInt ≤ 15 := by
  have m1 : (x &&& (15 : Int32)).toInt = x.toInt % (2 ^ 4 : Nat) := c_mask x 15 4 (by decide) (by decide)
  show 0 ≤ (x &&& (15 : Int32)).toInt ∧ (x &&& (15 : Int32)).toInt ≤ 15
  omega
theorem own_n1 (x : Int32) : (own_n x + (1 : Int32)).toInt = (own_n x).toInt + 1 := by
  have a1 := own_nr x
  have a2 := c_iadd (own_n x) (1 : Int32)
  have a3 := rng32 (own_n x + (1 : Int32))
  have a5 : (1 : Int32).toInt = 1 := by decide
  omega
theorem own_cl (x : Int32) (k : Nat) (h : x.toInt = (k : Int)) : x.toNatClampNeg = k := by
  rw [Int32.toNatClampNeg, h]; rfl
theorem own_nn (x : Int32) : (own_n x).toNatClampNeg = (own_n x).toInt.toNat := rfl
theorem own_a1 (x : Int32) : ¬ own_n x < (0 : Int32) := by
  have := own_nr x
  rw [Int32.lt_iff_toInt_lt, Int32.toInt_zero]; omega
theorem own_a2 (x : Int32) : ¬ (own_n x + (1 : Int32)) < (0 : Int32) := by
  have := own_nr x
  rw [Int32.lt_iff_toInt_lt, Int32.toInt_zero, own_n1]; omega
theorem own_a3 (x : Int32) : (own_n x).toNatClampNeg ≤ 15 := by
  have := own_nr x
  rw [own_nn]; omega
theorem own_a4 (x : Int32) : (own_n x + (1 : Int32)).toNatClampNeg = (own_n x).toNatClampNeg + 1 := by
  have := own_nr x
  rw [own_nn]
  apply own_cl
  rw [own_n1]; omega
theorem own_a5 (x : Int32) : ¬ (own_n x < own_n x) := by rw [Int32.lt_iff_toInt_lt]; omega
theorem own_a6 (x : Int32) : ¬ ((own_n x + (1 : Int32)) < own_n x) := by rw [Int32.lt_iff_toInt_lt, own_n1]; omega
theorem own_a7 (x : Int32) : own_n x < own_n x + (1 : Int32) := by rw [Int32.lt_iff_toInt_lt, own_n1]; omega
theorem own_flen (n : Int32) (a b : Int64) (vs : List Value) (h : vs.length = 16) : (own_l1_0 n a b vs).length = 16 := by
  unfold own_l1_0; simp only [own_wlen]; exact h
def own_Q0 (Z : State) (q0 : Int64) (q1 : Int64) (p2 : Int32) (p3 : Int32) (h0 : Heap) (n0 : Nat) (v : Option Value) (h : Heap) (L : List Loc) : Prop := v = some (.int (own_f0 q0 q1 p2 p3)) ∧ Fr n0 L
set_option maxRecDepth 65536 in
set_option maxHeartbeats 40000000 in
theorem own_rm0 (l : Launch) (Z : State) (a0 : Array Value) (hw : ∀ d ∈ tables_1, d.before a0 Z = true) (ws : List Jvm.Cond) (q0 : Int64) (q1 : Int64) (p2 : Int32) (p3 : Int32) (h0 : Heap) (n0 : Nat) (Z0 : n0 ≤ h0.size) :
    MetFree l x (head1 (Jvm.Cond.code x code maxLocals ret :: ws) room_1) (fun a U => a = #[(.long q0), (.long q1), (.int p2), (.int p3)] ∧ Z.Warmed39 U.vm ∧ U.heap = h0) (fun _ _ _ _ _ => True) (fun _ U o U' => ∃ v L, o = .returned v ∧ own_Q0 Z q0 q1 p2 p3 h0 n0 v U'.heap L ∧ FrameEnd U o U' L room_1.cells room_1.slots) := by
  refine MetFree.of_bodySF (plainFor_of_name own_pn0) hisR ?_
  intro p e s m args below meth c s₁ Bd hml0 hP hK
  obtain ⟨rfl, hZ, hh⟩ := hP
  have hx := Bd.exec
  have hlk : meth.locks = false := BodyLoose.notSynchronized Bd
  have hby := Bd.bytes
  have hml : c.maxLocals = 14 := hml0
  have hown : s.vm.findClass "com/example/meaning_into_numbers/meaningintonumbers/VersionHashCodePinLaw" = some m.cls := findClass_of_methodNamed Bd.named
  have hnm := (name_of_methodNamed Bd.named Bd.method).1
  have X0 : Stand p l e room_1 s m #[(.long q0), (.long q1), (.int p2), (.int p3)] below meth c s₁ [] 0 0 := Stand.of_body Bd
  have e0 : s₁.heap = h0 := by rw [← hh, Bd.state]; rfl
  have N0 := Fr.nil n0
  have pre0 : ∀ t, Steps p.tables e below (s₁.setTop (mkF m 0 #[.val (.long q0), .second, .val (.long q1), .second, .val (.int p2), .val (.int p3), .unset, .unset, .unset, .unset, .unset, .unset, .unset, .unset] [])) t → Steps p.tables e below (s₁.setTop (entryFrame m #[(.long q0), (.long q1), (.int p2), (.int p3)] maxLocals)) t := fun t k => castTop (own_ef0 m q0 q1 p2 p3) k
  obtain ⟨T1, h1, k1, X1, e1, E1, A1, st1⟩ := newP X0 hx hZ (hw _ (List.mem_of_getElem? (i := 0) rfl)) e0 (g := (mkF m 16 #[.val (.long q0), .second, .val (.long q1), .second, .val (.int p2), .val (.int p3), .val (.int (own_n p2)), .val (.int (p3 &&& (127 : Int32))), .unset, .unset, .unset, .unset, .unset, .unset] [(.int (own_n p2))])) rfl (hb hby at_16) rfl (own_a1 p2) (cap := 15) (own_a3 p2) (by decide) (by decide) (by decide)
  obtain ⟨b1, g1⟩ : ∃ z, z = h0.size := ⟨_, rfl⟩
  rw [← g1] at A1 st1
  have g_b1 : n0 ≤ b1 := Nat.le_trans Z0 (Nat.le_of_eq g1.symm)
  have K2 : Keep h0 h0 [] := Keep.refl h0 []
  have sz_b1 : h0.size ≤ b1 := Nat.le_trans K2.1 (Nat.le_of_eq g1.symm)
  have zs3 : n0 ≤ h1.size := Nat.le_trans Z0 E1.1
  have K4 : Keep h0 h1 [] := K2.ext E1
  have f5 : Arv Z h1 b1 k1 .byte (own_n p2) (List.replicate 16 (.int (0 : Int32))) (.int (0 : Int32)) := (Arv.new A1 (own_a1 p2)).pad (pad_rep [] (.int (0 : Int32)) 16)
  obtain ⟨T6, h6, k6, X6, e6, E6, A6, st6⟩ := newP X1 hx hZ (hw _ (List.mem_of_getElem? (i := 0) rfl)) e1 (g := (mkF m 24 #[.val (.long q0), .second, .val (.long q1), .second, .val (.int p2), .val (.int p3), .val (.int (own_n p2)), .val (.int (p3 &&& (127 : Int32))), .val (.ref b1), .unset, .unset, .unset, .unset, .unset] [(.int ((own_n p2) + (1 : Int32)))])) rfl (hb hby at_24) rfl (own_a2 p2) (cap := 16) (by rw [own_a4]; have := own_a3 p2; omega) (by decide) (by decide) (by decide)
  obtain ⟨b6, g6⟩ : ∃ z, z = h1.size := ⟨_, rfl⟩
  rw [← g6] at A6 st6
  have g_b6 : n0 ≤ b6 := Nat.le_trans zs3 (Nat.le_of_eq g6.symm)
  have sz_b6 : h0.size ≤ b6 := Nat.le_trans K4.1 (Nat.le_of_eq g6.symm)
  have lt7 : b1 < b6 := Nat.lt_of_lt_of_le f5.lt (Nat.le_of_eq g6.symm)
  have f8 : Arv Z h6 b1 k1 .byte (own_n p2) (List.replicate 16 (.int (0 : Int32))) (.int (0 : Int32)) := f5.ext E6
  have zs9 : n0 ≤ h6.size := Nat.le_trans zs3 E6.1
  have K10 : Keep h0 h6 [] := K4.ext E6
  have f11 : Arv Z h6 b6 k6 .byte ((own_n p2) + (1 : Int32)) (List.replicate 16 (.int (0 : Int32))) (.int (0 : Int32)) := (Arv.new A6 (own_a2 p2)).pad (pad_rep [] (.int (0 : Int32)) 16)
  obtain ⟨_, _, ⟨T12, L12, k12, n12⟩, -, X12, ⟨Lc12, hQ12, l12, y12, z12⟩, st12⟩ := Jvm.LawKit.callS X6 hx (y := (⟨"com/example/meaning_into_numbers/meaningintonumbers/VersionHashCodePinLaw", "fill", "([BIJJ)V"⟩ : MethodName)) hown (mvT hZ (hw _ (List.mem_of_getElem? (i := 1) rfl))) (mvT hZ (hw _ (List.mem_of_getElem? (i := 2) rfl))) (mvT hZ (hw _ (List.mem_of_getElem? (i := 3) rfl))) (mvT hZ (hw _ (List.mem_of_getElem? (i := 4) rfl))) (by decide) (backOf (W := 0) (own_rm1 l Z a0 hw [] b1 (own_n p2) q0 q1 k1 (own_n p2) (List.replicate 16 (.int (0 : Int32))) h6 n0 zs9 (own_a5 p2) List.length_replicate f8 g_b1) hZ (hw _ (List.mem_of_getElem? (i := 4) rfl)) (hw _ (List.mem_of_getElem? (i := 3) rfl)) (by decide) (by decide)) (g := (mkF m 34 #[.val (.long q0), .second, .val (.long q1), .second, .val (.int p2), .val (.int p3), .val (.int (own_n p2)), .val (.int (p3 &&& (127 : Int32))), .val (.ref b1), .val (.ref b6), .unset, .unset, .unset, .unset] [(.long q1), (.long q0), (.int (own_n p2)), (.ref b1)])) rfl (by rw [hml]; rfl) (argsL := [(.ref b1), (.int (own_n p2)), (.long q0), (.long q1)]) (rest := []) (lenOf own_pd2 rfl) rfl (by show 2 * 0 + _ ≤ _; exact Nat.le_of_eq rfl) (hb hby at_34) (fun _ _ => ⟨rfl, e6, (by decide : 2 + 0 ≤ _), (by decide : 31 + 0 ≤ _)⟩)
  dsimp only [Pt.U, Pt.locs, Pt.cells, Pt.slots] at X12 l12 y12 z12 st12 hQ12
  subst l12 y12 z12
  obtain ⟨rfl, N12q, K12, f13⟩ := hQ12
  have f14 : Arv Z T12.heap b6 k6 .byte ((own_n p2) + (1 : Int32)) (List.replicate 16 (.int (0 : Int32))) (.int (0 : Int32)) := f11.keep K12 (ninS (Nat.ne_of_gt lt7) nin0)
  have zs15 : n0 ≤ T12.heap.size := Nat.le_trans zs9 K12.1
  have K16 : Keep h0 T12.heap [] := K10.trans K12 (allS (Or.inr sz_b1) all0)
  have N17 := Fr.app N0 N12q
  obtain ⟨_, _, ⟨T18, L18, k18, n18⟩, -, X18, ⟨Lc18, hQ18, l18, y18, z18⟩, st18⟩ := Jvm.LawKit.callS X12 hx (y := (⟨"com/example/meaning_into_numbers/meaningintonumbers/VersionHashCodePinLaw", "fill", "([BIJJ)V"⟩ : MethodName)) hown (mvT hZ (hw _ (List.mem_of_getElem? (i := 1) rfl))) (mvT hZ (hw _ (List.mem_of_getElem? (i := 2) rfl))) (mvT hZ (hw _ (List.mem_of_getElem? (i := 3) rfl))) (mvT hZ (hw _ (List.mem_of_getElem? (i := 4) rfl))) (by decide) (backOf (W := 0) (own_rm1 l Z a0 hw [] b6 (own_n p2) q0 q1 k6 ((own_n p2) + (1 : Int32)) (List.replicate 16 (.int (0 : Int32))) T12.heap n0 zs15 (own_a6 p2) List.length_replicate f14 g_b6) hZ (hw _ (List.mem_of_getElem? (i := 4) rfl)) (hw _ (List.mem_of_getElem? (i := 3) rfl)) (by decide) (by decide)) (g := (mkF m 43 #[.val (.long q0), .second, .val (.long q1), .second, .val (.int p2), .val (.int p3), .val (.int (own_n p2)), .val (.int (p3 &&& (127 : Int32))), .val (.ref b1), .val (.ref b6), .unset, .unset, .unset, .unset] [(.long q1), (.long q0), (.int (own_n p2)), (.ref b6)])) rfl (by rw [hml]; rfl) (argsL := [(.ref b6), (.int (own_n p2)), (.long q0), (.long q1)]) (rest := []) (lenOf own_pd2 rfl) rfl (by show 2 * 0 + _ ≤ _; exact Nat.le_of_eq rfl) (hb hby at_43) (fun _ _ => ⟨rfl, rfl, (by decide : 2 + 0 ≤ _), (by decide : 31 + 0 ≤ _)⟩)
  dsimp only [Pt.U, Pt.locs, Pt.cells, Pt.slots] at X18 l18 y18 z18 st18 hQ18
  subst l18 y18 z18
  obtain ⟨rfl, N18q, K18, f19⟩ := hQ18
  have f20 : Arv Z T18.heap b1 k1 .byte (own_n p2) (own_l1_0 (own_n p2) q0 q1 (List.replicate 16 (.int (0 : Int32)))) (.int (0 : Int32)) := f13.keep K18 (ninS (Nat.ne_of_lt lt7) nin0)
  have zs21 : n0 ≤ T18.heap.size := Nat.le_trans zs15 K18.1
  have K22 : Keep h0 T18.heap [] := K16.trans K18 (allS (Or.inr sz_b6) all0)
  have N23 := Fr.app N17 N18q
  obtain ⟨cl24, Ar24, q24, S24, N_24, Ha24, G24⟩ := id f19
  have hin24 : ¬ ((own_n p2) < 0 ∨ cl24.slots.size ≤ ((own_n p2)).toNatClampNeg) := inb_of S24 ⟨own_a1 p2, own_a7 p2⟩
  obtain ⟨T25, h25, X25, e25, W25, st25⟩ := stB X18 hx hZ rfl Ar24 (j := (own_n p2)) hin24 (g := (mkF m 53 #[.val (.long q0), .second, .val (.long q1), .second, .val (.int p2), .val (.int p3), .val (.int (own_n p2)), .val (.int (p3 &&& (127 : Int32))), .val (.ref b1), .val (.ref b6), .unset, .unset, .unset, .unset] [(.int ((p3 &&& (127 : Int32)).toInt8.toInt32)), (.int (own_n p2)), (.ref b6)])) rfl rfl (hb hby at_53)
  have f26 : Arv Z h25 b6 k6 .byte ((own_n p2) + (1 : Int32)) ((own_l1_0 (own_n p2) q0 q1 (List.replicate 16 (.int (0 : Int32)))).set (own_n p2).toNatClampNeg (.int (nar .byte ((p3 &&& (127 : Int32)).toInt8.toInt32)))) (.int (0 : Int32)) := Arv.set Ar24 q24 S24 N_24 Ha24 G24 (fits_nar_byte _) W25 (own_n p2).toNatClampNeg rfl (by rw [own_flen _ _ _ _ List.length_replicate]; have := own_a3 p2; omega)
  have f27 : Arv Z h25 b1 k1 .byte (own_n p2) (own_l1_0 (own_n p2) q0 q1 (List.replicate 16 (.int (0 : Int32)))) (.int (0 : Int32)) := f20.other W25 (Nat.ne_of_lt lt7)
  have zs28 : n0 ≤ h25.size := Nat.le_trans zs21 (Keep.of_wr W25).1
  have N29 := Fr.snoc X25 N23 g_b6
  have K30 : Keep h0 h25 [] := K22.wr W25 (Or.inr sz_b6)
  obtain ⟨T31, h31, X31, e31, E31, A31, D31, -, st31⟩ := newO X25 hx hZ hown (hw _ (List.mem_of_getElem? (i := 8) rfl)) (hw _ (List.mem_of_getElem? (i := 9) rfl)) (hw _ (List.mem_of_getElem? (i := 10) rfl)) e25 (g := (mkF m 54 #[.val (.long q0), .second, .val (.long q1), .second, .val (.int p2), .val (.int p3), .val (.int (own_n p2)), .val (.int (p3 &&& (127 : Int32))), .val (.ref b1), .val (.ref b6), .unset, .unset, .unset, .unset] [])) rfl (hb hby at_54) (by decide) (by decide)
  obtain ⟨b31, g31⟩ : ∃ z, z = h25.size := ⟨_, rfl⟩
  rw [← g31] at A31 D31 st31
  have g_b31 : n0 ≤ b31 := Nat.le_trans zs28 (Nat.le_of_eq g31.symm)
  have sz_b31 : h0.size ≤ b31 := Nat.le_trans K30.1 (Nat.le_of_eq g31.symm)
  have lt32 : b1 < b31 := Nat.lt_of_lt_of_le f27.lt (Nat.le_of_eq g31.symm)
  have lt33 : b6 < b31 := Nat.lt_of_lt_of_le f26.lt (Nat.le_of_eq g31.symm)
  have f34 : Arv Z h31 b1 k1 .byte (own_n p2) (own_l1_0 (own_n p2) q0 q1 (List.replicate 16 (.int (0 : Int32)))) (.int (0 : Int32)) := f27.ext E31
  have f35 : Arv Z h31 b6 k6 .byte ((own_n p2) + (1 : Int32)) ((own_l1_0 (own_n p2) q0 q1 (List.replicate 16 (.int (0 : Int32)))).set (own_n p2).toNatClampNeg (.int (nar .byte ((p3 &&& (127 : Int32)).toInt8.toInt32)))) (.int (0 : Int32)) := f26.ext E31
  have zs36 : n0 ≤ h31.size := Nat.le_trans zs28 E31.1
  have K37 : Keep h0 h31 [] := K30.ext E31
  obtain ⟨_, _, ⟨T38, L38, k38, n38⟩, -, X38, ⟨Lc38, hQ38, l38, y38, z38⟩, st38⟩ := X31.specialBack hx (y := (⟨"com/example/meaning_into_numbers/meaningintonumbers/VersionParts", "<init>", "()V"⟩ : MethodName)) rfl hown (mvT hZ (hw _ (List.mem_of_getElem? (i := 11) rfl))) (mvT hZ (hw _ (List.mem_of_getElem? (i := 12) rfl))) (mvT hZ (hw _ (List.mem_of_getElem? (i := 13) rfl))) (by decide) (backOf (W := 1) (own_rm3 l Z a0 hw [] b31 h31 n0 zs36 ) hZ (hw _ (List.mem_of_getElem? (i := 13) rfl)) (hw _ (List.mem_of_getElem? (i := 10) rfl)) (by decide) (by decide)) (g := (mkF m 58 #[.val (.long q0), .second, .val (.long q1), .second, .val (.int p2), .val (.int p3), .val (.int (own_n p2)), .val (.int (p3 &&& (127 : Int32))), .val (.ref b1), .val (.ref b6), .unset, .unset, .unset, .unset] [(.ref b31), (.ref b31)])) rfl (by rw [hml]; rfl) (Steps.refl _) (a := b31) (argsL := []) (rest := [(.ref b31)]) (lenOf own_pd3 rfl) rfl (by show 2 * 0 + _ ≤ _; exact Nat.le_of_eq rfl) (hb hby at_58) (fun _ _ => ⟨rfl, e31, (by decide : 3 + 0 ≤ _), (by decide : 36 + 0 ≤ _)⟩)
  dsimp only [Pt.U, Pt.locs, Pt.cells, Pt.slots] at X38 l38 y38 z38 st38 hQ38
  subst l38 y38 z38
  obtain ⟨rfl, N38q, e38⟩ := hQ38
  have N39 := Fr.app N29 N38q
  obtain ⟨T40, h40, X40, e40, E40, A40, D40, -, st40⟩ := newO X38 hx hZ hown (hw _ (List.mem_of_getElem? (i := 17) rfl)) (hw _ (List.mem_of_getElem? (i := 18) rfl)) (hw _ (List.mem_of_getElem? (i := 19) rfl)) e38 (g := (mkF m 63 #[.val (.long q0), .second, .val (.long q1), .second, .val (.int p2), .val (.int p3), .val (.int (own_n p2)), .val (.int (p3 &&& (127 : Int32))), .val (.ref b1), .val (.ref b6), .val (.ref b31), .unset, .unset, .unset] [])) rfl (hb hby at_63) (by decide) (by decide)
  obtain ⟨b40, g40⟩ : ∃ z, z = h31.size := ⟨_, rfl⟩
  rw [← g40] at A40 D40 st40
  have g_b40 : n0 ≤ b40 := Nat.le_trans zs36 (Nat.le_of_eq g40.symm)
  have sz_b40 : h0.size ≤ b40 := Nat.le_trans K37.1 (Nat.le_of_eq g40.symm)
  have lt41 : b1 < b40 := Nat.lt_of_lt_of_le f34.lt (Nat.le_of_eq g40.symm)
  have lt42 : b6 < b40 := Nat.lt_of_lt_of_le f35.lt (Nat.le_of_eq g40.symm)
  have lt43 : b31 < b40 := Nat.lt_of_lt_of_le A31.lt (Nat.le_of_eq g40.symm)
  have f44 : Arv Z h40 b1 k1 .byte (own_n p2) (own_l1_0 (own_n p2) q0 q1 (List.replicate 16 (.int (0 : Int32)))) (.int (0 : Int32)) := f34.ext E40
  have f45 : Arv Z h40 b6 k6 .byte ((own_n p2) + (1 : Int32)) ((own_l1_0 (own_n p2) q0 q1 (List.replicate 16 (.int (0 : Int32)))).set (own_n p2).toNatClampNeg (.int (nar .byte ((p3 &&& (127 : Int32)).toInt8.toInt32)))) (.int (0 : Int32)) := f35.ext E40
  have f46 : Exa Z h40 b31 "com/example/meaning_into_numbers/meaningintonumbers/VersionParts" := A31.ext E40
  have zs47 : n0 ≤ h40.size := Nat.le_trans zs36 E40.1
  have K48 : Keep h0 h40 [] := K37.ext E40
  have f49 : Fld Z h40 b40 "com/example/meaning_into_numbers/meaningintonumbers/Version" "bytes" "[B" .null := D40 (Or.inr (hw _ (List.mem_of_getElem? (i := 25) rfl))) (ty := (.array .byte)) (by decide)
  have f50 : Fld Z h40 b40 "com/example/meaning_into_numbers/meaningintonumbers/Version" "parts" "Lcom/example/meaning_into_numbers/meaningintonumbers/VersionParts;" .null := D40 (Or.inr (hw _ (List.mem_of_getElem? (i := 27) rfl))) (ty := (.object "com/example/meaning_into_numbers/meaningintonumbers/VersionParts")) (by decide)
  obtain ⟨_, _, ⟨T51, L51, k51, n51⟩, -, X51, ⟨Lc51, hQ51, l51, y51, z51⟩, st51⟩ := X40.specialBack hx (y := (⟨"com/example/meaning_into_numbers/meaningintonumbers/Version", "<init>", "([BLcom/example/meaning_into_numbers/meaningintonumbers/VersionParts;)V"⟩ : MethodName)) rfl hown (mvT hZ (hw _ (List.mem_of_getElem? (i := 20) rfl))) (mvT hZ (hw _ (List.mem_of_getElem? (i := 21) rfl))) (mvT hZ (hw _ (List.mem_of_getElem? (i := 22) rfl))) (by decide) (backOf (W := 1) (own_rm5 l Z a0 hw [] b40 b1 b31 .null .null h40 n0 zs47 f50 A40 f49 g_b40) hZ (hw _ (List.mem_of_getElem? (i := 22) rfl)) (hw _ (List.mem_of_getElem? (i := 19) rfl)) (by decide) (by decide)) (g := (mkF m 71 #[.val (.long q0), .second, .val (.long q1), .second, .val (.int p2), .val (.int p3), .val (.int (own_n p2)), .val (.int (p3 &&& (127 : Int32))), .val (.ref b1), .val (.ref b6), .val (.ref b31), .unset, .unset, .unset] [(.ref b31), (.ref b1), (.ref b40), (.ref b40)])) rfl (by rw [hml]; rfl) (Steps.refl _) (a := b40) (argsL := [(.ref b1), (.ref b31)]) (rest := [(.ref b40)]) (lenOf own_pd4 rfl) rfl (by show 2 * 0 + _ ≤ _; exact Nat.le_of_eq rfl) (hb hby at_71) (fun _ _ => ⟨rfl, e40, (by decide : 4 + 0 ≤ _), (by decide : 38 + 0 ≤ _)⟩)
  dsimp only [Pt.U, Pt.locs, Pt.cells, Pt.slots] at X51 l51 y51 z51 st51 hQ51
  subst l51 y51 z51
  obtain ⟨rfl, N51q, K51, f52, f53, f54⟩ := hQ51
  have f55 : Arv Z T51.heap b1 k1 .byte (own_n p2) (own_l1_0 (own_n p2) q0 q1 (List.replicate 16 (.int (0 : Int32)))) (.int (0 : Int32)) := f44.keep K51 (ninS (Nat.ne_of_lt lt41) nin0)
  have f56 : Arv Z T51.heap b6 k6 .byte ((own_n p2) + (1 : Int32)) ((own_l1_0 (own_n p2) q0 q1 (List.replicate 16 (.int (0 : Int32)))).set (own_n p2).toNatClampNeg (.int (nar .byte ((p3 &&& (127 : Int32)).toInt8.toInt32)))) (.int (0 : Int32)) := f45.keep K51 (ninS (Nat.ne_of_lt lt42) nin0)
  have f57 : Exa Z T51.heap b31 "com/example/meaning_into_numbers/meaningintonumbers/VersionParts" := f46.keep K51
  have zs58 : n0 ≤ T51.heap.size := Nat.le_trans zs47 K51.1
  have K59 : Keep h0 T51.heap [] := K48.trans K51 (allS (Or.inr sz_b40) all0)
  have N60 := Fr.app N39 N51q
  obtain ⟨cq61, kq61, q61a, q61b, q61c⟩ := isOf hZ rfl f53
  obtain ⟨_, _, ⟨T61, L61, k61, n61⟩, -, X61, ⟨Lc61, hQ61, l61, y61, z61⟩, st61⟩ := X51.virtualBack hx (y := (⟨"com/example/meaning_into_numbers/meaningintonumbers/Version", "hashCode", "()I"⟩ : MethodName)) (z := (⟨"com/example/meaning_into_numbers/meaningintonumbers/Version", "hashCode", "()I"⟩ : MethodName)) hown (mvT hZ (hw _ (List.mem_of_getElem? (i := 28) rfl))) (mvT hZ (hw _ (List.mem_of_getElem? (i := 29) rfl))) (notFace_of_selects (args := #[]) (mvT hZ (hw _ (List.mem_of_getElem? (i := 31) rfl)))) (mvT hZ (hw _ (List.mem_of_getElem? (i := 31) rfl))) (mvT hZ (hw _ (List.mem_of_getElem? (i := 30) rfl))) (by decide) (backOf (W := 0) (own_rm6 l Z a0 hw [] b40 b1 k1 (own_n p2) (own_l1_0 (own_n p2) q0 q1 (List.replicate 16 (.int (0 : Int32)))) T51.heap n0 zs58 f54 f55) hZ (hw _ (List.mem_of_getElem? (i := 32) rfl)) (hw _ (List.mem_of_getElem? (i := 19) rfl)) (by decide) (by decide)) q61a q61c (g := (mkF m 74 #[.val (.long q0), .second, .val (.long q1), .second, .val (.int p2), .val (.int p3), .val (.int (own_n p2)), .val (.int (p3 &&& (127 : Int32))), .val (.ref b1), .val (.ref b6), .val (.ref b31), .unset, .unset, .unset] [(.ref b40)])) rfl (by rw [hml]; rfl) (Steps.refl _) (argsL := []) (rest := []) (lenOf own_pd5 rfl) rfl (by show 2 * 0 + _ ≤ _; exact Nat.le_of_eq rfl) (hb hby at_74) (fun _ _ => ⟨rfl, rfl, (by decide : 4 + 0 ≤ _), (by decide : 38 + 0 ≤ _)⟩)
  dsimp only [Pt.U, Pt.locs, Pt.cells, Pt.slots] at X61 l61 y61 z61 st61 hQ61
  subst l61 y61 z61
  obtain ⟨rfl, N61q, e61⟩ := hQ61
  have N62 := Fr.app N60 N61q
  obtain ⟨T63, h63, X63, e63, E63, A63, D63, -, st63⟩ := newO X61 hx hZ hown (hw _ (List.mem_of_getElem? (i := 17) rfl)) (hw _ (List.mem_of_getElem? (i := 18) rfl)) (hw _ (List.mem_of_getElem? (i := 19) rfl)) e61 (g := (mkF m 79 #[.val (.long q0), .second, .val (.long q1), .second, .val (.int p2), .val (.int p3), .val (.int (own_n p2)), .val (.int (p3 &&& (127 : Int32))), .val (.ref b1), .val (.ref b6), .val (.ref b31), .val (.int (own_v0_77_1 q0 q1 p2)), .unset, .unset] [])) rfl (hb hby at_79) (by decide) (by decide)
  obtain ⟨b63, g63⟩ : ∃ z, z = T51.heap.size := ⟨_, rfl⟩
  rw [← g63] at A63 D63 st63
  have g_b63 : n0 ≤ b63 := Nat.le_trans zs58 (Nat.le_of_eq g63.symm)
  have sz_b63 : h0.size ≤ b63 := Nat.le_trans K59.1 (Nat.le_of_eq g63.symm)
  have lt64 : b1 < b63 := Nat.lt_of_lt_of_le f55.lt (Nat.le_of_eq g63.symm)
  have lt65 : b6 < b63 := Nat.lt_of_lt_of_le f56.lt (Nat.le_of_eq g63.symm)
  have lt66 : b31 < b63 := Nat.lt_of_lt_of_le f57.lt (Nat.le_of_eq g63.symm)
  have lt67 : b40 < b63 := Nat.lt_of_lt_of_le f52.lt (Nat.le_of_eq g63.symm)
  have f68 : Arv Z h63 b1 k1 .byte (own_n p2) (own_l1_0 (own_n p2) q0 q1 (List.replicate 16 (.int (0 : Int32)))) (.int (0 : Int32)) := f55.ext E63
  have f69 : Arv Z h63 b6 k6 .byte ((own_n p2) + (1 : Int32)) ((own_l1_0 (own_n p2) q0 q1 (List.replicate 16 (.int (0 : Int32)))).set (own_n p2).toNatClampNeg (.int (nar .byte ((p3 &&& (127 : Int32)).toInt8.toInt32)))) (.int (0 : Int32)) := f56.ext E63
  have f70 : Exa Z h63 b31 "com/example/meaning_into_numbers/meaningintonumbers/VersionParts" := f57.ext E63
  have f71 : Exa Z h63 b40 "com/example/meaning_into_numbers/meaningintonumbers/Version" := f53.ext E63
  have f72 : Fld Z h63 b40 "com/example/meaning_into_numbers/meaningintonumbers/Version" "bytes" "[B" (.ref b1) := f54.ext E63
  have f73 : Fld Z h63 b40 "com/example/meaning_into_numbers/meaningintonumbers/Version" "parts" "Lcom/example/meaning_into_numbers/meaningintonumbers/VersionParts;" (.ref b31) := f52.ext E63
  have zs74 : n0 ≤ h63.size := Nat.le_trans zs58 E63.1
  have K75 : Keep h0 h63 [] := K59.ext E63
  have f76 : Fld Z h63 b63 "com/example/meaning_into_numbers/meaningintonumbers/Version" "bytes" "[B" .null := D63 (Or.inr (hw _ (List.mem_of_getElem? (i := 25) rfl))) (ty := (.array .byte)) (by decide)
  have f77 : Fld Z h63 b63 "com/example/meaning_into_numbers/meaningintonumbers/Version" "parts" "Lcom/example/meaning_into_numbers/meaningintonumbers/VersionParts;" .null := D63 (Or.inr (hw _ (List.mem_of_getElem? (i := 27) rfl))) (ty := (.object "com/example/meaning_into_numbers/meaningintonumbers/VersionParts")) (by decide)
  obtain ⟨_, _, ⟨T78, L78, k78, n78⟩, -, X78, ⟨Lc78, hQ78, l78, y78, z78⟩, st78⟩ := X63.specialBack hx (y := (⟨"com/example/meaning_into_numbers/meaningintonumbers/Version", "<init>", "([BLcom/example/meaning_into_numbers/meaningintonumbers/VersionParts;)V"⟩ : MethodName)) rfl hown (mvT hZ (hw _ (List.mem_of_getElem? (i := 20) rfl))) (mvT hZ (hw _ (List.mem_of_getElem? (i := 21) rfl))) (mvT hZ (hw _ (List.mem_of_getElem? (i := 22) rfl))) (by decide) (backOf (W := 1) (own_rm5 l Z a0 hw [] b63 b6 b31 .null .null h63 n0 zs74 f77 A63 f76 g_b63) hZ (hw _ (List.mem_of_getElem? (i := 22) rfl)) (hw _ (List.mem_of_getElem? (i := 19) rfl)) (by decide) (by decide)) (g := (mkF m 87 #[.val (.long q0), .second, .val (.long q1), .second, .val (.int p2), .val (.int p3), .val (.int (own_n p2)), .val (.int (p3 &&& (127 : Int32))), .val (.ref b1), .val (.ref b6), .val (.ref b31), .val (.int (own_v0_77_1 q0 q1 p2)), .unset, .unset] [(.ref b31), (.ref b6), (.ref b63), (.ref b63)])) rfl (by rw [hml]; rfl) (Steps.refl _) (a := b63) (argsL := [(.ref b6), (.ref b31)]) (rest := [(.ref b63)]) (lenOf own_pd4 rfl) rfl (by show 2 * 0 + _ ≤ _; exact Nat.le_of_eq rfl) (hb hby at_87) (fun _ _ => ⟨rfl, e63, (by decide : 5 + 0 ≤ _), (by decide : 40 + 0 ≤ _)⟩)
  dsimp only [Pt.U, Pt.locs, Pt.cells, Pt.slots] at X78 l78 y78 z78 st78 hQ78
  subst l78 y78 z78
  obtain ⟨rfl, N78q, K78, f79, f80, f81⟩ := hQ78
  have f82 : Arv Z T78.heap b1 k1 .byte (own_n p2) (own_l1_0 (own_n p2) q0 q1 (List.replicate 16 (.int (0 : Int32)))) (.int (0 : Int32)) := f68.keep K78 (ninS (Nat.ne_of_lt lt64) nin0)
  have f83 : Arv Z T78.heap b6 k6 .byte ((own_n p2) + (1 : Int32)) ((own_l1_0 (own_n p2) q0 q1 (List.replicate 16 (.int (0 : Int32)))).set (own_n p2).toNatClampNeg (.int (nar .byte ((p3 &&& (127 : Int32)).toInt8.toInt32)))) (.int (0 : Int32)) := f69.keep K78 (ninS (Nat.ne_of_lt lt65) nin0)
  have f84 : Exa Z T78.heap b31 "com/example/meaning_into_numbers/meaningintonumbers/VersionParts" := f70.keep K78
  have f85 : Exa Z T78.heap b40 "com/example/meaning_into_numbers/meaningintonumbers/Version" := f71.keep K78
  have f86 : Fld Z T78.heap b40 "com/example/meaning_into_numbers/meaningintonumbers/Version" "bytes" "[B" (.ref b1) := f72.keep K78 (ninS (Nat.ne_of_lt lt67) nin0)
  have f87 : Fld Z T78.heap b40 "com/example/meaning_into_numbers/meaningintonumbers/Version" "parts" "Lcom/example/meaning_into_numbers/meaningintonumbers/VersionParts;" (.ref b31) := f73.keep K78 (ninS (Nat.ne_of_lt lt67) nin0)
  have zs88 : n0 ≤ T78.heap.size := Nat.le_trans zs74 K78.1
  have K89 : Keep h0 T78.heap [] := K75.trans K78 (allS (Or.inr sz_b63) all0)
  have N90 := Fr.app N62 N78q
  obtain ⟨cq91, kq91, q91a, q91b, q91c⟩ := isOf hZ rfl f80
  obtain ⟨_, _, ⟨T91, L91, k91, n91⟩, -, X91, ⟨Lc91, hQ91, l91, y91, z91⟩, st91⟩ := X78.virtualBack hx (y := (⟨"com/example/meaning_into_numbers/meaningintonumbers/Version", "hashCode", "()I"⟩ : MethodName)) (z := (⟨"com/example/meaning_into_numbers/meaningintonumbers/Version", "hashCode", "()I"⟩ : MethodName)) hown (mvT hZ (hw _ (List.mem_of_getElem? (i := 28) rfl))) (mvT hZ (hw _ (List.mem_of_getElem? (i := 29) rfl))) (notFace_of_selects (args := #[]) (mvT hZ (hw _ (List.mem_of_getElem? (i := 31) rfl)))) (mvT hZ (hw _ (List.mem_of_getElem? (i := 31) rfl))) (mvT hZ (hw _ (List.mem_of_getElem? (i := 30) rfl))) (by decide) (backOf (W := 0) (own_rm6 l Z a0 hw [] b63 b6 k6 ((own_n p2) + (1 : Int32)) ((own_l1_0 (own_n p2) q0 q1 (List.replicate 16 (.int (0 : Int32)))).set (own_n p2).toNatClampNeg (.int (nar .byte ((p3 &&& (127 : Int32)).toInt8.toInt32)))) T78.heap n0 zs88 f81 f83) hZ (hw _ (List.mem_of_getElem? (i := 32) rfl)) (hw _ (List.mem_of_getElem? (i := 19) rfl)) (by decide) (by decide)) q91a q91c (g := (mkF m 90 #[.val (.long q0), .second, .val (.long q1), .second, .val (.int p2), .val (.int p3), .val (.int (own_n p2)), .val (.int (p3 &&& (127 : Int32))), .val (.ref b1), .val (.ref b6), .val (.ref b31), .val (.int (own_v0_77_1 q0 q1 p2)), .unset, .unset] [(.ref b63)])) rfl (by rw [hml]; rfl) (Steps.refl _) (argsL := []) (rest := []) (lenOf own_pd5 rfl) rfl (by show 2 * 0 + _ ≤ _; exact Nat.le_of_eq rfl) (hb hby at_90) (fun _ _ => ⟨rfl, rfl, (by decide : 5 + 0 ≤ _), (by decide : 40 + 0 ≤ _)⟩)
  dsimp only [Pt.U, Pt.locs, Pt.cells, Pt.slots] at X91 l91 y91 z91 st91 hQ91
  subst l91 y91 z91
  obtain ⟨rfl, N91q, e91⟩ := hQ91
  have N92 := Fr.app N90 N91q
  have pre93 : ∀ t, Steps p.tables e below (T91.setTop (mkF m 97 #[.val (.long q0), .second, .val (.long q1), .second, .val (.int p2), .val (.int p3), .val (.int (own_n p2)), .val (.int (p3 &&& (127 : Int32))), .val (.ref b1), .val (.ref b6), .val (.ref b31), .val (.int (own_v0_77_1 q0 q1 p2)), .val (.int (own_v0_93_2 q0 q1 p2 p3)), .unset] [(.int (own_n p2))])) t → Steps p.tables e below (s₁.setTop (entryFrame m #[(.long q0), (.long q1), (.int p2), (.int p3)] maxLocals)) t := fun t k => pre0 t (by
      refine XS.iload X0.here hx rfl (hb hby at_0) rfl ?_
      show Steps p.tables e below (s₁.setTop (mkF m 2 #[.val (.long q0), .second, .val (.long q1), .second, .val (.int p2), .val (.int p3), .unset, .unset, .unset, .unset, .unset, .unset, .unset, .unset] [(.int p2)])) _
      refine XS.bipush X0.here hx rfl (hb hby at_2) ?_
      show Steps p.tables e below (s₁.setTop (mkF m 4 #[.val (.long q0), .second, .val (.long q1), .second, .val (.int p2), .val (.int p3), .unset, .unset, .unset, .unset, .unset, .unset, .unset, .unset] [(.int (15 : Int32)), (.int p2)])) _
      refine XS.iand X0.here hx rfl (hb hby at_4) rfl ?_
      show Steps p.tables e below (s₁.setTop (mkF m 5 #[.val (.long q0), .second, .val (.long q1), .second, .val (.int p2), .val (.int p3), .unset, .unset, .unset, .unset, .unset, .unset, .unset, .unset] [(.int (p2 &&& (15 : Int32)))])) _
      refine XS.istore X0.here hx rfl (hb hby at_5) rfl (l' := #[.val (.long q0), .second, .val (.long q1), .second, .val (.int p2), .val (.int p3), .val (.int (own_n p2)), .unset, .unset, .unset, .unset, .unset, .unset, .unset]) rfl ?_
      show Steps p.tables e below (s₁.setTop (mkF m 7 #[.val (.long q0), .second, .val (.long q1), .second, .val (.int p2), .val (.int p3), .val (.int (own_n p2)), .unset, .unset, .unset, .unset, .unset, .unset, .unset] [])) _
      refine XS.iload X0.here hx rfl (hb hby at_7) rfl ?_
      show Steps p.tables e below (s₁.setTop (mkF m 9 #[.val (.long q0), .second, .val (.long q1), .second, .val (.int p2), .val (.int p3), .val (.int (own_n p2)), .unset, .unset, .unset, .unset, .unset, .unset, .unset] [(.int p3)])) _
      refine XS.bipush X0.here hx rfl (hb hby at_9) ?_
      show Steps p.tables e below (s₁.setTop (mkF m 11 #[.val (.long q0), .second, .val (.long q1), .second, .val (.int p2), .val (.int p3), .val (.int (own_n p2)), .unset, .unset, .unset, .unset, .unset, .unset, .unset] [(.int (127 : Int32)), (.int p3)])) _
      refine XS.iand X0.here hx rfl (hb hby at_11) rfl ?_
      show Steps p.tables e below (s₁.setTop (mkF m 12 #[.val (.long q0), .second, .val (.long q1), .second, .val (.int p2), .val (.int p3), .val (.int (own_n p2)), .unset, .unset, .unset, .unset, .unset, .unset, .unset] [(.int (p3 &&& (127 : Int32)))])) _
      refine XS.istore X0.here hx rfl (hb hby at_12) rfl (l' := #[.val (.long q0), .second, .val (.long q1), .second, .val (.int p2), .val (.int p3), .val (.int (own_n p2)), .val (.int (p3 &&& (127 : Int32))), .unset, .unset, .unset, .unset, .unset, .unset]) rfl ?_
      show Steps p.tables e below (s₁.setTop (mkF m 14 #[.val (.long q0), .second, .val (.long q1), .second, .val (.int p2), .val (.int p3), .val (.int (own_n p2)), .val (.int (p3 &&& (127 : Int32))), .unset, .unset, .unset, .unset, .unset, .unset] [])) _
      refine XS.iload X0.here hx rfl (hb hby at_14) rfl ?_
      show Steps p.tables e below (s₁.setTop (mkF m 16 #[.val (.long q0), .second, .val (.long q1), .second, .val (.int p2), .val (.int p3), .val (.int (own_n p2)), .val (.int (p3 &&& (127 : Int32))), .unset, .unset, .unset, .unset, .unset, .unset] [(.int (own_n p2))])) _
      refine st1 _ ?_
      show Steps p.tables e below (T1.setTop (mkF m 18 #[.val (.long q0), .second, .val (.long q1), .second, .val (.int p2), .val (.int p3), .val (.int (own_n p2)), .val (.int (p3 &&& (127 : Int32))), .unset, .unset, .unset, .unset, .unset, .unset] [(.ref b1)])) _
      refine XS.astore X1.here hx rfl (hb hby at_18) rfl rfl (l' := #[.val (.long q0), .second, .val (.long q1), .second, .val (.int p2), .val (.int p3), .val (.int (own_n p2)), .val (.int (p3 &&& (127 : Int32))), .val (.ref b1), .unset, .unset, .unset, .unset, .unset]) rfl ?_
      show Steps p.tables e below (T1.setTop (mkF m 20 #[.val (.long q0), .second, .val (.long q1), .second, .val (.int p2), .val (.int p3), .val (.int (own_n p2)), .val (.int (p3 &&& (127 : Int32))), .val (.ref b1), .unset, .unset, .unset, .unset, .unset] [])) _
      refine XS.iload X1.here hx rfl (hb hby at_20) rfl ?_
      show Steps p.tables e below (T1.setTop (mkF m 22 #[.val (.long q0), .second, .val (.long q1), .second, .val (.int p2), .val (.int p3), .val (.int (own_n p2)), .val (.int (p3 &&& (127 : Int32))), .val (.ref b1), .unset, .unset, .unset, .unset, .unset] [(.int (own_n p2))])) _
      refine XS.iconst X1.here hx rfl (hb hby at_22) ?_
      show Steps p.tables e below (T1.setTop (mkF m 23 #[.val (.long q0), .second, .val (.long q1), .second, .val (.int p2), .val (.int p3), .val (.int (own_n p2)), .val (.int (p3 &&& (127 : Int32))), .val (.ref b1), .unset, .unset, .unset, .unset, .unset] [(.int (1 : Int32)), (.int (own_n p2))])) _
      refine XS.iadd X1.here hx rfl (hb hby at_23) rfl ?_
      show Steps p.tables e below (T1.setTop (mkF m 24 #[.val (.long q0), .second, .val (.long q1), .second, .val (.int p2), .val (.int p3), .val (.int (own_n p2)), .val (.int (p3 &&& (127 : Int32))), .val (.ref b1), .unset, .unset, .unset, .unset, .unset] [(.int ((own_n p2) + (1 : Int32)))])) _
      refine st6 _ ?_
      show Steps p.tables e below (T6.setTop (mkF m 26 #[.val (.long q0), .second, .val (.long q1), .second, .val (.int p2), .val (.int p3), .val (.int (own_n p2)), .val (.int (p3 &&& (127 : Int32))), .val (.ref b1), .unset, .unset, .unset, .unset, .unset] [(.ref b6)])) _
      refine XS.astore X6.here hx rfl (hb hby at_26) rfl rfl (l' := #[.val (.long q0), .second, .val (.long q1), .second, .val (.int p2), .val (.int p3), .val (.int (own_n p2)), .val (.int (p3 &&& (127 : Int32))), .val (.ref b1), .val (.ref b6), .unset, .unset, .unset, .unset]) rfl ?_
      show Steps p.tables e below (T6.setTop (mkF m 28 #[.val (.long q0), .second, .val (.long q1), .second, .val (.int p2), .val (.int p3), .val (.int (own_n p2)), .val (.int (p3 &&& (127 : Int32))), .val (.ref b1), .val (.ref b6), .unset, .unset, .unset, .unset] [])) _
      refine XS.aload X6.here hx rfl (hb hby at_28) rfl rfl ?_
      show Steps p.tables e below (T6.setTop (mkF m 30 #[.val (.long q0), .second, .val (.long q1), .second, .val (.int p2), .val (.int p3), .val (.int (own_n p2)), .val (.int (p3 &&& (127 : Int32))), .val (.ref b1), .val (.ref b6), .unset, .unset, .unset, .unset] [(.ref b1)])) _
      refine XS.iload X6.here hx rfl (hb hby at_30) rfl ?_
      show Steps p.tables e below (T6.setTop (mkF m 32 #[.val (.long q0), .second, .val (.long q1), .second, .val (.int p2), .val (.int p3), .val (.int (own_n p2)), .val (.int (p3 &&& (127 : Int32))), .val (.ref b1), .val (.ref b6), .unset, .unset, .unset, .unset] [(.int (own_n p2)), (.ref b1)])) _
      refine XS.lloadN X6.here hx rfl (hb hby at_32) rfl ?_
      show Steps p.tables e below (T6.setTop (mkF m 33 #[.val (.long q0), .second, .val (.long q1), .second, .val (.int p2), .val (.int p3), .val (.int (own_n p2)), .val (.int (p3 &&& (127 : Int32))), .val (.ref b1), .val (.ref b6), .unset, .unset, .unset, .unset] [(.long q0), (.int (own_n p2)), (.ref b1)])) _
      refine XS.lloadN X6.here hx rfl (hb hby at_33) rfl ?_
      show Steps p.tables e below (T6.setTop (mkF m 34 #[.val (.long q0), .second, .val (.long q1), .second, .val (.int p2), .val (.int p3), .val (.int (own_n p2)), .val (.int (p3 &&& (127 : Int32))), .val (.ref b1), .val (.ref b6), .unset, .unset, .unset, .unset] [(.long q1), (.long q0), (.int (own_n p2)), (.ref b1)])) _
      refine st12 _ ?_
      show Steps p.tables e below (T12.setTop (mkF m 37 #[.val (.long q0), .second, .val (.long q1), .second, .val (.int p2), .val (.int p3), .val (.int (own_n p2)), .val (.int (p3 &&& (127 : Int32))), .val (.ref b1), .val (.ref b6), .unset, .unset, .unset, .unset] [])) _
      refine XS.aload X12.here hx rfl (hb hby at_37) rfl rfl ?_
      show Steps p.tables e below (T12.setTop (mkF m 39 #[.val (.long q0), .second, .val (.long q1), .second, .val (.int p2), .val (.int p3), .val (.int (own_n p2)), .val (.int (p3 &&& (127 : Int32))), .val (.ref b1), .val (.ref b6), .unset, .unset, .unset, .unset] [(.ref b6)])) _
      refine XS.iload X12.here hx rfl (hb hby at_39) rfl ?_
      show Steps p.tables e below (T12.setTop (mkF m 41 #[.val (.long q0), .second, .val (.long q1), .second, .val (.int p2), .val (.int p3), .val (.int (own_n p2)), .val (.int (p3 &&& (127 : Int32))), .val (.ref b1), .val (.ref b6), .unset, .unset, .unset, .unset] [(.int (own_n p2)), (.ref b6)])) _
      refine XS.lloadN X12.here hx rfl (hb hby at_41) rfl ?_
      show Steps p.tables e below (T12.setTop (mkF m 42 #[.val (.long q0), .second, .val (.long q1), .second, .val (.int p2), .val (.int p3), .val (.int (own_n p2)), .val (.int (p3 &&& (127 : Int32))), .val (.ref b1), .val (.ref b6), .unset, .unset, .unset, .unset] [(.long q0), (.int (own_n p2)), (.ref b6)])) _
      refine XS.lloadN X12.here hx rfl (hb hby at_42) rfl ?_
      show Steps p.tables e below (T12.setTop (mkF m 43 #[.val (.long q0), .second, .val (.long q1), .second, .val (.int p2), .val (.int p3), .val (.int (own_n p2)), .val (.int (p3 &&& (127 : Int32))), .val (.ref b1), .val (.ref b6), .unset, .unset, .unset, .unset] [(.long q1), (.long q0), (.int (own_n p2)), (.ref b6)])) _
      refine st18 _ ?_
      show Steps p.tables e below (T18.setTop (mkF m 46 #[.val (.long q0), .second, .val (.long q1), .second, .val (.int p2), .val (.int p3), .val (.int (own_n p2)), .val (.int (p3 &&& (127 : Int32))), .val (.ref b1), .val (.ref b6), .unset, .unset, .unset, .unset] [])) _
      refine XS.aload X18.here hx rfl (hb hby at_46) rfl rfl ?_
      show Steps p.tables e below (T18.setTop (mkF m 48 #[.val (.long q0), .second, .val (.long q1), .second, .val (.int p2), .val (.int p3), .val (.int (own_n p2)), .val (.int (p3 &&& (127 : Int32))), .val (.ref b1), .val (.ref b6), .unset, .unset, .unset, .unset] [(.ref b6)])) _
      refine XS.iload X18.here hx rfl (hb hby at_48) rfl ?_
      show Steps p.tables e below (T18.setTop (mkF m 50 #[.val (.long q0), .second, .val (.long q1), .second, .val (.int p2), .val (.int p3), .val (.int (own_n p2)), .val (.int (p3 &&& (127 : Int32))), .val (.ref b1), .val (.ref b6), .unset, .unset, .unset, .unset] [(.int (own_n p2)), (.ref b6)])) _
      refine XS.iload X18.here hx rfl (hb hby at_50) rfl ?_
      show Steps p.tables e below (T18.setTop (mkF m 52 #[.val (.long q0), .second, .val (.long q1), .second, .val (.int p2), .val (.int p3), .val (.int (own_n p2)), .val (.int (p3 &&& (127 : Int32))), .val (.ref b1), .val (.ref b6), .unset, .unset, .unset, .unset] [(.int (p3 &&& (127 : Int32))), (.int (own_n p2)), (.ref b6)])) _
      refine XS.i2b X18.here hx rfl (hb hby at_52) rfl ?_
      show Steps p.tables e below (T18.setTop (mkF m 53 #[.val (.long q0), .second, .val (.long q1), .second, .val (.int p2), .val (.int p3), .val (.int (own_n p2)), .val (.int (p3 &&& (127 : Int32))), .val (.ref b1), .val (.ref b6), .unset, .unset, .unset, .unset] [(.int ((p3 &&& (127 : Int32)).toInt8.toInt32)), (.int (own_n p2)), (.ref b6)])) _
      refine st25 _ ?_
      show Steps p.tables e below (T25.setTop (mkF m 54 #[.val (.long q0), .second, .val (.long q1), .second, .val (.int p2), .val (.int p3), .val (.int (own_n p2)), .val (.int (p3 &&& (127 : Int32))), .val (.ref b1), .val (.ref b6), .unset, .unset, .unset, .unset] [])) _
      refine st31 _ ?_
      show Steps p.tables e below (T31.setTop (mkF m 57 #[.val (.long q0), .second, .val (.long q1), .second, .val (.int p2), .val (.int p3), .val (.int (own_n p2)), .val (.int (p3 &&& (127 : Int32))), .val (.ref b1), .val (.ref b6), .unset, .unset, .unset, .unset] [(.ref b31)])) _
      refine XS.dup X31.here hx rfl (hb hby at_57) rfl rfl ?_
      show Steps p.tables e below (T31.setTop (mkF m 58 #[.val (.long q0), .second, .val (.long q1), .second, .val (.int p2), .val (.int p3), .val (.int (own_n p2)), .val (.int (p3 &&& (127 : Int32))), .val (.ref b1), .val (.ref b6), .unset, .unset, .unset, .unset] [(.ref b31), (.ref b31)])) _
      refine st38.trans ?_
      show Steps p.tables e below (T38.setTop (mkF m 61 #[.val (.long q0), .second, .val (.long q1), .second, .val (.int p2), .val (.int p3), .val (.int (own_n p2)), .val (.int (p3 &&& (127 : Int32))), .val (.ref b1), .val (.ref b6), .unset, .unset, .unset, .unset] [(.ref b31)])) _
      refine XS.astore X38.here hx rfl (hb hby at_61) rfl rfl (l' := #[.val (.long q0), .second, .val (.long q1), .second, .val (.int p2), .val (.int p3), .val (.int (own_n p2)), .val (.int (p3 &&& (127 : Int32))), .val (.ref b1), .val (.ref b6), .val (.ref b31), .unset, .unset, .unset]) rfl ?_
      show Steps p.tables e below (T38.setTop (mkF m 63 #[.val (.long q0), .second, .val (.long q1), .second, .val (.int p2), .val (.int p3), .val (.int (own_n p2)), .val (.int (p3 &&& (127 : Int32))), .val (.ref b1), .val (.ref b6), .val (.ref b31), .unset, .unset, .unset] [])) _
      refine st40 _ ?_
      show Steps p.tables e below (T40.setTop (mkF m 66 #[.val (.long q0), .second, .val (.long q1), .second, .val (.int p2), .val (.int p3), .val (.int (own_n p2)), .val (.int (p3 &&& (127 : Int32))), .val (.ref b1), .val (.ref b6), .val (.ref b31), .unset, .unset, .unset] [(.ref b40)])) _
      refine XS.dup X40.here hx rfl (hb hby at_66) rfl rfl ?_
      show Steps p.tables e below (T40.setTop (mkF m 67 #[.val (.long q0), .second, .val (.long q1), .second, .val (.int p2), .val (.int p3), .val (.int (own_n p2)), .val (.int (p3 &&& (127 : Int32))), .val (.ref b1), .val (.ref b6), .val (.ref b31), .unset, .unset, .unset] [(.ref b40), (.ref b40)])) _
      refine XS.aload X40.here hx rfl (hb hby at_67) rfl rfl ?_
      show Steps p.tables e below (T40.setTop (mkF m 69 #[.val (.long q0), .second, .val (.long q1), .second, .val (.int p2), .val (.int p3), .val (.int (own_n p2)), .val (.int (p3 &&& (127 : Int32))), .val (.ref b1), .val (.ref b6), .val (.ref b31), .unset, .unset, .unset] [(.ref b1), (.ref b40), (.ref b40)])) _
      refine XS.aload X40.here hx rfl (hb hby at_69) rfl rfl ?_
      show Steps p.tables e below (T40.setTop (mkF m 71 #[.val (.long q0), .second, .val (.long q1), .second, .val (.int p2), .val (.int p3), .val (.int (own_n p2)), .val (.int (p3 &&& (127 : Int32))), .val (.ref b1), .val (.ref b6), .val (.ref b31), .unset, .unset, .unset] [(.ref b31), (.ref b1), (.ref b40), (.ref b40)])) _
      refine st51.trans ?_
      show Steps p.tables e below (T51.setTop (mkF m 74 #[.val (.long q0), .second, .val (.long q1), .second, .val (.int p2), .val (.int p3), .val (.int (own_n p2)), .val (.int (p3 &&& (127 : Int32))), .val (.ref b1), .val (.ref b6), .val (.ref b31), .unset, .unset, .unset] [(.ref b40)])) _
      refine st61.trans ?_
      show Steps p.tables e below (T61.setTop (mkF m 77 #[.val (.long q0), .second, .val (.long q1), .second, .val (.int p2), .val (.int p3), .val (.int (own_n p2)), .val (.int (p3 &&& (127 : Int32))), .val (.ref b1), .val (.ref b6), .val (.ref b31), .unset, .unset, .unset] [(.int (own_f6 (own_n p2) (own_l1_0 (own_n p2) q0 q1 (List.replicate 16 (.int (0 : Int32))))))])) _
      refine XS.istore X61.here hx rfl (hb hby at_77) rfl (l' := #[.val (.long q0), .second, .val (.long q1), .second, .val (.int p2), .val (.int p3), .val (.int (own_n p2)), .val (.int (p3 &&& (127 : Int32))), .val (.ref b1), .val (.ref b6), .val (.ref b31), .val (.int (own_v0_77_1 q0 q1 p2)), .unset, .unset]) rfl ?_
      show Steps p.tables e below (T61.setTop (mkF m 79 #[.val (.long q0), .second, .val (.long q1), .second, .val (.int p2), .val (.int p3), .val (.int (own_n p2)), .val (.int (p3 &&& (127 : Int32))), .val (.ref b1), .val (.ref b6), .val (.ref b31), .val (.int (own_v0_77_1 q0 q1 p2)), .unset, .unset] [])) _
      refine st63 _ ?_
      show Steps p.tables e below (T63.setTop (mkF m 82 #[.val (.long q0), .second, .val (.long q1), .second, .val (.int p2), .val (.int p3), .val (.int (own_n p2)), .val (.int (p3 &&& (127 : Int32))), .val (.ref b1), .val (.ref b6), .val (.ref b31), .val (.int (own_v0_77_1 q0 q1 p2)), .unset, .unset] [(.ref b63)])) _
      refine XS.dup X63.here hx rfl (hb hby at_82) rfl rfl ?_
      show Steps p.tables e below (T63.setTop (mkF m 83 #[.val (.long q0), .second, .val (.long q1), .second, .val (.int p2), .val (.int p3), .val (.int (own_n p2)), .val (.int (p3 &&& (127 : Int32))), .val (.ref b1), .val (.ref b6), .val (.ref b31), .val (.int (own_v0_77_1 q0 q1 p2)), .unset, .unset] [(.ref b63), (.ref b63)])) _
      refine XS.aload X63.here hx rfl (hb hby at_83) rfl rfl ?_
      show Steps p.tables e below (T63.setTop (mkF m 85 #[.val (.long q0), .second, .val (.long q1), .second, .val (.int p2), .val (.int p3), .val (.int (own_n p2)), .val (.int (p3 &&& (127 : Int32))), .val (.ref b1), .val (.ref b6), .val (.ref b31), .val (.int (own_v0_77_1 q0 q1 p2)), .unset, .unset] [(.ref b6), (.ref b63), (.ref b63)])) _
      refine XS.aload X63.here hx rfl (hb hby at_85) rfl rfl ?_
      show Steps p.tables e below (T63.setTop (mkF m 87 #[.val (.long q0), .second, .val (.long q1), .second, .val (.int p2), .val (.int p3), .val (.int (own_n p2)), .val (.int (p3 &&& (127 : Int32))), .val (.ref b1), .val (.ref b6), .val (.ref b31), .val (.int (own_v0_77_1 q0 q1 p2)), .unset, .unset] [(.ref b31), (.ref b6), (.ref b63), (.ref b63)])) _
      refine st78.trans ?_
      show Steps p.tables e below (T78.setTop (mkF m 90 #[.val (.long q0), .second, .val (.long q1), .second, .val (.int p2), .val (.int p3), .val (.int (own_n p2)), .val (.int (p3 &&& (127 : Int32))), .val (.ref b1), .val (.ref b6), .val (.ref b31), .val (.int (own_v0_77_1 q0 q1 p2)), .unset, .unset] [(.ref b63)])) _
      refine st91.trans ?_
      show Steps p.tables e below (T91.setTop (mkF m 93 #[.val (.long q0), .second, .val (.long q1), .second, .val (.int p2), .val (.int p3), .val (.int (own_n p2)), .val (.int (p3 &&& (127 : Int32))), .val (.ref b1), .val (.ref b6), .val (.ref b31), .val (.int (own_v0_77_1 q0 q1 p2)), .unset, .unset] [(.int (own_f6 ((own_n p2) + (1 : Int32)) ((own_l1_0 (own_n p2) q0 q1 (List.replicate 16 (.int (0 : Int32)))).set (own_n p2).toNatClampNeg (.int (nar .byte ((p3 &&& (127 : Int32)).toInt8.toInt32))))))])) _
      refine XS.istore X91.here hx rfl (hb hby at_93) rfl (l' := #[.val (.long q0), .second, .val (.long q1), .second, .val (.int p2), .val (.int p3), .val (.int (own_n p2)), .val (.int (p3 &&& (127 : Int32))), .val (.ref b1), .val (.ref b6), .val (.ref b31), .val (.int (own_v0_77_1 q0 q1 p2)), .val (.int (own_v0_93_2 q0 q1 p2 p3)), .unset]) rfl ?_
      show Steps p.tables e below (T91.setTop (mkF m 95 #[.val (.long q0), .second, .val (.long q1), .second, .val (.int p2), .val (.int p3), .val (.int (own_n p2)), .val (.int (p3 &&& (127 : Int32))), .val (.ref b1), .val (.ref b6), .val (.ref b31), .val (.int (own_v0_77_1 q0 q1 p2)), .val (.int (own_v0_93_2 q0 q1 p2 p3)), .unset] [])) _
      refine XS.iload X91.here hx rfl (hb hby at_95) rfl ?_
      show Steps p.tables e below (T91.setTop (mkF m 97 #[.val (.long q0), .second, .val (.long q1), .second, .val (.int p2), .val (.int p3), .val (.int (own_n p2)), .val (.int (p3 &&& (127 : Int32))), .val (.ref b1), .val (.ref b6), .val (.ref b31), .val (.int (own_v0_77_1 q0 q1 p2)), .val (.int (own_v0_93_2 q0 q1 p2 p3)), .unset] [(.int (own_n p2))])) _
      exact k)
  by_cases hc94 : (own_n p2) = (0 : Int32)
  · have pre95 : ∀ t, Steps p.tables e below (T91.setTop (mkF m 102 #[.val (.long q0), .second, .val (.long q1), .second, .val (.int p2), .val (.int p3), .val (.int (own_n p2)), .val (.int (p3 &&& (127 : Int32))), .val (.ref b1), .val (.ref b6), .val (.ref b31), .val (.int (own_v0_77_1 q0 q1 p2)), .val (.int (own_v0_93_2 q0 q1 p2 p3)), .unset] [(.int (own_v0_77_1 q0 q1 p2))])) t → Steps p.tables e below (s₁.setTop (entryFrame m #[(.long q0), (.long q1), (.int p2), (.int p3)] maxLocals)) t := fun t k => pre93 t (by
        refine XS.ifNo X91.here hx rfl (hb hby at_97) rfl ((if0 _ _).trans (teq hc94).2) ?_
        show Steps p.tables e below (T91.setTop (mkF m 100 #[.val (.long q0), .second, .val (.long q1), .second, .val (.int p2), .val (.int p3), .val (.int (own_n p2)), .val (.int (p3 &&& (127 : Int32))), .val (.ref b1), .val (.ref b6), .val (.ref b31), .val (.int (own_v0_77_1 q0 q1 p2)), .val (.int (own_v0_93_2 q0 q1 p2 p3)), .unset] [])) _
        refine XS.iload X91.here hx rfl (hb hby at_100) rfl ?_
        show Steps p.tables e below (T91.setTop (mkF m 102 #[.val (.long q0), .second, .val (.long q1), .second, .val (.int p2), .val (.int p3), .val (.int (own_n p2)), .val (.int (p3 &&& (127 : Int32))), .val (.ref b1), .val (.ref b6), .val (.ref b31), .val (.int (own_v0_77_1 q0 q1 p2)), .val (.int (own_v0_93_2 q0 q1 p2 p3)), .unset] [(.int (own_v0_77_1 q0 q1 p2))])) _
        exact k)
    by_cases hc96 : (own_v0_77_1 q0 q1 p2) = (0 : Int32)
    · have pre97 : ∀ t, Steps p.tables e below (T91.setTop (mkF m 127 #[.val (.long q0), .second, .val (.long q1), .second, .val (.int p2), .val (.int p3), .val (.int (own_n p2)), .val (.int (p3 &&& (127 : Int32))), .val (.ref b1), .val (.ref b6), .val (.ref b31), .val (.int (own_v0_77_1 q0 q1 p2)), .val (.int (own_v0_93_2 q0 q1 p2 p3)), .val (.int (1 : Int32))] [(.int (((31 : Int32) * (own_v0_77_1 q0 q1 p2)) + (p3 &&& (127 : Int32)))), (.int (own_v0_93_2 q0 q1 p2 p3))])) t → Steps p.tables e below (s₁.setTop (entryFrame m #[(.long q0), (.long q1), (.int p2), (.int p3)] maxLocals)) t := fun t k => pre95 t (by
          refine XS.ifNo X91.here hx rfl (hb hby at_102) rfl ((if0 _ _).trans (teq hc96).2) ?_
          show Steps p.tables e below (T91.setTop (mkF m 105 #[.val (.long q0), .second, .val (.long q1), .second, .val (.int p2), .val (.int p3), .val (.int (own_n p2)), .val (.int (p3 &&& (127 : Int32))), .val (.ref b1), .val (.ref b6), .val (.ref b31), .val (.int (own_v0_77_1 q0 q1 p2)), .val (.int (own_v0_93_2 q0 q1 p2 p3)), .unset] [])) _
          refine XS.iconst X91.here hx rfl (hb hby at_105) ?_
          show Steps p.tables e below (T91.setTop (mkF m 106 #[.val (.long q0), .second, .val (.long q1), .second, .val (.int p2), .val (.int p3), .val (.int (own_n p2)), .val (.int (p3 &&& (127 : Int32))), .val (.ref b1), .val (.ref b6), .val (.ref b31), .val (.int (own_v0_77_1 q0 q1 p2)), .val (.int (own_v0_93_2 q0 q1 p2 p3)), .unset] [(.int (1 : Int32))])) _
          refine XS.goto X91.here hx rfl (pc0 := 106) (pc' := 110) rfl (hb hby at_106) (by decide) (by decide) ?_
          show Steps p.tables e below (T91.setTop (mkF m 110 #[.val (.long q0), .second, .val (.long q1), .second, .val (.int p2), .val (.int p3), .val (.int (own_n p2)), .val (.int (p3 &&& (127 : Int32))), .val (.ref b1), .val (.ref b6), .val (.ref b31), .val (.int (own_v0_77_1 q0 q1 p2)), .val (.int (own_v0_93_2 q0 q1 p2 p3)), .unset] [(.int (1 : Int32))])) _
          refine XS.istore X91.here hx rfl (hb hby at_110) rfl (l' := #[.val (.long q0), .second, .val (.long q1), .second, .val (.int p2), .val (.int p3), .val (.int (own_n p2)), .val (.int (p3 &&& (127 : Int32))), .val (.ref b1), .val (.ref b6), .val (.ref b31), .val (.int (own_v0_77_1 q0 q1 p2)), .val (.int (own_v0_93_2 q0 q1 p2 p3)), .val (.int (1 : Int32))]) rfl ?_
          show Steps p.tables e below (T91.setTop (mkF m 112 #[.val (.long q0), .second, .val (.long q1), .second, .val (.int p2), .val (.int p3), .val (.int (own_n p2)), .val (.int (p3 &&& (127 : Int32))), .val (.ref b1), .val (.ref b6), .val (.ref b31), .val (.int (own_v0_77_1 q0 q1 p2)), .val (.int (own_v0_93_2 q0 q1 p2 p3)), .val (.int (1 : Int32))] [])) _
          refine XS.iload X91.here hx rfl (hb hby at_112) rfl ?_
          show Steps p.tables e below (T91.setTop (mkF m 114 #[.val (.long q0), .second, .val (.long q1), .second, .val (.int p2), .val (.int p3), .val (.int (own_n p2)), .val (.int (p3 &&& (127 : Int32))), .val (.ref b1), .val (.ref b6), .val (.ref b31), .val (.int (own_v0_77_1 q0 q1 p2)), .val (.int (own_v0_93_2 q0 q1 p2 p3)), .val (.int (1 : Int32))] [(.int (1 : Int32))])) _
          refine XS.ifNo X91.here hx rfl (hb hby at_114) rfl ((if0 _ _).trans (feq (by decide : ¬ ((1 : Int32) = (0 : Int32)))).1) ?_
          show Steps p.tables e below (T91.setTop (mkF m 117 #[.val (.long q0), .second, .val (.long q1), .second, .val (.int p2), .val (.int p3), .val (.int (own_n p2)), .val (.int (p3 &&& (127 : Int32))), .val (.ref b1), .val (.ref b6), .val (.ref b31), .val (.int (own_v0_77_1 q0 q1 p2)), .val (.int (own_v0_93_2 q0 q1 p2 p3)), .val (.int (1 : Int32))] [])) _
          refine XS.iload X91.here hx rfl (hb hby at_117) rfl ?_
          show Steps p.tables e below (T91.setTop (mkF m 119 #[.val (.long q0), .second, .val (.long q1), .second, .val (.int p2), .val (.int p3), .val (.int (own_n p2)), .val (.int (p3 &&& (127 : Int32))), .val (.ref b1), .val (.ref b6), .val (.ref b31), .val (.int (own_v0_77_1 q0 q1 p2)), .val (.int (own_v0_93_2 q0 q1 p2 p3)), .val (.int (1 : Int32))] [(.int (own_v0_93_2 q0 q1 p2 p3))])) _
          refine XS.bipush X91.here hx rfl (hb hby at_119) ?_
          show Steps p.tables e below (T91.setTop (mkF m 121 #[.val (.long q0), .second, .val (.long q1), .second, .val (.int p2), .val (.int p3), .val (.int (own_n p2)), .val (.int (p3 &&& (127 : Int32))), .val (.ref b1), .val (.ref b6), .val (.ref b31), .val (.int (own_v0_77_1 q0 q1 p2)), .val (.int (own_v0_93_2 q0 q1 p2 p3)), .val (.int (1 : Int32))] [(.int (31 : Int32)), (.int (own_v0_93_2 q0 q1 p2 p3))])) _
          refine XS.iload X91.here hx rfl (hb hby at_121) rfl ?_
          show Steps p.tables e below (T91.setTop (mkF m 123 #[.val (.long q0), .second, .val (.long q1), .second, .val (.int p2), .val (.int p3), .val (.int (own_n p2)), .val (.int (p3 &&& (127 : Int32))), .val (.ref b1), .val (.ref b6), .val (.ref b31), .val (.int (own_v0_77_1 q0 q1 p2)), .val (.int (own_v0_93_2 q0 q1 p2 p3)), .val (.int (1 : Int32))] [(.int (own_v0_77_1 q0 q1 p2)), (.int (31 : Int32)), (.int (own_v0_93_2 q0 q1 p2 p3))])) _
          refine XS.imul X91.here hx rfl (hb hby at_123) rfl ?_
          show Steps p.tables e below (T91.setTop (mkF m 124 #[.val (.long q0), .second, .val (.long q1), .second, .val (.int p2), .val (.int p3), .val (.int (own_n p2)), .val (.int (p3 &&& (127 : Int32))), .val (.ref b1), .val (.ref b6), .val (.ref b31), .val (.int (own_v0_77_1 q0 q1 p2)), .val (.int (own_v0_93_2 q0 q1 p2 p3)), .val (.int (1 : Int32))] [(.int ((31 : Int32) * (own_v0_77_1 q0 q1 p2))), (.int (own_v0_93_2 q0 q1 p2 p3))])) _
          refine XS.iload X91.here hx rfl (hb hby at_124) rfl ?_
          show Steps p.tables e below (T91.setTop (mkF m 126 #[.val (.long q0), .second, .val (.long q1), .second, .val (.int p2), .val (.int p3), .val (.int (own_n p2)), .val (.int (p3 &&& (127 : Int32))), .val (.ref b1), .val (.ref b6), .val (.ref b31), .val (.int (own_v0_77_1 q0 q1 p2)), .val (.int (own_v0_93_2 q0 q1 p2 p3)), .val (.int (1 : Int32))] [(.int (p3 &&& (127 : Int32))), (.int ((31 : Int32) * (own_v0_77_1 q0 q1 p2))), (.int (own_v0_93_2 q0 q1 p2 p3))])) _
          refine XS.iadd X91.here hx rfl (hb hby at_126) rfl ?_
          show Steps p.tables e below (T91.setTop (mkF m 127 #[.val (.long q0), .second, .val (.long q1), .second, .val (.int p2), .val (.int p3), .val (.int (own_n p2)), .val (.int (p3 &&& (127 : Int32))), .val (.ref b1), .val (.ref b6), .val (.ref b31), .val (.int (own_v0_77_1 q0 q1 p2)), .val (.int (own_v0_93_2 q0 q1 p2 p3)), .val (.int (1 : Int32))] [(.int (((31 : Int32) * (own_v0_77_1 q0 q1 p2)) + (p3 &&& (127 : Int32)))), (.int (own_v0_93_2 q0 q1 p2 p3))])) _
          exact k)
      by_cases hc98 : (own_v0_93_2 q0 q1 p2 p3) = (((31 : Int32) * (own_v0_77_1 q0 q1 p2)) + (p3 &&& (127 : Int32)))
      · have pre99 : ∀ t, Steps p.tables e below (T91.setTop (mkF m 135 #[.val (.long q0), .second, .val (.long q1), .second, .val (.int p2), .val (.int p3), .val (.int (own_n p2)), .val (.int (p3 &&& (127 : Int32))), .val (.ref b1), .val (.ref b6), .val (.ref b31), .val (.int (own_v0_77_1 q0 q1 p2)), .val (.int (own_v0_93_2 q0 q1 p2 p3)), .val (.int (1 : Int32))] [(.int (1 : Int32))])) t → Steps p.tables e below (s₁.setTop (entryFrame m #[(.long q0), (.long q1), (.int p2), (.int p3)] maxLocals)) t := fun t k => pre97 t (by
            refine XS.icmpNo X91.here hx rfl (hb hby at_127) rfl (teq hc98).2 ?_
            show Steps p.tables e below (T91.setTop (mkF m 130 #[.val (.long q0), .second, .val (.long q1), .second, .val (.int p2), .val (.int p3), .val (.int (own_n p2)), .val (.int (p3 &&& (127 : Int32))), .val (.ref b1), .val (.ref b6), .val (.ref b31), .val (.int (own_v0_77_1 q0 q1 p2)), .val (.int (own_v0_93_2 q0 q1 p2 p3)), .val (.int (1 : Int32))] [])) _
            refine XS.iconst X91.here hx rfl (hb hby at_130) ?_
            show Steps p.tables e below (T91.setTop (mkF m 131 #[.val (.long q0), .second, .val (.long q1), .second, .val (.int p2), .val (.int p3), .val (.int (own_n p2)), .val (.int (p3 &&& (127 : Int32))), .val (.ref b1), .val (.ref b6), .val (.ref b31), .val (.int (own_v0_77_1 q0 q1 p2)), .val (.int (own_v0_93_2 q0 q1 p2 p3)), .val (.int (1 : Int32))] [(.int (1 : Int32))])) _
            refine XS.goto X91.here hx rfl (pc0 := 131) (pc' := 135) rfl (hb hby at_131) (by decide) (by decide) ?_
            show Steps p.tables e below (T91.setTop (mkF m 135 #[.val (.long q0), .second, .val (.long q1), .second, .val (.int p2), .val (.int p3), .val (.int (own_n p2)), .val (.int (p3 &&& (127 : Int32))), .val (.ref b1), .val (.ref b6), .val (.ref b31), .val (.int (own_v0_77_1 q0 q1 p2)), .val (.int (own_v0_93_2 q0 q1 p2 p3)), .val (.int (1 : Int32))] [(.int (1 : Int32))])) _
            exact k)
        obtain ⟨fs, hr, hrun, hended, hW, hsame⟩ := X91.leave (v := some (.int (1 : Int32))) (fun h => by rw [Bd.returns] at h; cases h) (hlocks := hlk)
        refine ⟨_, _, pre99 _ ?_, hrun, hended, _, _, rfl, ?_, ⟨_, rfl⟩, hW, hsame.mono (by decide) (by decide)⟩
        · show Steps p.tables e below (T91.setTop (mkF m 135 #[.val (.long q0), .second, .val (.long q1), .second, .val (.int p2), .val (.int p3), .val (.int (own_n p2)), .val (.int (p3 &&& (127 : Int32))), .val (.ref b1), .val (.ref b6), .val (.ref b31), .val (.int (own_v0_77_1 q0 q1 p2)), .val (.int (own_v0_93_2 q0 q1 p2 p3)), .val (.int (1 : Int32))] [(.int (1 : Int32))])) _
          exact retN X91 hx (t := .boolean) Bd.returns (by simp) (hb hby at_135) hr
        · show own_Q0 Z q0 q1 p2 p3 h0 n0 _ T91.heap _; exact ⟨(by show some (Value.int _) = some (.int (own_f0 q0 q1 p2 p3)); unfold own_f0; rw [if_pos hc94, if_pos hc96, if_pos hc98]), N92⟩
      · have pre100 : ∀ t, Steps p.tables e below (T91.setTop (mkF m 135 #[.val (.long q0), .second, .val (.long q1), .second, .val (.int p2), .val (.int p3), .val (.int (own_n p2)), .val (.int (p3 &&& (127 : Int32))), .val (.ref b1), .val (.ref b6), .val (.ref b31), .val (.int (own_v0_77_1 q0 q1 p2)), .val (.int (own_v0_93_2 q0 q1 p2 p3)), .val (.int (1 : Int32))] [(.int (0 : Int32))])) t → Steps p.tables e below (s₁.setTop (entryFrame m #[(.long q0), (.long q1), (.int p2), (.int p3)] maxLocals)) t := fun t k => pre97 t (by
            refine XS.icmpYes X91.here hx rfl (pc0 := 127) (pc' := 134) rfl (hb hby at_127) rfl (feq hc98).2 (by decide) (by decide) ?_
            show Steps p.tables e below (T91.setTop (mkF m 134 #[.val (.long q0), .second, .val (.long q1), .second, .val (.int p2), .val (.int p3), .val (.int (own_n p2)), .val (.int (p3 &&& (127 : Int32))), .val (.ref b1), .val (.ref b6), .val (.ref b31), .val (.int (own_v0_77_1 q0 q1 p2)), .val (.int (own_v0_93_2 q0 q1 p2 p3)), .val (.int (1 : Int32))] [])) _
            refine XS.iconst X91.here hx rfl (hb hby at_134) ?_
            show Steps p.tables e below (T91.setTop (mkF m 135 #[.val (.long q0), .second, .val (.long q1), .second, .val (.int p2), .val (.int p3), .val (.int (own_n p2)), .val (.int (p3 &&& (127 : Int32))), .val (.ref b1), .val (.ref b6), .val (.ref b31), .val (.int (own_v0_77_1 q0 q1 p2)), .val (.int (own_v0_93_2 q0 q1 p2 p3)), .val (.int (1 : Int32))] [(.int (0 : Int32))])) _
            exact k)
        obtain ⟨fs, hr, hrun, hended, hW, hsame⟩ := X91.leave (v := some (.int (0 : Int32))) (fun h => by rw [Bd.returns] at h; cases h) (hlocks := hlk)
        refine ⟨_, _, pre100 _ ?_, hrun, hended, _, _, rfl, ?_, ⟨_, rfl⟩, hW, hsame.mono (by decide) (by decide)⟩
        · show Steps p.tables e below (T91.setTop (mkF m 135 #[.val (.long q0), .second, .val (.long q1), .second, .val (.int p2), .val (.int p3), .val (.int (own_n p2)), .val (.int (p3 &&& (127 : Int32))), .val (.ref b1), .val (.ref b6), .val (.ref b31), .val (.int (own_v0_77_1 q0 q1 p2)), .val (.int (own_v0_93_2 q0 q1 p2 p3)), .val (.int (1 : Int32))] [(.int (0 : Int32))])) _
          exact retN X91 hx (t := .boolean) Bd.returns (by simp) (hb hby at_135) hr
        · show own_Q0 Z q0 q1 p2 p3 h0 n0 _ T91.heap _; exact ⟨(by show some (Value.int _) = some (.int (own_f0 q0 q1 p2 p3)); unfold own_f0; rw [if_pos hc94, if_pos hc96, if_neg hc98]), N92⟩
    · have pre101 : ∀ t, Steps p.tables e below (T91.setTop (mkF m 135 #[.val (.long q0), .second, .val (.long q1), .second, .val (.int p2), .val (.int p3), .val (.int (own_n p2)), .val (.int (p3 &&& (127 : Int32))), .val (.ref b1), .val (.ref b6), .val (.ref b31), .val (.int (own_v0_77_1 q0 q1 p2)), .val (.int (own_v0_93_2 q0 q1 p2 p3)), .val (.int (0 : Int32))] [(.int (0 : Int32))])) t → Steps p.tables e below (s₁.setTop (entryFrame m #[(.long q0), (.long q1), (.int p2), (.int p3)] maxLocals)) t := fun t k => pre95 t (by
          refine XS.ifYes X91.here hx rfl (pc0 := 102) (pc' := 109) rfl (hb hby at_102) rfl ((if0 _ _).trans (feq hc96).2) (by decide) (by decide) ?_
          show Steps p.tables e below (T91.setTop (mkF m 109 #[.val (.long q0), .second, .val (.long q1), .second, .val (.int p2), .val (.int p3), .val (.int (own_n p2)), .val (.int (p3 &&& (127 : Int32))), .val (.ref b1), .val (.ref b6), .val (.ref b31), .val (.int (own_v0_77_1 q0 q1 p2)), .val (.int (own_v0_93_2 q0 q1 p2 p3)), .unset] [])) _
          refine XS.iconst X91.here hx rfl (hb hby at_109) ?_
          show Steps p.tables e below (T91.setTop (mkF m 110 #[.val (.long q0), .second, .val (.long q1), .second, .val (.int p2), .val (.int p3), .val (.int (own_n p2)), .val (.int (p3 &&& (127 : Int32))), .val (.ref b1), .val (.ref b6), .val (.ref b31), .val (.int (own_v0_77_1 q0 q1 p2)), .val (.int (own_v0_93_2 q0 q1 p2 p3)), .unset] [(.int (0 : Int32))])) _
          refine XS.istore X91.here hx rfl (hb hby at_110) rfl (l' := #[.val (.long q0), .second, .val (.long q1), .second, .val (.int p2), .val (.int p3), .val (.int (own_n p2)), .val (.int (p3 &&& (127 : Int32))), .val (.ref b1), .val (.ref b6), .val (.ref b31), .val (.int (own_v0_77_1 q0 q1 p2)), .val (.int (own_v0_93_2 q0 q1 p2 p3)), .val (.int (0 : Int32))]) rfl ?_
          show Steps p.tables e below (T91.setTop (mkF m 112 #[.val (.long q0), .second, .val (.long q1), .second, .val (.int p2), .val (.int p3), .val (.int (own_n p2)), .val (.int (p3 &&& (127 : Int32))), .val (.ref b1), .val (.ref b6), .val (.ref b31), .val (.int (own_v0_77_1 q0 q1 p2)), .val (.int (own_v0_93_2 q0 q1 p2 p3)), .val (.int (0 : Int32))] [])) _
          refine XS.iload X91.here hx rfl (hb hby at_112) rfl ?_
          show Steps p.tables e below (T91.setTop (mkF m 114 #[.val (.long q0), .second, .val (.long q1), .second, .val (.int p2), .val (.int p3), .val (.int (own_n p2)), .val (.int (p3 &&& (127 : Int32))), .val (.ref b1), .val (.ref b6), .val (.ref b31), .val (.int (own_v0_77_1 q0 q1 p2)), .val (.int (own_v0_93_2 q0 q1 p2 p3)), .val (.int (0 : Int32))] [(.int (0 : Int32))])) _
          refine XS.ifYes X91.here hx rfl (pc0 := 114) (pc' := 134) rfl (hb hby at_114) rfl ((if0 _ _).trans (teq (by decide : (0 : Int32) = (0 : Int32))).1) (by decide) (by decide) ?_
          show Steps p.tables e below (T91.setTop (mkF m 134 #[.val (.long q0), .second, .val (.long q1), .second, .val (.int p2), .val (.int p3), .val (.int (own_n p2)), .val (.int (p3 &&& (127 : Int32))), .val (.ref b1), .val (.ref b6), .val (.ref b31), .val (.int (own_v0_77_1 q0 q1 p2)), .val (.int (own_v0_93_2 q0 q1 p2 p3)), .val (.int (0 : Int32))] [])) _
          refine XS.iconst X91.here hx rfl (hb hby at_134) ?_
          show Steps p.tables e below (T91.setTop (mkF m 135 #[.val (.long q0), .second, .val (.long q1), .second, .val (.int p2), .val (.int p3), .val (.int (own_n p2)), .val (.int (p3 &&& (127 : Int32))), .val (.ref b1), .val (.ref b6), .val (.ref b31), .val (.int (own_v0_77_1 q0 q1 p2)), .val (.int (own_v0_93_2 q0 q1 p2 p3)), .val (.int (0 : Int32))] [(.int (0 : Int32))])) _
          exact k)
      obtain ⟨fs, hr, hrun, hended, hW, hsame⟩ := X91.leave (v := some (.int (0 : Int32))) (fun h => by rw [Bd.returns] at h; cases h) (hlocks := hlk)
      refine ⟨_, _, pre101 _ ?_, hrun, hended, _, _, rfl, ?_, ⟨_, rfl⟩, hW, hsame.mono (by decide) (by decide)⟩
      · show Steps p.tables e below (T91.setTop (mkF m 135 #[.val (.long q0), .second, .val (.long q1), .second, .val (.int p2), .val (.int p3), .val (.int (own_n p2)), .val (.int (p3 &&& (127 : Int32))), .val (.ref b1), .val (.ref b6), .val (.ref b31), .val (.int (own_v0_77_1 q0 q1 p2)), .val (.int (own_v0_93_2 q0 q1 p2 p3)), .val (.int (0 : Int32))] [(.int (0 : Int32))])) _
        exact retN X91 hx (t := .boolean) Bd.returns (by simp) (hb hby at_135) hr
      · show own_Q0 Z q0 q1 p2 p3 h0 n0 _ T91.heap _; exact ⟨(by show some (Value.int _) = some (.int (own_f0 q0 q1 p2 p3)); unfold own_f0; rw [if_pos hc94, if_neg hc96]), N92⟩
  · have pre102 : ∀ t, Steps p.tables e below (T91.setTop (mkF m 127 #[.val (.long q0), .second, .val (.long q1), .second, .val (.int p2), .val (.int p3), .val (.int (own_n p2)), .val (.int (p3 &&& (127 : Int32))), .val (.ref b1), .val (.ref b6), .val (.ref b31), .val (.int (own_v0_77_1 q0 q1 p2)), .val (.int (own_v0_93_2 q0 q1 p2 p3)), .val (.int (1 : Int32))] [(.int (((31 : Int32) * (own_v0_77_1 q0 q1 p2)) + (p3 &&& (127 : Int32)))), (.int (own_v0_93_2 q0 q1 p2 p3))])) t → Steps p.tables e below (s₁.setTop (entryFrame m #[(.long q0), (.long q1), (.int p2), (.int p3)] maxLocals)) t := fun t k => pre93 t (by
        refine XS.ifYes X91.here hx rfl (pc0 := 97) (pc' := 105) rfl (hb hby at_97) rfl ((if0 _ _).trans (feq hc94).2) (by decide) (by decide) ?_
        show Steps p.tables e below (T91.setTop (mkF m 105 #[.val (.long q0), .second, .val (.long q1), .second, .val (.int p2), .val (.int p3), .val (.int (own_n p2)), .val (.int (p3 &&& (127 : Int32))), .val (.ref b1), .val (.ref b6), .val (.ref b31), .val (.int (own_v0_77_1 q0 q1 p2)), .val (.int (own_v0_93_2 q0 q1 p2 p3)), .unset] [])) _
        refine XS.iconst X91.here hx rfl (hb hby at_105) ?_
        show Steps p.tables e below (T91.setTop (mkF m 106 #[.val (.long q0), .second, .val (.long q1), .second, .val (.int p2), .val (.int p3), .val (.int (own_n p2)), .val (.int (p3 &&& (127 : Int32))), .val (.ref b1), .val (.ref b6), .val (.ref b31), .val (.int (own_v0_77_1 q0 q1 p2)), .val (.int (own_v0_93_2 q0 q1 p2 p3)), .unset] [(.int (1 : Int32))])) _
        refine XS.goto X91.here hx rfl (pc0 := 106) (pc' := 110) rfl (hb hby at_106) (by decide) (by decide) ?_
        show Steps p.tables e below (T91.setTop (mkF m 110 #[.val (.long q0), .second, .val (.long q1), .second, .val (.int p2), .val (.int p3), .val (.int (own_n p2)), .val (.int (p3 &&& (127 : Int32))), .val (.ref b1), .val (.ref b6), .val (.ref b31), .val (.int (own_v0_77_1 q0 q1 p2)), .val (.int (own_v0_93_2 q0 q1 p2 p3)), .unset] [(.int (1 : Int32))])) _
        refine XS.istore X91.here hx rfl (hb hby at_110) rfl (l' := #[.val (.long q0), .second, .val (.long q1), .second, .val (.int p2), .val (.int p3), .val (.int (own_n p2)), .val (.int (p3 &&& (127 : Int32))), .val (.ref b1), .val (.ref b6), .val (.ref b31), .val (.int (own_v0_77_1 q0 q1 p2)), .val (.int (own_v0_93_2 q0 q1 p2 p3)), .val (.int (1 : Int32))]) rfl ?_
        show Steps p.tables e below (T91.setTop (mkF m 112 #[.val (.long q0), .second, .val (.long q1), .second, .val (.int p2), .val (.int p3), .val (.int (own_n p2)), .val (.int (p3 &&& (127 : Int32))), .val (.ref b1), .val (.ref b6), .val (.ref b31), .val (.int (own_v0_77_1 q0 q1 p2)), .val (.int (own_v0_93_2 q0 q1 p2 p3)), .val (.int (1 : Int32))] [])) _
        refine XS.iload X91.here hx rfl (hb hby at_112) rfl ?_
        show Steps p.tables e below (T91.setTop (mkF m 114 #[.val (.long q0), .second, .val (.long q1), .second, .val (.int p2), .val (.int p3), .val (.int (own_n p2)), .val (.int (p3 &&& (127 : Int32))), .val (.ref b1), .val (.ref b6), .val (.ref b31), .val (.int (own_v0_77_1 q0 q1 p2)), .val (.int (own_v0_93_2 q0 q1 p2 p3)), .val (.int (1 : Int32))] [(.int (1 : Int32))])) _
        refine XS.ifNo X91.here hx rfl (hb hby at_114) rfl ((if0 _ _).trans (feq (by decide : ¬ ((1 : Int32) = (0 : Int32)))).1) ?_
        show Steps p.tables e below (T91.setTop (mkF m 117 #[.val (.long q0), .second, .val (.long q1), .second, .val (.int p2), .val (.int p3), .val (.int (own_n p2)), .val (.int (p3 &&& (127 : Int32))), .val (.ref b1), .val (.ref b6), .val (.ref b31), .val (.int (own_v0_77_1 q0 q1 p2)), .val (.int (own_v0_93_2 q0 q1 p2 p3)), .val (.int (1 : Int32))] [])) _
        refine XS.iload X91.here hx rfl (hb hby at_117) rfl ?_
        show Steps p.tables e below (T91.setTop (mkF m 119 #[.val (.long q0), .second, .val (.long q1), .second, .val (.int p2), .val (.int p3), .val (.int (own_n p2)), .val (.int (p3 &&& (127 : Int32))), .val (.ref b1), .val (.ref b6), .val (.ref b31), .val (.int (own_v0_77_1 q0 q1 p2)), .val (.int (own_v0_93_2 q0 q1 p2 p3)), .val (.int (1 : Int32))] [(.int (own_v0_93_2 q0 q1 p2 p3))])) _
        refine XS.bipush X91.here hx rfl (hb hby at_119) ?_
        show Steps p.tables e below (T91.setTop (mkF m 121 #[.val (.long q0), .second, .val (.long q1), .second, .val (.int p2), .val (.int p3), .val (.int (own_n p2)), .val (.int (p3 &&& (127 : Int32))), .val (.ref b1), .val (.ref b6), .val (.ref b31), .val (.int (own_v0_77_1 q0 q1 p2)), .val (.int (own_v0_93_2 q0 q1 p2 p3)), .val (.int (1 : Int32))] [(.int (31 : Int32)), (.int (own_v0_93_2 q0 q1 p2 p3))])) _
        refine XS.iload X91.here hx rfl (hb hby at_121) rfl ?_
        show Steps p.tables e below (T91.setTop (mkF m 123 #[.val (.long q0), .second, .val (.long q1), .second, .val (.int p2), .val (.int p3), .val (.int (own_n p2)), .val (.int (p3 &&& (127 : Int32))), .val (.ref b1), .val (.ref b6), .val (.ref b31), .val (.int (own_v0_77_1 q0 q1 p2)), .val (.int (own_v0_93_2 q0 q1 p2 p3)), .val (.int (1 : Int32))] [(.int (own_v0_77_1 q0 q1 p2)), (.int (31 : Int32)), (.int (own_v0_93_2 q0 q1 p2 p3))])) _
        refine XS.imul X91.here hx rfl (hb hby at_123) rfl ?_
        show Steps p.tables e below (T91.setTop (mkF m 124 #[.val (.long q0), .second, .val (.long q1), .second, .val (.int p2), .val (.int p3), .val (.int (own_n p2)), .val (.int (p3 &&& (127 : Int32))), .val (.ref b1), .val (.ref b6), .val (.ref b31), .val (.int (own_v0_77_1 q0 q1 p2)), .val (.int (own_v0_93_2 q0 q1 p2 p3)), .val (.int (1 : Int32))] [(.int ((31 : Int32) * (own_v0_77_1 q0 q1 p2))), (.int (own_v0_93_2 q0 q1 p2 p3))])) _
        refine XS.iload X91.here hx rfl (hb hby at_124) rfl ?_
        show Steps p.tables e below (T91.setTop (mkF m 126 #[.val (.long q0), .second, .val (.long q1), .second, .val (.int p2), .val (.int p3), .val (.int (own_n p2)), .val (.int (p3 &&& (127 : Int32))), .val (.ref b1), .val (.ref b6), .val (.ref b31), .val (.int (own_v0_77_1 q0 q1 p2)), .val (.int (own_v0_93_2 q0 q1 p2 p3)), .val (.int (1 : Int32))] [(.int (p3 &&& (127 : Int32))), (.int ((31 : Int32) * (own_v0_77_1 q0 q1 p2))), (.int (own_v0_93_2 q0 q1 p2 p3))])) _
        refine XS.iadd X91.here hx rfl (hb hby at_126) rfl ?_
        show Steps p.tables e below (T91.setTop (mkF m 127 #[.val (.long q0), .second, .val (.long q1), .second, .val (.int p2), .val (.int p3), .val (.int (own_n p2)), .val (.int (p3 &&& (127 : Int32))), .val (.ref b1), .val (.ref b6), .val (.ref b31), .val (.int (own_v0_77_1 q0 q1 p2)), .val (.int (own_v0_93_2 q0 q1 p2 p3)), .val (.int (1 : Int32))] [(.int (((31 : Int32) * (own_v0_77_1 q0 q1 p2)) + (p3 &&& (127 : Int32)))), (.int (own_v0_93_2 q0 q1 p2 p3))])) _
        exact k)
    by_cases hc103 : (own_v0_93_2 q0 q1 p2 p3) = (((31 : Int32) * (own_v0_77_1 q0 q1 p2)) + (p3 &&& (127 : Int32)))
    · have pre104 : ∀ t, Steps p.tables e below (T91.setTop (mkF m 135 #[.val (.long q0), .second, .val (.long q1), .second, .val (.int p2), .val (.int p3), .val (.int (own_n p2)), .val (.int (p3 &&& (127 : Int32))), .val (.ref b1), .val (.ref b6), .val (.ref b31), .val (.int (own_v0_77_1 q0 q1 p2)), .val (.int (own_v0_93_2 q0 q1 p2 p3)), .val (.int (1 : Int32))] [(.int (1 : Int32))])) t → Steps p.tables e below (s₁.setTop (entryFrame m #[(.long q0), (.long q1), (.int p2), (.int p3)] maxLocals)) t := fun t k => pre102 t (by
          refine XS.icmpNo X91.here hx rfl (hb hby at_127) rfl (teq hc103).2 ?_
          show Steps p.tables e below (T91.setTop (mkF m 130 #[.val (.long q0), .second, .val (.long q1), .second, .val (.int p2), .val (.int p3), .val (.int (own_n p2)), .val (.int (p3 &&& (127 : Int32))), .val (.ref b1), .val (.ref b6), .val (.ref b31), .val (.int (own_v0_77_1 q0 q1 p2)), .val (.int (own_v0_93_2 q0 q1 p2 p3)), .val (.int (1 : Int32))] [])) _
          refine XS.iconst X91.here hx rfl (hb hby at_130) ?_
          show Steps p.tables e below (T91.setTop (mkF m 131 #[.val (.long q0), .second, .val (.long q1), .second, .val (.int p2), .val (.int p3), .val (.int (own_n p2)), .val (.int (p3 &&& (127 : Int32))), .val (.ref b1), .val (.ref b6), .val (.ref b31), .val (.int (own_v0_77_1 q0 q1 p2)), .val (.int (own_v0_93_2 q0 q1 p2 p3)), .val (.int (1 : Int32))] [(.int (1 : Int32))])) _
          refine XS.goto X91.here hx rfl (pc0 := 131) (pc' := 135) rfl (hb hby at_131) (by decide) (by decide) ?_
          show Steps p.tables e below (T91.setTop (mkF m 135 #[.val (.long q0), .second, .val (.long q1), .second, .val (.int p2), .val (.int p3), .val (.int (own_n p2)), .val (.int (p3 &&& (127 : Int32))), .val (.ref b1), .val (.ref b6), .val (.ref b31), .val (.int (own_v0_77_1 q0 q1 p2)), .val (.int (own_v0_93_2 q0 q1 p2 p3)), .val (.int (1 : Int32))] [(.int (1 : Int32))])) _
          exact k)
      obtain ⟨fs, hr, hrun, hended, hW, hsame⟩ := X91.leave (v := some (.int (1 : Int32))) (fun h => by rw [Bd.returns] at h; cases h) (hlocks := hlk)
      refine ⟨_, _, pre104 _ ?_, hrun, hended, _, _, rfl, ?_, ⟨_, rfl⟩, hW, hsame.mono (by decide) (by decide)⟩
      · show Steps p.tables e below (T91.setTop (mkF m 135 #[.val (.long q0), .second, .val (.long q1), .second, .val (.int p2), .val (.int p3), .val (.int (own_n p2)), .val (.int (p3 &&& (127 : Int32))), .val (.ref b1), .val (.ref b6), .val (.ref b31), .val (.int (own_v0_77_1 q0 q1 p2)), .val (.int (own_v0_93_2 q0 q1 p2 p3)), .val (.int (1 : Int32))] [(.int (1 : Int32))])) _
        exact retN X91 hx (t := .boolean) Bd.returns (by simp) (hb hby at_135) hr
      · show own_Q0 Z q0 q1 p2 p3 h0 n0 _ T91.heap _; exact ⟨(by show some (Value.int _) = some (.int (own_f0 q0 q1 p2 p3)); unfold own_f0; rw [if_neg hc94, if_pos hc103]), N92⟩
    · have pre105 : ∀ t, Steps p.tables e below (T91.setTop (mkF m 135 #[.val (.long q0), .second, .val (.long q1), .second, .val (.int p2), .val (.int p3), .val (.int (own_n p2)), .val (.int (p3 &&& (127 : Int32))), .val (.ref b1), .val (.ref b6), .val (.ref b31), .val (.int (own_v0_77_1 q0 q1 p2)), .val (.int (own_v0_93_2 q0 q1 p2 p3)), .val (.int (1 : Int32))] [(.int (0 : Int32))])) t → Steps p.tables e below (s₁.setTop (entryFrame m #[(.long q0), (.long q1), (.int p2), (.int p3)] maxLocals)) t := fun t k => pre102 t (by
          refine XS.icmpYes X91.here hx rfl (pc0 := 127) (pc' := 134) rfl (hb hby at_127) rfl (feq hc103).2 (by decide) (by decide) ?_
          show Steps p.tables e below (T91.setTop (mkF m 134 #[.val (.long q0), .second, .val (.long q1), .second, .val (.int p2), .val (.int p3), .val (.int (own_n p2)), .val (.int (p3 &&& (127 : Int32))), .val (.ref b1), .val (.ref b6), .val (.ref b31), .val (.int (own_v0_77_1 q0 q1 p2)), .val (.int (own_v0_93_2 q0 q1 p2 p3)), .val (.int (1 : Int32))] [])) _
          refine XS.iconst X91.here hx rfl (hb hby at_134) ?_
          show Steps p.tables e below (T91.setTop (mkF m 135 #[.val (.long q0), .second, .val (.long q1), .second, .val (.int p2), .val (.int p3), .val (.int (own_n p2)), .val (.int (p3 &&& (127 : Int32))), .val (.ref b1), .val (.ref b6), .val (.ref b31), .val (.int (own_v0_77_1 q0 q1 p2)), .val (.int (own_v0_93_2 q0 q1 p2 p3)), .val (.int (1 : Int32))] [(.int (0 : Int32))])) _
          exact k)
      obtain ⟨fs, hr, hrun, hended, hW, hsame⟩ := X91.leave (v := some (.int (0 : Int32))) (fun h => by rw [Bd.returns] at h; cases h) (hlocks := hlk)
      refine ⟨_, _, pre105 _ ?_, hrun, hended, _, _, rfl, ?_, ⟨_, rfl⟩, hW, hsame.mono (by decide) (by decide)⟩
      · show Steps p.tables e below (T91.setTop (mkF m 135 #[.val (.long q0), .second, .val (.long q1), .second, .val (.int p2), .val (.int p3), .val (.int (own_n p2)), .val (.int (p3 &&& (127 : Int32))), .val (.ref b1), .val (.ref b6), .val (.ref b31), .val (.int (own_v0_77_1 q0 q1 p2)), .val (.int (own_v0_93_2 q0 q1 p2 p3)), .val (.int (1 : Int32))] [(.int (0 : Int32))])) _
        exact retN X91 hx (t := .boolean) Bd.returns (by simp) (hb hby at_135) hr
      · show own_Q0 Z q0 q1 p2 p3 h0 n0 _ T91.heap _; exact ⟨(by show some (Value.int _) = some (.int (own_f0 q0 q1 p2 p3)); unfold own_f0; rw [if_neg hc94, if_neg hc103]), N92⟩
theorem own_e32 {a b : Int32} : a = b ↔ a.toInt = b.toInt := Int32.toInt_inj.symm
theorem own_e64 {a b : Int64} : a = b ↔ a.toInt = b.toInt := Int64.toInt_inj.symm
theorem own_hset (vs : List Value) (k : Nat) (w : Value) : ∀ i, i ≤ k → own_hs (vs.set k w) i = own_hs vs i := by
  intro i
  induction i with
  | zero => intro _; rfl
  | succ i ih =>
    intro h
    show (31 : Int32) * own_hs (vs.set k w) i + own_byte ((vs.set k w).getD i (.int (0 : Int32))) = (31 : Int32) * own_hs vs i + own_byte (vs.getD i (.int (0 : Int32)))
    rw [ih (by omega), List.getD_eq_getElem?_getD, List.getD_eq_getElem?_getD, List.getElem?_set_ne (by omega)]
theorem own_c (x : Int32) : nar .byte ((x &&& (127 : Int32)).toInt8.toInt32) = x &&& (127 : Int32) := by
  show ((x &&& (127 : Int32)).toInt8.toInt32).toInt8.toInt32 = _
  have m1 : (x &&& (127 : Int32)).toInt = x.toInt % (2 ^ 7 : Nat) := c_mask x 127 7 (by decide) (by decide)
  have a1 := c_i2b (x &&& (127 : Int32))
  have a2 := c_i2b ((x &&& (127 : Int32)).toInt8.toInt32)
  rw [own_e32]
  omega
theorem own_q (q0 q1 : Int64) (p2 p3 : Int32) : own_v0_93_2 q0 q1 p2 p3 = (31 : Int32) * own_v0_77_1 q0 q1 p2 + (p3 &&& (127 : Int32)) := by
  unfold own_v0_93_2 own_v0_77_1 own_f6
  rw [own_c]
  have hl := own_flen (own_n p2) q0 q1 (List.replicate 16 (.int (0 : Int32))) List.length_replicate
  have h3 := own_a3 p2
  generalize own_l1_0 (own_n p2) q0 q1 (List.replicate 16 (.int (0 : Int32))) = vs at *
  rw [own_a4]
  generalize (own_n p2).toNatClampNeg = k at *
  show (31 : Int32) * own_hs (vs.set k (.int (p3 &&& (127 : Int32)))) k + own_byte ((vs.set k (.int (p3 &&& (127 : Int32)))).getD k (.int (0 : Int32))) = _
  rw [own_hset vs k _ k (Nat.le_refl _), List.getD_eq_getElem?_getD, List.getElem?_set_self (by omega)]
  rfl
theorem own_z (q0 q1 : Int64) (p2 : Int32) (h : own_n p2 = (0 : Int32)) : own_v0_77_1 q0 q1 p2 = 0 := by
  unfold own_v0_77_1 own_f6
  rw [h]; rfl
theorem own_plain (q0 q1 : Int64) (p2 p3 : Int32) : own_f0 q0 q1 p2 p3 = 1 := by
  unfold own_f0
  rw [if_pos (own_q q0 q1 p2 p3)]
  by_cases h : own_n p2 = (0 : Int32)
  · rw [if_pos h, if_pos (own_z q0 q1 p2 h)]
  · rw [if_neg h]
set_option maxRecDepth 65536 in
set_option maxHeartbeats 40000000 in
theorem comes_1 {Post : Tables → Env → Array Value → State → Outcome → State → Prop} (hpost : ∀ tb e args s v u, (limb_1_1.after args s (.returned v) u = true ∧ limb_1_2.after args s (.returned v) u = true ∧ True) → FrameEnd s (.returned v) u (Jvm.fieldLocs frame_1_writes args s ++ Jvm.arrayLocs frame_1_arrays args s ++ Jvm.staticLocs frame_1_statics s) 24 192 → Post tb e args s (.returned v) u) :
    ArmFor flags0 classFile x code maxLocals ret World_1 tables_1 room_1 Calls_1 rest_1 Pre_1 Post := by
  intro l hfl _ _ p e ha hc hk s m args below hf hA hF happ hP
  obtain ⟨hcalls, hrest, hpre⟩ := hP
  obtain ⟨-, -, -, hnamed, -, -, -, hat⟩ := (Spec.applies_iff hf).mp happ
  obtain ⟨hg, hn⟩ := and_e (Cond.before_iff.mp (show (Jvm.Cond.and given_1 narrow_1).before args s = true from hpre))
  obtain ⟨gc, gr0⟩ := and_e hg
  obtain ⟨ga0, gr1⟩ := and_e gr0
  obtain ⟨ga1, gr2⟩ := and_e gr1
  obtain ⟨ga2, gr3⟩ := and_e gr2
  have ga3 := gr3
  obtain ⟨w0, w1, w2, w3, rfl⟩ : ∃ w0 w1 w2 w3 : Value, args = #[w0, w1, w2, w3] := by
    have hs : args.size = 4 := by simpa [Cond.value, given_1] using gc
    obtain ⟨L⟩ := args
    match L, hs with
    | [w0, w1, w2, w3], _ => exact ⟨w0, w1, w2, w3, rfl⟩
  have hw := fun d (hd : d ∈ tables_1) => atoms_spec (ws := Jvm.Cond.code x code maxLocals ret :: tables_1) hat d (List.mem_cons_of_mem _ hd)
  obtain ⟨i0, ei0⟩ := isL_v ga0
  obtain rfl : w0 = (.long i0) := Option.some.inj ei0
  obtain ⟨i1, ei1⟩ := isL_v ga1
  obtain rfl : w1 = (.long i1) := Option.some.inj ei1
  obtain ⟨i2, ei2⟩ := is_v ga2
  obtain rfl : w2 = (.int i2) := Option.some.inj ei2
  obtain ⟨i3, ei3⟩ := is_v ga3
  obtain rfl : w3 = (.int i3) := Option.some.inj ei3
  obtain ⟨n, o, h1, h2, h3, _, L, rfl, ⟨hv, N⟩, hq⟩ := own_rm0 l s _ hw tables_1 i0 i1 i2 i3 s.heap s.heap.size (Nat.le_refl _) p e ha hc hk s m _ below hf ((Spec.applies_iff_loose hf).mp happ).1 ⟨rfl, State.Warmed39.refl s, rfl⟩ trivial
  rw [show (own_f0 i0 i1 i2 i3) = (1 : Int32) from own_plain i0 i1 i2 i3] at hv
  subst hv
  refine ⟨n, _, h1, h2, h3, hpost _ _ _ _ _ _ ⟨Cond.after_iff.mpr rfl, Cond.after_iff.mpr (eq_i res_at (Term.int_eval (1)) rfl), trivial⟩ ⟨hq.1, hq.2.1, (hq.2.2.sift fun y hy => Or.inr (N y hy)).mono (by decide) (by decide)⟩⟩
theorem main_1_1 : Claimed_1_1 := comes_1 fun _ _ _ _ _ _ h hF => ⟨h.1, hF⟩
theorem main_1_2 : Claimed_1_2 := comes_1 fun _ _ _ _ _ _ h hF => ⟨h.2.1, hF⟩
end Jvm.Pilot.@@N@@
namespace Jvm.Pilot.@@N@@
open Jvm Jvm.ClassFile Sem Op Lib Jvm.Free Jvm.Stand Jvm.Pilot.@@N@@.Jvm.D
/-! MADE BY PROGRAM (witnessworld.py) out of the Statement's table words and the real class files: 11 classes; the members and pool entries that the words name. The judged class is class 1, her method 1. -/
namespace start1
open Jvm.ClassFile
def u (s : String) : CpInfo := .utf8 (stringToUtf16 s)
/-- a pool by its gaps: so many unusable entries, then the entry; so many at the end -/
def gap : Nat → List CpInfo → List CpInfo
  | 0, r => r
  | n + 1, r => .unusable :: gap n r
def poolList (es : List (Nat × CpInfo)) (last : Nat) : List CpInfo := es.foldr (fun e r => gap e.1 (e.2 :: r)) (gap last [])
def pool (es : List (Nat × CpInfo)) (last : Nat) : Array CpInfo := ⟨poolList es last⟩
def fileOf (pool : Array CpInfo) (this : Nat) (attrs : Array Attribute := #[]) (ms : Array MethodInfo := #[]) (fl : Nat := 33) (sup : Nat := 0) (ifs : Array Nat := #[]) (fds : Array FieldInfo := #[]) : ClassFile where
  minorVersion := 0
  majorVersion := 65
  constantPool := pool
  accessFlags := fl
  thisClass := this
  superClass := sup
  interfaces := ifs
  fields := fds
  methods := ms
  attributes := attrs
def plain (name : String) (sup : Option ClassId) : Class where
  name := name
  kind := .ordinary
  loader := none
  accessFlags := 33
  super := sup
  interfaces := #[]
  cf := none
  fields := #[]
  methods := #[]
  instanceTypes := #[]
  staticTypes := #[]
  resolved := #[]
  callSites := []
  init := .initialized
  statics := none
  mirror := none

def pool0 : Array CpInfo := pool [(5, u "<init>"), (0, u "()V"), (1, .class_ 10), (1, u "java/lang/Object")] 113

def k0c0 : Code := { maxStack := 0, maxLocals := 1, code := object_method_1_code, exceptionTable := #[], attributes := #[] }
def k0m0 : Method := { name := "<init>", desc := "()V", sig := { parameters := [], returnType := none }, accessFlags := 1, code := some k0c0 }
/-- java/lang/Object -/
def k0 : Class := { plain "java/lang/Object" none with
  accessFlags := 33
  interfaces := #[]
  cf := some (fileOf pool0 8 #[] #[{ accessFlags := 1, nameIndex := 5, descriptorIndex := 6, attributes := #[] }] 33 0 #[] #[])
  fields := #[]
  methods := #[k0m0]
  instanceTypes := #[]
  staticTypes := #[]
  resolved := Array.replicate 124 none
  statics := none }

def pool1 : Array CpInfo := pool [(2, .class_ 4), (0, .nameAndType 5 6), (0, u "java/lang/Object"), (0, u "<init>"), (0, u "()V"), (0, .methodref 8 9), (0, .class_ 10), (0, .nameAndType 11 12), (0, u "com/example/meaning_into_numbers/meaningintonumbers/VersionHashCodePinLaw"), (0, u "fill"), (0, u "([BIJJ)V"), (0, .class_ 14), (0, u "com/example/meaning_into_numbers/meaningintonumbers/VersionParts"), (0, .methodref 13 3), (0, .class_ 17), (0, u "com/example/meaning_into_numbers/meaningintonumbers/Version"), (0, .methodref 16 19), (0, .nameAndType 5 20), (0, u "([BLcom/example/meaning_into_numbers/meaningintonumbers/VersionParts;)V"), (0, .methodref 16 22), (0, .nameAndType 23 24), (0, u "hashCode"), (0, u "()I"), (0, .long 127), (1, .methodref 8 28), (0, .nameAndType 29 30), (0, u "drawn"), (0, u "(JJI)B"), (0, .methodref 8 32), (0, .nameAndType 33 34), (0, u "put"), (0, u "([BIIJJ)V"), (2, u "law"), (0, u "(JJII)Z")] 5

def k1m0 : Method := { name := "<init>", desc := "()V", sig := { parameters := [], returnType := none }, accessFlags := 1, code := none }
def k1c1 : Code := { maxStack := 6, maxLocals := 14, code := code, exceptionTable := #[], attributes := #[] }
def k1m1 : Method := { name := "law", desc := "(JJII)Z", sig := { parameters := [.long, .long, .int, .int], returnType := some .boolean }, accessFlags := 9, code := some k1c1 }
def k1c2 : Code := { maxStack := 5, maxLocals := 7, code := method_3_code, exceptionTable := #[], attributes := #[] }
def k1m2 : Method := { name := "drawn", desc := "(JJI)B", sig := { parameters := [.long, .long, .int], returnType := some .byte }, accessFlags := 10, code := some k1c2 }
def k1c3 : Code := { maxStack := 7, maxLocals := 7, code := method_4_code, exceptionTable := #[], attributes := #[] }
def k1m3 : Method := { name := "put", desc := "([BIIJJ)V", sig := { parameters := [(.array .byte), .int, .int, .long, .long], returnType := none }, accessFlags := 10, code := some k1c3 }
def k1c4 : Code := { maxStack := 7, maxLocals := 6, code := method_5_code, exceptionTable := #[], attributes := #[] }
def k1m4 : Method := { name := "fill", desc := "([BIJJ)V", sig := { parameters := [(.array .byte), .int, .long, .long], returnType := none }, accessFlags := 10, code := some k1c4 }
/-- com/example/meaning_into_numbers/meaningintonumbers/VersionHashCodePinLaw -/
def k1 : Class := { plain "com/example/meaning_into_numbers/meaningintonumbers/VersionHashCodePinLaw" (some 0) with
  accessFlags := 49
  interfaces := #[]
  cf := some (fileOf pool1 8 #[] #[{ accessFlags := 1, nameIndex := 5, descriptorIndex := 6, attributes := #[] }, { accessFlags := 9, nameIndex := 37, descriptorIndex := 38, attributes := #[] }, { accessFlags := 10, nameIndex := 29, descriptorIndex := 30, attributes := #[] }, { accessFlags := 10, nameIndex := 33, descriptorIndex := 34, attributes := #[] }, { accessFlags := 10, nameIndex := 11, descriptorIndex := 12, attributes := #[] }] 49 2 #[] #[])
  fields := #[]
  methods := #[k1m0, k1m1, k1m2, k1m3, k1m4]
  instanceTypes := #[]
  staticTypes := #[]
  resolved := Array.replicate 44 none
  statics := none }

def pool2 : Array CpInfo := pool [(1, .methodref 2 3), (0, .class_ 4), (0, .nameAndType 5 6), (0, u "java/lang/Object"), (0, u "<init>"), (0, u "()V"), (1, .class_ 10), (1, u "com/example/meaning_into_numbers/meaningintonumbers/VersionParts"), (4, u "start"), (0, u "I"), (2, u "majorEnd"), (2, u "minorEnd"), (2, u "patchEnd"), (2, u "preReleaseEnd")] 19

def k2c0 : Code := { maxStack := 1, maxLocals := 1, code := prog_28_method_1_code, exceptionTable := #[], attributes := #[] }
def k2m0 : Method := { name := "<init>", desc := "()V", sig := { parameters := [], returnType := none }, accessFlags := 0, code := some k2c0 }
/-- com/example/meaning_into_numbers/meaningintonumbers/VersionParts -/
def k2 : Class := { plain "com/example/meaning_into_numbers/meaningintonumbers/VersionParts" (some 0) with
  accessFlags := 32
  interfaces := #[]
  cf := some (fileOf pool2 8 #[] #[{ accessFlags := 0, nameIndex := 5, descriptorIndex := 6, attributes := #[] }] 32 2 #[] #[{ accessFlags := 2, nameIndex := 15, descriptorIndex := 16, attributes := #[] }, { accessFlags := 2, nameIndex := 19, descriptorIndex := 16, attributes := #[] }, { accessFlags := 2, nameIndex := 22, descriptorIndex := 16, attributes := #[] }, { accessFlags := 2, nameIndex := 25, descriptorIndex := 16, attributes := #[] }, { accessFlags := 2, nameIndex := 28, descriptorIndex := 16, attributes := #[] }])
  fields := #[{ name := "start", type := .int, accessFlags := 2, slot := 0, constantValue := 0 }, { name := "majorEnd", type := .int, accessFlags := 2, slot := 1, constantValue := 0 }, { name := "minorEnd", type := .int, accessFlags := 2, slot := 2, constantValue := 0 }, { name := "patchEnd", type := .int, accessFlags := 2, slot := 3, constantValue := 0 }, { name := "preReleaseEnd", type := .int, accessFlags := 2, slot := 4, constantValue := 0 }]
  methods := #[k2m0]
  instanceTypes := #[.int, .int, .int, .int, .int]
  staticTypes := #[]
  resolved := Array.replicate 48 none
  statics := none }

def pool3 : Array CpInfo := pool [(1, .class_ 2), (0, u "java/lang/Comparable"), (0, .class_ 4), (0, u "java/lang/Object")] 7

/-- java/lang/Comparable -/
def k3 : Class := { plain "java/lang/Comparable" (some 0) with
  accessFlags := 1537
  interfaces := #[]
  cf := some (fileOf pool3 1 #[] #[] 1537 3 #[] #[])
  fields := #[]
  methods := #[]
  instanceTypes := #[]
  staticTypes := #[]
  resolved := Array.replicate 12 none
  statics := none }

def pool4 : Array CpInfo := pool [(1, .methodref 2 3), (0, .class_ 4), (0, .nameAndType 5 6), (0, u "java/lang/Object"), (0, u "<init>"), (0, u "()V"), (0, .fieldref 8 9), (0, .class_ 10), (0, .nameAndType 11 12), (0, u "com/example/meaning_into_numbers/meaningintonumbers/Version"), (0, u "bytes"), (0, u "[B"), (0, .fieldref 8 14), (0, .nameAndType 15 16), (0, u "parts"), (0, u "Lcom/example/meaning_into_numbers/meaningintonumbers/VersionParts;"), (45, u "([BLcom/example/meaning_into_numbers/meaningintonumbers/VersionParts;)V"), (52, u "()I"), (14, .class_ 131), (0, u "com/example/meaning_into_numbers/meaningintonumbers/Version$Level"), (2, u "I"), (51, .class_ 188), (1, u "com/example/meaning_into_numbers/meaningintonumbers/Version$Part"), (158, .class_ 348), (0, u "com/example/meaning_into_numbers/meaningintonumbers/Version$1"), (3, u "PRECEDENCE"), (0, u "Ljava/util/Comparator;"), (7, u "LOWEST"), (0, u "Lcom/example/meaning_into_numbers/meaningintonumbers/Version;"), (0, .class_ 364), (0, u "java/lang/Comparable"), (2, u "NOT_A_VERSION"), (2, u "TAG_PREFIX"), (0, u "C"), (1, u "LOWEST_IDENTIFIER"), (0, u "B"), (1, u "NO_IDENTIFIER"), (0, u "Ljava/lang/String;"), (27, u "hashCode")] 53

def k4c0 : Code := { maxStack := 2, maxLocals := 3, code := prog_19_method_1_code, exceptionTable := #[], attributes := #[] }
def k4m0 : Method := { name := "<init>", desc := "([BLcom/example/meaning_into_numbers/meaningintonumbers/VersionParts;)V", sig := { parameters := [(.array .byte), (.object "com/example/meaning_into_numbers/meaningintonumbers/VersionParts")], returnType := none }, accessFlags := 0, code := some k4c0 }
def k4c1 : Code := { maxStack := 2, maxLocals := 6, code := prog_19_method_23_code, exceptionTable := #[], attributes := #[] }
def k4m1 : Method := { name := "hashCode", desc := "()I", sig := { parameters := [], returnType := some .int }, accessFlags := 1, code := some k4c1 }
/-- com/example/meaning_into_numbers/meaningintonumbers/Version -/
def k4 : Class := { plain "com/example/meaning_into_numbers/meaningintonumbers/Version" (some 0) with
  accessFlags := 49
  interfaces := #[3]
  cf := some (fileOf pool4 8 #[.nestMembers #[186, 130, 347]] #[{ accessFlags := 0, nameIndex := 5, descriptorIndex := 62, attributes := #[] }, { accessFlags := 1, nameIndex := 405, descriptorIndex := 115, attributes := #[] }] 49 2 #[363] #[{ accessFlags := 25, nameIndex := 352, descriptorIndex := 353, attributes := #[] }, { accessFlags := 26, nameIndex := 367, descriptorIndex := 134, attributes := #[] }, { accessFlags := 26, nameIndex := 370, descriptorIndex := 371, attributes := #[] }, { accessFlags := 26, nameIndex := 373, descriptorIndex := 374, attributes := #[] }, { accessFlags := 26, nameIndex := 376, descriptorIndex := 377, attributes := #[] }, { accessFlags := 24, nameIndex := 361, descriptorIndex := 362, attributes := #[] }, { accessFlags := 18, nameIndex := 11, descriptorIndex := 12, attributes := #[] }, { accessFlags := 18, nameIndex := 15, descriptorIndex := 16, attributes := #[] }])
  fields := #[{ name := "PRECEDENCE", type := (.object "java/util/Comparator"), accessFlags := 25, slot := 0, constantValue := 0 }, { name := "NOT_A_VERSION", type := .int, accessFlags := 26, slot := 1, constantValue := 0 }, { name := "TAG_PREFIX", type := .char, accessFlags := 26, slot := 2, constantValue := 0 }, { name := "LOWEST_IDENTIFIER", type := .byte, accessFlags := 26, slot := 3, constantValue := 0 }, { name := "NO_IDENTIFIER", type := (.object "java/lang/String"), accessFlags := 26, slot := 4, constantValue := 0 }, { name := "LOWEST", type := (.object "com/example/meaning_into_numbers/meaningintonumbers/Version"), accessFlags := 24, slot := 5, constantValue := 0 }, { name := "bytes", type := (.array .byte), accessFlags := 18, slot := 0, constantValue := 0 }, { name := "parts", type := (.object "com/example/meaning_into_numbers/meaningintonumbers/VersionParts"), accessFlags := 18, slot := 1, constantValue := 0 }]
  methods := #[k4m0, k4m1]
  instanceTypes := #[(.array .byte), (.object "com/example/meaning_into_numbers/meaningintonumbers/VersionParts")]
  staticTypes := #[(.object "java/util/Comparator"), .int, .char, .byte, (.object "java/lang/String"), (.object "com/example/meaning_into_numbers/meaningintonumbers/Version")]
  resolved := Array.replicate 459 none
  statics := none }

def pool5 : Array CpInfo := pool [(1, u "java/lang/Cloneable"), (0, .class_ 1), (0, u "java/lang/Object"), (0, .class_ 3)] 3

/-- java/lang/Cloneable -/
def k5 : Class := { plain "java/lang/Cloneable" (some 0) with
  accessFlags := 1537
  interfaces := #[]
  cf := some (fileOf pool5 2 #[] #[] 1537 4 #[] #[])
  fields := #[]
  methods := #[]
  instanceTypes := #[]
  staticTypes := #[]
  resolved := Array.replicate 8 none
  statics := none }

def pool6 : Array CpInfo := pool [(1, u "java/io/Serializable"), (0, .class_ 1), (0, u "java/lang/Object"), (0, .class_ 3)] 3

/-- java/io/Serializable -/
def k6 : Class := { plain "java/io/Serializable" (some 0) with
  accessFlags := 1537
  interfaces := #[]
  cf := some (fileOf pool6 2 #[] #[] 1537 4 #[] #[])
  fields := #[]
  methods := #[]
  instanceTypes := #[]
  staticTypes := #[]
  resolved := Array.replicate 8 none
  statics := none }

/-- the primitive byte -/
def k7 : Class := { plain "byte" none with kind := .primitive 'B', accessFlags := 0x411 }
/-- [B -/
def k8 : Class := { plain "[B" (some 0) with kind := .array 7 .byte, interfaces := #[5, 6], accessFlags := 1041 }

/-- the primitive int -/
def k9 : Class := { plain "int" none with kind := .primitive 'I', accessFlags := 0x411 }
/-- [I -/
def k10 : Class := { plain "[I" (some 0) with kind := .array 9 .int, interfaces := #[5, 6], accessFlags := 1041 }

def heap : Heap := #[]
def classes : Array Class := #[k0, k1, k2, k3, k4, k5, k6, k7, k8, k9, k10]
def interned : List (Array UInt16 × Addr) := []
def slotsUsed : Nat := 0
def theMethod : MethodId := ⟨1, 1⟩
def args0 : Array Value := #[.long 5, .long 6, .int 3, .int 7]
def aboutOver (below : List Frame) : State where
  vm := { classes := classes, interned := interned.toArray }
  heap := heap
  slotsUsed := slotsUsed
  threads := #[{ frames := .invoking theMethod args0 :: below }]
def below0 : List Frame := [.native { method := ⟨0, 0⟩, args := #[] }]
def about1 : State := aboutOver below0
def p0 : Program := .bare "" "" ""
def e0 : Env := launch0.env 0 0 0
theorem w_frames : about1.frames = Frame.invoking theMethod args0 :: below0 := rfl
set_option maxRecDepth 65536 in
theorem w_args : argsFit about1.vm theMethod args0 = true := by decide +kernel
set_option maxRecDepth 65536 in
theorem w_heap : heapFits about1 = true := by decide +kernel
set_option maxRecDepth 65536 in
theorem w_runnable : about1.curStatus? = some .runnable := by decide +kernel
set_option maxRecDepth 65536 in
theorem w_alone : about1.alone = true := by decide +kernel
set_option maxRecDepth 65536 in
theorem w_named : about1.methodNamed? x = some theMethod := by decide +kernel
set_option maxRecDepth 65536 in
theorem w_hears : about1.hears theMethod below0 = true := by decide +kernel
set_option maxRecDepth 65536 in
theorem w_ripe : about1.ripe theMethod args0 below0 = true := by decide +kernel
theorem w_running : about1.status = .running := rfl
set_option maxRecDepth 65536 in
theorem w_room : about1.hasRoom e0.platform room_1 = true :=
  launch0.hasRoom_least _ room_1 (by decide +kernel) (by decide +kernel) (by decide +kernel) (by decide +kernel) (by decide +kernel) (by decide +kernel)
theorem allAtoms_all (ts : List Jvm.Cond) (a : Array Jvm.Value) (st : Jvm.State) : (allAtoms ts).before a st = ts.all (fun c => c.before a st) := by
  induction ts with
  | nil => rfl
  | cons c t ih =>
    show (Jvm.Cond.and c (allAtoms t)).before a st = _
    rw [Jvm.Cond.before_and, ih, List.all_cons]
def words1 : List Jvm.Cond := Jvm.Cond.code x code maxLocals ret :: tables_1
/-- a 'code' word, met by the world's own term for the bytes: nothing is compared byte by byte -/
theorem code_word {y : MethodName} {bytes : ByteArray} {mx : Nat} {rt : Option FieldType} {a : Array Value} {s : State} {m : MethodId} {meth : Method} {c : Code} (h1 : s.methodNamed? y = some m) (h2 : s.vm.method? m = some meth) (h3 : meth.code = some c) (h4 : c.code = bytes)
    (h5 : (c.maxLocals == mx && c.exceptionTable.isEmpty && decide (c.maxStack ≤ mostOperands) && decide (meth.sig.returnType = rt) && !meth.locks && decide (parseMethodDescriptor y.desc = some meth.sig)) = true) : (Jvm.Cond.code y bytes mx rt).before a s = true := by
  simp only [Bool.and_eq_true, beq_iff_eq, Bool.not_eq_true', decide_eq_true_eq] at h5
  obtain ⟨⟨⟨⟨⟨g1, g2⟩, g3⟩, g4⟩, g5⟩, g6⟩ := h5
  simp [Cond.before, Cond.holds, Cond.value, h1, h2, h3, h4, g1, g2, g3, g4, g5, g6]
def isCode : Jvm.Cond → Bool
  | .code _ _ _ _ => true
  | _ => false
theorem all_split {L : List Jvm.Cond} {P : Jvm.Cond → Bool} (h1 : L.all (fun c => isCode c || P c) = true) (h2 : ∀ c ∈ L.filter isCode, P c = true) : L.all P = true := by
  refine List.all_eq_true.mpr fun c hc => ?_
  have h := List.all_eq_true.mp h1 c hc
  rcases Bool.eq_false_or_eq_true (isCode c) with hi | hi
  · exact h2 c (List.mem_filter.mpr ⟨hc, hi⟩)
  · simpa [hi] using h
set_option maxRecDepth 65536 in
theorem w_c0 : (Jvm.Cond.code x code maxLocals ret).before args0 about1 = true := code_word (m := ⟨1, 1⟩) (meth := k1m1) (c := k1c1) (by decide +kernel) rfl rfl rfl (by decide +kernel)
set_option maxRecDepth 65536 in
theorem w_c1 : (Jvm.Cond.code ({ cls := "com/example/meaning_into_numbers/meaningintonumbers/VersionHashCodePinLaw", name := "fill", desc := "([BIJJ)V" } : Jvm.MethodName) method_5_code (6 : Nat) (Option.none : Option Jvm.ClassFile.FieldType)).before args0 about1 = true := code_word (m := ⟨1, 4⟩) (meth := k1m4) (c := k1c4) (by decide +kernel) rfl rfl rfl (by decide +kernel)
set_option maxRecDepth 65536 in
theorem w_c2 : (Jvm.Cond.code ({ cls := "com/example/meaning_into_numbers/meaningintonumbers/VersionHashCodePinLaw", name := "put", desc := "([BIIJJ)V" } : Jvm.MethodName) method_4_code (7 : Nat) (Option.none : Option Jvm.ClassFile.FieldType)).before args0 about1 = true := code_word (m := ⟨1, 3⟩) (meth := k1m3) (c := k1c3) (by decide +kernel) rfl rfl rfl (by decide +kernel)
set_option maxRecDepth 65536 in
theorem w_c3 : (Jvm.Cond.code ({ cls := "com/example/meaning_into_numbers/meaningintonumbers/VersionParts", name := "<init>", desc := "()V" } : Jvm.MethodName) prog_28_method_1_code (1 : Nat) (Option.none : Option Jvm.ClassFile.FieldType)).before args0 about1 = true := code_word (m := ⟨2, 0⟩) (meth := k2m0) (c := k2c0) (by decide +kernel) rfl rfl rfl (by decide +kernel)
set_option maxRecDepth 65536 in
theorem w_c4 : (Jvm.Cond.code ({ cls := "java/lang/Object", name := "<init>", desc := "()V" } : Jvm.MethodName) object_method_1_code (1 : Nat) (Option.none : Option Jvm.ClassFile.FieldType)).before args0 about1 = true := code_word (m := ⟨0, 0⟩) (meth := k0m0) (c := k0c0) (by decide +kernel) rfl rfl rfl (by decide +kernel)
set_option maxRecDepth 65536 in
theorem w_c5 : (Jvm.Cond.code ({ cls := "com/example/meaning_into_numbers/meaningintonumbers/Version", name := "<init>", desc := "([BLcom/example/meaning_into_numbers/meaningintonumbers/VersionParts;)V" } : Jvm.MethodName) prog_19_method_1_code (3 : Nat) (Option.none : Option Jvm.ClassFile.FieldType)).before args0 about1 = true := code_word (m := ⟨4, 0⟩) (meth := k4m0) (c := k4c0) (by decide +kernel) rfl rfl rfl (by decide +kernel)
set_option maxRecDepth 65536 in
theorem w_c6 : (Jvm.Cond.code ({ cls := "com/example/meaning_into_numbers/meaningintonumbers/Version", name := "hashCode", desc := "()I" } : Jvm.MethodName) prog_19_method_23_code (6 : Nat) (Option.some Jvm.ClassFile.FieldType.int)).before args0 about1 = true := code_word (m := ⟨4, 1⟩) (meth := k4m1) (c := k4c1) (by decide +kernel) rfl rfl rfl (by decide +kernel)
set_option maxRecDepth 65536 in
theorem w_c7 : (Jvm.Cond.code ({ cls := "com/example/meaning_into_numbers/meaningintonumbers/VersionHashCodePinLaw", name := "drawn", desc := "(JJI)B" } : Jvm.MethodName) method_3_code (7 : Nat) (Option.some Jvm.ClassFile.FieldType.byte)).before args0 about1 = true := code_word (m := ⟨1, 2⟩) (meth := k1m2) (c := k1c2) (by decide +kernel) rfl rfl rfl (by decide +kernel)
def codes1 : List Jvm.Cond := [Jvm.Cond.code x code maxLocals ret, Jvm.Cond.code ({ cls := "com/example/meaning_into_numbers/meaningintonumbers/VersionHashCodePinLaw", name := "fill", desc := "([BIJJ)V" } : Jvm.MethodName) method_5_code (6 : Nat) (Option.none : Option Jvm.ClassFile.FieldType), Jvm.Cond.code ({ cls := "com/example/meaning_into_numbers/meaningintonumbers/VersionHashCodePinLaw", name := "put", desc := "([BIIJJ)V" } : Jvm.MethodName) method_4_code (7 : Nat) (Option.none : Option Jvm.ClassFile.FieldType), Jvm.Cond.code ({ cls := "com/example/meaning_into_numbers/meaningintonumbers/VersionParts", name := "<init>", desc := "()V" } : Jvm.MethodName) prog_28_method_1_code (1 : Nat) (Option.none : Option Jvm.ClassFile.FieldType), Jvm.Cond.code ({ cls := "java/lang/Object", name := "<init>", desc := "()V" } : Jvm.MethodName) object_method_1_code (1 : Nat) (Option.none : Option Jvm.ClassFile.FieldType), Jvm.Cond.code ({ cls := "com/example/meaning_into_numbers/meaningintonumbers/Version", name := "<init>", desc := "([BLcom/example/meaning_into_numbers/meaningintonumbers/VersionParts;)V" } : Jvm.MethodName) prog_19_method_1_code (3 : Nat) (Option.none : Option Jvm.ClassFile.FieldType), Jvm.Cond.code ({ cls := "com/example/meaning_into_numbers/meaningintonumbers/Version", name := "hashCode", desc := "()I" } : Jvm.MethodName) prog_19_method_23_code (6 : Nat) (Option.some Jvm.ClassFile.FieldType.int), Jvm.Cond.code ({ cls := "com/example/meaning_into_numbers/meaningintonumbers/VersionHashCodePinLaw", name := "drawn", desc := "(JJI)B" } : Jvm.MethodName) method_3_code (7 : Nat) (Option.some Jvm.ClassFile.FieldType.byte)]
set_option maxRecDepth 65536 in
theorem codes_eq : words1.filter isCode = codes1 := rfl
theorem w_codes : ∀ c ∈ words1.filter isCode, c.before args0 about1 = true := by
  rw [codes_eq]
  intro c hc
  simp only [codes1, List.mem_cons, List.not_mem_nil, or_false] at hc
  rcases hc with rfl | rfl | rfl | rfl | rfl | rfl | rfl | rfl
  · exact w_c0
  · exact w_c1
  · exact w_c2
  · exact w_c3
  · exact w_c4
  · exact w_c5
  · exact w_c6
  · exact w_c7
set_option maxRecDepth 65536 in
theorem w_t1 : (words1.take 24).all (fun c => isCode c || c.before args0 about1) = true := by decide +kernel
set_option maxRecDepth 65536 in
theorem w_t2 : (words1.drop 24).all (fun c => isCode c || c.before args0 about1) = true := by decide +kernel
theorem w_tables : (allAtoms (Jvm.Cond.code x code maxLocals ret :: tables_1)).before args0 about1 = true := by
  rw [allAtoms_all]
  show words1.all (fun c => c.before args0 about1) = true
  refine all_split ?_ w_codes
  rw [← List.take_append_drop 24 words1, List.all_append, w_t1, w_t2]
  rfl
set_option maxRecDepth 65536 in
theorem w_case : (Jvm.Cond.and given_1 narrow_1).before args0 about1 = true := by decide +kernel
theorem w_applies : (headSpec (Jvm.Cond.code x code maxLocals ret :: tables_1) room_1).applies x e0.platform about1 = true :=
  (Spec.applies_iff w_frames).mpr ⟨w_running, w_runnable, w_alone, w_named, w_hears, w_ripe, w_room, w_tables⟩
theorem atStart : AtStart classFile x code maxLocals ret World_1 tables_1 room_1 Calls_1 rest_1 Pre_1 launch0 p0 e0 about1 theMethod args0 below0 :=
  ⟨lists_1, trivial, launch0.admits_env _ _ _, launch0.least_env, fairChoices_fair.cas, fairChoices_fair.clock, w_frames, w_args, w_heap, w_applies, trivial, trivial, w_case⟩
end start1
theorem witness_1 : WitnessClaimed_1 := ⟨start1.p0, start1.e0, start1.about1, start1.theMethod, start1.args0, start1.below0, start1.atStart⟩
end Jvm.Pilot.@@N@@
