import JvmDerived
import JvmDerived.Pilot.@@N@@Statement
import JvmDerived.Pilot.@@N@@Code
set_option linter.unusedVariables false
set_option linter.unusedSimpArgs false
namespace Jvm.RoadKit
open Sem ClassFile Op Lib Jvm.Stand Jvm.Free Jvm.LawKit
section New
variable {p : Program} {l : Launch} {e : Env} {R : Room} {s : State} {m : MethodId} {args : Array Value} {below : List Frame} {meth : Method} {c : Code} {T : State} {locs : List Loc} {cells slots : Nat}
theorem retI (X : Stand p l e R s m args below meth c T locs cells slots) (hx : p.tables.exec = Jvm.exec) {pc : Nat} {Ls : Array Slot} {z : Int32} {rest : List Value} (hret : meth.sig.returnType = some .int) (hd : decode c.code pc = .ok (.ireturn, 1)) {fs : List Frame}
    (hl : ∀ (f : JFrame) (acts : List Action), f.method = m → f.locked = none → f.entered = [] → (doReturn e (T.setTop f) acts (some (.int z))).1 = T.setFrames fs) : Steps p.tables e below (T.setTop (mkF m pc Ls (.int z :: rest))) (T.setFrames fs) := by
  have hm' : T.vm.method? m = some meth := X.method'
  have hn : narrow .int (.int z) = .int z := rfl
  show Steps p.tables e below (T.setTop { method := m, pc := pc, locals := Ls, stack := _ :: rest, locked := none }) _
  jvm_step X.here [X.here.top, hx, hd, hm', hret, hn]
  first | (intro acts; rw [hl _ acts rfl rfl rfl]) | rw [hl _ _ rfl rfl rfl]
  exact Steps.refl _
end New
end Jvm.RoadKit
namespace Jvm.Pilot.@@N@@
open Jvm Jvm.ClassFile Sem Op Lib Jvm.Free Jvm.Stand Jvm.LawKit Jvm.RoadKit Bundle Jvm.Pilot.@@N@@.Jvm.D
theorem own_lw_lt (x y : Int64) : lcmpW x y < 0 ↔ x < y := by rw [lcW]; exact lc_lt x y
theorem own_lw_gt (x y : Int64) : 0 < lcmpW x y ↔ y < x := by rw [lcW]; exact lc_gt x y
theorem own_lw_eq (x y : Int64) : lcmpW x y = 0 ↔ x = y := by rw [lcW]; exact lc_eq x y
theorem own_retJ {p : Program} {l : Launch} {e : Env} {R : Room} {s : State} {m : MethodId} {args : Array Value} {below : List Frame} {meth : Method} {c : Code} {T : State} {locs : List Loc} {cells slots : Nat} (X : Stand p l e R s m args below meth c T locs cells slots) (hx : p.tables.exec = Jvm.exec) {pc : Nat} {Ls : Array Slot} {z : Int64} {rest : List Value} (hret : meth.sig.returnType = some .long) (hd : decode c.code pc = .ok (.lreturn, 1)) {fs : List Frame}
    (hl : ∀ (f : JFrame) (acts : List Action), f.method = m → f.locked = none → f.entered = [] → (doReturn e (T.setTop f) acts (some (.long z))).1 = T.setFrames fs) : Steps p.tables e below (T.setTop (mkF m pc Ls (.long z :: rest))) (T.setFrames fs) := by
  have hm' : T.vm.method? m = some meth := X.method'
  have hn : narrow .long (.long z) = .long z := rfl
  show Steps p.tables e below (T.setTop { method := m, pc := pc, locals := Ls, stack := _ :: rest, locked := none }) _
  jvm_step X.here [X.here.top, hx, hd, hm', hret, hn]
  first | (intro acts; rw [hl _ acts rfl rfl rfl]) | rw [hl _ _ rfl rfl rfl]
  exact Steps.refl _
theorem own_ne32 {k n : Int32} (h : ¬ k = n) : n.toInt ≠ k.toInt := fun e => h (Int32.toInt_inj.mp e.symm)
theorem own_d1_0 : decode prog_11_method_5_code 0 = .ok (.iload_n 0, 1) := by decide +kernel
theorem own_d1_1 : decode prog_11_method_5_code 1 = .ok (.bipush 32, 2) := by decide +kernel
theorem own_d1_3 : decode prog_11_method_5_code 3 = .ok (.if_icmp .gt 71, 3) := by decide +kernel
theorem own_d1_6 : decode prog_11_method_5_code 6 = .ok (.iload_n 0, 1) := by decide +kernel
theorem own_d1_7 : decode prog_11_method_5_code 7 = .ok (.lookupswitch 60 #[(9, 57), (10, 57), (11, 57), (12, 57), (13, 57), (32, 57)], 57) := by decide +kernel
theorem own_d1_64 : decode prog_11_method_5_code 64 = .ok (.goto 6, 3) := by decide +kernel
theorem own_d1_67 : decode prog_11_method_5_code 67 = .ok (.goto 7, 3) := by decide +kernel
theorem own_d1_70 : decode prog_11_method_5_code 70 = .ok (.iconst 1, 1) := by decide +kernel
theorem own_d1_71 : decode prog_11_method_5_code 71 = .ok (.goto 4, 3) := by decide +kernel
theorem own_d1_74 : decode prog_11_method_5_code 74 = .ok (.iconst 0, 1) := by decide +kernel
theorem own_d1_75 : decode prog_11_method_5_code 75 = .ok (.ireturn, 1) := by decide +kernel
theorem own_pn1 : plainName "com/example/nestor/nestor/Ids" = true := by first | (simp [plainName, overriddenIn]; done) | decide +kernel
theorem own_ef1 (m : MethodId) (x0 : Int32) : entryFrame m #[(.int x0)] 1 = (mkF m 0 #[.val (.int x0)] []) := by first | (simp [entryFrame, mkF, argsToLocals, Value.category]; done) | rfl
def own_f1 (p0 : Int32) : Int32 := (if (32 : Int32) < p0 then (0 : Int32) else (if p0 = (9 : Int32) then (1 : Int32) else (if p0 = (10 : Int32) then (1 : Int32) else (if p0 = (11 : Int32) then (1 : Int32) else (if p0 = (12 : Int32) then (1 : Int32) else (if p0 = (13 : Int32) then (1 : Int32) else (if p0 = (32 : Int32) then (1 : Int32) else (0 : Int32))))))))
def own_Q1 (Z : State) (p0 : Int32) (h0 : Heap) (n0 : Nat) (v : Option Value) (h : Heap) (L : List Loc) : Prop := v = some (.int (own_f1 p0)) ∧ Fr n0 L ∧ h = h0
set_option maxRecDepth 65536 in
set_option maxHeartbeats 40000000 in
theorem own_rm1 (l : Launch) (Z : State) (a0 : Array Value) (hw : ∀ d ∈ tables_1, d.before a0 Z = true) (ws : List Jvm.Cond) (p0 : Int32) (h0 : Heap) (n0 : Nat) (Z0 : n0 ≤ h0.size) :
    MetFree l (⟨"com/example/nestor/nestor/Ids", "isSeparator", "(C)Z"⟩ : MethodName) (head1 (Jvm.Cond.code (⟨"com/example/nestor/nestor/Ids", "isSeparator", "(C)Z"⟩ : MethodName) prog_11_method_5_code 1 (some .boolean) :: ws) ({ frames := 0, cells := 0, slots := 0, locals := 0 } : Room)) (fun a U => a = #[(.int p0)] ∧ Z.Warmed39 U.vm ∧ U.heap = h0) (fun _ _ _ _ _ => True) (fun _ U o U' => ∃ v L, o = .returned v ∧ own_Q1 Z p0 h0 n0 v U'.heap L ∧ FrameEnd U o U' L ({ frames := 0, cells := 0, slots := 0, locals := 0 } : Room).cells ({ frames := 0, cells := 0, slots := 0, locals := 0 } : Room).slots) := by
  refine MetFree.of_bodySF (plainFor_of_name own_pn1) hisR ?_
  intro p e s m args below meth c s₁ Bd hml0 hP hK
  obtain ⟨rfl, hZ, hh⟩ := hP
  have hx := Bd.exec
  have hby := Bd.bytes
  have hml : c.maxLocals = 1 := hml0
  have hown : s.vm.findClass "com/example/nestor/nestor/Ids" = some m.cls := findClass_of_methodNamed Bd.named
  have hnm := (name_of_methodNamed Bd.named Bd.method).1
  have X0 : Stand p l e ({ frames := 0, cells := 0, slots := 0, locals := 0 } : Room) s m #[(.int p0)] below meth c s₁ [] 0 0 := Stand.of_body Bd
  have e0 : s₁.heap = h0 := by rw [← hh, Bd.state]; rfl
  have N0 := Fr.nil n0
  have pre0 : ∀ t, Steps p.tables e below (s₁.setTop (mkF m 0 #[.val (.int p0)] [])) t → Steps p.tables e below (s₁.setTop (entryFrame m #[(.int p0)] 1)) t := fun t k => castTop (own_ef1 m p0) k
  have pre1 : ∀ t, Steps p.tables e below (s₁.setTop (mkF m 3 #[.val (.int p0)] [(.int (32 : Int32)), (.int p0)])) t → Steps p.tables e below (s₁.setTop (entryFrame m #[(.int p0)] 1)) t := fun t k => pre0 t (by
      refine XS.iloadN X0.here hx rfl (hb hby own_d1_0) rfl ?_
      show Steps p.tables e below (s₁.setTop (mkF m 1 #[.val (.int p0)] [(.int p0)])) _
      refine XS.bipush X0.here hx rfl (hb hby own_d1_1) ?_
      show Steps p.tables e below (s₁.setTop (mkF m 3 #[.val (.int p0)] [(.int (32 : Int32)), (.int p0)])) _
      exact k)
  by_cases hc2 : (32 : Int32) < p0
  · have pre3 : ∀ t, Steps p.tables e below (s₁.setTop (mkF m 75 #[.val (.int p0)] [(.int (0 : Int32))])) t → Steps p.tables e below (s₁.setTop (entryFrame m #[(.int p0)] 1)) t := fun t k => pre1 t (by
        refine XS.icmpYes X0.here hx rfl (pc0 := 3) (pc' := 74) rfl (hb hby own_d1_3) rfl (tlt hc2).2.2.1 (by decide) (by decide) ?_
        show Steps p.tables e below (s₁.setTop (mkF m 74 #[.val (.int p0)] [])) _
        refine XS.iconst X0.here hx rfl (hb hby own_d1_74) ?_
        show Steps p.tables e below (s₁.setTop (mkF m 75 #[.val (.int p0)] [(.int (0 : Int32))])) _
        exact k)
    obtain ⟨fs, hr, hrun, hended, hW, hsame⟩ := X0.leave (v := some (.int (0 : Int32))) (fun h => by rw [Bd.returns] at h; cases h)
    refine ⟨_, _, pre3 _ ?_, hrun, hended, _, _, rfl, ?_, ⟨_, rfl⟩, hW, hsame.mono (by decide) (by decide)⟩
    · show Steps p.tables e below (s₁.setTop (mkF m 75 #[.val (.int p0)] [(.int (0 : Int32))])) _
      exact retN X0 hx (t := .boolean) Bd.returns (by simp) (hb hby own_d1_75) hr
    · show own_Q1 Z p0 h0 n0 _ s₁.heap _; rw [e0]; exact ⟨(by show some (Value.int _) = some (.int (own_f1 p0)); unfold own_f1; rw [if_pos hc2]), N0, rfl⟩
  · have pre4 : ∀ t, Steps p.tables e below (s₁.setTop (mkF m 7 #[.val (.int p0)] [(.int p0)])) t → Steps p.tables e below (s₁.setTop (entryFrame m #[(.int p0)] 1)) t := fun t k => pre1 t (by
        refine XS.icmpNo X0.here hx rfl (hb hby own_d1_3) rfl (flt hc2).2.2.1 ?_
        show Steps p.tables e below (s₁.setTop (mkF m 6 #[.val (.int p0)] [])) _
        refine XS.iloadN X0.here hx rfl (hb hby own_d1_6) rfl ?_
        show Steps p.tables e below (s₁.setTop (mkF m 7 #[.val (.int p0)] [(.int p0)])) _
        exact k)
    by_cases hc5 : p0 = (9 : Int32)
    · have pre6 : ∀ t, Steps p.tables e below (s₁.setTop (mkF m 75 #[.val (.int p0)] [(.int (1 : Int32))])) t → Steps p.tables e below (s₁.setTop (entryFrame m #[(.int p0)] 1)) t := fun t k => pre4 t (by
          refine X0.lookupswitchHit hx (g := (mkF m 7 #[.val (.int p0)] [(.int p0)])) rfl (k := p0) (rest := []) rfl (hb hby own_d1_7) (by decide) (a := 9) (off := 57) (by rw [hc5]; rfl) (show (0 : Int) ≤ ((7 : Nat) : Int) + 57 from by decide) _ ?_
          show Steps p.tables e below (s₁.setTop (mkF m 64 #[.val (.int p0)] [])) _
          refine XS.goto X0.here hx rfl (pc0 := 64) (pc' := 70) rfl (hb hby own_d1_64) (by decide) (by decide) ?_
          show Steps p.tables e below (s₁.setTop (mkF m 70 #[.val (.int p0)] [])) _
          refine XS.iconst X0.here hx rfl (hb hby own_d1_70) ?_
          show Steps p.tables e below (s₁.setTop (mkF m 71 #[.val (.int p0)] [(.int (1 : Int32))])) _
          refine XS.goto X0.here hx rfl (pc0 := 71) (pc' := 75) rfl (hb hby own_d1_71) (by decide) (by decide) ?_
          show Steps p.tables e below (s₁.setTop (mkF m 75 #[.val (.int p0)] [(.int (1 : Int32))])) _
          exact k)
      obtain ⟨fs, hr, hrun, hended, hW, hsame⟩ := X0.leave (v := some (.int (1 : Int32))) (fun h => by rw [Bd.returns] at h; cases h)
      refine ⟨_, _, pre6 _ ?_, hrun, hended, _, _, rfl, ?_, ⟨_, rfl⟩, hW, hsame.mono (by decide) (by decide)⟩
      · show Steps p.tables e below (s₁.setTop (mkF m 75 #[.val (.int p0)] [(.int (1 : Int32))])) _
        exact retN X0 hx (t := .boolean) Bd.returns (by simp) (hb hby own_d1_75) hr
      · show own_Q1 Z p0 h0 n0 _ s₁.heap _; rw [e0]; exact ⟨(by show some (Value.int _) = some (.int (own_f1 p0)); unfold own_f1; rw [if_neg hc2, if_pos hc5]), N0, rfl⟩
    · by_cases hc7 : p0 = (10 : Int32)
      · have pre8 : ∀ t, Steps p.tables e below (s₁.setTop (mkF m 75 #[.val (.int p0)] [(.int (1 : Int32))])) t → Steps p.tables e below (s₁.setTop (entryFrame m #[(.int p0)] 1)) t := fun t k => pre4 t (by
            refine X0.lookupswitchHit hx (g := (mkF m 7 #[.val (.int p0)] [(.int p0)])) rfl (k := p0) (rest := []) rfl (hb hby own_d1_7) (by decide) (a := 10) (off := 57) (by rw [hc7]; rfl) (show (0 : Int) ≤ ((7 : Nat) : Int) + 57 from by decide) _ ?_
            show Steps p.tables e below (s₁.setTop (mkF m 64 #[.val (.int p0)] [])) _
            refine XS.goto X0.here hx rfl (pc0 := 64) (pc' := 70) rfl (hb hby own_d1_64) (by decide) (by decide) ?_
            show Steps p.tables e below (s₁.setTop (mkF m 70 #[.val (.int p0)] [])) _
            refine XS.iconst X0.here hx rfl (hb hby own_d1_70) ?_
            show Steps p.tables e below (s₁.setTop (mkF m 71 #[.val (.int p0)] [(.int (1 : Int32))])) _
            refine XS.goto X0.here hx rfl (pc0 := 71) (pc' := 75) rfl (hb hby own_d1_71) (by decide) (by decide) ?_
            show Steps p.tables e below (s₁.setTop (mkF m 75 #[.val (.int p0)] [(.int (1 : Int32))])) _
            exact k)
        obtain ⟨fs, hr, hrun, hended, hW, hsame⟩ := X0.leave (v := some (.int (1 : Int32))) (fun h => by rw [Bd.returns] at h; cases h)
        refine ⟨_, _, pre8 _ ?_, hrun, hended, _, _, rfl, ?_, ⟨_, rfl⟩, hW, hsame.mono (by decide) (by decide)⟩
        · show Steps p.tables e below (s₁.setTop (mkF m 75 #[.val (.int p0)] [(.int (1 : Int32))])) _
          exact retN X0 hx (t := .boolean) Bd.returns (by simp) (hb hby own_d1_75) hr
        · show own_Q1 Z p0 h0 n0 _ s₁.heap _; rw [e0]; exact ⟨(by show some (Value.int _) = some (.int (own_f1 p0)); unfold own_f1; rw [if_neg hc2, if_neg hc5, if_pos hc7]), N0, rfl⟩
      · by_cases hc9 : p0 = (11 : Int32)
        · have pre10 : ∀ t, Steps p.tables e below (s₁.setTop (mkF m 75 #[.val (.int p0)] [(.int (1 : Int32))])) t → Steps p.tables e below (s₁.setTop (entryFrame m #[(.int p0)] 1)) t := fun t k => pre4 t (by
              refine X0.lookupswitchHit hx (g := (mkF m 7 #[.val (.int p0)] [(.int p0)])) rfl (k := p0) (rest := []) rfl (hb hby own_d1_7) (by decide) (a := 11) (off := 57) (by rw [hc9]; rfl) (show (0 : Int) ≤ ((7 : Nat) : Int) + 57 from by decide) _ ?_
              show Steps p.tables e below (s₁.setTop (mkF m 64 #[.val (.int p0)] [])) _
              refine XS.goto X0.here hx rfl (pc0 := 64) (pc' := 70) rfl (hb hby own_d1_64) (by decide) (by decide) ?_
              show Steps p.tables e below (s₁.setTop (mkF m 70 #[.val (.int p0)] [])) _
              refine XS.iconst X0.here hx rfl (hb hby own_d1_70) ?_
              show Steps p.tables e below (s₁.setTop (mkF m 71 #[.val (.int p0)] [(.int (1 : Int32))])) _
              refine XS.goto X0.here hx rfl (pc0 := 71) (pc' := 75) rfl (hb hby own_d1_71) (by decide) (by decide) ?_
              show Steps p.tables e below (s₁.setTop (mkF m 75 #[.val (.int p0)] [(.int (1 : Int32))])) _
              exact k)
          obtain ⟨fs, hr, hrun, hended, hW, hsame⟩ := X0.leave (v := some (.int (1 : Int32))) (fun h => by rw [Bd.returns] at h; cases h)
          refine ⟨_, _, pre10 _ ?_, hrun, hended, _, _, rfl, ?_, ⟨_, rfl⟩, hW, hsame.mono (by decide) (by decide)⟩
          · show Steps p.tables e below (s₁.setTop (mkF m 75 #[.val (.int p0)] [(.int (1 : Int32))])) _
            exact retN X0 hx (t := .boolean) Bd.returns (by simp) (hb hby own_d1_75) hr
          · show own_Q1 Z p0 h0 n0 _ s₁.heap _; rw [e0]; exact ⟨(by show some (Value.int _) = some (.int (own_f1 p0)); unfold own_f1; rw [if_neg hc2, if_neg hc5, if_neg hc7, if_pos hc9]), N0, rfl⟩
        · by_cases hc11 : p0 = (12 : Int32)
          · have pre12 : ∀ t, Steps p.tables e below (s₁.setTop (mkF m 75 #[.val (.int p0)] [(.int (1 : Int32))])) t → Steps p.tables e below (s₁.setTop (entryFrame m #[(.int p0)] 1)) t := fun t k => pre4 t (by
                refine X0.lookupswitchHit hx (g := (mkF m 7 #[.val (.int p0)] [(.int p0)])) rfl (k := p0) (rest := []) rfl (hb hby own_d1_7) (by decide) (a := 12) (off := 57) (by rw [hc11]; rfl) (show (0 : Int) ≤ ((7 : Nat) : Int) + 57 from by decide) _ ?_
                show Steps p.tables e below (s₁.setTop (mkF m 64 #[.val (.int p0)] [])) _
                refine XS.goto X0.here hx rfl (pc0 := 64) (pc' := 70) rfl (hb hby own_d1_64) (by decide) (by decide) ?_
                show Steps p.tables e below (s₁.setTop (mkF m 70 #[.val (.int p0)] [])) _
                refine XS.iconst X0.here hx rfl (hb hby own_d1_70) ?_
                show Steps p.tables e below (s₁.setTop (mkF m 71 #[.val (.int p0)] [(.int (1 : Int32))])) _
                refine XS.goto X0.here hx rfl (pc0 := 71) (pc' := 75) rfl (hb hby own_d1_71) (by decide) (by decide) ?_
                show Steps p.tables e below (s₁.setTop (mkF m 75 #[.val (.int p0)] [(.int (1 : Int32))])) _
                exact k)
            obtain ⟨fs, hr, hrun, hended, hW, hsame⟩ := X0.leave (v := some (.int (1 : Int32))) (fun h => by rw [Bd.returns] at h; cases h)
            refine ⟨_, _, pre12 _ ?_, hrun, hended, _, _, rfl, ?_, ⟨_, rfl⟩, hW, hsame.mono (by decide) (by decide)⟩
            · show Steps p.tables e below (s₁.setTop (mkF m 75 #[.val (.int p0)] [(.int (1 : Int32))])) _
              exact retN X0 hx (t := .boolean) Bd.returns (by simp) (hb hby own_d1_75) hr
            · show own_Q1 Z p0 h0 n0 _ s₁.heap _; rw [e0]; exact ⟨(by show some (Value.int _) = some (.int (own_f1 p0)); unfold own_f1; rw [if_neg hc2, if_neg hc5, if_neg hc7, if_neg hc9, if_pos hc11]), N0, rfl⟩
          · by_cases hc13 : p0 = (13 : Int32)
            · have pre14 : ∀ t, Steps p.tables e below (s₁.setTop (mkF m 75 #[.val (.int p0)] [(.int (1 : Int32))])) t → Steps p.tables e below (s₁.setTop (entryFrame m #[(.int p0)] 1)) t := fun t k => pre4 t (by
                  refine X0.lookupswitchHit hx (g := (mkF m 7 #[.val (.int p0)] [(.int p0)])) rfl (k := p0) (rest := []) rfl (hb hby own_d1_7) (by decide) (a := 13) (off := 57) (by rw [hc13]; rfl) (show (0 : Int) ≤ ((7 : Nat) : Int) + 57 from by decide) _ ?_
                  show Steps p.tables e below (s₁.setTop (mkF m 64 #[.val (.int p0)] [])) _
                  refine XS.goto X0.here hx rfl (pc0 := 64) (pc' := 70) rfl (hb hby own_d1_64) (by decide) (by decide) ?_
                  show Steps p.tables e below (s₁.setTop (mkF m 70 #[.val (.int p0)] [])) _
                  refine XS.iconst X0.here hx rfl (hb hby own_d1_70) ?_
                  show Steps p.tables e below (s₁.setTop (mkF m 71 #[.val (.int p0)] [(.int (1 : Int32))])) _
                  refine XS.goto X0.here hx rfl (pc0 := 71) (pc' := 75) rfl (hb hby own_d1_71) (by decide) (by decide) ?_
                  show Steps p.tables e below (s₁.setTop (mkF m 75 #[.val (.int p0)] [(.int (1 : Int32))])) _
                  exact k)
              obtain ⟨fs, hr, hrun, hended, hW, hsame⟩ := X0.leave (v := some (.int (1 : Int32))) (fun h => by rw [Bd.returns] at h; cases h)
              refine ⟨_, _, pre14 _ ?_, hrun, hended, _, _, rfl, ?_, ⟨_, rfl⟩, hW, hsame.mono (by decide) (by decide)⟩
              · show Steps p.tables e below (s₁.setTop (mkF m 75 #[.val (.int p0)] [(.int (1 : Int32))])) _
                exact retN X0 hx (t := .boolean) Bd.returns (by simp) (hb hby own_d1_75) hr
              · show own_Q1 Z p0 h0 n0 _ s₁.heap _; rw [e0]; exact ⟨(by show some (Value.int _) = some (.int (own_f1 p0)); unfold own_f1; rw [if_neg hc2, if_neg hc5, if_neg hc7, if_neg hc9, if_neg hc11, if_pos hc13]), N0, rfl⟩
            · by_cases hc15 : p0 = (32 : Int32)
              · have pre16 : ∀ t, Steps p.tables e below (s₁.setTop (mkF m 75 #[.val (.int p0)] [(.int (1 : Int32))])) t → Steps p.tables e below (s₁.setTop (entryFrame m #[(.int p0)] 1)) t := fun t k => pre4 t (by
                    refine X0.lookupswitchHit hx (g := (mkF m 7 #[.val (.int p0)] [(.int p0)])) rfl (k := p0) (rest := []) rfl (hb hby own_d1_7) (by decide) (a := 32) (off := 57) (by rw [hc15]; rfl) (show (0 : Int) ≤ ((7 : Nat) : Int) + 57 from by decide) _ ?_
                    show Steps p.tables e below (s₁.setTop (mkF m 64 #[.val (.int p0)] [])) _
                    refine XS.goto X0.here hx rfl (pc0 := 64) (pc' := 70) rfl (hb hby own_d1_64) (by decide) (by decide) ?_
                    show Steps p.tables e below (s₁.setTop (mkF m 70 #[.val (.int p0)] [])) _
                    refine XS.iconst X0.here hx rfl (hb hby own_d1_70) ?_
                    show Steps p.tables e below (s₁.setTop (mkF m 71 #[.val (.int p0)] [(.int (1 : Int32))])) _
                    refine XS.goto X0.here hx rfl (pc0 := 71) (pc' := 75) rfl (hb hby own_d1_71) (by decide) (by decide) ?_
                    show Steps p.tables e below (s₁.setTop (mkF m 75 #[.val (.int p0)] [(.int (1 : Int32))])) _
                    exact k)
                obtain ⟨fs, hr, hrun, hended, hW, hsame⟩ := X0.leave (v := some (.int (1 : Int32))) (fun h => by rw [Bd.returns] at h; cases h)
                refine ⟨_, _, pre16 _ ?_, hrun, hended, _, _, rfl, ?_, ⟨_, rfl⟩, hW, hsame.mono (by decide) (by decide)⟩
                · show Steps p.tables e below (s₁.setTop (mkF m 75 #[.val (.int p0)] [(.int (1 : Int32))])) _
                  exact retN X0 hx (t := .boolean) Bd.returns (by simp) (hb hby own_d1_75) hr
                · show own_Q1 Z p0 h0 n0 _ s₁.heap _; rw [e0]; exact ⟨(by show some (Value.int _) = some (.int (own_f1 p0)); unfold own_f1; rw [if_neg hc2, if_neg hc5, if_neg hc7, if_neg hc9, if_neg hc11, if_neg hc13, if_pos hc15]), N0, rfl⟩
              · have pre17 : ∀ t, Steps p.tables e below (s₁.setTop (mkF m 75 #[.val (.int p0)] [(.int (0 : Int32))])) t → Steps p.tables e below (s₁.setTop (entryFrame m #[(.int p0)] 1)) t := fun t k => pre4 t (by
                    refine X0.lookupswitchMiss hx (g := (mkF m 7 #[.val (.int p0)] [(.int p0)])) rfl (k := p0) (rest := []) rfl (hb hby own_d1_7) (by decide) (find_miss (fun q hq => by
                        simp only [List.mem_cons, List.not_mem_nil, or_false] at hq
                        rcases hq with rfl | rfl | rfl | rfl | rfl | rfl
                        · exact own_ne32 (n := 9) hc5
                        · exact own_ne32 (n := 10) hc7
                        · exact own_ne32 (n := 11) hc9
                        · exact own_ne32 (n := 12) hc11
                        · exact own_ne32 (n := 13) hc13
                        · exact own_ne32 (n := 32) hc15)) (show (0 : Int) ≤ ((7 : Nat) : Int) + 60 from by decide) _ ?_
                    show Steps p.tables e below (s₁.setTop (mkF m 67 #[.val (.int p0)] [])) _
                    refine XS.goto X0.here hx rfl (pc0 := 67) (pc' := 74) rfl (hb hby own_d1_67) (by decide) (by decide) ?_
                    show Steps p.tables e below (s₁.setTop (mkF m 74 #[.val (.int p0)] [])) _
                    refine XS.iconst X0.here hx rfl (hb hby own_d1_74) ?_
                    show Steps p.tables e below (s₁.setTop (mkF m 75 #[.val (.int p0)] [(.int (0 : Int32))])) _
                    exact k)
                obtain ⟨fs, hr, hrun, hended, hW, hsame⟩ := X0.leave (v := some (.int (0 : Int32))) (fun h => by rw [Bd.returns] at h; cases h)
                refine ⟨_, _, pre17 _ ?_, hrun, hended, _, _, rfl, ?_, ⟨_, rfl⟩, hW, hsame.mono (by decide) (by decide)⟩
                · show Steps p.tables e below (s₁.setTop (mkF m 75 #[.val (.int p0)] [(.int (0 : Int32))])) _
                  exact retN X0 hx (t := .boolean) Bd.returns (by simp) (hb hby own_d1_75) hr
                · show own_Q1 Z p0 h0 n0 _ s₁.heap _; rw [e0]; exact ⟨(by show some (Value.int _) = some (.int (own_f1 p0)); unfold own_f1; rw [if_neg hc2, if_neg hc5, if_neg hc7, if_neg hc9, if_neg hc11, if_neg hc13, if_neg hc15]), N0, rfl⟩
theorem own_pd0 : parseMethodDescriptor "(C)Z" = some ⟨[.char], some .boolean⟩ := by decide +kernel
theorem own_pn0 : plainName "com/example/nestor/nestor/IdsIsSeparatorPinLaw" = true := by first | (simp [plainName, overriddenIn]; done) | decide +kernel
theorem own_ef0 (m : MethodId) (x0 : Int32) (x1 : Int32) : entryFrame m #[(.int x0), (.int x1)] maxLocals = (mkF m 0 #[.val (.int x0), .val (.int x1), .unset, .unset, .unset] []) := by first | (simp [entryFrame, mkF, argsToLocals, Value.category, maxLocals]; done) | rfl
def own_v0_20_0 (p0 : Int32) : Int32 := ((p0 &&& (63 : Int32)).toUInt32.toUInt16.toUInt32.toInt32)
def own_v0_20_1 (p0 : Int32) : Int32 := ((p0 &&& (65535 : Int32)).toUInt32.toUInt16.toUInt32.toInt32)
def own_f0 (p0 : Int32) (p1 : Int32) : Int32 := (if (p1 &&& (1 : Int32)) = (0 : Int32) then (if (p0 &&& (63 : Int32)) = (32 : Int32) then (if (own_f1 (own_v0_20_0 p0)) = (1 : Int32) then (1 : Int32) else (0 : Int32)) else (if (p0 &&& (63 : Int32)) < (9 : Int32) then (if (own_f1 (own_v0_20_0 p0)) = (0 : Int32) then (1 : Int32) else (0 : Int32)) else (if (13 : Int32) < (p0 &&& (63 : Int32)) then (if (own_f1 (own_v0_20_0 p0)) = (0 : Int32) then (1 : Int32) else (0 : Int32)) else (if (own_f1 (own_v0_20_0 p0)) = (1 : Int32) then (1 : Int32) else (0 : Int32))))) else (if (p0 &&& (65535 : Int32)) = (32 : Int32) then (if (own_f1 (own_v0_20_1 p0)) = (1 : Int32) then (1 : Int32) else (0 : Int32)) else (if (p0 &&& (65535 : Int32)) < (9 : Int32) then (if (own_f1 (own_v0_20_1 p0)) = (0 : Int32) then (1 : Int32) else (0 : Int32)) else (if (13 : Int32) < (p0 &&& (65535 : Int32)) then (if (own_f1 (own_v0_20_1 p0)) = (0 : Int32) then (1 : Int32) else (0 : Int32)) else (if (own_f1 (own_v0_20_1 p0)) = (1 : Int32) then (1 : Int32) else (0 : Int32))))))
def own_Q0 (Z : State) (p0 : Int32) (p1 : Int32) (h0 : Heap) (n0 : Nat) (v : Option Value) (h : Heap) (L : List Loc) : Prop := v = some (.int (own_f0 p0 p1)) ∧ Fr n0 L
set_option maxRecDepth 65536 in
set_option maxHeartbeats 40000000 in
theorem own_rm0 (l : Launch) (Z : State) (a0 : Array Value) (hw : ∀ d ∈ tables_1, d.before a0 Z = true) (ws : List Jvm.Cond) (p0 : Int32) (p1 : Int32) (h0 : Heap) (n0 : Nat) (Z0 : n0 ≤ h0.size) :
    MetFree l x (head1 (Jvm.Cond.code x code maxLocals ret :: ws) room_1) (fun a U => a = #[(.int p0), (.int p1)] ∧ Z.Warmed39 U.vm ∧ U.heap = h0) (fun _ _ _ _ _ => True) (fun _ U o U' => ∃ v L, o = .returned v ∧ own_Q0 Z p0 p1 h0 n0 v U'.heap L ∧ FrameEnd U o U' L room_1.cells room_1.slots) := by
  refine MetFree.of_bodySF (plainFor_of_name own_pn0) hisR ?_
  intro p e s m args below meth c s₁ Bd hml0 hP hK
  obtain ⟨rfl, hZ, hh⟩ := hP
  have hx := Bd.exec
  have hby := Bd.bytes
  have hml : c.maxLocals = 5 := hml0
  have hown : s.vm.findClass "com/example/nestor/nestor/IdsIsSeparatorPinLaw" = some m.cls := findClass_of_methodNamed Bd.named
  have hnm := (name_of_methodNamed Bd.named Bd.method).1
  have X0 : Stand p l e room_1 s m #[(.int p0), (.int p1)] below meth c s₁ [] 0 0 := Stand.of_body Bd
  have e0 : s₁.heap = h0 := by rw [← hh, Bd.state]; rfl
  have N0 := Fr.nil n0
  have pre0 : ∀ t, Steps p.tables e below (s₁.setTop (mkF m 0 #[.val (.int p0), .val (.int p1), .unset, .unset, .unset] [])) t → Steps p.tables e below (s₁.setTop (entryFrame m #[(.int p0), (.int p1)] maxLocals)) t := fun t k => castTop (own_ef0 m p0 p1) k
  have pre1 : ∀ t, Steps p.tables e below (s₁.setTop (mkF m 3 #[.val (.int p0), .val (.int p1), .unset, .unset, .unset] [(.int (p1 &&& (1 : Int32)))])) t → Steps p.tables e below (s₁.setTop (entryFrame m #[(.int p0), (.int p1)] maxLocals)) t := fun t k => pre0 t (by
      refine XS.iloadN X0.here hx rfl (hb hby at_0) rfl ?_
      show Steps p.tables e below (s₁.setTop (mkF m 1 #[.val (.int p0), .val (.int p1), .unset, .unset, .unset] [(.int p1)])) _
      refine XS.iconst X0.here hx rfl (hb hby at_1) ?_
      show Steps p.tables e below (s₁.setTop (mkF m 2 #[.val (.int p0), .val (.int p1), .unset, .unset, .unset] [(.int (1 : Int32)), (.int p1)])) _
      refine XS.iand X0.here hx rfl (hb hby at_2) rfl ?_
      show Steps p.tables e below (s₁.setTop (mkF m 3 #[.val (.int p0), .val (.int p1), .unset, .unset, .unset] [(.int (p1 &&& (1 : Int32)))])) _
      exact k)
  by_cases hc2 : (p1 &&& (1 : Int32)) = (0 : Int32)
  · have pre3 : ∀ t, Steps p.tables e below (s₁.setTop (mkF m 24 #[.val (.int p0), .val (.int p1), .val (.int (p0 &&& (63 : Int32))), .val (.int (own_v0_20_0 p0)), .unset] [(.int (32 : Int32)), (.int (p0 &&& (63 : Int32)))])) t → Steps p.tables e below (s₁.setTop (entryFrame m #[(.int p0), (.int p1)] maxLocals)) t := fun t k => pre1 t (by
        refine XS.ifYes X0.here hx rfl (pc0 := 3) (pc' := 13) rfl (hb hby at_3) rfl ((if0 _ _).trans (teq hc2).1) (by decide) (by decide) ?_
        show Steps p.tables e below (s₁.setTop (mkF m 13 #[.val (.int p0), .val (.int p1), .unset, .unset, .unset] [])) _
        refine XS.iloadN X0.here hx rfl (hb hby at_13) rfl ?_
        show Steps p.tables e below (s₁.setTop (mkF m 14 #[.val (.int p0), .val (.int p1), .unset, .unset, .unset] [(.int p0)])) _
        refine XS.bipush X0.here hx rfl (hb hby at_14) ?_
        show Steps p.tables e below (s₁.setTop (mkF m 16 #[.val (.int p0), .val (.int p1), .unset, .unset, .unset] [(.int (63 : Int32)), (.int p0)])) _
        refine XS.iand X0.here hx rfl (hb hby at_16) rfl ?_
        show Steps p.tables e below (s₁.setTop (mkF m 17 #[.val (.int p0), .val (.int p1), .unset, .unset, .unset] [(.int (p0 &&& (63 : Int32)))])) _
        refine XS.istoreN X0.here hx rfl (hb hby at_17) rfl (l' := #[.val (.int p0), .val (.int p1), .val (.int (p0 &&& (63 : Int32))), .unset, .unset]) rfl ?_
        show Steps p.tables e below (s₁.setTop (mkF m 18 #[.val (.int p0), .val (.int p1), .val (.int (p0 &&& (63 : Int32))), .unset, .unset] [])) _
        refine XS.iloadN X0.here hx rfl (hb hby at_18) rfl ?_
        show Steps p.tables e below (s₁.setTop (mkF m 19 #[.val (.int p0), .val (.int p1), .val (.int (p0 &&& (63 : Int32))), .unset, .unset] [(.int (p0 &&& (63 : Int32)))])) _
        refine XS.i2c X0.here hx rfl (hb hby at_19) rfl ?_
        show Steps p.tables e below (s₁.setTop (mkF m 20 #[.val (.int p0), .val (.int p1), .val (.int (p0 &&& (63 : Int32))), .unset, .unset] [(.int ((p0 &&& (63 : Int32)).toUInt32.toUInt16.toUInt32.toInt32))])) _
        refine XS.istoreN X0.here hx rfl (hb hby at_20) rfl (l' := #[.val (.int p0), .val (.int p1), .val (.int (p0 &&& (63 : Int32))), .val (.int (own_v0_20_0 p0)), .unset]) rfl ?_
        show Steps p.tables e below (s₁.setTop (mkF m 21 #[.val (.int p0), .val (.int p1), .val (.int (p0 &&& (63 : Int32))), .val (.int (own_v0_20_0 p0)), .unset] [])) _
        refine XS.iloadN X0.here hx rfl (hb hby at_21) rfl ?_
        show Steps p.tables e below (s₁.setTop (mkF m 22 #[.val (.int p0), .val (.int p1), .val (.int (p0 &&& (63 : Int32))), .val (.int (own_v0_20_0 p0)), .unset] [(.int (p0 &&& (63 : Int32)))])) _
        refine XS.bipush X0.here hx rfl (hb hby at_22) ?_
        show Steps p.tables e below (s₁.setTop (mkF m 24 #[.val (.int p0), .val (.int p1), .val (.int (p0 &&& (63 : Int32))), .val (.int (own_v0_20_0 p0)), .unset] [(.int (32 : Int32)), (.int (p0 &&& (63 : Int32)))])) _
        exact k)
    by_cases hc4 : (p0 &&& (63 : Int32)) = (32 : Int32)
    · obtain ⟨_, _, ⟨T5, L5, k5, n5⟩, -, X5, ⟨Lc5, hQ5, l5, y5, z5⟩, st5⟩ := Jvm.LawKit.callS X0 hx (y := (⟨"com/example/nestor/nestor/Ids", "isSeparator", "(C)Z"⟩ : MethodName)) hown (mvT hZ (hw _ (List.mem_of_getElem? (i := 1) rfl))) (mvT hZ (hw _ (List.mem_of_getElem? (i := 2) rfl))) (mvT hZ (hw _ (List.mem_of_getElem? (i := 3) rfl))) (mvT hZ (hw _ (List.mem_of_getElem? (i := 4) rfl))) (by decide) (backOf (W := 0) (own_rm1 l Z a0 hw [] (own_v0_20_0 p0) h0 n0 Z0 ) hZ (hw _ (List.mem_of_getElem? (i := 4) rfl)) (hw _ (List.mem_of_getElem? (i := 3) rfl)) (by decide) (by decide)) (g := (mkF m 47 #[.val (.int p0), .val (.int p1), .val (.int (p0 &&& (63 : Int32))), .val (.int (own_v0_20_0 p0)), .val (.int (1 : Int32))] [(.int (own_v0_20_0 p0))])) rfl (by rw [hml]; rfl) (argsL := [(.int (own_v0_20_0 p0))]) (rest := []) (lenOf own_pd0 rfl) rfl (by show 2 * 0 + _ ≤ _; exact Nat.le_of_eq rfl) (hb hby at_47) (fun _ _ => ⟨rfl, e0, (by decide : 0 + 0 ≤ _), (by decide : 0 + 0 ≤ _)⟩)
      dsimp only [Pt.U, Pt.locs, Pt.cells, Pt.slots] at X5 l5 y5 z5 st5 hQ5
      subst l5 y5 z5
      obtain ⟨rfl, N5q, e5⟩ := hQ5
      have N6 := Fr.app N0 N5q
      have pre7 : ∀ t, Steps p.tables e below (T5.setTop (mkF m 52 #[.val (.int p0), .val (.int p1), .val (.int (p0 &&& (63 : Int32))), .val (.int (own_v0_20_0 p0)), .val (.int (1 : Int32))] [(.int (1 : Int32)), (.int (own_f1 (own_v0_20_0 p0)))])) t → Steps p.tables e below (s₁.setTop (entryFrame m #[(.int p0), (.int p1)] maxLocals)) t := fun t k => pre3 t (by
          refine XS.icmpYes X0.here hx rfl (pc0 := 24) (pc' := 39) rfl (hb hby at_24) rfl (teq hc4).1 (by decide) (by decide) ?_
          show Steps p.tables e below (s₁.setTop (mkF m 39 #[.val (.int p0), .val (.int p1), .val (.int (p0 &&& (63 : Int32))), .val (.int (own_v0_20_0 p0)), .unset] [])) _
          refine XS.iconst X0.here hx rfl (hb hby at_39) ?_
          show Steps p.tables e below (s₁.setTop (mkF m 40 #[.val (.int p0), .val (.int p1), .val (.int (p0 &&& (63 : Int32))), .val (.int (own_v0_20_0 p0)), .unset] [(.int (1 : Int32))])) _
          refine XS.goto X0.here hx rfl (pc0 := 40) (pc' := 44) rfl (hb hby at_40) (by decide) (by decide) ?_
          show Steps p.tables e below (s₁.setTop (mkF m 44 #[.val (.int p0), .val (.int p1), .val (.int (p0 &&& (63 : Int32))), .val (.int (own_v0_20_0 p0)), .unset] [(.int (1 : Int32))])) _
          refine XS.istore X0.here hx rfl (hb hby at_44) rfl (l' := #[.val (.int p0), .val (.int p1), .val (.int (p0 &&& (63 : Int32))), .val (.int (own_v0_20_0 p0)), .val (.int (1 : Int32))]) rfl ?_
          show Steps p.tables e below (s₁.setTop (mkF m 46 #[.val (.int p0), .val (.int p1), .val (.int (p0 &&& (63 : Int32))), .val (.int (own_v0_20_0 p0)), .val (.int (1 : Int32))] [])) _
          refine XS.iloadN X0.here hx rfl (hb hby at_46) rfl ?_
          show Steps p.tables e below (s₁.setTop (mkF m 47 #[.val (.int p0), .val (.int p1), .val (.int (p0 &&& (63 : Int32))), .val (.int (own_v0_20_0 p0)), .val (.int (1 : Int32))] [(.int (own_v0_20_0 p0))])) _
          refine st5 _ ?_
          show Steps p.tables e below (T5.setTop (mkF m 50 #[.val (.int p0), .val (.int p1), .val (.int (p0 &&& (63 : Int32))), .val (.int (own_v0_20_0 p0)), .val (.int (1 : Int32))] [(.int (own_f1 (own_v0_20_0 p0)))])) _
          refine XS.iload X5.here hx rfl (hb hby at_50) rfl ?_
          show Steps p.tables e below (T5.setTop (mkF m 52 #[.val (.int p0), .val (.int p1), .val (.int (p0 &&& (63 : Int32))), .val (.int (own_v0_20_0 p0)), .val (.int (1 : Int32))] [(.int (1 : Int32)), (.int (own_f1 (own_v0_20_0 p0)))])) _
          exact k)
      by_cases hc8 : (own_f1 (own_v0_20_0 p0)) = (1 : Int32)
      · have pre9 : ∀ t, Steps p.tables e below (T5.setTop (mkF m 60 #[.val (.int p0), .val (.int p1), .val (.int (p0 &&& (63 : Int32))), .val (.int (own_v0_20_0 p0)), .val (.int (1 : Int32))] [(.int (1 : Int32))])) t → Steps p.tables e below (s₁.setTop (entryFrame m #[(.int p0), (.int p1)] maxLocals)) t := fun t k => pre7 t (by
            refine XS.icmpNo X5.here hx rfl (hb hby at_52) rfl (teq hc8).2 ?_
            show Steps p.tables e below (T5.setTop (mkF m 55 #[.val (.int p0), .val (.int p1), .val (.int (p0 &&& (63 : Int32))), .val (.int (own_v0_20_0 p0)), .val (.int (1 : Int32))] [])) _
            refine XS.iconst X5.here hx rfl (hb hby at_55) ?_
            show Steps p.tables e below (T5.setTop (mkF m 56 #[.val (.int p0), .val (.int p1), .val (.int (p0 &&& (63 : Int32))), .val (.int (own_v0_20_0 p0)), .val (.int (1 : Int32))] [(.int (1 : Int32))])) _
            refine XS.goto X5.here hx rfl (pc0 := 56) (pc' := 60) rfl (hb hby at_56) (by decide) (by decide) ?_
            show Steps p.tables e below (T5.setTop (mkF m 60 #[.val (.int p0), .val (.int p1), .val (.int (p0 &&& (63 : Int32))), .val (.int (own_v0_20_0 p0)), .val (.int (1 : Int32))] [(.int (1 : Int32))])) _
            exact k)
        obtain ⟨fs, hr, hrun, hended, hW, hsame⟩ := X5.leave (v := some (.int (1 : Int32))) (fun h => by rw [Bd.returns] at h; cases h)
        refine ⟨_, _, pre9 _ ?_, hrun, hended, _, _, rfl, ?_, ⟨_, rfl⟩, hW, hsame.mono (by decide) (by decide)⟩
        · show Steps p.tables e below (T5.setTop (mkF m 60 #[.val (.int p0), .val (.int p1), .val (.int (p0 &&& (63 : Int32))), .val (.int (own_v0_20_0 p0)), .val (.int (1 : Int32))] [(.int (1 : Int32))])) _
          exact retN X5 hx (t := .boolean) Bd.returns (by simp) (hb hby at_60) hr
        · show own_Q0 Z p0 p1 h0 n0 _ T5.heap _; exact ⟨(by show some (Value.int _) = some (.int (own_f0 p0 p1)); unfold own_f0; rw [if_pos hc2, if_pos hc4, if_pos hc8]), N6⟩
      · have pre10 : ∀ t, Steps p.tables e below (T5.setTop (mkF m 60 #[.val (.int p0), .val (.int p1), .val (.int (p0 &&& (63 : Int32))), .val (.int (own_v0_20_0 p0)), .val (.int (1 : Int32))] [(.int (0 : Int32))])) t → Steps p.tables e below (s₁.setTop (entryFrame m #[(.int p0), (.int p1)] maxLocals)) t := fun t k => pre7 t (by
            refine XS.icmpYes X5.here hx rfl (pc0 := 52) (pc' := 59) rfl (hb hby at_52) rfl (feq hc8).2 (by decide) (by decide) ?_
            show Steps p.tables e below (T5.setTop (mkF m 59 #[.val (.int p0), .val (.int p1), .val (.int (p0 &&& (63 : Int32))), .val (.int (own_v0_20_0 p0)), .val (.int (1 : Int32))] [])) _
            refine XS.iconst X5.here hx rfl (hb hby at_59) ?_
            show Steps p.tables e below (T5.setTop (mkF m 60 #[.val (.int p0), .val (.int p1), .val (.int (p0 &&& (63 : Int32))), .val (.int (own_v0_20_0 p0)), .val (.int (1 : Int32))] [(.int (0 : Int32))])) _
            exact k)
        obtain ⟨fs, hr, hrun, hended, hW, hsame⟩ := X5.leave (v := some (.int (0 : Int32))) (fun h => by rw [Bd.returns] at h; cases h)
        refine ⟨_, _, pre10 _ ?_, hrun, hended, _, _, rfl, ?_, ⟨_, rfl⟩, hW, hsame.mono (by decide) (by decide)⟩
        · show Steps p.tables e below (T5.setTop (mkF m 60 #[.val (.int p0), .val (.int p1), .val (.int (p0 &&& (63 : Int32))), .val (.int (own_v0_20_0 p0)), .val (.int (1 : Int32))] [(.int (0 : Int32))])) _
          exact retN X5 hx (t := .boolean) Bd.returns (by simp) (hb hby at_60) hr
        · show own_Q0 Z p0 p1 h0 n0 _ T5.heap _; exact ⟨(by show some (Value.int _) = some (.int (own_f0 p0 p1)); unfold own_f0; rw [if_pos hc2, if_pos hc4, if_neg hc8]), N6⟩
    · have pre11 : ∀ t, Steps p.tables e below (s₁.setTop (mkF m 30 #[.val (.int p0), .val (.int p1), .val (.int (p0 &&& (63 : Int32))), .val (.int (own_v0_20_0 p0)), .unset] [(.int (9 : Int32)), (.int (p0 &&& (63 : Int32)))])) t → Steps p.tables e below (s₁.setTop (entryFrame m #[(.int p0), (.int p1)] maxLocals)) t := fun t k => pre3 t (by
          refine XS.icmpNo X0.here hx rfl (hb hby at_24) rfl (feq hc4).1 ?_
          show Steps p.tables e below (s₁.setTop (mkF m 27 #[.val (.int p0), .val (.int p1), .val (.int (p0 &&& (63 : Int32))), .val (.int (own_v0_20_0 p0)), .unset] [])) _
          refine XS.iloadN X0.here hx rfl (hb hby at_27) rfl ?_
          show Steps p.tables e below (s₁.setTop (mkF m 28 #[.val (.int p0), .val (.int p1), .val (.int (p0 &&& (63 : Int32))), .val (.int (own_v0_20_0 p0)), .unset] [(.int (p0 &&& (63 : Int32)))])) _
          refine XS.bipush X0.here hx rfl (hb hby at_28) ?_
          show Steps p.tables e below (s₁.setTop (mkF m 30 #[.val (.int p0), .val (.int p1), .val (.int (p0 &&& (63 : Int32))), .val (.int (own_v0_20_0 p0)), .unset] [(.int (9 : Int32)), (.int (p0 &&& (63 : Int32)))])) _
          exact k)
      by_cases hc12 : (p0 &&& (63 : Int32)) < (9 : Int32)
      · obtain ⟨_, _, ⟨T13, L13, k13, n13⟩, -, X13, ⟨Lc13, hQ13, l13, y13, z13⟩, st13⟩ := Jvm.LawKit.callS X0 hx (y := (⟨"com/example/nestor/nestor/Ids", "isSeparator", "(C)Z"⟩ : MethodName)) hown (mvT hZ (hw _ (List.mem_of_getElem? (i := 1) rfl))) (mvT hZ (hw _ (List.mem_of_getElem? (i := 2) rfl))) (mvT hZ (hw _ (List.mem_of_getElem? (i := 3) rfl))) (mvT hZ (hw _ (List.mem_of_getElem? (i := 4) rfl))) (by decide) (backOf (W := 0) (own_rm1 l Z a0 hw [] (own_v0_20_0 p0) h0 n0 Z0 ) hZ (hw _ (List.mem_of_getElem? (i := 4) rfl)) (hw _ (List.mem_of_getElem? (i := 3) rfl)) (by decide) (by decide)) (g := (mkF m 47 #[.val (.int p0), .val (.int p1), .val (.int (p0 &&& (63 : Int32))), .val (.int (own_v0_20_0 p0)), .val (.int (0 : Int32))] [(.int (own_v0_20_0 p0))])) rfl (by rw [hml]; rfl) (argsL := [(.int (own_v0_20_0 p0))]) (rest := []) (lenOf own_pd0 rfl) rfl (by show 2 * 0 + _ ≤ _; exact Nat.le_of_eq rfl) (hb hby at_47) (fun _ _ => ⟨rfl, e0, (by decide : 0 + 0 ≤ _), (by decide : 0 + 0 ≤ _)⟩)
        dsimp only [Pt.U, Pt.locs, Pt.cells, Pt.slots] at X13 l13 y13 z13 st13 hQ13
        subst l13 y13 z13
        obtain ⟨rfl, N13q, e13⟩ := hQ13
        have N14 := Fr.app N0 N13q
        have pre15 : ∀ t, Steps p.tables e below (T13.setTop (mkF m 52 #[.val (.int p0), .val (.int p1), .val (.int (p0 &&& (63 : Int32))), .val (.int (own_v0_20_0 p0)), .val (.int (0 : Int32))] [(.int (0 : Int32)), (.int (own_f1 (own_v0_20_0 p0)))])) t → Steps p.tables e below (s₁.setTop (entryFrame m #[(.int p0), (.int p1)] maxLocals)) t := fun t k => pre11 t (by
            refine XS.icmpYes X0.here hx rfl (pc0 := 30) (pc' := 43) rfl (hb hby at_30) rfl (tlt hc12).1 (by decide) (by decide) ?_
            show Steps p.tables e below (s₁.setTop (mkF m 43 #[.val (.int p0), .val (.int p1), .val (.int (p0 &&& (63 : Int32))), .val (.int (own_v0_20_0 p0)), .unset] [])) _
            refine XS.iconst X0.here hx rfl (hb hby at_43) ?_
            show Steps p.tables e below (s₁.setTop (mkF m 44 #[.val (.int p0), .val (.int p1), .val (.int (p0 &&& (63 : Int32))), .val (.int (own_v0_20_0 p0)), .unset] [(.int (0 : Int32))])) _
            refine XS.istore X0.here hx rfl (hb hby at_44) rfl (l' := #[.val (.int p0), .val (.int p1), .val (.int (p0 &&& (63 : Int32))), .val (.int (own_v0_20_0 p0)), .val (.int (0 : Int32))]) rfl ?_
            show Steps p.tables e below (s₁.setTop (mkF m 46 #[.val (.int p0), .val (.int p1), .val (.int (p0 &&& (63 : Int32))), .val (.int (own_v0_20_0 p0)), .val (.int (0 : Int32))] [])) _
            refine XS.iloadN X0.here hx rfl (hb hby at_46) rfl ?_
            show Steps p.tables e below (s₁.setTop (mkF m 47 #[.val (.int p0), .val (.int p1), .val (.int (p0 &&& (63 : Int32))), .val (.int (own_v0_20_0 p0)), .val (.int (0 : Int32))] [(.int (own_v0_20_0 p0))])) _
            refine st13 _ ?_
            show Steps p.tables e below (T13.setTop (mkF m 50 #[.val (.int p0), .val (.int p1), .val (.int (p0 &&& (63 : Int32))), .val (.int (own_v0_20_0 p0)), .val (.int (0 : Int32))] [(.int (own_f1 (own_v0_20_0 p0)))])) _
            refine XS.iload X13.here hx rfl (hb hby at_50) rfl ?_
            show Steps p.tables e below (T13.setTop (mkF m 52 #[.val (.int p0), .val (.int p1), .val (.int (p0 &&& (63 : Int32))), .val (.int (own_v0_20_0 p0)), .val (.int (0 : Int32))] [(.int (0 : Int32)), (.int (own_f1 (own_v0_20_0 p0)))])) _
            exact k)
        by_cases hc16 : (own_f1 (own_v0_20_0 p0)) = (0 : Int32)
        · have pre17 : ∀ t, Steps p.tables e below (T13.setTop (mkF m 60 #[.val (.int p0), .val (.int p1), .val (.int (p0 &&& (63 : Int32))), .val (.int (own_v0_20_0 p0)), .val (.int (0 : Int32))] [(.int (1 : Int32))])) t → Steps p.tables e below (s₁.setTop (entryFrame m #[(.int p0), (.int p1)] maxLocals)) t := fun t k => pre15 t (by
              refine XS.icmpNo X13.here hx rfl (hb hby at_52) rfl (teq hc16).2 ?_
              show Steps p.tables e below (T13.setTop (mkF m 55 #[.val (.int p0), .val (.int p1), .val (.int (p0 &&& (63 : Int32))), .val (.int (own_v0_20_0 p0)), .val (.int (0 : Int32))] [])) _
              refine XS.iconst X13.here hx rfl (hb hby at_55) ?_
              show Steps p.tables e below (T13.setTop (mkF m 56 #[.val (.int p0), .val (.int p1), .val (.int (p0 &&& (63 : Int32))), .val (.int (own_v0_20_0 p0)), .val (.int (0 : Int32))] [(.int (1 : Int32))])) _
              refine XS.goto X13.here hx rfl (pc0 := 56) (pc' := 60) rfl (hb hby at_56) (by decide) (by decide) ?_
              show Steps p.tables e below (T13.setTop (mkF m 60 #[.val (.int p0), .val (.int p1), .val (.int (p0 &&& (63 : Int32))), .val (.int (own_v0_20_0 p0)), .val (.int (0 : Int32))] [(.int (1 : Int32))])) _
              exact k)
          obtain ⟨fs, hr, hrun, hended, hW, hsame⟩ := X13.leave (v := some (.int (1 : Int32))) (fun h => by rw [Bd.returns] at h; cases h)
          refine ⟨_, _, pre17 _ ?_, hrun, hended, _, _, rfl, ?_, ⟨_, rfl⟩, hW, hsame.mono (by decide) (by decide)⟩
          · show Steps p.tables e below (T13.setTop (mkF m 60 #[.val (.int p0), .val (.int p1), .val (.int (p0 &&& (63 : Int32))), .val (.int (own_v0_20_0 p0)), .val (.int (0 : Int32))] [(.int (1 : Int32))])) _
            exact retN X13 hx (t := .boolean) Bd.returns (by simp) (hb hby at_60) hr
          · show own_Q0 Z p0 p1 h0 n0 _ T13.heap _; exact ⟨(by show some (Value.int _) = some (.int (own_f0 p0 p1)); unfold own_f0; rw [if_pos hc2, if_neg hc4, if_pos hc12, if_pos hc16]), N14⟩
        · have pre18 : ∀ t, Steps p.tables e below (T13.setTop (mkF m 60 #[.val (.int p0), .val (.int p1), .val (.int (p0 &&& (63 : Int32))), .val (.int (own_v0_20_0 p0)), .val (.int (0 : Int32))] [(.int (0 : Int32))])) t → Steps p.tables e below (s₁.setTop (entryFrame m #[(.int p0), (.int p1)] maxLocals)) t := fun t k => pre15 t (by
              refine XS.icmpYes X13.here hx rfl (pc0 := 52) (pc' := 59) rfl (hb hby at_52) rfl (feq hc16).2 (by decide) (by decide) ?_
              show Steps p.tables e below (T13.setTop (mkF m 59 #[.val (.int p0), .val (.int p1), .val (.int (p0 &&& (63 : Int32))), .val (.int (own_v0_20_0 p0)), .val (.int (0 : Int32))] [])) _
              refine XS.iconst X13.here hx rfl (hb hby at_59) ?_
              show Steps p.tables e below (T13.setTop (mkF m 60 #[.val (.int p0), .val (.int p1), .val (.int (p0 &&& (63 : Int32))), .val (.int (own_v0_20_0 p0)), .val (.int (0 : Int32))] [(.int (0 : Int32))])) _
              exact k)
          obtain ⟨fs, hr, hrun, hended, hW, hsame⟩ := X13.leave (v := some (.int (0 : Int32))) (fun h => by rw [Bd.returns] at h; cases h)
          refine ⟨_, _, pre18 _ ?_, hrun, hended, _, _, rfl, ?_, ⟨_, rfl⟩, hW, hsame.mono (by decide) (by decide)⟩
          · show Steps p.tables e below (T13.setTop (mkF m 60 #[.val (.int p0), .val (.int p1), .val (.int (p0 &&& (63 : Int32))), .val (.int (own_v0_20_0 p0)), .val (.int (0 : Int32))] [(.int (0 : Int32))])) _
            exact retN X13 hx (t := .boolean) Bd.returns (by simp) (hb hby at_60) hr
          · show own_Q0 Z p0 p1 h0 n0 _ T13.heap _; exact ⟨(by show some (Value.int _) = some (.int (own_f0 p0 p1)); unfold own_f0; rw [if_pos hc2, if_neg hc4, if_pos hc12, if_neg hc16]), N14⟩
      · have pre19 : ∀ t, Steps p.tables e below (s₁.setTop (mkF m 36 #[.val (.int p0), .val (.int p1), .val (.int (p0 &&& (63 : Int32))), .val (.int (own_v0_20_0 p0)), .unset] [(.int (13 : Int32)), (.int (p0 &&& (63 : Int32)))])) t → Steps p.tables e below (s₁.setTop (entryFrame m #[(.int p0), (.int p1)] maxLocals)) t := fun t k => pre11 t (by
            refine XS.icmpNo X0.here hx rfl (hb hby at_30) rfl (flt hc12).1 ?_
            show Steps p.tables e below (s₁.setTop (mkF m 33 #[.val (.int p0), .val (.int p1), .val (.int (p0 &&& (63 : Int32))), .val (.int (own_v0_20_0 p0)), .unset] [])) _
            refine XS.iloadN X0.here hx rfl (hb hby at_33) rfl ?_
            show Steps p.tables e below (s₁.setTop (mkF m 34 #[.val (.int p0), .val (.int p1), .val (.int (p0 &&& (63 : Int32))), .val (.int (own_v0_20_0 p0)), .unset] [(.int (p0 &&& (63 : Int32)))])) _
            refine XS.bipush X0.here hx rfl (hb hby at_34) ?_
            show Steps p.tables e below (s₁.setTop (mkF m 36 #[.val (.int p0), .val (.int p1), .val (.int (p0 &&& (63 : Int32))), .val (.int (own_v0_20_0 p0)), .unset] [(.int (13 : Int32)), (.int (p0 &&& (63 : Int32)))])) _
            exact k)
        by_cases hc20 : (13 : Int32) < (p0 &&& (63 : Int32))
        · obtain ⟨_, _, ⟨T21, L21, k21, n21⟩, -, X21, ⟨Lc21, hQ21, l21, y21, z21⟩, st21⟩ := Jvm.LawKit.callS X0 hx (y := (⟨"com/example/nestor/nestor/Ids", "isSeparator", "(C)Z"⟩ : MethodName)) hown (mvT hZ (hw _ (List.mem_of_getElem? (i := 1) rfl))) (mvT hZ (hw _ (List.mem_of_getElem? (i := 2) rfl))) (mvT hZ (hw _ (List.mem_of_getElem? (i := 3) rfl))) (mvT hZ (hw _ (List.mem_of_getElem? (i := 4) rfl))) (by decide) (backOf (W := 0) (own_rm1 l Z a0 hw [] (own_v0_20_0 p0) h0 n0 Z0 ) hZ (hw _ (List.mem_of_getElem? (i := 4) rfl)) (hw _ (List.mem_of_getElem? (i := 3) rfl)) (by decide) (by decide)) (g := (mkF m 47 #[.val (.int p0), .val (.int p1), .val (.int (p0 &&& (63 : Int32))), .val (.int (own_v0_20_0 p0)), .val (.int (0 : Int32))] [(.int (own_v0_20_0 p0))])) rfl (by rw [hml]; rfl) (argsL := [(.int (own_v0_20_0 p0))]) (rest := []) (lenOf own_pd0 rfl) rfl (by show 2 * 0 + _ ≤ _; exact Nat.le_of_eq rfl) (hb hby at_47) (fun _ _ => ⟨rfl, e0, (by decide : 0 + 0 ≤ _), (by decide : 0 + 0 ≤ _)⟩)
          dsimp only [Pt.U, Pt.locs, Pt.cells, Pt.slots] at X21 l21 y21 z21 st21 hQ21
          subst l21 y21 z21
          obtain ⟨rfl, N21q, e21⟩ := hQ21
          have N22 := Fr.app N0 N21q
          have pre23 : ∀ t, Steps p.tables e below (T21.setTop (mkF m 52 #[.val (.int p0), .val (.int p1), .val (.int (p0 &&& (63 : Int32))), .val (.int (own_v0_20_0 p0)), .val (.int (0 : Int32))] [(.int (0 : Int32)), (.int (own_f1 (own_v0_20_0 p0)))])) t → Steps p.tables e below (s₁.setTop (entryFrame m #[(.int p0), (.int p1)] maxLocals)) t := fun t k => pre19 t (by
              refine XS.icmpYes X0.here hx rfl (pc0 := 36) (pc' := 43) rfl (hb hby at_36) rfl (tlt hc20).2.2.1 (by decide) (by decide) ?_
              show Steps p.tables e below (s₁.setTop (mkF m 43 #[.val (.int p0), .val (.int p1), .val (.int (p0 &&& (63 : Int32))), .val (.int (own_v0_20_0 p0)), .unset] [])) _
              refine XS.iconst X0.here hx rfl (hb hby at_43) ?_
              show Steps p.tables e below (s₁.setTop (mkF m 44 #[.val (.int p0), .val (.int p1), .val (.int (p0 &&& (63 : Int32))), .val (.int (own_v0_20_0 p0)), .unset] [(.int (0 : Int32))])) _
              refine XS.istore X0.here hx rfl (hb hby at_44) rfl (l' := #[.val (.int p0), .val (.int p1), .val (.int (p0 &&& (63 : Int32))), .val (.int (own_v0_20_0 p0)), .val (.int (0 : Int32))]) rfl ?_
              show Steps p.tables e below (s₁.setTop (mkF m 46 #[.val (.int p0), .val (.int p1), .val (.int (p0 &&& (63 : Int32))), .val (.int (own_v0_20_0 p0)), .val (.int (0 : Int32))] [])) _
              refine XS.iloadN X0.here hx rfl (hb hby at_46) rfl ?_
              show Steps p.tables e below (s₁.setTop (mkF m 47 #[.val (.int p0), .val (.int p1), .val (.int (p0 &&& (63 : Int32))), .val (.int (own_v0_20_0 p0)), .val (.int (0 : Int32))] [(.int (own_v0_20_0 p0))])) _
              refine st21 _ ?_
              show Steps p.tables e below (T21.setTop (mkF m 50 #[.val (.int p0), .val (.int p1), .val (.int (p0 &&& (63 : Int32))), .val (.int (own_v0_20_0 p0)), .val (.int (0 : Int32))] [(.int (own_f1 (own_v0_20_0 p0)))])) _
              refine XS.iload X21.here hx rfl (hb hby at_50) rfl ?_
              show Steps p.tables e below (T21.setTop (mkF m 52 #[.val (.int p0), .val (.int p1), .val (.int (p0 &&& (63 : Int32))), .val (.int (own_v0_20_0 p0)), .val (.int (0 : Int32))] [(.int (0 : Int32)), (.int (own_f1 (own_v0_20_0 p0)))])) _
              exact k)
          by_cases hc24 : (own_f1 (own_v0_20_0 p0)) = (0 : Int32)
          · have pre25 : ∀ t, Steps p.tables e below (T21.setTop (mkF m 60 #[.val (.int p0), .val (.int p1), .val (.int (p0 &&& (63 : Int32))), .val (.int (own_v0_20_0 p0)), .val (.int (0 : Int32))] [(.int (1 : Int32))])) t → Steps p.tables e below (s₁.setTop (entryFrame m #[(.int p0), (.int p1)] maxLocals)) t := fun t k => pre23 t (by
                refine XS.icmpNo X21.here hx rfl (hb hby at_52) rfl (teq hc24).2 ?_
                show Steps p.tables e below (T21.setTop (mkF m 55 #[.val (.int p0), .val (.int p1), .val (.int (p0 &&& (63 : Int32))), .val (.int (own_v0_20_0 p0)), .val (.int (0 : Int32))] [])) _
                refine XS.iconst X21.here hx rfl (hb hby at_55) ?_
                show Steps p.tables e below (T21.setTop (mkF m 56 #[.val (.int p0), .val (.int p1), .val (.int (p0 &&& (63 : Int32))), .val (.int (own_v0_20_0 p0)), .val (.int (0 : Int32))] [(.int (1 : Int32))])) _
                refine XS.goto X21.here hx rfl (pc0 := 56) (pc' := 60) rfl (hb hby at_56) (by decide) (by decide) ?_
                show Steps p.tables e below (T21.setTop (mkF m 60 #[.val (.int p0), .val (.int p1), .val (.int (p0 &&& (63 : Int32))), .val (.int (own_v0_20_0 p0)), .val (.int (0 : Int32))] [(.int (1 : Int32))])) _
                exact k)
            obtain ⟨fs, hr, hrun, hended, hW, hsame⟩ := X21.leave (v := some (.int (1 : Int32))) (fun h => by rw [Bd.returns] at h; cases h)
            refine ⟨_, _, pre25 _ ?_, hrun, hended, _, _, rfl, ?_, ⟨_, rfl⟩, hW, hsame.mono (by decide) (by decide)⟩
            · show Steps p.tables e below (T21.setTop (mkF m 60 #[.val (.int p0), .val (.int p1), .val (.int (p0 &&& (63 : Int32))), .val (.int (own_v0_20_0 p0)), .val (.int (0 : Int32))] [(.int (1 : Int32))])) _
              exact retN X21 hx (t := .boolean) Bd.returns (by simp) (hb hby at_60) hr
            · show own_Q0 Z p0 p1 h0 n0 _ T21.heap _; exact ⟨(by show some (Value.int _) = some (.int (own_f0 p0 p1)); unfold own_f0; rw [if_pos hc2, if_neg hc4, if_neg hc12, if_pos hc20, if_pos hc24]), N22⟩
          · have pre26 : ∀ t, Steps p.tables e below (T21.setTop (mkF m 60 #[.val (.int p0), .val (.int p1), .val (.int (p0 &&& (63 : Int32))), .val (.int (own_v0_20_0 p0)), .val (.int (0 : Int32))] [(.int (0 : Int32))])) t → Steps p.tables e below (s₁.setTop (entryFrame m #[(.int p0), (.int p1)] maxLocals)) t := fun t k => pre23 t (by
                refine XS.icmpYes X21.here hx rfl (pc0 := 52) (pc' := 59) rfl (hb hby at_52) rfl (feq hc24).2 (by decide) (by decide) ?_
                show Steps p.tables e below (T21.setTop (mkF m 59 #[.val (.int p0), .val (.int p1), .val (.int (p0 &&& (63 : Int32))), .val (.int (own_v0_20_0 p0)), .val (.int (0 : Int32))] [])) _
                refine XS.iconst X21.here hx rfl (hb hby at_59) ?_
                show Steps p.tables e below (T21.setTop (mkF m 60 #[.val (.int p0), .val (.int p1), .val (.int (p0 &&& (63 : Int32))), .val (.int (own_v0_20_0 p0)), .val (.int (0 : Int32))] [(.int (0 : Int32))])) _
                exact k)
            obtain ⟨fs, hr, hrun, hended, hW, hsame⟩ := X21.leave (v := some (.int (0 : Int32))) (fun h => by rw [Bd.returns] at h; cases h)
            refine ⟨_, _, pre26 _ ?_, hrun, hended, _, _, rfl, ?_, ⟨_, rfl⟩, hW, hsame.mono (by decide) (by decide)⟩
            · show Steps p.tables e below (T21.setTop (mkF m 60 #[.val (.int p0), .val (.int p1), .val (.int (p0 &&& (63 : Int32))), .val (.int (own_v0_20_0 p0)), .val (.int (0 : Int32))] [(.int (0 : Int32))])) _
              exact retN X21 hx (t := .boolean) Bd.returns (by simp) (hb hby at_60) hr
            · show own_Q0 Z p0 p1 h0 n0 _ T21.heap _; exact ⟨(by show some (Value.int _) = some (.int (own_f0 p0 p1)); unfold own_f0; rw [if_pos hc2, if_neg hc4, if_neg hc12, if_pos hc20, if_neg hc24]), N22⟩
        · obtain ⟨_, _, ⟨T27, L27, k27, n27⟩, -, X27, ⟨Lc27, hQ27, l27, y27, z27⟩, st27⟩ := Jvm.LawKit.callS X0 hx (y := (⟨"com/example/nestor/nestor/Ids", "isSeparator", "(C)Z"⟩ : MethodName)) hown (mvT hZ (hw _ (List.mem_of_getElem? (i := 1) rfl))) (mvT hZ (hw _ (List.mem_of_getElem? (i := 2) rfl))) (mvT hZ (hw _ (List.mem_of_getElem? (i := 3) rfl))) (mvT hZ (hw _ (List.mem_of_getElem? (i := 4) rfl))) (by decide) (backOf (W := 0) (own_rm1 l Z a0 hw [] (own_v0_20_0 p0) h0 n0 Z0 ) hZ (hw _ (List.mem_of_getElem? (i := 4) rfl)) (hw _ (List.mem_of_getElem? (i := 3) rfl)) (by decide) (by decide)) (g := (mkF m 47 #[.val (.int p0), .val (.int p1), .val (.int (p0 &&& (63 : Int32))), .val (.int (own_v0_20_0 p0)), .val (.int (1 : Int32))] [(.int (own_v0_20_0 p0))])) rfl (by rw [hml]; rfl) (argsL := [(.int (own_v0_20_0 p0))]) (rest := []) (lenOf own_pd0 rfl) rfl (by show 2 * 0 + _ ≤ _; exact Nat.le_of_eq rfl) (hb hby at_47) (fun _ _ => ⟨rfl, e0, (by decide : 0 + 0 ≤ _), (by decide : 0 + 0 ≤ _)⟩)
          dsimp only [Pt.U, Pt.locs, Pt.cells, Pt.slots] at X27 l27 y27 z27 st27 hQ27
          subst l27 y27 z27
          obtain ⟨rfl, N27q, e27⟩ := hQ27
          have N28 := Fr.app N0 N27q
          have pre29 : ∀ t, Steps p.tables e below (T27.setTop (mkF m 52 #[.val (.int p0), .val (.int p1), .val (.int (p0 &&& (63 : Int32))), .val (.int (own_v0_20_0 p0)), .val (.int (1 : Int32))] [(.int (1 : Int32)), (.int (own_f1 (own_v0_20_0 p0)))])) t → Steps p.tables e below (s₁.setTop (entryFrame m #[(.int p0), (.int p1)] maxLocals)) t := fun t k => pre19 t (by
              refine XS.icmpNo X0.here hx rfl (hb hby at_36) rfl (flt hc20).2.2.1 ?_
              show Steps p.tables e below (s₁.setTop (mkF m 39 #[.val (.int p0), .val (.int p1), .val (.int (p0 &&& (63 : Int32))), .val (.int (own_v0_20_0 p0)), .unset] [])) _
              refine XS.iconst X0.here hx rfl (hb hby at_39) ?_
              show Steps p.tables e below (s₁.setTop (mkF m 40 #[.val (.int p0), .val (.int p1), .val (.int (p0 &&& (63 : Int32))), .val (.int (own_v0_20_0 p0)), .unset] [(.int (1 : Int32))])) _
              refine XS.goto X0.here hx rfl (pc0 := 40) (pc' := 44) rfl (hb hby at_40) (by decide) (by decide) ?_
              show Steps p.tables e below (s₁.setTop (mkF m 44 #[.val (.int p0), .val (.int p1), .val (.int (p0 &&& (63 : Int32))), .val (.int (own_v0_20_0 p0)), .unset] [(.int (1 : Int32))])) _
              refine XS.istore X0.here hx rfl (hb hby at_44) rfl (l' := #[.val (.int p0), .val (.int p1), .val (.int (p0 &&& (63 : Int32))), .val (.int (own_v0_20_0 p0)), .val (.int (1 : Int32))]) rfl ?_
              show Steps p.tables e below (s₁.setTop (mkF m 46 #[.val (.int p0), .val (.int p1), .val (.int (p0 &&& (63 : Int32))), .val (.int (own_v0_20_0 p0)), .val (.int (1 : Int32))] [])) _
              refine XS.iloadN X0.here hx rfl (hb hby at_46) rfl ?_
              show Steps p.tables e below (s₁.setTop (mkF m 47 #[.val (.int p0), .val (.int p1), .val (.int (p0 &&& (63 : Int32))), .val (.int (own_v0_20_0 p0)), .val (.int (1 : Int32))] [(.int (own_v0_20_0 p0))])) _
              refine st27 _ ?_
              show Steps p.tables e below (T27.setTop (mkF m 50 #[.val (.int p0), .val (.int p1), .val (.int (p0 &&& (63 : Int32))), .val (.int (own_v0_20_0 p0)), .val (.int (1 : Int32))] [(.int (own_f1 (own_v0_20_0 p0)))])) _
              refine XS.iload X27.here hx rfl (hb hby at_50) rfl ?_
              show Steps p.tables e below (T27.setTop (mkF m 52 #[.val (.int p0), .val (.int p1), .val (.int (p0 &&& (63 : Int32))), .val (.int (own_v0_20_0 p0)), .val (.int (1 : Int32))] [(.int (1 : Int32)), (.int (own_f1 (own_v0_20_0 p0)))])) _
              exact k)
          by_cases hc30 : (own_f1 (own_v0_20_0 p0)) = (1 : Int32)
          · have pre31 : ∀ t, Steps p.tables e below (T27.setTop (mkF m 60 #[.val (.int p0), .val (.int p1), .val (.int (p0 &&& (63 : Int32))), .val (.int (own_v0_20_0 p0)), .val (.int (1 : Int32))] [(.int (1 : Int32))])) t → Steps p.tables e below (s₁.setTop (entryFrame m #[(.int p0), (.int p1)] maxLocals)) t := fun t k => pre29 t (by
                refine XS.icmpNo X27.here hx rfl (hb hby at_52) rfl (teq hc30).2 ?_
                show Steps p.tables e below (T27.setTop (mkF m 55 #[.val (.int p0), .val (.int p1), .val (.int (p0 &&& (63 : Int32))), .val (.int (own_v0_20_0 p0)), .val (.int (1 : Int32))] [])) _
                refine XS.iconst X27.here hx rfl (hb hby at_55) ?_
                show Steps p.tables e below (T27.setTop (mkF m 56 #[.val (.int p0), .val (.int p1), .val (.int (p0 &&& (63 : Int32))), .val (.int (own_v0_20_0 p0)), .val (.int (1 : Int32))] [(.int (1 : Int32))])) _
                refine XS.goto X27.here hx rfl (pc0 := 56) (pc' := 60) rfl (hb hby at_56) (by decide) (by decide) ?_
                show Steps p.tables e below (T27.setTop (mkF m 60 #[.val (.int p0), .val (.int p1), .val (.int (p0 &&& (63 : Int32))), .val (.int (own_v0_20_0 p0)), .val (.int (1 : Int32))] [(.int (1 : Int32))])) _
                exact k)
            obtain ⟨fs, hr, hrun, hended, hW, hsame⟩ := X27.leave (v := some (.int (1 : Int32))) (fun h => by rw [Bd.returns] at h; cases h)
            refine ⟨_, _, pre31 _ ?_, hrun, hended, _, _, rfl, ?_, ⟨_, rfl⟩, hW, hsame.mono (by decide) (by decide)⟩
            · show Steps p.tables e below (T27.setTop (mkF m 60 #[.val (.int p0), .val (.int p1), .val (.int (p0 &&& (63 : Int32))), .val (.int (own_v0_20_0 p0)), .val (.int (1 : Int32))] [(.int (1 : Int32))])) _
              exact retN X27 hx (t := .boolean) Bd.returns (by simp) (hb hby at_60) hr
            · show own_Q0 Z p0 p1 h0 n0 _ T27.heap _; exact ⟨(by show some (Value.int _) = some (.int (own_f0 p0 p1)); unfold own_f0; rw [if_pos hc2, if_neg hc4, if_neg hc12, if_neg hc20, if_pos hc30]), N28⟩
          · have pre32 : ∀ t, Steps p.tables e below (T27.setTop (mkF m 60 #[.val (.int p0), .val (.int p1), .val (.int (p0 &&& (63 : Int32))), .val (.int (own_v0_20_0 p0)), .val (.int (1 : Int32))] [(.int (0 : Int32))])) t → Steps p.tables e below (s₁.setTop (entryFrame m #[(.int p0), (.int p1)] maxLocals)) t := fun t k => pre29 t (by
                refine XS.icmpYes X27.here hx rfl (pc0 := 52) (pc' := 59) rfl (hb hby at_52) rfl (feq hc30).2 (by decide) (by decide) ?_
                show Steps p.tables e below (T27.setTop (mkF m 59 #[.val (.int p0), .val (.int p1), .val (.int (p0 &&& (63 : Int32))), .val (.int (own_v0_20_0 p0)), .val (.int (1 : Int32))] [])) _
                refine XS.iconst X27.here hx rfl (hb hby at_59) ?_
                show Steps p.tables e below (T27.setTop (mkF m 60 #[.val (.int p0), .val (.int p1), .val (.int (p0 &&& (63 : Int32))), .val (.int (own_v0_20_0 p0)), .val (.int (1 : Int32))] [(.int (0 : Int32))])) _
                exact k)
            obtain ⟨fs, hr, hrun, hended, hW, hsame⟩ := X27.leave (v := some (.int (0 : Int32))) (fun h => by rw [Bd.returns] at h; cases h)
            refine ⟨_, _, pre32 _ ?_, hrun, hended, _, _, rfl, ?_, ⟨_, rfl⟩, hW, hsame.mono (by decide) (by decide)⟩
            · show Steps p.tables e below (T27.setTop (mkF m 60 #[.val (.int p0), .val (.int p1), .val (.int (p0 &&& (63 : Int32))), .val (.int (own_v0_20_0 p0)), .val (.int (1 : Int32))] [(.int (0 : Int32))])) _
              exact retN X27 hx (t := .boolean) Bd.returns (by simp) (hb hby at_60) hr
            · show own_Q0 Z p0 p1 h0 n0 _ T27.heap _; exact ⟨(by show some (Value.int _) = some (.int (own_f0 p0 p1)); unfold own_f0; rw [if_pos hc2, if_neg hc4, if_neg hc12, if_neg hc20, if_neg hc30]), N28⟩
  · have pre33 : ∀ t, Steps p.tables e below (s₁.setTop (mkF m 24 #[.val (.int p0), .val (.int p1), .val (.int (p0 &&& (65535 : Int32))), .val (.int (own_v0_20_1 p0)), .unset] [(.int (32 : Int32)), (.int (p0 &&& (65535 : Int32)))])) t → Steps p.tables e below (s₁.setTop (entryFrame m #[(.int p0), (.int p1)] maxLocals)) t := fun t k => pre1 t (by
        refine XS.ifNo X0.here hx rfl (hb hby at_3) rfl ((if0 _ _).trans (feq hc2).1) ?_
        show Steps p.tables e below (s₁.setTop (mkF m 6 #[.val (.int p0), .val (.int p1), .unset, .unset, .unset] [])) _
        refine XS.iloadN X0.here hx rfl (hb hby at_6) rfl ?_
        show Steps p.tables e below (s₁.setTop (mkF m 7 #[.val (.int p0), .val (.int p1), .unset, .unset, .unset] [(.int p0)])) _
        refine X0.ldcInt hx hown (mvT hZ (hw _ (List.mem_of_getElem? (i := 0) rfl))) (g := (mkF m 7 #[.val (.int p0), .val (.int p1), .unset, .unset, .unset] [(.int p0)])) rfl (hb hby at_7) _ ?_
        show Steps p.tables e below (s₁.setTop (mkF m 9 #[.val (.int p0), .val (.int p1), .unset, .unset, .unset] [(.int (65535 : Int32)), (.int p0)])) _
        refine XS.iand X0.here hx rfl (hb hby at_9) rfl ?_
        show Steps p.tables e below (s₁.setTop (mkF m 10 #[.val (.int p0), .val (.int p1), .unset, .unset, .unset] [(.int (p0 &&& (65535 : Int32)))])) _
        refine XS.goto X0.here hx rfl (pc0 := 10) (pc' := 17) rfl (hb hby at_10) (by decide) (by decide) ?_
        show Steps p.tables e below (s₁.setTop (mkF m 17 #[.val (.int p0), .val (.int p1), .unset, .unset, .unset] [(.int (p0 &&& (65535 : Int32)))])) _
        refine XS.istoreN X0.here hx rfl (hb hby at_17) rfl (l' := #[.val (.int p0), .val (.int p1), .val (.int (p0 &&& (65535 : Int32))), .unset, .unset]) rfl ?_
        show Steps p.tables e below (s₁.setTop (mkF m 18 #[.val (.int p0), .val (.int p1), .val (.int (p0 &&& (65535 : Int32))), .unset, .unset] [])) _
        refine XS.iloadN X0.here hx rfl (hb hby at_18) rfl ?_
        show Steps p.tables e below (s₁.setTop (mkF m 19 #[.val (.int p0), .val (.int p1), .val (.int (p0 &&& (65535 : Int32))), .unset, .unset] [(.int (p0 &&& (65535 : Int32)))])) _
        refine XS.i2c X0.here hx rfl (hb hby at_19) rfl ?_
        show Steps p.tables e below (s₁.setTop (mkF m 20 #[.val (.int p0), .val (.int p1), .val (.int (p0 &&& (65535 : Int32))), .unset, .unset] [(.int ((p0 &&& (65535 : Int32)).toUInt32.toUInt16.toUInt32.toInt32))])) _
        refine XS.istoreN X0.here hx rfl (hb hby at_20) rfl (l' := #[.val (.int p0), .val (.int p1), .val (.int (p0 &&& (65535 : Int32))), .val (.int (own_v0_20_1 p0)), .unset]) rfl ?_
        show Steps p.tables e below (s₁.setTop (mkF m 21 #[.val (.int p0), .val (.int p1), .val (.int (p0 &&& (65535 : Int32))), .val (.int (own_v0_20_1 p0)), .unset] [])) _
        refine XS.iloadN X0.here hx rfl (hb hby at_21) rfl ?_
        show Steps p.tables e below (s₁.setTop (mkF m 22 #[.val (.int p0), .val (.int p1), .val (.int (p0 &&& (65535 : Int32))), .val (.int (own_v0_20_1 p0)), .unset] [(.int (p0 &&& (65535 : Int32)))])) _
        refine XS.bipush X0.here hx rfl (hb hby at_22) ?_
        show Steps p.tables e below (s₁.setTop (mkF m 24 #[.val (.int p0), .val (.int p1), .val (.int (p0 &&& (65535 : Int32))), .val (.int (own_v0_20_1 p0)), .unset] [(.int (32 : Int32)), (.int (p0 &&& (65535 : Int32)))])) _
        exact k)
    by_cases hc34 : (p0 &&& (65535 : Int32)) = (32 : Int32)
    · obtain ⟨_, _, ⟨T35, L35, k35, n35⟩, -, X35, ⟨Lc35, hQ35, l35, y35, z35⟩, st35⟩ := Jvm.LawKit.callS X0 hx (y := (⟨"com/example/nestor/nestor/Ids", "isSeparator", "(C)Z"⟩ : MethodName)) hown (mvT hZ (hw _ (List.mem_of_getElem? (i := 1) rfl))) (mvT hZ (hw _ (List.mem_of_getElem? (i := 2) rfl))) (mvT hZ (hw _ (List.mem_of_getElem? (i := 3) rfl))) (mvT hZ (hw _ (List.mem_of_getElem? (i := 4) rfl))) (by decide) (backOf (W := 0) (own_rm1 l Z a0 hw [] (own_v0_20_1 p0) h0 n0 Z0 ) hZ (hw _ (List.mem_of_getElem? (i := 4) rfl)) (hw _ (List.mem_of_getElem? (i := 3) rfl)) (by decide) (by decide)) (g := (mkF m 47 #[.val (.int p0), .val (.int p1), .val (.int (p0 &&& (65535 : Int32))), .val (.int (own_v0_20_1 p0)), .val (.int (1 : Int32))] [(.int (own_v0_20_1 p0))])) rfl (by rw [hml]; rfl) (argsL := [(.int (own_v0_20_1 p0))]) (rest := []) (lenOf own_pd0 rfl) rfl (by show 2 * 0 + _ ≤ _; exact Nat.le_of_eq rfl) (hb hby at_47) (fun _ _ => ⟨rfl, e0, (by decide : 0 + 0 ≤ _), (by decide : 0 + 0 ≤ _)⟩)
      dsimp only [Pt.U, Pt.locs, Pt.cells, Pt.slots] at X35 l35 y35 z35 st35 hQ35
      subst l35 y35 z35
      obtain ⟨rfl, N35q, e35⟩ := hQ35
      have N36 := Fr.app N0 N35q
      have pre37 : ∀ t, Steps p.tables e below (T35.setTop (mkF m 52 #[.val (.int p0), .val (.int p1), .val (.int (p0 &&& (65535 : Int32))), .val (.int (own_v0_20_1 p0)), .val (.int (1 : Int32))] [(.int (1 : Int32)), (.int (own_f1 (own_v0_20_1 p0)))])) t → Steps p.tables e below (s₁.setTop (entryFrame m #[(.int p0), (.int p1)] maxLocals)) t := fun t k => pre33 t (by
          refine XS.icmpYes X0.here hx rfl (pc0 := 24) (pc' := 39) rfl (hb hby at_24) rfl (teq hc34).1 (by decide) (by decide) ?_
          show Steps p.tables e below (s₁.setTop (mkF m 39 #[.val (.int p0), .val (.int p1), .val (.int (p0 &&& (65535 : Int32))), .val (.int (own_v0_20_1 p0)), .unset] [])) _
          refine XS.iconst X0.here hx rfl (hb hby at_39) ?_
          show Steps p.tables e below (s₁.setTop (mkF m 40 #[.val (.int p0), .val (.int p1), .val (.int (p0 &&& (65535 : Int32))), .val (.int (own_v0_20_1 p0)), .unset] [(.int (1 : Int32))])) _
          refine XS.goto X0.here hx rfl (pc0 := 40) (pc' := 44) rfl (hb hby at_40) (by decide) (by decide) ?_
          show Steps p.tables e below (s₁.setTop (mkF m 44 #[.val (.int p0), .val (.int p1), .val (.int (p0 &&& (65535 : Int32))), .val (.int (own_v0_20_1 p0)), .unset] [(.int (1 : Int32))])) _
          refine XS.istore X0.here hx rfl (hb hby at_44) rfl (l' := #[.val (.int p0), .val (.int p1), .val (.int (p0 &&& (65535 : Int32))), .val (.int (own_v0_20_1 p0)), .val (.int (1 : Int32))]) rfl ?_
          show Steps p.tables e below (s₁.setTop (mkF m 46 #[.val (.int p0), .val (.int p1), .val (.int (p0 &&& (65535 : Int32))), .val (.int (own_v0_20_1 p0)), .val (.int (1 : Int32))] [])) _
          refine XS.iloadN X0.here hx rfl (hb hby at_46) rfl ?_
          show Steps p.tables e below (s₁.setTop (mkF m 47 #[.val (.int p0), .val (.int p1), .val (.int (p0 &&& (65535 : Int32))), .val (.int (own_v0_20_1 p0)), .val (.int (1 : Int32))] [(.int (own_v0_20_1 p0))])) _
          refine st35 _ ?_
          show Steps p.tables e below (T35.setTop (mkF m 50 #[.val (.int p0), .val (.int p1), .val (.int (p0 &&& (65535 : Int32))), .val (.int (own_v0_20_1 p0)), .val (.int (1 : Int32))] [(.int (own_f1 (own_v0_20_1 p0)))])) _
          refine XS.iload X35.here hx rfl (hb hby at_50) rfl ?_
          show Steps p.tables e below (T35.setTop (mkF m 52 #[.val (.int p0), .val (.int p1), .val (.int (p0 &&& (65535 : Int32))), .val (.int (own_v0_20_1 p0)), .val (.int (1 : Int32))] [(.int (1 : Int32)), (.int (own_f1 (own_v0_20_1 p0)))])) _
          exact k)
      by_cases hc38 : (own_f1 (own_v0_20_1 p0)) = (1 : Int32)
      · have pre39 : ∀ t, Steps p.tables e below (T35.setTop (mkF m 60 #[.val (.int p0), .val (.int p1), .val (.int (p0 &&& (65535 : Int32))), .val (.int (own_v0_20_1 p0)), .val (.int (1 : Int32))] [(.int (1 : Int32))])) t → Steps p.tables e below (s₁.setTop (entryFrame m #[(.int p0), (.int p1)] maxLocals)) t := fun t k => pre37 t (by
            refine XS.icmpNo X35.here hx rfl (hb hby at_52) rfl (teq hc38).2 ?_
            show Steps p.tables e below (T35.setTop (mkF m 55 #[.val (.int p0), .val (.int p1), .val (.int (p0 &&& (65535 : Int32))), .val (.int (own_v0_20_1 p0)), .val (.int (1 : Int32))] [])) _
            refine XS.iconst X35.here hx rfl (hb hby at_55) ?_
            show Steps p.tables e below (T35.setTop (mkF m 56 #[.val (.int p0), .val (.int p1), .val (.int (p0 &&& (65535 : Int32))), .val (.int (own_v0_20_1 p0)), .val (.int (1 : Int32))] [(.int (1 : Int32))])) _
            refine XS.goto X35.here hx rfl (pc0 := 56) (pc' := 60) rfl (hb hby at_56) (by decide) (by decide) ?_
            show Steps p.tables e below (T35.setTop (mkF m 60 #[.val (.int p0), .val (.int p1), .val (.int (p0 &&& (65535 : Int32))), .val (.int (own_v0_20_1 p0)), .val (.int (1 : Int32))] [(.int (1 : Int32))])) _
            exact k)
        obtain ⟨fs, hr, hrun, hended, hW, hsame⟩ := X35.leave (v := some (.int (1 : Int32))) (fun h => by rw [Bd.returns] at h; cases h)
        refine ⟨_, _, pre39 _ ?_, hrun, hended, _, _, rfl, ?_, ⟨_, rfl⟩, hW, hsame.mono (by decide) (by decide)⟩
        · show Steps p.tables e below (T35.setTop (mkF m 60 #[.val (.int p0), .val (.int p1), .val (.int (p0 &&& (65535 : Int32))), .val (.int (own_v0_20_1 p0)), .val (.int (1 : Int32))] [(.int (1 : Int32))])) _
          exact retN X35 hx (t := .boolean) Bd.returns (by simp) (hb hby at_60) hr
        · show own_Q0 Z p0 p1 h0 n0 _ T35.heap _; exact ⟨(by show some (Value.int _) = some (.int (own_f0 p0 p1)); unfold own_f0; rw [if_neg hc2, if_pos hc34, if_pos hc38]), N36⟩
      · have pre40 : ∀ t, Steps p.tables e below (T35.setTop (mkF m 60 #[.val (.int p0), .val (.int p1), .val (.int (p0 &&& (65535 : Int32))), .val (.int (own_v0_20_1 p0)), .val (.int (1 : Int32))] [(.int (0 : Int32))])) t → Steps p.tables e below (s₁.setTop (entryFrame m #[(.int p0), (.int p1)] maxLocals)) t := fun t k => pre37 t (by
            refine XS.icmpYes X35.here hx rfl (pc0 := 52) (pc' := 59) rfl (hb hby at_52) rfl (feq hc38).2 (by decide) (by decide) ?_
            show Steps p.tables e below (T35.setTop (mkF m 59 #[.val (.int p0), .val (.int p1), .val (.int (p0 &&& (65535 : Int32))), .val (.int (own_v0_20_1 p0)), .val (.int (1 : Int32))] [])) _
            refine XS.iconst X35.here hx rfl (hb hby at_59) ?_
            show Steps p.tables e below (T35.setTop (mkF m 60 #[.val (.int p0), .val (.int p1), .val (.int (p0 &&& (65535 : Int32))), .val (.int (own_v0_20_1 p0)), .val (.int (1 : Int32))] [(.int (0 : Int32))])) _
            exact k)
        obtain ⟨fs, hr, hrun, hended, hW, hsame⟩ := X35.leave (v := some (.int (0 : Int32))) (fun h => by rw [Bd.returns] at h; cases h)
        refine ⟨_, _, pre40 _ ?_, hrun, hended, _, _, rfl, ?_, ⟨_, rfl⟩, hW, hsame.mono (by decide) (by decide)⟩
        · show Steps p.tables e below (T35.setTop (mkF m 60 #[.val (.int p0), .val (.int p1), .val (.int (p0 &&& (65535 : Int32))), .val (.int (own_v0_20_1 p0)), .val (.int (1 : Int32))] [(.int (0 : Int32))])) _
          exact retN X35 hx (t := .boolean) Bd.returns (by simp) (hb hby at_60) hr
        · show own_Q0 Z p0 p1 h0 n0 _ T35.heap _; exact ⟨(by show some (Value.int _) = some (.int (own_f0 p0 p1)); unfold own_f0; rw [if_neg hc2, if_pos hc34, if_neg hc38]), N36⟩
    · have pre41 : ∀ t, Steps p.tables e below (s₁.setTop (mkF m 30 #[.val (.int p0), .val (.int p1), .val (.int (p0 &&& (65535 : Int32))), .val (.int (own_v0_20_1 p0)), .unset] [(.int (9 : Int32)), (.int (p0 &&& (65535 : Int32)))])) t → Steps p.tables e below (s₁.setTop (entryFrame m #[(.int p0), (.int p1)] maxLocals)) t := fun t k => pre33 t (by
          refine XS.icmpNo X0.here hx rfl (hb hby at_24) rfl (feq hc34).1 ?_
          show Steps p.tables e below (s₁.setTop (mkF m 27 #[.val (.int p0), .val (.int p1), .val (.int (p0 &&& (65535 : Int32))), .val (.int (own_v0_20_1 p0)), .unset] [])) _
          refine XS.iloadN X0.here hx rfl (hb hby at_27) rfl ?_
          show Steps p.tables e below (s₁.setTop (mkF m 28 #[.val (.int p0), .val (.int p1), .val (.int (p0 &&& (65535 : Int32))), .val (.int (own_v0_20_1 p0)), .unset] [(.int (p0 &&& (65535 : Int32)))])) _
          refine XS.bipush X0.here hx rfl (hb hby at_28) ?_
          show Steps p.tables e below (s₁.setTop (mkF m 30 #[.val (.int p0), .val (.int p1), .val (.int (p0 &&& (65535 : Int32))), .val (.int (own_v0_20_1 p0)), .unset] [(.int (9 : Int32)), (.int (p0 &&& (65535 : Int32)))])) _
          exact k)
      by_cases hc42 : (p0 &&& (65535 : Int32)) < (9 : Int32)
      · obtain ⟨_, _, ⟨T43, L43, k43, n43⟩, -, X43, ⟨Lc43, hQ43, l43, y43, z43⟩, st43⟩ := Jvm.LawKit.callS X0 hx (y := (⟨"com/example/nestor/nestor/Ids", "isSeparator", "(C)Z"⟩ : MethodName)) hown (mvT hZ (hw _ (List.mem_of_getElem? (i := 1) rfl))) (mvT hZ (hw _ (List.mem_of_getElem? (i := 2) rfl))) (mvT hZ (hw _ (List.mem_of_getElem? (i := 3) rfl))) (mvT hZ (hw _ (List.mem_of_getElem? (i := 4) rfl))) (by decide) (backOf (W := 0) (own_rm1 l Z a0 hw [] (own_v0_20_1 p0) h0 n0 Z0 ) hZ (hw _ (List.mem_of_getElem? (i := 4) rfl)) (hw _ (List.mem_of_getElem? (i := 3) rfl)) (by decide) (by decide)) (g := (mkF m 47 #[.val (.int p0), .val (.int p1), .val (.int (p0 &&& (65535 : Int32))), .val (.int (own_v0_20_1 p0)), .val (.int (0 : Int32))] [(.int (own_v0_20_1 p0))])) rfl (by rw [hml]; rfl) (argsL := [(.int (own_v0_20_1 p0))]) (rest := []) (lenOf own_pd0 rfl) rfl (by show 2 * 0 + _ ≤ _; exact Nat.le_of_eq rfl) (hb hby at_47) (fun _ _ => ⟨rfl, e0, (by decide : 0 + 0 ≤ _), (by decide : 0 + 0 ≤ _)⟩)
        dsimp only [Pt.U, Pt.locs, Pt.cells, Pt.slots] at X43 l43 y43 z43 st43 hQ43
        subst l43 y43 z43
        obtain ⟨rfl, N43q, e43⟩ := hQ43
        have N44 := Fr.app N0 N43q
        have pre45 : ∀ t, Steps p.tables e below (T43.setTop (mkF m 52 #[.val (.int p0), .val (.int p1), .val (.int (p0 &&& (65535 : Int32))), .val (.int (own_v0_20_1 p0)), .val (.int (0 : Int32))] [(.int (0 : Int32)), (.int (own_f1 (own_v0_20_1 p0)))])) t → Steps p.tables e below (s₁.setTop (entryFrame m #[(.int p0), (.int p1)] maxLocals)) t := fun t k => pre41 t (by
            refine XS.icmpYes X0.here hx rfl (pc0 := 30) (pc' := 43) rfl (hb hby at_30) rfl (tlt hc42).1 (by decide) (by decide) ?_
            show Steps p.tables e below (s₁.setTop (mkF m 43 #[.val (.int p0), .val (.int p1), .val (.int (p0 &&& (65535 : Int32))), .val (.int (own_v0_20_1 p0)), .unset] [])) _
            refine XS.iconst X0.here hx rfl (hb hby at_43) ?_
            show Steps p.tables e below (s₁.setTop (mkF m 44 #[.val (.int p0), .val (.int p1), .val (.int (p0 &&& (65535 : Int32))), .val (.int (own_v0_20_1 p0)), .unset] [(.int (0 : Int32))])) _
            refine XS.istore X0.here hx rfl (hb hby at_44) rfl (l' := #[.val (.int p0), .val (.int p1), .val (.int (p0 &&& (65535 : Int32))), .val (.int (own_v0_20_1 p0)), .val (.int (0 : Int32))]) rfl ?_
            show Steps p.tables e below (s₁.setTop (mkF m 46 #[.val (.int p0), .val (.int p1), .val (.int (p0 &&& (65535 : Int32))), .val (.int (own_v0_20_1 p0)), .val (.int (0 : Int32))] [])) _
            refine XS.iloadN X0.here hx rfl (hb hby at_46) rfl ?_
            show Steps p.tables e below (s₁.setTop (mkF m 47 #[.val (.int p0), .val (.int p1), .val (.int (p0 &&& (65535 : Int32))), .val (.int (own_v0_20_1 p0)), .val (.int (0 : Int32))] [(.int (own_v0_20_1 p0))])) _
            refine st43 _ ?_
            show Steps p.tables e below (T43.setTop (mkF m 50 #[.val (.int p0), .val (.int p1), .val (.int (p0 &&& (65535 : Int32))), .val (.int (own_v0_20_1 p0)), .val (.int (0 : Int32))] [(.int (own_f1 (own_v0_20_1 p0)))])) _
            refine XS.iload X43.here hx rfl (hb hby at_50) rfl ?_
            show Steps p.tables e below (T43.setTop (mkF m 52 #[.val (.int p0), .val (.int p1), .val (.int (p0 &&& (65535 : Int32))), .val (.int (own_v0_20_1 p0)), .val (.int (0 : Int32))] [(.int (0 : Int32)), (.int (own_f1 (own_v0_20_1 p0)))])) _
            exact k)
        by_cases hc46 : (own_f1 (own_v0_20_1 p0)) = (0 : Int32)
        · have pre47 : ∀ t, Steps p.tables e below (T43.setTop (mkF m 60 #[.val (.int p0), .val (.int p1), .val (.int (p0 &&& (65535 : Int32))), .val (.int (own_v0_20_1 p0)), .val (.int (0 : Int32))] [(.int (1 : Int32))])) t → Steps p.tables e below (s₁.setTop (entryFrame m #[(.int p0), (.int p1)] maxLocals)) t := fun t k => pre45 t (by
              refine XS.icmpNo X43.here hx rfl (hb hby at_52) rfl (teq hc46).2 ?_
              show Steps p.tables e below (T43.setTop (mkF m 55 #[.val (.int p0), .val (.int p1), .val (.int (p0 &&& (65535 : Int32))), .val (.int (own_v0_20_1 p0)), .val (.int (0 : Int32))] [])) _
              refine XS.iconst X43.here hx rfl (hb hby at_55) ?_
              show Steps p.tables e below (T43.setTop (mkF m 56 #[.val (.int p0), .val (.int p1), .val (.int (p0 &&& (65535 : Int32))), .val (.int (own_v0_20_1 p0)), .val (.int (0 : Int32))] [(.int (1 : Int32))])) _
              refine XS.goto X43.here hx rfl (pc0 := 56) (pc' := 60) rfl (hb hby at_56) (by decide) (by decide) ?_
              show Steps p.tables e below (T43.setTop (mkF m 60 #[.val (.int p0), .val (.int p1), .val (.int (p0 &&& (65535 : Int32))), .val (.int (own_v0_20_1 p0)), .val (.int (0 : Int32))] [(.int (1 : Int32))])) _
              exact k)
          obtain ⟨fs, hr, hrun, hended, hW, hsame⟩ := X43.leave (v := some (.int (1 : Int32))) (fun h => by rw [Bd.returns] at h; cases h)
          refine ⟨_, _, pre47 _ ?_, hrun, hended, _, _, rfl, ?_, ⟨_, rfl⟩, hW, hsame.mono (by decide) (by decide)⟩
          · show Steps p.tables e below (T43.setTop (mkF m 60 #[.val (.int p0), .val (.int p1), .val (.int (p0 &&& (65535 : Int32))), .val (.int (own_v0_20_1 p0)), .val (.int (0 : Int32))] [(.int (1 : Int32))])) _
            exact retN X43 hx (t := .boolean) Bd.returns (by simp) (hb hby at_60) hr
          · show own_Q0 Z p0 p1 h0 n0 _ T43.heap _; exact ⟨(by show some (Value.int _) = some (.int (own_f0 p0 p1)); unfold own_f0; rw [if_neg hc2, if_neg hc34, if_pos hc42, if_pos hc46]), N44⟩
        · have pre48 : ∀ t, Steps p.tables e below (T43.setTop (mkF m 60 #[.val (.int p0), .val (.int p1), .val (.int (p0 &&& (65535 : Int32))), .val (.int (own_v0_20_1 p0)), .val (.int (0 : Int32))] [(.int (0 : Int32))])) t → Steps p.tables e below (s₁.setTop (entryFrame m #[(.int p0), (.int p1)] maxLocals)) t := fun t k => pre45 t (by
              refine XS.icmpYes X43.here hx rfl (pc0 := 52) (pc' := 59) rfl (hb hby at_52) rfl (feq hc46).2 (by decide) (by decide) ?_
              show Steps p.tables e below (T43.setTop (mkF m 59 #[.val (.int p0), .val (.int p1), .val (.int (p0 &&& (65535 : Int32))), .val (.int (own_v0_20_1 p0)), .val (.int (0 : Int32))] [])) _
              refine XS.iconst X43.here hx rfl (hb hby at_59) ?_
              show Steps p.tables e below (T43.setTop (mkF m 60 #[.val (.int p0), .val (.int p1), .val (.int (p0 &&& (65535 : Int32))), .val (.int (own_v0_20_1 p0)), .val (.int (0 : Int32))] [(.int (0 : Int32))])) _
              exact k)
          obtain ⟨fs, hr, hrun, hended, hW, hsame⟩ := X43.leave (v := some (.int (0 : Int32))) (fun h => by rw [Bd.returns] at h; cases h)
          refine ⟨_, _, pre48 _ ?_, hrun, hended, _, _, rfl, ?_, ⟨_, rfl⟩, hW, hsame.mono (by decide) (by decide)⟩
          · show Steps p.tables e below (T43.setTop (mkF m 60 #[.val (.int p0), .val (.int p1), .val (.int (p0 &&& (65535 : Int32))), .val (.int (own_v0_20_1 p0)), .val (.int (0 : Int32))] [(.int (0 : Int32))])) _
            exact retN X43 hx (t := .boolean) Bd.returns (by simp) (hb hby at_60) hr
          · show own_Q0 Z p0 p1 h0 n0 _ T43.heap _; exact ⟨(by show some (Value.int _) = some (.int (own_f0 p0 p1)); unfold own_f0; rw [if_neg hc2, if_neg hc34, if_pos hc42, if_neg hc46]), N44⟩
      · have pre49 : ∀ t, Steps p.tables e below (s₁.setTop (mkF m 36 #[.val (.int p0), .val (.int p1), .val (.int (p0 &&& (65535 : Int32))), .val (.int (own_v0_20_1 p0)), .unset] [(.int (13 : Int32)), (.int (p0 &&& (65535 : Int32)))])) t → Steps p.tables e below (s₁.setTop (entryFrame m #[(.int p0), (.int p1)] maxLocals)) t := fun t k => pre41 t (by
            refine XS.icmpNo X0.here hx rfl (hb hby at_30) rfl (flt hc42).1 ?_
            show Steps p.tables e below (s₁.setTop (mkF m 33 #[.val (.int p0), .val (.int p1), .val (.int (p0 &&& (65535 : Int32))), .val (.int (own_v0_20_1 p0)), .unset] [])) _
            refine XS.iloadN X0.here hx rfl (hb hby at_33) rfl ?_
            show Steps p.tables e below (s₁.setTop (mkF m 34 #[.val (.int p0), .val (.int p1), .val (.int (p0 &&& (65535 : Int32))), .val (.int (own_v0_20_1 p0)), .unset] [(.int (p0 &&& (65535 : Int32)))])) _
            refine XS.bipush X0.here hx rfl (hb hby at_34) ?_
            show Steps p.tables e below (s₁.setTop (mkF m 36 #[.val (.int p0), .val (.int p1), .val (.int (p0 &&& (65535 : Int32))), .val (.int (own_v0_20_1 p0)), .unset] [(.int (13 : Int32)), (.int (p0 &&& (65535 : Int32)))])) _
            exact k)
        by_cases hc50 : (13 : Int32) < (p0 &&& (65535 : Int32))
        · obtain ⟨_, _, ⟨T51, L51, k51, n51⟩, -, X51, ⟨Lc51, hQ51, l51, y51, z51⟩, st51⟩ := Jvm.LawKit.callS X0 hx (y := (⟨"com/example/nestor/nestor/Ids", "isSeparator", "(C)Z"⟩ : MethodName)) hown (mvT hZ (hw _ (List.mem_of_getElem? (i := 1) rfl))) (mvT hZ (hw _ (List.mem_of_getElem? (i := 2) rfl))) (mvT hZ (hw _ (List.mem_of_getElem? (i := 3) rfl))) (mvT hZ (hw _ (List.mem_of_getElem? (i := 4) rfl))) (by decide) (backOf (W := 0) (own_rm1 l Z a0 hw [] (own_v0_20_1 p0) h0 n0 Z0 ) hZ (hw _ (List.mem_of_getElem? (i := 4) rfl)) (hw _ (List.mem_of_getElem? (i := 3) rfl)) (by decide) (by decide)) (g := (mkF m 47 #[.val (.int p0), .val (.int p1), .val (.int (p0 &&& (65535 : Int32))), .val (.int (own_v0_20_1 p0)), .val (.int (0 : Int32))] [(.int (own_v0_20_1 p0))])) rfl (by rw [hml]; rfl) (argsL := [(.int (own_v0_20_1 p0))]) (rest := []) (lenOf own_pd0 rfl) rfl (by show 2 * 0 + _ ≤ _; exact Nat.le_of_eq rfl) (hb hby at_47) (fun _ _ => ⟨rfl, e0, (by decide : 0 + 0 ≤ _), (by decide : 0 + 0 ≤ _)⟩)
          dsimp only [Pt.U, Pt.locs, Pt.cells, Pt.slots] at X51 l51 y51 z51 st51 hQ51
          subst l51 y51 z51
          obtain ⟨rfl, N51q, e51⟩ := hQ51
          have N52 := Fr.app N0 N51q
          have pre53 : ∀ t, Steps p.tables e below (T51.setTop (mkF m 52 #[.val (.int p0), .val (.int p1), .val (.int (p0 &&& (65535 : Int32))), .val (.int (own_v0_20_1 p0)), .val (.int (0 : Int32))] [(.int (0 : Int32)), (.int (own_f1 (own_v0_20_1 p0)))])) t → Steps p.tables e below (s₁.setTop (entryFrame m #[(.int p0), (.int p1)] maxLocals)) t := fun t k => pre49 t (by
              refine XS.icmpYes X0.here hx rfl (pc0 := 36) (pc' := 43) rfl (hb hby at_36) rfl (tlt hc50).2.2.1 (by decide) (by decide) ?_
              show Steps p.tables e below (s₁.setTop (mkF m 43 #[.val (.int p0), .val (.int p1), .val (.int (p0 &&& (65535 : Int32))), .val (.int (own_v0_20_1 p0)), .unset] [])) _
              refine XS.iconst X0.here hx rfl (hb hby at_43) ?_
              show Steps p.tables e below (s₁.setTop (mkF m 44 #[.val (.int p0), .val (.int p1), .val (.int (p0 &&& (65535 : Int32))), .val (.int (own_v0_20_1 p0)), .unset] [(.int (0 : Int32))])) _
              refine XS.istore X0.here hx rfl (hb hby at_44) rfl (l' := #[.val (.int p0), .val (.int p1), .val (.int (p0 &&& (65535 : Int32))), .val (.int (own_v0_20_1 p0)), .val (.int (0 : Int32))]) rfl ?_
              show Steps p.tables e below (s₁.setTop (mkF m 46 #[.val (.int p0), .val (.int p1), .val (.int (p0 &&& (65535 : Int32))), .val (.int (own_v0_20_1 p0)), .val (.int (0 : Int32))] [])) _
              refine XS.iloadN X0.here hx rfl (hb hby at_46) rfl ?_
              show Steps p.tables e below (s₁.setTop (mkF m 47 #[.val (.int p0), .val (.int p1), .val (.int (p0 &&& (65535 : Int32))), .val (.int (own_v0_20_1 p0)), .val (.int (0 : Int32))] [(.int (own_v0_20_1 p0))])) _
              refine st51 _ ?_
              show Steps p.tables e below (T51.setTop (mkF m 50 #[.val (.int p0), .val (.int p1), .val (.int (p0 &&& (65535 : Int32))), .val (.int (own_v0_20_1 p0)), .val (.int (0 : Int32))] [(.int (own_f1 (own_v0_20_1 p0)))])) _
              refine XS.iload X51.here hx rfl (hb hby at_50) rfl ?_
              show Steps p.tables e below (T51.setTop (mkF m 52 #[.val (.int p0), .val (.int p1), .val (.int (p0 &&& (65535 : Int32))), .val (.int (own_v0_20_1 p0)), .val (.int (0 : Int32))] [(.int (0 : Int32)), (.int (own_f1 (own_v0_20_1 p0)))])) _
              exact k)
          by_cases hc54 : (own_f1 (own_v0_20_1 p0)) = (0 : Int32)
          · have pre55 : ∀ t, Steps p.tables e below (T51.setTop (mkF m 60 #[.val (.int p0), .val (.int p1), .val (.int (p0 &&& (65535 : Int32))), .val (.int (own_v0_20_1 p0)), .val (.int (0 : Int32))] [(.int (1 : Int32))])) t → Steps p.tables e below (s₁.setTop (entryFrame m #[(.int p0), (.int p1)] maxLocals)) t := fun t k => pre53 t (by
                refine XS.icmpNo X51.here hx rfl (hb hby at_52) rfl (teq hc54).2 ?_
                show Steps p.tables e below (T51.setTop (mkF m 55 #[.val (.int p0), .val (.int p1), .val (.int (p0 &&& (65535 : Int32))), .val (.int (own_v0_20_1 p0)), .val (.int (0 : Int32))] [])) _
                refine XS.iconst X51.here hx rfl (hb hby at_55) ?_
                show Steps p.tables e below (T51.setTop (mkF m 56 #[.val (.int p0), .val (.int p1), .val (.int (p0 &&& (65535 : Int32))), .val (.int (own_v0_20_1 p0)), .val (.int (0 : Int32))] [(.int (1 : Int32))])) _
                refine XS.goto X51.here hx rfl (pc0 := 56) (pc' := 60) rfl (hb hby at_56) (by decide) (by decide) ?_
                show Steps p.tables e below (T51.setTop (mkF m 60 #[.val (.int p0), .val (.int p1), .val (.int (p0 &&& (65535 : Int32))), .val (.int (own_v0_20_1 p0)), .val (.int (0 : Int32))] [(.int (1 : Int32))])) _
                exact k)
            obtain ⟨fs, hr, hrun, hended, hW, hsame⟩ := X51.leave (v := some (.int (1 : Int32))) (fun h => by rw [Bd.returns] at h; cases h)
            refine ⟨_, _, pre55 _ ?_, hrun, hended, _, _, rfl, ?_, ⟨_, rfl⟩, hW, hsame.mono (by decide) (by decide)⟩
            · show Steps p.tables e below (T51.setTop (mkF m 60 #[.val (.int p0), .val (.int p1), .val (.int (p0 &&& (65535 : Int32))), .val (.int (own_v0_20_1 p0)), .val (.int (0 : Int32))] [(.int (1 : Int32))])) _
              exact retN X51 hx (t := .boolean) Bd.returns (by simp) (hb hby at_60) hr
            · show own_Q0 Z p0 p1 h0 n0 _ T51.heap _; exact ⟨(by show some (Value.int _) = some (.int (own_f0 p0 p1)); unfold own_f0; rw [if_neg hc2, if_neg hc34, if_neg hc42, if_pos hc50, if_pos hc54]), N52⟩
          · have pre56 : ∀ t, Steps p.tables e below (T51.setTop (mkF m 60 #[.val (.int p0), .val (.int p1), .val (.int (p0 &&& (65535 : Int32))), .val (.int (own_v0_20_1 p0)), .val (.int (0 : Int32))] [(.int (0 : Int32))])) t → Steps p.tables e below (s₁.setTop (entryFrame m #[(.int p0), (.int p1)] maxLocals)) t := fun t k => pre53 t (by
                refine XS.icmpYes X51.here hx rfl (pc0 := 52) (pc' := 59) rfl (hb hby at_52) rfl (feq hc54).2 (by decide) (by decide) ?_
                show Steps p.tables e below (T51.setTop (mkF m 59 #[.val (.int p0), .val (.int p1), .val (.int (p0 &&& (65535 : Int32))), .val (.int (own_v0_20_1 p0)), .val (.int (0 : Int32))] [])) _
                refine XS.iconst X51.here hx rfl (hb hby at_59) ?_
                show Steps p.tables e below (T51.setTop (mkF m 60 #[.val (.int p0), .val (.int p1), .val (.int (p0 &&& (65535 : Int32))), .val (.int (own_v0_20_1 p0)), .val (.int (0 : Int32))] [(.int (0 : Int32))])) _
                exact k)
            obtain ⟨fs, hr, hrun, hended, hW, hsame⟩ := X51.leave (v := some (.int (0 : Int32))) (fun h => by rw [Bd.returns] at h; cases h)
            refine ⟨_, _, pre56 _ ?_, hrun, hended, _, _, rfl, ?_, ⟨_, rfl⟩, hW, hsame.mono (by decide) (by decide)⟩
            · show Steps p.tables e below (T51.setTop (mkF m 60 #[.val (.int p0), .val (.int p1), .val (.int (p0 &&& (65535 : Int32))), .val (.int (own_v0_20_1 p0)), .val (.int (0 : Int32))] [(.int (0 : Int32))])) _
              exact retN X51 hx (t := .boolean) Bd.returns (by simp) (hb hby at_60) hr
            · show own_Q0 Z p0 p1 h0 n0 _ T51.heap _; exact ⟨(by show some (Value.int _) = some (.int (own_f0 p0 p1)); unfold own_f0; rw [if_neg hc2, if_neg hc34, if_neg hc42, if_pos hc50, if_neg hc54]), N52⟩
        · obtain ⟨_, _, ⟨T57, L57, k57, n57⟩, -, X57, ⟨Lc57, hQ57, l57, y57, z57⟩, st57⟩ := Jvm.LawKit.callS X0 hx (y := (⟨"com/example/nestor/nestor/Ids", "isSeparator", "(C)Z"⟩ : MethodName)) hown (mvT hZ (hw _ (List.mem_of_getElem? (i := 1) rfl))) (mvT hZ (hw _ (List.mem_of_getElem? (i := 2) rfl))) (mvT hZ (hw _ (List.mem_of_getElem? (i := 3) rfl))) (mvT hZ (hw _ (List.mem_of_getElem? (i := 4) rfl))) (by decide) (backOf (W := 0) (own_rm1 l Z a0 hw [] (own_v0_20_1 p0) h0 n0 Z0 ) hZ (hw _ (List.mem_of_getElem? (i := 4) rfl)) (hw _ (List.mem_of_getElem? (i := 3) rfl)) (by decide) (by decide)) (g := (mkF m 47 #[.val (.int p0), .val (.int p1), .val (.int (p0 &&& (65535 : Int32))), .val (.int (own_v0_20_1 p0)), .val (.int (1 : Int32))] [(.int (own_v0_20_1 p0))])) rfl (by rw [hml]; rfl) (argsL := [(.int (own_v0_20_1 p0))]) (rest := []) (lenOf own_pd0 rfl) rfl (by show 2 * 0 + _ ≤ _; exact Nat.le_of_eq rfl) (hb hby at_47) (fun _ _ => ⟨rfl, e0, (by decide : 0 + 0 ≤ _), (by decide : 0 + 0 ≤ _)⟩)
          dsimp only [Pt.U, Pt.locs, Pt.cells, Pt.slots] at X57 l57 y57 z57 st57 hQ57
          subst l57 y57 z57
          obtain ⟨rfl, N57q, e57⟩ := hQ57
          have N58 := Fr.app N0 N57q
          have pre59 : ∀ t, Steps p.tables e below (T57.setTop (mkF m 52 #[.val (.int p0), .val (.int p1), .val (.int (p0 &&& (65535 : Int32))), .val (.int (own_v0_20_1 p0)), .val (.int (1 : Int32))] [(.int (1 : Int32)), (.int (own_f1 (own_v0_20_1 p0)))])) t → Steps p.tables e below (s₁.setTop (entryFrame m #[(.int p0), (.int p1)] maxLocals)) t := fun t k => pre49 t (by
              refine XS.icmpNo X0.here hx rfl (hb hby at_36) rfl (flt hc50).2.2.1 ?_
              show Steps p.tables e below (s₁.setTop (mkF m 39 #[.val (.int p0), .val (.int p1), .val (.int (p0 &&& (65535 : Int32))), .val (.int (own_v0_20_1 p0)), .unset] [])) _
              refine XS.iconst X0.here hx rfl (hb hby at_39) ?_
              show Steps p.tables e below (s₁.setTop (mkF m 40 #[.val (.int p0), .val (.int p1), .val (.int (p0 &&& (65535 : Int32))), .val (.int (own_v0_20_1 p0)), .unset] [(.int (1 : Int32))])) _
              refine XS.goto X0.here hx rfl (pc0 := 40) (pc' := 44) rfl (hb hby at_40) (by decide) (by decide) ?_
              show Steps p.tables e below (s₁.setTop (mkF m 44 #[.val (.int p0), .val (.int p1), .val (.int (p0 &&& (65535 : Int32))), .val (.int (own_v0_20_1 p0)), .unset] [(.int (1 : Int32))])) _
              refine XS.istore X0.here hx rfl (hb hby at_44) rfl (l' := #[.val (.int p0), .val (.int p1), .val (.int (p0 &&& (65535 : Int32))), .val (.int (own_v0_20_1 p0)), .val (.int (1 : Int32))]) rfl ?_
              show Steps p.tables e below (s₁.setTop (mkF m 46 #[.val (.int p0), .val (.int p1), .val (.int (p0 &&& (65535 : Int32))), .val (.int (own_v0_20_1 p0)), .val (.int (1 : Int32))] [])) _
              refine XS.iloadN X0.here hx rfl (hb hby at_46) rfl ?_
              show Steps p.tables e below (s₁.setTop (mkF m 47 #[.val (.int p0), .val (.int p1), .val (.int (p0 &&& (65535 : Int32))), .val (.int (own_v0_20_1 p0)), .val (.int (1 : Int32))] [(.int (own_v0_20_1 p0))])) _
              refine st57 _ ?_
              show Steps p.tables e below (T57.setTop (mkF m 50 #[.val (.int p0), .val (.int p1), .val (.int (p0 &&& (65535 : Int32))), .val (.int (own_v0_20_1 p0)), .val (.int (1 : Int32))] [(.int (own_f1 (own_v0_20_1 p0)))])) _
              refine XS.iload X57.here hx rfl (hb hby at_50) rfl ?_
              show Steps p.tables e below (T57.setTop (mkF m 52 #[.val (.int p0), .val (.int p1), .val (.int (p0 &&& (65535 : Int32))), .val (.int (own_v0_20_1 p0)), .val (.int (1 : Int32))] [(.int (1 : Int32)), (.int (own_f1 (own_v0_20_1 p0)))])) _
              exact k)
          by_cases hc60 : (own_f1 (own_v0_20_1 p0)) = (1 : Int32)
          · have pre61 : ∀ t, Steps p.tables e below (T57.setTop (mkF m 60 #[.val (.int p0), .val (.int p1), .val (.int (p0 &&& (65535 : Int32))), .val (.int (own_v0_20_1 p0)), .val (.int (1 : Int32))] [(.int (1 : Int32))])) t → Steps p.tables e below (s₁.setTop (entryFrame m #[(.int p0), (.int p1)] maxLocals)) t := fun t k => pre59 t (by
                refine XS.icmpNo X57.here hx rfl (hb hby at_52) rfl (teq hc60).2 ?_
                show Steps p.tables e below (T57.setTop (mkF m 55 #[.val (.int p0), .val (.int p1), .val (.int (p0 &&& (65535 : Int32))), .val (.int (own_v0_20_1 p0)), .val (.int (1 : Int32))] [])) _
                refine XS.iconst X57.here hx rfl (hb hby at_55) ?_
                show Steps p.tables e below (T57.setTop (mkF m 56 #[.val (.int p0), .val (.int p1), .val (.int (p0 &&& (65535 : Int32))), .val (.int (own_v0_20_1 p0)), .val (.int (1 : Int32))] [(.int (1 : Int32))])) _
                refine XS.goto X57.here hx rfl (pc0 := 56) (pc' := 60) rfl (hb hby at_56) (by decide) (by decide) ?_
                show Steps p.tables e below (T57.setTop (mkF m 60 #[.val (.int p0), .val (.int p1), .val (.int (p0 &&& (65535 : Int32))), .val (.int (own_v0_20_1 p0)), .val (.int (1 : Int32))] [(.int (1 : Int32))])) _
                exact k)
            obtain ⟨fs, hr, hrun, hended, hW, hsame⟩ := X57.leave (v := some (.int (1 : Int32))) (fun h => by rw [Bd.returns] at h; cases h)
            refine ⟨_, _, pre61 _ ?_, hrun, hended, _, _, rfl, ?_, ⟨_, rfl⟩, hW, hsame.mono (by decide) (by decide)⟩
            · show Steps p.tables e below (T57.setTop (mkF m 60 #[.val (.int p0), .val (.int p1), .val (.int (p0 &&& (65535 : Int32))), .val (.int (own_v0_20_1 p0)), .val (.int (1 : Int32))] [(.int (1 : Int32))])) _
              exact retN X57 hx (t := .boolean) Bd.returns (by simp) (hb hby at_60) hr
            · show own_Q0 Z p0 p1 h0 n0 _ T57.heap _; exact ⟨(by show some (Value.int _) = some (.int (own_f0 p0 p1)); unfold own_f0; rw [if_neg hc2, if_neg hc34, if_neg hc42, if_neg hc50, if_pos hc60]), N58⟩
          · have pre62 : ∀ t, Steps p.tables e below (T57.setTop (mkF m 60 #[.val (.int p0), .val (.int p1), .val (.int (p0 &&& (65535 : Int32))), .val (.int (own_v0_20_1 p0)), .val (.int (1 : Int32))] [(.int (0 : Int32))])) t → Steps p.tables e below (s₁.setTop (entryFrame m #[(.int p0), (.int p1)] maxLocals)) t := fun t k => pre59 t (by
                refine XS.icmpYes X57.here hx rfl (pc0 := 52) (pc' := 59) rfl (hb hby at_52) rfl (feq hc60).2 (by decide) (by decide) ?_
                show Steps p.tables e below (T57.setTop (mkF m 59 #[.val (.int p0), .val (.int p1), .val (.int (p0 &&& (65535 : Int32))), .val (.int (own_v0_20_1 p0)), .val (.int (1 : Int32))] [])) _
                refine XS.iconst X57.here hx rfl (hb hby at_59) ?_
                show Steps p.tables e below (T57.setTop (mkF m 60 #[.val (.int p0), .val (.int p1), .val (.int (p0 &&& (65535 : Int32))), .val (.int (own_v0_20_1 p0)), .val (.int (1 : Int32))] [(.int (0 : Int32))])) _
                exact k)
            obtain ⟨fs, hr, hrun, hended, hW, hsame⟩ := X57.leave (v := some (.int (0 : Int32))) (fun h => by rw [Bd.returns] at h; cases h)
            refine ⟨_, _, pre62 _ ?_, hrun, hended, _, _, rfl, ?_, ⟨_, rfl⟩, hW, hsame.mono (by decide) (by decide)⟩
            · show Steps p.tables e below (T57.setTop (mkF m 60 #[.val (.int p0), .val (.int p1), .val (.int (p0 &&& (65535 : Int32))), .val (.int (own_v0_20_1 p0)), .val (.int (1 : Int32))] [(.int (0 : Int32))])) _
              exact retN X57 hx (t := .boolean) Bd.returns (by simp) (hb hby at_60) hr
            · show own_Q0 Z p0 p1 h0 n0 _ T57.heap _; exact ⟨(by show some (Value.int _) = some (.int (own_f0 p0 p1)); unfold own_f0; rw [if_neg hc2, if_neg hc34, if_neg hc42, if_neg hc50, if_neg hc60]), N58⟩
theorem own_e32 {a b : Int32} : a = b ↔ a.toInt = b.toInt := Int32.toInt_inj.symm
theorem own_e64 {a b : Int64} : a = b ↔ a.toInt = b.toInt := Int64.toInt_inj.symm
theorem own_sep1 (c : Int32) (h : c.toInt = 32 ∨ 9 ≤ c.toInt ∧ c.toInt ≤ 13) : own_f1 c = 1 := by
  unfold own_f1
  simp only [Int32.lt_iff_toInt_lt, own_e32 (a := c), Int32.reduceToInt]
  repeat' split
  all_goals first | rfl | (exfalso; omega)
theorem own_sep0 (c : Int32) (h : ¬ (c.toInt = 32 ∨ 9 ≤ c.toInt ∧ c.toInt ≤ 13)) : own_f1 c = 0 := by
  unfold own_f1
  simp only [Int32.lt_iff_toInt_lt, own_e32 (a := c), Int32.reduceToInt]
  repeat' split
  all_goals first | rfl | (exfalso; omega)
theorem own_i2c (c : Int32) (h0 : 0 ≤ c.toInt) (h1 : c.toInt < 65536) : c.toUInt32.toUInt16.toUInt32.toInt32 = c := by
  have := c_i2c c
  rw [own_e32]; omega
theorem own_half (c : Int32) : (if c = (32 : Int32) then (if own_f1 c = (1 : Int32) then (1 : Int32) else (0 : Int32)) else (if c < (9 : Int32) then (if own_f1 c = (0 : Int32) then (1 : Int32) else (0 : Int32)) else (if (13 : Int32) < c then (if own_f1 c = (0 : Int32) then (1 : Int32) else (0 : Int32)) else (if own_f1 c = (1 : Int32) then (1 : Int32) else (0 : Int32))))) = 1 := by
  by_cases h : c.toInt = 32 ∨ 9 ≤ c.toInt ∧ c.toInt ≤ 13
  · rw [own_sep1 c h]
    simp only [Int32.lt_iff_toInt_lt, own_e32 (a := c), Int32.reduceToInt]
    repeat' split
    all_goals first | rfl | (exfalso; omega) | (exfalso; simp_all)
  · rw [own_sep0 c h]
    simp only [Int32.lt_iff_toInt_lt, own_e32 (a := c), Int32.reduceToInt]
    repeat' split
    all_goals first | rfl | (exfalso; omega) | (exfalso; simp_all)
theorem own_plain (p0 p1 : Int32) : own_f0 p0 p1 = 1 := by
  have m1 : (p0 &&& (63 : Int32)).toInt = p0.toInt % (2 ^ 6 : Nat) := c_mask p0 63 6 (by decide) (by decide)
  have m2 : (p0 &&& (65535 : Int32)).toInt = p0.toInt % (2 ^ 16 : Nat) := c_mask p0 65535 16 (by decide) (by decide)
  unfold own_f0 own_v0_20_0 own_v0_20_1
  rw [own_i2c (p0 &&& (63 : Int32)) (by omega) (by omega), own_i2c (p0 &&& (65535 : Int32)) (by omega) (by omega)]
  by_cases h : (p1 &&& (1 : Int32)) = (0 : Int32)
  · rw [if_pos h]; exact own_half _
  · rw [if_neg h]; exact own_half _
set_option maxRecDepth 65536 in
set_option maxHeartbeats 40000000 in
theorem comes_1 {Post : Tables → Env → Array Value → State → Outcome → State → Prop} (hpost : ∀ tb e args s v u, (limb_1_1.after args s (.returned v) u = true ∧ limb_1_2.after args s (.returned v) u = true ∧ True) → FrameEnd s (.returned v) u (Jvm.fieldLocs frame_1_writes args s ++ Jvm.arrayLocs frame_1_arrays args s ++ Jvm.staticLocs frame_1_statics s) 0 0 → Post tb e args s (.returned v) u) :
    ArmFor flags0 classFile x code maxLocals ret World_1 tables_1 room_1 Calls_1 rest_1 Pre_1 Post := by
  intro l hfl _ _ p e ha hc hk s m args below hf hA hF happ hP
  obtain ⟨hcalls, hrest, hpre⟩ := hP
  obtain ⟨-, -, -, hnamed, -, -, -, hat⟩ := (Spec.applies_iff hf).mp happ
  obtain ⟨hg, hn⟩ := and_e (Cond.before_iff.mp (show (Jvm.Cond.and given_1 narrow_1).before args s = true from hpre))
  obtain ⟨gc, gr0⟩ := and_e hg
  obtain ⟨ga0, gr1⟩ := and_e gr0
  have ga1 := gr1
  obtain ⟨w0, w1, rfl⟩ : ∃ w0 w1 : Value, args = #[w0, w1] := by
    have hs : args.size = 2 := by simpa [Cond.value, given_1] using gc
    obtain ⟨L⟩ := args
    match L, hs with
    | [w0, w1], _ => exact ⟨w0, w1, rfl⟩
  have hw := fun d (hd : d ∈ tables_1) => atoms_spec (ws := Jvm.Cond.code x code maxLocals ret :: tables_1) hat d (List.mem_cons_of_mem _ hd)
  obtain ⟨i0, ei0⟩ := is_v ga0
  obtain rfl : w0 = (.int i0) := Option.some.inj ei0
  obtain ⟨i1, ei1⟩ := is_v ga1
  obtain rfl : w1 = (.int i1) := Option.some.inj ei1
  obtain ⟨n, o, h1, h2, h3, _, L, rfl, ⟨hv, N⟩, hq⟩ := own_rm0 l s _ hw tables_1 i0 i1 s.heap s.heap.size (Nat.le_refl _) p e ha hc hk s m _ below hf ((Spec.applies_iff_loose hf).mp happ).1 ⟨rfl, State.Warmed39.refl s, rfl⟩ trivial
  rw [show (own_f0 i0 i1) = (1 : Int32) from own_plain i0 i1] at hv
  subst hv
  refine ⟨n, _, h1, h2, h3, hpost _ _ _ _ _ _ ⟨Cond.after_iff.mpr rfl, Cond.after_iff.mpr (eq_i res_at (Term.int_eval (1)) rfl), trivial⟩ ⟨hq.1, hq.2.1, (hq.2.2.sift fun y hy => Or.inr (N y hy)).mono (by decide) (by decide)⟩⟩
theorem main_1_1 : Claimed_1_1 := comes_1 fun _ _ _ _ _ _ h hF => ⟨h.1, hF⟩
theorem main_1_2 : Claimed_1_2 := comes_1 fun _ _ _ _ _ _ h hF => ⟨h.2.1, hF⟩
end Jvm.Pilot.@@N@@
namespace Jvm.Pilot.@@N@@
open Jvm Jvm.ClassFile Sem Op Lib Jvm.Free Jvm.Stand Jvm.Pilot.@@N@@.Jvm.D
/-! MADE BY PROGRAM (witnessworld.py) out of the Statement's table words and the real class files: 9 classes; the members and pool entries that the words name. The judged class is class 1, her method 1. -/
namespace start1
open Jvm.ClassFile
def u (s : String) : CpInfo := .utf8 (stringToUtf16 s)
/-- a pool by its gaps: so many unusable entries, then the entry; so many at the end -/
def gap : Nat → List CpInfo → List CpInfo
  | 0, r => r
  | n + 1, r => .unusable :: gap n r
def poolList (es : List (Nat × CpInfo)) (last : Nat) : List CpInfo := es.foldr (fun e r => gap e.1 (e.2 :: r)) (gap last [])
def pool (es : List (Nat × CpInfo)) (last : Nat) : Array CpInfo := ⟨poolList es last⟩
def fileOf (pool : Array CpInfo) (this : Nat) (attrs : Array Attribute := #[]) (ms : Array MethodInfo := #[]) (fl : Nat := 33) (sup : Nat := 0) (ifs : Array Nat := #[]) (fds : Array FieldInfo := #[]) : ClassFile where
  minorVersion := 0
  majorVersion := 65
  constantPool := pool
  accessFlags := fl
  thisClass := this
  superClass := sup
  interfaces := ifs
  fields := fds
  methods := ms
  attributes := attrs
def plain (name : String) (sup : Option ClassId) : Class where
  name := name
  kind := .ordinary
  loader := none
  accessFlags := 33
  super := sup
  interfaces := #[]
  cf := none
  fields := #[]
  methods := #[]
  instanceTypes := #[]
  staticTypes := #[]
  resolved := #[]
  callSites := []
  init := .initialized
  statics := none
  mirror := none

def pool0 : Array CpInfo := pool [(5, u "<init>"), (0, u "()V"), (1, .class_ 10), (1, u "java/lang/Object")] 113

def k0m0 : Method := { name := "<init>", desc := "()V", sig := { parameters := [], returnType := none }, accessFlags := 1, code := none }
/-- java/lang/Object -/
def k0 : Class := { plain "java/lang/Object" none with
  accessFlags := 33
  interfaces := #[]
  cf := some (fileOf pool0 8 #[] #[{ accessFlags := 1, nameIndex := 5, descriptorIndex := 6, attributes := #[] }] 33 0 #[] #[])
  fields := #[]
  methods := #[k0m0]
  instanceTypes := #[]
  staticTypes := #[]
  resolved := Array.replicate 124 none
  statics := none }

def pool1 : Array CpInfo := pool [(2, .class_ 4), (1, u "java/lang/Object"), (0, u "<init>"), (0, u "()V"), (0, .integer 65535), (0, .methodref 9 10), (0, .class_ 11), (0, .nameAndType 12 13), (0, u "com/example/nestor/nestor/Ids"), (0, u "isSeparator"), (0, u "(C)Z"), (0, .class_ 15), (0, u "com/example/nestor/nestor/IdsIsSeparatorPinLaw"), (2, u "law"), (0, u "(II)Z")] 3

def k1m0 : Method := { name := "<init>", desc := "()V", sig := { parameters := [], returnType := none }, accessFlags := 2, code := none }
def k1c1 : Code := { maxStack := 2, maxLocals := 5, code := code, exceptionTable := #[], attributes := #[] }
def k1m1 : Method := { name := "law", desc := "(II)Z", sig := { parameters := [.int, .int], returnType := some .boolean }, accessFlags := 9, code := some k1c1 }
/-- com/example/nestor/nestor/IdsIsSeparatorPinLaw -/
def k1 : Class := { plain "com/example/nestor/nestor/IdsIsSeparatorPinLaw" (some 0) with
  accessFlags := 49
  interfaces := #[]
  cf := some (fileOf pool1 14 #[] #[{ accessFlags := 2, nameIndex := 5, descriptorIndex := 6, attributes := #[] }, { accessFlags := 9, nameIndex := 18, descriptorIndex := 19, attributes := #[] }] 49 2 #[] #[])
  fields := #[]
  methods := #[k1m0, k1m1]
  instanceTypes := #[]
  staticTypes := #[]
  resolved := Array.replicate 23 none
  statics := none }

def pool2 : Array CpInfo := pool [(2, .class_ 4), (1, u "java/lang/Object"), (0, u "<init>"), (0, u "()V"), (30, .class_ 39), (1, u "com/example/nestor/nestor/Ids"), (0, u "isSeparator"), (0, u "(C)Z")] 47

def k2m0 : Method := { name := "<init>", desc := "()V", sig := { parameters := [], returnType := none }, accessFlags := 2, code := none }
def k2c1 : Code := { maxStack := 2, maxLocals := 1, code := prog_11_method_5_code, exceptionTable := #[], attributes := #[] }
def k2m1 : Method := { name := "isSeparator", desc := "(C)Z", sig := { parameters := [.char], returnType := some .boolean }, accessFlags := 9, code := some k2c1 }
/-- com/example/nestor/nestor/Ids -/
def k2 : Class := { plain "com/example/nestor/nestor/Ids" (some 0) with
  accessFlags := 49
  interfaces := #[]
  cf := some (fileOf pool2 37 #[] #[{ accessFlags := 2, nameIndex := 5, descriptorIndex := 6, attributes := #[] }, { accessFlags := 9, nameIndex := 40, descriptorIndex := 41, attributes := #[] }] 49 2 #[] #[])
  fields := #[]
  methods := #[k2m0, k2m1]
  instanceTypes := #[]
  staticTypes := #[]
  resolved := Array.replicate 89 none
  statics := none }

def pool3 : Array CpInfo := pool [(1, u "java/lang/Cloneable"), (0, .class_ 1), (0, u "java/lang/Object"), (0, .class_ 3)] 3

/-- java/lang/Cloneable -/
def k3 : Class := { plain "java/lang/Cloneable" (some 0) with
  accessFlags := 1537
  interfaces := #[]
  cf := some (fileOf pool3 2 #[] #[] 1537 4 #[] #[])
  fields := #[]
  methods := #[]
  instanceTypes := #[]
  staticTypes := #[]
  resolved := Array.replicate 8 none
  statics := none }

def pool4 : Array CpInfo := pool [(1, u "java/io/Serializable"), (0, .class_ 1), (0, u "java/lang/Object"), (0, .class_ 3)] 3

/-- java/io/Serializable -/
def k4 : Class := { plain "java/io/Serializable" (some 0) with
  accessFlags := 1537
  interfaces := #[]
  cf := some (fileOf pool4 2 #[] #[] 1537 4 #[] #[])
  fields := #[]
  methods := #[]
  instanceTypes := #[]
  staticTypes := #[]
  resolved := Array.replicate 8 none
  statics := none }

/-- the primitive byte -/
def k5 : Class := { plain "byte" none with kind := .primitive 'B', accessFlags := 0x411 }
/-- [B -/
def k6 : Class := { plain "[B" (some 0) with kind := .array 5 .byte, interfaces := #[3, 4], accessFlags := 1041 }

/-- the primitive int -/
def k7 : Class := { plain "int" none with kind := .primitive 'I', accessFlags := 0x411 }
/-- [I -/
def k8 : Class := { plain "[I" (some 0) with kind := .array 7 .int, interfaces := #[3, 4], accessFlags := 1041 }

def heap : Heap := #[]
def classes : Array Class := #[k0, k1, k2, k3, k4, k5, k6, k7, k8]
def interned : List (Array UInt16 × Addr) := []
def slotsUsed : Nat := 0
def theMethod : MethodId := ⟨1, 1⟩
def args0 : Array Value := #[.int 9, .int 1]
def aboutOver (below : List Frame) : State where
  vm := { classes := classes, interned := interned.toArray }
  heap := heap
  slotsUsed := slotsUsed
  threads := #[{ frames := .invoking theMethod args0 :: below }]
def below0 : List Frame := [.native { method := ⟨0, 0⟩, args := #[] }]
def about1 : State := aboutOver below0
def p0 : Program := .bare "" "" ""
def e0 : Env := launch0.env 0 0 0
theorem w_frames : about1.frames = Frame.invoking theMethod args0 :: below0 := rfl
set_option maxRecDepth 65536 in
theorem w_args : argsFit about1.vm theMethod args0 = true := by decide +kernel
set_option maxRecDepth 65536 in
theorem w_heap : heapFits about1 = true := by decide +kernel
set_option maxRecDepth 65536 in
theorem w_runnable : about1.curStatus? = some .runnable := by decide +kernel
set_option maxRecDepth 65536 in
theorem w_alone : about1.alone = true := by decide +kernel
set_option maxRecDepth 65536 in
theorem w_named : about1.methodNamed? x = some theMethod := by decide +kernel
set_option maxRecDepth 65536 in
theorem w_hears : about1.hears theMethod below0 = true := by decide +kernel
set_option maxRecDepth 65536 in
theorem w_ripe : about1.ripe theMethod args0 below0 = true := by decide +kernel
theorem w_running : about1.status = .running := rfl
set_option maxRecDepth 65536 in
theorem w_room : about1.hasRoom e0.platform room_1 = true :=
  launch0.hasRoom_least _ room_1 (by decide +kernel) (by decide +kernel) (by decide +kernel) (by decide +kernel) (by decide +kernel) (by decide +kernel)
theorem allAtoms_all (ts : List Jvm.Cond) (a : Array Jvm.Value) (st : Jvm.State) : (allAtoms ts).before a st = ts.all (fun c => c.before a st) := by
  induction ts with
  | nil => rfl
  | cons c t ih =>
    show (Jvm.Cond.and c (allAtoms t)).before a st = _
    rw [Jvm.Cond.before_and, ih, List.all_cons]
def words1 : List Jvm.Cond := Jvm.Cond.code x code maxLocals ret :: tables_1
/-- a 'code' word, met by the world's own term for the bytes: nothing is compared byte by byte -/
theorem code_word {y : MethodName} {bytes : ByteArray} {mx : Nat} {rt : Option FieldType} {a : Array Value} {s : State} {m : MethodId} {meth : Method} {c : Code} (h1 : s.methodNamed? y = some m) (h2 : s.vm.method? m = some meth) (h3 : meth.code = some c) (h4 : c.code = bytes)
    (h5 : (c.maxLocals == mx && c.exceptionTable.isEmpty && decide (c.maxStack ≤ mostOperands) && decide (meth.sig.returnType = rt) && !meth.locks && decide (parseMethodDescriptor y.desc = some meth.sig)) = true) : (Jvm.Cond.code y bytes mx rt).before a s = true := by
  simp only [Bool.and_eq_true, beq_iff_eq, Bool.not_eq_true', decide_eq_true_eq] at h5
  obtain ⟨⟨⟨⟨⟨g1, g2⟩, g3⟩, g4⟩, g5⟩, g6⟩ := h5
  simp [Cond.before, Cond.holds, Cond.value, h1, h2, h3, h4, g1, g2, g3, g4, g5, g6]
def isCode : Jvm.Cond → Bool
  | .code _ _ _ _ => true
  | _ => false
theorem all_split {L : List Jvm.Cond} {P : Jvm.Cond → Bool} (h1 : L.all (fun c => isCode c || P c) = true) (h2 : ∀ c ∈ L.filter isCode, P c = true) : L.all P = true := by
  refine List.all_eq_true.mpr fun c hc => ?_
  have h := List.all_eq_true.mp h1 c hc
  rcases Bool.eq_false_or_eq_true (isCode c) with hi | hi
  · exact h2 c (List.mem_filter.mpr ⟨hc, hi⟩)
  · simpa [hi] using h
set_option maxRecDepth 65536 in
theorem w_c0 : (Jvm.Cond.code x code maxLocals ret).before args0 about1 = true := code_word (m := ⟨1, 1⟩) (meth := k1m1) (c := k1c1) (by decide +kernel) rfl rfl rfl (by decide +kernel)
set_option maxRecDepth 65536 in
theorem w_c1 : (Jvm.Cond.code ({ cls := "com/example/nestor/nestor/Ids", name := "isSeparator", desc := "(C)Z" } : Jvm.MethodName) prog_11_method_5_code (1 : Nat) (Option.some Jvm.ClassFile.FieldType.boolean)).before args0 about1 = true := code_word (m := ⟨2, 1⟩) (meth := k2m1) (c := k2c1) (by decide +kernel) rfl rfl rfl (by decide +kernel)
def codes1 : List Jvm.Cond := [Jvm.Cond.code x code maxLocals ret, Jvm.Cond.code ({ cls := "com/example/nestor/nestor/Ids", name := "isSeparator", desc := "(C)Z" } : Jvm.MethodName) prog_11_method_5_code (1 : Nat) (Option.some Jvm.ClassFile.FieldType.boolean)]
set_option maxRecDepth 65536 in
theorem codes_eq : words1.filter isCode = codes1 := rfl
theorem w_codes : ∀ c ∈ words1.filter isCode, c.before args0 about1 = true := by
  rw [codes_eq]
  intro c hc
  simp only [codes1, List.mem_cons, List.not_mem_nil, or_false] at hc
  rcases hc with rfl | rfl
  · exact w_c0
  · exact w_c1
set_option maxRecDepth 65536 in
theorem w_t1 : words1.all (fun c => isCode c || c.before args0 about1) = true := by decide +kernel
theorem w_tables : (allAtoms (Jvm.Cond.code x code maxLocals ret :: tables_1)).before args0 about1 = true := by
  rw [allAtoms_all]
  show words1.all (fun c => c.before args0 about1) = true
  refine all_split ?_ w_codes
  rw [w_t1]
set_option maxRecDepth 65536 in
theorem w_case : (Jvm.Cond.and given_1 narrow_1).before args0 about1 = true := by decide +kernel
theorem w_applies : (headSpec (Jvm.Cond.code x code maxLocals ret :: tables_1) room_1).applies x e0.platform about1 = true :=
  (Spec.applies_iff w_frames).mpr ⟨w_running, w_runnable, w_alone, w_named, w_hears, w_ripe, w_room, w_tables⟩
theorem atStart : AtStart classFile x code maxLocals ret World_1 tables_1 room_1 Calls_1 rest_1 Pre_1 launch0 p0 e0 about1 theMethod args0 below0 :=
  ⟨lists_1, trivial, launch0.admits_env _ _ _, launch0.least_env, fairChoices_fair.cas, fairChoices_fair.clock, w_frames, w_args, w_heap, w_applies, trivial, trivial, w_case⟩
end start1
theorem witness_1 : WitnessClaimed_1 := ⟨start1.p0, start1.e0, start1.about1, start1.theMethod, start1.args0, start1.below0, start1.atStart⟩
end Jvm.Pilot.@@N@@
