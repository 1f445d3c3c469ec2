import JvmDerived
import JvmDerived.Pilot.@@N@@Statement
import JvmDerived.Pilot.@@N@@Code
set_option linter.unusedVariables false
set_option linter.unusedSimpArgs false
namespace Jvm.RoadKit
open Sem ClassFile Op Lib Jvm.Stand Jvm.Free Jvm.LawKit
section New
variable {p : Program} {l : Launch} {e : Env} {R : Room} {s : State} {m : MethodId} {args : Array Value} {below : List Frame} {meth : Method} {c : Code} {T : State} {locs : List Loc} {cells slots : Nat}
theorem retI (X : Stand p l e R s m args below meth c T locs cells slots) (hx : p.tables.exec = Jvm.exec) {pc : Nat} {Ls : Array Slot} {z : Int32} {rest : List Value} (hret : meth.sig.returnType = some .int) (hd : decode c.code pc = .ok (.ireturn, 1)) {fs : List Frame}
    (hl : ∀ (f : JFrame) (acts : List Action), f.method = m → f.locked = none → f.entered = [] → (doReturn e (T.setTop f) acts (some (.int z))).1 = T.setFrames fs) : Steps p.tables e below (T.setTop (mkF m pc Ls (.int z :: rest))) (T.setFrames fs) := by
  have hm' : T.vm.method? m = some meth := X.method'
  have hn : narrow .int (.int z) = .int z := rfl
  show Steps p.tables e below (T.setTop { method := m, pc := pc, locals := Ls, stack := _ :: rest, locked := none }) _
  jvm_step X.here [X.here.top, hx, hd, hm', hret, hn]
  first | (intro acts; rw [hl _ acts rfl rfl rfl]) | rw [hl _ _ rfl rfl rfl]
  exact Steps.refl _
end New
end Jvm.RoadKit
namespace Jvm.Pilot.@@N@@
open Jvm Jvm.ClassFile Sem Op Lib Jvm.Free Jvm.Stand Jvm.LawKit Jvm.RoadKit Bundle Jvm.Pilot.@@N@@.Jvm.D
theorem own_lw_lt (x y : Int64) : lcmpW x y < 0 ↔ x < y := by rw [lcW]; exact lc_lt x y
theorem own_lw_gt (x y : Int64) : 0 < lcmpW x y ↔ y < x := by rw [lcW]; exact lc_gt x y
theorem own_lw_eq (x y : Int64) : lcmpW x y = 0 ↔ x = y := by rw [lcW]; exact lc_eq x y
theorem own_retJ {p : Program} {l : Launch} {e : Env} {R : Room} {s : State} {m : MethodId} {args : Array Value} {below : List Frame} {meth : Method} {c : Code} {T : State} {locs : List Loc} {cells slots : Nat} (X : Stand p l e R s m args below meth c T locs cells slots) (hx : p.tables.exec = Jvm.exec) {pc : Nat} {Ls : Array Slot} {z : Int64} {rest : List Value} (hret : meth.sig.returnType = some .long) (hd : decode c.code pc = .ok (.lreturn, 1)) {fs : List Frame}
    (hl : ∀ (f : JFrame) (acts : List Action), f.method = m → f.locked = none → f.entered = [] → (doReturn e (T.setTop f) acts (some (.long z))).1 = T.setFrames fs) : Steps p.tables e below (T.setTop (mkF m pc Ls (.long z :: rest))) (T.setFrames fs) := by
  have hm' : T.vm.method? m = some meth := X.method'
  have hn : narrow .long (.long z) = .long z := rfl
  show Steps p.tables e below (T.setTop { method := m, pc := pc, locals := Ls, stack := _ :: rest, locked := none }) _
  jvm_step X.here [X.here.top, hx, hd, hm', hret, hn]
  first | (intro acts; rw [hl _ acts rfl rfl rfl]) | rw [hl _ _ rfl rfl rfl]
  exact Steps.refl _
theorem own_ne32 {k n : Int32} (h : ¬ k = n) : n.toInt ≠ k.toInt := fun e => h (Int32.toInt_inj.mp e.symm)
theorem own_d1_0 : decode prog_1_method_7_code 0 = .ok (.lload_n 0, 1) := by decide +kernel
theorem own_d1_1 : decode prog_1_method_7_code 1 = .ok (.lconst 0, 1) := by decide +kernel
theorem own_d1_2 : decode prog_1_method_7_code 2 = .ok (.lcmp, 1) := by decide +kernel
theorem own_d1_3 : decode prog_1_method_7_code 3 = .ok (.ifCond .ge 9, 3) := by decide +kernel
theorem own_d1_6 : decode prog_1_method_7_code 6 = .ok (.lload_n 2, 1) := by decide +kernel
theorem own_d1_7 : decode prog_1_method_7_code 7 = .ok (.lload_n 0, 1) := by decide +kernel
theorem own_d1_8 : decode prog_1_method_7_code 8 = .ok (.ladd, 1) := by decide +kernel
theorem own_d1_9 : decode prog_1_method_7_code 9 = .ok (.goto 4, 3) := by decide +kernel
theorem own_d1_12 : decode prog_1_method_7_code 12 = .ok (.lload_n 0, 1) := by decide +kernel
theorem own_d1_13 : decode prog_1_method_7_code 13 = .ok (.lreturn, 1) := by decide +kernel
theorem own_pn1 : plainName "com/example/firm_query/firmquery/ArraySlice" = true := by first | (simp [plainName, overriddenIn]; done) | decide +kernel
theorem own_ef1 (m : MethodId) (x0 : Int64) (x1 : Int64) : entryFrame m #[(.long x0), (.long x1)] 4 = (mkF m 0 #[.val (.long x0), .second, .val (.long x1), .second] []) := by first | (simp [entryFrame, mkF, argsToLocals, Value.category]; done) | rfl
def own_f1 (q0 : Int64) (q1 : Int64) : Int64 := (if q0 < (0 : Int64) then (q1 + q0) else q0)
def own_Q1 (Z : State) (q0 : Int64) (q1 : Int64) (h0 : Heap) (n0 : Nat) (v : Option Value) (h : Heap) (L : List Loc) : Prop := v = some (.long (own_f1 q0 q1)) ∧ Fr n0 L ∧ h = h0
set_option maxRecDepth 65536 in
set_option maxHeartbeats 40000000 in
theorem own_rm1 (l : Launch) (Z : State) (a0 : Array Value) (hw : ∀ d ∈ tables_1, d.before a0 Z = true) (ws : List Jvm.Cond) (q0 : Int64) (q1 : Int64) (h0 : Heap) (n0 : Nat) (Z0 : n0 ≤ h0.size) :
    MetFree l (⟨"com/example/firm_query/firmquery/ArraySlice", "normalize", "(JJ)J"⟩ : MethodName) (head1 (Jvm.Cond.code (⟨"com/example/firm_query/firmquery/ArraySlice", "normalize", "(JJ)J"⟩ : MethodName) prog_1_method_7_code 4 (some .long) :: ws) ({ frames := 0, cells := 0, slots := 0, locals := 0 } : Room)) (fun a U => a = #[(.long q0), (.long q1)] ∧ Z.Warmed39 U.vm ∧ U.heap = h0) (fun _ _ _ _ _ => True) (fun _ U o U' => ∃ v L, o = .returned v ∧ own_Q1 Z q0 q1 h0 n0 v U'.heap L ∧ FrameEnd U o U' L ({ frames := 0, cells := 0, slots := 0, locals := 0 } : Room).cells ({ frames := 0, cells := 0, slots := 0, locals := 0 } : Room).slots) := by
  refine MetFree.of_bodySF (plainFor_of_name own_pn1) hisR ?_
  intro p e s m args below meth c s₁ Bd hml0 hP hK
  obtain ⟨rfl, hZ, hh⟩ := hP
  have hx := Bd.exec
  have hlk : meth.locks = false := BodyLoose.notSynchronized Bd
  have hby := Bd.bytes
  have hml : c.maxLocals = 4 := hml0
  have hown : s.vm.findClass "com/example/firm_query/firmquery/ArraySlice" = some m.cls := findClass_of_methodNamed Bd.named
  have hnm := (name_of_methodNamed Bd.named Bd.method).1
  have X0 : Stand p l e ({ frames := 0, cells := 0, slots := 0, locals := 0 } : Room) s m #[(.long q0), (.long q1)] below meth c s₁ [] 0 0 := Stand.of_body Bd
  have e0 : s₁.heap = h0 := by rw [← hh, Bd.state]; rfl
  have N0 := Fr.nil n0
  have pre0 : ∀ t, Steps p.tables e below (s₁.setTop (mkF m 0 #[.val (.long q0), .second, .val (.long q1), .second] [])) t → Steps p.tables e below (s₁.setTop (entryFrame m #[(.long q0), (.long q1)] 4)) t := fun t k => castTop (own_ef1 m q0 q1) k
  have pre1 : ∀ t, Steps p.tables e below (s₁.setTop (mkF m 3 #[.val (.long q0), .second, .val (.long q1), .second] [(.int (lcmpW q0 (0 : Int64)))])) t → Steps p.tables e below (s₁.setTop (entryFrame m #[(.long q0), (.long q1)] 4)) t := fun t k => pre0 t (by
      refine XS.lloadN X0.here hx rfl (hb hby own_d1_0) rfl ?_
      show Steps p.tables e below (s₁.setTop (mkF m 1 #[.val (.long q0), .second, .val (.long q1), .second] [(.long q0)])) _
      refine XS.lconst X0.here hx rfl (hb hby own_d1_1) ?_
      show Steps p.tables e below (s₁.setTop (mkF m 2 #[.val (.long q0), .second, .val (.long q1), .second] [(.long (0 : Int64)), (.long q0)])) _
      refine XS.lcmp X0.here hx rfl (hb hby own_d1_2) rfl ?_
      show Steps p.tables e below (s₁.setTop (mkF m 3 #[.val (.long q0), .second, .val (.long q1), .second] [(.int (lcmpW q0 (0 : Int64)))])) _
      exact k)
  by_cases hc2 : q0 < (0 : Int64)
  · have pre3 : ∀ t, Steps p.tables e below (s₁.setTop (mkF m 13 #[.val (.long q0), .second, .val (.long q1), .second] [(.long (q1 + q0))])) t → Steps p.tables e below (s₁.setTop (entryFrame m #[(.long q0), (.long q1)] 4)) t := fun t k => pre1 t (by
        refine XS.ifNo X0.here hx rfl (hb hby own_d1_3) rfl ((if0 _ _).trans (tlt ((own_lw_lt _ _).mpr hc2)).2.1) ?_
        show Steps p.tables e below (s₁.setTop (mkF m 6 #[.val (.long q0), .second, .val (.long q1), .second] [])) _
        refine XS.lloadN X0.here hx rfl (hb hby own_d1_6) rfl ?_
        show Steps p.tables e below (s₁.setTop (mkF m 7 #[.val (.long q0), .second, .val (.long q1), .second] [(.long q1)])) _
        refine XS.lloadN X0.here hx rfl (hb hby own_d1_7) rfl ?_
        show Steps p.tables e below (s₁.setTop (mkF m 8 #[.val (.long q0), .second, .val (.long q1), .second] [(.long q0), (.long q1)])) _
        refine XS.ladd X0.here hx rfl (hb hby own_d1_8) rfl ?_
        show Steps p.tables e below (s₁.setTop (mkF m 9 #[.val (.long q0), .second, .val (.long q1), .second] [(.long (q1 + q0))])) _
        refine XS.goto X0.here hx rfl (pc0 := 9) (pc' := 13) rfl (hb hby own_d1_9) (by decide) (by decide) ?_
        show Steps p.tables e below (s₁.setTop (mkF m 13 #[.val (.long q0), .second, .val (.long q1), .second] [(.long (q1 + q0))])) _
        exact k)
    obtain ⟨fs, hr, hrun, hended, hW, hsame⟩ := X0.leave (v := some (.long (q1 + q0))) (fun h => by rw [Bd.returns] at h; cases h) (hlocks := hlk)
    refine ⟨_, _, pre3 _ ?_, hrun, hended, _, _, rfl, ?_, ⟨_, rfl⟩, hW, hsame.mono (by decide) (by decide)⟩
    · show Steps p.tables e below (s₁.setTop (mkF m 13 #[.val (.long q0), .second, .val (.long q1), .second] [(.long (q1 + q0))])) _
      exact own_retJ X0 hx Bd.returns (hb hby own_d1_13) hr
    · show own_Q1 Z q0 q1 h0 n0 _ s₁.heap _; rw [e0]; exact ⟨(by show some (Value.long _) = some (.long (own_f1 q0 q1)); unfold own_f1; rw [if_pos hc2]), N0, rfl⟩
  · have pre4 : ∀ t, Steps p.tables e below (s₁.setTop (mkF m 13 #[.val (.long q0), .second, .val (.long q1), .second] [(.long q0)])) t → Steps p.tables e below (s₁.setTop (entryFrame m #[(.long q0), (.long q1)] 4)) t := fun t k => pre1 t (by
        refine XS.ifYes X0.here hx rfl (pc0 := 3) (pc' := 12) rfl (hb hby own_d1_3) rfl ((if0 _ _).trans (flt (mt (own_lw_lt _ _).mp hc2)).2.1) (by decide) (by decide) ?_
        show Steps p.tables e below (s₁.setTop (mkF m 12 #[.val (.long q0), .second, .val (.long q1), .second] [])) _
        refine XS.lloadN X0.here hx rfl (hb hby own_d1_12) rfl ?_
        show Steps p.tables e below (s₁.setTop (mkF m 13 #[.val (.long q0), .second, .val (.long q1), .second] [(.long q0)])) _
        exact k)
    obtain ⟨fs, hr, hrun, hended, hW, hsame⟩ := X0.leave (v := some (.long q0)) (fun h => by rw [Bd.returns] at h; cases h) (hlocks := hlk)
    refine ⟨_, _, pre4 _ ?_, hrun, hended, _, _, rfl, ?_, ⟨_, rfl⟩, hW, hsame.mono (by decide) (by decide)⟩
    · show Steps p.tables e below (s₁.setTop (mkF m 13 #[.val (.long q0), .second, .val (.long q1), .second] [(.long q0)])) _
      exact own_retJ X0 hx Bd.returns (hb hby own_d1_13) hr
    · show own_Q1 Z q0 q1 h0 n0 _ s₁.heap _; rw [e0]; exact ⟨(by show some (Value.long _) = some (.long (own_f1 q0 q1)); unfold own_f1; rw [if_neg hc2]), N0, rfl⟩
theorem own_pd0 : parseMethodDescriptor "(JJ)J" = some ⟨[.long, .long], some .long⟩ := by decide +kernel
theorem own_pn0 : plainName "com/example/firm_query/firmquery/ArraySliceNormalizePinLaw" = true := by first | (simp [plainName, overriddenIn]; done) | decide +kernel
theorem own_ef0 (m : MethodId) (x0 : Int64) (x1 : Int32) (x2 : Int32) : entryFrame m #[(.long x0), (.int x1), (.int x2)] maxLocals = (mkF m 0 #[.val (.long x0), .second, .val (.int x1), .val (.int x2), .unset, .unset, .unset, .unset, .unset, .unset, .unset, .unset, .unset] []) := by first | (simp [entryFrame, mkF, argsToLocals, Value.category, maxLocals]; done) | rfl
def own_v0_5_0 (p1 : Int32) : Int64 := ((p1 &&& (2147483647 : Int32)).toInt64)
def own_v0_21_1 (q0 : Int64) : Int64 := (q0 >>> ((10 : Int32) &&& 0x3f).toInt64)
def own_v0_74_2 (q0 : Int64) (p1 : Int32) : Int64 := (own_f1 (own_v0_21_1 q0) (own_v0_5_0 p1))
def own_v0_137_3 (q0 : Int64) (p1 : Int32) : Int64 := (own_f1 ((own_v0_21_1 q0) + (own_v0_5_0 p1)) (own_v0_5_0 p1))
def own_v0_41_4 (q0 : Int64) (p1 : Int32) : Int64 := ((-(own_v0_5_0 p1)) + (q0 - (q0 / (3 : Int64)) * (3 : Int64)))
def own_v0_74_5 (q0 : Int64) (p1 : Int32) : Int64 := (own_f1 (own_v0_41_4 q0 p1) (own_v0_5_0 p1))
def own_v0_137_6 (q0 : Int64) (p1 : Int32) : Int64 := (own_f1 ((own_v0_41_4 q0 p1) + (own_v0_5_0 p1)) (own_v0_5_0 p1))
def own_v0_57_7 (q0 : Int64) : Int64 := (q0 - (q0 / (3 : Int64)) * (3 : Int64))
def own_v0_74_8 (q0 : Int64) (p1 : Int32) : Int64 := (own_f1 (own_v0_57_7 q0) (own_v0_5_0 p1))
def own_v0_137_9 (q0 : Int64) (p1 : Int32) : Int64 := (own_f1 ((own_v0_57_7 q0) + (own_v0_5_0 p1)) (own_v0_5_0 p1))
def own_v0_74_10 (p1 : Int32) : Int64 := (own_f1 (-1 : Int64) (own_v0_5_0 p1))
def own_v0_137_11 (p1 : Int32) : Int64 := (own_f1 ((-1 : Int64) + (own_v0_5_0 p1)) (own_v0_5_0 p1))
def own_f0 (q0 : Int64) (p1 : Int32) (p2 : Int32) : Int32 := (if (p2 &&& (3 : Int32)) = (0 : Int32) then (if (own_v0_21_1 q0) < (0 : Int64) then (if (own_v0_74_2 q0 p1) = ((own_v0_5_0 p1) + (own_v0_21_1 q0)) then (if (own_v0_74_2 q0 p1) < (own_v0_5_0 p1) then (if (own_v0_21_1 q0) < (-(own_v0_5_0 p1)) then (if (own_v0_74_2 q0 p1) < (0 : Int64) then (1 : Int32) else (0 : Int32)) else (if (own_v0_74_2 q0 p1) = (own_v0_137_3 q0 p1) then (if (own_v0_74_2 q0 p1) < (0 : Int64) then (0 : Int32) else (1 : Int32)) else (0 : Int32))) else (0 : Int32)) else (0 : Int32)) else (if (own_v0_74_2 q0 p1) = (own_v0_21_1 q0) then (1 : Int32) else (0 : Int32))) else (if (p2 &&& (3 : Int32)) = (1 : Int32) then (if (own_v0_41_4 q0 p1) < (0 : Int64) then (if (own_v0_74_5 q0 p1) = ((own_v0_5_0 p1) + (own_v0_41_4 q0 p1)) then (if (own_v0_74_5 q0 p1) < (own_v0_5_0 p1) then (if (own_v0_41_4 q0 p1) < (-(own_v0_5_0 p1)) then (if (own_v0_74_5 q0 p1) < (0 : Int64) then (1 : Int32) else (0 : Int32)) else (if (own_v0_74_5 q0 p1) = (own_v0_137_6 q0 p1) then (if (own_v0_74_5 q0 p1) < (0 : Int64) then (0 : Int32) else (1 : Int32)) else (0 : Int32))) else (0 : Int32)) else (0 : Int32)) else (if (own_v0_74_5 q0 p1) = (own_v0_41_4 q0 p1) then (1 : Int32) else (0 : Int32))) else (if (p2 &&& (3 : Int32)) = (2 : Int32) then (if (own_v0_57_7 q0) < (0 : Int64) then (if (own_v0_74_8 q0 p1) = ((own_v0_5_0 p1) + (own_v0_57_7 q0)) then (if (own_v0_74_8 q0 p1) < (own_v0_5_0 p1) then (if (own_v0_57_7 q0) < (-(own_v0_5_0 p1)) then (if (own_v0_74_8 q0 p1) < (0 : Int64) then (1 : Int32) else (0 : Int32)) else (if (own_v0_74_8 q0 p1) = (own_v0_137_9 q0 p1) then (if (own_v0_74_8 q0 p1) < (0 : Int64) then (0 : Int32) else (1 : Int32)) else (0 : Int32))) else (0 : Int32)) else (0 : Int32)) else (if (own_v0_74_8 q0 p1) = (own_v0_57_7 q0) then (1 : Int32) else (0 : Int32))) else (if (own_v0_74_10 p1) = ((own_v0_5_0 p1) + (-1 : Int64)) then (if (own_v0_74_10 p1) < (own_v0_5_0 p1) then (if (-1 : Int64) < (-(own_v0_5_0 p1)) then (if (own_v0_74_10 p1) < (0 : Int64) then (1 : Int32) else (0 : Int32)) else (if (own_v0_74_10 p1) = (own_v0_137_11 p1) then (if (own_v0_74_10 p1) < (0 : Int64) then (0 : Int32) else (1 : Int32)) else (0 : Int32))) else (0 : Int32)) else (0 : Int32)))))
def own_Q0 (Z : State) (q0 : Int64) (p1 : Int32) (p2 : Int32) (h0 : Heap) (n0 : Nat) (v : Option Value) (h : Heap) (L : List Loc) : Prop := v = some (.int (own_f0 q0 p1 p2)) ∧ Fr n0 L
set_option maxRecDepth 65536 in
set_option maxHeartbeats 40000000 in
theorem own_rm0 (l : Launch) (Z : State) (a0 : Array Value) (hw : ∀ d ∈ tables_1, d.before a0 Z = true) (ws : List Jvm.Cond) (q0 : Int64) (p1 : Int32) (p2 : Int32) (h0 : Heap) (n0 : Nat) (Z0 : n0 ≤ h0.size) :
    MetFree l x (head1 (Jvm.Cond.code x code maxLocals ret :: ws) room_1) (fun a U => a = #[(.long q0), (.int p1), (.int p2)] ∧ Z.Warmed39 U.vm ∧ U.heap = h0) (fun _ _ _ _ _ => True) (fun _ U o U' => ∃ v L, o = .returned v ∧ own_Q0 Z q0 p1 p2 h0 n0 v U'.heap L ∧ FrameEnd U o U' L room_1.cells room_1.slots) := by
  refine MetFree.of_bodySF (plainFor_of_name own_pn0) hisR ?_
  intro p e s m args below meth c s₁ Bd hml0 hP hK
  obtain ⟨rfl, hZ, hh⟩ := hP
  have hx := Bd.exec
  have hlk : meth.locks = false := BodyLoose.notSynchronized Bd
  have hby := Bd.bytes
  have hml : c.maxLocals = 13 := hml0
  have hown : s.vm.findClass "com/example/firm_query/firmquery/ArraySliceNormalizePinLaw" = some m.cls := findClass_of_methodNamed Bd.named
  have hnm := (name_of_methodNamed Bd.named Bd.method).1
  have X0 : Stand p l e room_1 s m #[(.long q0), (.int p1), (.int p2)] below meth c s₁ [] 0 0 := Stand.of_body Bd
  have e0 : s₁.heap = h0 := by rw [← hh, Bd.state]; rfl
  have N0 := Fr.nil n0
  have pre0 : ∀ t, Steps p.tables e below (s₁.setTop (mkF m 0 #[.val (.long q0), .second, .val (.int p1), .val (.int p2), .unset, .unset, .unset, .unset, .unset, .unset, .unset, .unset, .unset] [])) t → Steps p.tables e below (s₁.setTop (entryFrame m #[(.long q0), (.int p1), (.int p2)] maxLocals)) t := fun t k => castTop (own_ef0 m q0 p1 p2) k
  have pre1 : ∀ t, Steps p.tables e below (s₁.setTop (mkF m 14 #[.val (.long q0), .second, .val (.int p1), .val (.int p2), .val (.long (own_v0_5_0 p1)), .second, .val (.int (p2 &&& (3 : Int32))), .unset, .unset, .unset, .unset, .unset, .unset] [(.int (p2 &&& (3 : Int32)))])) t → Steps p.tables e below (s₁.setTop (entryFrame m #[(.long q0), (.int p1), (.int p2)] maxLocals)) t := fun t k => pre0 t (by
      refine XS.iloadN X0.here hx rfl (hb hby at_0) rfl ?_
      show Steps p.tables e below (s₁.setTop (mkF m 1 #[.val (.long q0), .second, .val (.int p1), .val (.int p2), .unset, .unset, .unset, .unset, .unset, .unset, .unset, .unset, .unset] [(.int p1)])) _
      refine X0.ldcInt hx hown (mvT hZ (hw _ (List.mem_of_getElem? (i := 0) rfl))) (g := (mkF m 1 #[.val (.long q0), .second, .val (.int p1), .val (.int p2), .unset, .unset, .unset, .unset, .unset, .unset, .unset, .unset, .unset] [(.int p1)])) rfl (hb hby at_1) _ ?_
      show Steps p.tables e below (s₁.setTop (mkF m 3 #[.val (.long q0), .second, .val (.int p1), .val (.int p2), .unset, .unset, .unset, .unset, .unset, .unset, .unset, .unset, .unset] [(.int (2147483647 : Int32)), (.int p1)])) _
      refine XS.iand X0.here hx rfl (hb hby at_3) rfl ?_
      show Steps p.tables e below (s₁.setTop (mkF m 4 #[.val (.long q0), .second, .val (.int p1), .val (.int p2), .unset, .unset, .unset, .unset, .unset, .unset, .unset, .unset, .unset] [(.int (p1 &&& (2147483647 : Int32)))])) _
      refine XS.i2l X0.here hx rfl (hb hby at_4) rfl ?_
      show Steps p.tables e below (s₁.setTop (mkF m 5 #[.val (.long q0), .second, .val (.int p1), .val (.int p2), .unset, .unset, .unset, .unset, .unset, .unset, .unset, .unset, .unset] [(.long ((p1 &&& (2147483647 : Int32)).toInt64))])) _
      refine XS.lstore X0.here hx rfl (hb hby at_5) rfl (l' := #[.val (.long q0), .second, .val (.int p1), .val (.int p2), .val (.long (own_v0_5_0 p1)), .second, .unset, .unset, .unset, .unset, .unset, .unset, .unset]) rfl ?_
      show Steps p.tables e below (s₁.setTop (mkF m 7 #[.val (.long q0), .second, .val (.int p1), .val (.int p2), .val (.long (own_v0_5_0 p1)), .second, .unset, .unset, .unset, .unset, .unset, .unset, .unset] [])) _
      refine XS.iloadN X0.here hx rfl (hb hby at_7) rfl ?_
      show Steps p.tables e below (s₁.setTop (mkF m 8 #[.val (.long q0), .second, .val (.int p1), .val (.int p2), .val (.long (own_v0_5_0 p1)), .second, .unset, .unset, .unset, .unset, .unset, .unset, .unset] [(.int p2)])) _
      refine XS.iconst X0.here hx rfl (hb hby at_8) ?_
      show Steps p.tables e below (s₁.setTop (mkF m 9 #[.val (.long q0), .second, .val (.int p1), .val (.int p2), .val (.long (own_v0_5_0 p1)), .second, .unset, .unset, .unset, .unset, .unset, .unset, .unset] [(.int (3 : Int32)), (.int p2)])) _
      refine XS.iand X0.here hx rfl (hb hby at_9) rfl ?_
      show Steps p.tables e below (s₁.setTop (mkF m 10 #[.val (.long q0), .second, .val (.int p1), .val (.int p2), .val (.long (own_v0_5_0 p1)), .second, .unset, .unset, .unset, .unset, .unset, .unset, .unset] [(.int (p2 &&& (3 : Int32)))])) _
      refine XS.istore X0.here hx rfl (hb hby at_10) rfl (l' := #[.val (.long q0), .second, .val (.int p1), .val (.int p2), .val (.long (own_v0_5_0 p1)), .second, .val (.int (p2 &&& (3 : Int32))), .unset, .unset, .unset, .unset, .unset, .unset]) rfl ?_
      show Steps p.tables e below (s₁.setTop (mkF m 12 #[.val (.long q0), .second, .val (.int p1), .val (.int p2), .val (.long (own_v0_5_0 p1)), .second, .val (.int (p2 &&& (3 : Int32))), .unset, .unset, .unset, .unset, .unset, .unset] [])) _
      refine XS.iload X0.here hx rfl (hb hby at_12) rfl ?_
      show Steps p.tables e below (s₁.setTop (mkF m 14 #[.val (.long q0), .second, .val (.int p1), .val (.int p2), .val (.long (own_v0_5_0 p1)), .second, .val (.int (p2 &&& (3 : Int32))), .unset, .unset, .unset, .unset, .unset, .unset] [(.int (p2 &&& (3 : Int32)))])) _
      exact k)
  by_cases hc2 : (p2 &&& (3 : Int32)) = (0 : Int32)
  · obtain ⟨_, _, ⟨T3, L3, k3, n3⟩, -, X3, ⟨Lc3, hQ3, l3, y3, z3⟩, st3⟩ := Jvm.LawKit.callS X0 hx (y := (⟨"com/example/firm_query/firmquery/ArraySlice", "normalize", "(JJ)J"⟩ : MethodName)) hown (mvT hZ (hw _ (List.mem_of_getElem? (i := 2) rfl))) (mvT hZ (hw _ (List.mem_of_getElem? (i := 3) rfl))) (mvT hZ (hw _ (List.mem_of_getElem? (i := 4) rfl))) (mvT hZ (hw _ (List.mem_of_getElem? (i := 5) rfl))) (by decide) (backOf (W := 0) (own_rm1 l Z a0 hw [] (own_v0_21_1 q0) (own_v0_5_0 p1) h0 n0 Z0 ) hZ (hw _ (List.mem_of_getElem? (i := 5) rfl)) (hw _ (List.mem_of_getElem? (i := 4) rfl)) (by decide) (by decide)) (g := (mkF m 71 #[.val (.long q0), .second, .val (.int p1), .val (.int p2), .val (.long (own_v0_5_0 p1)), .second, .val (.int (p2 &&& (3 : Int32))), .val (.long (own_v0_21_1 q0)), .second, .unset, .unset, .unset, .unset] [(.long (own_v0_5_0 p1)), (.long (own_v0_21_1 q0))])) rfl (by rw [hml]; rfl) (argsL := [(.long (own_v0_21_1 q0)), (.long (own_v0_5_0 p1))]) (rest := []) (lenOf own_pd0 rfl) rfl (by show 2 * 0 + _ ≤ _; exact Nat.le_of_eq rfl) (hb hby at_71) (fun _ _ => ⟨rfl, e0, (by decide : 0 + 0 ≤ _), (by decide : 0 + 0 ≤ _)⟩)
    dsimp only [Pt.U, Pt.locs, Pt.cells, Pt.slots] at X3 l3 y3 z3 st3 hQ3
    subst l3 y3 z3
    obtain ⟨rfl, N3q, e3⟩ := hQ3
    have N4 := Fr.app N0 N3q
    have pre5 : ∀ t, Steps p.tables e below (T3.setTop (mkF m 80 #[.val (.long q0), .second, .val (.int p1), .val (.int p2), .val (.long (own_v0_5_0 p1)), .second, .val (.int (p2 &&& (3 : Int32))), .val (.long (own_v0_21_1 q0)), .second, .val (.long (own_v0_74_2 q0 p1)), .second, .unset, .unset] [(.int (lcmpW (own_v0_21_1 q0) (0 : Int64)))])) t → Steps p.tables e below (s₁.setTop (entryFrame m #[(.long q0), (.int p1), (.int p2)] maxLocals)) t := fun t k => pre1 t (by
        refine XS.ifNo X0.here hx rfl (hb hby at_14) rfl ((if0 _ _).trans (teq hc2).2) ?_
        show Steps p.tables e below (s₁.setTop (mkF m 17 #[.val (.long q0), .second, .val (.int p1), .val (.int p2), .val (.long (own_v0_5_0 p1)), .second, .val (.int (p2 &&& (3 : Int32))), .unset, .unset, .unset, .unset, .unset, .unset] [])) _
        refine XS.lloadN X0.here hx rfl (hb hby at_17) rfl ?_
        show Steps p.tables e below (s₁.setTop (mkF m 18 #[.val (.long q0), .second, .val (.int p1), .val (.int p2), .val (.long (own_v0_5_0 p1)), .second, .val (.int (p2 &&& (3 : Int32))), .unset, .unset, .unset, .unset, .unset, .unset] [(.long q0)])) _
        refine XS.bipush X0.here hx rfl (hb hby at_18) ?_
        show Steps p.tables e below (s₁.setTop (mkF m 20 #[.val (.long q0), .second, .val (.int p1), .val (.int p2), .val (.long (own_v0_5_0 p1)), .second, .val (.int (p2 &&& (3 : Int32))), .unset, .unset, .unset, .unset, .unset, .unset] [(.int (10 : Int32)), (.long q0)])) _
        refine XS.lshr X0.here hx rfl (hb hby at_20) rfl ?_
        show Steps p.tables e below (s₁.setTop (mkF m 21 #[.val (.long q0), .second, .val (.int p1), .val (.int p2), .val (.long (own_v0_5_0 p1)), .second, .val (.int (p2 &&& (3 : Int32))), .unset, .unset, .unset, .unset, .unset, .unset] [(.long (q0 >>> ((10 : Int32) &&& 0x3f).toInt64))])) _
        refine XS.lstore X0.here hx rfl (hb hby at_21) rfl (l' := #[.val (.long q0), .second, .val (.int p1), .val (.int p2), .val (.long (own_v0_5_0 p1)), .second, .val (.int (p2 &&& (3 : Int32))), .val (.long (own_v0_21_1 q0)), .second, .unset, .unset, .unset, .unset]) rfl ?_
        show Steps p.tables e below (s₁.setTop (mkF m 23 #[.val (.long q0), .second, .val (.int p1), .val (.int p2), .val (.long (own_v0_5_0 p1)), .second, .val (.int (p2 &&& (3 : Int32))), .val (.long (own_v0_21_1 q0)), .second, .unset, .unset, .unset, .unset] [])) _
        refine XS.goto X0.here hx rfl (pc0 := 23) (pc' := 67) rfl (hb hby at_23) (by decide) (by decide) ?_
        show Steps p.tables e below (s₁.setTop (mkF m 67 #[.val (.long q0), .second, .val (.int p1), .val (.int p2), .val (.long (own_v0_5_0 p1)), .second, .val (.int (p2 &&& (3 : Int32))), .val (.long (own_v0_21_1 q0)), .second, .unset, .unset, .unset, .unset] [])) _
        refine XS.lload X0.here hx rfl (hb hby at_67) rfl ?_
        show Steps p.tables e below (s₁.setTop (mkF m 69 #[.val (.long q0), .second, .val (.int p1), .val (.int p2), .val (.long (own_v0_5_0 p1)), .second, .val (.int (p2 &&& (3 : Int32))), .val (.long (own_v0_21_1 q0)), .second, .unset, .unset, .unset, .unset] [(.long (own_v0_21_1 q0))])) _
        refine XS.lload X0.here hx rfl (hb hby at_69) rfl ?_
        show Steps p.tables e below (s₁.setTop (mkF m 71 #[.val (.long q0), .second, .val (.int p1), .val (.int p2), .val (.long (own_v0_5_0 p1)), .second, .val (.int (p2 &&& (3 : Int32))), .val (.long (own_v0_21_1 q0)), .second, .unset, .unset, .unset, .unset] [(.long (own_v0_5_0 p1)), (.long (own_v0_21_1 q0))])) _
        refine st3 _ ?_
        show Steps p.tables e below (T3.setTop (mkF m 74 #[.val (.long q0), .second, .val (.int p1), .val (.int p2), .val (.long (own_v0_5_0 p1)), .second, .val (.int (p2 &&& (3 : Int32))), .val (.long (own_v0_21_1 q0)), .second, .unset, .unset, .unset, .unset] [(.long (own_f1 (own_v0_21_1 q0) (own_v0_5_0 p1)))])) _
        refine XS.lstore X3.here hx rfl (hb hby at_74) rfl (l' := #[.val (.long q0), .second, .val (.int p1), .val (.int p2), .val (.long (own_v0_5_0 p1)), .second, .val (.int (p2 &&& (3 : Int32))), .val (.long (own_v0_21_1 q0)), .second, .val (.long (own_v0_74_2 q0 p1)), .second, .unset, .unset]) rfl ?_
        show Steps p.tables e below (T3.setTop (mkF m 76 #[.val (.long q0), .second, .val (.int p1), .val (.int p2), .val (.long (own_v0_5_0 p1)), .second, .val (.int (p2 &&& (3 : Int32))), .val (.long (own_v0_21_1 q0)), .second, .val (.long (own_v0_74_2 q0 p1)), .second, .unset, .unset] [])) _
        refine XS.lload X3.here hx rfl (hb hby at_76) rfl ?_
        show Steps p.tables e below (T3.setTop (mkF m 78 #[.val (.long q0), .second, .val (.int p1), .val (.int p2), .val (.long (own_v0_5_0 p1)), .second, .val (.int (p2 &&& (3 : Int32))), .val (.long (own_v0_21_1 q0)), .second, .val (.long (own_v0_74_2 q0 p1)), .second, .unset, .unset] [(.long (own_v0_21_1 q0))])) _
        refine XS.lconst X3.here hx rfl (hb hby at_78) ?_
        show Steps p.tables e below (T3.setTop (mkF m 79 #[.val (.long q0), .second, .val (.int p1), .val (.int p2), .val (.long (own_v0_5_0 p1)), .second, .val (.int (p2 &&& (3 : Int32))), .val (.long (own_v0_21_1 q0)), .second, .val (.long (own_v0_74_2 q0 p1)), .second, .unset, .unset] [(.long (0 : Int64)), (.long (own_v0_21_1 q0))])) _
        refine XS.lcmp X3.here hx rfl (hb hby at_79) rfl ?_
        show Steps p.tables e below (T3.setTop (mkF m 80 #[.val (.long q0), .second, .val (.int p1), .val (.int p2), .val (.long (own_v0_5_0 p1)), .second, .val (.int (p2 &&& (3 : Int32))), .val (.long (own_v0_21_1 q0)), .second, .val (.long (own_v0_74_2 q0 p1)), .second, .unset, .unset] [(.int (lcmpW (own_v0_21_1 q0) (0 : Int64)))])) _
        exact k)
    by_cases hc6 : (own_v0_21_1 q0) < (0 : Int64)
    · have pre7 : ∀ t, Steps p.tables e below (T3.setTop (mkF m 105 #[.val (.long q0), .second, .val (.int p1), .val (.int p2), .val (.long (own_v0_5_0 p1)), .second, .val (.int (p2 &&& (3 : Int32))), .val (.long (own_v0_21_1 q0)), .second, .val (.long (own_v0_74_2 q0 p1)), .second, .unset, .unset] [(.int (lcmpW (own_v0_74_2 q0 p1) ((own_v0_5_0 p1) + (own_v0_21_1 q0))))])) t → Steps p.tables e below (s₁.setTop (entryFrame m #[(.long q0), (.int p1), (.int p2)] maxLocals)) t := fun t k => pre5 t (by
          refine XS.ifYes X3.here hx rfl (pc0 := 80) (pc' := 97) rfl (hb hby at_80) rfl ((if0 _ _).trans (tlt ((own_lw_lt _ _).mpr hc6)).1) (by decide) (by decide) ?_
          show Steps p.tables e below (T3.setTop (mkF m 97 #[.val (.long q0), .second, .val (.int p1), .val (.int p2), .val (.long (own_v0_5_0 p1)), .second, .val (.int (p2 &&& (3 : Int32))), .val (.long (own_v0_21_1 q0)), .second, .val (.long (own_v0_74_2 q0 p1)), .second, .unset, .unset] [])) _
          refine XS.lload X3.here hx rfl (hb hby at_97) rfl ?_
          show Steps p.tables e below (T3.setTop (mkF m 99 #[.val (.long q0), .second, .val (.int p1), .val (.int p2), .val (.long (own_v0_5_0 p1)), .second, .val (.int (p2 &&& (3 : Int32))), .val (.long (own_v0_21_1 q0)), .second, .val (.long (own_v0_74_2 q0 p1)), .second, .unset, .unset] [(.long (own_v0_74_2 q0 p1))])) _
          refine XS.lload X3.here hx rfl (hb hby at_99) rfl ?_
          show Steps p.tables e below (T3.setTop (mkF m 101 #[.val (.long q0), .second, .val (.int p1), .val (.int p2), .val (.long (own_v0_5_0 p1)), .second, .val (.int (p2 &&& (3 : Int32))), .val (.long (own_v0_21_1 q0)), .second, .val (.long (own_v0_74_2 q0 p1)), .second, .unset, .unset] [(.long (own_v0_5_0 p1)), (.long (own_v0_74_2 q0 p1))])) _
          refine XS.lload X3.here hx rfl (hb hby at_101) rfl ?_
          show Steps p.tables e below (T3.setTop (mkF m 103 #[.val (.long q0), .second, .val (.int p1), .val (.int p2), .val (.long (own_v0_5_0 p1)), .second, .val (.int (p2 &&& (3 : Int32))), .val (.long (own_v0_21_1 q0)), .second, .val (.long (own_v0_74_2 q0 p1)), .second, .unset, .unset] [(.long (own_v0_21_1 q0)), (.long (own_v0_5_0 p1)), (.long (own_v0_74_2 q0 p1))])) _
          refine XS.ladd X3.here hx rfl (hb hby at_103) rfl ?_
          show Steps p.tables e below (T3.setTop (mkF m 104 #[.val (.long q0), .second, .val (.int p1), .val (.int p2), .val (.long (own_v0_5_0 p1)), .second, .val (.int (p2 &&& (3 : Int32))), .val (.long (own_v0_21_1 q0)), .second, .val (.long (own_v0_74_2 q0 p1)), .second, .unset, .unset] [(.long ((own_v0_5_0 p1) + (own_v0_21_1 q0))), (.long (own_v0_74_2 q0 p1))])) _
          refine XS.lcmp X3.here hx rfl (hb hby at_104) rfl ?_
          show Steps p.tables e below (T3.setTop (mkF m 105 #[.val (.long q0), .second, .val (.int p1), .val (.int p2), .val (.long (own_v0_5_0 p1)), .second, .val (.int (p2 &&& (3 : Int32))), .val (.long (own_v0_21_1 q0)), .second, .val (.long (own_v0_74_2 q0 p1)), .second, .unset, .unset] [(.int (lcmpW (own_v0_74_2 q0 p1) ((own_v0_5_0 p1) + (own_v0_21_1 q0))))])) _
          exact k)
      by_cases hc8 : (own_v0_74_2 q0 p1) = ((own_v0_5_0 p1) + (own_v0_21_1 q0))
      · have pre9 : ∀ t, Steps p.tables e below (T3.setTop (mkF m 113 #[.val (.long q0), .second, .val (.int p1), .val (.int p2), .val (.long (own_v0_5_0 p1)), .second, .val (.int (p2 &&& (3 : Int32))), .val (.long (own_v0_21_1 q0)), .second, .val (.long (own_v0_74_2 q0 p1)), .second, .unset, .unset] [(.int (lcmpW (own_v0_74_2 q0 p1) (own_v0_5_0 p1)))])) t → Steps p.tables e below (s₁.setTop (entryFrame m #[(.long q0), (.int p1), (.int p2)] maxLocals)) t := fun t k => pre7 t (by
            refine XS.ifNo X3.here hx rfl (hb hby at_105) rfl ((if0 _ _).trans (teq ((own_lw_eq _ _).mpr hc8)).2) ?_
            show Steps p.tables e below (T3.setTop (mkF m 108 #[.val (.long q0), .second, .val (.int p1), .val (.int p2), .val (.long (own_v0_5_0 p1)), .second, .val (.int (p2 &&& (3 : Int32))), .val (.long (own_v0_21_1 q0)), .second, .val (.long (own_v0_74_2 q0 p1)), .second, .unset, .unset] [])) _
            refine XS.lload X3.here hx rfl (hb hby at_108) rfl ?_
            show Steps p.tables e below (T3.setTop (mkF m 110 #[.val (.long q0), .second, .val (.int p1), .val (.int p2), .val (.long (own_v0_5_0 p1)), .second, .val (.int (p2 &&& (3 : Int32))), .val (.long (own_v0_21_1 q0)), .second, .val (.long (own_v0_74_2 q0 p1)), .second, .unset, .unset] [(.long (own_v0_74_2 q0 p1))])) _
            refine XS.lload X3.here hx rfl (hb hby at_110) rfl ?_
            show Steps p.tables e below (T3.setTop (mkF m 112 #[.val (.long q0), .second, .val (.int p1), .val (.int p2), .val (.long (own_v0_5_0 p1)), .second, .val (.int (p2 &&& (3 : Int32))), .val (.long (own_v0_21_1 q0)), .second, .val (.long (own_v0_74_2 q0 p1)), .second, .unset, .unset] [(.long (own_v0_5_0 p1)), (.long (own_v0_74_2 q0 p1))])) _
            refine XS.lcmp X3.here hx rfl (hb hby at_112) rfl ?_
            show Steps p.tables e below (T3.setTop (mkF m 113 #[.val (.long q0), .second, .val (.int p1), .val (.int p2), .val (.long (own_v0_5_0 p1)), .second, .val (.int (p2 &&& (3 : Int32))), .val (.long (own_v0_21_1 q0)), .second, .val (.long (own_v0_74_2 q0 p1)), .second, .unset, .unset] [(.int (lcmpW (own_v0_74_2 q0 p1) (own_v0_5_0 p1)))])) _
            exact k)
        by_cases hc10 : (own_v0_74_2 q0 p1) < (own_v0_5_0 p1)
        · have pre11 : ∀ t, Steps p.tables e below (T3.setTop (mkF m 124 #[.val (.long q0), .second, .val (.int p1), .val (.int p2), .val (.long (own_v0_5_0 p1)), .second, .val (.int (p2 &&& (3 : Int32))), .val (.long (own_v0_21_1 q0)), .second, .val (.long (own_v0_74_2 q0 p1)), .second, .unset, .unset] [(.int (lcmpW (own_v0_21_1 q0) (-(own_v0_5_0 p1))))])) t → Steps p.tables e below (s₁.setTop (entryFrame m #[(.long q0), (.int p1), (.int p2)] maxLocals)) t := fun t k => pre9 t (by
              refine XS.ifYes X3.here hx rfl (pc0 := 113) (pc' := 118) rfl (hb hby at_113) rfl ((if0 _ _).trans (tlt ((own_lw_lt _ _).mpr hc10)).1) (by decide) (by decide) ?_
              show Steps p.tables e below (T3.setTop (mkF m 118 #[.val (.long q0), .second, .val (.int p1), .val (.int p2), .val (.long (own_v0_5_0 p1)), .second, .val (.int (p2 &&& (3 : Int32))), .val (.long (own_v0_21_1 q0)), .second, .val (.long (own_v0_74_2 q0 p1)), .second, .unset, .unset] [])) _
              refine XS.lload X3.here hx rfl (hb hby at_118) rfl ?_
              show Steps p.tables e below (T3.setTop (mkF m 120 #[.val (.long q0), .second, .val (.int p1), .val (.int p2), .val (.long (own_v0_5_0 p1)), .second, .val (.int (p2 &&& (3 : Int32))), .val (.long (own_v0_21_1 q0)), .second, .val (.long (own_v0_74_2 q0 p1)), .second, .unset, .unset] [(.long (own_v0_21_1 q0))])) _
              refine XS.lload X3.here hx rfl (hb hby at_120) rfl ?_
              show Steps p.tables e below (T3.setTop (mkF m 122 #[.val (.long q0), .second, .val (.int p1), .val (.int p2), .val (.long (own_v0_5_0 p1)), .second, .val (.int (p2 &&& (3 : Int32))), .val (.long (own_v0_21_1 q0)), .second, .val (.long (own_v0_74_2 q0 p1)), .second, .unset, .unset] [(.long (own_v0_5_0 p1)), (.long (own_v0_21_1 q0))])) _
              refine XS.lneg X3.here hx rfl (hb hby at_122) rfl ?_
              show Steps p.tables e below (T3.setTop (mkF m 123 #[.val (.long q0), .second, .val (.int p1), .val (.int p2), .val (.long (own_v0_5_0 p1)), .second, .val (.int (p2 &&& (3 : Int32))), .val (.long (own_v0_21_1 q0)), .second, .val (.long (own_v0_74_2 q0 p1)), .second, .unset, .unset] [(.long (-(own_v0_5_0 p1))), (.long (own_v0_21_1 q0))])) _
              refine XS.lcmp X3.here hx rfl (hb hby at_123) rfl ?_
              show Steps p.tables e below (T3.setTop (mkF m 124 #[.val (.long q0), .second, .val (.int p1), .val (.int p2), .val (.long (own_v0_5_0 p1)), .second, .val (.int (p2 &&& (3 : Int32))), .val (.long (own_v0_21_1 q0)), .second, .val (.long (own_v0_74_2 q0 p1)), .second, .unset, .unset] [(.int (lcmpW (own_v0_21_1 q0) (-(own_v0_5_0 p1))))])) _
              exact k)
          by_cases hc12 : (own_v0_21_1 q0) < (-(own_v0_5_0 p1))
          · have pre13 : ∀ t, Steps p.tables e below (T3.setTop (mkF m 164 #[.val (.long q0), .second, .val (.int p1), .val (.int p2), .val (.long (own_v0_5_0 p1)), .second, .val (.int (p2 &&& (3 : Int32))), .val (.long (own_v0_21_1 q0)), .second, .val (.long (own_v0_74_2 q0 p1)), .second, .unset, .unset] [(.int (lcmpW (own_v0_74_2 q0 p1) (0 : Int64)))])) t → Steps p.tables e below (s₁.setTop (entryFrame m #[(.long q0), (.int p1), (.int p2)] maxLocals)) t := fun t k => pre11 t (by
                refine XS.ifYes X3.here hx rfl (pc0 := 124) (pc' := 160) rfl (hb hby at_124) rfl ((if0 _ _).trans (tlt ((own_lw_lt _ _).mpr hc12)).1) (by decide) (by decide) ?_
                show Steps p.tables e below (T3.setTop (mkF m 160 #[.val (.long q0), .second, .val (.int p1), .val (.int p2), .val (.long (own_v0_5_0 p1)), .second, .val (.int (p2 &&& (3 : Int32))), .val (.long (own_v0_21_1 q0)), .second, .val (.long (own_v0_74_2 q0 p1)), .second, .unset, .unset] [])) _
                refine XS.lload X3.here hx rfl (hb hby at_160) rfl ?_
                show Steps p.tables e below (T3.setTop (mkF m 162 #[.val (.long q0), .second, .val (.int p1), .val (.int p2), .val (.long (own_v0_5_0 p1)), .second, .val (.int (p2 &&& (3 : Int32))), .val (.long (own_v0_21_1 q0)), .second, .val (.long (own_v0_74_2 q0 p1)), .second, .unset, .unset] [(.long (own_v0_74_2 q0 p1))])) _
                refine XS.lconst X3.here hx rfl (hb hby at_162) ?_
                show Steps p.tables e below (T3.setTop (mkF m 163 #[.val (.long q0), .second, .val (.int p1), .val (.int p2), .val (.long (own_v0_5_0 p1)), .second, .val (.int (p2 &&& (3 : Int32))), .val (.long (own_v0_21_1 q0)), .second, .val (.long (own_v0_74_2 q0 p1)), .second, .unset, .unset] [(.long (0 : Int64)), (.long (own_v0_74_2 q0 p1))])) _
                refine XS.lcmp X3.here hx rfl (hb hby at_163) rfl ?_
                show Steps p.tables e below (T3.setTop (mkF m 164 #[.val (.long q0), .second, .val (.int p1), .val (.int p2), .val (.long (own_v0_5_0 p1)), .second, .val (.int (p2 &&& (3 : Int32))), .val (.long (own_v0_21_1 q0)), .second, .val (.long (own_v0_74_2 q0 p1)), .second, .unset, .unset] [(.int (lcmpW (own_v0_74_2 q0 p1) (0 : Int64)))])) _
                exact k)
            by_cases hc14 : (own_v0_74_2 q0 p1) < (0 : Int64)
            · have pre15 : ∀ t, Steps p.tables e below (T3.setTop (mkF m 172 #[.val (.long q0), .second, .val (.int p1), .val (.int p2), .val (.long (own_v0_5_0 p1)), .second, .val (.int (p2 &&& (3 : Int32))), .val (.long (own_v0_21_1 q0)), .second, .val (.long (own_v0_74_2 q0 p1)), .second, .unset, .unset] [(.int (1 : Int32))])) t → Steps p.tables e below (s₁.setTop (entryFrame m #[(.long q0), (.int p1), (.int p2)] maxLocals)) t := fun t k => pre13 t (by
                  refine XS.ifNo X3.here hx rfl (hb hby at_164) rfl ((if0 _ _).trans (tlt ((own_lw_lt _ _).mpr hc14)).2.1) ?_
                  show Steps p.tables e below (T3.setTop (mkF m 167 #[.val (.long q0), .second, .val (.int p1), .val (.int p2), .val (.long (own_v0_5_0 p1)), .second, .val (.int (p2 &&& (3 : Int32))), .val (.long (own_v0_21_1 q0)), .second, .val (.long (own_v0_74_2 q0 p1)), .second, .unset, .unset] [])) _
                  refine XS.iconst X3.here hx rfl (hb hby at_167) ?_
                  show Steps p.tables e below (T3.setTop (mkF m 168 #[.val (.long q0), .second, .val (.int p1), .val (.int p2), .val (.long (own_v0_5_0 p1)), .second, .val (.int (p2 &&& (3 : Int32))), .val (.long (own_v0_21_1 q0)), .second, .val (.long (own_v0_74_2 q0 p1)), .second, .unset, .unset] [(.int (1 : Int32))])) _
                  refine XS.goto X3.here hx rfl (pc0 := 168) (pc' := 172) rfl (hb hby at_168) (by decide) (by decide) ?_
                  show Steps p.tables e below (T3.setTop (mkF m 172 #[.val (.long q0), .second, .val (.int p1), .val (.int p2), .val (.long (own_v0_5_0 p1)), .second, .val (.int (p2 &&& (3 : Int32))), .val (.long (own_v0_21_1 q0)), .second, .val (.long (own_v0_74_2 q0 p1)), .second, .unset, .unset] [(.int (1 : Int32))])) _
                  exact k)
              obtain ⟨fs, hr, hrun, hended, hW, hsame⟩ := X3.leave (v := some (.int (1 : Int32))) (fun h => by rw [Bd.returns] at h; cases h) (hlocks := hlk)
              refine ⟨_, _, pre15 _ ?_, hrun, hended, _, _, rfl, ?_, ⟨_, rfl⟩, hW, hsame.mono (by decide) (by decide)⟩
              · show Steps p.tables e below (T3.setTop (mkF m 172 #[.val (.long q0), .second, .val (.int p1), .val (.int p2), .val (.long (own_v0_5_0 p1)), .second, .val (.int (p2 &&& (3 : Int32))), .val (.long (own_v0_21_1 q0)), .second, .val (.long (own_v0_74_2 q0 p1)), .second, .unset, .unset] [(.int (1 : Int32))])) _
                exact retN X3 hx (t := .boolean) Bd.returns (by simp) (hb hby at_172) hr
              · show own_Q0 Z q0 p1 p2 h0 n0 _ T3.heap _; exact ⟨(by show some (Value.int _) = some (.int (own_f0 q0 p1 p2)); unfold own_f0; rw [if_pos hc2, if_pos hc6, if_pos hc8, if_pos hc10, if_pos hc12, if_pos hc14]), N4⟩
            · have pre16 : ∀ t, Steps p.tables e below (T3.setTop (mkF m 172 #[.val (.long q0), .second, .val (.int p1), .val (.int p2), .val (.long (own_v0_5_0 p1)), .second, .val (.int (p2 &&& (3 : Int32))), .val (.long (own_v0_21_1 q0)), .second, .val (.long (own_v0_74_2 q0 p1)), .second, .unset, .unset] [(.int (0 : Int32))])) t → Steps p.tables e below (s₁.setTop (entryFrame m #[(.long q0), (.int p1), (.int p2)] maxLocals)) t := fun t k => pre13 t (by
                  refine XS.ifYes X3.here hx rfl (pc0 := 164) (pc' := 171) rfl (hb hby at_164) rfl ((if0 _ _).trans (flt (mt (own_lw_lt _ _).mp hc14)).2.1) (by decide) (by decide) ?_
                  show Steps p.tables e below (T3.setTop (mkF m 171 #[.val (.long q0), .second, .val (.int p1), .val (.int p2), .val (.long (own_v0_5_0 p1)), .second, .val (.int (p2 &&& (3 : Int32))), .val (.long (own_v0_21_1 q0)), .second, .val (.long (own_v0_74_2 q0 p1)), .second, .unset, .unset] [])) _
                  refine XS.iconst X3.here hx rfl (hb hby at_171) ?_
                  show Steps p.tables e below (T3.setTop (mkF m 172 #[.val (.long q0), .second, .val (.int p1), .val (.int p2), .val (.long (own_v0_5_0 p1)), .second, .val (.int (p2 &&& (3 : Int32))), .val (.long (own_v0_21_1 q0)), .second, .val (.long (own_v0_74_2 q0 p1)), .second, .unset, .unset] [(.int (0 : Int32))])) _
                  exact k)
              obtain ⟨fs, hr, hrun, hended, hW, hsame⟩ := X3.leave (v := some (.int (0 : Int32))) (fun h => by rw [Bd.returns] at h; cases h) (hlocks := hlk)
              refine ⟨_, _, pre16 _ ?_, hrun, hended, _, _, rfl, ?_, ⟨_, rfl⟩, hW, hsame.mono (by decide) (by decide)⟩
              · show Steps p.tables e below (T3.setTop (mkF m 172 #[.val (.long q0), .second, .val (.int p1), .val (.int p2), .val (.long (own_v0_5_0 p1)), .second, .val (.int (p2 &&& (3 : Int32))), .val (.long (own_v0_21_1 q0)), .second, .val (.long (own_v0_74_2 q0 p1)), .second, .unset, .unset] [(.int (0 : Int32))])) _
                exact retN X3 hx (t := .boolean) Bd.returns (by simp) (hb hby at_172) hr
              · show own_Q0 Z q0 p1 p2 h0 n0 _ T3.heap _; exact ⟨(by show some (Value.int _) = some (.int (own_f0 q0 p1 p2)); unfold own_f0; rw [if_pos hc2, if_pos hc6, if_pos hc8, if_pos hc10, if_pos hc12, if_neg hc14]), N4⟩
          · obtain ⟨_, _, ⟨T17, L17, k17, n17⟩, -, X17, ⟨Lc17, hQ17, l17, y17, z17⟩, st17⟩ := Jvm.LawKit.callS X3 hx (y := (⟨"com/example/firm_query/firmquery/ArraySlice", "normalize", "(JJ)J"⟩ : MethodName)) hown (mvT hZ (hw _ (List.mem_of_getElem? (i := 2) rfl))) (mvT hZ (hw _ (List.mem_of_getElem? (i := 3) rfl))) (mvT hZ (hw _ (List.mem_of_getElem? (i := 4) rfl))) (mvT hZ (hw _ (List.mem_of_getElem? (i := 5) rfl))) (by decide) (backOf (W := 0) (own_rm1 l Z a0 hw [] ((own_v0_21_1 q0) + (own_v0_5_0 p1)) (own_v0_5_0 p1) h0 n0 Z0 ) hZ (hw _ (List.mem_of_getElem? (i := 5) rfl)) (hw _ (List.mem_of_getElem? (i := 4) rfl)) (by decide) (by decide)) (g := (mkF m 134 #[.val (.long q0), .second, .val (.int p1), .val (.int p2), .val (.long (own_v0_5_0 p1)), .second, .val (.int (p2 &&& (3 : Int32))), .val (.long (own_v0_21_1 q0)), .second, .val (.long (own_v0_74_2 q0 p1)), .second, .unset, .unset] [(.long (own_v0_5_0 p1)), (.long ((own_v0_21_1 q0) + (own_v0_5_0 p1)))])) rfl (by rw [hml]; rfl) (argsL := [(.long ((own_v0_21_1 q0) + (own_v0_5_0 p1))), (.long (own_v0_5_0 p1))]) (rest := []) (lenOf own_pd0 rfl) rfl (by show 2 * 0 + _ ≤ _; exact Nat.le_of_eq rfl) (hb hby at_134) (fun _ _ => ⟨rfl, e3, (by decide : 0 + 0 ≤ _), (by decide : 0 + 0 ≤ _)⟩)
            dsimp only [Pt.U, Pt.locs, Pt.cells, Pt.slots] at X17 l17 y17 z17 st17 hQ17
            subst l17 y17 z17
            obtain ⟨rfl, N17q, e17⟩ := hQ17
            have N18 := Fr.app N4 N17q
            have pre19 : ∀ t, Steps p.tables e below (T17.setTop (mkF m 144 #[.val (.long q0), .second, .val (.int p1), .val (.int p2), .val (.long (own_v0_5_0 p1)), .second, .val (.int (p2 &&& (3 : Int32))), .val (.long (own_v0_21_1 q0)), .second, .val (.long (own_v0_74_2 q0 p1)), .second, .val (.long (own_v0_137_3 q0 p1)), .second] [(.int (lcmpW (own_v0_74_2 q0 p1) (own_v0_137_3 q0 p1)))])) t → Steps p.tables e below (s₁.setTop (entryFrame m #[(.long q0), (.int p1), (.int p2)] maxLocals)) t := fun t k => pre11 t (by
                refine XS.ifNo X3.here hx rfl (hb hby at_124) rfl ((if0 _ _).trans (flt (mt (own_lw_lt _ _).mp hc12)).1) ?_
                show Steps p.tables e below (T3.setTop (mkF m 127 #[.val (.long q0), .second, .val (.int p1), .val (.int p2), .val (.long (own_v0_5_0 p1)), .second, .val (.int (p2 &&& (3 : Int32))), .val (.long (own_v0_21_1 q0)), .second, .val (.long (own_v0_74_2 q0 p1)), .second, .unset, .unset] [])) _
                refine XS.lload X3.here hx rfl (hb hby at_127) rfl ?_
                show Steps p.tables e below (T3.setTop (mkF m 129 #[.val (.long q0), .second, .val (.int p1), .val (.int p2), .val (.long (own_v0_5_0 p1)), .second, .val (.int (p2 &&& (3 : Int32))), .val (.long (own_v0_21_1 q0)), .second, .val (.long (own_v0_74_2 q0 p1)), .second, .unset, .unset] [(.long (own_v0_21_1 q0))])) _
                refine XS.lload X3.here hx rfl (hb hby at_129) rfl ?_
                show Steps p.tables e below (T3.setTop (mkF m 131 #[.val (.long q0), .second, .val (.int p1), .val (.int p2), .val (.long (own_v0_5_0 p1)), .second, .val (.int (p2 &&& (3 : Int32))), .val (.long (own_v0_21_1 q0)), .second, .val (.long (own_v0_74_2 q0 p1)), .second, .unset, .unset] [(.long (own_v0_5_0 p1)), (.long (own_v0_21_1 q0))])) _
                refine XS.ladd X3.here hx rfl (hb hby at_131) rfl ?_
                show Steps p.tables e below (T3.setTop (mkF m 132 #[.val (.long q0), .second, .val (.int p1), .val (.int p2), .val (.long (own_v0_5_0 p1)), .second, .val (.int (p2 &&& (3 : Int32))), .val (.long (own_v0_21_1 q0)), .second, .val (.long (own_v0_74_2 q0 p1)), .second, .unset, .unset] [(.long ((own_v0_21_1 q0) + (own_v0_5_0 p1)))])) _
                refine XS.lload X3.here hx rfl (hb hby at_132) rfl ?_
                show Steps p.tables e below (T3.setTop (mkF m 134 #[.val (.long q0), .second, .val (.int p1), .val (.int p2), .val (.long (own_v0_5_0 p1)), .second, .val (.int (p2 &&& (3 : Int32))), .val (.long (own_v0_21_1 q0)), .second, .val (.long (own_v0_74_2 q0 p1)), .second, .unset, .unset] [(.long (own_v0_5_0 p1)), (.long ((own_v0_21_1 q0) + (own_v0_5_0 p1)))])) _
                refine st17 _ ?_
                show Steps p.tables e below (T17.setTop (mkF m 137 #[.val (.long q0), .second, .val (.int p1), .val (.int p2), .val (.long (own_v0_5_0 p1)), .second, .val (.int (p2 &&& (3 : Int32))), .val (.long (own_v0_21_1 q0)), .second, .val (.long (own_v0_74_2 q0 p1)), .second, .unset, .unset] [(.long (own_f1 ((own_v0_21_1 q0) + (own_v0_5_0 p1)) (own_v0_5_0 p1)))])) _
                refine XS.lstore X17.here hx rfl (hb hby at_137) rfl (l' := #[.val (.long q0), .second, .val (.int p1), .val (.int p2), .val (.long (own_v0_5_0 p1)), .second, .val (.int (p2 &&& (3 : Int32))), .val (.long (own_v0_21_1 q0)), .second, .val (.long (own_v0_74_2 q0 p1)), .second, .val (.long (own_v0_137_3 q0 p1)), .second]) rfl ?_
                show Steps p.tables e below (T17.setTop (mkF m 139 #[.val (.long q0), .second, .val (.int p1), .val (.int p2), .val (.long (own_v0_5_0 p1)), .second, .val (.int (p2 &&& (3 : Int32))), .val (.long (own_v0_21_1 q0)), .second, .val (.long (own_v0_74_2 q0 p1)), .second, .val (.long (own_v0_137_3 q0 p1)), .second] [])) _
                refine XS.lload X17.here hx rfl (hb hby at_139) rfl ?_
                show Steps p.tables e below (T17.setTop (mkF m 141 #[.val (.long q0), .second, .val (.int p1), .val (.int p2), .val (.long (own_v0_5_0 p1)), .second, .val (.int (p2 &&& (3 : Int32))), .val (.long (own_v0_21_1 q0)), .second, .val (.long (own_v0_74_2 q0 p1)), .second, .val (.long (own_v0_137_3 q0 p1)), .second] [(.long (own_v0_74_2 q0 p1))])) _
                refine XS.lload X17.here hx rfl (hb hby at_141) rfl ?_
                show Steps p.tables e below (T17.setTop (mkF m 143 #[.val (.long q0), .second, .val (.int p1), .val (.int p2), .val (.long (own_v0_5_0 p1)), .second, .val (.int (p2 &&& (3 : Int32))), .val (.long (own_v0_21_1 q0)), .second, .val (.long (own_v0_74_2 q0 p1)), .second, .val (.long (own_v0_137_3 q0 p1)), .second] [(.long (own_v0_137_3 q0 p1)), (.long (own_v0_74_2 q0 p1))])) _
                refine XS.lcmp X17.here hx rfl (hb hby at_143) rfl ?_
                show Steps p.tables e below (T17.setTop (mkF m 144 #[.val (.long q0), .second, .val (.int p1), .val (.int p2), .val (.long (own_v0_5_0 p1)), .second, .val (.int (p2 &&& (3 : Int32))), .val (.long (own_v0_21_1 q0)), .second, .val (.long (own_v0_74_2 q0 p1)), .second, .val (.long (own_v0_137_3 q0 p1)), .second] [(.int (lcmpW (own_v0_74_2 q0 p1) (own_v0_137_3 q0 p1)))])) _
                exact k)
            by_cases hc20 : (own_v0_74_2 q0 p1) = (own_v0_137_3 q0 p1)
            · have pre21 : ∀ t, Steps p.tables e below (T17.setTop (mkF m 151 #[.val (.long q0), .second, .val (.int p1), .val (.int p2), .val (.long (own_v0_5_0 p1)), .second, .val (.int (p2 &&& (3 : Int32))), .val (.long (own_v0_21_1 q0)), .second, .val (.long (own_v0_74_2 q0 p1)), .second, .val (.long (own_v0_137_3 q0 p1)), .second] [(.int (lcmpW (own_v0_74_2 q0 p1) (0 : Int64)))])) t → Steps p.tables e below (s₁.setTop (entryFrame m #[(.long q0), (.int p1), (.int p2)] maxLocals)) t := fun t k => pre19 t (by
                  refine XS.ifNo X17.here hx rfl (hb hby at_144) rfl ((if0 _ _).trans (teq ((own_lw_eq _ _).mpr hc20)).2) ?_
                  show Steps p.tables e below (T17.setTop (mkF m 147 #[.val (.long q0), .second, .val (.int p1), .val (.int p2), .val (.long (own_v0_5_0 p1)), .second, .val (.int (p2 &&& (3 : Int32))), .val (.long (own_v0_21_1 q0)), .second, .val (.long (own_v0_74_2 q0 p1)), .second, .val (.long (own_v0_137_3 q0 p1)), .second] [])) _
                  refine XS.lload X17.here hx rfl (hb hby at_147) rfl ?_
                  show Steps p.tables e below (T17.setTop (mkF m 149 #[.val (.long q0), .second, .val (.int p1), .val (.int p2), .val (.long (own_v0_5_0 p1)), .second, .val (.int (p2 &&& (3 : Int32))), .val (.long (own_v0_21_1 q0)), .second, .val (.long (own_v0_74_2 q0 p1)), .second, .val (.long (own_v0_137_3 q0 p1)), .second] [(.long (own_v0_74_2 q0 p1))])) _
                  refine XS.lconst X17.here hx rfl (hb hby at_149) ?_
                  show Steps p.tables e below (T17.setTop (mkF m 150 #[.val (.long q0), .second, .val (.int p1), .val (.int p2), .val (.long (own_v0_5_0 p1)), .second, .val (.int (p2 &&& (3 : Int32))), .val (.long (own_v0_21_1 q0)), .second, .val (.long (own_v0_74_2 q0 p1)), .second, .val (.long (own_v0_137_3 q0 p1)), .second] [(.long (0 : Int64)), (.long (own_v0_74_2 q0 p1))])) _
                  refine XS.lcmp X17.here hx rfl (hb hby at_150) rfl ?_
                  show Steps p.tables e below (T17.setTop (mkF m 151 #[.val (.long q0), .second, .val (.int p1), .val (.int p2), .val (.long (own_v0_5_0 p1)), .second, .val (.int (p2 &&& (3 : Int32))), .val (.long (own_v0_21_1 q0)), .second, .val (.long (own_v0_74_2 q0 p1)), .second, .val (.long (own_v0_137_3 q0 p1)), .second] [(.int (lcmpW (own_v0_74_2 q0 p1) (0 : Int64)))])) _
                  exact k)
              by_cases hc22 : (own_v0_74_2 q0 p1) < (0 : Int64)
              · have pre23 : ∀ t, Steps p.tables e below (T17.setTop (mkF m 159 #[.val (.long q0), .second, .val (.int p1), .val (.int p2), .val (.long (own_v0_5_0 p1)), .second, .val (.int (p2 &&& (3 : Int32))), .val (.long (own_v0_21_1 q0)), .second, .val (.long (own_v0_74_2 q0 p1)), .second, .val (.long (own_v0_137_3 q0 p1)), .second] [(.int (0 : Int32))])) t → Steps p.tables e below (s₁.setTop (entryFrame m #[(.long q0), (.int p1), (.int p2)] maxLocals)) t := fun t k => pre21 t (by
                    refine XS.ifYes X17.here hx rfl (pc0 := 151) (pc' := 158) rfl (hb hby at_151) rfl ((if0 _ _).trans (tlt ((own_lw_lt _ _).mpr hc22)).1) (by decide) (by decide) ?_
                    show Steps p.tables e below (T17.setTop (mkF m 158 #[.val (.long q0), .second, .val (.int p1), .val (.int p2), .val (.long (own_v0_5_0 p1)), .second, .val (.int (p2 &&& (3 : Int32))), .val (.long (own_v0_21_1 q0)), .second, .val (.long (own_v0_74_2 q0 p1)), .second, .val (.long (own_v0_137_3 q0 p1)), .second] [])) _
                    refine XS.iconst X17.here hx rfl (hb hby at_158) ?_
                    show Steps p.tables e below (T17.setTop (mkF m 159 #[.val (.long q0), .second, .val (.int p1), .val (.int p2), .val (.long (own_v0_5_0 p1)), .second, .val (.int (p2 &&& (3 : Int32))), .val (.long (own_v0_21_1 q0)), .second, .val (.long (own_v0_74_2 q0 p1)), .second, .val (.long (own_v0_137_3 q0 p1)), .second] [(.int (0 : Int32))])) _
                    exact k)
                obtain ⟨fs, hr, hrun, hended, hW, hsame⟩ := X17.leave (v := some (.int (0 : Int32))) (fun h => by rw [Bd.returns] at h; cases h) (hlocks := hlk)
                refine ⟨_, _, pre23 _ ?_, hrun, hended, _, _, rfl, ?_, ⟨_, rfl⟩, hW, hsame.mono (by decide) (by decide)⟩
                · show Steps p.tables e below (T17.setTop (mkF m 159 #[.val (.long q0), .second, .val (.int p1), .val (.int p2), .val (.long (own_v0_5_0 p1)), .second, .val (.int (p2 &&& (3 : Int32))), .val (.long (own_v0_21_1 q0)), .second, .val (.long (own_v0_74_2 q0 p1)), .second, .val (.long (own_v0_137_3 q0 p1)), .second] [(.int (0 : Int32))])) _
                  exact retN X17 hx (t := .boolean) Bd.returns (by simp) (hb hby at_159) hr
                · show own_Q0 Z q0 p1 p2 h0 n0 _ T17.heap _; exact ⟨(by show some (Value.int _) = some (.int (own_f0 q0 p1 p2)); unfold own_f0; rw [if_pos hc2, if_pos hc6, if_pos hc8, if_pos hc10, if_neg hc12, if_pos hc20, if_pos hc22]), N18⟩
              · have pre24 : ∀ t, Steps p.tables e below (T17.setTop (mkF m 159 #[.val (.long q0), .second, .val (.int p1), .val (.int p2), .val (.long (own_v0_5_0 p1)), .second, .val (.int (p2 &&& (3 : Int32))), .val (.long (own_v0_21_1 q0)), .second, .val (.long (own_v0_74_2 q0 p1)), .second, .val (.long (own_v0_137_3 q0 p1)), .second] [(.int (1 : Int32))])) t → Steps p.tables e below (s₁.setTop (entryFrame m #[(.long q0), (.int p1), (.int p2)] maxLocals)) t := fun t k => pre21 t (by
                    refine XS.ifNo X17.here hx rfl (hb hby at_151) rfl ((if0 _ _).trans (flt (mt (own_lw_lt _ _).mp hc22)).1) ?_
                    show Steps p.tables e below (T17.setTop (mkF m 154 #[.val (.long q0), .second, .val (.int p1), .val (.int p2), .val (.long (own_v0_5_0 p1)), .second, .val (.int (p2 &&& (3 : Int32))), .val (.long (own_v0_21_1 q0)), .second, .val (.long (own_v0_74_2 q0 p1)), .second, .val (.long (own_v0_137_3 q0 p1)), .second] [])) _
                    refine XS.iconst X17.here hx rfl (hb hby at_154) ?_
                    show Steps p.tables e below (T17.setTop (mkF m 155 #[.val (.long q0), .second, .val (.int p1), .val (.int p2), .val (.long (own_v0_5_0 p1)), .second, .val (.int (p2 &&& (3 : Int32))), .val (.long (own_v0_21_1 q0)), .second, .val (.long (own_v0_74_2 q0 p1)), .second, .val (.long (own_v0_137_3 q0 p1)), .second] [(.int (1 : Int32))])) _
                    refine XS.goto X17.here hx rfl (pc0 := 155) (pc' := 159) rfl (hb hby at_155) (by decide) (by decide) ?_
                    show Steps p.tables e below (T17.setTop (mkF m 159 #[.val (.long q0), .second, .val (.int p1), .val (.int p2), .val (.long (own_v0_5_0 p1)), .second, .val (.int (p2 &&& (3 : Int32))), .val (.long (own_v0_21_1 q0)), .second, .val (.long (own_v0_74_2 q0 p1)), .second, .val (.long (own_v0_137_3 q0 p1)), .second] [(.int (1 : Int32))])) _
                    exact k)
                obtain ⟨fs, hr, hrun, hended, hW, hsame⟩ := X17.leave (v := some (.int (1 : Int32))) (fun h => by rw [Bd.returns] at h; cases h) (hlocks := hlk)
                refine ⟨_, _, pre24 _ ?_, hrun, hended, _, _, rfl, ?_, ⟨_, rfl⟩, hW, hsame.mono (by decide) (by decide)⟩
                · show Steps p.tables e below (T17.setTop (mkF m 159 #[.val (.long q0), .second, .val (.int p1), .val (.int p2), .val (.long (own_v0_5_0 p1)), .second, .val (.int (p2 &&& (3 : Int32))), .val (.long (own_v0_21_1 q0)), .second, .val (.long (own_v0_74_2 q0 p1)), .second, .val (.long (own_v0_137_3 q0 p1)), .second] [(.int (1 : Int32))])) _
                  exact retN X17 hx (t := .boolean) Bd.returns (by simp) (hb hby at_159) hr
                · show own_Q0 Z q0 p1 p2 h0 n0 _ T17.heap _; exact ⟨(by show some (Value.int _) = some (.int (own_f0 q0 p1 p2)); unfold own_f0; rw [if_pos hc2, if_pos hc6, if_pos hc8, if_pos hc10, if_neg hc12, if_pos hc20, if_neg hc22]), N18⟩
            · have pre25 : ∀ t, Steps p.tables e below (T17.setTop (mkF m 159 #[.val (.long q0), .second, .val (.int p1), .val (.int p2), .val (.long (own_v0_5_0 p1)), .second, .val (.int (p2 &&& (3 : Int32))), .val (.long (own_v0_21_1 q0)), .second, .val (.long (own_v0_74_2 q0 p1)), .second, .val (.long (own_v0_137_3 q0 p1)), .second] [(.int (0 : Int32))])) t → Steps p.tables e below (s₁.setTop (entryFrame m #[(.long q0), (.int p1), (.int p2)] maxLocals)) t := fun t k => pre19 t (by
                  refine XS.ifYes X17.here hx rfl (pc0 := 144) (pc' := 158) rfl (hb hby at_144) rfl ((if0 _ _).trans (feq (mt (own_lw_eq _ _).mp hc20)).2) (by decide) (by decide) ?_
                  show Steps p.tables e below (T17.setTop (mkF m 158 #[.val (.long q0), .second, .val (.int p1), .val (.int p2), .val (.long (own_v0_5_0 p1)), .second, .val (.int (p2 &&& (3 : Int32))), .val (.long (own_v0_21_1 q0)), .second, .val (.long (own_v0_74_2 q0 p1)), .second, .val (.long (own_v0_137_3 q0 p1)), .second] [])) _
                  refine XS.iconst X17.here hx rfl (hb hby at_158) ?_
                  show Steps p.tables e below (T17.setTop (mkF m 159 #[.val (.long q0), .second, .val (.int p1), .val (.int p2), .val (.long (own_v0_5_0 p1)), .second, .val (.int (p2 &&& (3 : Int32))), .val (.long (own_v0_21_1 q0)), .second, .val (.long (own_v0_74_2 q0 p1)), .second, .val (.long (own_v0_137_3 q0 p1)), .second] [(.int (0 : Int32))])) _
                  exact k)
              obtain ⟨fs, hr, hrun, hended, hW, hsame⟩ := X17.leave (v := some (.int (0 : Int32))) (fun h => by rw [Bd.returns] at h; cases h) (hlocks := hlk)
              refine ⟨_, _, pre25 _ ?_, hrun, hended, _, _, rfl, ?_, ⟨_, rfl⟩, hW, hsame.mono (by decide) (by decide)⟩
              · show Steps p.tables e below (T17.setTop (mkF m 159 #[.val (.long q0), .second, .val (.int p1), .val (.int p2), .val (.long (own_v0_5_0 p1)), .second, .val (.int (p2 &&& (3 : Int32))), .val (.long (own_v0_21_1 q0)), .second, .val (.long (own_v0_74_2 q0 p1)), .second, .val (.long (own_v0_137_3 q0 p1)), .second] [(.int (0 : Int32))])) _
                exact retN X17 hx (t := .boolean) Bd.returns (by simp) (hb hby at_159) hr
              · show own_Q0 Z q0 p1 p2 h0 n0 _ T17.heap _; exact ⟨(by show some (Value.int _) = some (.int (own_f0 q0 p1 p2)); unfold own_f0; rw [if_pos hc2, if_pos hc6, if_pos hc8, if_pos hc10, if_neg hc12, if_neg hc20]), N18⟩
        · have pre26 : ∀ t, Steps p.tables e below (T3.setTop (mkF m 117 #[.val (.long q0), .second, .val (.int p1), .val (.int p2), .val (.long (own_v0_5_0 p1)), .second, .val (.int (p2 &&& (3 : Int32))), .val (.long (own_v0_21_1 q0)), .second, .val (.long (own_v0_74_2 q0 p1)), .second, .unset, .unset] [(.int (0 : Int32))])) t → Steps p.tables e below (s₁.setTop (entryFrame m #[(.long q0), (.int p1), (.int p2)] maxLocals)) t := fun t k => pre9 t (by
              refine XS.ifNo X3.here hx rfl (hb hby at_113) rfl ((if0 _ _).trans (flt (mt (own_lw_lt _ _).mp hc10)).1) ?_
              show Steps p.tables e below (T3.setTop (mkF m 116 #[.val (.long q0), .second, .val (.int p1), .val (.int p2), .val (.long (own_v0_5_0 p1)), .second, .val (.int (p2 &&& (3 : Int32))), .val (.long (own_v0_21_1 q0)), .second, .val (.long (own_v0_74_2 q0 p1)), .second, .unset, .unset] [])) _
              refine XS.iconst X3.here hx rfl (hb hby at_116) ?_
              show Steps p.tables e below (T3.setTop (mkF m 117 #[.val (.long q0), .second, .val (.int p1), .val (.int p2), .val (.long (own_v0_5_0 p1)), .second, .val (.int (p2 &&& (3 : Int32))), .val (.long (own_v0_21_1 q0)), .second, .val (.long (own_v0_74_2 q0 p1)), .second, .unset, .unset] [(.int (0 : Int32))])) _
              exact k)
          obtain ⟨fs, hr, hrun, hended, hW, hsame⟩ := X3.leave (v := some (.int (0 : Int32))) (fun h => by rw [Bd.returns] at h; cases h) (hlocks := hlk)
          refine ⟨_, _, pre26 _ ?_, hrun, hended, _, _, rfl, ?_, ⟨_, rfl⟩, hW, hsame.mono (by decide) (by decide)⟩
          · show Steps p.tables e below (T3.setTop (mkF m 117 #[.val (.long q0), .second, .val (.int p1), .val (.int p2), .val (.long (own_v0_5_0 p1)), .second, .val (.int (p2 &&& (3 : Int32))), .val (.long (own_v0_21_1 q0)), .second, .val (.long (own_v0_74_2 q0 p1)), .second, .unset, .unset] [(.int (0 : Int32))])) _
            exact retN X3 hx (t := .boolean) Bd.returns (by simp) (hb hby at_117) hr
          · show own_Q0 Z q0 p1 p2 h0 n0 _ T3.heap _; exact ⟨(by show some (Value.int _) = some (.int (own_f0 q0 p1 p2)); unfold own_f0; rw [if_pos hc2, if_pos hc6, if_pos hc8, if_neg hc10]), N4⟩
      · have pre27 : ∀ t, Steps p.tables e below (T3.setTop (mkF m 117 #[.val (.long q0), .second, .val (.int p1), .val (.int p2), .val (.long (own_v0_5_0 p1)), .second, .val (.int (p2 &&& (3 : Int32))), .val (.long (own_v0_21_1 q0)), .second, .val (.long (own_v0_74_2 q0 p1)), .second, .unset, .unset] [(.int (0 : Int32))])) t → Steps p.tables e below (s₁.setTop (entryFrame m #[(.long q0), (.int p1), (.int p2)] maxLocals)) t := fun t k => pre7 t (by
            refine XS.ifYes X3.here hx rfl (pc0 := 105) (pc' := 116) rfl (hb hby at_105) rfl ((if0 _ _).trans (feq (mt (own_lw_eq _ _).mp hc8)).2) (by decide) (by decide) ?_
            show Steps p.tables e below (T3.setTop (mkF m 116 #[.val (.long q0), .second, .val (.int p1), .val (.int p2), .val (.long (own_v0_5_0 p1)), .second, .val (.int (p2 &&& (3 : Int32))), .val (.long (own_v0_21_1 q0)), .second, .val (.long (own_v0_74_2 q0 p1)), .second, .unset, .unset] [])) _
            refine XS.iconst X3.here hx rfl (hb hby at_116) ?_
            show Steps p.tables e below (T3.setTop (mkF m 117 #[.val (.long q0), .second, .val (.int p1), .val (.int p2), .val (.long (own_v0_5_0 p1)), .second, .val (.int (p2 &&& (3 : Int32))), .val (.long (own_v0_21_1 q0)), .second, .val (.long (own_v0_74_2 q0 p1)), .second, .unset, .unset] [(.int (0 : Int32))])) _
            exact k)
        obtain ⟨fs, hr, hrun, hended, hW, hsame⟩ := X3.leave (v := some (.int (0 : Int32))) (fun h => by rw [Bd.returns] at h; cases h) (hlocks := hlk)
        refine ⟨_, _, pre27 _ ?_, hrun, hended, _, _, rfl, ?_, ⟨_, rfl⟩, hW, hsame.mono (by decide) (by decide)⟩
        · show Steps p.tables e below (T3.setTop (mkF m 117 #[.val (.long q0), .second, .val (.int p1), .val (.int p2), .val (.long (own_v0_5_0 p1)), .second, .val (.int (p2 &&& (3 : Int32))), .val (.long (own_v0_21_1 q0)), .second, .val (.long (own_v0_74_2 q0 p1)), .second, .unset, .unset] [(.int (0 : Int32))])) _
          exact retN X3 hx (t := .boolean) Bd.returns (by simp) (hb hby at_117) hr
        · show own_Q0 Z q0 p1 p2 h0 n0 _ T3.heap _; exact ⟨(by show some (Value.int _) = some (.int (own_f0 q0 p1 p2)); unfold own_f0; rw [if_pos hc2, if_pos hc6, if_neg hc8]), N4⟩
    · have pre28 : ∀ t, Steps p.tables e below (T3.setTop (mkF m 88 #[.val (.long q0), .second, .val (.int p1), .val (.int p2), .val (.long (own_v0_5_0 p1)), .second, .val (.int (p2 &&& (3 : Int32))), .val (.long (own_v0_21_1 q0)), .second, .val (.long (own_v0_74_2 q0 p1)), .second, .unset, .unset] [(.int (lcmpW (own_v0_74_2 q0 p1) (own_v0_21_1 q0)))])) t → Steps p.tables e below (s₁.setTop (entryFrame m #[(.long q0), (.int p1), (.int p2)] maxLocals)) t := fun t k => pre5 t (by
          refine XS.ifNo X3.here hx rfl (hb hby at_80) rfl ((if0 _ _).trans (flt (mt (own_lw_lt _ _).mp hc6)).1) ?_
          show Steps p.tables e below (T3.setTop (mkF m 83 #[.val (.long q0), .second, .val (.int p1), .val (.int p2), .val (.long (own_v0_5_0 p1)), .second, .val (.int (p2 &&& (3 : Int32))), .val (.long (own_v0_21_1 q0)), .second, .val (.long (own_v0_74_2 q0 p1)), .second, .unset, .unset] [])) _
          refine XS.lload X3.here hx rfl (hb hby at_83) rfl ?_
          show Steps p.tables e below (T3.setTop (mkF m 85 #[.val (.long q0), .second, .val (.int p1), .val (.int p2), .val (.long (own_v0_5_0 p1)), .second, .val (.int (p2 &&& (3 : Int32))), .val (.long (own_v0_21_1 q0)), .second, .val (.long (own_v0_74_2 q0 p1)), .second, .unset, .unset] [(.long (own_v0_74_2 q0 p1))])) _
          refine XS.lload X3.here hx rfl (hb hby at_85) rfl ?_
          show Steps p.tables e below (T3.setTop (mkF m 87 #[.val (.long q0), .second, .val (.int p1), .val (.int p2), .val (.long (own_v0_5_0 p1)), .second, .val (.int (p2 &&& (3 : Int32))), .val (.long (own_v0_21_1 q0)), .second, .val (.long (own_v0_74_2 q0 p1)), .second, .unset, .unset] [(.long (own_v0_21_1 q0)), (.long (own_v0_74_2 q0 p1))])) _
          refine XS.lcmp X3.here hx rfl (hb hby at_87) rfl ?_
          show Steps p.tables e below (T3.setTop (mkF m 88 #[.val (.long q0), .second, .val (.int p1), .val (.int p2), .val (.long (own_v0_5_0 p1)), .second, .val (.int (p2 &&& (3 : Int32))), .val (.long (own_v0_21_1 q0)), .second, .val (.long (own_v0_74_2 q0 p1)), .second, .unset, .unset] [(.int (lcmpW (own_v0_74_2 q0 p1) (own_v0_21_1 q0)))])) _
          exact k)
      by_cases hc29 : (own_v0_74_2 q0 p1) = (own_v0_21_1 q0)
      · have pre30 : ∀ t, Steps p.tables e below (T3.setTop (mkF m 96 #[.val (.long q0), .second, .val (.int p1), .val (.int p2), .val (.long (own_v0_5_0 p1)), .second, .val (.int (p2 &&& (3 : Int32))), .val (.long (own_v0_21_1 q0)), .second, .val (.long (own_v0_74_2 q0 p1)), .second, .unset, .unset] [(.int (1 : Int32))])) t → Steps p.tables e below (s₁.setTop (entryFrame m #[(.long q0), (.int p1), (.int p2)] maxLocals)) t := fun t k => pre28 t (by
            refine XS.ifNo X3.here hx rfl (hb hby at_88) rfl ((if0 _ _).trans (teq ((own_lw_eq _ _).mpr hc29)).2) ?_
            show Steps p.tables e below (T3.setTop (mkF m 91 #[.val (.long q0), .second, .val (.int p1), .val (.int p2), .val (.long (own_v0_5_0 p1)), .second, .val (.int (p2 &&& (3 : Int32))), .val (.long (own_v0_21_1 q0)), .second, .val (.long (own_v0_74_2 q0 p1)), .second, .unset, .unset] [])) _
            refine XS.iconst X3.here hx rfl (hb hby at_91) ?_
            show Steps p.tables e below (T3.setTop (mkF m 92 #[.val (.long q0), .second, .val (.int p1), .val (.int p2), .val (.long (own_v0_5_0 p1)), .second, .val (.int (p2 &&& (3 : Int32))), .val (.long (own_v0_21_1 q0)), .second, .val (.long (own_v0_74_2 q0 p1)), .second, .unset, .unset] [(.int (1 : Int32))])) _
            refine XS.goto X3.here hx rfl (pc0 := 92) (pc' := 96) rfl (hb hby at_92) (by decide) (by decide) ?_
            show Steps p.tables e below (T3.setTop (mkF m 96 #[.val (.long q0), .second, .val (.int p1), .val (.int p2), .val (.long (own_v0_5_0 p1)), .second, .val (.int (p2 &&& (3 : Int32))), .val (.long (own_v0_21_1 q0)), .second, .val (.long (own_v0_74_2 q0 p1)), .second, .unset, .unset] [(.int (1 : Int32))])) _
            exact k)
        obtain ⟨fs, hr, hrun, hended, hW, hsame⟩ := X3.leave (v := some (.int (1 : Int32))) (fun h => by rw [Bd.returns] at h; cases h) (hlocks := hlk)
        refine ⟨_, _, pre30 _ ?_, hrun, hended, _, _, rfl, ?_, ⟨_, rfl⟩, hW, hsame.mono (by decide) (by decide)⟩
        · show Steps p.tables e below (T3.setTop (mkF m 96 #[.val (.long q0), .second, .val (.int p1), .val (.int p2), .val (.long (own_v0_5_0 p1)), .second, .val (.int (p2 &&& (3 : Int32))), .val (.long (own_v0_21_1 q0)), .second, .val (.long (own_v0_74_2 q0 p1)), .second, .unset, .unset] [(.int (1 : Int32))])) _
          exact retN X3 hx (t := .boolean) Bd.returns (by simp) (hb hby at_96) hr
        · show own_Q0 Z q0 p1 p2 h0 n0 _ T3.heap _; exact ⟨(by show some (Value.int _) = some (.int (own_f0 q0 p1 p2)); unfold own_f0; rw [if_pos hc2, if_neg hc6, if_pos hc29]), N4⟩
      · have pre31 : ∀ t, Steps p.tables e below (T3.setTop (mkF m 96 #[.val (.long q0), .second, .val (.int p1), .val (.int p2), .val (.long (own_v0_5_0 p1)), .second, .val (.int (p2 &&& (3 : Int32))), .val (.long (own_v0_21_1 q0)), .second, .val (.long (own_v0_74_2 q0 p1)), .second, .unset, .unset] [(.int (0 : Int32))])) t → Steps p.tables e below (s₁.setTop (entryFrame m #[(.long q0), (.int p1), (.int p2)] maxLocals)) t := fun t k => pre28 t (by
            refine XS.ifYes X3.here hx rfl (pc0 := 88) (pc' := 95) rfl (hb hby at_88) rfl ((if0 _ _).trans (feq (mt (own_lw_eq _ _).mp hc29)).2) (by decide) (by decide) ?_
            show Steps p.tables e below (T3.setTop (mkF m 95 #[.val (.long q0), .second, .val (.int p1), .val (.int p2), .val (.long (own_v0_5_0 p1)), .second, .val (.int (p2 &&& (3 : Int32))), .val (.long (own_v0_21_1 q0)), .second, .val (.long (own_v0_74_2 q0 p1)), .second, .unset, .unset] [])) _
            refine XS.iconst X3.here hx rfl (hb hby at_95) ?_
            show Steps p.tables e below (T3.setTop (mkF m 96 #[.val (.long q0), .second, .val (.int p1), .val (.int p2), .val (.long (own_v0_5_0 p1)), .second, .val (.int (p2 &&& (3 : Int32))), .val (.long (own_v0_21_1 q0)), .second, .val (.long (own_v0_74_2 q0 p1)), .second, .unset, .unset] [(.int (0 : Int32))])) _
            exact k)
        obtain ⟨fs, hr, hrun, hended, hW, hsame⟩ := X3.leave (v := some (.int (0 : Int32))) (fun h => by rw [Bd.returns] at h; cases h) (hlocks := hlk)
        refine ⟨_, _, pre31 _ ?_, hrun, hended, _, _, rfl, ?_, ⟨_, rfl⟩, hW, hsame.mono (by decide) (by decide)⟩
        · show Steps p.tables e below (T3.setTop (mkF m 96 #[.val (.long q0), .second, .val (.int p1), .val (.int p2), .val (.long (own_v0_5_0 p1)), .second, .val (.int (p2 &&& (3 : Int32))), .val (.long (own_v0_21_1 q0)), .second, .val (.long (own_v0_74_2 q0 p1)), .second, .unset, .unset] [(.int (0 : Int32))])) _
          exact retN X3 hx (t := .boolean) Bd.returns (by simp) (hb hby at_96) hr
        · show own_Q0 Z q0 p1 p2 h0 n0 _ T3.heap _; exact ⟨(by show some (Value.int _) = some (.int (own_f0 q0 p1 p2)); unfold own_f0; rw [if_pos hc2, if_neg hc6, if_neg hc29]), N4⟩
  · have pre32 : ∀ t, Steps p.tables e below (s₁.setTop (mkF m 29 #[.val (.long q0), .second, .val (.int p1), .val (.int p2), .val (.long (own_v0_5_0 p1)), .second, .val (.int (p2 &&& (3 : Int32))), .unset, .unset, .unset, .unset, .unset, .unset] [(.int (1 : Int32)), (.int (p2 &&& (3 : Int32)))])) t → Steps p.tables e below (s₁.setTop (entryFrame m #[(.long q0), (.int p1), (.int p2)] maxLocals)) t := fun t k => pre1 t (by
        refine XS.ifYes X0.here hx rfl (pc0 := 14) (pc' := 26) rfl (hb hby at_14) rfl ((if0 _ _).trans (feq hc2).2) (by decide) (by decide) ?_
        show Steps p.tables e below (s₁.setTop (mkF m 26 #[.val (.long q0), .second, .val (.int p1), .val (.int p2), .val (.long (own_v0_5_0 p1)), .second, .val (.int (p2 &&& (3 : Int32))), .unset, .unset, .unset, .unset, .unset, .unset] [])) _
        refine XS.iload X0.here hx rfl (hb hby at_26) rfl ?_
        show Steps p.tables e below (s₁.setTop (mkF m 28 #[.val (.long q0), .second, .val (.int p1), .val (.int p2), .val (.long (own_v0_5_0 p1)), .second, .val (.int (p2 &&& (3 : Int32))), .unset, .unset, .unset, .unset, .unset, .unset] [(.int (p2 &&& (3 : Int32)))])) _
        refine XS.iconst X0.here hx rfl (hb hby at_28) ?_
        show Steps p.tables e below (s₁.setTop (mkF m 29 #[.val (.long q0), .second, .val (.int p1), .val (.int p2), .val (.long (own_v0_5_0 p1)), .second, .val (.int (p2 &&& (3 : Int32))), .unset, .unset, .unset, .unset, .unset, .unset] [(.int (1 : Int32)), (.int (p2 &&& (3 : Int32)))])) _
        exact k)
    by_cases hc33 : (p2 &&& (3 : Int32)) = (1 : Int32)
    · obtain ⟨_, _, ⟨T34, L34, k34, n34⟩, -, X34, ⟨Lc34, hQ34, l34, y34, z34⟩, st34⟩ := Jvm.LawKit.callS X0 hx (y := (⟨"com/example/firm_query/firmquery/ArraySlice", "normalize", "(JJ)J"⟩ : MethodName)) hown (mvT hZ (hw _ (List.mem_of_getElem? (i := 2) rfl))) (mvT hZ (hw _ (List.mem_of_getElem? (i := 3) rfl))) (mvT hZ (hw _ (List.mem_of_getElem? (i := 4) rfl))) (mvT hZ (hw _ (List.mem_of_getElem? (i := 5) rfl))) (by decide) (backOf (W := 0) (own_rm1 l Z a0 hw [] (own_v0_41_4 q0 p1) (own_v0_5_0 p1) h0 n0 Z0 ) hZ (hw _ (List.mem_of_getElem? (i := 5) rfl)) (hw _ (List.mem_of_getElem? (i := 4) rfl)) (by decide) (by decide)) (g := (mkF m 71 #[.val (.long q0), .second, .val (.int p1), .val (.int p2), .val (.long (own_v0_5_0 p1)), .second, .val (.int (p2 &&& (3 : Int32))), .val (.long (own_v0_41_4 q0 p1)), .second, .unset, .unset, .unset, .unset] [(.long (own_v0_5_0 p1)), (.long (own_v0_41_4 q0 p1))])) rfl (by rw [hml]; rfl) (argsL := [(.long (own_v0_41_4 q0 p1)), (.long (own_v0_5_0 p1))]) (rest := []) (lenOf own_pd0 rfl) rfl (by show 2 * 0 + _ ≤ _; exact Nat.le_of_eq rfl) (hb hby at_71) (fun _ _ => ⟨rfl, e0, (by decide : 0 + 0 ≤ _), (by decide : 0 + 0 ≤ _)⟩)
      dsimp only [Pt.U, Pt.locs, Pt.cells, Pt.slots] at X34 l34 y34 z34 st34 hQ34
      subst l34 y34 z34
      obtain ⟨rfl, N34q, e34⟩ := hQ34
      have N35 := Fr.app N0 N34q
      have pre36 : ∀ t, Steps p.tables e below (T34.setTop (mkF m 80 #[.val (.long q0), .second, .val (.int p1), .val (.int p2), .val (.long (own_v0_5_0 p1)), .second, .val (.int (p2 &&& (3 : Int32))), .val (.long (own_v0_41_4 q0 p1)), .second, .val (.long (own_v0_74_5 q0 p1)), .second, .unset, .unset] [(.int (lcmpW (own_v0_41_4 q0 p1) (0 : Int64)))])) t → Steps p.tables e below (s₁.setTop (entryFrame m #[(.long q0), (.int p1), (.int p2)] maxLocals)) t := fun t k => pre32 t (by
          refine XS.icmpNo X0.here hx rfl (hb hby at_29) rfl (teq hc33).2 ?_
          show Steps p.tables e below (s₁.setTop (mkF m 32 #[.val (.long q0), .second, .val (.int p1), .val (.int p2), .val (.long (own_v0_5_0 p1)), .second, .val (.int (p2 &&& (3 : Int32))), .unset, .unset, .unset, .unset, .unset, .unset] [])) _
          refine XS.lload X0.here hx rfl (hb hby at_32) rfl ?_
          show Steps p.tables e below (s₁.setTop (mkF m 34 #[.val (.long q0), .second, .val (.int p1), .val (.int p2), .val (.long (own_v0_5_0 p1)), .second, .val (.int (p2 &&& (3 : Int32))), .unset, .unset, .unset, .unset, .unset, .unset] [(.long (own_v0_5_0 p1))])) _
          refine XS.lneg X0.here hx rfl (hb hby at_34) rfl ?_
          show Steps p.tables e below (s₁.setTop (mkF m 35 #[.val (.long q0), .second, .val (.int p1), .val (.int p2), .val (.long (own_v0_5_0 p1)), .second, .val (.int (p2 &&& (3 : Int32))), .unset, .unset, .unset, .unset, .unset, .unset] [(.long (-(own_v0_5_0 p1)))])) _
          refine XS.lloadN X0.here hx rfl (hb hby at_35) rfl ?_
          show Steps p.tables e below (s₁.setTop (mkF m 36 #[.val (.long q0), .second, .val (.int p1), .val (.int p2), .val (.long (own_v0_5_0 p1)), .second, .val (.int (p2 &&& (3 : Int32))), .unset, .unset, .unset, .unset, .unset, .unset] [(.long q0), (.long (-(own_v0_5_0 p1)))])) _
          refine X0.ldc2Long hx hown (mvT hZ (hw _ (List.mem_of_getElem? (i := 1) rfl))) (g := (mkF m 36 #[.val (.long q0), .second, .val (.int p1), .val (.int p2), .val (.long (own_v0_5_0 p1)), .second, .val (.int (p2 &&& (3 : Int32))), .unset, .unset, .unset, .unset, .unset, .unset] [(.long q0), (.long (-(own_v0_5_0 p1)))])) rfl (hb hby at_36) _ ?_
          show Steps p.tables e below (s₁.setTop (mkF m 39 #[.val (.long q0), .second, .val (.int p1), .val (.int p2), .val (.long (own_v0_5_0 p1)), .second, .val (.int (p2 &&& (3 : Int32))), .unset, .unset, .unset, .unset, .unset, .unset] [(.long (3 : Int64)), (.long q0), (.long (-(own_v0_5_0 p1)))])) _
          refine XS.lrem X0.here hx rfl (hb hby at_39) rfl (by decide) ?_
          show Steps p.tables e below (s₁.setTop (mkF m 40 #[.val (.long q0), .second, .val (.int p1), .val (.int p2), .val (.long (own_v0_5_0 p1)), .second, .val (.int (p2 &&& (3 : Int32))), .unset, .unset, .unset, .unset, .unset, .unset] [(.long (q0 - (q0 / (3 : Int64)) * (3 : Int64))), (.long (-(own_v0_5_0 p1)))])) _
          refine XS.ladd X0.here hx rfl (hb hby at_40) rfl ?_
          show Steps p.tables e below (s₁.setTop (mkF m 41 #[.val (.long q0), .second, .val (.int p1), .val (.int p2), .val (.long (own_v0_5_0 p1)), .second, .val (.int (p2 &&& (3 : Int32))), .unset, .unset, .unset, .unset, .unset, .unset] [(.long ((-(own_v0_5_0 p1)) + (q0 - (q0 / (3 : Int64)) * (3 : Int64))))])) _
          refine XS.lstore X0.here hx rfl (hb hby at_41) rfl (l' := #[.val (.long q0), .second, .val (.int p1), .val (.int p2), .val (.long (own_v0_5_0 p1)), .second, .val (.int (p2 &&& (3 : Int32))), .val (.long (own_v0_41_4 q0 p1)), .second, .unset, .unset, .unset, .unset]) rfl ?_
          show Steps p.tables e below (s₁.setTop (mkF m 43 #[.val (.long q0), .second, .val (.int p1), .val (.int p2), .val (.long (own_v0_5_0 p1)), .second, .val (.int (p2 &&& (3 : Int32))), .val (.long (own_v0_41_4 q0 p1)), .second, .unset, .unset, .unset, .unset] [])) _
          refine XS.goto X0.here hx rfl (pc0 := 43) (pc' := 67) rfl (hb hby at_43) (by decide) (by decide) ?_
          show Steps p.tables e below (s₁.setTop (mkF m 67 #[.val (.long q0), .second, .val (.int p1), .val (.int p2), .val (.long (own_v0_5_0 p1)), .second, .val (.int (p2 &&& (3 : Int32))), .val (.long (own_v0_41_4 q0 p1)), .second, .unset, .unset, .unset, .unset] [])) _
          refine XS.lload X0.here hx rfl (hb hby at_67) rfl ?_
          show Steps p.tables e below (s₁.setTop (mkF m 69 #[.val (.long q0), .second, .val (.int p1), .val (.int p2), .val (.long (own_v0_5_0 p1)), .second, .val (.int (p2 &&& (3 : Int32))), .val (.long (own_v0_41_4 q0 p1)), .second, .unset, .unset, .unset, .unset] [(.long (own_v0_41_4 q0 p1))])) _
          refine XS.lload X0.here hx rfl (hb hby at_69) rfl ?_
          show Steps p.tables e below (s₁.setTop (mkF m 71 #[.val (.long q0), .second, .val (.int p1), .val (.int p2), .val (.long (own_v0_5_0 p1)), .second, .val (.int (p2 &&& (3 : Int32))), .val (.long (own_v0_41_4 q0 p1)), .second, .unset, .unset, .unset, .unset] [(.long (own_v0_5_0 p1)), (.long (own_v0_41_4 q0 p1))])) _
          refine st34 _ ?_
          show Steps p.tables e below (T34.setTop (mkF m 74 #[.val (.long q0), .second, .val (.int p1), .val (.int p2), .val (.long (own_v0_5_0 p1)), .second, .val (.int (p2 &&& (3 : Int32))), .val (.long (own_v0_41_4 q0 p1)), .second, .unset, .unset, .unset, .unset] [(.long (own_f1 (own_v0_41_4 q0 p1) (own_v0_5_0 p1)))])) _
          refine XS.lstore X34.here hx rfl (hb hby at_74) rfl (l' := #[.val (.long q0), .second, .val (.int p1), .val (.int p2), .val (.long (own_v0_5_0 p1)), .second, .val (.int (p2 &&& (3 : Int32))), .val (.long (own_v0_41_4 q0 p1)), .second, .val (.long (own_v0_74_5 q0 p1)), .second, .unset, .unset]) rfl ?_
          show Steps p.tables e below (T34.setTop (mkF m 76 #[.val (.long q0), .second, .val (.int p1), .val (.int p2), .val (.long (own_v0_5_0 p1)), .second, .val (.int (p2 &&& (3 : Int32))), .val (.long (own_v0_41_4 q0 p1)), .second, .val (.long (own_v0_74_5 q0 p1)), .second, .unset, .unset] [])) _
          refine XS.lload X34.here hx rfl (hb hby at_76) rfl ?_
          show Steps p.tables e below (T34.setTop (mkF m 78 #[.val (.long q0), .second, .val (.int p1), .val (.int p2), .val (.long (own_v0_5_0 p1)), .second, .val (.int (p2 &&& (3 : Int32))), .val (.long (own_v0_41_4 q0 p1)), .second, .val (.long (own_v0_74_5 q0 p1)), .second, .unset, .unset] [(.long (own_v0_41_4 q0 p1))])) _
          refine XS.lconst X34.here hx rfl (hb hby at_78) ?_
          show Steps p.tables e below (T34.setTop (mkF m 79 #[.val (.long q0), .second, .val (.int p1), .val (.int p2), .val (.long (own_v0_5_0 p1)), .second, .val (.int (p2 &&& (3 : Int32))), .val (.long (own_v0_41_4 q0 p1)), .second, .val (.long (own_v0_74_5 q0 p1)), .second, .unset, .unset] [(.long (0 : Int64)), (.long (own_v0_41_4 q0 p1))])) _
          refine XS.lcmp X34.here hx rfl (hb hby at_79) rfl ?_
          show Steps p.tables e below (T34.setTop (mkF m 80 #[.val (.long q0), .second, .val (.int p1), .val (.int p2), .val (.long (own_v0_5_0 p1)), .second, .val (.int (p2 &&& (3 : Int32))), .val (.long (own_v0_41_4 q0 p1)), .second, .val (.long (own_v0_74_5 q0 p1)), .second, .unset, .unset] [(.int (lcmpW (own_v0_41_4 q0 p1) (0 : Int64)))])) _
          exact k)
      by_cases hc37 : (own_v0_41_4 q0 p1) < (0 : Int64)
      · have pre38 : ∀ t, Steps p.tables e below (T34.setTop (mkF m 105 #[.val (.long q0), .second, .val (.int p1), .val (.int p2), .val (.long (own_v0_5_0 p1)), .second, .val (.int (p2 &&& (3 : Int32))), .val (.long (own_v0_41_4 q0 p1)), .second, .val (.long (own_v0_74_5 q0 p1)), .second, .unset, .unset] [(.int (lcmpW (own_v0_74_5 q0 p1) ((own_v0_5_0 p1) + (own_v0_41_4 q0 p1))))])) t → Steps p.tables e below (s₁.setTop (entryFrame m #[(.long q0), (.int p1), (.int p2)] maxLocals)) t := fun t k => pre36 t (by
            refine XS.ifYes X34.here hx rfl (pc0 := 80) (pc' := 97) rfl (hb hby at_80) rfl ((if0 _ _).trans (tlt ((own_lw_lt _ _).mpr hc37)).1) (by decide) (by decide) ?_
            show Steps p.tables e below (T34.setTop (mkF m 97 #[.val (.long q0), .second, .val (.int p1), .val (.int p2), .val (.long (own_v0_5_0 p1)), .second, .val (.int (p2 &&& (3 : Int32))), .val (.long (own_v0_41_4 q0 p1)), .second, .val (.long (own_v0_74_5 q0 p1)), .second, .unset, .unset] [])) _
            refine XS.lload X34.here hx rfl (hb hby at_97) rfl ?_
            show Steps p.tables e below (T34.setTop (mkF m 99 #[.val (.long q0), .second, .val (.int p1), .val (.int p2), .val (.long (own_v0_5_0 p1)), .second, .val (.int (p2 &&& (3 : Int32))), .val (.long (own_v0_41_4 q0 p1)), .second, .val (.long (own_v0_74_5 q0 p1)), .second, .unset, .unset] [(.long (own_v0_74_5 q0 p1))])) _
            refine XS.lload X34.here hx rfl (hb hby at_99) rfl ?_
            show Steps p.tables e below (T34.setTop (mkF m 101 #[.val (.long q0), .second, .val (.int p1), .val (.int p2), .val (.long (own_v0_5_0 p1)), .second, .val (.int (p2 &&& (3 : Int32))), .val (.long (own_v0_41_4 q0 p1)), .second, .val (.long (own_v0_74_5 q0 p1)), .second, .unset, .unset] [(.long (own_v0_5_0 p1)), (.long (own_v0_74_5 q0 p1))])) _
            refine XS.lload X34.here hx rfl (hb hby at_101) rfl ?_
            show Steps p.tables e below (T34.setTop (mkF m 103 #[.val (.long q0), .second, .val (.int p1), .val (.int p2), .val (.long (own_v0_5_0 p1)), .second, .val (.int (p2 &&& (3 : Int32))), .val (.long (own_v0_41_4 q0 p1)), .second, .val (.long (own_v0_74_5 q0 p1)), .second, .unset, .unset] [(.long (own_v0_41_4 q0 p1)), (.long (own_v0_5_0 p1)), (.long (own_v0_74_5 q0 p1))])) _
            refine XS.ladd X34.here hx rfl (hb hby at_103) rfl ?_
            show Steps p.tables e below (T34.setTop (mkF m 104 #[.val (.long q0), .second, .val (.int p1), .val (.int p2), .val (.long (own_v0_5_0 p1)), .second, .val (.int (p2 &&& (3 : Int32))), .val (.long (own_v0_41_4 q0 p1)), .second, .val (.long (own_v0_74_5 q0 p1)), .second, .unset, .unset] [(.long ((own_v0_5_0 p1) + (own_v0_41_4 q0 p1))), (.long (own_v0_74_5 q0 p1))])) _
            refine XS.lcmp X34.here hx rfl (hb hby at_104) rfl ?_
            show Steps p.tables e below (T34.setTop (mkF m 105 #[.val (.long q0), .second, .val (.int p1), .val (.int p2), .val (.long (own_v0_5_0 p1)), .second, .val (.int (p2 &&& (3 : Int32))), .val (.long (own_v0_41_4 q0 p1)), .second, .val (.long (own_v0_74_5 q0 p1)), .second, .unset, .unset] [(.int (lcmpW (own_v0_74_5 q0 p1) ((own_v0_5_0 p1) + (own_v0_41_4 q0 p1))))])) _
            exact k)
        by_cases hc39 : (own_v0_74_5 q0 p1) = ((own_v0_5_0 p1) + (own_v0_41_4 q0 p1))
        · have pre40 : ∀ t, Steps p.tables e below (T34.setTop (mkF m 113 #[.val (.long q0), .second, .val (.int p1), .val (.int p2), .val (.long (own_v0_5_0 p1)), .second, .val (.int (p2 &&& (3 : Int32))), .val (.long (own_v0_41_4 q0 p1)), .second, .val (.long (own_v0_74_5 q0 p1)), .second, .unset, .unset] [(.int (lcmpW (own_v0_74_5 q0 p1) (own_v0_5_0 p1)))])) t → Steps p.tables e below (s₁.setTop (entryFrame m #[(.long q0), (.int p1), (.int p2)] maxLocals)) t := fun t k => pre38 t (by
              refine XS.ifNo X34.here hx rfl (hb hby at_105) rfl ((if0 _ _).trans (teq ((own_lw_eq _ _).mpr hc39)).2) ?_
              show Steps p.tables e below (T34.setTop (mkF m 108 #[.val (.long q0), .second, .val (.int p1), .val (.int p2), .val (.long (own_v0_5_0 p1)), .second, .val (.int (p2 &&& (3 : Int32))), .val (.long (own_v0_41_4 q0 p1)), .second, .val (.long (own_v0_74_5 q0 p1)), .second, .unset, .unset] [])) _
              refine XS.lload X34.here hx rfl (hb hby at_108) rfl ?_
              show Steps p.tables e below (T34.setTop (mkF m 110 #[.val (.long q0), .second, .val (.int p1), .val (.int p2), .val (.long (own_v0_5_0 p1)), .second, .val (.int (p2 &&& (3 : Int32))), .val (.long (own_v0_41_4 q0 p1)), .second, .val (.long (own_v0_74_5 q0 p1)), .second, .unset, .unset] [(.long (own_v0_74_5 q0 p1))])) _
              refine XS.lload X34.here hx rfl (hb hby at_110) rfl ?_
              show Steps p.tables e below (T34.setTop (mkF m 112 #[.val (.long q0), .second, .val (.int p1), .val (.int p2), .val (.long (own_v0_5_0 p1)), .second, .val (.int (p2 &&& (3 : Int32))), .val (.long (own_v0_41_4 q0 p1)), .second, .val (.long (own_v0_74_5 q0 p1)), .second, .unset, .unset] [(.long (own_v0_5_0 p1)), (.long (own_v0_74_5 q0 p1))])) _
              refine XS.lcmp X34.here hx rfl (hb hby at_112) rfl ?_
              show Steps p.tables e below (T34.setTop (mkF m 113 #[.val (.long q0), .second, .val (.int p1), .val (.int p2), .val (.long (own_v0_5_0 p1)), .second, .val (.int (p2 &&& (3 : Int32))), .val (.long (own_v0_41_4 q0 p1)), .second, .val (.long (own_v0_74_5 q0 p1)), .second, .unset, .unset] [(.int (lcmpW (own_v0_74_5 q0 p1) (own_v0_5_0 p1)))])) _
              exact k)
          by_cases hc41 : (own_v0_74_5 q0 p1) < (own_v0_5_0 p1)
          · have pre42 : ∀ t, Steps p.tables e below (T34.setTop (mkF m 124 #[.val (.long q0), .second, .val (.int p1), .val (.int p2), .val (.long (own_v0_5_0 p1)), .second, .val (.int (p2 &&& (3 : Int32))), .val (.long (own_v0_41_4 q0 p1)), .second, .val (.long (own_v0_74_5 q0 p1)), .second, .unset, .unset] [(.int (lcmpW (own_v0_41_4 q0 p1) (-(own_v0_5_0 p1))))])) t → Steps p.tables e below (s₁.setTop (entryFrame m #[(.long q0), (.int p1), (.int p2)] maxLocals)) t := fun t k => pre40 t (by
                refine XS.ifYes X34.here hx rfl (pc0 := 113) (pc' := 118) rfl (hb hby at_113) rfl ((if0 _ _).trans (tlt ((own_lw_lt _ _).mpr hc41)).1) (by decide) (by decide) ?_
                show Steps p.tables e below (T34.setTop (mkF m 118 #[.val (.long q0), .second, .val (.int p1), .val (.int p2), .val (.long (own_v0_5_0 p1)), .second, .val (.int (p2 &&& (3 : Int32))), .val (.long (own_v0_41_4 q0 p1)), .second, .val (.long (own_v0_74_5 q0 p1)), .second, .unset, .unset] [])) _
                refine XS.lload X34.here hx rfl (hb hby at_118) rfl ?_
                show Steps p.tables e below (T34.setTop (mkF m 120 #[.val (.long q0), .second, .val (.int p1), .val (.int p2), .val (.long (own_v0_5_0 p1)), .second, .val (.int (p2 &&& (3 : Int32))), .val (.long (own_v0_41_4 q0 p1)), .second, .val (.long (own_v0_74_5 q0 p1)), .second, .unset, .unset] [(.long (own_v0_41_4 q0 p1))])) _
                refine XS.lload X34.here hx rfl (hb hby at_120) rfl ?_
                show Steps p.tables e below (T34.setTop (mkF m 122 #[.val (.long q0), .second, .val (.int p1), .val (.int p2), .val (.long (own_v0_5_0 p1)), .second, .val (.int (p2 &&& (3 : Int32))), .val (.long (own_v0_41_4 q0 p1)), .second, .val (.long (own_v0_74_5 q0 p1)), .second, .unset, .unset] [(.long (own_v0_5_0 p1)), (.long (own_v0_41_4 q0 p1))])) _
                refine XS.lneg X34.here hx rfl (hb hby at_122) rfl ?_
                show Steps p.tables e below (T34.setTop (mkF m 123 #[.val (.long q0), .second, .val (.int p1), .val (.int p2), .val (.long (own_v0_5_0 p1)), .second, .val (.int (p2 &&& (3 : Int32))), .val (.long (own_v0_41_4 q0 p1)), .second, .val (.long (own_v0_74_5 q0 p1)), .second, .unset, .unset] [(.long (-(own_v0_5_0 p1))), (.long (own_v0_41_4 q0 p1))])) _
                refine XS.lcmp X34.here hx rfl (hb hby at_123) rfl ?_
                show Steps p.tables e below (T34.setTop (mkF m 124 #[.val (.long q0), .second, .val (.int p1), .val (.int p2), .val (.long (own_v0_5_0 p1)), .second, .val (.int (p2 &&& (3 : Int32))), .val (.long (own_v0_41_4 q0 p1)), .second, .val (.long (own_v0_74_5 q0 p1)), .second, .unset, .unset] [(.int (lcmpW (own_v0_41_4 q0 p1) (-(own_v0_5_0 p1))))])) _
                exact k)
            by_cases hc43 : (own_v0_41_4 q0 p1) < (-(own_v0_5_0 p1))
            · have pre44 : ∀ t, Steps p.tables e below (T34.setTop (mkF m 164 #[.val (.long q0), .second, .val (.int p1), .val (.int p2), .val (.long (own_v0_5_0 p1)), .second, .val (.int (p2 &&& (3 : Int32))), .val (.long (own_v0_41_4 q0 p1)), .second, .val (.long (own_v0_74_5 q0 p1)), .second, .unset, .unset] [(.int (lcmpW (own_v0_74_5 q0 p1) (0 : Int64)))])) t → Steps p.tables e below (s₁.setTop (entryFrame m #[(.long q0), (.int p1), (.int p2)] maxLocals)) t := fun t k => pre42 t (by
                  refine XS.ifYes X34.here hx rfl (pc0 := 124) (pc' := 160) rfl (hb hby at_124) rfl ((if0 _ _).trans (tlt ((own_lw_lt _ _).mpr hc43)).1) (by decide) (by decide) ?_
                  show Steps p.tables e below (T34.setTop (mkF m 160 #[.val (.long q0), .second, .val (.int p1), .val (.int p2), .val (.long (own_v0_5_0 p1)), .second, .val (.int (p2 &&& (3 : Int32))), .val (.long (own_v0_41_4 q0 p1)), .second, .val (.long (own_v0_74_5 q0 p1)), .second, .unset, .unset] [])) _
                  refine XS.lload X34.here hx rfl (hb hby at_160) rfl ?_
                  show Steps p.tables e below (T34.setTop (mkF m 162 #[.val (.long q0), .second, .val (.int p1), .val (.int p2), .val (.long (own_v0_5_0 p1)), .second, .val (.int (p2 &&& (3 : Int32))), .val (.long (own_v0_41_4 q0 p1)), .second, .val (.long (own_v0_74_5 q0 p1)), .second, .unset, .unset] [(.long (own_v0_74_5 q0 p1))])) _
                  refine XS.lconst X34.here hx rfl (hb hby at_162) ?_
                  show Steps p.tables e below (T34.setTop (mkF m 163 #[.val (.long q0), .second, .val (.int p1), .val (.int p2), .val (.long (own_v0_5_0 p1)), .second, .val (.int (p2 &&& (3 : Int32))), .val (.long (own_v0_41_4 q0 p1)), .second, .val (.long (own_v0_74_5 q0 p1)), .second, .unset, .unset] [(.long (0 : Int64)), (.long (own_v0_74_5 q0 p1))])) _
                  refine XS.lcmp X34.here hx rfl (hb hby at_163) rfl ?_
                  show Steps p.tables e below (T34.setTop (mkF m 164 #[.val (.long q0), .second, .val (.int p1), .val (.int p2), .val (.long (own_v0_5_0 p1)), .second, .val (.int (p2 &&& (3 : Int32))), .val (.long (own_v0_41_4 q0 p1)), .second, .val (.long (own_v0_74_5 q0 p1)), .second, .unset, .unset] [(.int (lcmpW (own_v0_74_5 q0 p1) (0 : Int64)))])) _
                  exact k)
              by_cases hc45 : (own_v0_74_5 q0 p1) < (0 : Int64)
              · have pre46 : ∀ t, Steps p.tables e below (T34.setTop (mkF m 172 #[.val (.long q0), .second, .val (.int p1), .val (.int p2), .val (.long (own_v0_5_0 p1)), .second, .val (.int (p2 &&& (3 : Int32))), .val (.long (own_v0_41_4 q0 p1)), .second, .val (.long (own_v0_74_5 q0 p1)), .second, .unset, .unset] [(.int (1 : Int32))])) t → Steps p.tables e below (s₁.setTop (entryFrame m #[(.long q0), (.int p1), (.int p2)] maxLocals)) t := fun t k => pre44 t (by
                    refine XS.ifNo X34.here hx rfl (hb hby at_164) rfl ((if0 _ _).trans (tlt ((own_lw_lt _ _).mpr hc45)).2.1) ?_
                    show Steps p.tables e below (T34.setTop (mkF m 167 #[.val (.long q0), .second, .val (.int p1), .val (.int p2), .val (.long (own_v0_5_0 p1)), .second, .val (.int (p2 &&& (3 : Int32))), .val (.long (own_v0_41_4 q0 p1)), .second, .val (.long (own_v0_74_5 q0 p1)), .second, .unset, .unset] [])) _
                    refine XS.iconst X34.here hx rfl (hb hby at_167) ?_
                    show Steps p.tables e below (T34.setTop (mkF m 168 #[.val (.long q0), .second, .val (.int p1), .val (.int p2), .val (.long (own_v0_5_0 p1)), .second, .val (.int (p2 &&& (3 : Int32))), .val (.long (own_v0_41_4 q0 p1)), .second, .val (.long (own_v0_74_5 q0 p1)), .second, .unset, .unset] [(.int (1 : Int32))])) _
                    refine XS.goto X34.here hx rfl (pc0 := 168) (pc' := 172) rfl (hb hby at_168) (by decide) (by decide) ?_
                    show Steps p.tables e below (T34.setTop (mkF m 172 #[.val (.long q0), .second, .val (.int p1), .val (.int p2), .val (.long (own_v0_5_0 p1)), .second, .val (.int (p2 &&& (3 : Int32))), .val (.long (own_v0_41_4 q0 p1)), .second, .val (.long (own_v0_74_5 q0 p1)), .second, .unset, .unset] [(.int (1 : Int32))])) _
                    exact k)
                obtain ⟨fs, hr, hrun, hended, hW, hsame⟩ := X34.leave (v := some (.int (1 : Int32))) (fun h => by rw [Bd.returns] at h; cases h) (hlocks := hlk)
                refine ⟨_, _, pre46 _ ?_, hrun, hended, _, _, rfl, ?_, ⟨_, rfl⟩, hW, hsame.mono (by decide) (by decide)⟩
                · show Steps p.tables e below (T34.setTop (mkF m 172 #[.val (.long q0), .second, .val (.int p1), .val (.int p2), .val (.long (own_v0_5_0 p1)), .second, .val (.int (p2 &&& (3 : Int32))), .val (.long (own_v0_41_4 q0 p1)), .second, .val (.long (own_v0_74_5 q0 p1)), .second, .unset, .unset] [(.int (1 : Int32))])) _
                  exact retN X34 hx (t := .boolean) Bd.returns (by simp) (hb hby at_172) hr
                · show own_Q0 Z q0 p1 p2 h0 n0 _ T34.heap _; exact ⟨(by show some (Value.int _) = some (.int (own_f0 q0 p1 p2)); unfold own_f0; rw [if_neg hc2, if_pos hc33, if_pos hc37, if_pos hc39, if_pos hc41, if_pos hc43, if_pos hc45]), N35⟩
              · have pre47 : ∀ t, Steps p.tables e below (T34.setTop (mkF m 172 #[.val (.long q0), .second, .val (.int p1), .val (.int p2), .val (.long (own_v0_5_0 p1)), .second, .val (.int (p2 &&& (3 : Int32))), .val (.long (own_v0_41_4 q0 p1)), .second, .val (.long (own_v0_74_5 q0 p1)), .second, .unset, .unset] [(.int (0 : Int32))])) t → Steps p.tables e below (s₁.setTop (entryFrame m #[(.long q0), (.int p1), (.int p2)] maxLocals)) t := fun t k => pre44 t (by
                    refine XS.ifYes X34.here hx rfl (pc0 := 164) (pc' := 171) rfl (hb hby at_164) rfl ((if0 _ _).trans (flt (mt (own_lw_lt _ _).mp hc45)).2.1) (by decide) (by decide) ?_
                    show Steps p.tables e below (T34.setTop (mkF m 171 #[.val (.long q0), .second, .val (.int p1), .val (.int p2), .val (.long (own_v0_5_0 p1)), .second, .val (.int (p2 &&& (3 : Int32))), .val (.long (own_v0_41_4 q0 p1)), .second, .val (.long (own_v0_74_5 q0 p1)), .second, .unset, .unset] [])) _
                    refine XS.iconst X34.here hx rfl (hb hby at_171) ?_
                    show Steps p.tables e below (T34.setTop (mkF m 172 #[.val (.long q0), .second, .val (.int p1), .val (.int p2), .val (.long (own_v0_5_0 p1)), .second, .val (.int (p2 &&& (3 : Int32))), .val (.long (own_v0_41_4 q0 p1)), .second, .val (.long (own_v0_74_5 q0 p1)), .second, .unset, .unset] [(.int (0 : Int32))])) _
                    exact k)
                obtain ⟨fs, hr, hrun, hended, hW, hsame⟩ := X34.leave (v := some (.int (0 : Int32))) (fun h => by rw [Bd.returns] at h; cases h) (hlocks := hlk)
                refine ⟨_, _, pre47 _ ?_, hrun, hended, _, _, rfl, ?_, ⟨_, rfl⟩, hW, hsame.mono (by decide) (by decide)⟩
                · show Steps p.tables e below (T34.setTop (mkF m 172 #[.val (.long q0), .second, .val (.int p1), .val (.int p2), .val (.long (own_v0_5_0 p1)), .second, .val (.int (p2 &&& (3 : Int32))), .val (.long (own_v0_41_4 q0 p1)), .second, .val (.long (own_v0_74_5 q0 p1)), .second, .unset, .unset] [(.int (0 : Int32))])) _
                  exact retN X34 hx (t := .boolean) Bd.returns (by simp) (hb hby at_172) hr
                · show own_Q0 Z q0 p1 p2 h0 n0 _ T34.heap _; exact ⟨(by show some (Value.int _) = some (.int (own_f0 q0 p1 p2)); unfold own_f0; rw [if_neg hc2, if_pos hc33, if_pos hc37, if_pos hc39, if_pos hc41, if_pos hc43, if_neg hc45]), N35⟩
            · obtain ⟨_, _, ⟨T48, L48, k48, n48⟩, -, X48, ⟨Lc48, hQ48, l48, y48, z48⟩, st48⟩ := Jvm.LawKit.callS X34 hx (y := (⟨"com/example/firm_query/firmquery/ArraySlice", "normalize", "(JJ)J"⟩ : MethodName)) hown (mvT hZ (hw _ (List.mem_of_getElem? (i := 2) rfl))) (mvT hZ (hw _ (List.mem_of_getElem? (i := 3) rfl))) (mvT hZ (hw _ (List.mem_of_getElem? (i := 4) rfl))) (mvT hZ (hw _ (List.mem_of_getElem? (i := 5) rfl))) (by decide) (backOf (W := 0) (own_rm1 l Z a0 hw [] ((own_v0_41_4 q0 p1) + (own_v0_5_0 p1)) (own_v0_5_0 p1) h0 n0 Z0 ) hZ (hw _ (List.mem_of_getElem? (i := 5) rfl)) (hw _ (List.mem_of_getElem? (i := 4) rfl)) (by decide) (by decide)) (g := (mkF m 134 #[.val (.long q0), .second, .val (.int p1), .val (.int p2), .val (.long (own_v0_5_0 p1)), .second, .val (.int (p2 &&& (3 : Int32))), .val (.long (own_v0_41_4 q0 p1)), .second, .val (.long (own_v0_74_5 q0 p1)), .second, .unset, .unset] [(.long (own_v0_5_0 p1)), (.long ((own_v0_41_4 q0 p1) + (own_v0_5_0 p1)))])) rfl (by rw [hml]; rfl) (argsL := [(.long ((own_v0_41_4 q0 p1) + (own_v0_5_0 p1))), (.long (own_v0_5_0 p1))]) (rest := []) (lenOf own_pd0 rfl) rfl (by show 2 * 0 + _ ≤ _; exact Nat.le_of_eq rfl) (hb hby at_134) (fun _ _ => ⟨rfl, e34, (by decide : 0 + 0 ≤ _), (by decide : 0 + 0 ≤ _)⟩)
              dsimp only [Pt.U, Pt.locs, Pt.cells, Pt.slots] at X48 l48 y48 z48 st48 hQ48
              subst l48 y48 z48
              obtain ⟨rfl, N48q, e48⟩ := hQ48
              have N49 := Fr.app N35 N48q
              have pre50 : ∀ t, Steps p.tables e below (T48.setTop (mkF m 144 #[.val (.long q0), .second, .val (.int p1), .val (.int p2), .val (.long (own_v0_5_0 p1)), .second, .val (.int (p2 &&& (3 : Int32))), .val (.long (own_v0_41_4 q0 p1)), .second, .val (.long (own_v0_74_5 q0 p1)), .second, .val (.long (own_v0_137_6 q0 p1)), .second] [(.int (lcmpW (own_v0_74_5 q0 p1) (own_v0_137_6 q0 p1)))])) t → Steps p.tables e below (s₁.setTop (entryFrame m #[(.long q0), (.int p1), (.int p2)] maxLocals)) t := fun t k => pre42 t (by
                  refine XS.ifNo X34.here hx rfl (hb hby at_124) rfl ((if0 _ _).trans (flt (mt (own_lw_lt _ _).mp hc43)).1) ?_
                  show Steps p.tables e below (T34.setTop (mkF m 127 #[.val (.long q0), .second, .val (.int p1), .val (.int p2), .val (.long (own_v0_5_0 p1)), .second, .val (.int (p2 &&& (3 : Int32))), .val (.long (own_v0_41_4 q0 p1)), .second, .val (.long (own_v0_74_5 q0 p1)), .second, .unset, .unset] [])) _
                  refine XS.lload X34.here hx rfl (hb hby at_127) rfl ?_
                  show Steps p.tables e below (T34.setTop (mkF m 129 #[.val (.long q0), .second, .val (.int p1), .val (.int p2), .val (.long (own_v0_5_0 p1)), .second, .val (.int (p2 &&& (3 : Int32))), .val (.long (own_v0_41_4 q0 p1)), .second, .val (.long (own_v0_74_5 q0 p1)), .second, .unset, .unset] [(.long (own_v0_41_4 q0 p1))])) _
                  refine XS.lload X34.here hx rfl (hb hby at_129) rfl ?_
                  show Steps p.tables e below (T34.setTop (mkF m 131 #[.val (.long q0), .second, .val (.int p1), .val (.int p2), .val (.long (own_v0_5_0 p1)), .second, .val (.int (p2 &&& (3 : Int32))), .val (.long (own_v0_41_4 q0 p1)), .second, .val (.long (own_v0_74_5 q0 p1)), .second, .unset, .unset] [(.long (own_v0_5_0 p1)), (.long (own_v0_41_4 q0 p1))])) _
                  refine XS.ladd X34.here hx rfl (hb hby at_131) rfl ?_
                  show Steps p.tables e below (T34.setTop (mkF m 132 #[.val (.long q0), .second, .val (.int p1), .val (.int p2), .val (.long (own_v0_5_0 p1)), .second, .val (.int (p2 &&& (3 : Int32))), .val (.long (own_v0_41_4 q0 p1)), .second, .val (.long (own_v0_74_5 q0 p1)), .second, .unset, .unset] [(.long ((own_v0_41_4 q0 p1) + (own_v0_5_0 p1)))])) _
                  refine XS.lload X34.here hx rfl (hb hby at_132) rfl ?_
                  show Steps p.tables e below (T34.setTop (mkF m 134 #[.val (.long q0), .second, .val (.int p1), .val (.int p2), .val (.long (own_v0_5_0 p1)), .second, .val (.int (p2 &&& (3 : Int32))), .val (.long (own_v0_41_4 q0 p1)), .second, .val (.long (own_v0_74_5 q0 p1)), .second, .unset, .unset] [(.long (own_v0_5_0 p1)), (.long ((own_v0_41_4 q0 p1) + (own_v0_5_0 p1)))])) _
                  refine st48 _ ?_
                  show Steps p.tables e below (T48.setTop (mkF m 137 #[.val (.long q0), .second, .val (.int p1), .val (.int p2), .val (.long (own_v0_5_0 p1)), .second, .val (.int (p2 &&& (3 : Int32))), .val (.long (own_v0_41_4 q0 p1)), .second, .val (.long (own_v0_74_5 q0 p1)), .second, .unset, .unset] [(.long (own_f1 ((own_v0_41_4 q0 p1) + (own_v0_5_0 p1)) (own_v0_5_0 p1)))])) _
                  refine XS.lstore X48.here hx rfl (hb hby at_137) rfl (l' := #[.val (.long q0), .second, .val (.int p1), .val (.int p2), .val (.long (own_v0_5_0 p1)), .second, .val (.int (p2 &&& (3 : Int32))), .val (.long (own_v0_41_4 q0 p1)), .second, .val (.long (own_v0_74_5 q0 p1)), .second, .val (.long (own_v0_137_6 q0 p1)), .second]) rfl ?_
                  show Steps p.tables e below (T48.setTop (mkF m 139 #[.val (.long q0), .second, .val (.int p1), .val (.int p2), .val (.long (own_v0_5_0 p1)), .second, .val (.int (p2 &&& (3 : Int32))), .val (.long (own_v0_41_4 q0 p1)), .second, .val (.long (own_v0_74_5 q0 p1)), .second, .val (.long (own_v0_137_6 q0 p1)), .second] [])) _
                  refine XS.lload X48.here hx rfl (hb hby at_139) rfl ?_
                  show Steps p.tables e below (T48.setTop (mkF m 141 #[.val (.long q0), .second, .val (.int p1), .val (.int p2), .val (.long (own_v0_5_0 p1)), .second, .val (.int (p2 &&& (3 : Int32))), .val (.long (own_v0_41_4 q0 p1)), .second, .val (.long (own_v0_74_5 q0 p1)), .second, .val (.long (own_v0_137_6 q0 p1)), .second] [(.long (own_v0_74_5 q0 p1))])) _
                  refine XS.lload X48.here hx rfl (hb hby at_141) rfl ?_
                  show Steps p.tables e below (T48.setTop (mkF m 143 #[.val (.long q0), .second, .val (.int p1), .val (.int p2), .val (.long (own_v0_5_0 p1)), .second, .val (.int (p2 &&& (3 : Int32))), .val (.long (own_v0_41_4 q0 p1)), .second, .val (.long (own_v0_74_5 q0 p1)), .second, .val (.long (own_v0_137_6 q0 p1)), .second] [(.long (own_v0_137_6 q0 p1)), (.long (own_v0_74_5 q0 p1))])) _
                  refine XS.lcmp X48.here hx rfl (hb hby at_143) rfl ?_
                  show Steps p.tables e below (T48.setTop (mkF m 144 #[.val (.long q0), .second, .val (.int p1), .val (.int p2), .val (.long (own_v0_5_0 p1)), .second, .val (.int (p2 &&& (3 : Int32))), .val (.long (own_v0_41_4 q0 p1)), .second, .val (.long (own_v0_74_5 q0 p1)), .second, .val (.long (own_v0_137_6 q0 p1)), .second] [(.int (lcmpW (own_v0_74_5 q0 p1) (own_v0_137_6 q0 p1)))])) _
                  exact k)
              by_cases hc51 : (own_v0_74_5 q0 p1) = (own_v0_137_6 q0 p1)
              · have pre52 : ∀ t, Steps p.tables e below (T48.setTop (mkF m 151 #[.val (.long q0), .second, .val (.int p1), .val (.int p2), .val (.long (own_v0_5_0 p1)), .second, .val (.int (p2 &&& (3 : Int32))), .val (.long (own_v0_41_4 q0 p1)), .second, .val (.long (own_v0_74_5 q0 p1)), .second, .val (.long (own_v0_137_6 q0 p1)), .second] [(.int (lcmpW (own_v0_74_5 q0 p1) (0 : Int64)))])) t → Steps p.tables e below (s₁.setTop (entryFrame m #[(.long q0), (.int p1), (.int p2)] maxLocals)) t := fun t k => pre50 t (by
                    refine XS.ifNo X48.here hx rfl (hb hby at_144) rfl ((if0 _ _).trans (teq ((own_lw_eq _ _).mpr hc51)).2) ?_
                    show Steps p.tables e below (T48.setTop (mkF m 147 #[.val (.long q0), .second, .val (.int p1), .val (.int p2), .val (.long (own_v0_5_0 p1)), .second, .val (.int (p2 &&& (3 : Int32))), .val (.long (own_v0_41_4 q0 p1)), .second, .val (.long (own_v0_74_5 q0 p1)), .second, .val (.long (own_v0_137_6 q0 p1)), .second] [])) _
                    refine XS.lload X48.here hx rfl (hb hby at_147) rfl ?_
                    show Steps p.tables e below (T48.setTop (mkF m 149 #[.val (.long q0), .second, .val (.int p1), .val (.int p2), .val (.long (own_v0_5_0 p1)), .second, .val (.int (p2 &&& (3 : Int32))), .val (.long (own_v0_41_4 q0 p1)), .second, .val (.long (own_v0_74_5 q0 p1)), .second, .val (.long (own_v0_137_6 q0 p1)), .second] [(.long (own_v0_74_5 q0 p1))])) _
                    refine XS.lconst X48.here hx rfl (hb hby at_149) ?_
                    show Steps p.tables e below (T48.setTop (mkF m 150 #[.val (.long q0), .second, .val (.int p1), .val (.int p2), .val (.long (own_v0_5_0 p1)), .second, .val (.int (p2 &&& (3 : Int32))), .val (.long (own_v0_41_4 q0 p1)), .second, .val (.long (own_v0_74_5 q0 p1)), .second, .val (.long (own_v0_137_6 q0 p1)), .second] [(.long (0 : Int64)), (.long (own_v0_74_5 q0 p1))])) _
                    refine XS.lcmp X48.here hx rfl (hb hby at_150) rfl ?_
                    show Steps p.tables e below (T48.setTop (mkF m 151 #[.val (.long q0), .second, .val (.int p1), .val (.int p2), .val (.long (own_v0_5_0 p1)), .second, .val (.int (p2 &&& (3 : Int32))), .val (.long (own_v0_41_4 q0 p1)), .second, .val (.long (own_v0_74_5 q0 p1)), .second, .val (.long (own_v0_137_6 q0 p1)), .second] [(.int (lcmpW (own_v0_74_5 q0 p1) (0 : Int64)))])) _
                    exact k)
                by_cases hc53 : (own_v0_74_5 q0 p1) < (0 : Int64)
                · have pre54 : ∀ t, Steps p.tables e below (T48.setTop (mkF m 159 #[.val (.long q0), .second, .val (.int p1), .val (.int p2), .val (.long (own_v0_5_0 p1)), .second, .val (.int (p2 &&& (3 : Int32))), .val (.long (own_v0_41_4 q0 p1)), .second, .val (.long (own_v0_74_5 q0 p1)), .second, .val (.long (own_v0_137_6 q0 p1)), .second] [(.int (0 : Int32))])) t → Steps p.tables e below (s₁.setTop (entryFrame m #[(.long q0), (.int p1), (.int p2)] maxLocals)) t := fun t k => pre52 t (by
                      refine XS.ifYes X48.here hx rfl (pc0 := 151) (pc' := 158) rfl (hb hby at_151) rfl ((if0 _ _).trans (tlt ((own_lw_lt _ _).mpr hc53)).1) (by decide) (by decide) ?_
                      show Steps p.tables e below (T48.setTop (mkF m 158 #[.val (.long q0), .second, .val (.int p1), .val (.int p2), .val (.long (own_v0_5_0 p1)), .second, .val (.int (p2 &&& (3 : Int32))), .val (.long (own_v0_41_4 q0 p1)), .second, .val (.long (own_v0_74_5 q0 p1)), .second, .val (.long (own_v0_137_6 q0 p1)), .second] [])) _
                      refine XS.iconst X48.here hx rfl (hb hby at_158) ?_
                      show Steps p.tables e below (T48.setTop (mkF m 159 #[.val (.long q0), .second, .val (.int p1), .val (.int p2), .val (.long (own_v0_5_0 p1)), .second, .val (.int (p2 &&& (3 : Int32))), .val (.long (own_v0_41_4 q0 p1)), .second, .val (.long (own_v0_74_5 q0 p1)), .second, .val (.long (own_v0_137_6 q0 p1)), .second] [(.int (0 : Int32))])) _
                      exact k)
                  obtain ⟨fs, hr, hrun, hended, hW, hsame⟩ := X48.leave (v := some (.int (0 : Int32))) (fun h => by rw [Bd.returns] at h; cases h) (hlocks := hlk)
                  refine ⟨_, _, pre54 _ ?_, hrun, hended, _, _, rfl, ?_, ⟨_, rfl⟩, hW, hsame.mono (by decide) (by decide)⟩
                  · show Steps p.tables e below (T48.setTop (mkF m 159 #[.val (.long q0), .second, .val (.int p1), .val (.int p2), .val (.long (own_v0_5_0 p1)), .second, .val (.int (p2 &&& (3 : Int32))), .val (.long (own_v0_41_4 q0 p1)), .second, .val (.long (own_v0_74_5 q0 p1)), .second, .val (.long (own_v0_137_6 q0 p1)), .second] [(.int (0 : Int32))])) _
                    exact retN X48 hx (t := .boolean) Bd.returns (by simp) (hb hby at_159) hr
                  · show own_Q0 Z q0 p1 p2 h0 n0 _ T48.heap _; exact ⟨(by show some (Value.int _) = some (.int (own_f0 q0 p1 p2)); unfold own_f0; rw [if_neg hc2, if_pos hc33, if_pos hc37, if_pos hc39, if_pos hc41, if_neg hc43, if_pos hc51, if_pos hc53]), N49⟩
                · have pre55 : ∀ t, Steps p.tables e below (T48.setTop (mkF m 159 #[.val (.long q0), .second, .val (.int p1), .val (.int p2), .val (.long (own_v0_5_0 p1)), .second, .val (.int (p2 &&& (3 : Int32))), .val (.long (own_v0_41_4 q0 p1)), .second, .val (.long (own_v0_74_5 q0 p1)), .second, .val (.long (own_v0_137_6 q0 p1)), .second] [(.int (1 : Int32))])) t → Steps p.tables e below (s₁.setTop (entryFrame m #[(.long q0), (.int p1), (.int p2)] maxLocals)) t := fun t k => pre52 t (by
                      refine XS.ifNo X48.here hx rfl (hb hby at_151) rfl ((if0 _ _).trans (flt (mt (own_lw_lt _ _).mp hc53)).1) ?_
                      show Steps p.tables e below (T48.setTop (mkF m 154 #[.val (.long q0), .second, .val (.int p1), .val (.int p2), .val (.long (own_v0_5_0 p1)), .second, .val (.int (p2 &&& (3 : Int32))), .val (.long (own_v0_41_4 q0 p1)), .second, .val (.long (own_v0_74_5 q0 p1)), .second, .val (.long (own_v0_137_6 q0 p1)), .second] [])) _
                      refine XS.iconst X48.here hx rfl (hb hby at_154) ?_
                      show Steps p.tables e below (T48.setTop (mkF m 155 #[.val (.long q0), .second, .val (.int p1), .val (.int p2), .val (.long (own_v0_5_0 p1)), .second, .val (.int (p2 &&& (3 : Int32))), .val (.long (own_v0_41_4 q0 p1)), .second, .val (.long (own_v0_74_5 q0 p1)), .second, .val (.long (own_v0_137_6 q0 p1)), .second] [(.int (1 : Int32))])) _
                      refine XS.goto X48.here hx rfl (pc0 := 155) (pc' := 159) rfl (hb hby at_155) (by decide) (by decide) ?_
                      show Steps p.tables e below (T48.setTop (mkF m 159 #[.val (.long q0), .second, .val (.int p1), .val (.int p2), .val (.long (own_v0_5_0 p1)), .second, .val (.int (p2 &&& (3 : Int32))), .val (.long (own_v0_41_4 q0 p1)), .second, .val (.long (own_v0_74_5 q0 p1)), .second, .val (.long (own_v0_137_6 q0 p1)), .second] [(.int (1 : Int32))])) _
                      exact k)
                  obtain ⟨fs, hr, hrun, hended, hW, hsame⟩ := X48.leave (v := some (.int (1 : Int32))) (fun h => by rw [Bd.returns] at h; cases h) (hlocks := hlk)
                  refine ⟨_, _, pre55 _ ?_, hrun, hended, _, _, rfl, ?_, ⟨_, rfl⟩, hW, hsame.mono (by decide) (by decide)⟩
                  · show Steps p.tables e below (T48.setTop (mkF m 159 #[.val (.long q0), .second, .val (.int p1), .val (.int p2), .val (.long (own_v0_5_0 p1)), .second, .val (.int (p2 &&& (3 : Int32))), .val (.long (own_v0_41_4 q0 p1)), .second, .val (.long (own_v0_74_5 q0 p1)), .second, .val (.long (own_v0_137_6 q0 p1)), .second] [(.int (1 : Int32))])) _
                    exact retN X48 hx (t := .boolean) Bd.returns (by simp) (hb hby at_159) hr
                  · show own_Q0 Z q0 p1 p2 h0 n0 _ T48.heap _; exact ⟨(by show some (Value.int _) = some (.int (own_f0 q0 p1 p2)); unfold own_f0; rw [if_neg hc2, if_pos hc33, if_pos hc37, if_pos hc39, if_pos hc41, if_neg hc43, if_pos hc51, if_neg hc53]), N49⟩
              · have pre56 : ∀ t, Steps p.tables e below (T48.setTop (mkF m 159 #[.val (.long q0), .second, .val (.int p1), .val (.int p2), .val (.long (own_v0_5_0 p1)), .second, .val (.int (p2 &&& (3 : Int32))), .val (.long (own_v0_41_4 q0 p1)), .second, .val (.long (own_v0_74_5 q0 p1)), .second, .val (.long (own_v0_137_6 q0 p1)), .second] [(.int (0 : Int32))])) t → Steps p.tables e below (s₁.setTop (entryFrame m #[(.long q0), (.int p1), (.int p2)] maxLocals)) t := fun t k => pre50 t (by
                    refine XS.ifYes X48.here hx rfl (pc0 := 144) (pc' := 158) rfl (hb hby at_144) rfl ((if0 _ _).trans (feq (mt (own_lw_eq _ _).mp hc51)).2) (by decide) (by decide) ?_
                    show Steps p.tables e below (T48.setTop (mkF m 158 #[.val (.long q0), .second, .val (.int p1), .val (.int p2), .val (.long (own_v0_5_0 p1)), .second, .val (.int (p2 &&& (3 : Int32))), .val (.long (own_v0_41_4 q0 p1)), .second, .val (.long (own_v0_74_5 q0 p1)), .second, .val (.long (own_v0_137_6 q0 p1)), .second] [])) _
                    refine XS.iconst X48.here hx rfl (hb hby at_158) ?_
                    show Steps p.tables e below (T48.setTop (mkF m 159 #[.val (.long q0), .second, .val (.int p1), .val (.int p2), .val (.long (own_v0_5_0 p1)), .second, .val (.int (p2 &&& (3 : Int32))), .val (.long (own_v0_41_4 q0 p1)), .second, .val (.long (own_v0_74_5 q0 p1)), .second, .val (.long (own_v0_137_6 q0 p1)), .second] [(.int (0 : Int32))])) _
                    exact k)
                obtain ⟨fs, hr, hrun, hended, hW, hsame⟩ := X48.leave (v := some (.int (0 : Int32))) (fun h => by rw [Bd.returns] at h; cases h) (hlocks := hlk)
                refine ⟨_, _, pre56 _ ?_, hrun, hended, _, _, rfl, ?_, ⟨_, rfl⟩, hW, hsame.mono (by decide) (by decide)⟩
                · show Steps p.tables e below (T48.setTop (mkF m 159 #[.val (.long q0), .second, .val (.int p1), .val (.int p2), .val (.long (own_v0_5_0 p1)), .second, .val (.int (p2 &&& (3 : Int32))), .val (.long (own_v0_41_4 q0 p1)), .second, .val (.long (own_v0_74_5 q0 p1)), .second, .val (.long (own_v0_137_6 q0 p1)), .second] [(.int (0 : Int32))])) _
                  exact retN X48 hx (t := .boolean) Bd.returns (by simp) (hb hby at_159) hr
                · show own_Q0 Z q0 p1 p2 h0 n0 _ T48.heap _; exact ⟨(by show some (Value.int _) = some (.int (own_f0 q0 p1 p2)); unfold own_f0; rw [if_neg hc2, if_pos hc33, if_pos hc37, if_pos hc39, if_pos hc41, if_neg hc43, if_neg hc51]), N49⟩
          · have pre57 : ∀ t, Steps p.tables e below (T34.setTop (mkF m 117 #[.val (.long q0), .second, .val (.int p1), .val (.int p2), .val (.long (own_v0_5_0 p1)), .second, .val (.int (p2 &&& (3 : Int32))), .val (.long (own_v0_41_4 q0 p1)), .second, .val (.long (own_v0_74_5 q0 p1)), .second, .unset, .unset] [(.int (0 : Int32))])) t → Steps p.tables e below (s₁.setTop (entryFrame m #[(.long q0), (.int p1), (.int p2)] maxLocals)) t := fun t k => pre40 t (by
                refine XS.ifNo X34.here hx rfl (hb hby at_113) rfl ((if0 _ _).trans (flt (mt (own_lw_lt _ _).mp hc41)).1) ?_
                show Steps p.tables e below (T34.setTop (mkF m 116 #[.val (.long q0), .second, .val (.int p1), .val (.int p2), .val (.long (own_v0_5_0 p1)), .second, .val (.int (p2 &&& (3 : Int32))), .val (.long (own_v0_41_4 q0 p1)), .second, .val (.long (own_v0_74_5 q0 p1)), .second, .unset, .unset] [])) _
                refine XS.iconst X34.here hx rfl (hb hby at_116) ?_
                show Steps p.tables e below (T34.setTop (mkF m 117 #[.val (.long q0), .second, .val (.int p1), .val (.int p2), .val (.long (own_v0_5_0 p1)), .second, .val (.int (p2 &&& (3 : Int32))), .val (.long (own_v0_41_4 q0 p1)), .second, .val (.long (own_v0_74_5 q0 p1)), .second, .unset, .unset] [(.int (0 : Int32))])) _
                exact k)
            obtain ⟨fs, hr, hrun, hended, hW, hsame⟩ := X34.leave (v := some (.int (0 : Int32))) (fun h => by rw [Bd.returns] at h; cases h) (hlocks := hlk)
            refine ⟨_, _, pre57 _ ?_, hrun, hended, _, _, rfl, ?_, ⟨_, rfl⟩, hW, hsame.mono (by decide) (by decide)⟩
            · show Steps p.tables e below (T34.setTop (mkF m 117 #[.val (.long q0), .second, .val (.int p1), .val (.int p2), .val (.long (own_v0_5_0 p1)), .second, .val (.int (p2 &&& (3 : Int32))), .val (.long (own_v0_41_4 q0 p1)), .second, .val (.long (own_v0_74_5 q0 p1)), .second, .unset, .unset] [(.int (0 : Int32))])) _
              exact retN X34 hx (t := .boolean) Bd.returns (by simp) (hb hby at_117) hr
            · show own_Q0 Z q0 p1 p2 h0 n0 _ T34.heap _; exact ⟨(by show some (Value.int _) = some (.int (own_f0 q0 p1 p2)); unfold own_f0; rw [if_neg hc2, if_pos hc33, if_pos hc37, if_pos hc39, if_neg hc41]), N35⟩
        · have pre58 : ∀ t, Steps p.tables e below (T34.setTop (mkF m 117 #[.val (.long q0), .second, .val (.int p1), .val (.int p2), .val (.long (own_v0_5_0 p1)), .second, .val (.int (p2 &&& (3 : Int32))), .val (.long (own_v0_41_4 q0 p1)), .second, .val (.long (own_v0_74_5 q0 p1)), .second, .unset, .unset] [(.int (0 : Int32))])) t → Steps p.tables e below (s₁.setTop (entryFrame m #[(.long q0), (.int p1), (.int p2)] maxLocals)) t := fun t k => pre38 t (by
              refine XS.ifYes X34.here hx rfl (pc0 := 105) (pc' := 116) rfl (hb hby at_105) rfl ((if0 _ _).trans (feq (mt (own_lw_eq _ _).mp hc39)).2) (by decide) (by decide) ?_
              show Steps p.tables e below (T34.setTop (mkF m 116 #[.val (.long q0), .second, .val (.int p1), .val (.int p2), .val (.long (own_v0_5_0 p1)), .second, .val (.int (p2 &&& (3 : Int32))), .val (.long (own_v0_41_4 q0 p1)), .second, .val (.long (own_v0_74_5 q0 p1)), .second, .unset, .unset] [])) _
              refine XS.iconst X34.here hx rfl (hb hby at_116) ?_
              show Steps p.tables e below (T34.setTop (mkF m 117 #[.val (.long q0), .second, .val (.int p1), .val (.int p2), .val (.long (own_v0_5_0 p1)), .second, .val (.int (p2 &&& (3 : Int32))), .val (.long (own_v0_41_4 q0 p1)), .second, .val (.long (own_v0_74_5 q0 p1)), .second, .unset, .unset] [(.int (0 : Int32))])) _
              exact k)
          obtain ⟨fs, hr, hrun, hended, hW, hsame⟩ := X34.leave (v := some (.int (0 : Int32))) (fun h => by rw [Bd.returns] at h; cases h) (hlocks := hlk)
          refine ⟨_, _, pre58 _ ?_, hrun, hended, _, _, rfl, ?_, ⟨_, rfl⟩, hW, hsame.mono (by decide) (by decide)⟩
          · show Steps p.tables e below (T34.setTop (mkF m 117 #[.val (.long q0), .second, .val (.int p1), .val (.int p2), .val (.long (own_v0_5_0 p1)), .second, .val (.int (p2 &&& (3 : Int32))), .val (.long (own_v0_41_4 q0 p1)), .second, .val (.long (own_v0_74_5 q0 p1)), .second, .unset, .unset] [(.int (0 : Int32))])) _
            exact retN X34 hx (t := .boolean) Bd.returns (by simp) (hb hby at_117) hr
          · show own_Q0 Z q0 p1 p2 h0 n0 _ T34.heap _; exact ⟨(by show some (Value.int _) = some (.int (own_f0 q0 p1 p2)); unfold own_f0; rw [if_neg hc2, if_pos hc33, if_pos hc37, if_neg hc39]), N35⟩
      · have pre59 : ∀ t, Steps p.tables e below (T34.setTop (mkF m 88 #[.val (.long q0), .second, .val (.int p1), .val (.int p2), .val (.long (own_v0_5_0 p1)), .second, .val (.int (p2 &&& (3 : Int32))), .val (.long (own_v0_41_4 q0 p1)), .second, .val (.long (own_v0_74_5 q0 p1)), .second, .unset, .unset] [(.int (lcmpW (own_v0_74_5 q0 p1) (own_v0_41_4 q0 p1)))])) t → Steps p.tables e below (s₁.setTop (entryFrame m #[(.long q0), (.int p1), (.int p2)] maxLocals)) t := fun t k => pre36 t (by
            refine XS.ifNo X34.here hx rfl (hb hby at_80) rfl ((if0 _ _).trans (flt (mt (own_lw_lt _ _).mp hc37)).1) ?_
            show Steps p.tables e below (T34.setTop (mkF m 83 #[.val (.long q0), .second, .val (.int p1), .val (.int p2), .val (.long (own_v0_5_0 p1)), .second, .val (.int (p2 &&& (3 : Int32))), .val (.long (own_v0_41_4 q0 p1)), .second, .val (.long (own_v0_74_5 q0 p1)), .second, .unset, .unset] [])) _
            refine XS.lload X34.here hx rfl (hb hby at_83) rfl ?_
            show Steps p.tables e below (T34.setTop (mkF m 85 #[.val (.long q0), .second, .val (.int p1), .val (.int p2), .val (.long (own_v0_5_0 p1)), .second, .val (.int (p2 &&& (3 : Int32))), .val (.long (own_v0_41_4 q0 p1)), .second, .val (.long (own_v0_74_5 q0 p1)), .second, .unset, .unset] [(.long (own_v0_74_5 q0 p1))])) _
            refine XS.lload X34.here hx rfl (hb hby at_85) rfl ?_
            show Steps p.tables e below (T34.setTop (mkF m 87 #[.val (.long q0), .second, .val (.int p1), .val (.int p2), .val (.long (own_v0_5_0 p1)), .second, .val (.int (p2 &&& (3 : Int32))), .val (.long (own_v0_41_4 q0 p1)), .second, .val (.long (own_v0_74_5 q0 p1)), .second, .unset, .unset] [(.long (own_v0_41_4 q0 p1)), (.long (own_v0_74_5 q0 p1))])) _
            refine XS.lcmp X34.here hx rfl (hb hby at_87) rfl ?_
            show Steps p.tables e below (T34.setTop (mkF m 88 #[.val (.long q0), .second, .val (.int p1), .val (.int p2), .val (.long (own_v0_5_0 p1)), .second, .val (.int (p2 &&& (3 : Int32))), .val (.long (own_v0_41_4 q0 p1)), .second, .val (.long (own_v0_74_5 q0 p1)), .second, .unset, .unset] [(.int (lcmpW (own_v0_74_5 q0 p1) (own_v0_41_4 q0 p1)))])) _
            exact k)
        by_cases hc60 : (own_v0_74_5 q0 p1) = (own_v0_41_4 q0 p1)
        · have pre61 : ∀ t, Steps p.tables e below (T34.setTop (mkF m 96 #[.val (.long q0), .second, .val (.int p1), .val (.int p2), .val (.long (own_v0_5_0 p1)), .second, .val (.int (p2 &&& (3 : Int32))), .val (.long (own_v0_41_4 q0 p1)), .second, .val (.long (own_v0_74_5 q0 p1)), .second, .unset, .unset] [(.int (1 : Int32))])) t → Steps p.tables e below (s₁.setTop (entryFrame m #[(.long q0), (.int p1), (.int p2)] maxLocals)) t := fun t k => pre59 t (by
              refine XS.ifNo X34.here hx rfl (hb hby at_88) rfl ((if0 _ _).trans (teq ((own_lw_eq _ _).mpr hc60)).2) ?_
              show Steps p.tables e below (T34.setTop (mkF m 91 #[.val (.long q0), .second, .val (.int p1), .val (.int p2), .val (.long (own_v0_5_0 p1)), .second, .val (.int (p2 &&& (3 : Int32))), .val (.long (own_v0_41_4 q0 p1)), .second, .val (.long (own_v0_74_5 q0 p1)), .second, .unset, .unset] [])) _
              refine XS.iconst X34.here hx rfl (hb hby at_91) ?_
              show Steps p.tables e below (T34.setTop (mkF m 92 #[.val (.long q0), .second, .val (.int p1), .val (.int p2), .val (.long (own_v0_5_0 p1)), .second, .val (.int (p2 &&& (3 : Int32))), .val (.long (own_v0_41_4 q0 p1)), .second, .val (.long (own_v0_74_5 q0 p1)), .second, .unset, .unset] [(.int (1 : Int32))])) _
              refine XS.goto X34.here hx rfl (pc0 := 92) (pc' := 96) rfl (hb hby at_92) (by decide) (by decide) ?_
              show Steps p.tables e below (T34.setTop (mkF m 96 #[.val (.long q0), .second, .val (.int p1), .val (.int p2), .val (.long (own_v0_5_0 p1)), .second, .val (.int (p2 &&& (3 : Int32))), .val (.long (own_v0_41_4 q0 p1)), .second, .val (.long (own_v0_74_5 q0 p1)), .second, .unset, .unset] [(.int (1 : Int32))])) _
              exact k)
          obtain ⟨fs, hr, hrun, hended, hW, hsame⟩ := X34.leave (v := some (.int (1 : Int32))) (fun h => by rw [Bd.returns] at h; cases h) (hlocks := hlk)
          refine ⟨_, _, pre61 _ ?_, hrun, hended, _, _, rfl, ?_, ⟨_, rfl⟩, hW, hsame.mono (by decide) (by decide)⟩
          · show Steps p.tables e below (T34.setTop (mkF m 96 #[.val (.long q0), .second, .val (.int p1), .val (.int p2), .val (.long (own_v0_5_0 p1)), .second, .val (.int (p2 &&& (3 : Int32))), .val (.long (own_v0_41_4 q0 p1)), .second, .val (.long (own_v0_74_5 q0 p1)), .second, .unset, .unset] [(.int (1 : Int32))])) _
            exact retN X34 hx (t := .boolean) Bd.returns (by simp) (hb hby at_96) hr
          · show own_Q0 Z q0 p1 p2 h0 n0 _ T34.heap _; exact ⟨(by show some (Value.int _) = some (.int (own_f0 q0 p1 p2)); unfold own_f0; rw [if_neg hc2, if_pos hc33, if_neg hc37, if_pos hc60]), N35⟩
        · have pre62 : ∀ t, Steps p.tables e below (T34.setTop (mkF m 96 #[.val (.long q0), .second, .val (.int p1), .val (.int p2), .val (.long (own_v0_5_0 p1)), .second, .val (.int (p2 &&& (3 : Int32))), .val (.long (own_v0_41_4 q0 p1)), .second, .val (.long (own_v0_74_5 q0 p1)), .second, .unset, .unset] [(.int (0 : Int32))])) t → Steps p.tables e below (s₁.setTop (entryFrame m #[(.long q0), (.int p1), (.int p2)] maxLocals)) t := fun t k => pre59 t (by
              refine XS.ifYes X34.here hx rfl (pc0 := 88) (pc' := 95) rfl (hb hby at_88) rfl ((if0 _ _).trans (feq (mt (own_lw_eq _ _).mp hc60)).2) (by decide) (by decide) ?_
              show Steps p.tables e below (T34.setTop (mkF m 95 #[.val (.long q0), .second, .val (.int p1), .val (.int p2), .val (.long (own_v0_5_0 p1)), .second, .val (.int (p2 &&& (3 : Int32))), .val (.long (own_v0_41_4 q0 p1)), .second, .val (.long (own_v0_74_5 q0 p1)), .second, .unset, .unset] [])) _
              refine XS.iconst X34.here hx rfl (hb hby at_95) ?_
              show Steps p.tables e below (T34.setTop (mkF m 96 #[.val (.long q0), .second, .val (.int p1), .val (.int p2), .val (.long (own_v0_5_0 p1)), .second, .val (.int (p2 &&& (3 : Int32))), .val (.long (own_v0_41_4 q0 p1)), .second, .val (.long (own_v0_74_5 q0 p1)), .second, .unset, .unset] [(.int (0 : Int32))])) _
              exact k)
          obtain ⟨fs, hr, hrun, hended, hW, hsame⟩ := X34.leave (v := some (.int (0 : Int32))) (fun h => by rw [Bd.returns] at h; cases h) (hlocks := hlk)
          refine ⟨_, _, pre62 _ ?_, hrun, hended, _, _, rfl, ?_, ⟨_, rfl⟩, hW, hsame.mono (by decide) (by decide)⟩
          · show Steps p.tables e below (T34.setTop (mkF m 96 #[.val (.long q0), .second, .val (.int p1), .val (.int p2), .val (.long (own_v0_5_0 p1)), .second, .val (.int (p2 &&& (3 : Int32))), .val (.long (own_v0_41_4 q0 p1)), .second, .val (.long (own_v0_74_5 q0 p1)), .second, .unset, .unset] [(.int (0 : Int32))])) _
            exact retN X34 hx (t := .boolean) Bd.returns (by simp) (hb hby at_96) hr
          · show own_Q0 Z q0 p1 p2 h0 n0 _ T34.heap _; exact ⟨(by show some (Value.int _) = some (.int (own_f0 q0 p1 p2)); unfold own_f0; rw [if_neg hc2, if_pos hc33, if_neg hc37, if_neg hc60]), N35⟩
    · have pre63 : ∀ t, Steps p.tables e below (s₁.setTop (mkF m 49 #[.val (.long q0), .second, .val (.int p1), .val (.int p2), .val (.long (own_v0_5_0 p1)), .second, .val (.int (p2 &&& (3 : Int32))), .unset, .unset, .unset, .unset, .unset, .unset] [(.int (2 : Int32)), (.int (p2 &&& (3 : Int32)))])) t → Steps p.tables e below (s₁.setTop (entryFrame m #[(.long q0), (.int p1), (.int p2)] maxLocals)) t := fun t k => pre32 t (by
          refine XS.icmpYes X0.here hx rfl (pc0 := 29) (pc' := 46) rfl (hb hby at_29) rfl (feq hc33).2 (by decide) (by decide) ?_
          show Steps p.tables e below (s₁.setTop (mkF m 46 #[.val (.long q0), .second, .val (.int p1), .val (.int p2), .val (.long (own_v0_5_0 p1)), .second, .val (.int (p2 &&& (3 : Int32))), .unset, .unset, .unset, .unset, .unset, .unset] [])) _
          refine XS.iload X0.here hx rfl (hb hby at_46) rfl ?_
          show Steps p.tables e below (s₁.setTop (mkF m 48 #[.val (.long q0), .second, .val (.int p1), .val (.int p2), .val (.long (own_v0_5_0 p1)), .second, .val (.int (p2 &&& (3 : Int32))), .unset, .unset, .unset, .unset, .unset, .unset] [(.int (p2 &&& (3 : Int32)))])) _
          refine XS.iconst X0.here hx rfl (hb hby at_48) ?_
          show Steps p.tables e below (s₁.setTop (mkF m 49 #[.val (.long q0), .second, .val (.int p1), .val (.int p2), .val (.long (own_v0_5_0 p1)), .second, .val (.int (p2 &&& (3 : Int32))), .unset, .unset, .unset, .unset, .unset, .unset] [(.int (2 : Int32)), (.int (p2 &&& (3 : Int32)))])) _
          exact k)
      by_cases hc64 : (p2 &&& (3 : Int32)) = (2 : Int32)
      · obtain ⟨_, _, ⟨T65, L65, k65, n65⟩, -, X65, ⟨Lc65, hQ65, l65, y65, z65⟩, st65⟩ := Jvm.LawKit.callS X0 hx (y := (⟨"com/example/firm_query/firmquery/ArraySlice", "normalize", "(JJ)J"⟩ : MethodName)) hown (mvT hZ (hw _ (List.mem_of_getElem? (i := 2) rfl))) (mvT hZ (hw _ (List.mem_of_getElem? (i := 3) rfl))) (mvT hZ (hw _ (List.mem_of_getElem? (i := 4) rfl))) (mvT hZ (hw _ (List.mem_of_getElem? (i := 5) rfl))) (by decide) (backOf (W := 0) (own_rm1 l Z a0 hw [] (own_v0_57_7 q0) (own_v0_5_0 p1) h0 n0 Z0 ) hZ (hw _ (List.mem_of_getElem? (i := 5) rfl)) (hw _ (List.mem_of_getElem? (i := 4) rfl)) (by decide) (by decide)) (g := (mkF m 71 #[.val (.long q0), .second, .val (.int p1), .val (.int p2), .val (.long (own_v0_5_0 p1)), .second, .val (.int (p2 &&& (3 : Int32))), .val (.long (own_v0_57_7 q0)), .second, .unset, .unset, .unset, .unset] [(.long (own_v0_5_0 p1)), (.long (own_v0_57_7 q0))])) rfl (by rw [hml]; rfl) (argsL := [(.long (own_v0_57_7 q0)), (.long (own_v0_5_0 p1))]) (rest := []) (lenOf own_pd0 rfl) rfl (by show 2 * 0 + _ ≤ _; exact Nat.le_of_eq rfl) (hb hby at_71) (fun _ _ => ⟨rfl, e0, (by decide : 0 + 0 ≤ _), (by decide : 0 + 0 ≤ _)⟩)
        dsimp only [Pt.U, Pt.locs, Pt.cells, Pt.slots] at X65 l65 y65 z65 st65 hQ65
        subst l65 y65 z65
        obtain ⟨rfl, N65q, e65⟩ := hQ65
        have N66 := Fr.app N0 N65q
        have pre67 : ∀ t, Steps p.tables e below (T65.setTop (mkF m 80 #[.val (.long q0), .second, .val (.int p1), .val (.int p2), .val (.long (own_v0_5_0 p1)), .second, .val (.int (p2 &&& (3 : Int32))), .val (.long (own_v0_57_7 q0)), .second, .val (.long (own_v0_74_8 q0 p1)), .second, .unset, .unset] [(.int (lcmpW (own_v0_57_7 q0) (0 : Int64)))])) t → Steps p.tables e below (s₁.setTop (entryFrame m #[(.long q0), (.int p1), (.int p2)] maxLocals)) t := fun t k => pre63 t (by
            refine XS.icmpNo X0.here hx rfl (hb hby at_49) rfl (teq hc64).2 ?_
            show Steps p.tables e below (s₁.setTop (mkF m 52 #[.val (.long q0), .second, .val (.int p1), .val (.int p2), .val (.long (own_v0_5_0 p1)), .second, .val (.int (p2 &&& (3 : Int32))), .unset, .unset, .unset, .unset, .unset, .unset] [])) _
            refine XS.lloadN X0.here hx rfl (hb hby at_52) rfl ?_
            show Steps p.tables e below (s₁.setTop (mkF m 53 #[.val (.long q0), .second, .val (.int p1), .val (.int p2), .val (.long (own_v0_5_0 p1)), .second, .val (.int (p2 &&& (3 : Int32))), .unset, .unset, .unset, .unset, .unset, .unset] [(.long q0)])) _
            refine X0.ldc2Long hx hown (mvT hZ (hw _ (List.mem_of_getElem? (i := 1) rfl))) (g := (mkF m 53 #[.val (.long q0), .second, .val (.int p1), .val (.int p2), .val (.long (own_v0_5_0 p1)), .second, .val (.int (p2 &&& (3 : Int32))), .unset, .unset, .unset, .unset, .unset, .unset] [(.long q0)])) rfl (hb hby at_53) _ ?_
            show Steps p.tables e below (s₁.setTop (mkF m 56 #[.val (.long q0), .second, .val (.int p1), .val (.int p2), .val (.long (own_v0_5_0 p1)), .second, .val (.int (p2 &&& (3 : Int32))), .unset, .unset, .unset, .unset, .unset, .unset] [(.long (3 : Int64)), (.long q0)])) _
            refine XS.lrem X0.here hx rfl (hb hby at_56) rfl (by decide) ?_
            show Steps p.tables e below (s₁.setTop (mkF m 57 #[.val (.long q0), .second, .val (.int p1), .val (.int p2), .val (.long (own_v0_5_0 p1)), .second, .val (.int (p2 &&& (3 : Int32))), .unset, .unset, .unset, .unset, .unset, .unset] [(.long (q0 - (q0 / (3 : Int64)) * (3 : Int64)))])) _
            refine XS.lstore X0.here hx rfl (hb hby at_57) rfl (l' := #[.val (.long q0), .second, .val (.int p1), .val (.int p2), .val (.long (own_v0_5_0 p1)), .second, .val (.int (p2 &&& (3 : Int32))), .val (.long (own_v0_57_7 q0)), .second, .unset, .unset, .unset, .unset]) rfl ?_
            show Steps p.tables e below (s₁.setTop (mkF m 59 #[.val (.long q0), .second, .val (.int p1), .val (.int p2), .val (.long (own_v0_5_0 p1)), .second, .val (.int (p2 &&& (3 : Int32))), .val (.long (own_v0_57_7 q0)), .second, .unset, .unset, .unset, .unset] [])) _
            refine XS.goto X0.here hx rfl (pc0 := 59) (pc' := 67) rfl (hb hby at_59) (by decide) (by decide) ?_
            show Steps p.tables e below (s₁.setTop (mkF m 67 #[.val (.long q0), .second, .val (.int p1), .val (.int p2), .val (.long (own_v0_5_0 p1)), .second, .val (.int (p2 &&& (3 : Int32))), .val (.long (own_v0_57_7 q0)), .second, .unset, .unset, .unset, .unset] [])) _
            refine XS.lload X0.here hx rfl (hb hby at_67) rfl ?_
            show Steps p.tables e below (s₁.setTop (mkF m 69 #[.val (.long q0), .second, .val (.int p1), .val (.int p2), .val (.long (own_v0_5_0 p1)), .second, .val (.int (p2 &&& (3 : Int32))), .val (.long (own_v0_57_7 q0)), .second, .unset, .unset, .unset, .unset] [(.long (own_v0_57_7 q0))])) _
            refine XS.lload X0.here hx rfl (hb hby at_69) rfl ?_
            show Steps p.tables e below (s₁.setTop (mkF m 71 #[.val (.long q0), .second, .val (.int p1), .val (.int p2), .val (.long (own_v0_5_0 p1)), .second, .val (.int (p2 &&& (3 : Int32))), .val (.long (own_v0_57_7 q0)), .second, .unset, .unset, .unset, .unset] [(.long (own_v0_5_0 p1)), (.long (own_v0_57_7 q0))])) _
            refine st65 _ ?_
            show Steps p.tables e below (T65.setTop (mkF m 74 #[.val (.long q0), .second, .val (.int p1), .val (.int p2), .val (.long (own_v0_5_0 p1)), .second, .val (.int (p2 &&& (3 : Int32))), .val (.long (own_v0_57_7 q0)), .second, .unset, .unset, .unset, .unset] [(.long (own_f1 (own_v0_57_7 q0) (own_v0_5_0 p1)))])) _
            refine XS.lstore X65.here hx rfl (hb hby at_74) rfl (l' := #[.val (.long q0), .second, .val (.int p1), .val (.int p2), .val (.long (own_v0_5_0 p1)), .second, .val (.int (p2 &&& (3 : Int32))), .val (.long (own_v0_57_7 q0)), .second, .val (.long (own_v0_74_8 q0 p1)), .second, .unset, .unset]) rfl ?_
            show Steps p.tables e below (T65.setTop (mkF m 76 #[.val (.long q0), .second, .val (.int p1), .val (.int p2), .val (.long (own_v0_5_0 p1)), .second, .val (.int (p2 &&& (3 : Int32))), .val (.long (own_v0_57_7 q0)), .second, .val (.long (own_v0_74_8 q0 p1)), .second, .unset, .unset] [])) _
            refine XS.lload X65.here hx rfl (hb hby at_76) rfl ?_
            show Steps p.tables e below (T65.setTop (mkF m 78 #[.val (.long q0), .second, .val (.int p1), .val (.int p2), .val (.long (own_v0_5_0 p1)), .second, .val (.int (p2 &&& (3 : Int32))), .val (.long (own_v0_57_7 q0)), .second, .val (.long (own_v0_74_8 q0 p1)), .second, .unset, .unset] [(.long (own_v0_57_7 q0))])) _
            refine XS.lconst X65.here hx rfl (hb hby at_78) ?_
            show Steps p.tables e below (T65.setTop (mkF m 79 #[.val (.long q0), .second, .val (.int p1), .val (.int p2), .val (.long (own_v0_5_0 p1)), .second, .val (.int (p2 &&& (3 : Int32))), .val (.long (own_v0_57_7 q0)), .second, .val (.long (own_v0_74_8 q0 p1)), .second, .unset, .unset] [(.long (0 : Int64)), (.long (own_v0_57_7 q0))])) _
            refine XS.lcmp X65.here hx rfl (hb hby at_79) rfl ?_
            show Steps p.tables e below (T65.setTop (mkF m 80 #[.val (.long q0), .second, .val (.int p1), .val (.int p2), .val (.long (own_v0_5_0 p1)), .second, .val (.int (p2 &&& (3 : Int32))), .val (.long (own_v0_57_7 q0)), .second, .val (.long (own_v0_74_8 q0 p1)), .second, .unset, .unset] [(.int (lcmpW (own_v0_57_7 q0) (0 : Int64)))])) _
            exact k)
        by_cases hc68 : (own_v0_57_7 q0) < (0 : Int64)
        · have pre69 : ∀ t, Steps p.tables e below (T65.setTop (mkF m 105 #[.val (.long q0), .second, .val (.int p1), .val (.int p2), .val (.long (own_v0_5_0 p1)), .second, .val (.int (p2 &&& (3 : Int32))), .val (.long (own_v0_57_7 q0)), .second, .val (.long (own_v0_74_8 q0 p1)), .second, .unset, .unset] [(.int (lcmpW (own_v0_74_8 q0 p1) ((own_v0_5_0 p1) + (own_v0_57_7 q0))))])) t → Steps p.tables e below (s₁.setTop (entryFrame m #[(.long q0), (.int p1), (.int p2)] maxLocals)) t := fun t k => pre67 t (by
              refine XS.ifYes X65.here hx rfl (pc0 := 80) (pc' := 97) rfl (hb hby at_80) rfl ((if0 _ _).trans (tlt ((own_lw_lt _ _).mpr hc68)).1) (by decide) (by decide) ?_
              show Steps p.tables e below (T65.setTop (mkF m 97 #[.val (.long q0), .second, .val (.int p1), .val (.int p2), .val (.long (own_v0_5_0 p1)), .second, .val (.int (p2 &&& (3 : Int32))), .val (.long (own_v0_57_7 q0)), .second, .val (.long (own_v0_74_8 q0 p1)), .second, .unset, .unset] [])) _
              refine XS.lload X65.here hx rfl (hb hby at_97) rfl ?_
              show Steps p.tables e below (T65.setTop (mkF m 99 #[.val (.long q0), .second, .val (.int p1), .val (.int p2), .val (.long (own_v0_5_0 p1)), .second, .val (.int (p2 &&& (3 : Int32))), .val (.long (own_v0_57_7 q0)), .second, .val (.long (own_v0_74_8 q0 p1)), .second, .unset, .unset] [(.long (own_v0_74_8 q0 p1))])) _
              refine XS.lload X65.here hx rfl (hb hby at_99) rfl ?_
              show Steps p.tables e below (T65.setTop (mkF m 101 #[.val (.long q0), .second, .val (.int p1), .val (.int p2), .val (.long (own_v0_5_0 p1)), .second, .val (.int (p2 &&& (3 : Int32))), .val (.long (own_v0_57_7 q0)), .second, .val (.long (own_v0_74_8 q0 p1)), .second, .unset, .unset] [(.long (own_v0_5_0 p1)), (.long (own_v0_74_8 q0 p1))])) _
              refine XS.lload X65.here hx rfl (hb hby at_101) rfl ?_
              show Steps p.tables e below (T65.setTop (mkF m 103 #[.val (.long q0), .second, .val (.int p1), .val (.int p2), .val (.long (own_v0_5_0 p1)), .second, .val (.int (p2 &&& (3 : Int32))), .val (.long (own_v0_57_7 q0)), .second, .val (.long (own_v0_74_8 q0 p1)), .second, .unset, .unset] [(.long (own_v0_57_7 q0)), (.long (own_v0_5_0 p1)), (.long (own_v0_74_8 q0 p1))])) _
              refine XS.ladd X65.here hx rfl (hb hby at_103) rfl ?_
              show Steps p.tables e below (T65.setTop (mkF m 104 #[.val (.long q0), .second, .val (.int p1), .val (.int p2), .val (.long (own_v0_5_0 p1)), .second, .val (.int (p2 &&& (3 : Int32))), .val (.long (own_v0_57_7 q0)), .second, .val (.long (own_v0_74_8 q0 p1)), .second, .unset, .unset] [(.long ((own_v0_5_0 p1) + (own_v0_57_7 q0))), (.long (own_v0_74_8 q0 p1))])) _
              refine XS.lcmp X65.here hx rfl (hb hby at_104) rfl ?_
              show Steps p.tables e below (T65.setTop (mkF m 105 #[.val (.long q0), .second, .val (.int p1), .val (.int p2), .val (.long (own_v0_5_0 p1)), .second, .val (.int (p2 &&& (3 : Int32))), .val (.long (own_v0_57_7 q0)), .second, .val (.long (own_v0_74_8 q0 p1)), .second, .unset, .unset] [(.int (lcmpW (own_v0_74_8 q0 p1) ((own_v0_5_0 p1) + (own_v0_57_7 q0))))])) _
              exact k)
          by_cases hc70 : (own_v0_74_8 q0 p1) = ((own_v0_5_0 p1) + (own_v0_57_7 q0))
          · have pre71 : ∀ t, Steps p.tables e below (T65.setTop (mkF m 113 #[.val (.long q0), .second, .val (.int p1), .val (.int p2), .val (.long (own_v0_5_0 p1)), .second, .val (.int (p2 &&& (3 : Int32))), .val (.long (own_v0_57_7 q0)), .second, .val (.long (own_v0_74_8 q0 p1)), .second, .unset, .unset] [(.int (lcmpW (own_v0_74_8 q0 p1) (own_v0_5_0 p1)))])) t → Steps p.tables e below (s₁.setTop (entryFrame m #[(.long q0), (.int p1), (.int p2)] maxLocals)) t := fun t k => pre69 t (by
                refine XS.ifNo X65.here hx rfl (hb hby at_105) rfl ((if0 _ _).trans (teq ((own_lw_eq _ _).mpr hc70)).2) ?_
                show Steps p.tables e below (T65.setTop (mkF m 108 #[.val (.long q0), .second, .val (.int p1), .val (.int p2), .val (.long (own_v0_5_0 p1)), .second, .val (.int (p2 &&& (3 : Int32))), .val (.long (own_v0_57_7 q0)), .second, .val (.long (own_v0_74_8 q0 p1)), .second, .unset, .unset] [])) _
                refine XS.lload X65.here hx rfl (hb hby at_108) rfl ?_
                show Steps p.tables e below (T65.setTop (mkF m 110 #[.val (.long q0), .second, .val (.int p1), .val (.int p2), .val (.long (own_v0_5_0 p1)), .second, .val (.int (p2 &&& (3 : Int32))), .val (.long (own_v0_57_7 q0)), .second, .val (.long (own_v0_74_8 q0 p1)), .second, .unset, .unset] [(.long (own_v0_74_8 q0 p1))])) _
                refine XS.lload X65.here hx rfl (hb hby at_110) rfl ?_
                show Steps p.tables e below (T65.setTop (mkF m 112 #[.val (.long q0), .second, .val (.int p1), .val (.int p2), .val (.long (own_v0_5_0 p1)), .second, .val (.int (p2 &&& (3 : Int32))), .val (.long (own_v0_57_7 q0)), .second, .val (.long (own_v0_74_8 q0 p1)), .second, .unset, .unset] [(.long (own_v0_5_0 p1)), (.long (own_v0_74_8 q0 p1))])) _
                refine XS.lcmp X65.here hx rfl (hb hby at_112) rfl ?_
                show Steps p.tables e below (T65.setTop (mkF m 113 #[.val (.long q0), .second, .val (.int p1), .val (.int p2), .val (.long (own_v0_5_0 p1)), .second, .val (.int (p2 &&& (3 : Int32))), .val (.long (own_v0_57_7 q0)), .second, .val (.long (own_v0_74_8 q0 p1)), .second, .unset, .unset] [(.int (lcmpW (own_v0_74_8 q0 p1) (own_v0_5_0 p1)))])) _
                exact k)
            by_cases hc72 : (own_v0_74_8 q0 p1) < (own_v0_5_0 p1)
            · have pre73 : ∀ t, Steps p.tables e below (T65.setTop (mkF m 124 #[.val (.long q0), .second, .val (.int p1), .val (.int p2), .val (.long (own_v0_5_0 p1)), .second, .val (.int (p2 &&& (3 : Int32))), .val (.long (own_v0_57_7 q0)), .second, .val (.long (own_v0_74_8 q0 p1)), .second, .unset, .unset] [(.int (lcmpW (own_v0_57_7 q0) (-(own_v0_5_0 p1))))])) t → Steps p.tables e below (s₁.setTop (entryFrame m #[(.long q0), (.int p1), (.int p2)] maxLocals)) t := fun t k => pre71 t (by
                  refine XS.ifYes X65.here hx rfl (pc0 := 113) (pc' := 118) rfl (hb hby at_113) rfl ((if0 _ _).trans (tlt ((own_lw_lt _ _).mpr hc72)).1) (by decide) (by decide) ?_
                  show Steps p.tables e below (T65.setTop (mkF m 118 #[.val (.long q0), .second, .val (.int p1), .val (.int p2), .val (.long (own_v0_5_0 p1)), .second, .val (.int (p2 &&& (3 : Int32))), .val (.long (own_v0_57_7 q0)), .second, .val (.long (own_v0_74_8 q0 p1)), .second, .unset, .unset] [])) _
                  refine XS.lload X65.here hx rfl (hb hby at_118) rfl ?_
                  show Steps p.tables e below (T65.setTop (mkF m 120 #[.val (.long q0), .second, .val (.int p1), .val (.int p2), .val (.long (own_v0_5_0 p1)), .second, .val (.int (p2 &&& (3 : Int32))), .val (.long (own_v0_57_7 q0)), .second, .val (.long (own_v0_74_8 q0 p1)), .second, .unset, .unset] [(.long (own_v0_57_7 q0))])) _
                  refine XS.lload X65.here hx rfl (hb hby at_120) rfl ?_
                  show Steps p.tables e below (T65.setTop (mkF m 122 #[.val (.long q0), .second, .val (.int p1), .val (.int p2), .val (.long (own_v0_5_0 p1)), .second, .val (.int (p2 &&& (3 : Int32))), .val (.long (own_v0_57_7 q0)), .second, .val (.long (own_v0_74_8 q0 p1)), .second, .unset, .unset] [(.long (own_v0_5_0 p1)), (.long (own_v0_57_7 q0))])) _
                  refine XS.lneg X65.here hx rfl (hb hby at_122) rfl ?_
                  show Steps p.tables e below (T65.setTop (mkF m 123 #[.val (.long q0), .second, .val (.int p1), .val (.int p2), .val (.long (own_v0_5_0 p1)), .second, .val (.int (p2 &&& (3 : Int32))), .val (.long (own_v0_57_7 q0)), .second, .val (.long (own_v0_74_8 q0 p1)), .second, .unset, .unset] [(.long (-(own_v0_5_0 p1))), (.long (own_v0_57_7 q0))])) _
                  refine XS.lcmp X65.here hx rfl (hb hby at_123) rfl ?_
                  show Steps p.tables e below (T65.setTop (mkF m 124 #[.val (.long q0), .second, .val (.int p1), .val (.int p2), .val (.long (own_v0_5_0 p1)), .second, .val (.int (p2 &&& (3 : Int32))), .val (.long (own_v0_57_7 q0)), .second, .val (.long (own_v0_74_8 q0 p1)), .second, .unset, .unset] [(.int (lcmpW (own_v0_57_7 q0) (-(own_v0_5_0 p1))))])) _
                  exact k)
              by_cases hc74 : (own_v0_57_7 q0) < (-(own_v0_5_0 p1))
              · have pre75 : ∀ t, Steps p.tables e below (T65.setTop (mkF m 164 #[.val (.long q0), .second, .val (.int p1), .val (.int p2), .val (.long (own_v0_5_0 p1)), .second, .val (.int (p2 &&& (3 : Int32))), .val (.long (own_v0_57_7 q0)), .second, .val (.long (own_v0_74_8 q0 p1)), .second, .unset, .unset] [(.int (lcmpW (own_v0_74_8 q0 p1) (0 : Int64)))])) t → Steps p.tables e below (s₁.setTop (entryFrame m #[(.long q0), (.int p1), (.int p2)] maxLocals)) t := fun t k => pre73 t (by
                    refine XS.ifYes X65.here hx rfl (pc0 := 124) (pc' := 160) rfl (hb hby at_124) rfl ((if0 _ _).trans (tlt ((own_lw_lt _ _).mpr hc74)).1) (by decide) (by decide) ?_
                    show Steps p.tables e below (T65.setTop (mkF m 160 #[.val (.long q0), .second, .val (.int p1), .val (.int p2), .val (.long (own_v0_5_0 p1)), .second, .val (.int (p2 &&& (3 : Int32))), .val (.long (own_v0_57_7 q0)), .second, .val (.long (own_v0_74_8 q0 p1)), .second, .unset, .unset] [])) _
                    refine XS.lload X65.here hx rfl (hb hby at_160) rfl ?_
                    show Steps p.tables e below (T65.setTop (mkF m 162 #[.val (.long q0), .second, .val (.int p1), .val (.int p2), .val (.long (own_v0_5_0 p1)), .second, .val (.int (p2 &&& (3 : Int32))), .val (.long (own_v0_57_7 q0)), .second, .val (.long (own_v0_74_8 q0 p1)), .second, .unset, .unset] [(.long (own_v0_74_8 q0 p1))])) _
                    refine XS.lconst X65.here hx rfl (hb hby at_162) ?_
                    show Steps p.tables e below (T65.setTop (mkF m 163 #[.val (.long q0), .second, .val (.int p1), .val (.int p2), .val (.long (own_v0_5_0 p1)), .second, .val (.int (p2 &&& (3 : Int32))), .val (.long (own_v0_57_7 q0)), .second, .val (.long (own_v0_74_8 q0 p1)), .second, .unset, .unset] [(.long (0 : Int64)), (.long (own_v0_74_8 q0 p1))])) _
                    refine XS.lcmp X65.here hx rfl (hb hby at_163) rfl ?_
                    show Steps p.tables e below (T65.setTop (mkF m 164 #[.val (.long q0), .second, .val (.int p1), .val (.int p2), .val (.long (own_v0_5_0 p1)), .second, .val (.int (p2 &&& (3 : Int32))), .val (.long (own_v0_57_7 q0)), .second, .val (.long (own_v0_74_8 q0 p1)), .second, .unset, .unset] [(.int (lcmpW (own_v0_74_8 q0 p1) (0 : Int64)))])) _
                    exact k)
                by_cases hc76 : (own_v0_74_8 q0 p1) < (0 : Int64)
                · have pre77 : ∀ t, Steps p.tables e below (T65.setTop (mkF m 172 #[.val (.long q0), .second, .val (.int p1), .val (.int p2), .val (.long (own_v0_5_0 p1)), .second, .val (.int (p2 &&& (3 : Int32))), .val (.long (own_v0_57_7 q0)), .second, .val (.long (own_v0_74_8 q0 p1)), .second, .unset, .unset] [(.int (1 : Int32))])) t → Steps p.tables e below (s₁.setTop (entryFrame m #[(.long q0), (.int p1), (.int p2)] maxLocals)) t := fun t k => pre75 t (by
                      refine XS.ifNo X65.here hx rfl (hb hby at_164) rfl ((if0 _ _).trans (tlt ((own_lw_lt _ _).mpr hc76)).2.1) ?_
                      show Steps p.tables e below (T65.setTop (mkF m 167 #[.val (.long q0), .second, .val (.int p1), .val (.int p2), .val (.long (own_v0_5_0 p1)), .second, .val (.int (p2 &&& (3 : Int32))), .val (.long (own_v0_57_7 q0)), .second, .val (.long (own_v0_74_8 q0 p1)), .second, .unset, .unset] [])) _
                      refine XS.iconst X65.here hx rfl (hb hby at_167) ?_
                      show Steps p.tables e below (T65.setTop (mkF m 168 #[.val (.long q0), .second, .val (.int p1), .val (.int p2), .val (.long (own_v0_5_0 p1)), .second, .val (.int (p2 &&& (3 : Int32))), .val (.long (own_v0_57_7 q0)), .second, .val (.long (own_v0_74_8 q0 p1)), .second, .unset, .unset] [(.int (1 : Int32))])) _
                      refine XS.goto X65.here hx rfl (pc0 := 168) (pc' := 172) rfl (hb hby at_168) (by decide) (by decide) ?_
                      show Steps p.tables e below (T65.setTop (mkF m 172 #[.val (.long q0), .second, .val (.int p1), .val (.int p2), .val (.long (own_v0_5_0 p1)), .second, .val (.int (p2 &&& (3 : Int32))), .val (.long (own_v0_57_7 q0)), .second, .val (.long (own_v0_74_8 q0 p1)), .second, .unset, .unset] [(.int (1 : Int32))])) _
                      exact k)
                  obtain ⟨fs, hr, hrun, hended, hW, hsame⟩ := X65.leave (v := some (.int (1 : Int32))) (fun h => by rw [Bd.returns] at h; cases h) (hlocks := hlk)
                  refine ⟨_, _, pre77 _ ?_, hrun, hended, _, _, rfl, ?_, ⟨_, rfl⟩, hW, hsame.mono (by decide) (by decide)⟩
                  · show Steps p.tables e below (T65.setTop (mkF m 172 #[.val (.long q0), .second, .val (.int p1), .val (.int p2), .val (.long (own_v0_5_0 p1)), .second, .val (.int (p2 &&& (3 : Int32))), .val (.long (own_v0_57_7 q0)), .second, .val (.long (own_v0_74_8 q0 p1)), .second, .unset, .unset] [(.int (1 : Int32))])) _
                    exact retN X65 hx (t := .boolean) Bd.returns (by simp) (hb hby at_172) hr
                  · show own_Q0 Z q0 p1 p2 h0 n0 _ T65.heap _; exact ⟨(by show some (Value.int _) = some (.int (own_f0 q0 p1 p2)); unfold own_f0; rw [if_neg hc2, if_neg hc33, if_pos hc64, if_pos hc68, if_pos hc70, if_pos hc72, if_pos hc74, if_pos hc76]), N66⟩
                · have pre78 : ∀ t, Steps p.tables e below (T65.setTop (mkF m 172 #[.val (.long q0), .second, .val (.int p1), .val (.int p2), .val (.long (own_v0_5_0 p1)), .second, .val (.int (p2 &&& (3 : Int32))), .val (.long (own_v0_57_7 q0)), .second, .val (.long (own_v0_74_8 q0 p1)), .second, .unset, .unset] [(.int (0 : Int32))])) t → Steps p.tables e below (s₁.setTop (entryFrame m #[(.long q0), (.int p1), (.int p2)] maxLocals)) t := fun t k => pre75 t (by
                      refine XS.ifYes X65.here hx rfl (pc0 := 164) (pc' := 171) rfl (hb hby at_164) rfl ((if0 _ _).trans (flt (mt (own_lw_lt _ _).mp hc76)).2.1) (by decide) (by decide) ?_
                      show Steps p.tables e below (T65.setTop (mkF m 171 #[.val (.long q0), .second, .val (.int p1), .val (.int p2), .val (.long (own_v0_5_0 p1)), .second, .val (.int (p2 &&& (3 : Int32))), .val (.long (own_v0_57_7 q0)), .second, .val (.long (own_v0_74_8 q0 p1)), .second, .unset, .unset] [])) _
                      refine XS.iconst X65.here hx rfl (hb hby at_171) ?_
                      show Steps p.tables e below (T65.setTop (mkF m 172 #[.val (.long q0), .second, .val (.int p1), .val (.int p2), .val (.long (own_v0_5_0 p1)), .second, .val (.int (p2 &&& (3 : Int32))), .val (.long (own_v0_57_7 q0)), .second, .val (.long (own_v0_74_8 q0 p1)), .second, .unset, .unset] [(.int (0 : Int32))])) _
                      exact k)
                  obtain ⟨fs, hr, hrun, hended, hW, hsame⟩ := X65.leave (v := some (.int (0 : Int32))) (fun h => by rw [Bd.returns] at h; cases h) (hlocks := hlk)
                  refine ⟨_, _, pre78 _ ?_, hrun, hended, _, _, rfl, ?_, ⟨_, rfl⟩, hW, hsame.mono (by decide) (by decide)⟩
                  · show Steps p.tables e below (T65.setTop (mkF m 172 #[.val (.long q0), .second, .val (.int p1), .val (.int p2), .val (.long (own_v0_5_0 p1)), .second, .val (.int (p2 &&& (3 : Int32))), .val (.long (own_v0_57_7 q0)), .second, .val (.long (own_v0_74_8 q0 p1)), .second, .unset, .unset] [(.int (0 : Int32))])) _
                    exact retN X65 hx (t := .boolean) Bd.returns (by simp) (hb hby at_172) hr
                  · show own_Q0 Z q0 p1 p2 h0 n0 _ T65.heap _; exact ⟨(by show some (Value.int _) = some (.int (own_f0 q0 p1 p2)); unfold own_f0; rw [if_neg hc2, if_neg hc33, if_pos hc64, if_pos hc68, if_pos hc70, if_pos hc72, if_pos hc74, if_neg hc76]), N66⟩
              · obtain ⟨_, _, ⟨T79, L79, k79, n79⟩, -, X79, ⟨Lc79, hQ79, l79, y79, z79⟩, st79⟩ := Jvm.LawKit.callS X65 hx (y := (⟨"com/example/firm_query/firmquery/ArraySlice", "normalize", "(JJ)J"⟩ : MethodName)) hown (mvT hZ (hw _ (List.mem_of_getElem? (i := 2) rfl))) (mvT hZ (hw _ (List.mem_of_getElem? (i := 3) rfl))) (mvT hZ (hw _ (List.mem_of_getElem? (i := 4) rfl))) (mvT hZ (hw _ (List.mem_of_getElem? (i := 5) rfl))) (by decide) (backOf (W := 0) (own_rm1 l Z a0 hw [] ((own_v0_57_7 q0) + (own_v0_5_0 p1)) (own_v0_5_0 p1) h0 n0 Z0 ) hZ (hw _ (List.mem_of_getElem? (i := 5) rfl)) (hw _ (List.mem_of_getElem? (i := 4) rfl)) (by decide) (by decide)) (g := (mkF m 134 #[.val (.long q0), .second, .val (.int p1), .val (.int p2), .val (.long (own_v0_5_0 p1)), .second, .val (.int (p2 &&& (3 : Int32))), .val (.long (own_v0_57_7 q0)), .second, .val (.long (own_v0_74_8 q0 p1)), .second, .unset, .unset] [(.long (own_v0_5_0 p1)), (.long ((own_v0_57_7 q0) + (own_v0_5_0 p1)))])) rfl (by rw [hml]; rfl) (argsL := [(.long ((own_v0_57_7 q0) + (own_v0_5_0 p1))), (.long (own_v0_5_0 p1))]) (rest := []) (lenOf own_pd0 rfl) rfl (by show 2 * 0 + _ ≤ _; exact Nat.le_of_eq rfl) (hb hby at_134) (fun _ _ => ⟨rfl, e65, (by decide : 0 + 0 ≤ _), (by decide : 0 + 0 ≤ _)⟩)
                dsimp only [Pt.U, Pt.locs, Pt.cells, Pt.slots] at X79 l79 y79 z79 st79 hQ79
                subst l79 y79 z79
                obtain ⟨rfl, N79q, e79⟩ := hQ79
                have N80 := Fr.app N66 N79q
                have pre81 : ∀ t, Steps p.tables e below (T79.setTop (mkF m 144 #[.val (.long q0), .second, .val (.int p1), .val (.int p2), .val (.long (own_v0_5_0 p1)), .second, .val (.int (p2 &&& (3 : Int32))), .val (.long (own_v0_57_7 q0)), .second, .val (.long (own_v0_74_8 q0 p1)), .second, .val (.long (own_v0_137_9 q0 p1)), .second] [(.int (lcmpW (own_v0_74_8 q0 p1) (own_v0_137_9 q0 p1)))])) t → Steps p.tables e below (s₁.setTop (entryFrame m #[(.long q0), (.int p1), (.int p2)] maxLocals)) t := fun t k => pre73 t (by
                    refine XS.ifNo X65.here hx rfl (hb hby at_124) rfl ((if0 _ _).trans (flt (mt (own_lw_lt _ _).mp hc74)).1) ?_
                    show Steps p.tables e below (T65.setTop (mkF m 127 #[.val (.long q0), .second, .val (.int p1), .val (.int p2), .val (.long (own_v0_5_0 p1)), .second, .val (.int (p2 &&& (3 : Int32))), .val (.long (own_v0_57_7 q0)), .second, .val (.long (own_v0_74_8 q0 p1)), .second, .unset, .unset] [])) _
                    refine XS.lload X65.here hx rfl (hb hby at_127) rfl ?_
                    show Steps p.tables e below (T65.setTop (mkF m 129 #[.val (.long q0), .second, .val (.int p1), .val (.int p2), .val (.long (own_v0_5_0 p1)), .second, .val (.int (p2 &&& (3 : Int32))), .val (.long (own_v0_57_7 q0)), .second, .val (.long (own_v0_74_8 q0 p1)), .second, .unset, .unset] [(.long (own_v0_57_7 q0))])) _
                    refine XS.lload X65.here hx rfl (hb hby at_129) rfl ?_
                    show Steps p.tables e below (T65.setTop (mkF m 131 #[.val (.long q0), .second, .val (.int p1), .val (.int p2), .val (.long (own_v0_5_0 p1)), .second, .val (.int (p2 &&& (3 : Int32))), .val (.long (own_v0_57_7 q0)), .second, .val (.long (own_v0_74_8 q0 p1)), .second, .unset, .unset] [(.long (own_v0_5_0 p1)), (.long (own_v0_57_7 q0))])) _
                    refine XS.ladd X65.here hx rfl (hb hby at_131) rfl ?_
                    show Steps p.tables e below (T65.setTop (mkF m 132 #[.val (.long q0), .second, .val (.int p1), .val (.int p2), .val (.long (own_v0_5_0 p1)), .second, .val (.int (p2 &&& (3 : Int32))), .val (.long (own_v0_57_7 q0)), .second, .val (.long (own_v0_74_8 q0 p1)), .second, .unset, .unset] [(.long ((own_v0_57_7 q0) + (own_v0_5_0 p1)))])) _
                    refine XS.lload X65.here hx rfl (hb hby at_132) rfl ?_
                    show Steps p.tables e below (T65.setTop (mkF m 134 #[.val (.long q0), .second, .val (.int p1), .val (.int p2), .val (.long (own_v0_5_0 p1)), .second, .val (.int (p2 &&& (3 : Int32))), .val (.long (own_v0_57_7 q0)), .second, .val (.long (own_v0_74_8 q0 p1)), .second, .unset, .unset] [(.long (own_v0_5_0 p1)), (.long ((own_v0_57_7 q0) + (own_v0_5_0 p1)))])) _
                    refine st79 _ ?_
                    show Steps p.tables e below (T79.setTop (mkF m 137 #[.val (.long q0), .second, .val (.int p1), .val (.int p2), .val (.long (own_v0_5_0 p1)), .second, .val (.int (p2 &&& (3 : Int32))), .val (.long (own_v0_57_7 q0)), .second, .val (.long (own_v0_74_8 q0 p1)), .second, .unset, .unset] [(.long (own_f1 ((own_v0_57_7 q0) + (own_v0_5_0 p1)) (own_v0_5_0 p1)))])) _
                    refine XS.lstore X79.here hx rfl (hb hby at_137) rfl (l' := #[.val (.long q0), .second, .val (.int p1), .val (.int p2), .val (.long (own_v0_5_0 p1)), .second, .val (.int (p2 &&& (3 : Int32))), .val (.long (own_v0_57_7 q0)), .second, .val (.long (own_v0_74_8 q0 p1)), .second, .val (.long (own_v0_137_9 q0 p1)), .second]) rfl ?_
                    show Steps p.tables e below (T79.setTop (mkF m 139 #[.val (.long q0), .second, .val (.int p1), .val (.int p2), .val (.long (own_v0_5_0 p1)), .second, .val (.int (p2 &&& (3 : Int32))), .val (.long (own_v0_57_7 q0)), .second, .val (.long (own_v0_74_8 q0 p1)), .second, .val (.long (own_v0_137_9 q0 p1)), .second] [])) _
                    refine XS.lload X79.here hx rfl (hb hby at_139) rfl ?_
                    show Steps p.tables e below (T79.setTop (mkF m 141 #[.val (.long q0), .second, .val (.int p1), .val (.int p2), .val (.long (own_v0_5_0 p1)), .second, .val (.int (p2 &&& (3 : Int32))), .val (.long (own_v0_57_7 q0)), .second, .val (.long (own_v0_74_8 q0 p1)), .second, .val (.long (own_v0_137_9 q0 p1)), .second] [(.long (own_v0_74_8 q0 p1))])) _
                    refine XS.lload X79.here hx rfl (hb hby at_141) rfl ?_
                    show Steps p.tables e below (T79.setTop (mkF m 143 #[.val (.long q0), .second, .val (.int p1), .val (.int p2), .val (.long (own_v0_5_0 p1)), .second, .val (.int (p2 &&& (3 : Int32))), .val (.long (own_v0_57_7 q0)), .second, .val (.long (own_v0_74_8 q0 p1)), .second, .val (.long (own_v0_137_9 q0 p1)), .second] [(.long (own_v0_137_9 q0 p1)), (.long (own_v0_74_8 q0 p1))])) _
                    refine XS.lcmp X79.here hx rfl (hb hby at_143) rfl ?_
                    show Steps p.tables e below (T79.setTop (mkF m 144 #[.val (.long q0), .second, .val (.int p1), .val (.int p2), .val (.long (own_v0_5_0 p1)), .second, .val (.int (p2 &&& (3 : Int32))), .val (.long (own_v0_57_7 q0)), .second, .val (.long (own_v0_74_8 q0 p1)), .second, .val (.long (own_v0_137_9 q0 p1)), .second] [(.int (lcmpW (own_v0_74_8 q0 p1) (own_v0_137_9 q0 p1)))])) _
                    exact k)
                by_cases hc82 : (own_v0_74_8 q0 p1) = (own_v0_137_9 q0 p1)
                · have pre83 : ∀ t, Steps p.tables e below (T79.setTop (mkF m 151 #[.val (.long q0), .second, .val (.int p1), .val (.int p2), .val (.long (own_v0_5_0 p1)), .second, .val (.int (p2 &&& (3 : Int32))), .val (.long (own_v0_57_7 q0)), .second, .val (.long (own_v0_74_8 q0 p1)), .second, .val (.long (own_v0_137_9 q0 p1)), .second] [(.int (lcmpW (own_v0_74_8 q0 p1) (0 : Int64)))])) t → Steps p.tables e below (s₁.setTop (entryFrame m #[(.long q0), (.int p1), (.int p2)] maxLocals)) t := fun t k => pre81 t (by
                      refine XS.ifNo X79.here hx rfl (hb hby at_144) rfl ((if0 _ _).trans (teq ((own_lw_eq _ _).mpr hc82)).2) ?_
                      show Steps p.tables e below (T79.setTop (mkF m 147 #[.val (.long q0), .second, .val (.int p1), .val (.int p2), .val (.long (own_v0_5_0 p1)), .second, .val (.int (p2 &&& (3 : Int32))), .val (.long (own_v0_57_7 q0)), .second, .val (.long (own_v0_74_8 q0 p1)), .second, .val (.long (own_v0_137_9 q0 p1)), .second] [])) _
                      refine XS.lload X79.here hx rfl (hb hby at_147) rfl ?_
                      show Steps p.tables e below (T79.setTop (mkF m 149 #[.val (.long q0), .second, .val (.int p1), .val (.int p2), .val (.long (own_v0_5_0 p1)), .second, .val (.int (p2 &&& (3 : Int32))), .val (.long (own_v0_57_7 q0)), .second, .val (.long (own_v0_74_8 q0 p1)), .second, .val (.long (own_v0_137_9 q0 p1)), .second] [(.long (own_v0_74_8 q0 p1))])) _
                      refine XS.lconst X79.here hx rfl (hb hby at_149) ?_
                      show Steps p.tables e below (T79.setTop (mkF m 150 #[.val (.long q0), .second, .val (.int p1), .val (.int p2), .val (.long (own_v0_5_0 p1)), .second, .val (.int (p2 &&& (3 : Int32))), .val (.long (own_v0_57_7 q0)), .second, .val (.long (own_v0_74_8 q0 p1)), .second, .val (.long (own_v0_137_9 q0 p1)), .second] [(.long (0 : Int64)), (.long (own_v0_74_8 q0 p1))])) _
                      refine XS.lcmp X79.here hx rfl (hb hby at_150) rfl ?_
                      show Steps p.tables e below (T79.setTop (mkF m 151 #[.val (.long q0), .second, .val (.int p1), .val (.int p2), .val (.long (own_v0_5_0 p1)), .second, .val (.int (p2 &&& (3 : Int32))), .val (.long (own_v0_57_7 q0)), .second, .val (.long (own_v0_74_8 q0 p1)), .second, .val (.long (own_v0_137_9 q0 p1)), .second] [(.int (lcmpW (own_v0_74_8 q0 p1) (0 : Int64)))])) _
                      exact k)
                  by_cases hc84 : (own_v0_74_8 q0 p1) < (0 : Int64)
                  · have pre85 : ∀ t, Steps p.tables e below (T79.setTop (mkF m 159 #[.val (.long q0), .second, .val (.int p1), .val (.int p2), .val (.long (own_v0_5_0 p1)), .second, .val (.int (p2 &&& (3 : Int32))), .val (.long (own_v0_57_7 q0)), .second, .val (.long (own_v0_74_8 q0 p1)), .second, .val (.long (own_v0_137_9 q0 p1)), .second] [(.int (0 : Int32))])) t → Steps p.tables e below (s₁.setTop (entryFrame m #[(.long q0), (.int p1), (.int p2)] maxLocals)) t := fun t k => pre83 t (by
                        refine XS.ifYes X79.here hx rfl (pc0 := 151) (pc' := 158) rfl (hb hby at_151) rfl ((if0 _ _).trans (tlt ((own_lw_lt _ _).mpr hc84)).1) (by decide) (by decide) ?_
                        show Steps p.tables e below (T79.setTop (mkF m 158 #[.val (.long q0), .second, .val (.int p1), .val (.int p2), .val (.long (own_v0_5_0 p1)), .second, .val (.int (p2 &&& (3 : Int32))), .val (.long (own_v0_57_7 q0)), .second, .val (.long (own_v0_74_8 q0 p1)), .second, .val (.long (own_v0_137_9 q0 p1)), .second] [])) _
                        refine XS.iconst X79.here hx rfl (hb hby at_158) ?_
                        show Steps p.tables e below (T79.setTop (mkF m 159 #[.val (.long q0), .second, .val (.int p1), .val (.int p2), .val (.long (own_v0_5_0 p1)), .second, .val (.int (p2 &&& (3 : Int32))), .val (.long (own_v0_57_7 q0)), .second, .val (.long (own_v0_74_8 q0 p1)), .second, .val (.long (own_v0_137_9 q0 p1)), .second] [(.int (0 : Int32))])) _
                        exact k)
                    obtain ⟨fs, hr, hrun, hended, hW, hsame⟩ := X79.leave (v := some (.int (0 : Int32))) (fun h => by rw [Bd.returns] at h; cases h) (hlocks := hlk)
                    refine ⟨_, _, pre85 _ ?_, hrun, hended, _, _, rfl, ?_, ⟨_, rfl⟩, hW, hsame.mono (by decide) (by decide)⟩
                    · show Steps p.tables e below (T79.setTop (mkF m 159 #[.val (.long q0), .second, .val (.int p1), .val (.int p2), .val (.long (own_v0_5_0 p1)), .second, .val (.int (p2 &&& (3 : Int32))), .val (.long (own_v0_57_7 q0)), .second, .val (.long (own_v0_74_8 q0 p1)), .second, .val (.long (own_v0_137_9 q0 p1)), .second] [(.int (0 : Int32))])) _
                      exact retN X79 hx (t := .boolean) Bd.returns (by simp) (hb hby at_159) hr
                    · show own_Q0 Z q0 p1 p2 h0 n0 _ T79.heap _; exact ⟨(by show some (Value.int _) = some (.int (own_f0 q0 p1 p2)); unfold own_f0; rw [if_neg hc2, if_neg hc33, if_pos hc64, if_pos hc68, if_pos hc70, if_pos hc72, if_neg hc74, if_pos hc82, if_pos hc84]), N80⟩
                  · have pre86 : ∀ t, Steps p.tables e below (T79.setTop (mkF m 159 #[.val (.long q0), .second, .val (.int p1), .val (.int p2), .val (.long (own_v0_5_0 p1)), .second, .val (.int (p2 &&& (3 : Int32))), .val (.long (own_v0_57_7 q0)), .second, .val (.long (own_v0_74_8 q0 p1)), .second, .val (.long (own_v0_137_9 q0 p1)), .second] [(.int (1 : Int32))])) t → Steps p.tables e below (s₁.setTop (entryFrame m #[(.long q0), (.int p1), (.int p2)] maxLocals)) t := fun t k => pre83 t (by
                        refine XS.ifNo X79.here hx rfl (hb hby at_151) rfl ((if0 _ _).trans (flt (mt (own_lw_lt _ _).mp hc84)).1) ?_
                        show Steps p.tables e below (T79.setTop (mkF m 154 #[.val (.long q0), .second, .val (.int p1), .val (.int p2), .val (.long (own_v0_5_0 p1)), .second, .val (.int (p2 &&& (3 : Int32))), .val (.long (own_v0_57_7 q0)), .second, .val (.long (own_v0_74_8 q0 p1)), .second, .val (.long (own_v0_137_9 q0 p1)), .second] [])) _
                        refine XS.iconst X79.here hx rfl (hb hby at_154) ?_
                        show Steps p.tables e below (T79.setTop (mkF m 155 #[.val (.long q0), .second, .val (.int p1), .val (.int p2), .val (.long (own_v0_5_0 p1)), .second, .val (.int (p2 &&& (3 : Int32))), .val (.long (own_v0_57_7 q0)), .second, .val (.long (own_v0_74_8 q0 p1)), .second, .val (.long (own_v0_137_9 q0 p1)), .second] [(.int (1 : Int32))])) _
                        refine XS.goto X79.here hx rfl (pc0 := 155) (pc' := 159) rfl (hb hby at_155) (by decide) (by decide) ?_
                        show Steps p.tables e below (T79.setTop (mkF m 159 #[.val (.long q0), .second, .val (.int p1), .val (.int p2), .val (.long (own_v0_5_0 p1)), .second, .val (.int (p2 &&& (3 : Int32))), .val (.long (own_v0_57_7 q0)), .second, .val (.long (own_v0_74_8 q0 p1)), .second, .val (.long (own_v0_137_9 q0 p1)), .second] [(.int (1 : Int32))])) _
                        exact k)
                    obtain ⟨fs, hr, hrun, hended, hW, hsame⟩ := X79.leave (v := some (.int (1 : Int32))) (fun h => by rw [Bd.returns] at h; cases h) (hlocks := hlk)
                    refine ⟨_, _, pre86 _ ?_, hrun, hended, _, _, rfl, ?_, ⟨_, rfl⟩, hW, hsame.mono (by decide) (by decide)⟩
                    · show Steps p.tables e below (T79.setTop (mkF m 159 #[.val (.long q0), .second, .val (.int p1), .val (.int p2), .val (.long (own_v0_5_0 p1)), .second, .val (.int (p2 &&& (3 : Int32))), .val (.long (own_v0_57_7 q0)), .second, .val (.long (own_v0_74_8 q0 p1)), .second, .val (.long (own_v0_137_9 q0 p1)), .second] [(.int (1 : Int32))])) _
                      exact retN X79 hx (t := .boolean) Bd.returns (by simp) (hb hby at_159) hr
                    · show own_Q0 Z q0 p1 p2 h0 n0 _ T79.heap _; exact ⟨(by show some (Value.int _) = some (.int (own_f0 q0 p1 p2)); unfold own_f0; rw [if_neg hc2, if_neg hc33, if_pos hc64, if_pos hc68, if_pos hc70, if_pos hc72, if_neg hc74, if_pos hc82, if_neg hc84]), N80⟩
                · have pre87 : ∀ t, Steps p.tables e below (T79.setTop (mkF m 159 #[.val (.long q0), .second, .val (.int p1), .val (.int p2), .val (.long (own_v0_5_0 p1)), .second, .val (.int (p2 &&& (3 : Int32))), .val (.long (own_v0_57_7 q0)), .second, .val (.long (own_v0_74_8 q0 p1)), .second, .val (.long (own_v0_137_9 q0 p1)), .second] [(.int (0 : Int32))])) t → Steps p.tables e below (s₁.setTop (entryFrame m #[(.long q0), (.int p1), (.int p2)] maxLocals)) t := fun t k => pre81 t (by
                      refine XS.ifYes X79.here hx rfl (pc0 := 144) (pc' := 158) rfl (hb hby at_144) rfl ((if0 _ _).trans (feq (mt (own_lw_eq _ _).mp hc82)).2) (by decide) (by decide) ?_
                      show Steps p.tables e below (T79.setTop (mkF m 158 #[.val (.long q0), .second, .val (.int p1), .val (.int p2), .val (.long (own_v0_5_0 p1)), .second, .val (.int (p2 &&& (3 : Int32))), .val (.long (own_v0_57_7 q0)), .second, .val (.long (own_v0_74_8 q0 p1)), .second, .val (.long (own_v0_137_9 q0 p1)), .second] [])) _
                      refine XS.iconst X79.here hx rfl (hb hby at_158) ?_
                      show Steps p.tables e below (T79.setTop (mkF m 159 #[.val (.long q0), .second, .val (.int p1), .val (.int p2), .val (.long (own_v0_5_0 p1)), .second, .val (.int (p2 &&& (3 : Int32))), .val (.long (own_v0_57_7 q0)), .second, .val (.long (own_v0_74_8 q0 p1)), .second, .val (.long (own_v0_137_9 q0 p1)), .second] [(.int (0 : Int32))])) _
                      exact k)
                  obtain ⟨fs, hr, hrun, hended, hW, hsame⟩ := X79.leave (v := some (.int (0 : Int32))) (fun h => by rw [Bd.returns] at h; cases h) (hlocks := hlk)
                  refine ⟨_, _, pre87 _ ?_, hrun, hended, _, _, rfl, ?_, ⟨_, rfl⟩, hW, hsame.mono (by decide) (by decide)⟩
                  · show Steps p.tables e below (T79.setTop (mkF m 159 #[.val (.long q0), .second, .val (.int p1), .val (.int p2), .val (.long (own_v0_5_0 p1)), .second, .val (.int (p2 &&& (3 : Int32))), .val (.long (own_v0_57_7 q0)), .second, .val (.long (own_v0_74_8 q0 p1)), .second, .val (.long (own_v0_137_9 q0 p1)), .second] [(.int (0 : Int32))])) _
                    exact retN X79 hx (t := .boolean) Bd.returns (by simp) (hb hby at_159) hr
                  · show own_Q0 Z q0 p1 p2 h0 n0 _ T79.heap _; exact ⟨(by show some (Value.int _) = some (.int (own_f0 q0 p1 p2)); unfold own_f0; rw [if_neg hc2, if_neg hc33, if_pos hc64, if_pos hc68, if_pos hc70, if_pos hc72, if_neg hc74, if_neg hc82]), N80⟩
            · have pre88 : ∀ t, Steps p.tables e below (T65.setTop (mkF m 117 #[.val (.long q0), .second, .val (.int p1), .val (.int p2), .val (.long (own_v0_5_0 p1)), .second, .val (.int (p2 &&& (3 : Int32))), .val (.long (own_v0_57_7 q0)), .second, .val (.long (own_v0_74_8 q0 p1)), .second, .unset, .unset] [(.int (0 : Int32))])) t → Steps p.tables e below (s₁.setTop (entryFrame m #[(.long q0), (.int p1), (.int p2)] maxLocals)) t := fun t k => pre71 t (by
                  refine XS.ifNo X65.here hx rfl (hb hby at_113) rfl ((if0 _ _).trans (flt (mt (own_lw_lt _ _).mp hc72)).1) ?_
                  show Steps p.tables e below (T65.setTop (mkF m 116 #[.val (.long q0), .second, .val (.int p1), .val (.int p2), .val (.long (own_v0_5_0 p1)), .second, .val (.int (p2 &&& (3 : Int32))), .val (.long (own_v0_57_7 q0)), .second, .val (.long (own_v0_74_8 q0 p1)), .second, .unset, .unset] [])) _
                  refine XS.iconst X65.here hx rfl (hb hby at_116) ?_
                  show Steps p.tables e below (T65.setTop (mkF m 117 #[.val (.long q0), .second, .val (.int p1), .val (.int p2), .val (.long (own_v0_5_0 p1)), .second, .val (.int (p2 &&& (3 : Int32))), .val (.long (own_v0_57_7 q0)), .second, .val (.long (own_v0_74_8 q0 p1)), .second, .unset, .unset] [(.int (0 : Int32))])) _
                  exact k)
              obtain ⟨fs, hr, hrun, hended, hW, hsame⟩ := X65.leave (v := some (.int (0 : Int32))) (fun h => by rw [Bd.returns] at h; cases h) (hlocks := hlk)
              refine ⟨_, _, pre88 _ ?_, hrun, hended, _, _, rfl, ?_, ⟨_, rfl⟩, hW, hsame.mono (by decide) (by decide)⟩
              · show Steps p.tables e below (T65.setTop (mkF m 117 #[.val (.long q0), .second, .val (.int p1), .val (.int p2), .val (.long (own_v0_5_0 p1)), .second, .val (.int (p2 &&& (3 : Int32))), .val (.long (own_v0_57_7 q0)), .second, .val (.long (own_v0_74_8 q0 p1)), .second, .unset, .unset] [(.int (0 : Int32))])) _
                exact retN X65 hx (t := .boolean) Bd.returns (by simp) (hb hby at_117) hr
              · show own_Q0 Z q0 p1 p2 h0 n0 _ T65.heap _; exact ⟨(by show some (Value.int _) = some (.int (own_f0 q0 p1 p2)); unfold own_f0; rw [if_neg hc2, if_neg hc33, if_pos hc64, if_pos hc68, if_pos hc70, if_neg hc72]), N66⟩
          · have pre89 : ∀ t, Steps p.tables e below (T65.setTop (mkF m 117 #[.val (.long q0), .second, .val (.int p1), .val (.int p2), .val (.long (own_v0_5_0 p1)), .second, .val (.int (p2 &&& (3 : Int32))), .val (.long (own_v0_57_7 q0)), .second, .val (.long (own_v0_74_8 q0 p1)), .second, .unset, .unset] [(.int (0 : Int32))])) t → Steps p.tables e below (s₁.setTop (entryFrame m #[(.long q0), (.int p1), (.int p2)] maxLocals)) t := fun t k => pre69 t (by
                refine XS.ifYes X65.here hx rfl (pc0 := 105) (pc' := 116) rfl (hb hby at_105) rfl ((if0 _ _).trans (feq (mt (own_lw_eq _ _).mp hc70)).2) (by decide) (by decide) ?_
                show Steps p.tables e below (T65.setTop (mkF m 116 #[.val (.long q0), .second, .val (.int p1), .val (.int p2), .val (.long (own_v0_5_0 p1)), .second, .val (.int (p2 &&& (3 : Int32))), .val (.long (own_v0_57_7 q0)), .second, .val (.long (own_v0_74_8 q0 p1)), .second, .unset, .unset] [])) _
                refine XS.iconst X65.here hx rfl (hb hby at_116) ?_
                show Steps p.tables e below (T65.setTop (mkF m 117 #[.val (.long q0), .second, .val (.int p1), .val (.int p2), .val (.long (own_v0_5_0 p1)), .second, .val (.int (p2 &&& (3 : Int32))), .val (.long (own_v0_57_7 q0)), .second, .val (.long (own_v0_74_8 q0 p1)), .second, .unset, .unset] [(.int (0 : Int32))])) _
                exact k)
            obtain ⟨fs, hr, hrun, hended, hW, hsame⟩ := X65.leave (v := some (.int (0 : Int32))) (fun h => by rw [Bd.returns] at h; cases h) (hlocks := hlk)
            refine ⟨_, _, pre89 _ ?_, hrun, hended, _, _, rfl, ?_, ⟨_, rfl⟩, hW, hsame.mono (by decide) (by decide)⟩
            · show Steps p.tables e below (T65.setTop (mkF m 117 #[.val (.long q0), .second, .val (.int p1), .val (.int p2), .val (.long (own_v0_5_0 p1)), .second, .val (.int (p2 &&& (3 : Int32))), .val (.long (own_v0_57_7 q0)), .second, .val (.long (own_v0_74_8 q0 p1)), .second, .unset, .unset] [(.int (0 : Int32))])) _
              exact retN X65 hx (t := .boolean) Bd.returns (by simp) (hb hby at_117) hr
            · show own_Q0 Z q0 p1 p2 h0 n0 _ T65.heap _; exact ⟨(by show some (Value.int _) = some (.int (own_f0 q0 p1 p2)); unfold own_f0; rw [if_neg hc2, if_neg hc33, if_pos hc64, if_pos hc68, if_neg hc70]), N66⟩
        · have pre90 : ∀ t, Steps p.tables e below (T65.setTop (mkF m 88 #[.val (.long q0), .second, .val (.int p1), .val (.int p2), .val (.long (own_v0_5_0 p1)), .second, .val (.int (p2 &&& (3 : Int32))), .val (.long (own_v0_57_7 q0)), .second, .val (.long (own_v0_74_8 q0 p1)), .second, .unset, .unset] [(.int (lcmpW (own_v0_74_8 q0 p1) (own_v0_57_7 q0)))])) t → Steps p.tables e below (s₁.setTop (entryFrame m #[(.long q0), (.int p1), (.int p2)] maxLocals)) t := fun t k => pre67 t (by
              refine XS.ifNo X65.here hx rfl (hb hby at_80) rfl ((if0 _ _).trans (flt (mt (own_lw_lt _ _).mp hc68)).1) ?_
              show Steps p.tables e below (T65.setTop (mkF m 83 #[.val (.long q0), .second, .val (.int p1), .val (.int p2), .val (.long (own_v0_5_0 p1)), .second, .val (.int (p2 &&& (3 : Int32))), .val (.long (own_v0_57_7 q0)), .second, .val (.long (own_v0_74_8 q0 p1)), .second, .unset, .unset] [])) _
              refine XS.lload X65.here hx rfl (hb hby at_83) rfl ?_
              show Steps p.tables e below (T65.setTop (mkF m 85 #[.val (.long q0), .second, .val (.int p1), .val (.int p2), .val (.long (own_v0_5_0 p1)), .second, .val (.int (p2 &&& (3 : Int32))), .val (.long (own_v0_57_7 q0)), .second, .val (.long (own_v0_74_8 q0 p1)), .second, .unset, .unset] [(.long (own_v0_74_8 q0 p1))])) _
              refine XS.lload X65.here hx rfl (hb hby at_85) rfl ?_
              show Steps p.tables e below (T65.setTop (mkF m 87 #[.val (.long q0), .second, .val (.int p1), .val (.int p2), .val (.long (own_v0_5_0 p1)), .second, .val (.int (p2 &&& (3 : Int32))), .val (.long (own_v0_57_7 q0)), .second, .val (.long (own_v0_74_8 q0 p1)), .second, .unset, .unset] [(.long (own_v0_57_7 q0)), (.long (own_v0_74_8 q0 p1))])) _
              refine XS.lcmp X65.here hx rfl (hb hby at_87) rfl ?_
              show Steps p.tables e below (T65.setTop (mkF m 88 #[.val (.long q0), .second, .val (.int p1), .val (.int p2), .val (.long (own_v0_5_0 p1)), .second, .val (.int (p2 &&& (3 : Int32))), .val (.long (own_v0_57_7 q0)), .second, .val (.long (own_v0_74_8 q0 p1)), .second, .unset, .unset] [(.int (lcmpW (own_v0_74_8 q0 p1) (own_v0_57_7 q0)))])) _
              exact k)
          by_cases hc91 : (own_v0_74_8 q0 p1) = (own_v0_57_7 q0)
          · have pre92 : ∀ t, Steps p.tables e below (T65.setTop (mkF m 96 #[.val (.long q0), .second, .val (.int p1), .val (.int p2), .val (.long (own_v0_5_0 p1)), .second, .val (.int (p2 &&& (3 : Int32))), .val (.long (own_v0_57_7 q0)), .second, .val (.long (own_v0_74_8 q0 p1)), .second, .unset, .unset] [(.int (1 : Int32))])) t → Steps p.tables e below (s₁.setTop (entryFrame m #[(.long q0), (.int p1), (.int p2)] maxLocals)) t := fun t k => pre90 t (by
                refine XS.ifNo X65.here hx rfl (hb hby at_88) rfl ((if0 _ _).trans (teq ((own_lw_eq _ _).mpr hc91)).2) ?_
                show Steps p.tables e below (T65.setTop (mkF m 91 #[.val (.long q0), .second, .val (.int p1), .val (.int p2), .val (.long (own_v0_5_0 p1)), .second, .val (.int (p2 &&& (3 : Int32))), .val (.long (own_v0_57_7 q0)), .second, .val (.long (own_v0_74_8 q0 p1)), .second, .unset, .unset] [])) _
                refine XS.iconst X65.here hx rfl (hb hby at_91) ?_
                show Steps p.tables e below (T65.setTop (mkF m 92 #[.val (.long q0), .second, .val (.int p1), .val (.int p2), .val (.long (own_v0_5_0 p1)), .second, .val (.int (p2 &&& (3 : Int32))), .val (.long (own_v0_57_7 q0)), .second, .val (.long (own_v0_74_8 q0 p1)), .second, .unset, .unset] [(.int (1 : Int32))])) _
                refine XS.goto X65.here hx rfl (pc0 := 92) (pc' := 96) rfl (hb hby at_92) (by decide) (by decide) ?_
                show Steps p.tables e below (T65.setTop (mkF m 96 #[.val (.long q0), .second, .val (.int p1), .val (.int p2), .val (.long (own_v0_5_0 p1)), .second, .val (.int (p2 &&& (3 : Int32))), .val (.long (own_v0_57_7 q0)), .second, .val (.long (own_v0_74_8 q0 p1)), .second, .unset, .unset] [(.int (1 : Int32))])) _
                exact k)
            obtain ⟨fs, hr, hrun, hended, hW, hsame⟩ := X65.leave (v := some (.int (1 : Int32))) (fun h => by rw [Bd.returns] at h; cases h) (hlocks := hlk)
            refine ⟨_, _, pre92 _ ?_, hrun, hended, _, _, rfl, ?_, ⟨_, rfl⟩, hW, hsame.mono (by decide) (by decide)⟩
            · show Steps p.tables e below (T65.setTop (mkF m 96 #[.val (.long q0), .second, .val (.int p1), .val (.int p2), .val (.long (own_v0_5_0 p1)), .second, .val (.int (p2 &&& (3 : Int32))), .val (.long (own_v0_57_7 q0)), .second, .val (.long (own_v0_74_8 q0 p1)), .second, .unset, .unset] [(.int (1 : Int32))])) _
              exact retN X65 hx (t := .boolean) Bd.returns (by simp) (hb hby at_96) hr
            · show own_Q0 Z q0 p1 p2 h0 n0 _ T65.heap _; exact ⟨(by show some (Value.int _) = some (.int (own_f0 q0 p1 p2)); unfold own_f0; rw [if_neg hc2, if_neg hc33, if_pos hc64, if_neg hc68, if_pos hc91]), N66⟩
          · have pre93 : ∀ t, Steps p.tables e below (T65.setTop (mkF m 96 #[.val (.long q0), .second, .val (.int p1), .val (.int p2), .val (.long (own_v0_5_0 p1)), .second, .val (.int (p2 &&& (3 : Int32))), .val (.long (own_v0_57_7 q0)), .second, .val (.long (own_v0_74_8 q0 p1)), .second, .unset, .unset] [(.int (0 : Int32))])) t → Steps p.tables e below (s₁.setTop (entryFrame m #[(.long q0), (.int p1), (.int p2)] maxLocals)) t := fun t k => pre90 t (by
                refine XS.ifYes X65.here hx rfl (pc0 := 88) (pc' := 95) rfl (hb hby at_88) rfl ((if0 _ _).trans (feq (mt (own_lw_eq _ _).mp hc91)).2) (by decide) (by decide) ?_
                show Steps p.tables e below (T65.setTop (mkF m 95 #[.val (.long q0), .second, .val (.int p1), .val (.int p2), .val (.long (own_v0_5_0 p1)), .second, .val (.int (p2 &&& (3 : Int32))), .val (.long (own_v0_57_7 q0)), .second, .val (.long (own_v0_74_8 q0 p1)), .second, .unset, .unset] [])) _
                refine XS.iconst X65.here hx rfl (hb hby at_95) ?_
                show Steps p.tables e below (T65.setTop (mkF m 96 #[.val (.long q0), .second, .val (.int p1), .val (.int p2), .val (.long (own_v0_5_0 p1)), .second, .val (.int (p2 &&& (3 : Int32))), .val (.long (own_v0_57_7 q0)), .second, .val (.long (own_v0_74_8 q0 p1)), .second, .unset, .unset] [(.int (0 : Int32))])) _
                exact k)
            obtain ⟨fs, hr, hrun, hended, hW, hsame⟩ := X65.leave (v := some (.int (0 : Int32))) (fun h => by rw [Bd.returns] at h; cases h) (hlocks := hlk)
            refine ⟨_, _, pre93 _ ?_, hrun, hended, _, _, rfl, ?_, ⟨_, rfl⟩, hW, hsame.mono (by decide) (by decide)⟩
            · show Steps p.tables e below (T65.setTop (mkF m 96 #[.val (.long q0), .second, .val (.int p1), .val (.int p2), .val (.long (own_v0_5_0 p1)), .second, .val (.int (p2 &&& (3 : Int32))), .val (.long (own_v0_57_7 q0)), .second, .val (.long (own_v0_74_8 q0 p1)), .second, .unset, .unset] [(.int (0 : Int32))])) _
              exact retN X65 hx (t := .boolean) Bd.returns (by simp) (hb hby at_96) hr
            · show own_Q0 Z q0 p1 p2 h0 n0 _ T65.heap _; exact ⟨(by show some (Value.int _) = some (.int (own_f0 q0 p1 p2)); unfold own_f0; rw [if_neg hc2, if_neg hc33, if_pos hc64, if_neg hc68, if_neg hc91]), N66⟩
      · obtain ⟨_, _, ⟨T94, L94, k94, n94⟩, -, X94, ⟨Lc94, hQ94, l94, y94, z94⟩, st94⟩ := Jvm.LawKit.callS X0 hx (y := (⟨"com/example/firm_query/firmquery/ArraySlice", "normalize", "(JJ)J"⟩ : MethodName)) hown (mvT hZ (hw _ (List.mem_of_getElem? (i := 2) rfl))) (mvT hZ (hw _ (List.mem_of_getElem? (i := 3) rfl))) (mvT hZ (hw _ (List.mem_of_getElem? (i := 4) rfl))) (mvT hZ (hw _ (List.mem_of_getElem? (i := 5) rfl))) (by decide) (backOf (W := 0) (own_rm1 l Z a0 hw [] (-1 : Int64) (own_v0_5_0 p1) h0 n0 Z0 ) hZ (hw _ (List.mem_of_getElem? (i := 5) rfl)) (hw _ (List.mem_of_getElem? (i := 4) rfl)) (by decide) (by decide)) (g := (mkF m 71 #[.val (.long q0), .second, .val (.int p1), .val (.int p2), .val (.long (own_v0_5_0 p1)), .second, .val (.int (p2 &&& (3 : Int32))), .val (.long (-1 : Int64)), .second, .unset, .unset, .unset, .unset] [(.long (own_v0_5_0 p1)), (.long (-1 : Int64))])) rfl (by rw [hml]; rfl) (argsL := [(.long (-1 : Int64)), (.long (own_v0_5_0 p1))]) (rest := []) (lenOf own_pd0 rfl) rfl (by show 2 * 0 + _ ≤ _; exact Nat.le_of_eq rfl) (hb hby at_71) (fun _ _ => ⟨rfl, e0, (by decide : 0 + 0 ≤ _), (by decide : 0 + 0 ≤ _)⟩)
        dsimp only [Pt.U, Pt.locs, Pt.cells, Pt.slots] at X94 l94 y94 z94 st94 hQ94
        subst l94 y94 z94
        obtain ⟨rfl, N94q, e94⟩ := hQ94
        have N95 := Fr.app N0 N94q
        have pre96 : ∀ t, Steps p.tables e below (T94.setTop (mkF m 105 #[.val (.long q0), .second, .val (.int p1), .val (.int p2), .val (.long (own_v0_5_0 p1)), .second, .val (.int (p2 &&& (3 : Int32))), .val (.long (-1 : Int64)), .second, .val (.long (own_v0_74_10 p1)), .second, .unset, .unset] [(.int (lcmpW (own_v0_74_10 p1) ((own_v0_5_0 p1) + (-1 : Int64))))])) t → Steps p.tables e below (s₁.setTop (entryFrame m #[(.long q0), (.int p1), (.int p2)] maxLocals)) t := fun t k => pre63 t (by
            refine XS.icmpYes X0.here hx rfl (pc0 := 49) (pc' := 62) rfl (hb hby at_49) rfl (feq hc64).2 (by decide) (by decide) ?_
            show Steps p.tables e below (s₁.setTop (mkF m 62 #[.val (.long q0), .second, .val (.int p1), .val (.int p2), .val (.long (own_v0_5_0 p1)), .second, .val (.int (p2 &&& (3 : Int32))), .unset, .unset, .unset, .unset, .unset, .unset] [])) _
            refine X0.ldc2Long hx hown (mvT hZ (hw _ (List.mem_of_getElem? (i := 6) rfl))) (g := (mkF m 62 #[.val (.long q0), .second, .val (.int p1), .val (.int p2), .val (.long (own_v0_5_0 p1)), .second, .val (.int (p2 &&& (3 : Int32))), .unset, .unset, .unset, .unset, .unset, .unset] [])) rfl (hb hby at_62) _ ?_
            show Steps p.tables e below (s₁.setTop (mkF m 65 #[.val (.long q0), .second, .val (.int p1), .val (.int p2), .val (.long (own_v0_5_0 p1)), .second, .val (.int (p2 &&& (3 : Int32))), .unset, .unset, .unset, .unset, .unset, .unset] [(.long (-1 : Int64))])) _
            refine XS.lstore X0.here hx rfl (hb hby at_65) rfl (l' := #[.val (.long q0), .second, .val (.int p1), .val (.int p2), .val (.long (own_v0_5_0 p1)), .second, .val (.int (p2 &&& (3 : Int32))), .val (.long (-1 : Int64)), .second, .unset, .unset, .unset, .unset]) rfl ?_
            show Steps p.tables e below (s₁.setTop (mkF m 67 #[.val (.long q0), .second, .val (.int p1), .val (.int p2), .val (.long (own_v0_5_0 p1)), .second, .val (.int (p2 &&& (3 : Int32))), .val (.long (-1 : Int64)), .second, .unset, .unset, .unset, .unset] [])) _
            refine XS.lload X0.here hx rfl (hb hby at_67) rfl ?_
            show Steps p.tables e below (s₁.setTop (mkF m 69 #[.val (.long q0), .second, .val (.int p1), .val (.int p2), .val (.long (own_v0_5_0 p1)), .second, .val (.int (p2 &&& (3 : Int32))), .val (.long (-1 : Int64)), .second, .unset, .unset, .unset, .unset] [(.long (-1 : Int64))])) _
            refine XS.lload X0.here hx rfl (hb hby at_69) rfl ?_
            show Steps p.tables e below (s₁.setTop (mkF m 71 #[.val (.long q0), .second, .val (.int p1), .val (.int p2), .val (.long (own_v0_5_0 p1)), .second, .val (.int (p2 &&& (3 : Int32))), .val (.long (-1 : Int64)), .second, .unset, .unset, .unset, .unset] [(.long (own_v0_5_0 p1)), (.long (-1 : Int64))])) _
            refine st94 _ ?_
            show Steps p.tables e below (T94.setTop (mkF m 74 #[.val (.long q0), .second, .val (.int p1), .val (.int p2), .val (.long (own_v0_5_0 p1)), .second, .val (.int (p2 &&& (3 : Int32))), .val (.long (-1 : Int64)), .second, .unset, .unset, .unset, .unset] [(.long (own_f1 (-1 : Int64) (own_v0_5_0 p1)))])) _
            refine XS.lstore X94.here hx rfl (hb hby at_74) rfl (l' := #[.val (.long q0), .second, .val (.int p1), .val (.int p2), .val (.long (own_v0_5_0 p1)), .second, .val (.int (p2 &&& (3 : Int32))), .val (.long (-1 : Int64)), .second, .val (.long (own_v0_74_10 p1)), .second, .unset, .unset]) rfl ?_
            show Steps p.tables e below (T94.setTop (mkF m 76 #[.val (.long q0), .second, .val (.int p1), .val (.int p2), .val (.long (own_v0_5_0 p1)), .second, .val (.int (p2 &&& (3 : Int32))), .val (.long (-1 : Int64)), .second, .val (.long (own_v0_74_10 p1)), .second, .unset, .unset] [])) _
            refine XS.lload X94.here hx rfl (hb hby at_76) rfl ?_
            show Steps p.tables e below (T94.setTop (mkF m 78 #[.val (.long q0), .second, .val (.int p1), .val (.int p2), .val (.long (own_v0_5_0 p1)), .second, .val (.int (p2 &&& (3 : Int32))), .val (.long (-1 : Int64)), .second, .val (.long (own_v0_74_10 p1)), .second, .unset, .unset] [(.long (-1 : Int64))])) _
            refine XS.lconst X94.here hx rfl (hb hby at_78) ?_
            show Steps p.tables e below (T94.setTop (mkF m 79 #[.val (.long q0), .second, .val (.int p1), .val (.int p2), .val (.long (own_v0_5_0 p1)), .second, .val (.int (p2 &&& (3 : Int32))), .val (.long (-1 : Int64)), .second, .val (.long (own_v0_74_10 p1)), .second, .unset, .unset] [(.long (0 : Int64)), (.long (-1 : Int64))])) _
            refine XS.lcmp X94.here hx rfl (hb hby at_79) rfl ?_
            show Steps p.tables e below (T94.setTop (mkF m 80 #[.val (.long q0), .second, .val (.int p1), .val (.int p2), .val (.long (own_v0_5_0 p1)), .second, .val (.int (p2 &&& (3 : Int32))), .val (.long (-1 : Int64)), .second, .val (.long (own_v0_74_10 p1)), .second, .unset, .unset] [(.int (lcmpW (-1 : Int64) (0 : Int64)))])) _
            refine XS.ifYes X94.here hx rfl (pc0 := 80) (pc' := 97) rfl (hb hby at_80) rfl ((if0 _ _).trans (tlt ((own_lw_lt _ _).mpr (by decide : (-1 : Int64) < (0 : Int64)))).1) (by decide) (by decide) ?_
            show Steps p.tables e below (T94.setTop (mkF m 97 #[.val (.long q0), .second, .val (.int p1), .val (.int p2), .val (.long (own_v0_5_0 p1)), .second, .val (.int (p2 &&& (3 : Int32))), .val (.long (-1 : Int64)), .second, .val (.long (own_v0_74_10 p1)), .second, .unset, .unset] [])) _
            refine XS.lload X94.here hx rfl (hb hby at_97) rfl ?_
            show Steps p.tables e below (T94.setTop (mkF m 99 #[.val (.long q0), .second, .val (.int p1), .val (.int p2), .val (.long (own_v0_5_0 p1)), .second, .val (.int (p2 &&& (3 : Int32))), .val (.long (-1 : Int64)), .second, .val (.long (own_v0_74_10 p1)), .second, .unset, .unset] [(.long (own_v0_74_10 p1))])) _
            refine XS.lload X94.here hx rfl (hb hby at_99) rfl ?_
            show Steps p.tables e below (T94.setTop (mkF m 101 #[.val (.long q0), .second, .val (.int p1), .val (.int p2), .val (.long (own_v0_5_0 p1)), .second, .val (.int (p2 &&& (3 : Int32))), .val (.long (-1 : Int64)), .second, .val (.long (own_v0_74_10 p1)), .second, .unset, .unset] [(.long (own_v0_5_0 p1)), (.long (own_v0_74_10 p1))])) _
            refine XS.lload X94.here hx rfl (hb hby at_101) rfl ?_
            show Steps p.tables e below (T94.setTop (mkF m 103 #[.val (.long q0), .second, .val (.int p1), .val (.int p2), .val (.long (own_v0_5_0 p1)), .second, .val (.int (p2 &&& (3 : Int32))), .val (.long (-1 : Int64)), .second, .val (.long (own_v0_74_10 p1)), .second, .unset, .unset] [(.long (-1 : Int64)), (.long (own_v0_5_0 p1)), (.long (own_v0_74_10 p1))])) _
            refine XS.ladd X94.here hx rfl (hb hby at_103) rfl ?_
            show Steps p.tables e below (T94.setTop (mkF m 104 #[.val (.long q0), .second, .val (.int p1), .val (.int p2), .val (.long (own_v0_5_0 p1)), .second, .val (.int (p2 &&& (3 : Int32))), .val (.long (-1 : Int64)), .second, .val (.long (own_v0_74_10 p1)), .second, .unset, .unset] [(.long ((own_v0_5_0 p1) + (-1 : Int64))), (.long (own_v0_74_10 p1))])) _
            refine XS.lcmp X94.here hx rfl (hb hby at_104) rfl ?_
            show Steps p.tables e below (T94.setTop (mkF m 105 #[.val (.long q0), .second, .val (.int p1), .val (.int p2), .val (.long (own_v0_5_0 p1)), .second, .val (.int (p2 &&& (3 : Int32))), .val (.long (-1 : Int64)), .second, .val (.long (own_v0_74_10 p1)), .second, .unset, .unset] [(.int (lcmpW (own_v0_74_10 p1) ((own_v0_5_0 p1) + (-1 : Int64))))])) _
            exact k)
        by_cases hc97 : (own_v0_74_10 p1) = ((own_v0_5_0 p1) + (-1 : Int64))
        · have pre98 : ∀ t, Steps p.tables e below (T94.setTop (mkF m 113 #[.val (.long q0), .second, .val (.int p1), .val (.int p2), .val (.long (own_v0_5_0 p1)), .second, .val (.int (p2 &&& (3 : Int32))), .val (.long (-1 : Int64)), .second, .val (.long (own_v0_74_10 p1)), .second, .unset, .unset] [(.int (lcmpW (own_v0_74_10 p1) (own_v0_5_0 p1)))])) t → Steps p.tables e below (s₁.setTop (entryFrame m #[(.long q0), (.int p1), (.int p2)] maxLocals)) t := fun t k => pre96 t (by
              refine XS.ifNo X94.here hx rfl (hb hby at_105) rfl ((if0 _ _).trans (teq ((own_lw_eq _ _).mpr hc97)).2) ?_
              show Steps p.tables e below (T94.setTop (mkF m 108 #[.val (.long q0), .second, .val (.int p1), .val (.int p2), .val (.long (own_v0_5_0 p1)), .second, .val (.int (p2 &&& (3 : Int32))), .val (.long (-1 : Int64)), .second, .val (.long (own_v0_74_10 p1)), .second, .unset, .unset] [])) _
              refine XS.lload X94.here hx rfl (hb hby at_108) rfl ?_
              show Steps p.tables e below (T94.setTop (mkF m 110 #[.val (.long q0), .second, .val (.int p1), .val (.int p2), .val (.long (own_v0_5_0 p1)), .second, .val (.int (p2 &&& (3 : Int32))), .val (.long (-1 : Int64)), .second, .val (.long (own_v0_74_10 p1)), .second, .unset, .unset] [(.long (own_v0_74_10 p1))])) _
              refine XS.lload X94.here hx rfl (hb hby at_110) rfl ?_
              show Steps p.tables e below (T94.setTop (mkF m 112 #[.val (.long q0), .second, .val (.int p1), .val (.int p2), .val (.long (own_v0_5_0 p1)), .second, .val (.int (p2 &&& (3 : Int32))), .val (.long (-1 : Int64)), .second, .val (.long (own_v0_74_10 p1)), .second, .unset, .unset] [(.long (own_v0_5_0 p1)), (.long (own_v0_74_10 p1))])) _
              refine XS.lcmp X94.here hx rfl (hb hby at_112) rfl ?_
              show Steps p.tables e below (T94.setTop (mkF m 113 #[.val (.long q0), .second, .val (.int p1), .val (.int p2), .val (.long (own_v0_5_0 p1)), .second, .val (.int (p2 &&& (3 : Int32))), .val (.long (-1 : Int64)), .second, .val (.long (own_v0_74_10 p1)), .second, .unset, .unset] [(.int (lcmpW (own_v0_74_10 p1) (own_v0_5_0 p1)))])) _
              exact k)
          by_cases hc99 : (own_v0_74_10 p1) < (own_v0_5_0 p1)
          · have pre100 : ∀ t, Steps p.tables e below (T94.setTop (mkF m 124 #[.val (.long q0), .second, .val (.int p1), .val (.int p2), .val (.long (own_v0_5_0 p1)), .second, .val (.int (p2 &&& (3 : Int32))), .val (.long (-1 : Int64)), .second, .val (.long (own_v0_74_10 p1)), .second, .unset, .unset] [(.int (lcmpW (-1 : Int64) (-(own_v0_5_0 p1))))])) t → Steps p.tables e below (s₁.setTop (entryFrame m #[(.long q0), (.int p1), (.int p2)] maxLocals)) t := fun t k => pre98 t (by
                refine XS.ifYes X94.here hx rfl (pc0 := 113) (pc' := 118) rfl (hb hby at_113) rfl ((if0 _ _).trans (tlt ((own_lw_lt _ _).mpr hc99)).1) (by decide) (by decide) ?_
                show Steps p.tables e below (T94.setTop (mkF m 118 #[.val (.long q0), .second, .val (.int p1), .val (.int p2), .val (.long (own_v0_5_0 p1)), .second, .val (.int (p2 &&& (3 : Int32))), .val (.long (-1 : Int64)), .second, .val (.long (own_v0_74_10 p1)), .second, .unset, .unset] [])) _
                refine XS.lload X94.here hx rfl (hb hby at_118) rfl ?_
                show Steps p.tables e below (T94.setTop (mkF m 120 #[.val (.long q0), .second, .val (.int p1), .val (.int p2), .val (.long (own_v0_5_0 p1)), .second, .val (.int (p2 &&& (3 : Int32))), .val (.long (-1 : Int64)), .second, .val (.long (own_v0_74_10 p1)), .second, .unset, .unset] [(.long (-1 : Int64))])) _
                refine XS.lload X94.here hx rfl (hb hby at_120) rfl ?_
                show Steps p.tables e below (T94.setTop (mkF m 122 #[.val (.long q0), .second, .val (.int p1), .val (.int p2), .val (.long (own_v0_5_0 p1)), .second, .val (.int (p2 &&& (3 : Int32))), .val (.long (-1 : Int64)), .second, .val (.long (own_v0_74_10 p1)), .second, .unset, .unset] [(.long (own_v0_5_0 p1)), (.long (-1 : Int64))])) _
                refine XS.lneg X94.here hx rfl (hb hby at_122) rfl ?_
                show Steps p.tables e below (T94.setTop (mkF m 123 #[.val (.long q0), .second, .val (.int p1), .val (.int p2), .val (.long (own_v0_5_0 p1)), .second, .val (.int (p2 &&& (3 : Int32))), .val (.long (-1 : Int64)), .second, .val (.long (own_v0_74_10 p1)), .second, .unset, .unset] [(.long (-(own_v0_5_0 p1))), (.long (-1 : Int64))])) _
                refine XS.lcmp X94.here hx rfl (hb hby at_123) rfl ?_
                show Steps p.tables e below (T94.setTop (mkF m 124 #[.val (.long q0), .second, .val (.int p1), .val (.int p2), .val (.long (own_v0_5_0 p1)), .second, .val (.int (p2 &&& (3 : Int32))), .val (.long (-1 : Int64)), .second, .val (.long (own_v0_74_10 p1)), .second, .unset, .unset] [(.int (lcmpW (-1 : Int64) (-(own_v0_5_0 p1))))])) _
                exact k)
            by_cases hc101 : (-1 : Int64) < (-(own_v0_5_0 p1))
            · have pre102 : ∀ t, Steps p.tables e below (T94.setTop (mkF m 164 #[.val (.long q0), .second, .val (.int p1), .val (.int p2), .val (.long (own_v0_5_0 p1)), .second, .val (.int (p2 &&& (3 : Int32))), .val (.long (-1 : Int64)), .second, .val (.long (own_v0_74_10 p1)), .second, .unset, .unset] [(.int (lcmpW (own_v0_74_10 p1) (0 : Int64)))])) t → Steps p.tables e below (s₁.setTop (entryFrame m #[(.long q0), (.int p1), (.int p2)] maxLocals)) t := fun t k => pre100 t (by
                  refine XS.ifYes X94.here hx rfl (pc0 := 124) (pc' := 160) rfl (hb hby at_124) rfl ((if0 _ _).trans (tlt ((own_lw_lt _ _).mpr hc101)).1) (by decide) (by decide) ?_
                  show Steps p.tables e below (T94.setTop (mkF m 160 #[.val (.long q0), .second, .val (.int p1), .val (.int p2), .val (.long (own_v0_5_0 p1)), .second, .val (.int (p2 &&& (3 : Int32))), .val (.long (-1 : Int64)), .second, .val (.long (own_v0_74_10 p1)), .second, .unset, .unset] [])) _
                  refine XS.lload X94.here hx rfl (hb hby at_160) rfl ?_
                  show Steps p.tables e below (T94.setTop (mkF m 162 #[.val (.long q0), .second, .val (.int p1), .val (.int p2), .val (.long (own_v0_5_0 p1)), .second, .val (.int (p2 &&& (3 : Int32))), .val (.long (-1 : Int64)), .second, .val (.long (own_v0_74_10 p1)), .second, .unset, .unset] [(.long (own_v0_74_10 p1))])) _
                  refine XS.lconst X94.here hx rfl (hb hby at_162) ?_
                  show Steps p.tables e below (T94.setTop (mkF m 163 #[.val (.long q0), .second, .val (.int p1), .val (.int p2), .val (.long (own_v0_5_0 p1)), .second, .val (.int (p2 &&& (3 : Int32))), .val (.long (-1 : Int64)), .second, .val (.long (own_v0_74_10 p1)), .second, .unset, .unset] [(.long (0 : Int64)), (.long (own_v0_74_10 p1))])) _
                  refine XS.lcmp X94.here hx rfl (hb hby at_163) rfl ?_
                  show Steps p.tables e below (T94.setTop (mkF m 164 #[.val (.long q0), .second, .val (.int p1), .val (.int p2), .val (.long (own_v0_5_0 p1)), .second, .val (.int (p2 &&& (3 : Int32))), .val (.long (-1 : Int64)), .second, .val (.long (own_v0_74_10 p1)), .second, .unset, .unset] [(.int (lcmpW (own_v0_74_10 p1) (0 : Int64)))])) _
                  exact k)
              by_cases hc103 : (own_v0_74_10 p1) < (0 : Int64)
              · have pre104 : ∀ t, Steps p.tables e below (T94.setTop (mkF m 172 #[.val (.long q0), .second, .val (.int p1), .val (.int p2), .val (.long (own_v0_5_0 p1)), .second, .val (.int (p2 &&& (3 : Int32))), .val (.long (-1 : Int64)), .second, .val (.long (own_v0_74_10 p1)), .second, .unset, .unset] [(.int (1 : Int32))])) t → Steps p.tables e below (s₁.setTop (entryFrame m #[(.long q0), (.int p1), (.int p2)] maxLocals)) t := fun t k => pre102 t (by
                    refine XS.ifNo X94.here hx rfl (hb hby at_164) rfl ((if0 _ _).trans (tlt ((own_lw_lt _ _).mpr hc103)).2.1) ?_
                    show Steps p.tables e below (T94.setTop (mkF m 167 #[.val (.long q0), .second, .val (.int p1), .val (.int p2), .val (.long (own_v0_5_0 p1)), .second, .val (.int (p2 &&& (3 : Int32))), .val (.long (-1 : Int64)), .second, .val (.long (own_v0_74_10 p1)), .second, .unset, .unset] [])) _
                    refine XS.iconst X94.here hx rfl (hb hby at_167) ?_
                    show Steps p.tables e below (T94.setTop (mkF m 168 #[.val (.long q0), .second, .val (.int p1), .val (.int p2), .val (.long (own_v0_5_0 p1)), .second, .val (.int (p2 &&& (3 : Int32))), .val (.long (-1 : Int64)), .second, .val (.long (own_v0_74_10 p1)), .second, .unset, .unset] [(.int (1 : Int32))])) _
                    refine XS.goto X94.here hx rfl (pc0 := 168) (pc' := 172) rfl (hb hby at_168) (by decide) (by decide) ?_
                    show Steps p.tables e below (T94.setTop (mkF m 172 #[.val (.long q0), .second, .val (.int p1), .val (.int p2), .val (.long (own_v0_5_0 p1)), .second, .val (.int (p2 &&& (3 : Int32))), .val (.long (-1 : Int64)), .second, .val (.long (own_v0_74_10 p1)), .second, .unset, .unset] [(.int (1 : Int32))])) _
                    exact k)
                obtain ⟨fs, hr, hrun, hended, hW, hsame⟩ := X94.leave (v := some (.int (1 : Int32))) (fun h => by rw [Bd.returns] at h; cases h) (hlocks := hlk)
                refine ⟨_, _, pre104 _ ?_, hrun, hended, _, _, rfl, ?_, ⟨_, rfl⟩, hW, hsame.mono (by decide) (by decide)⟩
                · show Steps p.tables e below (T94.setTop (mkF m 172 #[.val (.long q0), .second, .val (.int p1), .val (.int p2), .val (.long (own_v0_5_0 p1)), .second, .val (.int (p2 &&& (3 : Int32))), .val (.long (-1 : Int64)), .second, .val (.long (own_v0_74_10 p1)), .second, .unset, .unset] [(.int (1 : Int32))])) _
                  exact retN X94 hx (t := .boolean) Bd.returns (by simp) (hb hby at_172) hr
                · show own_Q0 Z q0 p1 p2 h0 n0 _ T94.heap _; exact ⟨(by show some (Value.int _) = some (.int (own_f0 q0 p1 p2)); unfold own_f0; rw [if_neg hc2, if_neg hc33, if_neg hc64, if_pos hc97, if_pos hc99, if_pos hc101, if_pos hc103]), N95⟩
              · have pre105 : ∀ t, Steps p.tables e below (T94.setTop (mkF m 172 #[.val (.long q0), .second, .val (.int p1), .val (.int p2), .val (.long (own_v0_5_0 p1)), .second, .val (.int (p2 &&& (3 : Int32))), .val (.long (-1 : Int64)), .second, .val (.long (own_v0_74_10 p1)), .second, .unset, .unset] [(.int (0 : Int32))])) t → Steps p.tables e below (s₁.setTop (entryFrame m #[(.long q0), (.int p1), (.int p2)] maxLocals)) t := fun t k => pre102 t (by
                    refine XS.ifYes X94.here hx rfl (pc0 := 164) (pc' := 171) rfl (hb hby at_164) rfl ((if0 _ _).trans (flt (mt (own_lw_lt _ _).mp hc103)).2.1) (by decide) (by decide) ?_
                    show Steps p.tables e below (T94.setTop (mkF m 171 #[.val (.long q0), .second, .val (.int p1), .val (.int p2), .val (.long (own_v0_5_0 p1)), .second, .val (.int (p2 &&& (3 : Int32))), .val (.long (-1 : Int64)), .second, .val (.long (own_v0_74_10 p1)), .second, .unset, .unset] [])) _
                    refine XS.iconst X94.here hx rfl (hb hby at_171) ?_
                    show Steps p.tables e below (T94.setTop (mkF m 172 #[.val (.long q0), .second, .val (.int p1), .val (.int p2), .val (.long (own_v0_5_0 p1)), .second, .val (.int (p2 &&& (3 : Int32))), .val (.long (-1 : Int64)), .second, .val (.long (own_v0_74_10 p1)), .second, .unset, .unset] [(.int (0 : Int32))])) _
                    exact k)
                obtain ⟨fs, hr, hrun, hended, hW, hsame⟩ := X94.leave (v := some (.int (0 : Int32))) (fun h => by rw [Bd.returns] at h; cases h) (hlocks := hlk)
                refine ⟨_, _, pre105 _ ?_, hrun, hended, _, _, rfl, ?_, ⟨_, rfl⟩, hW, hsame.mono (by decide) (by decide)⟩
                · show Steps p.tables e below (T94.setTop (mkF m 172 #[.val (.long q0), .second, .val (.int p1), .val (.int p2), .val (.long (own_v0_5_0 p1)), .second, .val (.int (p2 &&& (3 : Int32))), .val (.long (-1 : Int64)), .second, .val (.long (own_v0_74_10 p1)), .second, .unset, .unset] [(.int (0 : Int32))])) _
                  exact retN X94 hx (t := .boolean) Bd.returns (by simp) (hb hby at_172) hr
                · show own_Q0 Z q0 p1 p2 h0 n0 _ T94.heap _; exact ⟨(by show some (Value.int _) = some (.int (own_f0 q0 p1 p2)); unfold own_f0; rw [if_neg hc2, if_neg hc33, if_neg hc64, if_pos hc97, if_pos hc99, if_pos hc101, if_neg hc103]), N95⟩
            · obtain ⟨_, _, ⟨T106, L106, k106, n106⟩, -, X106, ⟨Lc106, hQ106, l106, y106, z106⟩, st106⟩ := Jvm.LawKit.callS X94 hx (y := (⟨"com/example/firm_query/firmquery/ArraySlice", "normalize", "(JJ)J"⟩ : MethodName)) hown (mvT hZ (hw _ (List.mem_of_getElem? (i := 2) rfl))) (mvT hZ (hw _ (List.mem_of_getElem? (i := 3) rfl))) (mvT hZ (hw _ (List.mem_of_getElem? (i := 4) rfl))) (mvT hZ (hw _ (List.mem_of_getElem? (i := 5) rfl))) (by decide) (backOf (W := 0) (own_rm1 l Z a0 hw [] ((-1 : Int64) + (own_v0_5_0 p1)) (own_v0_5_0 p1) h0 n0 Z0 ) hZ (hw _ (List.mem_of_getElem? (i := 5) rfl)) (hw _ (List.mem_of_getElem? (i := 4) rfl)) (by decide) (by decide)) (g := (mkF m 134 #[.val (.long q0), .second, .val (.int p1), .val (.int p2), .val (.long (own_v0_5_0 p1)), .second, .val (.int (p2 &&& (3 : Int32))), .val (.long (-1 : Int64)), .second, .val (.long (own_v0_74_10 p1)), .second, .unset, .unset] [(.long (own_v0_5_0 p1)), (.long ((-1 : Int64) + (own_v0_5_0 p1)))])) rfl (by rw [hml]; rfl) (argsL := [(.long ((-1 : Int64) + (own_v0_5_0 p1))), (.long (own_v0_5_0 p1))]) (rest := []) (lenOf own_pd0 rfl) rfl (by show 2 * 0 + _ ≤ _; exact Nat.le_of_eq rfl) (hb hby at_134) (fun _ _ => ⟨rfl, e94, (by decide : 0 + 0 ≤ _), (by decide : 0 + 0 ≤ _)⟩)
              dsimp only [Pt.U, Pt.locs, Pt.cells, Pt.slots] at X106 l106 y106 z106 st106 hQ106
              subst l106 y106 z106
              obtain ⟨rfl, N106q, e106⟩ := hQ106
              have N107 := Fr.app N95 N106q
              have pre108 : ∀ t, Steps p.tables e below (T106.setTop (mkF m 144 #[.val (.long q0), .second, .val (.int p1), .val (.int p2), .val (.long (own_v0_5_0 p1)), .second, .val (.int (p2 &&& (3 : Int32))), .val (.long (-1 : Int64)), .second, .val (.long (own_v0_74_10 p1)), .second, .val (.long (own_v0_137_11 p1)), .second] [(.int (lcmpW (own_v0_74_10 p1) (own_v0_137_11 p1)))])) t → Steps p.tables e below (s₁.setTop (entryFrame m #[(.long q0), (.int p1), (.int p2)] maxLocals)) t := fun t k => pre100 t (by
                  refine XS.ifNo X94.here hx rfl (hb hby at_124) rfl ((if0 _ _).trans (flt (mt (own_lw_lt _ _).mp hc101)).1) ?_
                  show Steps p.tables e below (T94.setTop (mkF m 127 #[.val (.long q0), .second, .val (.int p1), .val (.int p2), .val (.long (own_v0_5_0 p1)), .second, .val (.int (p2 &&& (3 : Int32))), .val (.long (-1 : Int64)), .second, .val (.long (own_v0_74_10 p1)), .second, .unset, .unset] [])) _
                  refine XS.lload X94.here hx rfl (hb hby at_127) rfl ?_
                  show Steps p.tables e below (T94.setTop (mkF m 129 #[.val (.long q0), .second, .val (.int p1), .val (.int p2), .val (.long (own_v0_5_0 p1)), .second, .val (.int (p2 &&& (3 : Int32))), .val (.long (-1 : Int64)), .second, .val (.long (own_v0_74_10 p1)), .second, .unset, .unset] [(.long (-1 : Int64))])) _
                  refine XS.lload X94.here hx rfl (hb hby at_129) rfl ?_
                  show Steps p.tables e below (T94.setTop (mkF m 131 #[.val (.long q0), .second, .val (.int p1), .val (.int p2), .val (.long (own_v0_5_0 p1)), .second, .val (.int (p2 &&& (3 : Int32))), .val (.long (-1 : Int64)), .second, .val (.long (own_v0_74_10 p1)), .second, .unset, .unset] [(.long (own_v0_5_0 p1)), (.long (-1 : Int64))])) _
                  refine XS.ladd X94.here hx rfl (hb hby at_131) rfl ?_
                  show Steps p.tables e below (T94.setTop (mkF m 132 #[.val (.long q0), .second, .val (.int p1), .val (.int p2), .val (.long (own_v0_5_0 p1)), .second, .val (.int (p2 &&& (3 : Int32))), .val (.long (-1 : Int64)), .second, .val (.long (own_v0_74_10 p1)), .second, .unset, .unset] [(.long ((-1 : Int64) + (own_v0_5_0 p1)))])) _
                  refine XS.lload X94.here hx rfl (hb hby at_132) rfl ?_
                  show Steps p.tables e below (T94.setTop (mkF m 134 #[.val (.long q0), .second, .val (.int p1), .val (.int p2), .val (.long (own_v0_5_0 p1)), .second, .val (.int (p2 &&& (3 : Int32))), .val (.long (-1 : Int64)), .second, .val (.long (own_v0_74_10 p1)), .second, .unset, .unset] [(.long (own_v0_5_0 p1)), (.long ((-1 : Int64) + (own_v0_5_0 p1)))])) _
                  refine st106 _ ?_
                  show Steps p.tables e below (T106.setTop (mkF m 137 #[.val (.long q0), .second, .val (.int p1), .val (.int p2), .val (.long (own_v0_5_0 p1)), .second, .val (.int (p2 &&& (3 : Int32))), .val (.long (-1 : Int64)), .second, .val (.long (own_v0_74_10 p1)), .second, .unset, .unset] [(.long (own_f1 ((-1 : Int64) + (own_v0_5_0 p1)) (own_v0_5_0 p1)))])) _
                  refine XS.lstore X106.here hx rfl (hb hby at_137) rfl (l' := #[.val (.long q0), .second, .val (.int p1), .val (.int p2), .val (.long (own_v0_5_0 p1)), .second, .val (.int (p2 &&& (3 : Int32))), .val (.long (-1 : Int64)), .second, .val (.long (own_v0_74_10 p1)), .second, .val (.long (own_v0_137_11 p1)), .second]) rfl ?_
                  show Steps p.tables e below (T106.setTop (mkF m 139 #[.val (.long q0), .second, .val (.int p1), .val (.int p2), .val (.long (own_v0_5_0 p1)), .second, .val (.int (p2 &&& (3 : Int32))), .val (.long (-1 : Int64)), .second, .val (.long (own_v0_74_10 p1)), .second, .val (.long (own_v0_137_11 p1)), .second] [])) _
                  refine XS.lload X106.here hx rfl (hb hby at_139) rfl ?_
                  show Steps p.tables e below (T106.setTop (mkF m 141 #[.val (.long q0), .second, .val (.int p1), .val (.int p2), .val (.long (own_v0_5_0 p1)), .second, .val (.int (p2 &&& (3 : Int32))), .val (.long (-1 : Int64)), .second, .val (.long (own_v0_74_10 p1)), .second, .val (.long (own_v0_137_11 p1)), .second] [(.long (own_v0_74_10 p1))])) _
                  refine XS.lload X106.here hx rfl (hb hby at_141) rfl ?_
                  show Steps p.tables e below (T106.setTop (mkF m 143 #[.val (.long q0), .second, .val (.int p1), .val (.int p2), .val (.long (own_v0_5_0 p1)), .second, .val (.int (p2 &&& (3 : Int32))), .val (.long (-1 : Int64)), .second, .val (.long (own_v0_74_10 p1)), .second, .val (.long (own_v0_137_11 p1)), .second] [(.long (own_v0_137_11 p1)), (.long (own_v0_74_10 p1))])) _
                  refine XS.lcmp X106.here hx rfl (hb hby at_143) rfl ?_
                  show Steps p.tables e below (T106.setTop (mkF m 144 #[.val (.long q0), .second, .val (.int p1), .val (.int p2), .val (.long (own_v0_5_0 p1)), .second, .val (.int (p2 &&& (3 : Int32))), .val (.long (-1 : Int64)), .second, .val (.long (own_v0_74_10 p1)), .second, .val (.long (own_v0_137_11 p1)), .second] [(.int (lcmpW (own_v0_74_10 p1) (own_v0_137_11 p1)))])) _
                  exact k)
              by_cases hc109 : (own_v0_74_10 p1) = (own_v0_137_11 p1)
              · have pre110 : ∀ t, Steps p.tables e below (T106.setTop (mkF m 151 #[.val (.long q0), .second, .val (.int p1), .val (.int p2), .val (.long (own_v0_5_0 p1)), .second, .val (.int (p2 &&& (3 : Int32))), .val (.long (-1 : Int64)), .second, .val (.long (own_v0_74_10 p1)), .second, .val (.long (own_v0_137_11 p1)), .second] [(.int (lcmpW (own_v0_74_10 p1) (0 : Int64)))])) t → Steps p.tables e below (s₁.setTop (entryFrame m #[(.long q0), (.int p1), (.int p2)] maxLocals)) t := fun t k => pre108 t (by
                    refine XS.ifNo X106.here hx rfl (hb hby at_144) rfl ((if0 _ _).trans (teq ((own_lw_eq _ _).mpr hc109)).2) ?_
                    show Steps p.tables e below (T106.setTop (mkF m 147 #[.val (.long q0), .second, .val (.int p1), .val (.int p2), .val (.long (own_v0_5_0 p1)), .second, .val (.int (p2 &&& (3 : Int32))), .val (.long (-1 : Int64)), .second, .val (.long (own_v0_74_10 p1)), .second, .val (.long (own_v0_137_11 p1)), .second] [])) _
                    refine XS.lload X106.here hx rfl (hb hby at_147) rfl ?_
                    show Steps p.tables e below (T106.setTop (mkF m 149 #[.val (.long q0), .second, .val (.int p1), .val (.int p2), .val (.long (own_v0_5_0 p1)), .second, .val (.int (p2 &&& (3 : Int32))), .val (.long (-1 : Int64)), .second, .val (.long (own_v0_74_10 p1)), .second, .val (.long (own_v0_137_11 p1)), .second] [(.long (own_v0_74_10 p1))])) _
                    refine XS.lconst X106.here hx rfl (hb hby at_149) ?_
                    show Steps p.tables e below (T106.setTop (mkF m 150 #[.val (.long q0), .second, .val (.int p1), .val (.int p2), .val (.long (own_v0_5_0 p1)), .second, .val (.int (p2 &&& (3 : Int32))), .val (.long (-1 : Int64)), .second, .val (.long (own_v0_74_10 p1)), .second, .val (.long (own_v0_137_11 p1)), .second] [(.long (0 : Int64)), (.long (own_v0_74_10 p1))])) _
                    refine XS.lcmp X106.here hx rfl (hb hby at_150) rfl ?_
                    show Steps p.tables e below (T106.setTop (mkF m 151 #[.val (.long q0), .second, .val (.int p1), .val (.int p2), .val (.long (own_v0_5_0 p1)), .second, .val (.int (p2 &&& (3 : Int32))), .val (.long (-1 : Int64)), .second, .val (.long (own_v0_74_10 p1)), .second, .val (.long (own_v0_137_11 p1)), .second] [(.int (lcmpW (own_v0_74_10 p1) (0 : Int64)))])) _
                    exact k)
                by_cases hc111 : (own_v0_74_10 p1) < (0 : Int64)
                · have pre112 : ∀ t, Steps p.tables e below (T106.setTop (mkF m 159 #[.val (.long q0), .second, .val (.int p1), .val (.int p2), .val (.long (own_v0_5_0 p1)), .second, .val (.int (p2 &&& (3 : Int32))), .val (.long (-1 : Int64)), .second, .val (.long (own_v0_74_10 p1)), .second, .val (.long (own_v0_137_11 p1)), .second] [(.int (0 : Int32))])) t → Steps p.tables e below (s₁.setTop (entryFrame m #[(.long q0), (.int p1), (.int p2)] maxLocals)) t := fun t k => pre110 t (by
                      refine XS.ifYes X106.here hx rfl (pc0 := 151) (pc' := 158) rfl (hb hby at_151) rfl ((if0 _ _).trans (tlt ((own_lw_lt _ _).mpr hc111)).1) (by decide) (by decide) ?_
                      show Steps p.tables e below (T106.setTop (mkF m 158 #[.val (.long q0), .second, .val (.int p1), .val (.int p2), .val (.long (own_v0_5_0 p1)), .second, .val (.int (p2 &&& (3 : Int32))), .val (.long (-1 : Int64)), .second, .val (.long (own_v0_74_10 p1)), .second, .val (.long (own_v0_137_11 p1)), .second] [])) _
                      refine XS.iconst X106.here hx rfl (hb hby at_158) ?_
                      show Steps p.tables e below (T106.setTop (mkF m 159 #[.val (.long q0), .second, .val (.int p1), .val (.int p2), .val (.long (own_v0_5_0 p1)), .second, .val (.int (p2 &&& (3 : Int32))), .val (.long (-1 : Int64)), .second, .val (.long (own_v0_74_10 p1)), .second, .val (.long (own_v0_137_11 p1)), .second] [(.int (0 : Int32))])) _
                      exact k)
                  obtain ⟨fs, hr, hrun, hended, hW, hsame⟩ := X106.leave (v := some (.int (0 : Int32))) (fun h => by rw [Bd.returns] at h; cases h) (hlocks := hlk)
                  refine ⟨_, _, pre112 _ ?_, hrun, hended, _, _, rfl, ?_, ⟨_, rfl⟩, hW, hsame.mono (by decide) (by decide)⟩
                  · show Steps p.tables e below (T106.setTop (mkF m 159 #[.val (.long q0), .second, .val (.int p1), .val (.int p2), .val (.long (own_v0_5_0 p1)), .second, .val (.int (p2 &&& (3 : Int32))), .val (.long (-1 : Int64)), .second, .val (.long (own_v0_74_10 p1)), .second, .val (.long (own_v0_137_11 p1)), .second] [(.int (0 : Int32))])) _
                    exact retN X106 hx (t := .boolean) Bd.returns (by simp) (hb hby at_159) hr
                  · show own_Q0 Z q0 p1 p2 h0 n0 _ T106.heap _; exact ⟨(by show some (Value.int _) = some (.int (own_f0 q0 p1 p2)); unfold own_f0; rw [if_neg hc2, if_neg hc33, if_neg hc64, if_pos hc97, if_pos hc99, if_neg hc101, if_pos hc109, if_pos hc111]), N107⟩
                · have pre113 : ∀ t, Steps p.tables e below (T106.setTop (mkF m 159 #[.val (.long q0), .second, .val (.int p1), .val (.int p2), .val (.long (own_v0_5_0 p1)), .second, .val (.int (p2 &&& (3 : Int32))), .val (.long (-1 : Int64)), .second, .val (.long (own_v0_74_10 p1)), .second, .val (.long (own_v0_137_11 p1)), .second] [(.int (1 : Int32))])) t → Steps p.tables e below (s₁.setTop (entryFrame m #[(.long q0), (.int p1), (.int p2)] maxLocals)) t := fun t k => pre110 t (by
                      refine XS.ifNo X106.here hx rfl (hb hby at_151) rfl ((if0 _ _).trans (flt (mt (own_lw_lt _ _).mp hc111)).1) ?_
                      show Steps p.tables e below (T106.setTop (mkF m 154 #[.val (.long q0), .second, .val (.int p1), .val (.int p2), .val (.long (own_v0_5_0 p1)), .second, .val (.int (p2 &&& (3 : Int32))), .val (.long (-1 : Int64)), .second, .val (.long (own_v0_74_10 p1)), .second, .val (.long (own_v0_137_11 p1)), .second] [])) _
                      refine XS.iconst X106.here hx rfl (hb hby at_154) ?_
                      show Steps p.tables e below (T106.setTop (mkF m 155 #[.val (.long q0), .second, .val (.int p1), .val (.int p2), .val (.long (own_v0_5_0 p1)), .second, .val (.int (p2 &&& (3 : Int32))), .val (.long (-1 : Int64)), .second, .val (.long (own_v0_74_10 p1)), .second, .val (.long (own_v0_137_11 p1)), .second] [(.int (1 : Int32))])) _
                      refine XS.goto X106.here hx rfl (pc0 := 155) (pc' := 159) rfl (hb hby at_155) (by decide) (by decide) ?_
                      show Steps p.tables e below (T106.setTop (mkF m 159 #[.val (.long q0), .second, .val (.int p1), .val (.int p2), .val (.long (own_v0_5_0 p1)), .second, .val (.int (p2 &&& (3 : Int32))), .val (.long (-1 : Int64)), .second, .val (.long (own_v0_74_10 p1)), .second, .val (.long (own_v0_137_11 p1)), .second] [(.int (1 : Int32))])) _
                      exact k)
                  obtain ⟨fs, hr, hrun, hended, hW, hsame⟩ := X106.leave (v := some (.int (1 : Int32))) (fun h => by rw [Bd.returns] at h; cases h) (hlocks := hlk)
                  refine ⟨_, _, pre113 _ ?_, hrun, hended, _, _, rfl, ?_, ⟨_, rfl⟩, hW, hsame.mono (by decide) (by decide)⟩
                  · show Steps p.tables e below (T106.setTop (mkF m 159 #[.val (.long q0), .second, .val (.int p1), .val (.int p2), .val (.long (own_v0_5_0 p1)), .second, .val (.int (p2 &&& (3 : Int32))), .val (.long (-1 : Int64)), .second, .val (.long (own_v0_74_10 p1)), .second, .val (.long (own_v0_137_11 p1)), .second] [(.int (1 : Int32))])) _
                    exact retN X106 hx (t := .boolean) Bd.returns (by simp) (hb hby at_159) hr
                  · show own_Q0 Z q0 p1 p2 h0 n0 _ T106.heap _; exact ⟨(by show some (Value.int _) = some (.int (own_f0 q0 p1 p2)); unfold own_f0; rw [if_neg hc2, if_neg hc33, if_neg hc64, if_pos hc97, if_pos hc99, if_neg hc101, if_pos hc109, if_neg hc111]), N107⟩
              · have pre114 : ∀ t, Steps p.tables e below (T106.setTop (mkF m 159 #[.val (.long q0), .second, .val (.int p1), .val (.int p2), .val (.long (own_v0_5_0 p1)), .second, .val (.int (p2 &&& (3 : Int32))), .val (.long (-1 : Int64)), .second, .val (.long (own_v0_74_10 p1)), .second, .val (.long (own_v0_137_11 p1)), .second] [(.int (0 : Int32))])) t → Steps p.tables e below (s₁.setTop (entryFrame m #[(.long q0), (.int p1), (.int p2)] maxLocals)) t := fun t k => pre108 t (by
                    refine XS.ifYes X106.here hx rfl (pc0 := 144) (pc' := 158) rfl (hb hby at_144) rfl ((if0 _ _).trans (feq (mt (own_lw_eq _ _).mp hc109)).2) (by decide) (by decide) ?_
                    show Steps p.tables e below (T106.setTop (mkF m 158 #[.val (.long q0), .second, .val (.int p1), .val (.int p2), .val (.long (own_v0_5_0 p1)), .second, .val (.int (p2 &&& (3 : Int32))), .val (.long (-1 : Int64)), .second, .val (.long (own_v0_74_10 p1)), .second, .val (.long (own_v0_137_11 p1)), .second] [])) _
                    refine XS.iconst X106.here hx rfl (hb hby at_158) ?_
                    show Steps p.tables e below (T106.setTop (mkF m 159 #[.val (.long q0), .second, .val (.int p1), .val (.int p2), .val (.long (own_v0_5_0 p1)), .second, .val (.int (p2 &&& (3 : Int32))), .val (.long (-1 : Int64)), .second, .val (.long (own_v0_74_10 p1)), .second, .val (.long (own_v0_137_11 p1)), .second] [(.int (0 : Int32))])) _
                    exact k)
                obtain ⟨fs, hr, hrun, hended, hW, hsame⟩ := X106.leave (v := some (.int (0 : Int32))) (fun h => by rw [Bd.returns] at h; cases h) (hlocks := hlk)
                refine ⟨_, _, pre114 _ ?_, hrun, hended, _, _, rfl, ?_, ⟨_, rfl⟩, hW, hsame.mono (by decide) (by decide)⟩
                · show Steps p.tables e below (T106.setTop (mkF m 159 #[.val (.long q0), .second, .val (.int p1), .val (.int p2), .val (.long (own_v0_5_0 p1)), .second, .val (.int (p2 &&& (3 : Int32))), .val (.long (-1 : Int64)), .second, .val (.long (own_v0_74_10 p1)), .second, .val (.long (own_v0_137_11 p1)), .second] [(.int (0 : Int32))])) _
                  exact retN X106 hx (t := .boolean) Bd.returns (by simp) (hb hby at_159) hr
                · show own_Q0 Z q0 p1 p2 h0 n0 _ T106.heap _; exact ⟨(by show some (Value.int _) = some (.int (own_f0 q0 p1 p2)); unfold own_f0; rw [if_neg hc2, if_neg hc33, if_neg hc64, if_pos hc97, if_pos hc99, if_neg hc101, if_neg hc109]), N107⟩
          · have pre115 : ∀ t, Steps p.tables e below (T94.setTop (mkF m 117 #[.val (.long q0), .second, .val (.int p1), .val (.int p2), .val (.long (own_v0_5_0 p1)), .second, .val (.int (p2 &&& (3 : Int32))), .val (.long (-1 : Int64)), .second, .val (.long (own_v0_74_10 p1)), .second, .unset, .unset] [(.int (0 : Int32))])) t → Steps p.tables e below (s₁.setTop (entryFrame m #[(.long q0), (.int p1), (.int p2)] maxLocals)) t := fun t k => pre98 t (by
                refine XS.ifNo X94.here hx rfl (hb hby at_113) rfl ((if0 _ _).trans (flt (mt (own_lw_lt _ _).mp hc99)).1) ?_
                show Steps p.tables e below (T94.setTop (mkF m 116 #[.val (.long q0), .second, .val (.int p1), .val (.int p2), .val (.long (own_v0_5_0 p1)), .second, .val (.int (p2 &&& (3 : Int32))), .val (.long (-1 : Int64)), .second, .val (.long (own_v0_74_10 p1)), .second, .unset, .unset] [])) _
                refine XS.iconst X94.here hx rfl (hb hby at_116) ?_
                show Steps p.tables e below (T94.setTop (mkF m 117 #[.val (.long q0), .second, .val (.int p1), .val (.int p2), .val (.long (own_v0_5_0 p1)), .second, .val (.int (p2 &&& (3 : Int32))), .val (.long (-1 : Int64)), .second, .val (.long (own_v0_74_10 p1)), .second, .unset, .unset] [(.int (0 : Int32))])) _
                exact k)
            obtain ⟨fs, hr, hrun, hended, hW, hsame⟩ := X94.leave (v := some (.int (0 : Int32))) (fun h => by rw [Bd.returns] at h; cases h) (hlocks := hlk)
            refine ⟨_, _, pre115 _ ?_, hrun, hended, _, _, rfl, ?_, ⟨_, rfl⟩, hW, hsame.mono (by decide) (by decide)⟩
            · show Steps p.tables e below (T94.setTop (mkF m 117 #[.val (.long q0), .second, .val (.int p1), .val (.int p2), .val (.long (own_v0_5_0 p1)), .second, .val (.int (p2 &&& (3 : Int32))), .val (.long (-1 : Int64)), .second, .val (.long (own_v0_74_10 p1)), .second, .unset, .unset] [(.int (0 : Int32))])) _
              exact retN X94 hx (t := .boolean) Bd.returns (by simp) (hb hby at_117) hr
            · show own_Q0 Z q0 p1 p2 h0 n0 _ T94.heap _; exact ⟨(by show some (Value.int _) = some (.int (own_f0 q0 p1 p2)); unfold own_f0; rw [if_neg hc2, if_neg hc33, if_neg hc64, if_pos hc97, if_neg hc99]), N95⟩
        · have pre116 : ∀ t, Steps p.tables e below (T94.setTop (mkF m 117 #[.val (.long q0), .second, .val (.int p1), .val (.int p2), .val (.long (own_v0_5_0 p1)), .second, .val (.int (p2 &&& (3 : Int32))), .val (.long (-1 : Int64)), .second, .val (.long (own_v0_74_10 p1)), .second, .unset, .unset] [(.int (0 : Int32))])) t → Steps p.tables e below (s₁.setTop (entryFrame m #[(.long q0), (.int p1), (.int p2)] maxLocals)) t := fun t k => pre96 t (by
              refine XS.ifYes X94.here hx rfl (pc0 := 105) (pc' := 116) rfl (hb hby at_105) rfl ((if0 _ _).trans (feq (mt (own_lw_eq _ _).mp hc97)).2) (by decide) (by decide) ?_
              show Steps p.tables e below (T94.setTop (mkF m 116 #[.val (.long q0), .second, .val (.int p1), .val (.int p2), .val (.long (own_v0_5_0 p1)), .second, .val (.int (p2 &&& (3 : Int32))), .val (.long (-1 : Int64)), .second, .val (.long (own_v0_74_10 p1)), .second, .unset, .unset] [])) _
              refine XS.iconst X94.here hx rfl (hb hby at_116) ?_
              show Steps p.tables e below (T94.setTop (mkF m 117 #[.val (.long q0), .second, .val (.int p1), .val (.int p2), .val (.long (own_v0_5_0 p1)), .second, .val (.int (p2 &&& (3 : Int32))), .val (.long (-1 : Int64)), .second, .val (.long (own_v0_74_10 p1)), .second, .unset, .unset] [(.int (0 : Int32))])) _
              exact k)
          obtain ⟨fs, hr, hrun, hended, hW, hsame⟩ := X94.leave (v := some (.int (0 : Int32))) (fun h => by rw [Bd.returns] at h; cases h) (hlocks := hlk)
          refine ⟨_, _, pre116 _ ?_, hrun, hended, _, _, rfl, ?_, ⟨_, rfl⟩, hW, hsame.mono (by decide) (by decide)⟩
          · show Steps p.tables e below (T94.setTop (mkF m 117 #[.val (.long q0), .second, .val (.int p1), .val (.int p2), .val (.long (own_v0_5_0 p1)), .second, .val (.int (p2 &&& (3 : Int32))), .val (.long (-1 : Int64)), .second, .val (.long (own_v0_74_10 p1)), .second, .unset, .unset] [(.int (0 : Int32))])) _
            exact retN X94 hx (t := .boolean) Bd.returns (by simp) (hb hby at_117) hr
          · show own_Q0 Z q0 p1 p2 h0 n0 _ T94.heap _; exact ⟨(by show some (Value.int _) = some (.int (own_f0 q0 p1 p2)); unfold own_f0; rw [if_neg hc2, if_neg hc33, if_neg hc64, if_neg hc97]), N95⟩
theorem own_e32 {a b : Int32} : a = b ↔ a.toInt = b.toInt := Int32.toInt_inj.symm
theorem own_e64 {a b : Int64} : a = b ↔ a.toInt = b.toInt := Int64.toInt_inj.symm
def own_G (i n : Int64) : Int32 := if i < (0 : Int64) then (if own_f1 i n = n + i then (if own_f1 i n < n then (if i < -n then (if own_f1 i n < (0 : Int64) then (1 : Int32) else (0 : Int32)) else (if own_f1 i n = own_f1 (i + n) n then (if own_f1 i n < (0 : Int64) then (0 : Int32) else (1 : Int32)) else (0 : Int32))) else (0 : Int32)) else (0 : Int32)) else (if own_f1 i n = i then (1 : Int32) else (0 : Int32))
theorem own_core (i n : Int64) (h0 : 0 ≤ n.toInt) (h1 : n.toInt < 2147483648) (h2 : -1152921504606846976 ≤ i.toInt) (h3 : i.toInt < 1152921504606846976) : own_G i n = 1 := by
  have a1 := c_ladd n i
  have a2 := c_ladd i n
  have a3 := c_lneg n
  have b1 := rng64 (n + i)
  have b2 := rng64 (i + n)
  have b3 := rng64 (-n)
  unfold own_G
  by_cases c1 : i < (0 : Int64)
  · have e1 : own_f1 i n = n + i := by unfold own_f1; rw [if_pos c1]
    rw [if_pos c1, e1, if_pos rfl]
    rw [Int64.lt_iff_toInt_lt, Int64.toInt_zero] at c1
    rw [if_pos (by rw [Int64.lt_iff_toInt_lt]; omega)]
    by_cases c2 : i < -n
    · rw [if_pos c2]
      rw [Int64.lt_iff_toInt_lt] at c2
      rw [if_pos (by rw [Int64.lt_iff_toInt_lt, Int64.toInt_zero]; omega)]
    · rw [if_neg c2]
      rw [Int64.lt_iff_toInt_lt] at c2
      have e2 : own_f1 (i + n) n = i + n := by unfold own_f1; rw [if_neg (by rw [Int64.lt_iff_toInt_lt, Int64.toInt_zero]; omega)]
      rw [e2, if_pos (by rw [own_e64]; omega), if_neg (by rw [Int64.lt_iff_toInt_lt, Int64.toInt_zero]; omega)]
  · have e1 : own_f1 i n = i := by unfold own_f1; rw [if_neg c1]
    rw [if_neg c1, e1, if_pos rfl]
theorem own_plain (q0 : Int64) (p1 p2 : Int32) : own_f0 q0 p1 p2 = 1 := by
  have m1 : (p1 &&& (2147483647 : Int32)).toInt = p1.toInt % (2 ^ 31 : Nat) := c_mask p1 2147483647 31 (by decide) (by decide)
  have m2 : (own_v0_5_0 p1).toInt = (p1 &&& (2147483647 : Int32)).toInt := c_i2l _
  have n0 : 0 ≤ (own_v0_5_0 p1).toInt := by omega
  have n1 : (own_v0_5_0 p1).toInt < 2147483648 := by omega
  have r0 := rng64 q0
  have s1 : (own_v0_21_1 q0).toInt = q0.toInt / (2 ^ 10 : Nat) := c_lshr q0 10 10 (by decide)
  have s2 : (0 ≤ q0.toInt → (own_v0_57_7 q0).toInt = q0.toInt % 3) ∧ (q0.toInt < 0 → (own_v0_57_7 q0).toInt = -((-q0.toInt) % 3)) := c_lrem q0 3 3 (by decide)
  have s3 := c_lneg (own_v0_5_0 p1)
  have s4 : ((own_v0_41_4 q0 p1).toInt - ((-(own_v0_5_0 p1)).toInt + (own_v0_57_7 q0).toInt)) % 18446744073709551616 = 0 := c_ladd _ _
  have s5 := rng64 (own_v0_41_4 q0 p1)
  have s6 := rng64 (-(own_v0_5_0 p1))
  unfold own_f0
  by_cases c1 : (p2 &&& (3 : Int32)) = (0 : Int32)
  · rw [if_pos c1]; exact own_core (own_v0_21_1 q0) (own_v0_5_0 p1) n0 n1 (by omega) (by omega)
  · rw [if_neg c1]
    by_cases c2 : (p2 &&& (3 : Int32)) = (1 : Int32)
    · rw [if_pos c2]; exact own_core (own_v0_41_4 q0 p1) (own_v0_5_0 p1) n0 n1 (by omega) (by omega)
    · rw [if_neg c2]
      by_cases c3 : (p2 &&& (3 : Int32)) = (2 : Int32)
      · rw [if_pos c3]; exact own_core (own_v0_57_7 q0) (own_v0_5_0 p1) n0 n1 (by omega) (by omega)
      · rw [if_neg c3]
        have g := own_core (-1 : Int64) (own_v0_5_0 p1) n0 n1 (by decide) (by decide)
        unfold own_G at g
        rw [if_pos (by decide)] at g
        exact g
set_option maxRecDepth 65536 in
set_option maxHeartbeats 40000000 in
theorem comes_1 {Post : Tables → Env → Array Value → State → Outcome → State → Prop} (hpost : ∀ tb e args s v u, (limb_1_1.after args s (.returned v) u = true ∧ limb_1_2.after args s (.returned v) u = true ∧ True) → FrameEnd s (.returned v) u (Jvm.fieldLocs frame_1_writes args s ++ Jvm.arrayLocs frame_1_arrays args s ++ Jvm.staticLocs frame_1_statics s) 0 0 → Post tb e args s (.returned v) u) :
    ArmFor flags0 classFile x code maxLocals ret World_1 tables_1 room_1 Calls_1 rest_1 Pre_1 Post := by
  intro l hfl _ _ p e ha hc hk s m args below hf hA hF happ hP
  obtain ⟨hcalls, hrest, hpre⟩ := hP
  obtain ⟨-, -, -, hnamed, -, -, -, hat⟩ := (Spec.applies_iff hf).mp happ
  obtain ⟨hg, hn⟩ := and_e (Cond.before_iff.mp (show (Jvm.Cond.and given_1 narrow_1).before args s = true from hpre))
  obtain ⟨gc, gr0⟩ := and_e hg
  obtain ⟨ga0, gr1⟩ := and_e gr0
  obtain ⟨ga1, gr2⟩ := and_e gr1
  have ga2 := gr2
  obtain ⟨w0, w1, w2, rfl⟩ : ∃ w0 w1 w2 : Value, args = #[w0, w1, w2] := by
    have hs : args.size = 3 := by simpa [Cond.value, given_1] using gc
    obtain ⟨L⟩ := args
    match L, hs with
    | [w0, w1, w2], _ => exact ⟨w0, w1, w2, rfl⟩
  have hw := fun d (hd : d ∈ tables_1) => atoms_spec (ws := Jvm.Cond.code x code maxLocals ret :: tables_1) hat d (List.mem_cons_of_mem _ hd)
  obtain ⟨i0, ei0⟩ := isL_v ga0
  obtain rfl : w0 = (.long i0) := Option.some.inj ei0
  obtain ⟨i1, ei1⟩ := is_v ga1
  obtain rfl : w1 = (.int i1) := Option.some.inj ei1
  obtain ⟨i2, ei2⟩ := is_v ga2
  obtain rfl : w2 = (.int i2) := Option.some.inj ei2
  obtain ⟨n, o, h1, h2, h3, _, L, rfl, ⟨hv, N⟩, hq⟩ := own_rm0 l s _ hw tables_1 i0 i1 i2 s.heap s.heap.size (Nat.le_refl _) p e ha hc hk s m _ below hf ((Spec.applies_iff_loose hf).mp happ).1 ⟨rfl, State.Warmed39.refl s, rfl⟩ trivial
  rw [show (own_f0 i0 i1 i2) = (1 : Int32) from own_plain i0 i1 i2] at hv
  subst hv
  refine ⟨n, _, h1, h2, h3, hpost _ _ _ _ _ _ ⟨Cond.after_iff.mpr rfl, Cond.after_iff.mpr (eq_i res_at (Term.int_eval (1)) rfl), trivial⟩ ⟨hq.1, hq.2.1, (hq.2.2.sift fun y hy => Or.inr (N y hy)).mono (by decide) (by decide)⟩⟩
theorem main_1_1 : Claimed_1_1 := comes_1 fun _ _ _ _ _ _ h hF => ⟨h.1, hF⟩
theorem main_1_2 : Claimed_1_2 := comes_1 fun _ _ _ _ _ _ h hF => ⟨h.2.1, hF⟩
end Jvm.Pilot.@@N@@
namespace Jvm.Pilot.@@N@@
open Jvm Jvm.ClassFile Sem Op Lib Jvm.Free Jvm.Stand Jvm.Pilot.@@N@@.Jvm.D
/-! MADE BY PROGRAM (witnessworld.py) out of the Statement's table words and the real class files: 9 classes; the members and pool entries that the words name. The judged class is class 1, her method 1. -/
namespace start1
open Jvm.ClassFile
def u (s : String) : CpInfo := .utf8 (stringToUtf16 s)
/-- a pool by its gaps: so many unusable entries, then the entry; so many at the end -/
def gap : Nat → List CpInfo → List CpInfo
  | 0, r => r
  | n + 1, r => .unusable :: gap n r
def poolList (es : List (Nat × CpInfo)) (last : Nat) : List CpInfo := es.foldr (fun e r => gap e.1 (e.2 :: r)) (gap last [])
def pool (es : List (Nat × CpInfo)) (last : Nat) : Array CpInfo := ⟨poolList es last⟩
def fileOf (pool : Array CpInfo) (this : Nat) (attrs : Array Attribute := #[]) (ms : Array MethodInfo := #[]) (fl : Nat := 33) (sup : Nat := 0) (ifs : Array Nat := #[]) (fds : Array FieldInfo := #[]) : ClassFile where
  minorVersion := 0
  majorVersion := 65
  constantPool := pool
  accessFlags := fl
  thisClass := this
  superClass := sup
  interfaces := ifs
  fields := fds
  methods := ms
  attributes := attrs
def plain (name : String) (sup : Option ClassId) : Class where
  name := name
  kind := .ordinary
  loader := none
  accessFlags := 33
  super := sup
  interfaces := #[]
  cf := none
  fields := #[]
  methods := #[]
  instanceTypes := #[]
  staticTypes := #[]
  resolved := #[]
  callSites := []
  init := .initialized
  statics := none
  mirror := none

def pool0 : Array CpInfo := pool [(5, u "<init>"), (0, u "()V"), (1, .class_ 10), (1, u "java/lang/Object")] 113

def k0m0 : Method := { name := "<init>", desc := "()V", sig := { parameters := [], returnType := none }, accessFlags := 1, code := none }
/-- java/lang/Object -/
def k0 : Class := { plain "java/lang/Object" none with
  accessFlags := 33
  interfaces := #[]
  cf := some (fileOf pool0 8 #[] #[{ accessFlags := 1, nameIndex := 5, descriptorIndex := 6, attributes := #[] }] 33 0 #[] #[])
  fields := #[]
  methods := #[k0m0]
  instanceTypes := #[]
  staticTypes := #[]
  resolved := Array.replicate 124 none
  statics := none }

def pool1 : Array CpInfo := pool [(2, .class_ 4), (1, u "java/lang/Object"), (0, u "<init>"), (0, u "()V"), (0, .integer 2147483647), (0, .long 3), (1, .long 18446744073709551615), (1, .methodref 13 14), (0, .class_ 15), (0, .nameAndType 16 17), (0, u "com/example/firm_query/firmquery/ArraySlice"), (0, u "normalize"), (0, u "(JJ)J"), (0, .class_ 19), (0, u "com/example/firm_query/firmquery/ArraySliceNormalizePinLaw"), (2, u "law"), (0, u "(JII)Z")] 3

def k1m0 : Method := { name := "<init>", desc := "()V", sig := { parameters := [], returnType := none }, accessFlags := 1, code := none }
def k1c1 : Code := { maxStack := 6, maxLocals := 13, code := code, exceptionTable := #[], attributes := #[] }
def k1m1 : Method := { name := "law", desc := "(JII)Z", sig := { parameters := [.long, .int, .int], returnType := some .boolean }, accessFlags := 9, code := some k1c1 }
/-- com/example/firm_query/firmquery/ArraySliceNormalizePinLaw -/
def k1 : Class := { plain "com/example/firm_query/firmquery/ArraySliceNormalizePinLaw" (some 0) with
  accessFlags := 49
  interfaces := #[]
  cf := some (fileOf pool1 18 #[] #[{ accessFlags := 1, nameIndex := 5, descriptorIndex := 6, attributes := #[] }, { accessFlags := 9, nameIndex := 22, descriptorIndex := 23, attributes := #[] }] 49 2 #[] #[])
  fields := #[]
  methods := #[k1m0, k1m1]
  instanceTypes := #[]
  staticTypes := #[]
  resolved := Array.replicate 27 none
  statics := none }

def pool2 : Array CpInfo := pool [(2, .class_ 4), (1, u "java/lang/Object"), (3, .class_ 10), (1, u "com/example/firm_query/firmquery/ArraySlice"), (0, u "start"), (0, u "Ljava/lang/Long;"), (2, u "end"), (2, u "step"), (0, u "J"), (31, u "normalize"), (0, u "(JJ)J")] 22

def k2c0 : Code := { maxStack := 4, maxLocals := 4, code := prog_1_method_7_code, exceptionTable := #[], attributes := #[] }
def k2m0 : Method := { name := "normalize", desc := "(JJ)J", sig := { parameters := [.long, .long], returnType := some .long }, accessFlags := 8, code := some k2c0 }
/-- com/example/firm_query/firmquery/ArraySlice -/
def k2 : Class := { plain "com/example/firm_query/firmquery/ArraySlice" (some 0) with
  accessFlags := 48
  interfaces := #[]
  cf := some (fileOf pool2 8 #[] #[{ accessFlags := 8, nameIndex := 51, descriptorIndex := 52, attributes := #[] }] 48 2 #[] #[{ accessFlags := 18, nameIndex := 11, descriptorIndex := 12, attributes := #[] }, { accessFlags := 18, nameIndex := 15, descriptorIndex := 12, attributes := #[] }, { accessFlags := 18, nameIndex := 18, descriptorIndex := 19, attributes := #[] }])
  fields := #[{ name := "start", type := (.object "java/lang/Long"), accessFlags := 18, slot := 0, constantValue := 0 }, { name := "end", type := (.object "java/lang/Long"), accessFlags := 18, slot := 1, constantValue := 0 }, { name := "step", type := .long, accessFlags := 18, slot := 2, constantValue := 0 }]
  methods := #[k2m0]
  instanceTypes := #[(.object "java/lang/Long"), (.object "java/lang/Long"), .long]
  staticTypes := #[]
  resolved := Array.replicate 75 none
  statics := none }

def pool3 : Array CpInfo := pool [(1, u "java/lang/Cloneable"), (0, .class_ 1), (0, u "java/lang/Object"), (0, .class_ 3)] 3

/-- java/lang/Cloneable -/
def k3 : Class := { plain "java/lang/Cloneable" (some 0) with
  accessFlags := 1537
  interfaces := #[]
  cf := some (fileOf pool3 2 #[] #[] 1537 4 #[] #[])
  fields := #[]
  methods := #[]
  instanceTypes := #[]
  staticTypes := #[]
  resolved := Array.replicate 8 none
  statics := none }

def pool4 : Array CpInfo := pool [(1, u "java/io/Serializable"), (0, .class_ 1), (0, u "java/lang/Object"), (0, .class_ 3)] 3

/-- java/io/Serializable -/
def k4 : Class := { plain "java/io/Serializable" (some 0) with
  accessFlags := 1537
  interfaces := #[]
  cf := some (fileOf pool4 2 #[] #[] 1537 4 #[] #[])
  fields := #[]
  methods := #[]
  instanceTypes := #[]
  staticTypes := #[]
  resolved := Array.replicate 8 none
  statics := none }

/-- the primitive byte -/
def k5 : Class := { plain "byte" none with kind := .primitive 'B', accessFlags := 0x411 }
/-- [B -/
def k6 : Class := { plain "[B" (some 0) with kind := .array 5 .byte, interfaces := #[3, 4], accessFlags := 1041 }

/-- the primitive int -/
def k7 : Class := { plain "int" none with kind := .primitive 'I', accessFlags := 0x411 }
/-- [I -/
def k8 : Class := { plain "[I" (some 0) with kind := .array 7 .int, interfaces := #[3, 4], accessFlags := 1041 }

def heap : Heap := #[]
def classes : Array Class := #[k0, k1, k2, k3, k4, k5, k6, k7, k8]
def interned : List (Array UInt16 × Addr) := []
def slotsUsed : Nat := 0
def theMethod : MethodId := ⟨1, 1⟩
def args0 : Array Value := #[.long (-5), .int 300, .int 1]
def aboutOver (below : List Frame) : State where
  vm := { classes := classes, interned := interned.toArray }
  heap := heap
  slotsUsed := slotsUsed
  threads := #[{ frames := .invoking theMethod args0 :: below }]
def below0 : List Frame := [.native { method := ⟨0, 0⟩, args := #[] }]
def about1 : State := aboutOver below0
def p0 : Program := .bare "" "" ""
def e0 : Env := launch0.env 0 0 0
theorem w_frames : about1.frames = Frame.invoking theMethod args0 :: below0 := rfl
set_option maxRecDepth 65536 in
theorem w_args : argsFit about1.vm theMethod args0 = true := by decide +kernel
set_option maxRecDepth 65536 in
theorem w_heap : heapFits about1 = true := by decide +kernel
set_option maxRecDepth 65536 in
theorem w_runnable : about1.curStatus? = some .runnable := by decide +kernel
set_option maxRecDepth 65536 in
theorem w_alone : about1.alone = true := by decide +kernel
set_option maxRecDepth 65536 in
theorem w_named : about1.methodNamed? x = some theMethod := by decide +kernel
set_option maxRecDepth 65536 in
theorem w_hears : about1.hears theMethod below0 = true := by decide +kernel
set_option maxRecDepth 65536 in
theorem w_ripe : about1.ripe theMethod args0 below0 = true := by decide +kernel
theorem w_running : about1.status = .running := rfl
set_option maxRecDepth 65536 in
theorem w_room : about1.hasRoom e0.platform room_1 = true :=
  launch0.hasRoom_least _ room_1 (by decide +kernel) (by decide +kernel) (by decide +kernel) (by decide +kernel) (by decide +kernel) (by decide +kernel)
theorem allAtoms_all (ts : List Jvm.Cond) (a : Array Jvm.Value) (st : Jvm.State) : (allAtoms ts).before a st = ts.all (fun c => c.before a st) := by
  induction ts with
  | nil => rfl
  | cons c t ih =>
    show (Jvm.Cond.and c (allAtoms t)).before a st = _
    rw [Jvm.Cond.before_and, ih, List.all_cons]
def words1 : List Jvm.Cond := Jvm.Cond.code x code maxLocals ret :: tables_1
/-- a 'code' word, met by the world's own term for the bytes: nothing is compared byte by byte -/
theorem code_word {y : MethodName} {bytes : ByteArray} {mx : Nat} {rt : Option FieldType} {a : Array Value} {s : State} {m : MethodId} {meth : Method} {c : Code} (h1 : s.methodNamed? y = some m) (h2 : s.vm.method? m = some meth) (h3 : meth.code = some c) (h4 : c.code = bytes)
    (h5 : (c.maxLocals == mx && c.exceptionTable.isEmpty && decide (c.maxStack ≤ mostOperands) && decide (meth.sig.returnType = rt) && !meth.locks && decide (parseMethodDescriptor y.desc = some meth.sig)) = true) : (Jvm.Cond.code y bytes mx rt).before a s = true := by
  simp only [Bool.and_eq_true, beq_iff_eq, Bool.not_eq_true', decide_eq_true_eq] at h5
  obtain ⟨⟨⟨⟨⟨g1, g2⟩, g3⟩, g4⟩, g5⟩, g6⟩ := h5
  simp [Cond.before, Cond.holds, Cond.value, h1, h2, h3, h4, g1, g2, g3, g4, g5, g6]
def isCode : Jvm.Cond → Bool
  | .code _ _ _ _ => true
  | _ => false
theorem all_split {L : List Jvm.Cond} {P : Jvm.Cond → Bool} (h1 : L.all (fun c => isCode c || P c) = true) (h2 : ∀ c ∈ L.filter isCode, P c = true) : L.all P = true := by
  refine List.all_eq_true.mpr fun c hc => ?_
  have h := List.all_eq_true.mp h1 c hc
  rcases Bool.eq_false_or_eq_true (isCode c) with hi | hi
  · exact h2 c (List.mem_filter.mpr ⟨hc, hi⟩)
  · simpa [hi] using h
set_option maxRecDepth 65536 in
theorem w_c0 : (Jvm.Cond.code x code maxLocals ret).before args0 about1 = true := code_word (m := ⟨1, 1⟩) (meth := k1m1) (c := k1c1) (by decide +kernel) rfl rfl rfl (by decide +kernel)
set_option maxRecDepth 65536 in
theorem w_c1 : (Jvm.Cond.code ({ cls := "com/example/firm_query/firmquery/ArraySlice", name := "normalize", desc := "(JJ)J" } : Jvm.MethodName) prog_1_method_7_code (4 : Nat) (Option.some Jvm.ClassFile.FieldType.long)).before args0 about1 = true := code_word (m := ⟨2, 0⟩) (meth := k2m0) (c := k2c0) (by decide +kernel) rfl rfl rfl (by decide +kernel)
def codes1 : List Jvm.Cond := [Jvm.Cond.code x code maxLocals ret, Jvm.Cond.code ({ cls := "com/example/firm_query/firmquery/ArraySlice", name := "normalize", desc := "(JJ)J" } : Jvm.MethodName) prog_1_method_7_code (4 : Nat) (Option.some Jvm.ClassFile.FieldType.long)]
set_option maxRecDepth 65536 in
theorem codes_eq : words1.filter isCode = codes1 := rfl
theorem w_codes : ∀ c ∈ words1.filter isCode, c.before args0 about1 = true := by
  rw [codes_eq]
  intro c hc
  simp only [codes1, List.mem_cons, List.not_mem_nil, or_false] at hc
  rcases hc with rfl | rfl
  · exact w_c0
  · exact w_c1
set_option maxRecDepth 65536 in
theorem w_t1 : words1.all (fun c => isCode c || c.before args0 about1) = true := by decide +kernel
theorem w_tables : (allAtoms (Jvm.Cond.code x code maxLocals ret :: tables_1)).before args0 about1 = true := by
  rw [allAtoms_all]
  show words1.all (fun c => c.before args0 about1) = true
  refine all_split ?_ w_codes
  rw [w_t1]
set_option maxRecDepth 65536 in
theorem w_case : (Jvm.Cond.and given_1 narrow_1).before args0 about1 = true := by decide +kernel
theorem w_applies : (headSpec (Jvm.Cond.code x code maxLocals ret :: tables_1) room_1).applies x e0.platform about1 = true :=
  (Spec.applies_iff w_frames).mpr ⟨w_running, w_runnable, w_alone, w_named, w_hears, w_ripe, w_room, w_tables⟩
theorem atStart : AtStart classFile x code maxLocals ret World_1 tables_1 room_1 Calls_1 rest_1 Pre_1 launch0 p0 e0 about1 theMethod args0 below0 :=
  ⟨lists_1, trivial, launch0.admits_env _ _ _, launch0.least_env, fairChoices_fair.cas, fairChoices_fair.clock, w_frames, w_args, w_heap, w_applies, trivial, trivial, w_case⟩
end start1
theorem witness_1 : WitnessClaimed_1 := ⟨start1.p0, start1.e0, start1.about1, start1.theMethod, start1.args0, start1.below0, start1.atStart⟩
end Jvm.Pilot.@@N@@
