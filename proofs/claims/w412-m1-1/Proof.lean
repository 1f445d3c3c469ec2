import JvmDerived
import JvmDerived.Pilot.@@N@@Statement
import JvmDerived.Pilot.@@N@@Code
set_option linter.unusedVariables false
set_option linter.unusedSimpArgs false
namespace Jvm.RoadKit
open Sem ClassFile Op Lib Jvm.Stand Jvm.Free Jvm.LawKit
section New
variable {p : Program} {l : Launch} {e : Env} {R : Room} {s : State} {m : MethodId} {args : Array Value} {below : List Frame} {meth : Method} {c : Code} {T : State} {locs : List Loc} {cells slots : Nat}
theorem retI (X : Stand p l e R s m args below meth c T locs cells slots) (hx : p.tables.exec = Jvm.exec) {pc : Nat} {Ls : Array Slot} {z : Int32} {rest : List Value} (hret : meth.sig.returnType = some .int) (hd : decode c.code pc = .ok (.ireturn, 1)) {fs : List Frame}
    (hl : ∀ (f : JFrame) (acts : List Action), f.method = m → f.locked = none → f.entered = [] → (doReturn e (T.setTop f) acts (some (.int z))).1 = T.setFrames fs) : Steps p.tables e below (T.setTop (mkF m pc Ls (.int z :: rest))) (T.setFrames fs) := by
  have hm' : T.vm.method? m = some meth := X.method'
  have hn : narrow .int (.int z) = .int z := rfl
  show Steps p.tables e below (T.setTop { method := m, pc := pc, locals := Ls, stack := _ :: rest, locked := none }) _
  jvm_step X.here [X.here.top, hx, hd, hm', hret, hn]
  first | (intro acts; rw [hl _ acts rfl rfl rfl]) | rw [hl _ _ rfl rfl rfl]
  exact Steps.refl _
end New
end Jvm.RoadKit
namespace Jvm.Pilot.@@N@@
open Jvm Jvm.ClassFile Sem Op Lib Jvm.Free Jvm.Stand Jvm.LawKit Jvm.RoadKit Bundle Jvm.Pilot.@@N@@.Jvm.D
theorem own_lw_lt (x y : Int64) : lcmpW x y < 0 ↔ x < y := by rw [lcW]; exact lc_lt x y
theorem own_lw_gt (x y : Int64) : 0 < lcmpW x y ↔ y < x := by rw [lcW]; exact lc_gt x y
theorem own_lw_eq (x y : Int64) : lcmpW x y = 0 ↔ x = y := by rw [lcW]; exact lc_eq x y
theorem own_ne32 {k n : Int32} (h : ¬ k = n) : n.toInt ≠ k.toInt := fun e => h (Int32.toInt_inj.mp e.symm)
theorem own_d1_0 : decode prog_32_method_4_code 0 = .ok (.lload_n 0, 1) := by decide +kernel
theorem own_d1_1 : decode prog_32_method_4_code 1 = .ok (.lload_n 2, 1) := by decide +kernel
theorem own_d1_2 : decode prog_32_method_4_code 2 = .ok (.lsub, 1) := by decide +kernel
theorem own_d1_3 : decode prog_32_method_4_code 3 = .ok (.lconst 0, 1) := by decide +kernel
theorem own_d1_4 : decode prog_32_method_4_code 4 = .ok (.lcmp, 1) := by decide +kernel
theorem own_d1_5 : decode prog_32_method_4_code 5 = .ok (.ifCond .ge 7, 3) := by decide +kernel
theorem own_d1_8 : decode prog_32_method_4_code 8 = .ok (.lload_n 0, 1) := by decide +kernel
theorem own_d1_9 : decode prog_32_method_4_code 9 = .ok (.goto 4, 3) := by decide +kernel
theorem own_d1_12 : decode prog_32_method_4_code 12 = .ok (.lload_n 2, 1) := by decide +kernel
theorem own_d1_13 : decode prog_32_method_4_code 13 = .ok (.lreturn, 1) := by decide +kernel
theorem own_pn1 : plainName "com/example/ufunguo/ufunguo/util/Deadlines" = true := by first | (simp [plainName, overriddenIn]; done) | decide +kernel
theorem own_ef1 (m : MethodId) (x0 : Int64) (x1 : Int64) : entryFrame m #[(.long x0), (.long x1)] 4 = (mkF m 0 #[.val (.long x0), .second, .val (.long x1), .second] []) := by first | (simp [entryFrame, mkF, argsToLocals, Value.category]; done) | rfl
def own_f1 (q0 : Int64) (q1 : Int64) : Int64 := (if (q0 - q1) < (0 : Int64) then q0 else q1)
def own_Q1 (Z : State) (q0 : Int64) (q1 : Int64) (h0 : Heap) (n0 : Nat) (v : Option Value) (h : Heap) (L : List Loc) : Prop := v = some (.long (own_f1 q0 q1)) ∧ Fr n0 L ∧ h = h0
set_option maxRecDepth 65536 in
set_option maxHeartbeats 40000000 in
theorem own_rm1 (l : Launch) (Z : State) (a0 : Array Value) (hw : ∀ d ∈ tables_1, d.before a0 Z = true) (ws : List Jvm.Cond) (q0 : Int64) (q1 : Int64) (h0 : Heap) (n0 : Nat) (Z0 : n0 ≤ h0.size) :
    MetFree l (⟨"com/example/ufunguo/ufunguo/util/Deadlines", "earlier", "(JJ)J"⟩ : MethodName) (head1 (Jvm.Cond.code (⟨"com/example/ufunguo/ufunguo/util/Deadlines", "earlier", "(JJ)J"⟩ : MethodName) prog_32_method_4_code 4 (some .long) :: ws) ({ frames := 0, cells := 0, slots := 0, locals := 0 } : Room)) (fun a U => a = #[(.long q0), (.long q1)] ∧ Z.Warmed39 U.vm ∧ U.heap = h0) (fun _ _ _ _ _ => True) (fun _ U o U' => ∃ v L, o = .returned v ∧ own_Q1 Z q0 q1 h0 n0 v U'.heap L ∧ FrameEnd U o U' L ({ frames := 0, cells := 0, slots := 0, locals := 0 } : Room).cells ({ frames := 0, cells := 0, slots := 0, locals := 0 } : Room).slots) := by
  refine MetFree.of_bodySF (plainFor_of_name own_pn1) hisR ?_
  intro p e s m args below meth c s₁ Bd hml0 hP hK
  obtain ⟨rfl, hZ, hh⟩ := hP
  have hx := Bd.exec
  have hby := Bd.bytes
  have hml : c.maxLocals = 4 := hml0
  have hown : s.vm.findClass "com/example/ufunguo/ufunguo/util/Deadlines" = some m.cls := findClass_of_methodNamed Bd.named
  have hnm := (name_of_methodNamed Bd.named Bd.method).1
  have X0 : Stand p l e ({ frames := 0, cells := 0, slots := 0, locals := 0 } : Room) s m #[(.long q0), (.long q1)] below meth c s₁ [] 0 0 := Stand.of_body Bd
  have e0 : s₁.heap = h0 := by rw [← hh, Bd.state]; rfl
  have N0 := Fr.nil n0
  have pre0 : ∀ t, Steps p.tables e below (s₁.setTop (mkF m 0 #[.val (.long q0), .second, .val (.long q1), .second] [])) t → Steps p.tables e below (s₁.setTop (entryFrame m #[(.long q0), (.long q1)] 4)) t := fun t k => castTop (own_ef1 m q0 q1) k
  have pre1 : ∀ t, Steps p.tables e below (s₁.setTop (mkF m 5 #[.val (.long q0), .second, .val (.long q1), .second] [(.int (lcmpW (q0 - q1) (0 : Int64)))])) t → Steps p.tables e below (s₁.setTop (entryFrame m #[(.long q0), (.long q1)] 4)) t := fun t k => pre0 t (by
      refine XS.lloadN X0.here hx rfl (hb hby own_d1_0) rfl ?_
      show Steps p.tables e below (s₁.setTop (mkF m 1 #[.val (.long q0), .second, .val (.long q1), .second] [(.long q0)])) _
      refine XS.lloadN X0.here hx rfl (hb hby own_d1_1) rfl ?_
      show Steps p.tables e below (s₁.setTop (mkF m 2 #[.val (.long q0), .second, .val (.long q1), .second] [(.long q1), (.long q0)])) _
      refine XS.lsub X0.here hx rfl (hb hby own_d1_2) rfl ?_
      show Steps p.tables e below (s₁.setTop (mkF m 3 #[.val (.long q0), .second, .val (.long q1), .second] [(.long (q0 - q1))])) _
      refine XS.lconst X0.here hx rfl (hb hby own_d1_3) ?_
      show Steps p.tables e below (s₁.setTop (mkF m 4 #[.val (.long q0), .second, .val (.long q1), .second] [(.long (0 : Int64)), (.long (q0 - q1))])) _
      refine XS.lcmp X0.here hx rfl (hb hby own_d1_4) rfl ?_
      show Steps p.tables e below (s₁.setTop (mkF m 5 #[.val (.long q0), .second, .val (.long q1), .second] [(.int (lcmpW (q0 - q1) (0 : Int64)))])) _
      exact k)
  by_cases hc2 : (q0 - q1) < (0 : Int64)
  · have pre3 : ∀ t, Steps p.tables e below (s₁.setTop (mkF m 13 #[.val (.long q0), .second, .val (.long q1), .second] [(.long q0)])) t → Steps p.tables e below (s₁.setTop (entryFrame m #[(.long q0), (.long q1)] 4)) t := fun t k => pre1 t (by
        refine XS.ifNo X0.here hx rfl (hb hby own_d1_5) rfl ((if0 _ _).trans (tlt ((own_lw_lt _ _).mpr hc2)).2.1) ?_
        show Steps p.tables e below (s₁.setTop (mkF m 8 #[.val (.long q0), .second, .val (.long q1), .second] [])) _
        refine XS.lloadN X0.here hx rfl (hb hby own_d1_8) rfl ?_
        show Steps p.tables e below (s₁.setTop (mkF m 9 #[.val (.long q0), .second, .val (.long q1), .second] [(.long q0)])) _
        refine XS.goto X0.here hx rfl (pc0 := 9) (pc' := 13) rfl (hb hby own_d1_9) (by decide) (by decide) ?_
        show Steps p.tables e below (s₁.setTop (mkF m 13 #[.val (.long q0), .second, .val (.long q1), .second] [(.long q0)])) _
        exact k)
    obtain ⟨fs, hr, hrun, hended, hW, hsame⟩ := X0.leave (v := some (.long q0)) (fun h => by rw [Bd.returns] at h; cases h)
    refine ⟨_, _, pre3 _ ?_, hrun, hended, _, _, rfl, ?_, ⟨_, rfl⟩, hW, hsame.mono (by decide) (by decide)⟩
    · show Steps p.tables e below (s₁.setTop (mkF m 13 #[.val (.long q0), .second, .val (.long q1), .second] [(.long q0)])) _
      jvm_step X0.here [X0.here.top, hx, (hb hby own_d1_13), X0.method', Bd.returns, narrow]
      first | (intro acts; rw [hr _ acts rfl rfl rfl]) | rw [hr _ _ rfl rfl rfl]
      exact Steps.refl _
    · show own_Q1 Z q0 q1 h0 n0 _ s₁.heap _; rw [e0]; exact ⟨(by show some (Value.long _) = some (.long (own_f1 q0 q1)); unfold own_f1; rw [if_pos hc2]), N0, rfl⟩
  · have pre4 : ∀ t, Steps p.tables e below (s₁.setTop (mkF m 13 #[.val (.long q0), .second, .val (.long q1), .second] [(.long q1)])) t → Steps p.tables e below (s₁.setTop (entryFrame m #[(.long q0), (.long q1)] 4)) t := fun t k => pre1 t (by
        refine XS.ifYes X0.here hx rfl (pc0 := 5) (pc' := 12) rfl (hb hby own_d1_5) rfl ((if0 _ _).trans (flt (mt (own_lw_lt _ _).mp hc2)).2.1) (by decide) (by decide) ?_
        show Steps p.tables e below (s₁.setTop (mkF m 12 #[.val (.long q0), .second, .val (.long q1), .second] [])) _
        refine XS.lloadN X0.here hx rfl (hb hby own_d1_12) rfl ?_
        show Steps p.tables e below (s₁.setTop (mkF m 13 #[.val (.long q0), .second, .val (.long q1), .second] [(.long q1)])) _
        exact k)
    obtain ⟨fs, hr, hrun, hended, hW, hsame⟩ := X0.leave (v := some (.long q1)) (fun h => by rw [Bd.returns] at h; cases h)
    refine ⟨_, _, pre4 _ ?_, hrun, hended, _, _, rfl, ?_, ⟨_, rfl⟩, hW, hsame.mono (by decide) (by decide)⟩
    · show Steps p.tables e below (s₁.setTop (mkF m 13 #[.val (.long q0), .second, .val (.long q1), .second] [(.long q1)])) _
      jvm_step X0.here [X0.here.top, hx, (hb hby own_d1_13), X0.method', Bd.returns, narrow]
      first | (intro acts; rw [hr _ acts rfl rfl rfl]) | rw [hr _ _ rfl rfl rfl]
      exact Steps.refl _
    · show own_Q1 Z q0 q1 h0 n0 _ s₁.heap _; rw [e0]; exact ⟨(by show some (Value.long _) = some (.long (own_f1 q0 q1)); unfold own_f1; rw [if_neg hc2]), N0, rfl⟩
theorem own_pd0 : parseMethodDescriptor "(JJ)J" = some ⟨[.long, .long], some .long⟩ := by decide +kernel
theorem own_pn0 : plainName "com/example/ufunguo/ufunguo/util/DeadlinesEarlierPinLaw" = true := by first | (simp [plainName, overriddenIn]; done) | decide +kernel
theorem own_ef0 (m : MethodId) (x0 : Int64) (x1 : Int64) (x2 : Int64) : entryFrame m #[(.long x0), (.long x1), (.long x2)] maxLocals = (mkF m 0 #[.val (.long x0), .second, .val (.long x1), .second, .val (.long x2), .second, .unset, .unset, .unset, .unset, .unset, .unset, .unset, .unset, .unset, .unset, .unset, .unset] []) := by first | (simp [entryFrame, mkF, argsToLocals, Value.category, maxLocals]; done) | rfl
def own_v0_3_0 (q1 : Int64) : Int64 := (q1 >>> ((1 : Int32) &&& 0x3f).toInt64)
def own_v0_9_1 (q2 : Int64) : Int64 := (q2 >>> ((1 : Int32) &&& 0x3f).toInt64)
def own_v0_47_2 (q0 : Int64) (q1 : Int64) (q2 : Int64) : Int64 := (own_f1 (q0 + (own_v0_3_0 q1)) (q0 + (own_v0_9_1 q2)))
def own_f0 (q0 : Int64) (q1 : Int64) (q2 : Int64) : Int32 := (if (own_v0_3_0 q1) < (own_v0_9_1 q2) then (if (own_v0_47_2 q0 q1 q2) = (q0 + (own_v0_3_0 q1)) then (1 : Int32) else (0 : Int32)) else (if (own_v0_47_2 q0 q1 q2) = (q0 + (own_v0_9_1 q2)) then (1 : Int32) else (0 : Int32)))
def own_Q0 (Z : State) (q0 : Int64) (q1 : Int64) (q2 : Int64) (h0 : Heap) (n0 : Nat) (v : Option Value) (h : Heap) (L : List Loc) : Prop := v = some (.int (own_f0 q0 q1 q2)) ∧ Fr n0 L
set_option maxRecDepth 65536 in
set_option maxHeartbeats 40000000 in
theorem own_rm0 (l : Launch) (Z : State) (a0 : Array Value) (hw : ∀ d ∈ tables_1, d.before a0 Z = true) (ws : List Jvm.Cond) (q0 : Int64) (q1 : Int64) (q2 : Int64) (h0 : Heap) (n0 : Nat) (Z0 : n0 ≤ h0.size) :
    MetFree l x (head1 (Jvm.Cond.code x code maxLocals ret :: ws) room_1) (fun a U => a = #[(.long q0), (.long q1), (.long q2)] ∧ Z.Warmed39 U.vm ∧ U.heap = h0) (fun _ _ _ _ _ => True) (fun _ U o U' => ∃ v L, o = .returned v ∧ own_Q0 Z q0 q1 q2 h0 n0 v U'.heap L ∧ FrameEnd U o U' L room_1.cells room_1.slots) := by
  refine MetFree.of_bodySF (plainFor_of_name own_pn0) hisR ?_
  intro p e s m args below meth c s₁ Bd hml0 hP hK
  obtain ⟨rfl, hZ, hh⟩ := hP
  have hx := Bd.exec
  have hby := Bd.bytes
  have hml : c.maxLocals = 18 := hml0
  have hown : s.vm.findClass "com/example/ufunguo/ufunguo/util/DeadlinesEarlierPinLaw" = some m.cls := findClass_of_methodNamed Bd.named
  have hnm := (name_of_methodNamed Bd.named Bd.method).1
  have X0 : Stand p l e room_1 s m #[(.long q0), (.long q1), (.long q2)] below meth c s₁ [] 0 0 := Stand.of_body Bd
  have e0 : s₁.heap = h0 := by rw [← hh, Bd.state]; rfl
  have N0 := Fr.nil n0
  have pre0 : ∀ t, Steps p.tables e below (s₁.setTop (mkF m 0 #[.val (.long q0), .second, .val (.long q1), .second, .val (.long q2), .second, .unset, .unset, .unset, .unset, .unset, .unset, .unset, .unset, .unset, .unset, .unset, .unset] [])) t → Steps p.tables e below (s₁.setTop (entryFrame m #[(.long q0), (.long q1), (.long q2)] maxLocals)) t := fun t k => castTop (own_ef0 m q0 q1 q2) k
  have pre1 : ∀ t, Steps p.tables e below (s₁.setTop (mkF m 28 #[.val (.long q0), .second, .val (.long q1), .second, .val (.long q2), .second, .val (.long (own_v0_3_0 q1)), .second, .val (.long (own_v0_9_1 q2)), .second, .val (.long (q0 + (own_v0_3_0 q1))), .second, .val (.long (q0 + (own_v0_9_1 q2))), .second, .unset, .unset, .unset, .unset] [(.int (lcmpW (own_v0_3_0 q1) (own_v0_9_1 q2)))])) t → Steps p.tables e below (s₁.setTop (entryFrame m #[(.long q0), (.long q1), (.long q2)] maxLocals)) t := fun t k => pre0 t (by
      refine XS.lloadN X0.here hx rfl (hb hby at_0) rfl ?_
      show Steps p.tables e below (s₁.setTop (mkF m 1 #[.val (.long q0), .second, .val (.long q1), .second, .val (.long q2), .second, .unset, .unset, .unset, .unset, .unset, .unset, .unset, .unset, .unset, .unset, .unset, .unset] [(.long q1)])) _
      refine XS.iconst X0.here hx rfl (hb hby at_1) ?_
      show Steps p.tables e below (s₁.setTop (mkF m 2 #[.val (.long q0), .second, .val (.long q1), .second, .val (.long q2), .second, .unset, .unset, .unset, .unset, .unset, .unset, .unset, .unset, .unset, .unset, .unset, .unset] [(.int (1 : Int32)), (.long q1)])) _
      refine XS.lshr X0.here hx rfl (hb hby at_2) rfl ?_
      show Steps p.tables e below (s₁.setTop (mkF m 3 #[.val (.long q0), .second, .val (.long q1), .second, .val (.long q2), .second, .unset, .unset, .unset, .unset, .unset, .unset, .unset, .unset, .unset, .unset, .unset, .unset] [(.long (q1 >>> ((1 : Int32) &&& 0x3f).toInt64))])) _
      refine XS.lstore X0.here hx rfl (hb hby at_3) rfl (l' := #[.val (.long q0), .second, .val (.long q1), .second, .val (.long q2), .second, .val (.long (own_v0_3_0 q1)), .second, .unset, .unset, .unset, .unset, .unset, .unset, .unset, .unset, .unset, .unset]) rfl ?_
      show Steps p.tables e below (s₁.setTop (mkF m 5 #[.val (.long q0), .second, .val (.long q1), .second, .val (.long q2), .second, .val (.long (own_v0_3_0 q1)), .second, .unset, .unset, .unset, .unset, .unset, .unset, .unset, .unset, .unset, .unset] [])) _
      refine XS.lload X0.here hx rfl (hb hby at_5) rfl ?_
      show Steps p.tables e below (s₁.setTop (mkF m 7 #[.val (.long q0), .second, .val (.long q1), .second, .val (.long q2), .second, .val (.long (own_v0_3_0 q1)), .second, .unset, .unset, .unset, .unset, .unset, .unset, .unset, .unset, .unset, .unset] [(.long q2)])) _
      refine XS.iconst X0.here hx rfl (hb hby at_7) ?_
      show Steps p.tables e below (s₁.setTop (mkF m 8 #[.val (.long q0), .second, .val (.long q1), .second, .val (.long q2), .second, .val (.long (own_v0_3_0 q1)), .second, .unset, .unset, .unset, .unset, .unset, .unset, .unset, .unset, .unset, .unset] [(.int (1 : Int32)), (.long q2)])) _
      refine XS.lshr X0.here hx rfl (hb hby at_8) rfl ?_
      show Steps p.tables e below (s₁.setTop (mkF m 9 #[.val (.long q0), .second, .val (.long q1), .second, .val (.long q2), .second, .val (.long (own_v0_3_0 q1)), .second, .unset, .unset, .unset, .unset, .unset, .unset, .unset, .unset, .unset, .unset] [(.long (q2 >>> ((1 : Int32) &&& 0x3f).toInt64))])) _
      refine XS.lstore X0.here hx rfl (hb hby at_9) rfl (l' := #[.val (.long q0), .second, .val (.long q1), .second, .val (.long q2), .second, .val (.long (own_v0_3_0 q1)), .second, .val (.long (own_v0_9_1 q2)), .second, .unset, .unset, .unset, .unset, .unset, .unset, .unset, .unset]) rfl ?_
      show Steps p.tables e below (s₁.setTop (mkF m 11 #[.val (.long q0), .second, .val (.long q1), .second, .val (.long q2), .second, .val (.long (own_v0_3_0 q1)), .second, .val (.long (own_v0_9_1 q2)), .second, .unset, .unset, .unset, .unset, .unset, .unset, .unset, .unset] [])) _
      refine XS.lloadN X0.here hx rfl (hb hby at_11) rfl ?_
      show Steps p.tables e below (s₁.setTop (mkF m 12 #[.val (.long q0), .second, .val (.long q1), .second, .val (.long q2), .second, .val (.long (own_v0_3_0 q1)), .second, .val (.long (own_v0_9_1 q2)), .second, .unset, .unset, .unset, .unset, .unset, .unset, .unset, .unset] [(.long q0)])) _
      refine XS.lload X0.here hx rfl (hb hby at_12) rfl ?_
      show Steps p.tables e below (s₁.setTop (mkF m 14 #[.val (.long q0), .second, .val (.long q1), .second, .val (.long q2), .second, .val (.long (own_v0_3_0 q1)), .second, .val (.long (own_v0_9_1 q2)), .second, .unset, .unset, .unset, .unset, .unset, .unset, .unset, .unset] [(.long (own_v0_3_0 q1)), (.long q0)])) _
      refine XS.ladd X0.here hx rfl (hb hby at_14) rfl ?_
      show Steps p.tables e below (s₁.setTop (mkF m 15 #[.val (.long q0), .second, .val (.long q1), .second, .val (.long q2), .second, .val (.long (own_v0_3_0 q1)), .second, .val (.long (own_v0_9_1 q2)), .second, .unset, .unset, .unset, .unset, .unset, .unset, .unset, .unset] [(.long (q0 + (own_v0_3_0 q1)))])) _
      refine XS.lstore X0.here hx rfl (hb hby at_15) rfl (l' := #[.val (.long q0), .second, .val (.long q1), .second, .val (.long q2), .second, .val (.long (own_v0_3_0 q1)), .second, .val (.long (own_v0_9_1 q2)), .second, .val (.long (q0 + (own_v0_3_0 q1))), .second, .unset, .unset, .unset, .unset, .unset, .unset]) rfl ?_
      show Steps p.tables e below (s₁.setTop (mkF m 17 #[.val (.long q0), .second, .val (.long q1), .second, .val (.long q2), .second, .val (.long (own_v0_3_0 q1)), .second, .val (.long (own_v0_9_1 q2)), .second, .val (.long (q0 + (own_v0_3_0 q1))), .second, .unset, .unset, .unset, .unset, .unset, .unset] [])) _
      refine XS.lloadN X0.here hx rfl (hb hby at_17) rfl ?_
      show Steps p.tables e below (s₁.setTop (mkF m 18 #[.val (.long q0), .second, .val (.long q1), .second, .val (.long q2), .second, .val (.long (own_v0_3_0 q1)), .second, .val (.long (own_v0_9_1 q2)), .second, .val (.long (q0 + (own_v0_3_0 q1))), .second, .unset, .unset, .unset, .unset, .unset, .unset] [(.long q0)])) _
      refine XS.lload X0.here hx rfl (hb hby at_18) rfl ?_
      show Steps p.tables e below (s₁.setTop (mkF m 20 #[.val (.long q0), .second, .val (.long q1), .second, .val (.long q2), .second, .val (.long (own_v0_3_0 q1)), .second, .val (.long (own_v0_9_1 q2)), .second, .val (.long (q0 + (own_v0_3_0 q1))), .second, .unset, .unset, .unset, .unset, .unset, .unset] [(.long (own_v0_9_1 q2)), (.long q0)])) _
      refine XS.ladd X0.here hx rfl (hb hby at_20) rfl ?_
      show Steps p.tables e below (s₁.setTop (mkF m 21 #[.val (.long q0), .second, .val (.long q1), .second, .val (.long q2), .second, .val (.long (own_v0_3_0 q1)), .second, .val (.long (own_v0_9_1 q2)), .second, .val (.long (q0 + (own_v0_3_0 q1))), .second, .unset, .unset, .unset, .unset, .unset, .unset] [(.long (q0 + (own_v0_9_1 q2)))])) _
      refine XS.lstore X0.here hx rfl (hb hby at_21) rfl (l' := #[.val (.long q0), .second, .val (.long q1), .second, .val (.long q2), .second, .val (.long (own_v0_3_0 q1)), .second, .val (.long (own_v0_9_1 q2)), .second, .val (.long (q0 + (own_v0_3_0 q1))), .second, .val (.long (q0 + (own_v0_9_1 q2))), .second, .unset, .unset, .unset, .unset]) rfl ?_
      show Steps p.tables e below (s₁.setTop (mkF m 23 #[.val (.long q0), .second, .val (.long q1), .second, .val (.long q2), .second, .val (.long (own_v0_3_0 q1)), .second, .val (.long (own_v0_9_1 q2)), .second, .val (.long (q0 + (own_v0_3_0 q1))), .second, .val (.long (q0 + (own_v0_9_1 q2))), .second, .unset, .unset, .unset, .unset] [])) _
      refine XS.lload X0.here hx rfl (hb hby at_23) rfl ?_
      show Steps p.tables e below (s₁.setTop (mkF m 25 #[.val (.long q0), .second, .val (.long q1), .second, .val (.long q2), .second, .val (.long (own_v0_3_0 q1)), .second, .val (.long (own_v0_9_1 q2)), .second, .val (.long (q0 + (own_v0_3_0 q1))), .second, .val (.long (q0 + (own_v0_9_1 q2))), .second, .unset, .unset, .unset, .unset] [(.long (own_v0_3_0 q1))])) _
      refine XS.lload X0.here hx rfl (hb hby at_25) rfl ?_
      show Steps p.tables e below (s₁.setTop (mkF m 27 #[.val (.long q0), .second, .val (.long q1), .second, .val (.long q2), .second, .val (.long (own_v0_3_0 q1)), .second, .val (.long (own_v0_9_1 q2)), .second, .val (.long (q0 + (own_v0_3_0 q1))), .second, .val (.long (q0 + (own_v0_9_1 q2))), .second, .unset, .unset, .unset, .unset] [(.long (own_v0_9_1 q2)), (.long (own_v0_3_0 q1))])) _
      refine XS.lcmp X0.here hx rfl (hb hby at_27) rfl ?_
      show Steps p.tables e below (s₁.setTop (mkF m 28 #[.val (.long q0), .second, .val (.long q1), .second, .val (.long q2), .second, .val (.long (own_v0_3_0 q1)), .second, .val (.long (own_v0_9_1 q2)), .second, .val (.long (q0 + (own_v0_3_0 q1))), .second, .val (.long (q0 + (own_v0_9_1 q2))), .second, .unset, .unset, .unset, .unset] [(.int (lcmpW (own_v0_3_0 q1) (own_v0_9_1 q2)))])) _
      exact k)
  by_cases hc2 : (own_v0_3_0 q1) < (own_v0_9_1 q2)
  · obtain ⟨_, _, ⟨T3, L3, k3, n3⟩, -, X3, ⟨Lc3, hQ3, l3, y3, z3⟩, st3⟩ := Jvm.LawKit.callS X0 hx (y := (⟨"com/example/ufunguo/ufunguo/util/Deadlines", "earlier", "(JJ)J"⟩ : MethodName)) hown (mvT hZ (hw _ (List.mem_of_getElem? (i := 0) rfl))) (mvT hZ (hw _ (List.mem_of_getElem? (i := 1) rfl))) (mvT hZ (hw _ (List.mem_of_getElem? (i := 2) rfl))) (mvT hZ (hw _ (List.mem_of_getElem? (i := 3) rfl))) (by decide) (backOf (W := 0) (own_rm1 l Z a0 hw [] (q0 + (own_v0_3_0 q1)) (q0 + (own_v0_9_1 q2)) h0 n0 Z0 ) hZ (hw _ (List.mem_of_getElem? (i := 3) rfl)) (hw _ (List.mem_of_getElem? (i := 2) rfl)) (by decide) (by decide)) (g := (mkF m 44 #[.val (.long q0), .second, .val (.long q1), .second, .val (.long q2), .second, .val (.long (own_v0_3_0 q1)), .second, .val (.long (own_v0_9_1 q2)), .second, .val (.long (q0 + (own_v0_3_0 q1))), .second, .val (.long (q0 + (own_v0_9_1 q2))), .second, .val (.long (q0 + (own_v0_3_0 q1))), .second, .unset, .unset] [(.long (q0 + (own_v0_9_1 q2))), (.long (q0 + (own_v0_3_0 q1)))])) rfl (by rw [hml]; rfl) (argsL := [(.long (q0 + (own_v0_3_0 q1))), (.long (q0 + (own_v0_9_1 q2)))]) (rest := []) (lenOf own_pd0 rfl) rfl (by show 2 * 0 + _ ≤ _; exact Nat.le_of_eq rfl) (hb hby at_44) (fun _ _ => ⟨rfl, e0, (by decide : 0 + 0 ≤ _), (by decide : 0 + 0 ≤ _)⟩)
    dsimp only [Pt.U, Pt.locs, Pt.cells, Pt.slots] at X3 l3 y3 z3 st3 hQ3
    subst l3 y3 z3
    obtain ⟨rfl, N3q, e3⟩ := hQ3
    have N4 := Fr.app N0 N3q
    have pre5 : ∀ t, Steps p.tables e below (T3.setTop (mkF m 54 #[.val (.long q0), .second, .val (.long q1), .second, .val (.long q2), .second, .val (.long (own_v0_3_0 q1)), .second, .val (.long (own_v0_9_1 q2)), .second, .val (.long (q0 + (own_v0_3_0 q1))), .second, .val (.long (q0 + (own_v0_9_1 q2))), .second, .val (.long (q0 + (own_v0_3_0 q1))), .second, .val (.long (own_v0_47_2 q0 q1 q2)), .second] [(.int (lcmpW (own_v0_47_2 q0 q1 q2) (q0 + (own_v0_3_0 q1))))])) t → Steps p.tables e below (s₁.setTop (entryFrame m #[(.long q0), (.long q1), (.long q2)] maxLocals)) t := fun t k => pre1 t (by
        refine XS.ifNo X0.here hx rfl (hb hby at_28) rfl ((if0 _ _).trans (tlt ((own_lw_lt _ _).mpr hc2)).2.1) ?_
        show Steps p.tables e below (s₁.setTop (mkF m 31 #[.val (.long q0), .second, .val (.long q1), .second, .val (.long q2), .second, .val (.long (own_v0_3_0 q1)), .second, .val (.long (own_v0_9_1 q2)), .second, .val (.long (q0 + (own_v0_3_0 q1))), .second, .val (.long (q0 + (own_v0_9_1 q2))), .second, .unset, .unset, .unset, .unset] [])) _
        refine XS.lload X0.here hx rfl (hb hby at_31) rfl ?_
        show Steps p.tables e below (s₁.setTop (mkF m 33 #[.val (.long q0), .second, .val (.long q1), .second, .val (.long q2), .second, .val (.long (own_v0_3_0 q1)), .second, .val (.long (own_v0_9_1 q2)), .second, .val (.long (q0 + (own_v0_3_0 q1))), .second, .val (.long (q0 + (own_v0_9_1 q2))), .second, .unset, .unset, .unset, .unset] [(.long (q0 + (own_v0_3_0 q1)))])) _
        refine XS.goto X0.here hx rfl (pc0 := 33) (pc' := 38) rfl (hb hby at_33) (by decide) (by decide) ?_
        show Steps p.tables e below (s₁.setTop (mkF m 38 #[.val (.long q0), .second, .val (.long q1), .second, .val (.long q2), .second, .val (.long (own_v0_3_0 q1)), .second, .val (.long (own_v0_9_1 q2)), .second, .val (.long (q0 + (own_v0_3_0 q1))), .second, .val (.long (q0 + (own_v0_9_1 q2))), .second, .unset, .unset, .unset, .unset] [(.long (q0 + (own_v0_3_0 q1)))])) _
        refine XS.lstore X0.here hx rfl (hb hby at_38) rfl (l' := #[.val (.long q0), .second, .val (.long q1), .second, .val (.long q2), .second, .val (.long (own_v0_3_0 q1)), .second, .val (.long (own_v0_9_1 q2)), .second, .val (.long (q0 + (own_v0_3_0 q1))), .second, .val (.long (q0 + (own_v0_9_1 q2))), .second, .val (.long (q0 + (own_v0_3_0 q1))), .second, .unset, .unset]) rfl ?_
        show Steps p.tables e below (s₁.setTop (mkF m 40 #[.val (.long q0), .second, .val (.long q1), .second, .val (.long q2), .second, .val (.long (own_v0_3_0 q1)), .second, .val (.long (own_v0_9_1 q2)), .second, .val (.long (q0 + (own_v0_3_0 q1))), .second, .val (.long (q0 + (own_v0_9_1 q2))), .second, .val (.long (q0 + (own_v0_3_0 q1))), .second, .unset, .unset] [])) _
        refine XS.lload X0.here hx rfl (hb hby at_40) rfl ?_
        show Steps p.tables e below (s₁.setTop (mkF m 42 #[.val (.long q0), .second, .val (.long q1), .second, .val (.long q2), .second, .val (.long (own_v0_3_0 q1)), .second, .val (.long (own_v0_9_1 q2)), .second, .val (.long (q0 + (own_v0_3_0 q1))), .second, .val (.long (q0 + (own_v0_9_1 q2))), .second, .val (.long (q0 + (own_v0_3_0 q1))), .second, .unset, .unset] [(.long (q0 + (own_v0_3_0 q1)))])) _
        refine XS.lload X0.here hx rfl (hb hby at_42) rfl ?_
        show Steps p.tables e below (s₁.setTop (mkF m 44 #[.val (.long q0), .second, .val (.long q1), .second, .val (.long q2), .second, .val (.long (own_v0_3_0 q1)), .second, .val (.long (own_v0_9_1 q2)), .second, .val (.long (q0 + (own_v0_3_0 q1))), .second, .val (.long (q0 + (own_v0_9_1 q2))), .second, .val (.long (q0 + (own_v0_3_0 q1))), .second, .unset, .unset] [(.long (q0 + (own_v0_9_1 q2))), (.long (q0 + (own_v0_3_0 q1)))])) _
        refine st3 _ ?_
        show Steps p.tables e below (T3.setTop (mkF m 47 #[.val (.long q0), .second, .val (.long q1), .second, .val (.long q2), .second, .val (.long (own_v0_3_0 q1)), .second, .val (.long (own_v0_9_1 q2)), .second, .val (.long (q0 + (own_v0_3_0 q1))), .second, .val (.long (q0 + (own_v0_9_1 q2))), .second, .val (.long (q0 + (own_v0_3_0 q1))), .second, .unset, .unset] [(.long (own_f1 (q0 + (own_v0_3_0 q1)) (q0 + (own_v0_9_1 q2))))])) _
        refine XS.lstore X3.here hx rfl (hb hby at_47) rfl (l' := #[.val (.long q0), .second, .val (.long q1), .second, .val (.long q2), .second, .val (.long (own_v0_3_0 q1)), .second, .val (.long (own_v0_9_1 q2)), .second, .val (.long (q0 + (own_v0_3_0 q1))), .second, .val (.long (q0 + (own_v0_9_1 q2))), .second, .val (.long (q0 + (own_v0_3_0 q1))), .second, .val (.long (own_v0_47_2 q0 q1 q2)), .second]) rfl ?_
        show Steps p.tables e below (T3.setTop (mkF m 49 #[.val (.long q0), .second, .val (.long q1), .second, .val (.long q2), .second, .val (.long (own_v0_3_0 q1)), .second, .val (.long (own_v0_9_1 q2)), .second, .val (.long (q0 + (own_v0_3_0 q1))), .second, .val (.long (q0 + (own_v0_9_1 q2))), .second, .val (.long (q0 + (own_v0_3_0 q1))), .second, .val (.long (own_v0_47_2 q0 q1 q2)), .second] [])) _
        refine XS.lload X3.here hx rfl (hb hby at_49) rfl ?_
        show Steps p.tables e below (T3.setTop (mkF m 51 #[.val (.long q0), .second, .val (.long q1), .second, .val (.long q2), .second, .val (.long (own_v0_3_0 q1)), .second, .val (.long (own_v0_9_1 q2)), .second, .val (.long (q0 + (own_v0_3_0 q1))), .second, .val (.long (q0 + (own_v0_9_1 q2))), .second, .val (.long (q0 + (own_v0_3_0 q1))), .second, .val (.long (own_v0_47_2 q0 q1 q2)), .second] [(.long (own_v0_47_2 q0 q1 q2))])) _
        refine XS.lload X3.here hx rfl (hb hby at_51) rfl ?_
        show Steps p.tables e below (T3.setTop (mkF m 53 #[.val (.long q0), .second, .val (.long q1), .second, .val (.long q2), .second, .val (.long (own_v0_3_0 q1)), .second, .val (.long (own_v0_9_1 q2)), .second, .val (.long (q0 + (own_v0_3_0 q1))), .second, .val (.long (q0 + (own_v0_9_1 q2))), .second, .val (.long (q0 + (own_v0_3_0 q1))), .second, .val (.long (own_v0_47_2 q0 q1 q2)), .second] [(.long (q0 + (own_v0_3_0 q1))), (.long (own_v0_47_2 q0 q1 q2))])) _
        refine XS.lcmp X3.here hx rfl (hb hby at_53) rfl ?_
        show Steps p.tables e below (T3.setTop (mkF m 54 #[.val (.long q0), .second, .val (.long q1), .second, .val (.long q2), .second, .val (.long (own_v0_3_0 q1)), .second, .val (.long (own_v0_9_1 q2)), .second, .val (.long (q0 + (own_v0_3_0 q1))), .second, .val (.long (q0 + (own_v0_9_1 q2))), .second, .val (.long (q0 + (own_v0_3_0 q1))), .second, .val (.long (own_v0_47_2 q0 q1 q2)), .second] [(.int (lcmpW (own_v0_47_2 q0 q1 q2) (q0 + (own_v0_3_0 q1))))])) _
        exact k)
    by_cases hc6 : (own_v0_47_2 q0 q1 q2) = (q0 + (own_v0_3_0 q1))
    · have pre7 : ∀ t, Steps p.tables e below (T3.setTop (mkF m 62 #[.val (.long q0), .second, .val (.long q1), .second, .val (.long q2), .second, .val (.long (own_v0_3_0 q1)), .second, .val (.long (own_v0_9_1 q2)), .second, .val (.long (q0 + (own_v0_3_0 q1))), .second, .val (.long (q0 + (own_v0_9_1 q2))), .second, .val (.long (q0 + (own_v0_3_0 q1))), .second, .val (.long (own_v0_47_2 q0 q1 q2)), .second] [(.int (1 : Int32))])) t → Steps p.tables e below (s₁.setTop (entryFrame m #[(.long q0), (.long q1), (.long q2)] maxLocals)) t := fun t k => pre5 t (by
          refine XS.ifNo X3.here hx rfl (hb hby at_54) rfl ((if0 _ _).trans (teq ((own_lw_eq _ _).mpr hc6)).2) ?_
          show Steps p.tables e below (T3.setTop (mkF m 57 #[.val (.long q0), .second, .val (.long q1), .second, .val (.long q2), .second, .val (.long (own_v0_3_0 q1)), .second, .val (.long (own_v0_9_1 q2)), .second, .val (.long (q0 + (own_v0_3_0 q1))), .second, .val (.long (q0 + (own_v0_9_1 q2))), .second, .val (.long (q0 + (own_v0_3_0 q1))), .second, .val (.long (own_v0_47_2 q0 q1 q2)), .second] [])) _
          refine XS.iconst X3.here hx rfl (hb hby at_57) ?_
          show Steps p.tables e below (T3.setTop (mkF m 58 #[.val (.long q0), .second, .val (.long q1), .second, .val (.long q2), .second, .val (.long (own_v0_3_0 q1)), .second, .val (.long (own_v0_9_1 q2)), .second, .val (.long (q0 + (own_v0_3_0 q1))), .second, .val (.long (q0 + (own_v0_9_1 q2))), .second, .val (.long (q0 + (own_v0_3_0 q1))), .second, .val (.long (own_v0_47_2 q0 q1 q2)), .second] [(.int (1 : Int32))])) _
          refine XS.goto X3.here hx rfl (pc0 := 58) (pc' := 62) rfl (hb hby at_58) (by decide) (by decide) ?_
          show Steps p.tables e below (T3.setTop (mkF m 62 #[.val (.long q0), .second, .val (.long q1), .second, .val (.long q2), .second, .val (.long (own_v0_3_0 q1)), .second, .val (.long (own_v0_9_1 q2)), .second, .val (.long (q0 + (own_v0_3_0 q1))), .second, .val (.long (q0 + (own_v0_9_1 q2))), .second, .val (.long (q0 + (own_v0_3_0 q1))), .second, .val (.long (own_v0_47_2 q0 q1 q2)), .second] [(.int (1 : Int32))])) _
          exact k)
      obtain ⟨fs, hr, hrun, hended, hW, hsame⟩ := X3.leave (v := some (.int (1 : Int32))) (fun h => by rw [Bd.returns] at h; cases h)
      refine ⟨_, _, pre7 _ ?_, hrun, hended, _, _, rfl, ?_, ⟨_, rfl⟩, hW, hsame.mono (by decide) (by decide)⟩
      · show Steps p.tables e below (T3.setTop (mkF m 62 #[.val (.long q0), .second, .val (.long q1), .second, .val (.long q2), .second, .val (.long (own_v0_3_0 q1)), .second, .val (.long (own_v0_9_1 q2)), .second, .val (.long (q0 + (own_v0_3_0 q1))), .second, .val (.long (q0 + (own_v0_9_1 q2))), .second, .val (.long (q0 + (own_v0_3_0 q1))), .second, .val (.long (own_v0_47_2 q0 q1 q2)), .second] [(.int (1 : Int32))])) _
        exact retN X3 hx (t := .boolean) Bd.returns (by simp) (hb hby at_62) hr
      · show own_Q0 Z q0 q1 q2 h0 n0 _ T3.heap _; exact ⟨(by show some (Value.int _) = some (.int (own_f0 q0 q1 q2)); unfold own_f0; rw [if_pos hc2, if_pos hc6]), N4⟩
    · have pre8 : ∀ t, Steps p.tables e below (T3.setTop (mkF m 62 #[.val (.long q0), .second, .val (.long q1), .second, .val (.long q2), .second, .val (.long (own_v0_3_0 q1)), .second, .val (.long (own_v0_9_1 q2)), .second, .val (.long (q0 + (own_v0_3_0 q1))), .second, .val (.long (q0 + (own_v0_9_1 q2))), .second, .val (.long (q0 + (own_v0_3_0 q1))), .second, .val (.long (own_v0_47_2 q0 q1 q2)), .second] [(.int (0 : Int32))])) t → Steps p.tables e below (s₁.setTop (entryFrame m #[(.long q0), (.long q1), (.long q2)] maxLocals)) t := fun t k => pre5 t (by
          refine XS.ifYes X3.here hx rfl (pc0 := 54) (pc' := 61) rfl (hb hby at_54) rfl ((if0 _ _).trans (feq (mt (own_lw_eq _ _).mp hc6)).2) (by decide) (by decide) ?_
          show Steps p.tables e below (T3.setTop (mkF m 61 #[.val (.long q0), .second, .val (.long q1), .second, .val (.long q2), .second, .val (.long (own_v0_3_0 q1)), .second, .val (.long (own_v0_9_1 q2)), .second, .val (.long (q0 + (own_v0_3_0 q1))), .second, .val (.long (q0 + (own_v0_9_1 q2))), .second, .val (.long (q0 + (own_v0_3_0 q1))), .second, .val (.long (own_v0_47_2 q0 q1 q2)), .second] [])) _
          refine XS.iconst X3.here hx rfl (hb hby at_61) ?_
          show Steps p.tables e below (T3.setTop (mkF m 62 #[.val (.long q0), .second, .val (.long q1), .second, .val (.long q2), .second, .val (.long (own_v0_3_0 q1)), .second, .val (.long (own_v0_9_1 q2)), .second, .val (.long (q0 + (own_v0_3_0 q1))), .second, .val (.long (q0 + (own_v0_9_1 q2))), .second, .val (.long (q0 + (own_v0_3_0 q1))), .second, .val (.long (own_v0_47_2 q0 q1 q2)), .second] [(.int (0 : Int32))])) _
          exact k)
      obtain ⟨fs, hr, hrun, hended, hW, hsame⟩ := X3.leave (v := some (.int (0 : Int32))) (fun h => by rw [Bd.returns] at h; cases h)
      refine ⟨_, _, pre8 _ ?_, hrun, hended, _, _, rfl, ?_, ⟨_, rfl⟩, hW, hsame.mono (by decide) (by decide)⟩
      · show Steps p.tables e below (T3.setTop (mkF m 62 #[.val (.long q0), .second, .val (.long q1), .second, .val (.long q2), .second, .val (.long (own_v0_3_0 q1)), .second, .val (.long (own_v0_9_1 q2)), .second, .val (.long (q0 + (own_v0_3_0 q1))), .second, .val (.long (q0 + (own_v0_9_1 q2))), .second, .val (.long (q0 + (own_v0_3_0 q1))), .second, .val (.long (own_v0_47_2 q0 q1 q2)), .second] [(.int (0 : Int32))])) _
        exact retN X3 hx (t := .boolean) Bd.returns (by simp) (hb hby at_62) hr
      · show own_Q0 Z q0 q1 q2 h0 n0 _ T3.heap _; exact ⟨(by show some (Value.int _) = some (.int (own_f0 q0 q1 q2)); unfold own_f0; rw [if_pos hc2, if_neg hc6]), N4⟩
  · obtain ⟨_, _, ⟨T9, L9, k9, n9⟩, -, X9, ⟨Lc9, hQ9, l9, y9, z9⟩, st9⟩ := Jvm.LawKit.callS X0 hx (y := (⟨"com/example/ufunguo/ufunguo/util/Deadlines", "earlier", "(JJ)J"⟩ : MethodName)) hown (mvT hZ (hw _ (List.mem_of_getElem? (i := 0) rfl))) (mvT hZ (hw _ (List.mem_of_getElem? (i := 1) rfl))) (mvT hZ (hw _ (List.mem_of_getElem? (i := 2) rfl))) (mvT hZ (hw _ (List.mem_of_getElem? (i := 3) rfl))) (by decide) (backOf (W := 0) (own_rm1 l Z a0 hw [] (q0 + (own_v0_3_0 q1)) (q0 + (own_v0_9_1 q2)) h0 n0 Z0 ) hZ (hw _ (List.mem_of_getElem? (i := 3) rfl)) (hw _ (List.mem_of_getElem? (i := 2) rfl)) (by decide) (by decide)) (g := (mkF m 44 #[.val (.long q0), .second, .val (.long q1), .second, .val (.long q2), .second, .val (.long (own_v0_3_0 q1)), .second, .val (.long (own_v0_9_1 q2)), .second, .val (.long (q0 + (own_v0_3_0 q1))), .second, .val (.long (q0 + (own_v0_9_1 q2))), .second, .val (.long (q0 + (own_v0_9_1 q2))), .second, .unset, .unset] [(.long (q0 + (own_v0_9_1 q2))), (.long (q0 + (own_v0_3_0 q1)))])) rfl (by rw [hml]; rfl) (argsL := [(.long (q0 + (own_v0_3_0 q1))), (.long (q0 + (own_v0_9_1 q2)))]) (rest := []) (lenOf own_pd0 rfl) rfl (by show 2 * 0 + _ ≤ _; exact Nat.le_of_eq rfl) (hb hby at_44) (fun _ _ => ⟨rfl, e0, (by decide : 0 + 0 ≤ _), (by decide : 0 + 0 ≤ _)⟩)
    dsimp only [Pt.U, Pt.locs, Pt.cells, Pt.slots] at X9 l9 y9 z9 st9 hQ9
    subst l9 y9 z9
    obtain ⟨rfl, N9q, e9⟩ := hQ9
    have N10 := Fr.app N0 N9q
    have pre11 : ∀ t, Steps p.tables e below (T9.setTop (mkF m 54 #[.val (.long q0), .second, .val (.long q1), .second, .val (.long q2), .second, .val (.long (own_v0_3_0 q1)), .second, .val (.long (own_v0_9_1 q2)), .second, .val (.long (q0 + (own_v0_3_0 q1))), .second, .val (.long (q0 + (own_v0_9_1 q2))), .second, .val (.long (q0 + (own_v0_9_1 q2))), .second, .val (.long (own_v0_47_2 q0 q1 q2)), .second] [(.int (lcmpW (own_v0_47_2 q0 q1 q2) (q0 + (own_v0_9_1 q2))))])) t → Steps p.tables e below (s₁.setTop (entryFrame m #[(.long q0), (.long q1), (.long q2)] maxLocals)) t := fun t k => pre1 t (by
        refine XS.ifYes X0.here hx rfl (pc0 := 28) (pc' := 36) rfl (hb hby at_28) rfl ((if0 _ _).trans (flt (mt (own_lw_lt _ _).mp hc2)).2.1) (by decide) (by decide) ?_
        show Steps p.tables e below (s₁.setTop (mkF m 36 #[.val (.long q0), .second, .val (.long q1), .second, .val (.long q2), .second, .val (.long (own_v0_3_0 q1)), .second, .val (.long (own_v0_9_1 q2)), .second, .val (.long (q0 + (own_v0_3_0 q1))), .second, .val (.long (q0 + (own_v0_9_1 q2))), .second, .unset, .unset, .unset, .unset] [])) _
        refine XS.lload X0.here hx rfl (hb hby at_36) rfl ?_
        show Steps p.tables e below (s₁.setTop (mkF m 38 #[.val (.long q0), .second, .val (.long q1), .second, .val (.long q2), .second, .val (.long (own_v0_3_0 q1)), .second, .val (.long (own_v0_9_1 q2)), .second, .val (.long (q0 + (own_v0_3_0 q1))), .second, .val (.long (q0 + (own_v0_9_1 q2))), .second, .unset, .unset, .unset, .unset] [(.long (q0 + (own_v0_9_1 q2)))])) _
        refine XS.lstore X0.here hx rfl (hb hby at_38) rfl (l' := #[.val (.long q0), .second, .val (.long q1), .second, .val (.long q2), .second, .val (.long (own_v0_3_0 q1)), .second, .val (.long (own_v0_9_1 q2)), .second, .val (.long (q0 + (own_v0_3_0 q1))), .second, .val (.long (q0 + (own_v0_9_1 q2))), .second, .val (.long (q0 + (own_v0_9_1 q2))), .second, .unset, .unset]) rfl ?_
        show Steps p.tables e below (s₁.setTop (mkF m 40 #[.val (.long q0), .second, .val (.long q1), .second, .val (.long q2), .second, .val (.long (own_v0_3_0 q1)), .second, .val (.long (own_v0_9_1 q2)), .second, .val (.long (q0 + (own_v0_3_0 q1))), .second, .val (.long (q0 + (own_v0_9_1 q2))), .second, .val (.long (q0 + (own_v0_9_1 q2))), .second, .unset, .unset] [])) _
        refine XS.lload X0.here hx rfl (hb hby at_40) rfl ?_
        show Steps p.tables e below (s₁.setTop (mkF m 42 #[.val (.long q0), .second, .val (.long q1), .second, .val (.long q2), .second, .val (.long (own_v0_3_0 q1)), .second, .val (.long (own_v0_9_1 q2)), .second, .val (.long (q0 + (own_v0_3_0 q1))), .second, .val (.long (q0 + (own_v0_9_1 q2))), .second, .val (.long (q0 + (own_v0_9_1 q2))), .second, .unset, .unset] [(.long (q0 + (own_v0_3_0 q1)))])) _
        refine XS.lload X0.here hx rfl (hb hby at_42) rfl ?_
        show Steps p.tables e below (s₁.setTop (mkF m 44 #[.val (.long q0), .second, .val (.long q1), .second, .val (.long q2), .second, .val (.long (own_v0_3_0 q1)), .second, .val (.long (own_v0_9_1 q2)), .second, .val (.long (q0 + (own_v0_3_0 q1))), .second, .val (.long (q0 + (own_v0_9_1 q2))), .second, .val (.long (q0 + (own_v0_9_1 q2))), .second, .unset, .unset] [(.long (q0 + (own_v0_9_1 q2))), (.long (q0 + (own_v0_3_0 q1)))])) _
        refine st9 _ ?_
        show Steps p.tables e below (T9.setTop (mkF m 47 #[.val (.long q0), .second, .val (.long q1), .second, .val (.long q2), .second, .val (.long (own_v0_3_0 q1)), .second, .val (.long (own_v0_9_1 q2)), .second, .val (.long (q0 + (own_v0_3_0 q1))), .second, .val (.long (q0 + (own_v0_9_1 q2))), .second, .val (.long (q0 + (own_v0_9_1 q2))), .second, .unset, .unset] [(.long (own_f1 (q0 + (own_v0_3_0 q1)) (q0 + (own_v0_9_1 q2))))])) _
        refine XS.lstore X9.here hx rfl (hb hby at_47) rfl (l' := #[.val (.long q0), .second, .val (.long q1), .second, .val (.long q2), .second, .val (.long (own_v0_3_0 q1)), .second, .val (.long (own_v0_9_1 q2)), .second, .val (.long (q0 + (own_v0_3_0 q1))), .second, .val (.long (q0 + (own_v0_9_1 q2))), .second, .val (.long (q0 + (own_v0_9_1 q2))), .second, .val (.long (own_v0_47_2 q0 q1 q2)), .second]) rfl ?_
        show Steps p.tables e below (T9.setTop (mkF m 49 #[.val (.long q0), .second, .val (.long q1), .second, .val (.long q2), .second, .val (.long (own_v0_3_0 q1)), .second, .val (.long (own_v0_9_1 q2)), .second, .val (.long (q0 + (own_v0_3_0 q1))), .second, .val (.long (q0 + (own_v0_9_1 q2))), .second, .val (.long (q0 + (own_v0_9_1 q2))), .second, .val (.long (own_v0_47_2 q0 q1 q2)), .second] [])) _
        refine XS.lload X9.here hx rfl (hb hby at_49) rfl ?_
        show Steps p.tables e below (T9.setTop (mkF m 51 #[.val (.long q0), .second, .val (.long q1), .second, .val (.long q2), .second, .val (.long (own_v0_3_0 q1)), .second, .val (.long (own_v0_9_1 q2)), .second, .val (.long (q0 + (own_v0_3_0 q1))), .second, .val (.long (q0 + (own_v0_9_1 q2))), .second, .val (.long (q0 + (own_v0_9_1 q2))), .second, .val (.long (own_v0_47_2 q0 q1 q2)), .second] [(.long (own_v0_47_2 q0 q1 q2))])) _
        refine XS.lload X9.here hx rfl (hb hby at_51) rfl ?_
        show Steps p.tables e below (T9.setTop (mkF m 53 #[.val (.long q0), .second, .val (.long q1), .second, .val (.long q2), .second, .val (.long (own_v0_3_0 q1)), .second, .val (.long (own_v0_9_1 q2)), .second, .val (.long (q0 + (own_v0_3_0 q1))), .second, .val (.long (q0 + (own_v0_9_1 q2))), .second, .val (.long (q0 + (own_v0_9_1 q2))), .second, .val (.long (own_v0_47_2 q0 q1 q2)), .second] [(.long (q0 + (own_v0_9_1 q2))), (.long (own_v0_47_2 q0 q1 q2))])) _
        refine XS.lcmp X9.here hx rfl (hb hby at_53) rfl ?_
        show Steps p.tables e below (T9.setTop (mkF m 54 #[.val (.long q0), .second, .val (.long q1), .second, .val (.long q2), .second, .val (.long (own_v0_3_0 q1)), .second, .val (.long (own_v0_9_1 q2)), .second, .val (.long (q0 + (own_v0_3_0 q1))), .second, .val (.long (q0 + (own_v0_9_1 q2))), .second, .val (.long (q0 + (own_v0_9_1 q2))), .second, .val (.long (own_v0_47_2 q0 q1 q2)), .second] [(.int (lcmpW (own_v0_47_2 q0 q1 q2) (q0 + (own_v0_9_1 q2))))])) _
        exact k)
    by_cases hc12 : (own_v0_47_2 q0 q1 q2) = (q0 + (own_v0_9_1 q2))
    · have pre13 : ∀ t, Steps p.tables e below (T9.setTop (mkF m 62 #[.val (.long q0), .second, .val (.long q1), .second, .val (.long q2), .second, .val (.long (own_v0_3_0 q1)), .second, .val (.long (own_v0_9_1 q2)), .second, .val (.long (q0 + (own_v0_3_0 q1))), .second, .val (.long (q0 + (own_v0_9_1 q2))), .second, .val (.long (q0 + (own_v0_9_1 q2))), .second, .val (.long (own_v0_47_2 q0 q1 q2)), .second] [(.int (1 : Int32))])) t → Steps p.tables e below (s₁.setTop (entryFrame m #[(.long q0), (.long q1), (.long q2)] maxLocals)) t := fun t k => pre11 t (by
          refine XS.ifNo X9.here hx rfl (hb hby at_54) rfl ((if0 _ _).trans (teq ((own_lw_eq _ _).mpr hc12)).2) ?_
          show Steps p.tables e below (T9.setTop (mkF m 57 #[.val (.long q0), .second, .val (.long q1), .second, .val (.long q2), .second, .val (.long (own_v0_3_0 q1)), .second, .val (.long (own_v0_9_1 q2)), .second, .val (.long (q0 + (own_v0_3_0 q1))), .second, .val (.long (q0 + (own_v0_9_1 q2))), .second, .val (.long (q0 + (own_v0_9_1 q2))), .second, .val (.long (own_v0_47_2 q0 q1 q2)), .second] [])) _
          refine XS.iconst X9.here hx rfl (hb hby at_57) ?_
          show Steps p.tables e below (T9.setTop (mkF m 58 #[.val (.long q0), .second, .val (.long q1), .second, .val (.long q2), .second, .val (.long (own_v0_3_0 q1)), .second, .val (.long (own_v0_9_1 q2)), .second, .val (.long (q0 + (own_v0_3_0 q1))), .second, .val (.long (q0 + (own_v0_9_1 q2))), .second, .val (.long (q0 + (own_v0_9_1 q2))), .second, .val (.long (own_v0_47_2 q0 q1 q2)), .second] [(.int (1 : Int32))])) _
          refine XS.goto X9.here hx rfl (pc0 := 58) (pc' := 62) rfl (hb hby at_58) (by decide) (by decide) ?_
          show Steps p.tables e below (T9.setTop (mkF m 62 #[.val (.long q0), .second, .val (.long q1), .second, .val (.long q2), .second, .val (.long (own_v0_3_0 q1)), .second, .val (.long (own_v0_9_1 q2)), .second, .val (.long (q0 + (own_v0_3_0 q1))), .second, .val (.long (q0 + (own_v0_9_1 q2))), .second, .val (.long (q0 + (own_v0_9_1 q2))), .second, .val (.long (own_v0_47_2 q0 q1 q2)), .second] [(.int (1 : Int32))])) _
          exact k)
      obtain ⟨fs, hr, hrun, hended, hW, hsame⟩ := X9.leave (v := some (.int (1 : Int32))) (fun h => by rw [Bd.returns] at h; cases h)
      refine ⟨_, _, pre13 _ ?_, hrun, hended, _, _, rfl, ?_, ⟨_, rfl⟩, hW, hsame.mono (by decide) (by decide)⟩
      · show Steps p.tables e below (T9.setTop (mkF m 62 #[.val (.long q0), .second, .val (.long q1), .second, .val (.long q2), .second, .val (.long (own_v0_3_0 q1)), .second, .val (.long (own_v0_9_1 q2)), .second, .val (.long (q0 + (own_v0_3_0 q1))), .second, .val (.long (q0 + (own_v0_9_1 q2))), .second, .val (.long (q0 + (own_v0_9_1 q2))), .second, .val (.long (own_v0_47_2 q0 q1 q2)), .second] [(.int (1 : Int32))])) _
        exact retN X9 hx (t := .boolean) Bd.returns (by simp) (hb hby at_62) hr
      · show own_Q0 Z q0 q1 q2 h0 n0 _ T9.heap _; exact ⟨(by show some (Value.int _) = some (.int (own_f0 q0 q1 q2)); unfold own_f0; rw [if_neg hc2, if_pos hc12]), N10⟩
    · have pre14 : ∀ t, Steps p.tables e below (T9.setTop (mkF m 62 #[.val (.long q0), .second, .val (.long q1), .second, .val (.long q2), .second, .val (.long (own_v0_3_0 q1)), .second, .val (.long (own_v0_9_1 q2)), .second, .val (.long (q0 + (own_v0_3_0 q1))), .second, .val (.long (q0 + (own_v0_9_1 q2))), .second, .val (.long (q0 + (own_v0_9_1 q2))), .second, .val (.long (own_v0_47_2 q0 q1 q2)), .second] [(.int (0 : Int32))])) t → Steps p.tables e below (s₁.setTop (entryFrame m #[(.long q0), (.long q1), (.long q2)] maxLocals)) t := fun t k => pre11 t (by
          refine XS.ifYes X9.here hx rfl (pc0 := 54) (pc' := 61) rfl (hb hby at_54) rfl ((if0 _ _).trans (feq (mt (own_lw_eq _ _).mp hc12)).2) (by decide) (by decide) ?_
          show Steps p.tables e below (T9.setTop (mkF m 61 #[.val (.long q0), .second, .val (.long q1), .second, .val (.long q2), .second, .val (.long (own_v0_3_0 q1)), .second, .val (.long (own_v0_9_1 q2)), .second, .val (.long (q0 + (own_v0_3_0 q1))), .second, .val (.long (q0 + (own_v0_9_1 q2))), .second, .val (.long (q0 + (own_v0_9_1 q2))), .second, .val (.long (own_v0_47_2 q0 q1 q2)), .second] [])) _
          refine XS.iconst X9.here hx rfl (hb hby at_61) ?_
          show Steps p.tables e below (T9.setTop (mkF m 62 #[.val (.long q0), .second, .val (.long q1), .second, .val (.long q2), .second, .val (.long (own_v0_3_0 q1)), .second, .val (.long (own_v0_9_1 q2)), .second, .val (.long (q0 + (own_v0_3_0 q1))), .second, .val (.long (q0 + (own_v0_9_1 q2))), .second, .val (.long (q0 + (own_v0_9_1 q2))), .second, .val (.long (own_v0_47_2 q0 q1 q2)), .second] [(.int (0 : Int32))])) _
          exact k)
      obtain ⟨fs, hr, hrun, hended, hW, hsame⟩ := X9.leave (v := some (.int (0 : Int32))) (fun h => by rw [Bd.returns] at h; cases h)
      refine ⟨_, _, pre14 _ ?_, hrun, hended, _, _, rfl, ?_, ⟨_, rfl⟩, hW, hsame.mono (by decide) (by decide)⟩
      · show Steps p.tables e below (T9.setTop (mkF m 62 #[.val (.long q0), .second, .val (.long q1), .second, .val (.long q2), .second, .val (.long (own_v0_3_0 q1)), .second, .val (.long (own_v0_9_1 q2)), .second, .val (.long (q0 + (own_v0_3_0 q1))), .second, .val (.long (q0 + (own_v0_9_1 q2))), .second, .val (.long (q0 + (own_v0_9_1 q2))), .second, .val (.long (own_v0_47_2 q0 q1 q2)), .second] [(.int (0 : Int32))])) _
        exact retN X9 hx (t := .boolean) Bd.returns (by simp) (hb hby at_62) hr
      · show own_Q0 Z q0 q1 q2 h0 n0 _ T9.heap _; exact ⟨(by show some (Value.int _) = some (.int (own_f0 q0 q1 q2)); unfold own_f0; rw [if_neg hc2, if_neg hc12]), N10⟩
theorem own_plain (q0 q1 q2 : Int64) : own_f0 q0 q1 q2 = 1 := by
  have e1 : (own_v0_3_0 q1).toInt = q1.toInt / (2 ^ 1 : Nat) := c_lshr q1 1 1 (by decide)
  have e2 : (own_v0_9_1 q2).toInt = q2.toInt / (2 ^ 1 : Nat) := c_lshr q2 1 1 (by decide)
  have r0 := rng64 q0
  have r1 := rng64 q1
  have r2 := rng64 q2
  unfold own_f0 own_v0_47_2 own_f1
  generalize own_v0_3_0 q1 = d1 at *
  generalize own_v0_9_1 q2 = d2 at *
  have a1 := c_ladd q0 d1
  have a2 := c_ladd q0 d2
  have a3 := c_lsub (q0 + d1) (q0 + d2)
  have b1 := rng64 (q0 + d1)
  have b2 := rng64 (q0 + d2)
  have b3 := rng64 (q0 + d1 - (q0 + d2))
  have key : (q0 + d1) - (q0 + d2) < (0 : Int64) ↔ d1 < d2 := by
    rw [Int64.lt_iff_toInt_lt, Int64.lt_iff_toInt_lt, Int64.toInt_zero]; omega
  by_cases h : d1 < d2
  · rw [if_pos h, if_pos (key.mpr h), if_pos rfl]
  · rw [if_neg h, if_neg (mt key.mp h), if_pos rfl]
set_option maxRecDepth 65536 in
set_option maxHeartbeats 40000000 in
theorem comes_1 {Post : Tables → Env → Array Value → State → Outcome → State → Prop} (hpost : ∀ tb e args s v u, (limb_1_1.after args s (.returned v) u = true ∧ limb_1_2.after args s (.returned v) u = true ∧ True) → FrameEnd s (.returned v) u (Jvm.fieldLocs frame_1_writes args s ++ Jvm.arrayLocs frame_1_arrays args s ++ Jvm.staticLocs frame_1_statics s) 0 0 → Post tb e args s (.returned v) u) :
    ArmFor flags0 classFile x code maxLocals ret World_1 tables_1 room_1 Calls_1 rest_1 Pre_1 Post := by
  intro l hfl _ _ p e ha hc hk s m args below hf hA hF happ hP
  obtain ⟨hcalls, hrest, hpre⟩ := hP
  obtain ⟨-, -, -, hnamed, -, -, -, hat⟩ := (Spec.applies_iff hf).mp happ
  obtain ⟨hg, hn⟩ := and_e (Cond.before_iff.mp (show (Jvm.Cond.and given_1 narrow_1).before args s = true from hpre))
  obtain ⟨gc, gr0⟩ := and_e hg
  obtain ⟨ga0, gr1⟩ := and_e gr0
  obtain ⟨ga1, gr2⟩ := and_e gr1
  have ga2 := gr2
  obtain ⟨w0, w1, w2, rfl⟩ : ∃ w0 w1 w2 : Value, args = #[w0, w1, w2] := by
    have hs : args.size = 3 := by simpa [Cond.value, given_1] using gc
    obtain ⟨L⟩ := args
    match L, hs with
    | [w0, w1, w2], _ => exact ⟨w0, w1, w2, rfl⟩
  have hw := fun d (hd : d ∈ tables_1) => atoms_spec (ws := Jvm.Cond.code x code maxLocals ret :: tables_1) hat d (List.mem_cons_of_mem _ hd)
  obtain ⟨i0, ei0⟩ := isL_v ga0
  obtain rfl : w0 = (.long i0) := Option.some.inj ei0
  obtain ⟨i1, ei1⟩ := isL_v ga1
  obtain rfl : w1 = (.long i1) := Option.some.inj ei1
  obtain ⟨i2, ei2⟩ := isL_v ga2
  obtain rfl : w2 = (.long i2) := Option.some.inj ei2
  obtain ⟨n, o, h1, h2, h3, _, L, rfl, ⟨hv, N⟩, hq⟩ := own_rm0 l s _ hw tables_1 i0 i1 i2 s.heap s.heap.size (Nat.le_refl _) p e ha hc hk s m _ below hf ((Spec.applies_iff_loose hf).mp happ).1 ⟨rfl, State.Warmed39.refl s, rfl⟩ trivial
  rw [show (own_f0 i0 i1 i2) = (1 : Int32) from own_plain i0 i1 i2] at hv
  subst hv
  refine ⟨n, _, h1, h2, h3, hpost _ _ _ _ _ _ ⟨Cond.after_iff.mpr rfl, Cond.after_iff.mpr (eq_i res_at (Term.int_eval (1)) rfl), trivial⟩ ⟨hq.1, hq.2.1, (hq.2.2.sift fun y hy => Or.inr (N y hy)).mono (by decide) (by decide)⟩⟩
theorem main_1_1 : Claimed_1_1 := comes_1 fun _ _ _ _ _ _ h hF => ⟨h.1, hF⟩
theorem main_1_2 : Claimed_1_2 := comes_1 fun _ _ _ _ _ _ h hF => ⟨h.2.1, hF⟩
end Jvm.Pilot.@@N@@
namespace Jvm.Pilot.@@N@@
open Jvm Jvm.ClassFile Sem Op Lib Jvm.Free Jvm.Stand Jvm.Pilot.@@N@@.Jvm.D
/-! MADE BY PROGRAM (witnessworld.py) out of the Statement's table words and the real class files: 7 classes; the members and pool entries that the words name. The judged class is class 1, her method 1. -/
namespace start1
open Jvm.ClassFile
def u (s : String) : CpInfo := .utf8 (stringToUtf16 s)
/-- a pool by its gaps: so many unusable entries, then the entry; so many at the end -/
def gap : Nat → List CpInfo → List CpInfo
  | 0, r => r
  | n + 1, r => .unusable :: gap n r
def poolList (es : List (Nat × CpInfo)) (last : Nat) : List CpInfo := es.foldr (fun e r => gap e.1 (e.2 :: r)) (gap last [])
def pool (es : List (Nat × CpInfo)) (last : Nat) : Array CpInfo := ⟨poolList es last⟩
def fileOf (pool : Array CpInfo) (this : Nat) (attrs : Array Attribute := #[]) (ms : Array MethodInfo := #[]) (fl : Nat := 33) (sup : Nat := 0) (ifs : Array Nat := #[]) (fds : Array FieldInfo := #[]) : ClassFile where
  minorVersion := 0
  majorVersion := 65
  constantPool := pool
  accessFlags := fl
  thisClass := this
  superClass := sup
  interfaces := ifs
  fields := fds
  methods := ms
  attributes := attrs
def plain (name : String) (sup : Option ClassId) : Class where
  name := name
  kind := .ordinary
  loader := none
  accessFlags := 33
  super := sup
  interfaces := #[]
  cf := none
  fields := #[]
  methods := #[]
  instanceTypes := #[]
  staticTypes := #[]
  resolved := #[]
  callSites := []
  init := .initialized
  statics := none
  mirror := none

def pool0 : Array CpInfo := pool [(5, u "<init>"), (0, u "()V"), (1, .class_ 10), (1, u "java/lang/Object")] 113

def k0m0 : Method := { name := "<init>", desc := "()V", sig := { parameters := [], returnType := none }, accessFlags := 1, code := none }
/-- java/lang/Object -/
def k0 : Class := { plain "java/lang/Object" none with
  accessFlags := 33
  interfaces := #[]
  cf := some (fileOf pool0 8 #[] #[{ accessFlags := 1, nameIndex := 5, descriptorIndex := 6, attributes := #[] }] 33 0 #[] #[])
  fields := #[]
  methods := #[k0m0]
  instanceTypes := #[]
  staticTypes := #[]
  resolved := Array.replicate 124 none
  statics := none }

def pool1 : Array CpInfo := pool [(2, .class_ 4), (1, u "java/lang/Object"), (0, u "<init>"), (0, u "()V"), (0, .methodref 8 9), (0, .class_ 10), (0, .nameAndType 11 12), (0, u "com/example/ufunguo/ufunguo/util/Deadlines"), (0, u "earlier"), (0, u "(JJ)J"), (0, .class_ 14), (0, u "com/example/ufunguo/ufunguo/util/DeadlinesEarlierPinLaw"), (2, u "law"), (0, u "(JJJ)Z")] 3

def k1m0 : Method := { name := "<init>", desc := "()V", sig := { parameters := [], returnType := none }, accessFlags := 1, code := none }
def k1c1 : Code := { maxStack := 4, maxLocals := 18, code := code, exceptionTable := #[], attributes := #[] }
def k1m1 : Method := { name := "law", desc := "(JJJ)Z", sig := { parameters := [.long, .long, .long], returnType := some .boolean }, accessFlags := 9, code := some k1c1 }
/-- com/example/ufunguo/ufunguo/util/DeadlinesEarlierPinLaw -/
def k1 : Class := { plain "com/example/ufunguo/ufunguo/util/DeadlinesEarlierPinLaw" (some 0) with
  accessFlags := 49
  interfaces := #[]
  cf := some (fileOf pool1 13 #[] #[{ accessFlags := 1, nameIndex := 5, descriptorIndex := 6, attributes := #[] }, { accessFlags := 9, nameIndex := 17, descriptorIndex := 18, attributes := #[] }] 49 2 #[] #[])
  fields := #[]
  methods := #[k1m0, k1m1]
  instanceTypes := #[]
  staticTypes := #[]
  resolved := Array.replicate 22 none
  statics := none }

def pool2 : Array CpInfo := pool [(4, .class_ 6), (1, u "java/lang/Object"), (0, u "<init>"), (0, u "()V"), (0, .class_ 10), (0, u "com/example/ufunguo/ufunguo/util/Deadlines"), (17, u "(JJ)J"), (27, u "FARTHEST_NANOS"), (0, u "J"), (4, u "earlier")] 9

def k2m0 : Method := { name := "<init>", desc := "()V", sig := { parameters := [], returnType := none }, accessFlags := 2, code := none }
def k2c1 : Code := { maxStack := 4, maxLocals := 4, code := prog_32_method_4_code, exceptionTable := #[], attributes := #[] }
def k2m1 : Method := { name := "earlier", desc := "(JJ)J", sig := { parameters := [.long, .long], returnType := some .long }, accessFlags := 9, code := some k2c1 }
/-- com/example/ufunguo/ufunguo/util/Deadlines -/
def k2 : Class := { plain "com/example/ufunguo/ufunguo/util/Deadlines" (some 0) with
  accessFlags := 49
  interfaces := #[]
  cf := some (fileOf pool2 9 #[] #[{ accessFlags := 2, nameIndex := 7, descriptorIndex := 8, attributes := #[] }, { accessFlags := 9, nameIndex := 62, descriptorIndex := 28, attributes := #[] }] 49 4 #[] #[{ accessFlags := 26, nameIndex := 56, descriptorIndex := 57, attributes := #[] }])
  fields := #[{ name := "FARTHEST_NANOS", type := .long, accessFlags := 26, slot := 0, constantValue := 0 }]
  methods := #[k2m0, k2m1]
  instanceTypes := #[]
  staticTypes := #[.long]
  resolved := Array.replicate 72 none
  statics := none }

def pool3 : Array CpInfo := pool [(1, u "java/lang/Cloneable"), (0, .class_ 1), (0, u "java/lang/Object"), (0, .class_ 3)] 3

/-- java/lang/Cloneable -/
def k3 : Class := { plain "java/lang/Cloneable" (some 0) with
  accessFlags := 1537
  interfaces := #[]
  cf := some (fileOf pool3 2 #[] #[] 1537 4 #[] #[])
  fields := #[]
  methods := #[]
  instanceTypes := #[]
  staticTypes := #[]
  resolved := Array.replicate 8 none
  statics := none }

def pool4 : Array CpInfo := pool [(1, u "java/io/Serializable"), (0, .class_ 1), (0, u "java/lang/Object"), (0, .class_ 3)] 3

/-- java/io/Serializable -/
def k4 : Class := { plain "java/io/Serializable" (some 0) with
  accessFlags := 1537
  interfaces := #[]
  cf := some (fileOf pool4 2 #[] #[] 1537 4 #[] #[])
  fields := #[]
  methods := #[]
  instanceTypes := #[]
  staticTypes := #[]
  resolved := Array.replicate 8 none
  statics := none }

/-- the primitive byte -/
def k5 : Class := { plain "byte" none with kind := .primitive 'B', accessFlags := 0x411 }
/-- [B -/
def k6 : Class := { plain "[B" (some 0) with kind := .array 5 .byte, interfaces := #[3, 4], accessFlags := 1041 }

def heap : Heap := #[]
def classes : Array Class := #[k0, k1, k2, k3, k4, k5, k6]
def interned : List (Array UInt16 × Addr) := []
def slotsUsed : Nat := 0
def theMethod : MethodId := ⟨1, 1⟩
def args0 : Array Value := #[.long 5, .long 300, .long 7]
def aboutOver (below : List Frame) : State where
  vm := { classes := classes, interned := interned.toArray }
  heap := heap
  slotsUsed := slotsUsed
  threads := #[{ frames := .invoking theMethod args0 :: below }]
def below0 : List Frame := [.native { method := ⟨0, 0⟩, args := #[] }]
def about1 : State := aboutOver below0
def p0 : Program := .bare "" "" ""
def e0 : Env := launch0.env 0 0 0
theorem w_frames : about1.frames = Frame.invoking theMethod args0 :: below0 := rfl
set_option maxRecDepth 65536 in
theorem w_args : argsFit about1.vm theMethod args0 = true := by decide +kernel
set_option maxRecDepth 65536 in
theorem w_heap : heapFits about1 = true := by decide +kernel
set_option maxRecDepth 65536 in
theorem w_runnable : about1.curStatus? = some .runnable := by decide +kernel
set_option maxRecDepth 65536 in
theorem w_alone : about1.alone = true := by decide +kernel
set_option maxRecDepth 65536 in
theorem w_named : about1.methodNamed? x = some theMethod := by decide +kernel
set_option maxRecDepth 65536 in
theorem w_hears : about1.hears theMethod below0 = true := by decide +kernel
set_option maxRecDepth 65536 in
theorem w_ripe : about1.ripe theMethod args0 below0 = true := by decide +kernel
theorem w_running : about1.status = .running := rfl
set_option maxRecDepth 65536 in
theorem w_room : about1.hasRoom e0.platform room_1 = true :=
  launch0.hasRoom_least _ room_1 (by decide +kernel) (by decide +kernel) (by decide +kernel) (by decide +kernel) (by decide +kernel) (by decide +kernel)
theorem allAtoms_all (ts : List Jvm.Cond) (a : Array Jvm.Value) (st : Jvm.State) : (allAtoms ts).before a st = ts.all (fun c => c.before a st) := by
  induction ts with
  | nil => rfl
  | cons c t ih =>
    show (Jvm.Cond.and c (allAtoms t)).before a st = _
    rw [Jvm.Cond.before_and, ih, List.all_cons]
def words1 : List Jvm.Cond := Jvm.Cond.code x code maxLocals ret :: tables_1
/-- a 'code' word, met by the world's own term for the bytes: nothing is compared byte by byte -/
theorem code_word {y : MethodName} {bytes : ByteArray} {mx : Nat} {rt : Option FieldType} {a : Array Value} {s : State} {m : MethodId} {meth : Method} {c : Code} (h1 : s.methodNamed? y = some m) (h2 : s.vm.method? m = some meth) (h3 : meth.code = some c) (h4 : c.code = bytes)
    (h5 : (c.maxLocals == mx && c.exceptionTable.isEmpty && decide (c.maxStack ≤ mostOperands) && decide (meth.sig.returnType = rt) && !meth.locks && decide (parseMethodDescriptor y.desc = some meth.sig)) = true) : (Jvm.Cond.code y bytes mx rt).before a s = true := by
  simp only [Bool.and_eq_true, beq_iff_eq, Bool.not_eq_true', decide_eq_true_eq] at h5
  obtain ⟨⟨⟨⟨⟨g1, g2⟩, g3⟩, g4⟩, g5⟩, g6⟩ := h5
  simp [Cond.before, Cond.holds, Cond.value, h1, h2, h3, h4, g1, g2, g3, g4, g5, g6]
def isCode : Jvm.Cond → Bool
  | .code _ _ _ _ => true
  | _ => false
theorem all_split {L : List Jvm.Cond} {P : Jvm.Cond → Bool} (h1 : L.all (fun c => isCode c || P c) = true) (h2 : ∀ c ∈ L.filter isCode, P c = true) : L.all P = true := by
  refine List.all_eq_true.mpr fun c hc => ?_
  have h := List.all_eq_true.mp h1 c hc
  rcases Bool.eq_false_or_eq_true (isCode c) with hi | hi
  · exact h2 c (List.mem_filter.mpr ⟨hc, hi⟩)
  · simpa [hi] using h
set_option maxRecDepth 65536 in
theorem w_c0 : (Jvm.Cond.code x code maxLocals ret).before args0 about1 = true := code_word (m := ⟨1, 1⟩) (meth := k1m1) (c := k1c1) (by decide +kernel) rfl rfl rfl (by decide +kernel)
set_option maxRecDepth 65536 in
theorem w_c1 : (Jvm.Cond.code ({ cls := "com/example/ufunguo/ufunguo/util/Deadlines", name := "earlier", desc := "(JJ)J" } : Jvm.MethodName) prog_32_method_4_code (4 : Nat) (Option.some Jvm.ClassFile.FieldType.long)).before args0 about1 = true := code_word (m := ⟨2, 1⟩) (meth := k2m1) (c := k2c1) (by decide +kernel) rfl rfl rfl (by decide +kernel)
def codes1 : List Jvm.Cond := [Jvm.Cond.code x code maxLocals ret, Jvm.Cond.code ({ cls := "com/example/ufunguo/ufunguo/util/Deadlines", name := "earlier", desc := "(JJ)J" } : Jvm.MethodName) prog_32_method_4_code (4 : Nat) (Option.some Jvm.ClassFile.FieldType.long)]
set_option maxRecDepth 65536 in
theorem codes_eq : words1.filter isCode = codes1 := rfl
theorem w_codes : ∀ c ∈ words1.filter isCode, c.before args0 about1 = true := by
  rw [codes_eq]
  intro c hc
  simp only [codes1, List.mem_cons, List.not_mem_nil, or_false] at hc
  rcases hc with rfl | rfl
  · exact w_c0
  · exact w_c1
set_option maxRecDepth 65536 in
theorem w_t1 : words1.all (fun c => isCode c || c.before args0 about1) = true := by decide +kernel
theorem w_tables : (allAtoms (Jvm.Cond.code x code maxLocals ret :: tables_1)).before args0 about1 = true := by
  rw [allAtoms_all]
  show words1.all (fun c => c.before args0 about1) = true
  refine all_split ?_ w_codes
  rw [w_t1]
set_option maxRecDepth 65536 in
theorem w_case : (Jvm.Cond.and given_1 narrow_1).before args0 about1 = true := by decide +kernel
theorem w_applies : (headSpec (Jvm.Cond.code x code maxLocals ret :: tables_1) room_1).applies x e0.platform about1 = true :=
  (Spec.applies_iff w_frames).mpr ⟨w_running, w_runnable, w_alone, w_named, w_hears, w_ripe, w_room, w_tables⟩
theorem atStart : AtStart classFile x code maxLocals ret World_1 tables_1 room_1 Calls_1 rest_1 Pre_1 launch0 p0 e0 about1 theMethod args0 below0 :=
  ⟨lists_1, trivial, launch0.admits_env _ _ _, launch0.least_env, fairChoices_fair.cas, fairChoices_fair.clock, w_frames, w_args, w_heap, w_applies, trivial, trivial, w_case⟩
end start1
theorem witness_1 : WitnessClaimed_1 := ⟨start1.p0, start1.e0, start1.about1, start1.theMethod, start1.args0, start1.below0, start1.atStart⟩
end Jvm.Pilot.@@N@@
