import JvmDerived
import JvmDerived.Pilot.@@N@@Statement
import JvmDerived.Pilot.@@N@@Code
set_option linter.unusedVariables false
set_option linter.unusedSimpArgs false
namespace Jvm.RoadKit
open Sem ClassFile Op Lib Jvm.Stand Jvm.Free Jvm.LawKit
section New
variable {p : Program} {l : Launch} {e : Env} {R : Room} {s : State} {m : MethodId} {args : Array Value} {below : List Frame} {meth : Method} {c : Code} {T : State} {locs : List Loc} {cells slots : Nat}
theorem retI (X : Stand p l e R s m args below meth c T locs cells slots) (hx : p.tables.exec = Jvm.exec) {pc : Nat} {Ls : Array Slot} {z : Int32} {rest : List Value} (hret : meth.sig.returnType = some .int) (hd : decode c.code pc = .ok (.ireturn, 1)) {fs : List Frame}
    (hl : ∀ (f : JFrame) (acts : List Action), f.method = m → f.locked = none → f.entered = [] → (doReturn e (T.setTop f) acts (some (.int z))).1 = T.setFrames fs) : Steps p.tables e below (T.setTop (mkF m pc Ls (.int z :: rest))) (T.setFrames fs) := by
  have hm' : T.vm.method? m = some meth := X.method'
  have hn : narrow .int (.int z) = .int z := rfl
  show Steps p.tables e below (T.setTop { method := m, pc := pc, locals := Ls, stack := _ :: rest, locked := none }) _
  jvm_step X.here [X.here.top, hx, hd, hm', hret, hn]
  first | (intro acts; rw [hl _ acts rfl rfl rfl]) | rw [hl _ _ rfl rfl rfl]
  exact Steps.refl _
end New
end Jvm.RoadKit
namespace Jvm.OwnKit
open Sem ClassFile Op Lib Jvm.Stand Jvm.Free Jvm.LawKit Jvm.RoadKit
def b2i (b : Bool) : Int32 := if b = true then 1 else 0
theorem b2i_eq {b : Bool} (h : ¬ b = true) : b2i b = 0 := if_neg h
theorem b2i_ne {b : Bool} (h : b = true) : ¬ b2i b = 0 := by rw [b2i, if_pos h]; decide
theorem nar_b2i (b : Bool) : nar .boolean (b2i b) = b2i b := by cases b <;> decide
theorem b2i_one {b : Bool} (h : b = true) : nar .boolean (b2i b) = 1 := by rw [h]; decide
end Jvm.OwnKit
namespace Jvm.Pilot.@@N@@
open Jvm Jvm.ClassFile Sem Op Lib Jvm.Free Jvm.Stand Jvm.LawKit Jvm.RoadKit Jvm.OwnKit Bundle Jvm.Pilot.@@N@@.Jvm.D
theorem d2_0 : decode jdk_29_method_70_code 0 = .ok (.lload_n 0, 1) := by decide +kernel
theorem d2_1 : decode jdk_29_method_70_code 1 = .ok (.lload_n 2, 1) := by decide +kernel
theorem d2_2 : decode jdk_29_method_70_code 2 = .ok (.lcmp, 1) := by decide +kernel
theorem d2_3 : decode jdk_29_method_70_code 3 = .ok (.ifCond .gt 7, 3) := by decide +kernel
theorem d2_6 : decode jdk_29_method_70_code 6 = .ok (.lload_n 0, 1) := by decide +kernel
theorem d2_7 : decode jdk_29_method_70_code 7 = .ok (.goto 4, 3) := by decide +kernel
theorem d2_10 : decode jdk_29_method_70_code 10 = .ok (.lload_n 2, 1) := by decide +kernel
theorem d2_11 : decode jdk_29_method_70_code 11 = .ok (.lreturn, 1) := by decide +kernel
theorem ef_2 (m : MethodId) (x0 : Int64) (x1 : Int64) : entryFrame m #[(.long x0), (.long x1)] 4 = mkF m 0 #[.val (.long x0), .second, .val (.long x1), .second] [] := by first | (simp [entryFrame, mkF, argsToLocals, Value.category]; done) | rfl
def F2 (q0 : Int64) (q1 : Int64) : Int64 := (if q1 < q0 then q1 else q0)
def Q2 (Z : State) (q0 : Int64) (q1 : Int64) (h0 : Heap) (n0 : Nat) (v : Option Value) (h : Heap) (L : List Loc) : Prop := v = some (.long (F2 q0 q1)) ∧ Fr n0 L ∧ h = h0
set_option maxRecDepth 65536 in
set_option maxHeartbeats 40000000 in
theorem rm2 (l : Launch) (Z : State) (a0 : Array Value) (hw : ∀ d ∈ tables_1, d.before a0 Z = true) (ws : List Jvm.Cond) (q0 : Int64) (q1 : Int64) (h0 : Heap) (n0 : Nat) (Z0 : n0 ≤ h0.size) :
    MetFree l (⟨"java/lang/Math", "min", "(JJ)J"⟩ : MethodName) (head1 (Jvm.Cond.code (⟨"java/lang/Math", "min", "(JJ)J"⟩ : MethodName) jdk_29_method_70_code 4 (some .long) :: ws) ({ frames := 0, cells := 0, slots := 0, locals := 0 } : Room)) (fun a U => a = #[(.long q0), (.long q1)] ∧ Z.Warmed39 U.vm ∧ U.heap = h0) (fun _ _ _ _ _ => True) (fun _ U o U' => ∃ v L, o = .returned v ∧ Q2 Z q0 q1 h0 n0 v U'.heap L ∧ FrameEnd U o U' L ({ frames := 0, cells := 0, slots := 0, locals := 0 } : Room).cells ({ frames := 0, cells := 0, slots := 0, locals := 0 } : Room).slots) := by
  refine MetFree.of_bodySF (Jvm.Free.JP.mathPlain rfl (by decide +kernel)) hisR ?_
  intro p e s m args below meth c s₁ Bd hml0 hP hK
  obtain ⟨rfl, hZ, hh⟩ := hP
  have hx := Bd.exec
  have hby := Bd.bytes
  have hml : c.maxLocals = 4 := hml0
  have hown : s.vm.findClass "java/lang/Math" = some m.cls := findClass_of_methodNamed Bd.named
  have hnm := (name_of_methodNamed Bd.named Bd.method).1
  have X0 : Stand p l e ({ frames := 0, cells := 0, slots := 0, locals := 0 } : Room) s m #[(.long q0), (.long q1)] below meth c s₁ [] 0 0 := Stand.of_body Bd
  have e0 : s₁.heap = h0 := by rw [← hh, Bd.state]; rfl
  have N0 := Fr.nil n0
  have pre0 : ∀ t, Steps p.tables e below (s₁.setTop (mkF m 0 #[.val (.long q0), .second, .val (.long q1), .second] [])) t → Steps p.tables e below (s₁.setTop (entryFrame m #[(.long q0), (.long q1)] 4)) t := fun t k => castTop (ef_2 m q0 q1) k
  have pre1 : ∀ t, Steps p.tables e below (s₁.setTop (mkF m 3 #[.val (.long q0), .second, .val (.long q1), .second] [(.int (lcmpW q0 q1))])) t → Steps p.tables e below (s₁.setTop (entryFrame m #[(.long q0), (.long q1)] 4)) t := by
    intro t k
    refine pre0 t ?_
    show Steps p.tables e below (s₁.setTop (mkF m 0 #[.val (.long q0), .second, .val (.long q1), .second] [])) _
    refine XS.lloadN X0.here hx rfl (hb hby d2_0) rfl ?_
    show Steps p.tables e below (s₁.setTop (mkF m 1 #[.val (.long q0), .second, .val (.long q1), .second] [(.long q0)])) _
    refine XS.lloadN X0.here hx rfl (hb hby d2_1) rfl ?_
    show Steps p.tables e below (s₁.setTop (mkF m 2 #[.val (.long q0), .second, .val (.long q1), .second] [(.long q1), (.long q0)])) _
    refine XS.lcmp X0.here hx rfl (hb hby d2_2) rfl ?_
    exact k
  have pre2 : ∀ t, Steps p.tables e below (s₁.setTop (mkF m 11 #[.val (.long q0), .second, .val (.long q1), .second] [(.long (if q1 < q0 then q1 else q0))])) t → Steps p.tables e below (s₁.setTop (entryFrame m #[(.long q0), (.long q1)] 4)) t := by
    intro t k
    refine pre1 t ?_
    have k : ∀ (v1 : Int64), v1 = (if q1 < q0 then q1 else q0) → Steps p.tables e below (s₁.setTop (mkF m 11 #[.val (.long q0), .second, .val (.long q1), .second] [(.long v1)])) t := fun v1 hv1 => by subst hv1; exact k
    show Steps p.tables e below (s₁.setTop (mkF m 3 #[.val (.long q0), .second, .val (.long q1), .second] [(.int (lcmpW q0 q1))])) _
    by_cases hc3 : q1 < q0
    · refine XS.ifYes X0.here hx rfl (pc0 := 3) (pc' := 10) rfl (hb hby d2_3) rfl ((if0 _ _).trans (tlt ((lw_gt _ _).mpr hc3)).2.2.1) (by decide) (by decide) ?_
      have k : ∀ (v1 : Int64), v1 = q1 → Steps p.tables e below (s₁.setTop (mkF m 11 #[.val (.long q0), .second, .val (.long q1), .second] [(.long v1)])) t := fun v1 hv1 => k v1 (hv1.trans (if_pos hc3).symm)
      show Steps p.tables e below (s₁.setTop (mkF m 10 #[.val (.long q0), .second, .val (.long q1), .second] [])) _
      refine XS.lloadN X0.here hx rfl (hb hby d2_10) rfl ?_
      exact k _ rfl
    · refine XS.ifNo X0.here hx rfl (hb hby d2_3) rfl ((if0 _ _).trans (flt (fun q => hc3 ((lw_gt _ _).mp q))).2.2.1) ?_
      have k : ∀ (v1 : Int64), v1 = q0 → Steps p.tables e below (s₁.setTop (mkF m 11 #[.val (.long q0), .second, .val (.long q1), .second] [(.long v1)])) t := fun v1 hv1 => k v1 (hv1.trans (if_neg hc3).symm)
      show Steps p.tables e below (s₁.setTop (mkF m 6 #[.val (.long q0), .second, .val (.long q1), .second] [])) _
      refine XS.lloadN X0.here hx rfl (hb hby d2_6) rfl ?_
      show Steps p.tables e below (s₁.setTop (mkF m 7 #[.val (.long q0), .second, .val (.long q1), .second] [(.long q0)])) _
      refine XS.goto X0.here hx rfl (pc0 := 7) (pc' := 11) rfl (hb hby d2_7) (by decide) (by decide) ?_
      exact k _ rfl
  obtain ⟨fs, hr, hrun, hended, hW, hsame⟩ := X0.leave (v := some (.long (F2 q0 q1))) (fun h => by rw [Bd.returns] at h; cases h)
  refine ⟨_, _, pre2 _ ?_, hrun, hended, _, _, rfl, ?_, ⟨_, rfl⟩, hW, hsame.mono (by decide) (by decide)⟩
  · show Steps p.tables e below (s₁.setTop (mkF m 11 #[.val (.long q0), .second, .val (.long q1), .second] [(.long (if q1 < q0 then q1 else q0))])) _
    exact X0.lreturnOut hx Bd.returns (hb hby d2_11) hr
  · show Q2 Z q0 q1 h0 n0 _ s₁.heap _
    rw [e0]
    exact ⟨rfl, N0, rfl⟩
theorem d3_0 : decode jdk_29_method_66_code 0 = .ok (.lload_n 0, 1) := by decide +kernel
theorem d3_1 : decode jdk_29_method_66_code 1 = .ok (.lload_n 2, 1) := by decide +kernel
theorem d3_2 : decode jdk_29_method_66_code 2 = .ok (.lcmp, 1) := by decide +kernel
theorem d3_3 : decode jdk_29_method_66_code 3 = .ok (.ifCond .lt 7, 3) := by decide +kernel
theorem d3_6 : decode jdk_29_method_66_code 6 = .ok (.lload_n 0, 1) := by decide +kernel
theorem d3_7 : decode jdk_29_method_66_code 7 = .ok (.goto 4, 3) := by decide +kernel
theorem d3_10 : decode jdk_29_method_66_code 10 = .ok (.lload_n 2, 1) := by decide +kernel
theorem d3_11 : decode jdk_29_method_66_code 11 = .ok (.lreturn, 1) := by decide +kernel
theorem ef_3 (m : MethodId) (x0 : Int64) (x1 : Int64) : entryFrame m #[(.long x0), (.long x1)] 4 = mkF m 0 #[.val (.long x0), .second, .val (.long x1), .second] [] := by first | (simp [entryFrame, mkF, argsToLocals, Value.category]; done) | rfl
def F3 (q0 : Int64) (q1 : Int64) : Int64 := (if q0 < q1 then q1 else q0)
def Q3 (Z : State) (q0 : Int64) (q1 : Int64) (h0 : Heap) (n0 : Nat) (v : Option Value) (h : Heap) (L : List Loc) : Prop := v = some (.long (F3 q0 q1)) ∧ Fr n0 L ∧ h = h0
set_option maxRecDepth 65536 in
set_option maxHeartbeats 40000000 in
theorem rm3 (l : Launch) (Z : State) (a0 : Array Value) (hw : ∀ d ∈ tables_1, d.before a0 Z = true) (ws : List Jvm.Cond) (q0 : Int64) (q1 : Int64) (h0 : Heap) (n0 : Nat) (Z0 : n0 ≤ h0.size) :
    MetFree l (⟨"java/lang/Math", "max", "(JJ)J"⟩ : MethodName) (head1 (Jvm.Cond.code (⟨"java/lang/Math", "max", "(JJ)J"⟩ : MethodName) jdk_29_method_66_code 4 (some .long) :: ws) ({ frames := 0, cells := 0, slots := 0, locals := 0 } : Room)) (fun a U => a = #[(.long q0), (.long q1)] ∧ Z.Warmed39 U.vm ∧ U.heap = h0) (fun _ _ _ _ _ => True) (fun _ U o U' => ∃ v L, o = .returned v ∧ Q3 Z q0 q1 h0 n0 v U'.heap L ∧ FrameEnd U o U' L ({ frames := 0, cells := 0, slots := 0, locals := 0 } : Room).cells ({ frames := 0, cells := 0, slots := 0, locals := 0 } : Room).slots) := by
  refine MetFree.of_bodySF (Jvm.Free.JP.mathPlain rfl (by decide +kernel)) hisR ?_
  intro p e s m args below meth c s₁ Bd hml0 hP hK
  obtain ⟨rfl, hZ, hh⟩ := hP
  have hx := Bd.exec
  have hby := Bd.bytes
  have hml : c.maxLocals = 4 := hml0
  have hown : s.vm.findClass "java/lang/Math" = some m.cls := findClass_of_methodNamed Bd.named
  have hnm := (name_of_methodNamed Bd.named Bd.method).1
  have X0 : Stand p l e ({ frames := 0, cells := 0, slots := 0, locals := 0 } : Room) s m #[(.long q0), (.long q1)] below meth c s₁ [] 0 0 := Stand.of_body Bd
  have e0 : s₁.heap = h0 := by rw [← hh, Bd.state]; rfl
  have N0 := Fr.nil n0
  have pre0 : ∀ t, Steps p.tables e below (s₁.setTop (mkF m 0 #[.val (.long q0), .second, .val (.long q1), .second] [])) t → Steps p.tables e below (s₁.setTop (entryFrame m #[(.long q0), (.long q1)] 4)) t := fun t k => castTop (ef_3 m q0 q1) k
  have pre1 : ∀ t, Steps p.tables e below (s₁.setTop (mkF m 3 #[.val (.long q0), .second, .val (.long q1), .second] [(.int (lcmpW q0 q1))])) t → Steps p.tables e below (s₁.setTop (entryFrame m #[(.long q0), (.long q1)] 4)) t := by
    intro t k
    refine pre0 t ?_
    show Steps p.tables e below (s₁.setTop (mkF m 0 #[.val (.long q0), .second, .val (.long q1), .second] [])) _
    refine XS.lloadN X0.here hx rfl (hb hby d3_0) rfl ?_
    show Steps p.tables e below (s₁.setTop (mkF m 1 #[.val (.long q0), .second, .val (.long q1), .second] [(.long q0)])) _
    refine XS.lloadN X0.here hx rfl (hb hby d3_1) rfl ?_
    show Steps p.tables e below (s₁.setTop (mkF m 2 #[.val (.long q0), .second, .val (.long q1), .second] [(.long q1), (.long q0)])) _
    refine XS.lcmp X0.here hx rfl (hb hby d3_2) rfl ?_
    exact k
  have pre2 : ∀ t, Steps p.tables e below (s₁.setTop (mkF m 11 #[.val (.long q0), .second, .val (.long q1), .second] [(.long (if q0 < q1 then q1 else q0))])) t → Steps p.tables e below (s₁.setTop (entryFrame m #[(.long q0), (.long q1)] 4)) t := by
    intro t k
    refine pre1 t ?_
    have k : ∀ (v1 : Int64), v1 = (if q0 < q1 then q1 else q0) → Steps p.tables e below (s₁.setTop (mkF m 11 #[.val (.long q0), .second, .val (.long q1), .second] [(.long v1)])) t := fun v1 hv1 => by subst hv1; exact k
    show Steps p.tables e below (s₁.setTop (mkF m 3 #[.val (.long q0), .second, .val (.long q1), .second] [(.int (lcmpW q0 q1))])) _
    by_cases hc3 : q0 < q1
    · refine XS.ifYes X0.here hx rfl (pc0 := 3) (pc' := 10) rfl (hb hby d3_3) rfl ((if0 _ _).trans (tlt ((lw_lt _ _).mpr hc3)).1) (by decide) (by decide) ?_
      have k : ∀ (v1 : Int64), v1 = q1 → Steps p.tables e below (s₁.setTop (mkF m 11 #[.val (.long q0), .second, .val (.long q1), .second] [(.long v1)])) t := fun v1 hv1 => k v1 (hv1.trans (if_pos hc3).symm)
      show Steps p.tables e below (s₁.setTop (mkF m 10 #[.val (.long q0), .second, .val (.long q1), .second] [])) _
      refine XS.lloadN X0.here hx rfl (hb hby d3_10) rfl ?_
      exact k _ rfl
    · refine XS.ifNo X0.here hx rfl (hb hby d3_3) rfl ((if0 _ _).trans (flt (fun q => hc3 ((lw_lt _ _).mp q))).1) ?_
      have k : ∀ (v1 : Int64), v1 = q0 → Steps p.tables e below (s₁.setTop (mkF m 11 #[.val (.long q0), .second, .val (.long q1), .second] [(.long v1)])) t := fun v1 hv1 => k v1 (hv1.trans (if_neg hc3).symm)
      show Steps p.tables e below (s₁.setTop (mkF m 6 #[.val (.long q0), .second, .val (.long q1), .second] [])) _
      refine XS.lloadN X0.here hx rfl (hb hby d3_6) rfl ?_
      show Steps p.tables e below (s₁.setTop (mkF m 7 #[.val (.long q0), .second, .val (.long q1), .second] [(.long q0)])) _
      refine XS.goto X0.here hx rfl (pc0 := 7) (pc' := 11) rfl (hb hby d3_7) (by decide) (by decide) ?_
      exact k _ rfl
  obtain ⟨fs, hr, hrun, hended, hW, hsame⟩ := X0.leave (v := some (.long (F3 q0 q1))) (fun h => by rw [Bd.returns] at h; cases h)
  refine ⟨_, _, pre2 _ ?_, hrun, hended, _, _, rfl, ?_, ⟨_, rfl⟩, hW, hsame.mono (by decide) (by decide)⟩
  · show Steps p.tables e below (s₁.setTop (mkF m 11 #[.val (.long q0), .second, .val (.long q1), .second] [(.long (if q0 < q1 then q1 else q0))])) _
    exact X0.lreturnOut hx Bd.returns (hb hby d3_11) hr
  · show Q3 Z q0 q1 h0 n0 _ s₁.heap _
    rw [e0]
    exact ⟨rfl, N0, rfl⟩
theorem d1_0 : decode prog_48_method_3_code 0 = .ok (.ldc2_w 9, 3) := by decide +kernel
theorem d1_3 : decode prog_48_method_3_code 3 = .ok (.lload_n 0, 1) := by decide +kernel
theorem d1_4 : decode prog_48_method_3_code 4 = .ok (.lload_n 2, 1) := by decide +kernel
theorem d1_5 : decode prog_48_method_3_code 5 = .ok (.ldc2_w 9, 3) := by decide +kernel
theorem d1_8 : decode prog_48_method_3_code 8 = .ok (.lmul, 1) := by decide +kernel
theorem d1_9 : decode prog_48_method_3_code 9 = .ok (.lsub, 1) := by decide +kernel
theorem d1_10 : decode prog_48_method_3_code 10 = .ok (.invokestatic 17, 3) := by decide +kernel
theorem d1_13 : decode prog_48_method_3_code 13 = .ok (.l2i, 1) := by decide +kernel
theorem d1_14 : decode prog_48_method_3_code 14 = .ok (.ireturn, 1) := by decide +kernel
theorem pn_1 : plainName "com/example/keelstore/keelstore/protocol/Chunks" = true := by first | (simp [plainName, overriddenIn]; done) | decide +kernel
theorem pd_1 : parseMethodDescriptor "(JJ)J" = some ⟨[.long, .long], some .long⟩ := by decide +kernel
theorem ef_1 (m : MethodId) (x0 : Int64) (x1 : Int64) : entryFrame m #[(.long x0), (.long x1)] 4 = mkF m 0 #[.val (.long x0), .second, .val (.long x1), .second] [] := by first | (simp [entryFrame, mkF, argsToLocals, Value.category]; done) | rfl
def F1 (q0 : Int64) (q1 : Int64) : Int32 := ((F2 (65536 : Int64) (q0 - (q1 * (65536 : Int64)))).toInt32)
def Q1 (Z : State) (q0 : Int64) (q1 : Int64) (h0 : Heap) (n0 : Nat) (v : Option Value) (h : Heap) (L : List Loc) : Prop := v = some (.int (F1 q0 q1)) ∧ Fr n0 L ∧ h = h0
set_option maxRecDepth 65536 in
set_option maxHeartbeats 40000000 in
theorem rm1 (l : Launch) (Z : State) (a0 : Array Value) (hw : ∀ d ∈ tables_1, d.before a0 Z = true) (ws : List Jvm.Cond) (q0 : Int64) (q1 : Int64) (h0 : Heap) (n0 : Nat) (Z0 : n0 ≤ h0.size) :
    MetFree l (⟨"com/example/keelstore/keelstore/protocol/Chunks", "length", "(JJ)I"⟩ : MethodName) (head1 (Jvm.Cond.code (⟨"com/example/keelstore/keelstore/protocol/Chunks", "length", "(JJ)I"⟩ : MethodName) prog_48_method_3_code 4 (some .int) :: ws) ({ frames := 1, cells := 0, slots := 0, locals := 15 } : Room)) (fun a U => a = #[(.long q0), (.long q1)] ∧ Z.Warmed39 U.vm ∧ U.heap = h0) (fun _ _ _ _ _ => True) (fun _ U o U' => ∃ v L, o = .returned v ∧ Q1 Z q0 q1 h0 n0 v U'.heap L ∧ FrameEnd U o U' L ({ frames := 1, cells := 0, slots := 0, locals := 15 } : Room).cells ({ frames := 1, cells := 0, slots := 0, locals := 15 } : Room).slots) := by
  refine MetFree.of_bodySF (plainFor_of_name pn_1) hisR ?_
  intro p e s m args below meth c s₁ Bd hml0 hP hK
  obtain ⟨rfl, hZ, hh⟩ := hP
  have hx := Bd.exec
  have hby := Bd.bytes
  have hml : c.maxLocals = 4 := hml0
  have hown : s.vm.findClass "com/example/keelstore/keelstore/protocol/Chunks" = some m.cls := findClass_of_methodNamed Bd.named
  have hnm := (name_of_methodNamed Bd.named Bd.method).1
  have X0 : Stand p l e ({ frames := 1, cells := 0, slots := 0, locals := 15 } : Room) s m #[(.long q0), (.long q1)] below meth c s₁ [] 0 0 := Stand.of_body Bd
  have e0 : s₁.heap = h0 := by rw [← hh, Bd.state]; rfl
  have N0 := Fr.nil n0
  have pre0 : ∀ t, Steps p.tables e below (s₁.setTop (mkF m 0 #[.val (.long q0), .second, .val (.long q1), .second] [])) t → Steps p.tables e below (s₁.setTop (entryFrame m #[(.long q0), (.long q1)] 4)) t := fun t k => castTop (ef_1 m q0 q1) k
  obtain ⟨_, _, ⟨T1, L1, k1, n1⟩, -, X1, ⟨Lc1, hQ1, l1, y1, z1⟩, st1⟩ := Jvm.LawKit.callS X0 hx (y := (⟨"java/lang/Math", "min", "(JJ)J"⟩ : MethodName)) hown (mvT hZ (hw _ (List.mem_of_getElem? (i := 7) rfl))) (mvT hZ (hw _ (List.mem_of_getElem? (i := 8) rfl))) (mvT hZ (hw _ (List.mem_of_getElem? (i := 9) rfl))) (mvT hZ (hw _ (List.mem_of_getElem? (i := 10) rfl))) (by decide) (backOf (W := 0) (rm2 l Z a0 hw [] (65536 : Int64) (q0 - (q1 * (65536 : Int64))) h0 n0 Z0) hZ (hw _ (List.mem_of_getElem? (i := 10) rfl)) (hw _ (List.mem_of_getElem? (i := 9) rfl)) (by decide) (by decide)) (g := (mkF m 10 #[.val (.long q0), .second, .val (.long q1), .second] [(.long (q0 - (q1 * (65536 : Int64)))), (.long (65536 : Int64))])) rfl (by rw [hml]; rfl) (argsL := [(.long (65536 : Int64)), (.long (q0 - (q1 * (65536 : Int64))))]) (rest := []) (lenOf pd_1 rfl) rfl (by show 2 * 0 + _ ≤ _; exact Nat.le_of_eq rfl) (hb hby d1_10) (fun _ _ => ⟨rfl, e0, (by decide : 0 + 0 ≤ _), (by decide : 0 + 0 ≤ _)⟩)
  dsimp only [Pt.U, Pt.locs, Pt.cells, Pt.slots] at X1 l1 y1 z1 st1 hQ1
  subst l1 y1 z1
  obtain ⟨rfl, N1q, e1⟩ := hQ1
  have N1 := Fr.app N0 N1q
  have pre2 : ∀ t, Steps p.tables e below (T1.setTop (mkF m 14 #[.val (.long q0), .second, .val (.long q1), .second] [(.int ((F2 (65536 : Int64) (q0 - (q1 * (65536 : Int64)))).toInt32))])) t → Steps p.tables e below (s₁.setTop (entryFrame m #[(.long q0), (.long q1)] 4)) t := by
    intro t k
    refine pre0 t ?_
    show Steps p.tables e below (s₁.setTop (mkF m 0 #[.val (.long q0), .second, .val (.long q1), .second] [])) _
    refine X0.ldc2Long hx hown (mvT hZ (hw _ (List.mem_of_getElem? (i := 6) rfl))) (g := (mkF m 0 #[.val (.long q0), .second, .val (.long q1), .second] [])) rfl (hb hby d1_0) _ ?_
    show Steps p.tables e below (s₁.setTop (mkF m 3 #[.val (.long q0), .second, .val (.long q1), .second] [(.long (65536 : Int64))])) _
    refine XS.lloadN X0.here hx rfl (hb hby d1_3) rfl ?_
    show Steps p.tables e below (s₁.setTop (mkF m 4 #[.val (.long q0), .second, .val (.long q1), .second] [(.long q0), (.long (65536 : Int64))])) _
    refine XS.lloadN X0.here hx rfl (hb hby d1_4) rfl ?_
    show Steps p.tables e below (s₁.setTop (mkF m 5 #[.val (.long q0), .second, .val (.long q1), .second] [(.long q1), (.long q0), (.long (65536 : Int64))])) _
    refine X0.ldc2Long hx hown (mvT hZ (hw _ (List.mem_of_getElem? (i := 6) rfl))) (g := (mkF m 5 #[.val (.long q0), .second, .val (.long q1), .second] [(.long q1), (.long q0), (.long (65536 : Int64))])) rfl (hb hby d1_5) _ ?_
    show Steps p.tables e below (s₁.setTop (mkF m 8 #[.val (.long q0), .second, .val (.long q1), .second] [(.long (65536 : Int64)), (.long q1), (.long q0), (.long (65536 : Int64))])) _
    refine XS.lmul X0.here hx rfl (hb hby d1_8) rfl ?_
    show Steps p.tables e below (s₁.setTop (mkF m 9 #[.val (.long q0), .second, .val (.long q1), .second] [(.long (q1 * (65536 : Int64))), (.long q0), (.long (65536 : Int64))])) _
    refine XS.lsub X0.here hx rfl (hb hby d1_9) rfl ?_
    show Steps p.tables e below (s₁.setTop (mkF m 10 #[.val (.long q0), .second, .val (.long q1), .second] [(.long (q0 - (q1 * (65536 : Int64)))), (.long (65536 : Int64))])) _
    refine st1 _ ?_
    show Steps p.tables e below (T1.setTop (mkF m 13 #[.val (.long q0), .second, .val (.long q1), .second] [(.long (F2 (65536 : Int64) (q0 - (q1 * (65536 : Int64)))))])) _
    refine XS.l2i X1.here hx rfl (hb hby d1_13) rfl ?_
    exact k
  obtain ⟨fs, hr, hrun, hended, hW, hsame⟩ := X1.leave (v := some (.int (F1 q0 q1))) (fun h => by rw [Bd.returns] at h; cases h)
  refine ⟨_, _, pre2 _ ?_, hrun, hended, _, _, rfl, ?_, ⟨_, rfl⟩, hW, hsame.mono (by decide) (by decide)⟩
  · show Steps p.tables e below (T1.setTop (mkF m 14 #[.val (.long q0), .second, .val (.long q1), .second] [(.int ((F2 (65536 : Int64) (q0 - (q1 * (65536 : Int64)))).toInt32))])) _
    exact retI X1 hx Bd.returns (hb hby d1_14) hr
  · show Q1 Z q0 q1 h0 n0 _ T1.heap _
    rw [e1]
    exact ⟨rfl, N1, rfl⟩
theorem pn_0 : plainName "com/example/keelstore/keelstore/protocol/ChunksLengthPinLaw" = true := by first | (simp [plainName, overriddenIn]; done) | decide +kernel
theorem pd_0 : parseMethodDescriptor "(JJ)I" = some ⟨[.long, .long], some .int⟩ := by decide +kernel
theorem ef_0 (m : MethodId) (x0 : Int64) (x1 : Int64) (x2 : Int32) : entryFrame m #[(.long x0), (.long x1), (.int x2)] maxLocals = mkF m 0 #[.val (.long x0), .second, .val (.long x1), .second, .val (.int x2), .unset, .unset, .unset, .unset, .unset, .unset, .unset, .unset, .unset, .unset, .unset, .unset] [] := by first | (simp [entryFrame, mkF, argsToLocals, Value.category, maxLocals]; done) | rfl
def v_fs (q0 : Int64) : Int64 := (q0 &&& (9223372036854775807 : Int64))
def v_q (q0 : Int64) : Int64 := ((v_fs q0) / (65536 : Int64))
def v_r (q0 : Int64) : Int64 := ((v_fs q0) - ((v_fs q0) / (65536 : Int64)) * (65536 : Int64))
def v_c0 (q0 : Int64) : Int64 := ((v_q q0) + (if (v_r q0) = (0 : Int64) then (0 : Int64) else (1 : Int64)))
def v_cnt (q0 : Int64) : Int64 := (if (v_c0 q0) < (1 : Int64) then (1 : Int64) else (v_c0 q0))
def v_i1 (q0 : Int64) : Int64 := ((v_cnt q0) - (1 : Int64))
def v_ex (q0 : Int64) : Int32 := (if (v_i1 q0) < (v_q q0) then (65536 : Int32) else ((v_r q0).toInt32))
def lawE1 (q0 : Int64) : Bool := (if (F1 (v_fs q0) (v_i1 q0)) = (v_ex q0) then true else false)
def v_i2 (q0 : Int64) : Int64 := (F3 (0 : Int64) ((v_cnt q0) - (2 : Int64)))
def v_ex_1 (q0 : Int64) : Int32 := (if (v_i2 q0) < (v_q q0) then (65536 : Int32) else ((v_r q0).toInt32))
def lawE2 (q0 : Int64) : Bool := (if (F1 (v_fs q0) (v_i2 q0)) = (v_ex_1 q0) then true else false)
def v_i3 (q0 : Int64) (q1 : Int64) : Int64 := ((q1 &&& (9223372036854775807 : Int64)) - ((q1 &&& (9223372036854775807 : Int64)) / (v_cnt q0)) * (v_cnt q0))
def v_ex_2 (q0 : Int64) (q1 : Int64) : Int32 := (if (v_i3 q0 q1) < (v_q q0) then (65536 : Int32) else ((v_r q0).toInt32))
def lawE3 (q0 : Int64) (q1 : Int64) : Bool := (if (F1 (v_fs q0) (v_i3 q0 q1)) = (v_ex_2 q0 q1) then true else false)
theorem own_max (a b : Int64) : (a.toInt < b.toInt → (F3 a b).toInt = b.toInt) ∧ (¬ a.toInt < b.toInt → (F3 a b).toInt = a.toInt) := by
  unfold F3
  simp only [Int64.lt_iff_toInt_lt]
  split <;> omega
theorem own_min (a b : Int64) : (b.toInt < a.toInt → (F2 a b).toInt = b.toInt) ∧ (¬ b.toInt < a.toInt → (F2 a b).toInt = a.toInt) := by
  unfold F2
  simp only [Int64.lt_iff_toInt_lt]
  split <;> omega
theorem own_facts (q0 : Int64) : 0 ≤ (v_fs q0).toInt ∧ (v_q q0).toInt = (v_fs q0).toInt / 65536 ∧ (v_r q0).toInt = (v_fs q0).toInt % 65536 := by
  have h := c_maskL q0 9223372036854775807 63 (by decide) (by decide)
  have h0 : 0 ≤ (v_fs q0).toInt := by show 0 ≤ (q0 &&& 9223372036854775807).toInt; omega
  exact ⟨h0, (c_ldiv (v_fs q0) 65536 65536 (by decide) (by decide)).1 h0, (c_lrem (v_fs q0) 65536 65536 (by decide)).1 h0⟩
theorem own_cv (q0 : Int64) : ((v_fs q0).toInt = 0 → (v_cnt q0).toInt = 1) ∧ (0 < (v_fs q0).toInt → (v_cnt q0).toInt = ((v_fs q0).toInt + 65535) / 65536) := by
  obtain ⟨h0, h1, h2⟩ := own_facts q0
  have l0 : (0 : Int64).toInt = 0 := by decide
  have l1 : (1 : Int64).toInt = 1 := by decide
  have r := rng64 (v_fs q0)
  have c0 : (v_c0 q0).toInt = ((v_fs q0).toInt + 65535) / 65536 := by
    unfold v_c0
    by_cases q : v_r q0 = 0
    · rw [if_pos q]
      have a := c_ladd (v_q q0) 0
      have b := rng64 (v_q q0 + 0)
      rw [q, l0] at h2
      omega
    · rw [if_neg q]
      have a := c_ladd (v_q q0) 1
      have b := rng64 (v_q q0 + 1)
      have c : (v_r q0).toInt ≠ 0 := fun w => q (by rw [← Int64.toInt_inj, w, l0])
      omega
  unfold v_cnt
  simp only [Int64.lt_iff_toInt_lt]
  split <;> omega
theorem own_cnt (q0 : Int64) : ¬ (v_cnt q0 = 0) := by
  obtain ⟨a, b⟩ := own_cv q0
  have h0 := (own_facts q0).1
  have l0 : (0 : Int64).toInt = 0 := by decide
  rw [← Int64.toInt_inj, l0]
  omega
theorem own_gen (q0 i : Int64) (h0 : 0 ≤ i.toInt) (h1 : i.toInt < (v_cnt q0).toInt) : (if (F1 (v_fs q0) i) = (if i < (v_q q0) then (65536 : Int32) else ((v_r q0).toInt32)) then true else false) = true := by
  obtain ⟨f0, f1, f2⟩ := own_facts q0
  obtain ⟨c0, c1⟩ := own_cv q0
  have l1 : (65536 : Int64).toInt = 65536 := by decide
  have l2 : (65536 : Int32).toInt = 65536 := by decide
  have r := rng64 (v_fs q0)
  have a1 := c_lmul i 65536
  have a2 := rng64 (i * 65536)
  have a3 := c_lsub (v_fs q0) (i * 65536)
  have a4 := rng64 (v_fs q0 - i * 65536)
  have a5 := own_min 65536 (v_fs q0 - i * 65536)
  have a6 := c_l2i (F2 65536 (v_fs q0 - i * 65536))
  have a7 := rng32 (F2 65536 (v_fs q0 - i * 65536)).toInt32
  have a8 := c_l2i (v_r q0)
  have a9 := rng32 (v_r q0).toInt32
  refine if_pos ?_
  show (F2 65536 (v_fs q0 - i * 65536)).toInt32 = _
  rw [l1] at a1
  simp only [← Int32.toInt_inj, Int64.lt_iff_toInt_lt]
  split <;> omega
theorem own_law1 (q0 : Int64) (p2 : Int32) (hc8 : (p2 &&& (3 : Int32)) = (1 : Int32)) : lawE1 q0 = true := by
  obtain ⟨f0, f1, f2⟩ := own_facts q0
  obtain ⟨c0, c1⟩ := own_cv q0
  have l1 : (1 : Int64).toInt = 1 := by decide
  have a1 := c_lsub (v_cnt q0) 1
  have a2 := rng64 (v_cnt q0 - 1)
  have r := rng64 (v_cnt q0)
  exact own_gen q0 (v_i1 q0) (by show 0 ≤ (v_cnt q0 - 1).toInt; omega) (by show (v_cnt q0 - 1).toInt < _; omega)
theorem own_law2 (q0 : Int64) (p2 : Int32) (hc8 : ¬ ((p2 &&& (3 : Int32)) = (1 : Int32))) (hc17 : (p2 &&& (3 : Int32)) = (2 : Int32)) : lawE2 q0 = true := by
  obtain ⟨f0, f1, f2⟩ := own_facts q0
  obtain ⟨c0, c1⟩ := own_cv q0
  have l0 : (0 : Int64).toInt = 0 := by decide
  have l1 : (2 : Int64).toInt = 2 := by decide
  have a1 := c_lsub (v_cnt q0) 2
  have a2 := rng64 (v_cnt q0 - 2)
  have r := rng64 (v_cnt q0)
  have a3 := own_max 0 (v_cnt q0 - 2)
  exact own_gen q0 (v_i2 q0) (by show 0 ≤ (F3 0 (v_cnt q0 - 2)).toInt; omega) (by show (F3 0 (v_cnt q0 - 2)).toInt < _; omega)
theorem own_law3 (q0 : Int64) (q1 : Int64) (p2 : Int32) (hc8 : ¬ ((p2 &&& (3 : Int32)) = (1 : Int32))) (hc17 : ¬ ((p2 &&& (3 : Int32)) = (2 : Int32))) : lawE3 q0 q1 = true := by
  obtain ⟨f0, f1, f2⟩ := own_facts q0
  obtain ⟨c0, c1⟩ := own_cv q0
  have h := c_maskL q1 9223372036854775807 63 (by decide) (by decide)
  have hx : 0 ≤ (q1 &&& 9223372036854775807).toInt := by omega
  have hc : 0 < (v_cnt q0).toInt := by omega
  have e := (c_lrem (q1 &&& 9223372036854775807) (v_cnt q0) _ rfl).1 hx
  have e0 := Int.emod_nonneg (q1 &&& 9223372036854775807).toInt (Int.ne_of_gt hc)
  have e1 := Int.emod_lt_of_pos (q1 &&& 9223372036854775807).toInt hc
  rw [← e] at e0 e1
  exact own_gen q0 (v_i3 q0 q1) e0 e1
def Q0 (Z : State) (q0 : Int64) (q1 : Int64) (p2 : Int32) (h0 : Heap) (n0 : Nat) (v : Option Value) (h : Heap) (L : List Loc) : Prop := v = some (.int (1 : Int32)) ∧ Fr n0 L
set_option maxRecDepth 65536 in
set_option maxHeartbeats 40000000 in
theorem rm0 (l : Launch) (Z : State) (a0 : Array Value) (hw : ∀ d ∈ tables_1, d.before a0 Z = true) (ws : List Jvm.Cond) (q0 : Int64) (q1 : Int64) (p2 : Int32) (h0 : Heap) (n0 : Nat) (Z0 : n0 ≤ h0.size) :
    MetFree l x (head1 (Jvm.Cond.code x code maxLocals ret :: ws) room_1) (fun a U => a = #[(.long q0), (.long q1), (.int p2)] ∧ Z.Warmed39 U.vm ∧ U.heap = h0) (fun _ _ _ _ _ => True) (fun _ U o U' => ∃ v L, o = .returned v ∧ Q0 Z q0 q1 p2 h0 n0 v U'.heap L ∧ FrameEnd U o U' L room_1.cells room_1.slots) := by
  refine MetFree.of_bodySF (plainFor_of_name pn_0) hisR ?_
  intro p e s m args below meth c s₁ Bd hml0 hP hK
  obtain ⟨rfl, hZ, hh⟩ := hP
  have hx := Bd.exec
  have hby := Bd.bytes
  have hml : c.maxLocals = 17 := hml0
  have hown : s.vm.findClass "com/example/keelstore/keelstore/protocol/ChunksLengthPinLaw" = some m.cls := findClass_of_methodNamed Bd.named
  have hnm := (name_of_methodNamed Bd.named Bd.method).1
  have X0 : Stand p l e room_1 s m #[(.long q0), (.long q1), (.int p2)] below meth c s₁ [] 0 0 := Stand.of_body Bd
  have e0 : s₁.heap = h0 := by rw [← hh, Bd.state]; rfl
  have N0 := Fr.nil n0
  have pre0 : ∀ t, Steps p.tables e below (s₁.setTop (mkF m 0 #[.val (.long q0), .second, .val (.long q1), .second, .val (.int p2), .unset, .unset, .unset, .unset, .unset, .unset, .unset, .unset, .unset, .unset, .unset, .unset] [])) t → Steps p.tables e below (s₁.setTop (entryFrame m #[(.long q0), (.long q1), (.int p2)] maxLocals)) t := fun t k => castTop (ef_0 m q0 q1 p2) k
  have pre1 : ∀ t, Steps p.tables e below (s₁.setTop (mkF m 29 #[.val (.long q0), .second, .val (.long q1), .second, .val (.int p2), .val (.long (v_fs q0)), .second, .val (.long (v_q q0)), .second, .val (.long (v_r q0)), .second, .unset, .unset, .unset, .unset, .unset, .unset] [(.int (lcmpW (v_r q0) (0 : Int64))), (.long (v_q q0))])) t → Steps p.tables e below (s₁.setTop (entryFrame m #[(.long q0), (.long q1), (.int p2)] maxLocals)) t := by
    intro t k
    refine pre0 t ?_
    show Steps p.tables e below (s₁.setTop (mkF m 0 #[.val (.long q0), .second, .val (.long q1), .second, .val (.int p2), .unset, .unset, .unset, .unset, .unset, .unset, .unset, .unset, .unset, .unset, .unset, .unset] [])) _
    refine XS.lloadN X0.here hx rfl (hb hby at_0) rfl ?_
    show Steps p.tables e below (s₁.setTop (mkF m 1 #[.val (.long q0), .second, .val (.long q1), .second, .val (.int p2), .unset, .unset, .unset, .unset, .unset, .unset, .unset, .unset, .unset, .unset, .unset, .unset] [(.long q0)])) _
    refine X0.ldc2Long hx hown (mvT hZ (hw _ (List.mem_of_getElem? (i := 0) rfl))) (g := (mkF m 1 #[.val (.long q0), .second, .val (.long q1), .second, .val (.int p2), .unset, .unset, .unset, .unset, .unset, .unset, .unset, .unset, .unset, .unset, .unset, .unset] [(.long q0)])) rfl (hb hby at_1) _ ?_
    show Steps p.tables e below (s₁.setTop (mkF m 4 #[.val (.long q0), .second, .val (.long q1), .second, .val (.int p2), .unset, .unset, .unset, .unset, .unset, .unset, .unset, .unset, .unset, .unset, .unset, .unset] [(.long (9223372036854775807 : Int64)), (.long q0)])) _
    refine XS.land X0.here hx rfl (hb hby at_4) rfl ?_
    show Steps p.tables e below (s₁.setTop (mkF m 5 #[.val (.long q0), .second, .val (.long q1), .second, .val (.int p2), .unset, .unset, .unset, .unset, .unset, .unset, .unset, .unset, .unset, .unset, .unset, .unset] [(.long (q0 &&& (9223372036854775807 : Int64)))])) _
    refine XS.lstore X0.here hx rfl (hb hby at_5) rfl (l' := #[.val (.long q0), .second, .val (.long q1), .second, .val (.int p2), .val (.long (v_fs q0)), .second, .unset, .unset, .unset, .unset, .unset, .unset, .unset, .unset, .unset, .unset]) rfl ?_
    show Steps p.tables e below (s₁.setTop (mkF m 7 #[.val (.long q0), .second, .val (.long q1), .second, .val (.int p2), .val (.long (v_fs q0)), .second, .unset, .unset, .unset, .unset, .unset, .unset, .unset, .unset, .unset, .unset] [])) _
    refine XS.lload X0.here hx rfl (hb hby at_7) rfl ?_
    show Steps p.tables e below (s₁.setTop (mkF m 9 #[.val (.long q0), .second, .val (.long q1), .second, .val (.int p2), .val (.long (v_fs q0)), .second, .unset, .unset, .unset, .unset, .unset, .unset, .unset, .unset, .unset, .unset] [(.long (v_fs q0))])) _
    refine X0.ldc2Long hx hown (mvT hZ (hw _ (List.mem_of_getElem? (i := 1) rfl))) (g := (mkF m 9 #[.val (.long q0), .second, .val (.long q1), .second, .val (.int p2), .val (.long (v_fs q0)), .second, .unset, .unset, .unset, .unset, .unset, .unset, .unset, .unset, .unset, .unset] [(.long (v_fs q0))])) rfl (hb hby at_9) _ ?_
    show Steps p.tables e below (s₁.setTop (mkF m 12 #[.val (.long q0), .second, .val (.long q1), .second, .val (.int p2), .val (.long (v_fs q0)), .second, .unset, .unset, .unset, .unset, .unset, .unset, .unset, .unset, .unset, .unset] [(.long (65536 : Int64)), (.long (v_fs q0))])) _
    refine XS.ldiv X0.here hx rfl (hb hby at_12) rfl (by decide) ?_
    show Steps p.tables e below (s₁.setTop (mkF m 13 #[.val (.long q0), .second, .val (.long q1), .second, .val (.int p2), .val (.long (v_fs q0)), .second, .unset, .unset, .unset, .unset, .unset, .unset, .unset, .unset, .unset, .unset] [(.long ((v_fs q0) / (65536 : Int64)))])) _
    refine XS.lstore X0.here hx rfl (hb hby at_13) rfl (l' := #[.val (.long q0), .second, .val (.long q1), .second, .val (.int p2), .val (.long (v_fs q0)), .second, .val (.long (v_q q0)), .second, .unset, .unset, .unset, .unset, .unset, .unset, .unset, .unset]) rfl ?_
    show Steps p.tables e below (s₁.setTop (mkF m 15 #[.val (.long q0), .second, .val (.long q1), .second, .val (.int p2), .val (.long (v_fs q0)), .second, .val (.long (v_q q0)), .second, .unset, .unset, .unset, .unset, .unset, .unset, .unset, .unset] [])) _
    refine XS.lload X0.here hx rfl (hb hby at_15) rfl ?_
    show Steps p.tables e below (s₁.setTop (mkF m 17 #[.val (.long q0), .second, .val (.long q1), .second, .val (.int p2), .val (.long (v_fs q0)), .second, .val (.long (v_q q0)), .second, .unset, .unset, .unset, .unset, .unset, .unset, .unset, .unset] [(.long (v_fs q0))])) _
    refine X0.ldc2Long hx hown (mvT hZ (hw _ (List.mem_of_getElem? (i := 1) rfl))) (g := (mkF m 17 #[.val (.long q0), .second, .val (.long q1), .second, .val (.int p2), .val (.long (v_fs q0)), .second, .val (.long (v_q q0)), .second, .unset, .unset, .unset, .unset, .unset, .unset, .unset, .unset] [(.long (v_fs q0))])) rfl (hb hby at_17) _ ?_
    show Steps p.tables e below (s₁.setTop (mkF m 20 #[.val (.long q0), .second, .val (.long q1), .second, .val (.int p2), .val (.long (v_fs q0)), .second, .val (.long (v_q q0)), .second, .unset, .unset, .unset, .unset, .unset, .unset, .unset, .unset] [(.long (65536 : Int64)), (.long (v_fs q0))])) _
    refine XS.lrem X0.here hx rfl (hb hby at_20) rfl (by decide) ?_
    show Steps p.tables e below (s₁.setTop (mkF m 21 #[.val (.long q0), .second, .val (.long q1), .second, .val (.int p2), .val (.long (v_fs q0)), .second, .val (.long (v_q q0)), .second, .unset, .unset, .unset, .unset, .unset, .unset, .unset, .unset] [(.long ((v_fs q0) - ((v_fs q0) / (65536 : Int64)) * (65536 : Int64)))])) _
    refine XS.lstore X0.here hx rfl (hb hby at_21) rfl (l' := #[.val (.long q0), .second, .val (.long q1), .second, .val (.int p2), .val (.long (v_fs q0)), .second, .val (.long (v_q q0)), .second, .val (.long (v_r q0)), .second, .unset, .unset, .unset, .unset, .unset, .unset]) rfl ?_
    show Steps p.tables e below (s₁.setTop (mkF m 23 #[.val (.long q0), .second, .val (.long q1), .second, .val (.int p2), .val (.long (v_fs q0)), .second, .val (.long (v_q q0)), .second, .val (.long (v_r q0)), .second, .unset, .unset, .unset, .unset, .unset, .unset] [])) _
    refine XS.lload X0.here hx rfl (hb hby at_23) rfl ?_
    show Steps p.tables e below (s₁.setTop (mkF m 25 #[.val (.long q0), .second, .val (.long q1), .second, .val (.int p2), .val (.long (v_fs q0)), .second, .val (.long (v_q q0)), .second, .val (.long (v_r q0)), .second, .unset, .unset, .unset, .unset, .unset, .unset] [(.long (v_q q0))])) _
    refine XS.lload X0.here hx rfl (hb hby at_25) rfl ?_
    show Steps p.tables e below (s₁.setTop (mkF m 27 #[.val (.long q0), .second, .val (.long q1), .second, .val (.int p2), .val (.long (v_fs q0)), .second, .val (.long (v_q q0)), .second, .val (.long (v_r q0)), .second, .unset, .unset, .unset, .unset, .unset, .unset] [(.long (v_r q0)), (.long (v_q q0))])) _
    refine XS.lconst X0.here hx rfl (hb hby at_27) ?_
    show Steps p.tables e below (s₁.setTop (mkF m 28 #[.val (.long q0), .second, .val (.long q1), .second, .val (.int p2), .val (.long (v_fs q0)), .second, .val (.long (v_q q0)), .second, .val (.long (v_r q0)), .second, .unset, .unset, .unset, .unset, .unset, .unset] [(.long (0 : Int64)), (.long (v_r q0)), (.long (v_q q0))])) _
    refine XS.lcmp X0.here hx rfl (hb hby at_28) rfl ?_
    exact k
  have pre2 : ∀ t, Steps p.tables e below (s₁.setTop (mkF m 37 #[.val (.long q0), .second, .val (.long q1), .second, .val (.int p2), .val (.long (v_fs q0)), .second, .val (.long (v_q q0)), .second, .val (.long (v_r q0)), .second, .unset, .unset, .unset, .unset, .unset, .unset] [(.long (if (v_r q0) = (0 : Int64) then (0 : Int64) else (1 : Int64))), (.long (v_q q0))])) t → Steps p.tables e below (s₁.setTop (entryFrame m #[(.long q0), (.long q1), (.int p2)] maxLocals)) t := by
    intro t k
    refine pre1 t ?_
    have k : ∀ (v1 : Int64), v1 = (if (v_r q0) = (0 : Int64) then (0 : Int64) else (1 : Int64)) → Steps p.tables e below (s₁.setTop (mkF m 37 #[.val (.long q0), .second, .val (.long q1), .second, .val (.int p2), .val (.long (v_fs q0)), .second, .val (.long (v_q q0)), .second, .val (.long (v_r q0)), .second, .unset, .unset, .unset, .unset, .unset, .unset] [(.long v1), (.long (v_q q0))])) t := fun v1 hv1 => by subst hv1; exact k
    show Steps p.tables e below (s₁.setTop (mkF m 29 #[.val (.long q0), .second, .val (.long q1), .second, .val (.int p2), .val (.long (v_fs q0)), .second, .val (.long (v_q q0)), .second, .val (.long (v_r q0)), .second, .unset, .unset, .unset, .unset, .unset, .unset] [(.int (lcmpW (v_r q0) (0 : Int64))), (.long (v_q q0))])) _
    by_cases hc3 : (v_r q0) = (0 : Int64)
    · refine XS.ifYes X0.here hx rfl (pc0 := 29) (pc' := 36) rfl (hb hby at_29) rfl ((if0 _ _).trans (teq ((lw_eq _ _).mpr hc3)).1) (by decide) (by decide) ?_
      have k : ∀ (v1 : Int64), v1 = (0 : Int64) → Steps p.tables e below (s₁.setTop (mkF m 37 #[.val (.long q0), .second, .val (.long q1), .second, .val (.int p2), .val (.long (v_fs q0)), .second, .val (.long (v_q q0)), .second, .val (.long (v_r q0)), .second, .unset, .unset, .unset, .unset, .unset, .unset] [(.long v1), (.long (v_q q0))])) t := fun v1 hv1 => k v1 (hv1.trans (if_pos hc3).symm)
      show Steps p.tables e below (s₁.setTop (mkF m 36 #[.val (.long q0), .second, .val (.long q1), .second, .val (.int p2), .val (.long (v_fs q0)), .second, .val (.long (v_q q0)), .second, .val (.long (v_r q0)), .second, .unset, .unset, .unset, .unset, .unset, .unset] [(.long (v_q q0))])) _
      refine XS.lconst X0.here hx rfl (hb hby at_36) ?_
      exact k _ rfl
    · refine XS.ifNo X0.here hx rfl (hb hby at_29) rfl ((if0 _ _).trans (feq (fun q => hc3 ((lw_eq _ _).mp q))).1) ?_
      have k : ∀ (v1 : Int64), v1 = (1 : Int64) → Steps p.tables e below (s₁.setTop (mkF m 37 #[.val (.long q0), .second, .val (.long q1), .second, .val (.int p2), .val (.long (v_fs q0)), .second, .val (.long (v_q q0)), .second, .val (.long (v_r q0)), .second, .unset, .unset, .unset, .unset, .unset, .unset] [(.long v1), (.long (v_q q0))])) t := fun v1 hv1 => k v1 (hv1.trans (if_neg hc3).symm)
      show Steps p.tables e below (s₁.setTop (mkF m 32 #[.val (.long q0), .second, .val (.long q1), .second, .val (.int p2), .val (.long (v_fs q0)), .second, .val (.long (v_q q0)), .second, .val (.long (v_r q0)), .second, .unset, .unset, .unset, .unset, .unset, .unset] [(.long (v_q q0))])) _
      refine XS.lconst X0.here hx rfl (hb hby at_32) ?_
      show Steps p.tables e below (s₁.setTop (mkF m 33 #[.val (.long q0), .second, .val (.long q1), .second, .val (.int p2), .val (.long (v_fs q0)), .second, .val (.long (v_q q0)), .second, .val (.long (v_r q0)), .second, .unset, .unset, .unset, .unset, .unset, .unset] [(.long (1 : Int64)), (.long (v_q q0))])) _
      refine XS.goto X0.here hx rfl (pc0 := 33) (pc' := 37) rfl (hb hby at_33) (by decide) (by decide) ?_
      exact k _ rfl
  have pre4 : ∀ t, Steps p.tables e below (s₁.setTop (mkF m 44 #[.val (.long q0), .second, .val (.long q1), .second, .val (.int p2), .val (.long (v_fs q0)), .second, .val (.long (v_q q0)), .second, .val (.long (v_r q0)), .second, .val (.long (v_c0 q0)), .second, .unset, .unset, .unset, .unset] [(.int (lcmpW (v_c0 q0) (1 : Int64)))])) t → Steps p.tables e below (s₁.setTop (entryFrame m #[(.long q0), (.long q1), (.int p2)] maxLocals)) t := by
    intro t k
    refine pre2 t ?_
    show Steps p.tables e below (s₁.setTop (mkF m 37 #[.val (.long q0), .second, .val (.long q1), .second, .val (.int p2), .val (.long (v_fs q0)), .second, .val (.long (v_q q0)), .second, .val (.long (v_r q0)), .second, .unset, .unset, .unset, .unset, .unset, .unset] [(.long (if (v_r q0) = (0 : Int64) then (0 : Int64) else (1 : Int64))), (.long (v_q q0))])) _
    refine XS.ladd X0.here hx rfl (hb hby at_37) rfl ?_
    show Steps p.tables e below (s₁.setTop (mkF m 38 #[.val (.long q0), .second, .val (.long q1), .second, .val (.int p2), .val (.long (v_fs q0)), .second, .val (.long (v_q q0)), .second, .val (.long (v_r q0)), .second, .unset, .unset, .unset, .unset, .unset, .unset] [(.long ((v_q q0) + (if (v_r q0) = (0 : Int64) then (0 : Int64) else (1 : Int64))))])) _
    refine XS.lstore X0.here hx rfl (hb hby at_38) rfl (l' := #[.val (.long q0), .second, .val (.long q1), .second, .val (.int p2), .val (.long (v_fs q0)), .second, .val (.long (v_q q0)), .second, .val (.long (v_r q0)), .second, .val (.long (v_c0 q0)), .second, .unset, .unset, .unset, .unset]) rfl ?_
    show Steps p.tables e below (s₁.setTop (mkF m 40 #[.val (.long q0), .second, .val (.long q1), .second, .val (.int p2), .val (.long (v_fs q0)), .second, .val (.long (v_q q0)), .second, .val (.long (v_r q0)), .second, .val (.long (v_c0 q0)), .second, .unset, .unset, .unset, .unset] [])) _
    refine XS.lload X0.here hx rfl (hb hby at_40) rfl ?_
    show Steps p.tables e below (s₁.setTop (mkF m 42 #[.val (.long q0), .second, .val (.long q1), .second, .val (.int p2), .val (.long (v_fs q0)), .second, .val (.long (v_q q0)), .second, .val (.long (v_r q0)), .second, .val (.long (v_c0 q0)), .second, .unset, .unset, .unset, .unset] [(.long (v_c0 q0))])) _
    refine XS.lconst X0.here hx rfl (hb hby at_42) ?_
    show Steps p.tables e below (s₁.setTop (mkF m 43 #[.val (.long q0), .second, .val (.long q1), .second, .val (.int p2), .val (.long (v_fs q0)), .second, .val (.long (v_q q0)), .second, .val (.long (v_r q0)), .second, .val (.long (v_c0 q0)), .second, .unset, .unset, .unset, .unset] [(.long (1 : Int64)), (.long (v_c0 q0))])) _
    refine XS.lcmp X0.here hx rfl (hb hby at_43) rfl ?_
    exact k
  have pre5 : ∀ t, Steps p.tables e below (s₁.setTop (mkF m 50 #[.val (.long q0), .second, .val (.long q1), .second, .val (.int p2), .val (.long (v_fs q0)), .second, .val (.long (v_q q0)), .second, .val (.long (v_r q0)), .second, .val (.long (v_cnt q0)), .second, .unset, .unset, .unset, .unset] [])) t → Steps p.tables e below (s₁.setTop (entryFrame m #[(.long q0), (.long q1), (.int p2)] maxLocals)) t := by
    intro t k
    refine pre4 t ?_
    have k : ∀ (v1 : Int64), v1 = (if (v_c0 q0) < (1 : Int64) then (1 : Int64) else (v_c0 q0)) → Steps p.tables e below (s₁.setTop (mkF m 50 #[.val (.long q0), .second, .val (.long q1), .second, .val (.int p2), .val (.long (v_fs q0)), .second, .val (.long (v_q q0)), .second, .val (.long (v_r q0)), .second, .val (.long v1), .second, .unset, .unset, .unset, .unset] [])) t := fun v1 hv1 => by subst hv1; exact k
    show Steps p.tables e below (s₁.setTop (mkF m 44 #[.val (.long q0), .second, .val (.long q1), .second, .val (.int p2), .val (.long (v_fs q0)), .second, .val (.long (v_q q0)), .second, .val (.long (v_r q0)), .second, .val (.long (v_c0 q0)), .second, .unset, .unset, .unset, .unset] [(.int (lcmpW (v_c0 q0) (1 : Int64)))])) _
    by_cases hc6 : (v_c0 q0) < (1 : Int64)
    · refine XS.ifNo X0.here hx rfl (hb hby at_44) rfl ((if0 _ _).trans (tlt ((lw_lt _ _).mpr hc6)).2.1) ?_
      have k : ∀ (v1 : Int64), v1 = (1 : Int64) → Steps p.tables e below (s₁.setTop (mkF m 50 #[.val (.long q0), .second, .val (.long q1), .second, .val (.int p2), .val (.long (v_fs q0)), .second, .val (.long (v_q q0)), .second, .val (.long (v_r q0)), .second, .val (.long v1), .second, .unset, .unset, .unset, .unset] [])) t := fun v1 hv1 => k v1 (hv1.trans (if_pos hc6).symm)
      show Steps p.tables e below (s₁.setTop (mkF m 47 #[.val (.long q0), .second, .val (.long q1), .second, .val (.int p2), .val (.long (v_fs q0)), .second, .val (.long (v_q q0)), .second, .val (.long (v_r q0)), .second, .val (.long (v_c0 q0)), .second, .unset, .unset, .unset, .unset] [])) _
      refine XS.lconst X0.here hx rfl (hb hby at_47) ?_
      show Steps p.tables e below (s₁.setTop (mkF m 48 #[.val (.long q0), .second, .val (.long q1), .second, .val (.int p2), .val (.long (v_fs q0)), .second, .val (.long (v_q q0)), .second, .val (.long (v_r q0)), .second, .val (.long (v_c0 q0)), .second, .unset, .unset, .unset, .unset] [(.long (1 : Int64))])) _
      refine XS.lstore X0.here hx rfl (hb hby at_48) rfl (l' := #[.val (.long q0), .second, .val (.long q1), .second, .val (.int p2), .val (.long (v_fs q0)), .second, .val (.long (v_q q0)), .second, .val (.long (v_r q0)), .second, .val (.long (1 : Int64)), .second, .unset, .unset, .unset, .unset]) rfl ?_
      exact k _ rfl
    · refine XS.ifYes X0.here hx rfl (pc0 := 44) (pc' := 50) rfl (hb hby at_44) rfl ((if0 _ _).trans (flt (fun q => hc6 ((lw_lt _ _).mp q))).2.1) (by decide) (by decide) ?_
      have k : ∀ (v1 : Int64), v1 = (v_c0 q0) → Steps p.tables e below (s₁.setTop (mkF m 50 #[.val (.long q0), .second, .val (.long q1), .second, .val (.int p2), .val (.long (v_fs q0)), .second, .val (.long (v_q q0)), .second, .val (.long (v_r q0)), .second, .val (.long v1), .second, .unset, .unset, .unset, .unset] [])) t := fun v1 hv1 => k v1 (hv1.trans (if_neg hc6).symm)
      exact k _ rfl
  have pre7 : ∀ t, Steps p.tables e below (s₁.setTop (mkF m 59 #[.val (.long q0), .second, .val (.long q1), .second, .val (.int p2), .val (.long (v_fs q0)), .second, .val (.long (v_q q0)), .second, .val (.long (v_r q0)), .second, .val (.long (v_cnt q0)), .second, .val (.int (p2 &&& (3 : Int32))), .unset, .unset, .unset] [(.int (1 : Int32)), (.int (p2 &&& (3 : Int32)))])) t → Steps p.tables e below (s₁.setTop (entryFrame m #[(.long q0), (.long q1), (.int p2)] maxLocals)) t := by
    intro t k
    refine pre5 t ?_
    show Steps p.tables e below (s₁.setTop (mkF m 50 #[.val (.long q0), .second, .val (.long q1), .second, .val (.int p2), .val (.long (v_fs q0)), .second, .val (.long (v_q q0)), .second, .val (.long (v_r q0)), .second, .val (.long (v_cnt q0)), .second, .unset, .unset, .unset, .unset] [])) _
    refine XS.iload X0.here hx rfl (hb hby at_50) rfl ?_
    show Steps p.tables e below (s₁.setTop (mkF m 52 #[.val (.long q0), .second, .val (.long q1), .second, .val (.int p2), .val (.long (v_fs q0)), .second, .val (.long (v_q q0)), .second, .val (.long (v_r q0)), .second, .val (.long (v_cnt q0)), .second, .unset, .unset, .unset, .unset] [(.int p2)])) _
    refine XS.iconst X0.here hx rfl (hb hby at_52) ?_
    show Steps p.tables e below (s₁.setTop (mkF m 53 #[.val (.long q0), .second, .val (.long q1), .second, .val (.int p2), .val (.long (v_fs q0)), .second, .val (.long (v_q q0)), .second, .val (.long (v_r q0)), .second, .val (.long (v_cnt q0)), .second, .unset, .unset, .unset, .unset] [(.int (3 : Int32)), (.int p2)])) _
    refine XS.iand X0.here hx rfl (hb hby at_53) rfl ?_
    show Steps p.tables e below (s₁.setTop (mkF m 54 #[.val (.long q0), .second, .val (.long q1), .second, .val (.int p2), .val (.long (v_fs q0)), .second, .val (.long (v_q q0)), .second, .val (.long (v_r q0)), .second, .val (.long (v_cnt q0)), .second, .unset, .unset, .unset, .unset] [(.int (p2 &&& (3 : Int32)))])) _
    refine XS.istore X0.here hx rfl (hb hby at_54) rfl (l' := #[.val (.long q0), .second, .val (.long q1), .second, .val (.int p2), .val (.long (v_fs q0)), .second, .val (.long (v_q q0)), .second, .val (.long (v_r q0)), .second, .val (.long (v_cnt q0)), .second, .val (.int (p2 &&& (3 : Int32))), .unset, .unset, .unset]) rfl ?_
    show Steps p.tables e below (s₁.setTop (mkF m 56 #[.val (.long q0), .second, .val (.long q1), .second, .val (.int p2), .val (.long (v_fs q0)), .second, .val (.long (v_q q0)), .second, .val (.long (v_r q0)), .second, .val (.long (v_cnt q0)), .second, .val (.int (p2 &&& (3 : Int32))), .unset, .unset, .unset] [])) _
    refine XS.iload X0.here hx rfl (hb hby at_56) rfl ?_
    show Steps p.tables e below (s₁.setTop (mkF m 58 #[.val (.long q0), .second, .val (.long q1), .second, .val (.int p2), .val (.long (v_fs q0)), .second, .val (.long (v_q q0)), .second, .val (.long (v_r q0)), .second, .val (.long (v_cnt q0)), .second, .val (.int (p2 &&& (3 : Int32))), .unset, .unset, .unset] [(.int (p2 &&& (3 : Int32)))])) _
    refine XS.iconst X0.here hx rfl (hb hby at_58) ?_
    exact k
  by_cases hc8 : (p2 &&& (3 : Int32)) = (1 : Int32)
  ·
    have pre9 : ∀ t, Steps p.tables e below (s₁.setTop (mkF m 107 #[.val (.long q0), .second, .val (.long q1), .second, .val (.int p2), .val (.long (v_fs q0)), .second, .val (.long (v_q q0)), .second, .val (.long (v_r q0)), .second, .val (.long (v_cnt q0)), .second, .val (.int (p2 &&& (3 : Int32))), .val (.long (v_i1 q0)), .second, .unset] [(.int (lcmpW (v_i1 q0) (v_q q0)))])) t → Steps p.tables e below (s₁.setTop (entryFrame m #[(.long q0), (.long q1), (.int p2)] maxLocals)) t := by
      intro t k
      refine pre7 t ?_
      show Steps p.tables e below (s₁.setTop (mkF m 59 #[.val (.long q0), .second, .val (.long q1), .second, .val (.int p2), .val (.long (v_fs q0)), .second, .val (.long (v_q q0)), .second, .val (.long (v_r q0)), .second, .val (.long (v_cnt q0)), .second, .val (.int (p2 &&& (3 : Int32))), .unset, .unset, .unset] [(.int (1 : Int32)), (.int (p2 &&& (3 : Int32)))])) _
      refine XS.icmpNo X0.here hx rfl (hb hby at_59) rfl (teq hc8).2 ?_
      show Steps p.tables e below (s₁.setTop (mkF m 62 #[.val (.long q0), .second, .val (.long q1), .second, .val (.int p2), .val (.long (v_fs q0)), .second, .val (.long (v_q q0)), .second, .val (.long (v_r q0)), .second, .val (.long (v_cnt q0)), .second, .val (.int (p2 &&& (3 : Int32))), .unset, .unset, .unset] [])) _
      refine XS.lload X0.here hx rfl (hb hby at_62) rfl ?_
      show Steps p.tables e below (s₁.setTop (mkF m 64 #[.val (.long q0), .second, .val (.long q1), .second, .val (.int p2), .val (.long (v_fs q0)), .second, .val (.long (v_q q0)), .second, .val (.long (v_r q0)), .second, .val (.long (v_cnt q0)), .second, .val (.int (p2 &&& (3 : Int32))), .unset, .unset, .unset] [(.long (v_cnt q0))])) _
      refine XS.lconst X0.here hx rfl (hb hby at_64) ?_
      show Steps p.tables e below (s₁.setTop (mkF m 65 #[.val (.long q0), .second, .val (.long q1), .second, .val (.int p2), .val (.long (v_fs q0)), .second, .val (.long (v_q q0)), .second, .val (.long (v_r q0)), .second, .val (.long (v_cnt q0)), .second, .val (.int (p2 &&& (3 : Int32))), .unset, .unset, .unset] [(.long (1 : Int64)), (.long (v_cnt q0))])) _
      refine XS.lsub X0.here hx rfl (hb hby at_65) rfl ?_
      show Steps p.tables e below (s₁.setTop (mkF m 66 #[.val (.long q0), .second, .val (.long q1), .second, .val (.int p2), .val (.long (v_fs q0)), .second, .val (.long (v_q q0)), .second, .val (.long (v_r q0)), .second, .val (.long (v_cnt q0)), .second, .val (.int (p2 &&& (3 : Int32))), .unset, .unset, .unset] [(.long ((v_cnt q0) - (1 : Int64)))])) _
      refine XS.lstore X0.here hx rfl (hb hby at_66) rfl (l' := #[.val (.long q0), .second, .val (.long q1), .second, .val (.int p2), .val (.long (v_fs q0)), .second, .val (.long (v_q q0)), .second, .val (.long (v_r q0)), .second, .val (.long (v_cnt q0)), .second, .val (.int (p2 &&& (3 : Int32))), .val (.long (v_i1 q0)), .second, .unset]) rfl ?_
      show Steps p.tables e below (s₁.setTop (mkF m 68 #[.val (.long q0), .second, .val (.long q1), .second, .val (.int p2), .val (.long (v_fs q0)), .second, .val (.long (v_q q0)), .second, .val (.long (v_r q0)), .second, .val (.long (v_cnt q0)), .second, .val (.int (p2 &&& (3 : Int32))), .val (.long (v_i1 q0)), .second, .unset] [])) _
      refine XS.goto X0.here hx rfl (pc0 := 68) (pc' := 102) rfl (hb hby at_68) (by decide) (by decide) ?_
      show Steps p.tables e below (s₁.setTop (mkF m 102 #[.val (.long q0), .second, .val (.long q1), .second, .val (.int p2), .val (.long (v_fs q0)), .second, .val (.long (v_q q0)), .second, .val (.long (v_r q0)), .second, .val (.long (v_cnt q0)), .second, .val (.int (p2 &&& (3 : Int32))), .val (.long (v_i1 q0)), .second, .unset] [])) _
      refine XS.lload X0.here hx rfl (hb hby at_102) rfl ?_
      show Steps p.tables e below (s₁.setTop (mkF m 104 #[.val (.long q0), .second, .val (.long q1), .second, .val (.int p2), .val (.long (v_fs q0)), .second, .val (.long (v_q q0)), .second, .val (.long (v_r q0)), .second, .val (.long (v_cnt q0)), .second, .val (.int (p2 &&& (3 : Int32))), .val (.long (v_i1 q0)), .second, .unset] [(.long (v_i1 q0))])) _
      refine XS.lload X0.here hx rfl (hb hby at_104) rfl ?_
      show Steps p.tables e below (s₁.setTop (mkF m 106 #[.val (.long q0), .second, .val (.long q1), .second, .val (.int p2), .val (.long (v_fs q0)), .second, .val (.long (v_q q0)), .second, .val (.long (v_r q0)), .second, .val (.long (v_cnt q0)), .second, .val (.int (p2 &&& (3 : Int32))), .val (.long (v_i1 q0)), .second, .unset] [(.long (v_q q0)), (.long (v_i1 q0))])) _
      refine XS.lcmp X0.here hx rfl (hb hby at_106) rfl ?_
      exact k
    have pre10 : ∀ t, Steps p.tables e below (s₁.setTop (mkF m 118 #[.val (.long q0), .second, .val (.long q1), .second, .val (.int p2), .val (.long (v_fs q0)), .second, .val (.long (v_q q0)), .second, .val (.long (v_r q0)), .second, .val (.long (v_cnt q0)), .second, .val (.int (p2 &&& (3 : Int32))), .val (.long (v_i1 q0)), .second, .unset] [(.int (if (v_i1 q0) < (v_q q0) then (65536 : Int32) else ((v_r q0).toInt32)))])) t → Steps p.tables e below (s₁.setTop (entryFrame m #[(.long q0), (.long q1), (.int p2)] maxLocals)) t := by
      intro t k
      refine pre9 t ?_
      have k : ∀ (v1 : Int32), v1 = (if (v_i1 q0) < (v_q q0) then (65536 : Int32) else ((v_r q0).toInt32)) → Steps p.tables e below (s₁.setTop (mkF m 118 #[.val (.long q0), .second, .val (.long q1), .second, .val (.int p2), .val (.long (v_fs q0)), .second, .val (.long (v_q q0)), .second, .val (.long (v_r q0)), .second, .val (.long (v_cnt q0)), .second, .val (.int (p2 &&& (3 : Int32))), .val (.long (v_i1 q0)), .second, .unset] [(.int v1)])) t := fun v1 hv1 => by subst hv1; exact k
      show Steps p.tables e below (s₁.setTop (mkF m 107 #[.val (.long q0), .second, .val (.long q1), .second, .val (.int p2), .val (.long (v_fs q0)), .second, .val (.long (v_q q0)), .second, .val (.long (v_r q0)), .second, .val (.long (v_cnt q0)), .second, .val (.int (p2 &&& (3 : Int32))), .val (.long (v_i1 q0)), .second, .unset] [(.int (lcmpW (v_i1 q0) (v_q q0)))])) _
      by_cases hc11 : (v_i1 q0) < (v_q q0)
      · refine XS.ifNo X0.here hx rfl (hb hby at_107) rfl ((if0 _ _).trans (tlt ((lw_lt _ _).mpr hc11)).2.1) ?_
        have k : ∀ (v1 : Int32), v1 = (65536 : Int32) → Steps p.tables e below (s₁.setTop (mkF m 118 #[.val (.long q0), .second, .val (.long q1), .second, .val (.int p2), .val (.long (v_fs q0)), .second, .val (.long (v_q q0)), .second, .val (.long (v_r q0)), .second, .val (.long (v_cnt q0)), .second, .val (.int (p2 &&& (3 : Int32))), .val (.long (v_i1 q0)), .second, .unset] [(.int v1)])) t := fun v1 hv1 => k v1 (hv1.trans (if_pos hc11).symm)
        show Steps p.tables e below (s₁.setTop (mkF m 110 #[.val (.long q0), .second, .val (.long q1), .second, .val (.int p2), .val (.long (v_fs q0)), .second, .val (.long (v_q q0)), .second, .val (.long (v_r q0)), .second, .val (.long (v_cnt q0)), .second, .val (.int (p2 &&& (3 : Int32))), .val (.long (v_i1 q0)), .second, .unset] [])) _
        refine X0.ldcInt hx hown (mvT hZ (hw _ (List.mem_of_getElem? (i := 11) rfl))) (g := (mkF m 110 #[.val (.long q0), .second, .val (.long q1), .second, .val (.int p2), .val (.long (v_fs q0)), .second, .val (.long (v_q q0)), .second, .val (.long (v_r q0)), .second, .val (.long (v_cnt q0)), .second, .val (.int (p2 &&& (3 : Int32))), .val (.long (v_i1 q0)), .second, .unset] [])) rfl (hb hby at_110) _ ?_
        show Steps p.tables e below (s₁.setTop (mkF m 112 #[.val (.long q0), .second, .val (.long q1), .second, .val (.int p2), .val (.long (v_fs q0)), .second, .val (.long (v_q q0)), .second, .val (.long (v_r q0)), .second, .val (.long (v_cnt q0)), .second, .val (.int (p2 &&& (3 : Int32))), .val (.long (v_i1 q0)), .second, .unset] [(.int (65536 : Int32))])) _
        refine XS.goto X0.here hx rfl (pc0 := 112) (pc' := 118) rfl (hb hby at_112) (by decide) (by decide) ?_
        exact k _ rfl
      · refine XS.ifYes X0.here hx rfl (pc0 := 107) (pc' := 115) rfl (hb hby at_107) rfl ((if0 _ _).trans (flt (fun q => hc11 ((lw_lt _ _).mp q))).2.1) (by decide) (by decide) ?_
        have k : ∀ (v1 : Int32), v1 = ((v_r q0).toInt32) → Steps p.tables e below (s₁.setTop (mkF m 118 #[.val (.long q0), .second, .val (.long q1), .second, .val (.int p2), .val (.long (v_fs q0)), .second, .val (.long (v_q q0)), .second, .val (.long (v_r q0)), .second, .val (.long (v_cnt q0)), .second, .val (.int (p2 &&& (3 : Int32))), .val (.long (v_i1 q0)), .second, .unset] [(.int v1)])) t := fun v1 hv1 => k v1 (hv1.trans (if_neg hc11).symm)
        show Steps p.tables e below (s₁.setTop (mkF m 115 #[.val (.long q0), .second, .val (.long q1), .second, .val (.int p2), .val (.long (v_fs q0)), .second, .val (.long (v_q q0)), .second, .val (.long (v_r q0)), .second, .val (.long (v_cnt q0)), .second, .val (.int (p2 &&& (3 : Int32))), .val (.long (v_i1 q0)), .second, .unset] [])) _
        refine XS.lload X0.here hx rfl (hb hby at_115) rfl ?_
        show Steps p.tables e below (s₁.setTop (mkF m 117 #[.val (.long q0), .second, .val (.long q1), .second, .val (.int p2), .val (.long (v_fs q0)), .second, .val (.long (v_q q0)), .second, .val (.long (v_r q0)), .second, .val (.long (v_cnt q0)), .second, .val (.int (p2 &&& (3 : Int32))), .val (.long (v_i1 q0)), .second, .unset] [(.long (v_r q0))])) _
        refine XS.l2i X0.here hx rfl (hb hby at_117) rfl ?_
        exact k _ rfl
    obtain ⟨_, _, ⟨T12, L12, k12, n12⟩, -, X12, ⟨Lc12, hQ12, l12, y12, z12⟩, st12⟩ := Jvm.LawKit.callS X0 hx (y := (⟨"com/example/keelstore/keelstore/protocol/Chunks", "length", "(JJ)I"⟩ : MethodName)) hown (mvT hZ (hw _ (List.mem_of_getElem? (i := 2) rfl))) (mvT hZ (hw _ (List.mem_of_getElem? (i := 3) rfl))) (mvT hZ (hw _ (List.mem_of_getElem? (i := 4) rfl))) (mvT hZ (hw _ (List.mem_of_getElem? (i := 5) rfl))) (by decide) (backOf (W := 0) (rm1 l Z a0 hw [] (v_fs q0) (v_i1 q0) h0 n0 Z0) hZ (hw _ (List.mem_of_getElem? (i := 5) rfl)) (hw _ (List.mem_of_getElem? (i := 4) rfl)) (by decide) (by decide)) (g := (mkF m 124 #[.val (.long q0), .second, .val (.long q1), .second, .val (.int p2), .val (.long (v_fs q0)), .second, .val (.long (v_q q0)), .second, .val (.long (v_r q0)), .second, .val (.long (v_cnt q0)), .second, .val (.int (p2 &&& (3 : Int32))), .val (.long (v_i1 q0)), .second, .val (.int (v_ex q0))] [(.long (v_i1 q0)), (.long (v_fs q0))])) rfl (by rw [hml]; rfl) (argsL := [(.long (v_fs q0)), (.long (v_i1 q0))]) (rest := []) (lenOf pd_0 rfl) rfl (by show 2 * 0 + _ ≤ _; exact Nat.le_of_eq rfl) (hb hby at_124) (fun _ _ => ⟨rfl, e0, (by decide : 0 + 0 ≤ _), (by decide : 0 + 0 ≤ _)⟩)
    dsimp only [Pt.U, Pt.locs, Pt.cells, Pt.slots] at X12 l12 y12 z12 st12 hQ12
    subst l12 y12 z12
    obtain ⟨rfl, N12q, e12⟩ := hQ12
    have N12 := Fr.app N0 N12q
    have pre13 : ∀ t, Steps p.tables e below (T12.setTop (mkF m 129 #[.val (.long q0), .second, .val (.long q1), .second, .val (.int p2), .val (.long (v_fs q0)), .second, .val (.long (v_q q0)), .second, .val (.long (v_r q0)), .second, .val (.long (v_cnt q0)), .second, .val (.int (p2 &&& (3 : Int32))), .val (.long (v_i1 q0)), .second, .val (.int (v_ex q0))] [(.int (v_ex q0)), (.int (F1 (v_fs q0) (v_i1 q0)))])) t → Steps p.tables e below (s₁.setTop (entryFrame m #[(.long q0), (.long q1), (.int p2)] maxLocals)) t := by
      intro t k
      refine pre10 t ?_
      show Steps p.tables e below (s₁.setTop (mkF m 118 #[.val (.long q0), .second, .val (.long q1), .second, .val (.int p2), .val (.long (v_fs q0)), .second, .val (.long (v_q q0)), .second, .val (.long (v_r q0)), .second, .val (.long (v_cnt q0)), .second, .val (.int (p2 &&& (3 : Int32))), .val (.long (v_i1 q0)), .second, .unset] [(.int (if (v_i1 q0) < (v_q q0) then (65536 : Int32) else ((v_r q0).toInt32)))])) _
      refine XS.istore X0.here hx rfl (hb hby at_118) rfl (l' := #[.val (.long q0), .second, .val (.long q1), .second, .val (.int p2), .val (.long (v_fs q0)), .second, .val (.long (v_q q0)), .second, .val (.long (v_r q0)), .second, .val (.long (v_cnt q0)), .second, .val (.int (p2 &&& (3 : Int32))), .val (.long (v_i1 q0)), .second, .val (.int (v_ex q0))]) rfl ?_
      show Steps p.tables e below (s₁.setTop (mkF m 120 #[.val (.long q0), .second, .val (.long q1), .second, .val (.int p2), .val (.long (v_fs q0)), .second, .val (.long (v_q q0)), .second, .val (.long (v_r q0)), .second, .val (.long (v_cnt q0)), .second, .val (.int (p2 &&& (3 : Int32))), .val (.long (v_i1 q0)), .second, .val (.int (v_ex q0))] [])) _
      refine XS.lload X0.here hx rfl (hb hby at_120) rfl ?_
      show Steps p.tables e below (s₁.setTop (mkF m 122 #[.val (.long q0), .second, .val (.long q1), .second, .val (.int p2), .val (.long (v_fs q0)), .second, .val (.long (v_q q0)), .second, .val (.long (v_r q0)), .second, .val (.long (v_cnt q0)), .second, .val (.int (p2 &&& (3 : Int32))), .val (.long (v_i1 q0)), .second, .val (.int (v_ex q0))] [(.long (v_fs q0))])) _
      refine XS.lload X0.here hx rfl (hb hby at_122) rfl ?_
      show Steps p.tables e below (s₁.setTop (mkF m 124 #[.val (.long q0), .second, .val (.long q1), .second, .val (.int p2), .val (.long (v_fs q0)), .second, .val (.long (v_q q0)), .second, .val (.long (v_r q0)), .second, .val (.long (v_cnt q0)), .second, .val (.int (p2 &&& (3 : Int32))), .val (.long (v_i1 q0)), .second, .val (.int (v_ex q0))] [(.long (v_i1 q0)), (.long (v_fs q0))])) _
      refine st12 _ ?_
      show Steps p.tables e below (T12.setTop (mkF m 127 #[.val (.long q0), .second, .val (.long q1), .second, .val (.int p2), .val (.long (v_fs q0)), .second, .val (.long (v_q q0)), .second, .val (.long (v_r q0)), .second, .val (.long (v_cnt q0)), .second, .val (.int (p2 &&& (3 : Int32))), .val (.long (v_i1 q0)), .second, .val (.int (v_ex q0))] [(.int (F1 (v_fs q0) (v_i1 q0)))])) _
      refine XS.iload X12.here hx rfl (hb hby at_127) rfl ?_
      exact k
    have pre14 : ∀ t, Steps p.tables e below (T12.setTop (mkF m 137 #[.val (.long q0), .second, .val (.long q1), .second, .val (.int p2), .val (.long (v_fs q0)), .second, .val (.long (v_q q0)), .second, .val (.long (v_r q0)), .second, .val (.long (v_cnt q0)), .second, .val (.int (p2 &&& (3 : Int32))), .val (.long (v_i1 q0)), .second, .val (.int (v_ex q0))] [(.int (b2i (if (F1 (v_fs q0) (v_i1 q0)) = (v_ex q0) then true else false)))])) t → Steps p.tables e below (s₁.setTop (entryFrame m #[(.long q0), (.long q1), (.int p2)] maxLocals)) t := by
      intro t k
      refine pre13 t ?_
      have k : ∀ (v1 : Bool), v1 = (if (F1 (v_fs q0) (v_i1 q0)) = (v_ex q0) then true else false) → Steps p.tables e below (T12.setTop (mkF m 137 #[.val (.long q0), .second, .val (.long q1), .second, .val (.int p2), .val (.long (v_fs q0)), .second, .val (.long (v_q q0)), .second, .val (.long (v_r q0)), .second, .val (.long (v_cnt q0)), .second, .val (.int (p2 &&& (3 : Int32))), .val (.long (v_i1 q0)), .second, .val (.int (v_ex q0))] [(.int (b2i v1))])) t := fun v1 hv1 => by subst hv1; exact k
      show Steps p.tables e below (T12.setTop (mkF m 129 #[.val (.long q0), .second, .val (.long q1), .second, .val (.int p2), .val (.long (v_fs q0)), .second, .val (.long (v_q q0)), .second, .val (.long (v_r q0)), .second, .val (.long (v_cnt q0)), .second, .val (.int (p2 &&& (3 : Int32))), .val (.long (v_i1 q0)), .second, .val (.int (v_ex q0))] [(.int (v_ex q0)), (.int (F1 (v_fs q0) (v_i1 q0)))])) _
      by_cases hc15 : (F1 (v_fs q0) (v_i1 q0)) = (v_ex q0)
      · refine XS.icmpNo X12.here hx rfl (hb hby at_129) rfl (teq hc15).2 ?_
        have k : ∀ (v1 : Bool), v1 = true → Steps p.tables e below (T12.setTop (mkF m 137 #[.val (.long q0), .second, .val (.long q1), .second, .val (.int p2), .val (.long (v_fs q0)), .second, .val (.long (v_q q0)), .second, .val (.long (v_r q0)), .second, .val (.long (v_cnt q0)), .second, .val (.int (p2 &&& (3 : Int32))), .val (.long (v_i1 q0)), .second, .val (.int (v_ex q0))] [(.int (b2i v1))])) t := fun v1 hv1 => k v1 (hv1.trans (if_pos hc15).symm)
        show Steps p.tables e below (T12.setTop (mkF m 132 #[.val (.long q0), .second, .val (.long q1), .second, .val (.int p2), .val (.long (v_fs q0)), .second, .val (.long (v_q q0)), .second, .val (.long (v_r q0)), .second, .val (.long (v_cnt q0)), .second, .val (.int (p2 &&& (3 : Int32))), .val (.long (v_i1 q0)), .second, .val (.int (v_ex q0))] [])) _
        refine XS.iconst X12.here hx rfl (hb hby at_132) ?_
        show Steps p.tables e below (T12.setTop (mkF m 133 #[.val (.long q0), .second, .val (.long q1), .second, .val (.int p2), .val (.long (v_fs q0)), .second, .val (.long (v_q q0)), .second, .val (.long (v_r q0)), .second, .val (.long (v_cnt q0)), .second, .val (.int (p2 &&& (3 : Int32))), .val (.long (v_i1 q0)), .second, .val (.int (v_ex q0))] [(.int (1 : Int32))])) _
        refine XS.goto X12.here hx rfl (pc0 := 133) (pc' := 137) rfl (hb hby at_133) (by decide) (by decide) ?_
        exact k true rfl
      · refine XS.icmpYes X12.here hx rfl (pc0 := 129) (pc' := 136) rfl (hb hby at_129) rfl (feq hc15).2 (by decide) (by decide) ?_
        have k : ∀ (v1 : Bool), v1 = false → Steps p.tables e below (T12.setTop (mkF m 137 #[.val (.long q0), .second, .val (.long q1), .second, .val (.int p2), .val (.long (v_fs q0)), .second, .val (.long (v_q q0)), .second, .val (.long (v_r q0)), .second, .val (.long (v_cnt q0)), .second, .val (.int (p2 &&& (3 : Int32))), .val (.long (v_i1 q0)), .second, .val (.int (v_ex q0))] [(.int (b2i v1))])) t := fun v1 hv1 => k v1 (hv1.trans (if_neg hc15).symm)
        show Steps p.tables e below (T12.setTop (mkF m 136 #[.val (.long q0), .second, .val (.long q1), .second, .val (.int p2), .val (.long (v_fs q0)), .second, .val (.long (v_q q0)), .second, .val (.long (v_r q0)), .second, .val (.long (v_cnt q0)), .second, .val (.int (p2 &&& (3 : Int32))), .val (.long (v_i1 q0)), .second, .val (.int (v_ex q0))] [])) _
        refine XS.iconst X12.here hx rfl (hb hby at_136) ?_
        exact k false rfl
    have hlaw : (if (F1 (v_fs q0) (v_i1 q0)) = (v_ex q0) then true else false) = true := own_law1 q0 p2 hc8
    obtain ⟨fs, hr, hrun, hended, hW, hsame⟩ := X12.leave (v := some (.int (1 : Int32))) (fun h => by rw [Bd.returns] at h; cases h)
    refine ⟨_, _, pre14 _ ?_, hrun, hended, _, _, rfl, ?_, ⟨_, rfl⟩, hW, hsame.mono (by decide) (by decide)⟩
    · show Steps p.tables e below (T12.setTop (mkF m 137 #[.val (.long q0), .second, .val (.long q1), .second, .val (.int p2), .val (.long (v_fs q0)), .second, .val (.long (v_q q0)), .second, .val (.long (v_r q0)), .second, .val (.long (v_cnt q0)), .second, .val (.int (p2 &&& (3 : Int32))), .val (.long (v_i1 q0)), .second, .val (.int (v_ex q0))] [(.int (b2i (if (F1 (v_fs q0) (v_i1 q0)) = (v_ex q0) then true else false)))])) _
      exact retN X12 hx (t := .boolean) Bd.returns (by simp) (hb hby at_137) (by rw [b2i_one hlaw]; exact hr)
    · show Q0 Z q0 q1 p2 h0 n0 _ T12.heap _
      rw [e12]
      exact ⟨rfl, N12⟩
  ·
    have pre16 : ∀ t, Steps p.tables e below (s₁.setTop (mkF m 74 #[.val (.long q0), .second, .val (.long q1), .second, .val (.int p2), .val (.long (v_fs q0)), .second, .val (.long (v_q q0)), .second, .val (.long (v_r q0)), .second, .val (.long (v_cnt q0)), .second, .val (.int (p2 &&& (3 : Int32))), .unset, .unset, .unset] [(.int (2 : Int32)), (.int (p2 &&& (3 : Int32)))])) t → Steps p.tables e below (s₁.setTop (entryFrame m #[(.long q0), (.long q1), (.int p2)] maxLocals)) t := by
      intro t k
      refine pre7 t ?_
      show Steps p.tables e below (s₁.setTop (mkF m 59 #[.val (.long q0), .second, .val (.long q1), .second, .val (.int p2), .val (.long (v_fs q0)), .second, .val (.long (v_q q0)), .second, .val (.long (v_r q0)), .second, .val (.long (v_cnt q0)), .second, .val (.int (p2 &&& (3 : Int32))), .unset, .unset, .unset] [(.int (1 : Int32)), (.int (p2 &&& (3 : Int32)))])) _
      refine XS.icmpYes X0.here hx rfl (pc0 := 59) (pc' := 71) rfl (hb hby at_59) rfl (feq hc8).2 (by decide) (by decide) ?_
      show Steps p.tables e below (s₁.setTop (mkF m 71 #[.val (.long q0), .second, .val (.long q1), .second, .val (.int p2), .val (.long (v_fs q0)), .second, .val (.long (v_q q0)), .second, .val (.long (v_r q0)), .second, .val (.long (v_cnt q0)), .second, .val (.int (p2 &&& (3 : Int32))), .unset, .unset, .unset] [])) _
      refine XS.iload X0.here hx rfl (hb hby at_71) rfl ?_
      show Steps p.tables e below (s₁.setTop (mkF m 73 #[.val (.long q0), .second, .val (.long q1), .second, .val (.int p2), .val (.long (v_fs q0)), .second, .val (.long (v_q q0)), .second, .val (.long (v_r q0)), .second, .val (.long (v_cnt q0)), .second, .val (.int (p2 &&& (3 : Int32))), .unset, .unset, .unset] [(.int (p2 &&& (3 : Int32)))])) _
      refine XS.iconst X0.here hx rfl (hb hby at_73) ?_
      exact k
    by_cases hc17 : (p2 &&& (3 : Int32)) = (2 : Int32)
    ·
      obtain ⟨_, _, ⟨T18, L18, k18, n18⟩, -, X18, ⟨Lc18, hQ18, l18, y18, z18⟩, st18⟩ := Jvm.LawKit.callS X0 hx (y := (⟨"java/lang/Math", "max", "(JJ)J"⟩ : MethodName)) hown (mvT hZ (hw _ (List.mem_of_getElem? (i := 13) rfl))) (mvT hZ (hw _ (List.mem_of_getElem? (i := 14) rfl))) (mvT hZ (hw _ (List.mem_of_getElem? (i := 9) rfl))) (mvT hZ (hw _ (List.mem_of_getElem? (i := 15) rfl))) (by decide) (backOf (W := 0) (rm3 l Z a0 hw [] (0 : Int64) ((v_cnt q0) - (2 : Int64)) h0 n0 Z0) hZ (hw _ (List.mem_of_getElem? (i := 15) rfl)) (hw _ (List.mem_of_getElem? (i := 9) rfl)) (by decide) (by decide)) (g := (mkF m 84 #[.val (.long q0), .second, .val (.long q1), .second, .val (.int p2), .val (.long (v_fs q0)), .second, .val (.long (v_q q0)), .second, .val (.long (v_r q0)), .second, .val (.long (v_cnt q0)), .second, .val (.int (p2 &&& (3 : Int32))), .unset, .unset, .unset] [(.long ((v_cnt q0) - (2 : Int64))), (.long (0 : Int64))])) rfl (by rw [hml]; rfl) (argsL := [(.long (0 : Int64)), (.long ((v_cnt q0) - (2 : Int64)))]) (rest := []) (lenOf pd_1 rfl) rfl (by show 2 * 0 + _ ≤ _; exact Nat.le_of_eq rfl) (hb hby at_84) (fun _ _ => ⟨rfl, e0, (by decide : 0 + 0 ≤ _), (by decide : 0 + 0 ≤ _)⟩)
      dsimp only [Pt.U, Pt.locs, Pt.cells, Pt.slots] at X18 l18 y18 z18 st18 hQ18
      subst l18 y18 z18
      obtain ⟨rfl, N18q, e18⟩ := hQ18
      have N18 := Fr.app N0 N18q
      have pre19 : ∀ t, Steps p.tables e below (T18.setTop (mkF m 107 #[.val (.long q0), .second, .val (.long q1), .second, .val (.int p2), .val (.long (v_fs q0)), .second, .val (.long (v_q q0)), .second, .val (.long (v_r q0)), .second, .val (.long (v_cnt q0)), .second, .val (.int (p2 &&& (3 : Int32))), .val (.long (v_i2 q0)), .second, .unset] [(.int (lcmpW (v_i2 q0) (v_q q0)))])) t → Steps p.tables e below (s₁.setTop (entryFrame m #[(.long q0), (.long q1), (.int p2)] maxLocals)) t := by
        intro t k
        refine pre16 t ?_
        show Steps p.tables e below (s₁.setTop (mkF m 74 #[.val (.long q0), .second, .val (.long q1), .second, .val (.int p2), .val (.long (v_fs q0)), .second, .val (.long (v_q q0)), .second, .val (.long (v_r q0)), .second, .val (.long (v_cnt q0)), .second, .val (.int (p2 &&& (3 : Int32))), .unset, .unset, .unset] [(.int (2 : Int32)), (.int (p2 &&& (3 : Int32)))])) _
        refine XS.icmpNo X0.here hx rfl (hb hby at_74) rfl (teq hc17).2 ?_
        show Steps p.tables e below (s₁.setTop (mkF m 77 #[.val (.long q0), .second, .val (.long q1), .second, .val (.int p2), .val (.long (v_fs q0)), .second, .val (.long (v_q q0)), .second, .val (.long (v_r q0)), .second, .val (.long (v_cnt q0)), .second, .val (.int (p2 &&& (3 : Int32))), .unset, .unset, .unset] [])) _
        refine XS.lconst X0.here hx rfl (hb hby at_77) ?_
        show Steps p.tables e below (s₁.setTop (mkF m 78 #[.val (.long q0), .second, .val (.long q1), .second, .val (.int p2), .val (.long (v_fs q0)), .second, .val (.long (v_q q0)), .second, .val (.long (v_r q0)), .second, .val (.long (v_cnt q0)), .second, .val (.int (p2 &&& (3 : Int32))), .unset, .unset, .unset] [(.long (0 : Int64))])) _
        refine XS.lload X0.here hx rfl (hb hby at_78) rfl ?_
        show Steps p.tables e below (s₁.setTop (mkF m 80 #[.val (.long q0), .second, .val (.long q1), .second, .val (.int p2), .val (.long (v_fs q0)), .second, .val (.long (v_q q0)), .second, .val (.long (v_r q0)), .second, .val (.long (v_cnt q0)), .second, .val (.int (p2 &&& (3 : Int32))), .unset, .unset, .unset] [(.long (v_cnt q0)), (.long (0 : Int64))])) _
        refine X0.ldc2Long hx hown (mvT hZ (hw _ (List.mem_of_getElem? (i := 12) rfl))) (g := (mkF m 80 #[.val (.long q0), .second, .val (.long q1), .second, .val (.int p2), .val (.long (v_fs q0)), .second, .val (.long (v_q q0)), .second, .val (.long (v_r q0)), .second, .val (.long (v_cnt q0)), .second, .val (.int (p2 &&& (3 : Int32))), .unset, .unset, .unset] [(.long (v_cnt q0)), (.long (0 : Int64))])) rfl (hb hby at_80) _ ?_
        show Steps p.tables e below (s₁.setTop (mkF m 83 #[.val (.long q0), .second, .val (.long q1), .second, .val (.int p2), .val (.long (v_fs q0)), .second, .val (.long (v_q q0)), .second, .val (.long (v_r q0)), .second, .val (.long (v_cnt q0)), .second, .val (.int (p2 &&& (3 : Int32))), .unset, .unset, .unset] [(.long (2 : Int64)), (.long (v_cnt q0)), (.long (0 : Int64))])) _
        refine XS.lsub X0.here hx rfl (hb hby at_83) rfl ?_
        show Steps p.tables e below (s₁.setTop (mkF m 84 #[.val (.long q0), .second, .val (.long q1), .second, .val (.int p2), .val (.long (v_fs q0)), .second, .val (.long (v_q q0)), .second, .val (.long (v_r q0)), .second, .val (.long (v_cnt q0)), .second, .val (.int (p2 &&& (3 : Int32))), .unset, .unset, .unset] [(.long ((v_cnt q0) - (2 : Int64))), (.long (0 : Int64))])) _
        refine st18 _ ?_
        show Steps p.tables e below (T18.setTop (mkF m 87 #[.val (.long q0), .second, .val (.long q1), .second, .val (.int p2), .val (.long (v_fs q0)), .second, .val (.long (v_q q0)), .second, .val (.long (v_r q0)), .second, .val (.long (v_cnt q0)), .second, .val (.int (p2 &&& (3 : Int32))), .unset, .unset, .unset] [(.long (F3 (0 : Int64) ((v_cnt q0) - (2 : Int64))))])) _
        refine XS.lstore X18.here hx rfl (hb hby at_87) rfl (l' := #[.val (.long q0), .second, .val (.long q1), .second, .val (.int p2), .val (.long (v_fs q0)), .second, .val (.long (v_q q0)), .second, .val (.long (v_r q0)), .second, .val (.long (v_cnt q0)), .second, .val (.int (p2 &&& (3 : Int32))), .val (.long (v_i2 q0)), .second, .unset]) rfl ?_
        show Steps p.tables e below (T18.setTop (mkF m 89 #[.val (.long q0), .second, .val (.long q1), .second, .val (.int p2), .val (.long (v_fs q0)), .second, .val (.long (v_q q0)), .second, .val (.long (v_r q0)), .second, .val (.long (v_cnt q0)), .second, .val (.int (p2 &&& (3 : Int32))), .val (.long (v_i2 q0)), .second, .unset] [])) _
        refine XS.goto X18.here hx rfl (pc0 := 89) (pc' := 102) rfl (hb hby at_89) (by decide) (by decide) ?_
        show Steps p.tables e below (T18.setTop (mkF m 102 #[.val (.long q0), .second, .val (.long q1), .second, .val (.int p2), .val (.long (v_fs q0)), .second, .val (.long (v_q q0)), .second, .val (.long (v_r q0)), .second, .val (.long (v_cnt q0)), .second, .val (.int (p2 &&& (3 : Int32))), .val (.long (v_i2 q0)), .second, .unset] [])) _
        refine XS.lload X18.here hx rfl (hb hby at_102) rfl ?_
        show Steps p.tables e below (T18.setTop (mkF m 104 #[.val (.long q0), .second, .val (.long q1), .second, .val (.int p2), .val (.long (v_fs q0)), .second, .val (.long (v_q q0)), .second, .val (.long (v_r q0)), .second, .val (.long (v_cnt q0)), .second, .val (.int (p2 &&& (3 : Int32))), .val (.long (v_i2 q0)), .second, .unset] [(.long (v_i2 q0))])) _
        refine XS.lload X18.here hx rfl (hb hby at_104) rfl ?_
        show Steps p.tables e below (T18.setTop (mkF m 106 #[.val (.long q0), .second, .val (.long q1), .second, .val (.int p2), .val (.long (v_fs q0)), .second, .val (.long (v_q q0)), .second, .val (.long (v_r q0)), .second, .val (.long (v_cnt q0)), .second, .val (.int (p2 &&& (3 : Int32))), .val (.long (v_i2 q0)), .second, .unset] [(.long (v_q q0)), (.long (v_i2 q0))])) _
        refine XS.lcmp X18.here hx rfl (hb hby at_106) rfl ?_
        exact k
      have pre20 : ∀ t, Steps p.tables e below (T18.setTop (mkF m 118 #[.val (.long q0), .second, .val (.long q1), .second, .val (.int p2), .val (.long (v_fs q0)), .second, .val (.long (v_q q0)), .second, .val (.long (v_r q0)), .second, .val (.long (v_cnt q0)), .second, .val (.int (p2 &&& (3 : Int32))), .val (.long (v_i2 q0)), .second, .unset] [(.int (if (v_i2 q0) < (v_q q0) then (65536 : Int32) else ((v_r q0).toInt32)))])) t → Steps p.tables e below (s₁.setTop (entryFrame m #[(.long q0), (.long q1), (.int p2)] maxLocals)) t := by
        intro t k
        refine pre19 t ?_
        have k : ∀ (v1 : Int32), v1 = (if (v_i2 q0) < (v_q q0) then (65536 : Int32) else ((v_r q0).toInt32)) → Steps p.tables e below (T18.setTop (mkF m 118 #[.val (.long q0), .second, .val (.long q1), .second, .val (.int p2), .val (.long (v_fs q0)), .second, .val (.long (v_q q0)), .second, .val (.long (v_r q0)), .second, .val (.long (v_cnt q0)), .second, .val (.int (p2 &&& (3 : Int32))), .val (.long (v_i2 q0)), .second, .unset] [(.int v1)])) t := fun v1 hv1 => by subst hv1; exact k
        show Steps p.tables e below (T18.setTop (mkF m 107 #[.val (.long q0), .second, .val (.long q1), .second, .val (.int p2), .val (.long (v_fs q0)), .second, .val (.long (v_q q0)), .second, .val (.long (v_r q0)), .second, .val (.long (v_cnt q0)), .second, .val (.int (p2 &&& (3 : Int32))), .val (.long (v_i2 q0)), .second, .unset] [(.int (lcmpW (v_i2 q0) (v_q q0)))])) _
        by_cases hc21 : (v_i2 q0) < (v_q q0)
        · refine XS.ifNo X18.here hx rfl (hb hby at_107) rfl ((if0 _ _).trans (tlt ((lw_lt _ _).mpr hc21)).2.1) ?_
          have k : ∀ (v1 : Int32), v1 = (65536 : Int32) → Steps p.tables e below (T18.setTop (mkF m 118 #[.val (.long q0), .second, .val (.long q1), .second, .val (.int p2), .val (.long (v_fs q0)), .second, .val (.long (v_q q0)), .second, .val (.long (v_r q0)), .second, .val (.long (v_cnt q0)), .second, .val (.int (p2 &&& (3 : Int32))), .val (.long (v_i2 q0)), .second, .unset] [(.int v1)])) t := fun v1 hv1 => k v1 (hv1.trans (if_pos hc21).symm)
          show Steps p.tables e below (T18.setTop (mkF m 110 #[.val (.long q0), .second, .val (.long q1), .second, .val (.int p2), .val (.long (v_fs q0)), .second, .val (.long (v_q q0)), .second, .val (.long (v_r q0)), .second, .val (.long (v_cnt q0)), .second, .val (.int (p2 &&& (3 : Int32))), .val (.long (v_i2 q0)), .second, .unset] [])) _
          refine X18.ldcInt hx hown (mvT hZ (hw _ (List.mem_of_getElem? (i := 11) rfl))) (g := (mkF m 110 #[.val (.long q0), .second, .val (.long q1), .second, .val (.int p2), .val (.long (v_fs q0)), .second, .val (.long (v_q q0)), .second, .val (.long (v_r q0)), .second, .val (.long (v_cnt q0)), .second, .val (.int (p2 &&& (3 : Int32))), .val (.long (v_i2 q0)), .second, .unset] [])) rfl (hb hby at_110) _ ?_
          show Steps p.tables e below (T18.setTop (mkF m 112 #[.val (.long q0), .second, .val (.long q1), .second, .val (.int p2), .val (.long (v_fs q0)), .second, .val (.long (v_q q0)), .second, .val (.long (v_r q0)), .second, .val (.long (v_cnt q0)), .second, .val (.int (p2 &&& (3 : Int32))), .val (.long (v_i2 q0)), .second, .unset] [(.int (65536 : Int32))])) _
          refine XS.goto X18.here hx rfl (pc0 := 112) (pc' := 118) rfl (hb hby at_112) (by decide) (by decide) ?_
          exact k _ rfl
        · refine XS.ifYes X18.here hx rfl (pc0 := 107) (pc' := 115) rfl (hb hby at_107) rfl ((if0 _ _).trans (flt (fun q => hc21 ((lw_lt _ _).mp q))).2.1) (by decide) (by decide) ?_
          have k : ∀ (v1 : Int32), v1 = ((v_r q0).toInt32) → Steps p.tables e below (T18.setTop (mkF m 118 #[.val (.long q0), .second, .val (.long q1), .second, .val (.int p2), .val (.long (v_fs q0)), .second, .val (.long (v_q q0)), .second, .val (.long (v_r q0)), .second, .val (.long (v_cnt q0)), .second, .val (.int (p2 &&& (3 : Int32))), .val (.long (v_i2 q0)), .second, .unset] [(.int v1)])) t := fun v1 hv1 => k v1 (hv1.trans (if_neg hc21).symm)
          show Steps p.tables e below (T18.setTop (mkF m 115 #[.val (.long q0), .second, .val (.long q1), .second, .val (.int p2), .val (.long (v_fs q0)), .second, .val (.long (v_q q0)), .second, .val (.long (v_r q0)), .second, .val (.long (v_cnt q0)), .second, .val (.int (p2 &&& (3 : Int32))), .val (.long (v_i2 q0)), .second, .unset] [])) _
          refine XS.lload X18.here hx rfl (hb hby at_115) rfl ?_
          show Steps p.tables e below (T18.setTop (mkF m 117 #[.val (.long q0), .second, .val (.long q1), .second, .val (.int p2), .val (.long (v_fs q0)), .second, .val (.long (v_q q0)), .second, .val (.long (v_r q0)), .second, .val (.long (v_cnt q0)), .second, .val (.int (p2 &&& (3 : Int32))), .val (.long (v_i2 q0)), .second, .unset] [(.long (v_r q0))])) _
          refine XS.l2i X18.here hx rfl (hb hby at_117) rfl ?_
          exact k _ rfl
      obtain ⟨_, _, ⟨T22, L22, k22, n22⟩, -, X22, ⟨Lc22, hQ22, l22, y22, z22⟩, st22⟩ := Jvm.LawKit.callS X18 hx (y := (⟨"com/example/keelstore/keelstore/protocol/Chunks", "length", "(JJ)I"⟩ : MethodName)) hown (mvT hZ (hw _ (List.mem_of_getElem? (i := 2) rfl))) (mvT hZ (hw _ (List.mem_of_getElem? (i := 3) rfl))) (mvT hZ (hw _ (List.mem_of_getElem? (i := 4) rfl))) (mvT hZ (hw _ (List.mem_of_getElem? (i := 5) rfl))) (by decide) (backOf (W := 0) (rm1 l Z a0 hw [] (v_fs q0) (v_i2 q0) h0 n0 Z0) hZ (hw _ (List.mem_of_getElem? (i := 5) rfl)) (hw _ (List.mem_of_getElem? (i := 4) rfl)) (by decide) (by decide)) (g := (mkF m 124 #[.val (.long q0), .second, .val (.long q1), .second, .val (.int p2), .val (.long (v_fs q0)), .second, .val (.long (v_q q0)), .second, .val (.long (v_r q0)), .second, .val (.long (v_cnt q0)), .second, .val (.int (p2 &&& (3 : Int32))), .val (.long (v_i2 q0)), .second, .val (.int (v_ex_1 q0))] [(.long (v_i2 q0)), (.long (v_fs q0))])) rfl (by rw [hml]; rfl) (argsL := [(.long (v_fs q0)), (.long (v_i2 q0))]) (rest := []) (lenOf pd_0 rfl) rfl (by show 2 * 0 + _ ≤ _; exact Nat.le_of_eq rfl) (hb hby at_124) (fun _ _ => ⟨rfl, e18, (by decide : 0 + 0 ≤ _), (by decide : 0 + 0 ≤ _)⟩)
      dsimp only [Pt.U, Pt.locs, Pt.cells, Pt.slots] at X22 l22 y22 z22 st22 hQ22
      subst l22 y22 z22
      obtain ⟨rfl, N22q, e22⟩ := hQ22
      have N22 := Fr.app N18 N22q
      have pre23 : ∀ t, Steps p.tables e below (T22.setTop (mkF m 129 #[.val (.long q0), .second, .val (.long q1), .second, .val (.int p2), .val (.long (v_fs q0)), .second, .val (.long (v_q q0)), .second, .val (.long (v_r q0)), .second, .val (.long (v_cnt q0)), .second, .val (.int (p2 &&& (3 : Int32))), .val (.long (v_i2 q0)), .second, .val (.int (v_ex_1 q0))] [(.int (v_ex_1 q0)), (.int (F1 (v_fs q0) (v_i2 q0)))])) t → Steps p.tables e below (s₁.setTop (entryFrame m #[(.long q0), (.long q1), (.int p2)] maxLocals)) t := by
        intro t k
        refine pre20 t ?_
        show Steps p.tables e below (T18.setTop (mkF m 118 #[.val (.long q0), .second, .val (.long q1), .second, .val (.int p2), .val (.long (v_fs q0)), .second, .val (.long (v_q q0)), .second, .val (.long (v_r q0)), .second, .val (.long (v_cnt q0)), .second, .val (.int (p2 &&& (3 : Int32))), .val (.long (v_i2 q0)), .second, .unset] [(.int (if (v_i2 q0) < (v_q q0) then (65536 : Int32) else ((v_r q0).toInt32)))])) _
        refine XS.istore X18.here hx rfl (hb hby at_118) rfl (l' := #[.val (.long q0), .second, .val (.long q1), .second, .val (.int p2), .val (.long (v_fs q0)), .second, .val (.long (v_q q0)), .second, .val (.long (v_r q0)), .second, .val (.long (v_cnt q0)), .second, .val (.int (p2 &&& (3 : Int32))), .val (.long (v_i2 q0)), .second, .val (.int (v_ex_1 q0))]) rfl ?_
        show Steps p.tables e below (T18.setTop (mkF m 120 #[.val (.long q0), .second, .val (.long q1), .second, .val (.int p2), .val (.long (v_fs q0)), .second, .val (.long (v_q q0)), .second, .val (.long (v_r q0)), .second, .val (.long (v_cnt q0)), .second, .val (.int (p2 &&& (3 : Int32))), .val (.long (v_i2 q0)), .second, .val (.int (v_ex_1 q0))] [])) _
        refine XS.lload X18.here hx rfl (hb hby at_120) rfl ?_
        show Steps p.tables e below (T18.setTop (mkF m 122 #[.val (.long q0), .second, .val (.long q1), .second, .val (.int p2), .val (.long (v_fs q0)), .second, .val (.long (v_q q0)), .second, .val (.long (v_r q0)), .second, .val (.long (v_cnt q0)), .second, .val (.int (p2 &&& (3 : Int32))), .val (.long (v_i2 q0)), .second, .val (.int (v_ex_1 q0))] [(.long (v_fs q0))])) _
        refine XS.lload X18.here hx rfl (hb hby at_122) rfl ?_
        show Steps p.tables e below (T18.setTop (mkF m 124 #[.val (.long q0), .second, .val (.long q1), .second, .val (.int p2), .val (.long (v_fs q0)), .second, .val (.long (v_q q0)), .second, .val (.long (v_r q0)), .second, .val (.long (v_cnt q0)), .second, .val (.int (p2 &&& (3 : Int32))), .val (.long (v_i2 q0)), .second, .val (.int (v_ex_1 q0))] [(.long (v_i2 q0)), (.long (v_fs q0))])) _
        refine st22 _ ?_
        show Steps p.tables e below (T22.setTop (mkF m 127 #[.val (.long q0), .second, .val (.long q1), .second, .val (.int p2), .val (.long (v_fs q0)), .second, .val (.long (v_q q0)), .second, .val (.long (v_r q0)), .second, .val (.long (v_cnt q0)), .second, .val (.int (p2 &&& (3 : Int32))), .val (.long (v_i2 q0)), .second, .val (.int (v_ex_1 q0))] [(.int (F1 (v_fs q0) (v_i2 q0)))])) _
        refine XS.iload X22.here hx rfl (hb hby at_127) rfl ?_
        exact k
      have pre24 : ∀ t, Steps p.tables e below (T22.setTop (mkF m 137 #[.val (.long q0), .second, .val (.long q1), .second, .val (.int p2), .val (.long (v_fs q0)), .second, .val (.long (v_q q0)), .second, .val (.long (v_r q0)), .second, .val (.long (v_cnt q0)), .second, .val (.int (p2 &&& (3 : Int32))), .val (.long (v_i2 q0)), .second, .val (.int (v_ex_1 q0))] [(.int (b2i (if (F1 (v_fs q0) (v_i2 q0)) = (v_ex_1 q0) then true else false)))])) t → Steps p.tables e below (s₁.setTop (entryFrame m #[(.long q0), (.long q1), (.int p2)] maxLocals)) t := by
        intro t k
        refine pre23 t ?_
        have k : ∀ (v1 : Bool), v1 = (if (F1 (v_fs q0) (v_i2 q0)) = (v_ex_1 q0) then true else false) → Steps p.tables e below (T22.setTop (mkF m 137 #[.val (.long q0), .second, .val (.long q1), .second, .val (.int p2), .val (.long (v_fs q0)), .second, .val (.long (v_q q0)), .second, .val (.long (v_r q0)), .second, .val (.long (v_cnt q0)), .second, .val (.int (p2 &&& (3 : Int32))), .val (.long (v_i2 q0)), .second, .val (.int (v_ex_1 q0))] [(.int (b2i v1))])) t := fun v1 hv1 => by subst hv1; exact k
        show Steps p.tables e below (T22.setTop (mkF m 129 #[.val (.long q0), .second, .val (.long q1), .second, .val (.int p2), .val (.long (v_fs q0)), .second, .val (.long (v_q q0)), .second, .val (.long (v_r q0)), .second, .val (.long (v_cnt q0)), .second, .val (.int (p2 &&& (3 : Int32))), .val (.long (v_i2 q0)), .second, .val (.int (v_ex_1 q0))] [(.int (v_ex_1 q0)), (.int (F1 (v_fs q0) (v_i2 q0)))])) _
        by_cases hc25 : (F1 (v_fs q0) (v_i2 q0)) = (v_ex_1 q0)
        · refine XS.icmpNo X22.here hx rfl (hb hby at_129) rfl (teq hc25).2 ?_
          have k : ∀ (v1 : Bool), v1 = true → Steps p.tables e below (T22.setTop (mkF m 137 #[.val (.long q0), .second, .val (.long q1), .second, .val (.int p2), .val (.long (v_fs q0)), .second, .val (.long (v_q q0)), .second, .val (.long (v_r q0)), .second, .val (.long (v_cnt q0)), .second, .val (.int (p2 &&& (3 : Int32))), .val (.long (v_i2 q0)), .second, .val (.int (v_ex_1 q0))] [(.int (b2i v1))])) t := fun v1 hv1 => k v1 (hv1.trans (if_pos hc25).symm)
          show Steps p.tables e below (T22.setTop (mkF m 132 #[.val (.long q0), .second, .val (.long q1), .second, .val (.int p2), .val (.long (v_fs q0)), .second, .val (.long (v_q q0)), .second, .val (.long (v_r q0)), .second, .val (.long (v_cnt q0)), .second, .val (.int (p2 &&& (3 : Int32))), .val (.long (v_i2 q0)), .second, .val (.int (v_ex_1 q0))] [])) _
          refine XS.iconst X22.here hx rfl (hb hby at_132) ?_
          show Steps p.tables e below (T22.setTop (mkF m 133 #[.val (.long q0), .second, .val (.long q1), .second, .val (.int p2), .val (.long (v_fs q0)), .second, .val (.long (v_q q0)), .second, .val (.long (v_r q0)), .second, .val (.long (v_cnt q0)), .second, .val (.int (p2 &&& (3 : Int32))), .val (.long (v_i2 q0)), .second, .val (.int (v_ex_1 q0))] [(.int (1 : Int32))])) _
          refine XS.goto X22.here hx rfl (pc0 := 133) (pc' := 137) rfl (hb hby at_133) (by decide) (by decide) ?_
          exact k true rfl
        · refine XS.icmpYes X22.here hx rfl (pc0 := 129) (pc' := 136) rfl (hb hby at_129) rfl (feq hc25).2 (by decide) (by decide) ?_
          have k : ∀ (v1 : Bool), v1 = false → Steps p.tables e below (T22.setTop (mkF m 137 #[.val (.long q0), .second, .val (.long q1), .second, .val (.int p2), .val (.long (v_fs q0)), .second, .val (.long (v_q q0)), .second, .val (.long (v_r q0)), .second, .val (.long (v_cnt q0)), .second, .val (.int (p2 &&& (3 : Int32))), .val (.long (v_i2 q0)), .second, .val (.int (v_ex_1 q0))] [(.int (b2i v1))])) t := fun v1 hv1 => k v1 (hv1.trans (if_neg hc25).symm)
          show Steps p.tables e below (T22.setTop (mkF m 136 #[.val (.long q0), .second, .val (.long q1), .second, .val (.int p2), .val (.long (v_fs q0)), .second, .val (.long (v_q q0)), .second, .val (.long (v_r q0)), .second, .val (.long (v_cnt q0)), .second, .val (.int (p2 &&& (3 : Int32))), .val (.long (v_i2 q0)), .second, .val (.int (v_ex_1 q0))] [])) _
          refine XS.iconst X22.here hx rfl (hb hby at_136) ?_
          exact k false rfl
      have hlaw : (if (F1 (v_fs q0) (v_i2 q0)) = (v_ex_1 q0) then true else false) = true := own_law2 q0 p2 hc8 hc17
      obtain ⟨fs, hr, hrun, hended, hW, hsame⟩ := X22.leave (v := some (.int (1 : Int32))) (fun h => by rw [Bd.returns] at h; cases h)
      refine ⟨_, _, pre24 _ ?_, hrun, hended, _, _, rfl, ?_, ⟨_, rfl⟩, hW, hsame.mono (by decide) (by decide)⟩
      · show Steps p.tables e below (T22.setTop (mkF m 137 #[.val (.long q0), .second, .val (.long q1), .second, .val (.int p2), .val (.long (v_fs q0)), .second, .val (.long (v_q q0)), .second, .val (.long (v_r q0)), .second, .val (.long (v_cnt q0)), .second, .val (.int (p2 &&& (3 : Int32))), .val (.long (v_i2 q0)), .second, .val (.int (v_ex_1 q0))] [(.int (b2i (if (F1 (v_fs q0) (v_i2 q0)) = (v_ex_1 q0) then true else false)))])) _
        exact retN X22 hx (t := .boolean) Bd.returns (by simp) (hb hby at_137) (by rw [b2i_one hlaw]; exact hr)
      · show Q0 Z q0 q1 p2 h0 n0 _ T22.heap _
        rw [e22]
        exact ⟨rfl, N22⟩
    ·
      have pre26 : ∀ t, Steps p.tables e below (s₁.setTop (mkF m 107 #[.val (.long q0), .second, .val (.long q1), .second, .val (.int p2), .val (.long (v_fs q0)), .second, .val (.long (v_q q0)), .second, .val (.long (v_r q0)), .second, .val (.long (v_cnt q0)), .second, .val (.int (p2 &&& (3 : Int32))), .val (.long (v_i3 q0 q1)), .second, .unset] [(.int (lcmpW (v_i3 q0 q1) (v_q q0)))])) t → Steps p.tables e below (s₁.setTop (entryFrame m #[(.long q0), (.long q1), (.int p2)] maxLocals)) t := by
        intro t k
        refine pre16 t ?_
        show Steps p.tables e below (s₁.setTop (mkF m 74 #[.val (.long q0), .second, .val (.long q1), .second, .val (.int p2), .val (.long (v_fs q0)), .second, .val (.long (v_q q0)), .second, .val (.long (v_r q0)), .second, .val (.long (v_cnt q0)), .second, .val (.int (p2 &&& (3 : Int32))), .unset, .unset, .unset] [(.int (2 : Int32)), (.int (p2 &&& (3 : Int32)))])) _
        refine XS.icmpYes X0.here hx rfl (pc0 := 74) (pc' := 92) rfl (hb hby at_74) rfl (feq hc17).2 (by decide) (by decide) ?_
        show Steps p.tables e below (s₁.setTop (mkF m 92 #[.val (.long q0), .second, .val (.long q1), .second, .val (.int p2), .val (.long (v_fs q0)), .second, .val (.long (v_q q0)), .second, .val (.long (v_r q0)), .second, .val (.long (v_cnt q0)), .second, .val (.int (p2 &&& (3 : Int32))), .unset, .unset, .unset] [])) _
        refine XS.lloadN X0.here hx rfl (hb hby at_92) rfl ?_
        show Steps p.tables e below (s₁.setTop (mkF m 93 #[.val (.long q0), .second, .val (.long q1), .second, .val (.int p2), .val (.long (v_fs q0)), .second, .val (.long (v_q q0)), .second, .val (.long (v_r q0)), .second, .val (.long (v_cnt q0)), .second, .val (.int (p2 &&& (3 : Int32))), .unset, .unset, .unset] [(.long q1)])) _
        refine X0.ldc2Long hx hown (mvT hZ (hw _ (List.mem_of_getElem? (i := 0) rfl))) (g := (mkF m 93 #[.val (.long q0), .second, .val (.long q1), .second, .val (.int p2), .val (.long (v_fs q0)), .second, .val (.long (v_q q0)), .second, .val (.long (v_r q0)), .second, .val (.long (v_cnt q0)), .second, .val (.int (p2 &&& (3 : Int32))), .unset, .unset, .unset] [(.long q1)])) rfl (hb hby at_93) _ ?_
        show Steps p.tables e below (s₁.setTop (mkF m 96 #[.val (.long q0), .second, .val (.long q1), .second, .val (.int p2), .val (.long (v_fs q0)), .second, .val (.long (v_q q0)), .second, .val (.long (v_r q0)), .second, .val (.long (v_cnt q0)), .second, .val (.int (p2 &&& (3 : Int32))), .unset, .unset, .unset] [(.long (9223372036854775807 : Int64)), (.long q1)])) _
        refine XS.land X0.here hx rfl (hb hby at_96) rfl ?_
        show Steps p.tables e below (s₁.setTop (mkF m 97 #[.val (.long q0), .second, .val (.long q1), .second, .val (.int p2), .val (.long (v_fs q0)), .second, .val (.long (v_q q0)), .second, .val (.long (v_r q0)), .second, .val (.long (v_cnt q0)), .second, .val (.int (p2 &&& (3 : Int32))), .unset, .unset, .unset] [(.long (q1 &&& (9223372036854775807 : Int64)))])) _
        refine XS.lload X0.here hx rfl (hb hby at_97) rfl ?_
        show Steps p.tables e below (s₁.setTop (mkF m 99 #[.val (.long q0), .second, .val (.long q1), .second, .val (.int p2), .val (.long (v_fs q0)), .second, .val (.long (v_q q0)), .second, .val (.long (v_r q0)), .second, .val (.long (v_cnt q0)), .second, .val (.int (p2 &&& (3 : Int32))), .unset, .unset, .unset] [(.long (v_cnt q0)), (.long (q1 &&& (9223372036854775807 : Int64)))])) _
        refine XS.lrem X0.here hx rfl (hb hby at_99) rfl (own_cnt _) ?_
        show Steps p.tables e below (s₁.setTop (mkF m 100 #[.val (.long q0), .second, .val (.long q1), .second, .val (.int p2), .val (.long (v_fs q0)), .second, .val (.long (v_q q0)), .second, .val (.long (v_r q0)), .second, .val (.long (v_cnt q0)), .second, .val (.int (p2 &&& (3 : Int32))), .unset, .unset, .unset] [(.long ((q1 &&& (9223372036854775807 : Int64)) - ((q1 &&& (9223372036854775807 : Int64)) / (v_cnt q0)) * (v_cnt q0)))])) _
        refine XS.lstore X0.here hx rfl (hb hby at_100) rfl (l' := #[.val (.long q0), .second, .val (.long q1), .second, .val (.int p2), .val (.long (v_fs q0)), .second, .val (.long (v_q q0)), .second, .val (.long (v_r q0)), .second, .val (.long (v_cnt q0)), .second, .val (.int (p2 &&& (3 : Int32))), .val (.long (v_i3 q0 q1)), .second, .unset]) rfl ?_
        show Steps p.tables e below (s₁.setTop (mkF m 102 #[.val (.long q0), .second, .val (.long q1), .second, .val (.int p2), .val (.long (v_fs q0)), .second, .val (.long (v_q q0)), .second, .val (.long (v_r q0)), .second, .val (.long (v_cnt q0)), .second, .val (.int (p2 &&& (3 : Int32))), .val (.long (v_i3 q0 q1)), .second, .unset] [])) _
        refine XS.lload X0.here hx rfl (hb hby at_102) rfl ?_
        show Steps p.tables e below (s₁.setTop (mkF m 104 #[.val (.long q0), .second, .val (.long q1), .second, .val (.int p2), .val (.long (v_fs q0)), .second, .val (.long (v_q q0)), .second, .val (.long (v_r q0)), .second, .val (.long (v_cnt q0)), .second, .val (.int (p2 &&& (3 : Int32))), .val (.long (v_i3 q0 q1)), .second, .unset] [(.long (v_i3 q0 q1))])) _
        refine XS.lload X0.here hx rfl (hb hby at_104) rfl ?_
        show Steps p.tables e below (s₁.setTop (mkF m 106 #[.val (.long q0), .second, .val (.long q1), .second, .val (.int p2), .val (.long (v_fs q0)), .second, .val (.long (v_q q0)), .second, .val (.long (v_r q0)), .second, .val (.long (v_cnt q0)), .second, .val (.int (p2 &&& (3 : Int32))), .val (.long (v_i3 q0 q1)), .second, .unset] [(.long (v_q q0)), (.long (v_i3 q0 q1))])) _
        refine XS.lcmp X0.here hx rfl (hb hby at_106) rfl ?_
        exact k
      have pre27 : ∀ t, Steps p.tables e below (s₁.setTop (mkF m 118 #[.val (.long q0), .second, .val (.long q1), .second, .val (.int p2), .val (.long (v_fs q0)), .second, .val (.long (v_q q0)), .second, .val (.long (v_r q0)), .second, .val (.long (v_cnt q0)), .second, .val (.int (p2 &&& (3 : Int32))), .val (.long (v_i3 q0 q1)), .second, .unset] [(.int (if (v_i3 q0 q1) < (v_q q0) then (65536 : Int32) else ((v_r q0).toInt32)))])) t → Steps p.tables e below (s₁.setTop (entryFrame m #[(.long q0), (.long q1), (.int p2)] maxLocals)) t := by
        intro t k
        refine pre26 t ?_
        have k : ∀ (v1 : Int32), v1 = (if (v_i3 q0 q1) < (v_q q0) then (65536 : Int32) else ((v_r q0).toInt32)) → Steps p.tables e below (s₁.setTop (mkF m 118 #[.val (.long q0), .second, .val (.long q1), .second, .val (.int p2), .val (.long (v_fs q0)), .second, .val (.long (v_q q0)), .second, .val (.long (v_r q0)), .second, .val (.long (v_cnt q0)), .second, .val (.int (p2 &&& (3 : Int32))), .val (.long (v_i3 q0 q1)), .second, .unset] [(.int v1)])) t := fun v1 hv1 => by subst hv1; exact k
        show Steps p.tables e below (s₁.setTop (mkF m 107 #[.val (.long q0), .second, .val (.long q1), .second, .val (.int p2), .val (.long (v_fs q0)), .second, .val (.long (v_q q0)), .second, .val (.long (v_r q0)), .second, .val (.long (v_cnt q0)), .second, .val (.int (p2 &&& (3 : Int32))), .val (.long (v_i3 q0 q1)), .second, .unset] [(.int (lcmpW (v_i3 q0 q1) (v_q q0)))])) _
        by_cases hc28 : (v_i3 q0 q1) < (v_q q0)
        · refine XS.ifNo X0.here hx rfl (hb hby at_107) rfl ((if0 _ _).trans (tlt ((lw_lt _ _).mpr hc28)).2.1) ?_
          have k : ∀ (v1 : Int32), v1 = (65536 : Int32) → Steps p.tables e below (s₁.setTop (mkF m 118 #[.val (.long q0), .second, .val (.long q1), .second, .val (.int p2), .val (.long (v_fs q0)), .second, .val (.long (v_q q0)), .second, .val (.long (v_r q0)), .second, .val (.long (v_cnt q0)), .second, .val (.int (p2 &&& (3 : Int32))), .val (.long (v_i3 q0 q1)), .second, .unset] [(.int v1)])) t := fun v1 hv1 => k v1 (hv1.trans (if_pos hc28).symm)
          show Steps p.tables e below (s₁.setTop (mkF m 110 #[.val (.long q0), .second, .val (.long q1), .second, .val (.int p2), .val (.long (v_fs q0)), .second, .val (.long (v_q q0)), .second, .val (.long (v_r q0)), .second, .val (.long (v_cnt q0)), .second, .val (.int (p2 &&& (3 : Int32))), .val (.long (v_i3 q0 q1)), .second, .unset] [])) _
          refine X0.ldcInt hx hown (mvT hZ (hw _ (List.mem_of_getElem? (i := 11) rfl))) (g := (mkF m 110 #[.val (.long q0), .second, .val (.long q1), .second, .val (.int p2), .val (.long (v_fs q0)), .second, .val (.long (v_q q0)), .second, .val (.long (v_r q0)), .second, .val (.long (v_cnt q0)), .second, .val (.int (p2 &&& (3 : Int32))), .val (.long (v_i3 q0 q1)), .second, .unset] [])) rfl (hb hby at_110) _ ?_
          show Steps p.tables e below (s₁.setTop (mkF m 112 #[.val (.long q0), .second, .val (.long q1), .second, .val (.int p2), .val (.long (v_fs q0)), .second, .val (.long (v_q q0)), .second, .val (.long (v_r q0)), .second, .val (.long (v_cnt q0)), .second, .val (.int (p2 &&& (3 : Int32))), .val (.long (v_i3 q0 q1)), .second, .unset] [(.int (65536 : Int32))])) _
          refine XS.goto X0.here hx rfl (pc0 := 112) (pc' := 118) rfl (hb hby at_112) (by decide) (by decide) ?_
          exact k _ rfl
        · refine XS.ifYes X0.here hx rfl (pc0 := 107) (pc' := 115) rfl (hb hby at_107) rfl ((if0 _ _).trans (flt (fun q => hc28 ((lw_lt _ _).mp q))).2.1) (by decide) (by decide) ?_
          have k : ∀ (v1 : Int32), v1 = ((v_r q0).toInt32) → Steps p.tables e below (s₁.setTop (mkF m 118 #[.val (.long q0), .second, .val (.long q1), .second, .val (.int p2), .val (.long (v_fs q0)), .second, .val (.long (v_q q0)), .second, .val (.long (v_r q0)), .second, .val (.long (v_cnt q0)), .second, .val (.int (p2 &&& (3 : Int32))), .val (.long (v_i3 q0 q1)), .second, .unset] [(.int v1)])) t := fun v1 hv1 => k v1 (hv1.trans (if_neg hc28).symm)
          show Steps p.tables e below (s₁.setTop (mkF m 115 #[.val (.long q0), .second, .val (.long q1), .second, .val (.int p2), .val (.long (v_fs q0)), .second, .val (.long (v_q q0)), .second, .val (.long (v_r q0)), .second, .val (.long (v_cnt q0)), .second, .val (.int (p2 &&& (3 : Int32))), .val (.long (v_i3 q0 q1)), .second, .unset] [])) _
          refine XS.lload X0.here hx rfl (hb hby at_115) rfl ?_
          show Steps p.tables e below (s₁.setTop (mkF m 117 #[.val (.long q0), .second, .val (.long q1), .second, .val (.int p2), .val (.long (v_fs q0)), .second, .val (.long (v_q q0)), .second, .val (.long (v_r q0)), .second, .val (.long (v_cnt q0)), .second, .val (.int (p2 &&& (3 : Int32))), .val (.long (v_i3 q0 q1)), .second, .unset] [(.long (v_r q0))])) _
          refine XS.l2i X0.here hx rfl (hb hby at_117) rfl ?_
          exact k _ rfl
      obtain ⟨_, _, ⟨T29, L29, k29, n29⟩, -, X29, ⟨Lc29, hQ29, l29, y29, z29⟩, st29⟩ := Jvm.LawKit.callS X0 hx (y := (⟨"com/example/keelstore/keelstore/protocol/Chunks", "length", "(JJ)I"⟩ : MethodName)) hown (mvT hZ (hw _ (List.mem_of_getElem? (i := 2) rfl))) (mvT hZ (hw _ (List.mem_of_getElem? (i := 3) rfl))) (mvT hZ (hw _ (List.mem_of_getElem? (i := 4) rfl))) (mvT hZ (hw _ (List.mem_of_getElem? (i := 5) rfl))) (by decide) (backOf (W := 0) (rm1 l Z a0 hw [] (v_fs q0) (v_i3 q0 q1) h0 n0 Z0) hZ (hw _ (List.mem_of_getElem? (i := 5) rfl)) (hw _ (List.mem_of_getElem? (i := 4) rfl)) (by decide) (by decide)) (g := (mkF m 124 #[.val (.long q0), .second, .val (.long q1), .second, .val (.int p2), .val (.long (v_fs q0)), .second, .val (.long (v_q q0)), .second, .val (.long (v_r q0)), .second, .val (.long (v_cnt q0)), .second, .val (.int (p2 &&& (3 : Int32))), .val (.long (v_i3 q0 q1)), .second, .val (.int (v_ex_2 q0 q1))] [(.long (v_i3 q0 q1)), (.long (v_fs q0))])) rfl (by rw [hml]; rfl) (argsL := [(.long (v_fs q0)), (.long (v_i3 q0 q1))]) (rest := []) (lenOf pd_0 rfl) rfl (by show 2 * 0 + _ ≤ _; exact Nat.le_of_eq rfl) (hb hby at_124) (fun _ _ => ⟨rfl, e0, (by decide : 0 + 0 ≤ _), (by decide : 0 + 0 ≤ _)⟩)
      dsimp only [Pt.U, Pt.locs, Pt.cells, Pt.slots] at X29 l29 y29 z29 st29 hQ29
      subst l29 y29 z29
      obtain ⟨rfl, N29q, e29⟩ := hQ29
      have N29 := Fr.app N0 N29q
      have pre30 : ∀ t, Steps p.tables e below (T29.setTop (mkF m 129 #[.val (.long q0), .second, .val (.long q1), .second, .val (.int p2), .val (.long (v_fs q0)), .second, .val (.long (v_q q0)), .second, .val (.long (v_r q0)), .second, .val (.long (v_cnt q0)), .second, .val (.int (p2 &&& (3 : Int32))), .val (.long (v_i3 q0 q1)), .second, .val (.int (v_ex_2 q0 q1))] [(.int (v_ex_2 q0 q1)), (.int (F1 (v_fs q0) (v_i3 q0 q1)))])) t → Steps p.tables e below (s₁.setTop (entryFrame m #[(.long q0), (.long q1), (.int p2)] maxLocals)) t := by
        intro t k
        refine pre27 t ?_
        show Steps p.tables e below (s₁.setTop (mkF m 118 #[.val (.long q0), .second, .val (.long q1), .second, .val (.int p2), .val (.long (v_fs q0)), .second, .val (.long (v_q q0)), .second, .val (.long (v_r q0)), .second, .val (.long (v_cnt q0)), .second, .val (.int (p2 &&& (3 : Int32))), .val (.long (v_i3 q0 q1)), .second, .unset] [(.int (if (v_i3 q0 q1) < (v_q q0) then (65536 : Int32) else ((v_r q0).toInt32)))])) _
        refine XS.istore X0.here hx rfl (hb hby at_118) rfl (l' := #[.val (.long q0), .second, .val (.long q1), .second, .val (.int p2), .val (.long (v_fs q0)), .second, .val (.long (v_q q0)), .second, .val (.long (v_r q0)), .second, .val (.long (v_cnt q0)), .second, .val (.int (p2 &&& (3 : Int32))), .val (.long (v_i3 q0 q1)), .second, .val (.int (v_ex_2 q0 q1))]) rfl ?_
        show Steps p.tables e below (s₁.setTop (mkF m 120 #[.val (.long q0), .second, .val (.long q1), .second, .val (.int p2), .val (.long (v_fs q0)), .second, .val (.long (v_q q0)), .second, .val (.long (v_r q0)), .second, .val (.long (v_cnt q0)), .second, .val (.int (p2 &&& (3 : Int32))), .val (.long (v_i3 q0 q1)), .second, .val (.int (v_ex_2 q0 q1))] [])) _
        refine XS.lload X0.here hx rfl (hb hby at_120) rfl ?_
        show Steps p.tables e below (s₁.setTop (mkF m 122 #[.val (.long q0), .second, .val (.long q1), .second, .val (.int p2), .val (.long (v_fs q0)), .second, .val (.long (v_q q0)), .second, .val (.long (v_r q0)), .second, .val (.long (v_cnt q0)), .second, .val (.int (p2 &&& (3 : Int32))), .val (.long (v_i3 q0 q1)), .second, .val (.int (v_ex_2 q0 q1))] [(.long (v_fs q0))])) _
        refine XS.lload X0.here hx rfl (hb hby at_122) rfl ?_
        show Steps p.tables e below (s₁.setTop (mkF m 124 #[.val (.long q0), .second, .val (.long q1), .second, .val (.int p2), .val (.long (v_fs q0)), .second, .val (.long (v_q q0)), .second, .val (.long (v_r q0)), .second, .val (.long (v_cnt q0)), .second, .val (.int (p2 &&& (3 : Int32))), .val (.long (v_i3 q0 q1)), .second, .val (.int (v_ex_2 q0 q1))] [(.long (v_i3 q0 q1)), (.long (v_fs q0))])) _
        refine st29 _ ?_
        show Steps p.tables e below (T29.setTop (mkF m 127 #[.val (.long q0), .second, .val (.long q1), .second, .val (.int p2), .val (.long (v_fs q0)), .second, .val (.long (v_q q0)), .second, .val (.long (v_r q0)), .second, .val (.long (v_cnt q0)), .second, .val (.int (p2 &&& (3 : Int32))), .val (.long (v_i3 q0 q1)), .second, .val (.int (v_ex_2 q0 q1))] [(.int (F1 (v_fs q0) (v_i3 q0 q1)))])) _
        refine XS.iload X29.here hx rfl (hb hby at_127) rfl ?_
        exact k
      have pre31 : ∀ t, Steps p.tables e below (T29.setTop (mkF m 137 #[.val (.long q0), .second, .val (.long q1), .second, .val (.int p2), .val (.long (v_fs q0)), .second, .val (.long (v_q q0)), .second, .val (.long (v_r q0)), .second, .val (.long (v_cnt q0)), .second, .val (.int (p2 &&& (3 : Int32))), .val (.long (v_i3 q0 q1)), .second, .val (.int (v_ex_2 q0 q1))] [(.int (b2i (if (F1 (v_fs q0) (v_i3 q0 q1)) = (v_ex_2 q0 q1) then true else false)))])) t → Steps p.tables e below (s₁.setTop (entryFrame m #[(.long q0), (.long q1), (.int p2)] maxLocals)) t := by
        intro t k
        refine pre30 t ?_
        have k : ∀ (v1 : Bool), v1 = (if (F1 (v_fs q0) (v_i3 q0 q1)) = (v_ex_2 q0 q1) then true else false) → Steps p.tables e below (T29.setTop (mkF m 137 #[.val (.long q0), .second, .val (.long q1), .second, .val (.int p2), .val (.long (v_fs q0)), .second, .val (.long (v_q q0)), .second, .val (.long (v_r q0)), .second, .val (.long (v_cnt q0)), .second, .val (.int (p2 &&& (3 : Int32))), .val (.long (v_i3 q0 q1)), .second, .val (.int (v_ex_2 q0 q1))] [(.int (b2i v1))])) t := fun v1 hv1 => by subst hv1; exact k
        show Steps p.tables e below (T29.setTop (mkF m 129 #[.val (.long q0), .second, .val (.long q1), .second, .val (.int p2), .val (.long (v_fs q0)), .second, .val (.long (v_q q0)), .second, .val (.long (v_r q0)), .second, .val (.long (v_cnt q0)), .second, .val (.int (p2 &&& (3 : Int32))), .val (.long (v_i3 q0 q1)), .second, .val (.int (v_ex_2 q0 q1))] [(.int (v_ex_2 q0 q1)), (.int (F1 (v_fs q0) (v_i3 q0 q1)))])) _
        by_cases hc32 : (F1 (v_fs q0) (v_i3 q0 q1)) = (v_ex_2 q0 q1)
        · refine XS.icmpNo X29.here hx rfl (hb hby at_129) rfl (teq hc32).2 ?_
          have k : ∀ (v1 : Bool), v1 = true → Steps p.tables e below (T29.setTop (mkF m 137 #[.val (.long q0), .second, .val (.long q1), .second, .val (.int p2), .val (.long (v_fs q0)), .second, .val (.long (v_q q0)), .second, .val (.long (v_r q0)), .second, .val (.long (v_cnt q0)), .second, .val (.int (p2 &&& (3 : Int32))), .val (.long (v_i3 q0 q1)), .second, .val (.int (v_ex_2 q0 q1))] [(.int (b2i v1))])) t := fun v1 hv1 => k v1 (hv1.trans (if_pos hc32).symm)
          show Steps p.tables e below (T29.setTop (mkF m 132 #[.val (.long q0), .second, .val (.long q1), .second, .val (.int p2), .val (.long (v_fs q0)), .second, .val (.long (v_q q0)), .second, .val (.long (v_r q0)), .second, .val (.long (v_cnt q0)), .second, .val (.int (p2 &&& (3 : Int32))), .val (.long (v_i3 q0 q1)), .second, .val (.int (v_ex_2 q0 q1))] [])) _
          refine XS.iconst X29.here hx rfl (hb hby at_132) ?_
          show Steps p.tables e below (T29.setTop (mkF m 133 #[.val (.long q0), .second, .val (.long q1), .second, .val (.int p2), .val (.long (v_fs q0)), .second, .val (.long (v_q q0)), .second, .val (.long (v_r q0)), .second, .val (.long (v_cnt q0)), .second, .val (.int (p2 &&& (3 : Int32))), .val (.long (v_i3 q0 q1)), .second, .val (.int (v_ex_2 q0 q1))] [(.int (1 : Int32))])) _
          refine XS.goto X29.here hx rfl (pc0 := 133) (pc' := 137) rfl (hb hby at_133) (by decide) (by decide) ?_
          exact k true rfl
        · refine XS.icmpYes X29.here hx rfl (pc0 := 129) (pc' := 136) rfl (hb hby at_129) rfl (feq hc32).2 (by decide) (by decide) ?_
          have k : ∀ (v1 : Bool), v1 = false → Steps p.tables e below (T29.setTop (mkF m 137 #[.val (.long q0), .second, .val (.long q1), .second, .val (.int p2), .val (.long (v_fs q0)), .second, .val (.long (v_q q0)), .second, .val (.long (v_r q0)), .second, .val (.long (v_cnt q0)), .second, .val (.int (p2 &&& (3 : Int32))), .val (.long (v_i3 q0 q1)), .second, .val (.int (v_ex_2 q0 q1))] [(.int (b2i v1))])) t := fun v1 hv1 => k v1 (hv1.trans (if_neg hc32).symm)
          show Steps p.tables e below (T29.setTop (mkF m 136 #[.val (.long q0), .second, .val (.long q1), .second, .val (.int p2), .val (.long (v_fs q0)), .second, .val (.long (v_q q0)), .second, .val (.long (v_r q0)), .second, .val (.long (v_cnt q0)), .second, .val (.int (p2 &&& (3 : Int32))), .val (.long (v_i3 q0 q1)), .second, .val (.int (v_ex_2 q0 q1))] [])) _
          refine XS.iconst X29.here hx rfl (hb hby at_136) ?_
          exact k false rfl
      have hlaw : (if (F1 (v_fs q0) (v_i3 q0 q1)) = (v_ex_2 q0 q1) then true else false) = true := own_law3 q0 q1 p2 hc8 hc17
      obtain ⟨fs, hr, hrun, hended, hW, hsame⟩ := X29.leave (v := some (.int (1 : Int32))) (fun h => by rw [Bd.returns] at h; cases h)
      refine ⟨_, _, pre31 _ ?_, hrun, hended, _, _, rfl, ?_, ⟨_, rfl⟩, hW, hsame.mono (by decide) (by decide)⟩
      · show Steps p.tables e below (T29.setTop (mkF m 137 #[.val (.long q0), .second, .val (.long q1), .second, .val (.int p2), .val (.long (v_fs q0)), .second, .val (.long (v_q q0)), .second, .val (.long (v_r q0)), .second, .val (.long (v_cnt q0)), .second, .val (.int (p2 &&& (3 : Int32))), .val (.long (v_i3 q0 q1)), .second, .val (.int (v_ex_2 q0 q1))] [(.int (b2i (if (F1 (v_fs q0) (v_i3 q0 q1)) = (v_ex_2 q0 q1) then true else false)))])) _
        exact retN X29 hx (t := .boolean) Bd.returns (by simp) (hb hby at_137) (by rw [b2i_one hlaw]; exact hr)
      · show Q0 Z q0 q1 p2 h0 n0 _ T29.heap _
        rw [e29]
        exact ⟨rfl, N29⟩
set_option maxRecDepth 65536 in
set_option maxHeartbeats 40000000 in
theorem comes_1 {Post : Tables → Env → Array Value → State → Outcome → State → Prop} (hpost : ∀ tb e args s v u, (limb_1_1.after args s (.returned v) u = true ∧ limb_1_2.after args s (.returned v) u = true ∧ True) → FrameEnd s (.returned v) u (Jvm.fieldLocs frame_1_writes args s ++ Jvm.arrayLocs frame_1_arrays args s ++ Jvm.staticLocs frame_1_statics s) 0 0 → Post tb e args s (.returned v) u) :
    ArmFor flags0 classFile x code maxLocals ret World_1 tables_1 room_1 Calls_1 rest_1 Pre_1 Post := by
  intro l hfl _ _ p e ha hc hk s m args below hf hA hF happ hP
  obtain ⟨hcalls, hrest, hpre⟩ := hP
  obtain ⟨-, -, -, hnamed, -, -, -, hat⟩ := (Spec.applies_iff hf).mp happ
  obtain ⟨hg, hn⟩ := and_e (Cond.before_iff.mp (show (Jvm.Cond.and given_1 narrow_1).before args s = true from hpre))
  obtain ⟨g1, g2⟩ := and_e hg
  obtain ⟨g3, g4⟩ := and_e g2
  obtain ⟨g5, g6⟩ := and_e g4
  obtain ⟨w0, w1, w2, rfl⟩ : ∃ w0 w1 w2 : Value, args = #[w0, w1, w2] := by
    have hs : args.size = 3 := by simpa [Cond.value, given_1] using g1
    obtain ⟨L⟩ := args
    match L, hs with
    | [w0, w1, w2], _ => exact ⟨w0, w1, w2, rfl⟩
  have hw := fun d (hd : d ∈ tables_1) => atoms_spec (ws := Jvm.Cond.code x code maxLocals ret :: tables_1) hat d (List.mem_cons_of_mem _ hd)
  obtain ⟨i0, ei0⟩ := isL_v g3
  obtain rfl : w0 = (.long i0) := Option.some.inj ei0
  obtain ⟨i1, ei1⟩ := isL_v g5
  obtain rfl : w1 = (.long i1) := Option.some.inj ei1
  obtain ⟨i2, ei2⟩ := is_v g6
  obtain rfl : w2 = (.int i2) := Option.some.inj ei2
  obtain ⟨n, o, h1, h2, h3, _, L, rfl, ⟨rfl, N⟩, hq⟩ := rm0 l s _ hw tables_1 i0 i1 i2 s.heap s.heap.size (Nat.le_refl _) p e ha hc hk s m _ below hf ((Spec.applies_iff_loose hf).mp happ).1 ⟨rfl, State.Warmed39.refl s, rfl⟩ trivial
  refine ⟨n, _, h1, h2, h3, hpost _ _ _ _ _ _ ⟨Cond.after_iff.mpr rfl, Cond.after_iff.mpr (eq_i res_at (Term.int_eval (1)) rfl), trivial⟩ ⟨hq.1, hq.2.1, (hq.2.2.sift fun y hy => Or.inr (N y hy)).mono (by decide) (by decide)⟩⟩
theorem main_1_1 : Claimed_1_1 := comes_1 fun _ _ _ _ _ _ h hF => ⟨h.1, hF⟩
theorem main_1_2 : Claimed_1_2 := comes_1 fun _ _ _ _ _ _ h hF => ⟨h.2.1, hF⟩
end Jvm.Pilot.@@N@@
namespace Jvm.Pilot.@@N@@
open Jvm Jvm.ClassFile Sem Op Lib Jvm.Free Jvm.Stand Jvm.Pilot.@@N@@.Jvm.D
/-! MADE BY PROGRAM (witnessworld.py) out of the Statement's table words and the real class files: 10 classes; the members and pool entries that the words name. The judged class is class 1, her method 1. -/
namespace start1
open Jvm.ClassFile
def u (s : String) : CpInfo := .utf8 (stringToUtf16 s)
/-- a pool by its gaps: so many unusable entries, then the entry; so many at the end -/
def gap : Nat → List CpInfo → List CpInfo
  | 0, r => r
  | n + 1, r => .unusable :: gap n r
def poolList (es : List (Nat × CpInfo)) (last : Nat) : List CpInfo := es.foldr (fun e r => gap e.1 (e.2 :: r)) (gap last [])
def pool (es : List (Nat × CpInfo)) (last : Nat) : Array CpInfo := ⟨poolList es last⟩
def fileOf (pool : Array CpInfo) (this : Nat) (attrs : Array Attribute := #[]) (ms : Array MethodInfo := #[]) (fl : Nat := 33) (sup : Nat := 0) (ifs : Array Nat := #[]) (fds : Array FieldInfo := #[]) : ClassFile where
  minorVersion := 0
  majorVersion := 65
  constantPool := pool
  accessFlags := fl
  thisClass := this
  superClass := sup
  interfaces := ifs
  fields := fds
  methods := ms
  attributes := attrs
def plain (name : String) (sup : Option ClassId) : Class where
  name := name
  kind := .ordinary
  loader := none
  accessFlags := 33
  super := sup
  interfaces := #[]
  cf := none
  fields := #[]
  methods := #[]
  instanceTypes := #[]
  staticTypes := #[]
  resolved := #[]
  callSites := []
  init := .initialized
  statics := none
  mirror := none

def pool0 : Array CpInfo := pool [(5, u "<init>"), (0, u "()V"), (1, .class_ 10), (1, u "java/lang/Object")] 113

def k0m0 : Method := { name := "<init>", desc := "()V", sig := { parameters := [], returnType := none }, accessFlags := 1, code := none }
/-- java/lang/Object -/
def k0 : Class := { plain "java/lang/Object" none with
  accessFlags := 33
  interfaces := #[]
  cf := some (fileOf pool0 8 #[] #[{ accessFlags := 1, nameIndex := 5, descriptorIndex := 6, attributes := #[] }] 33 0 #[] #[])
  fields := #[]
  methods := #[k0m0]
  instanceTypes := #[]
  staticTypes := #[]
  resolved := Array.replicate 124 none
  statics := none }

def pool1 : Array CpInfo := pool [(2, .class_ 4), (1, u "java/lang/Object"), (0, u "<init>"), (0, u "()V"), (2, .long 9223372036854775807), (1, .long 65536), (1, .long 2), (1, .methodref 16 17), (0, .class_ 18), (0, .nameAndType 19 20), (0, u "java/lang/Math"), (0, u "max"), (0, u "(JJ)J"), (0, .integer 65536), (0, .methodref 23 24), (0, .class_ 25), (0, .nameAndType 26 27), (0, u "com/example/keelstore/keelstore/protocol/Chunks"), (0, u "length"), (0, u "(JJ)I"), (0, .class_ 29), (0, u "com/example/keelstore/keelstore/protocol/ChunksLengthPinLaw"), (2, u "law"), (0, u "(JJI)Z")] 3

def k1m0 : Method := { name := "<init>", desc := "()V", sig := { parameters := [], returnType := none }, accessFlags := 1, code := none }
def k1c1 : Code := { maxStack := 6, maxLocals := 17, code := code, exceptionTable := #[], attributes := #[] }
def k1m1 : Method := { name := "law", desc := "(JJI)Z", sig := { parameters := [.long, .long, .int], returnType := some .boolean }, accessFlags := 9, code := some k1c1 }
/-- com/example/keelstore/keelstore/protocol/ChunksLengthPinLaw -/
def k1 : Class := { plain "com/example/keelstore/keelstore/protocol/ChunksLengthPinLaw" (some 0) with
  accessFlags := 49
  interfaces := #[]
  cf := some (fileOf pool1 28 #[] #[{ accessFlags := 1, nameIndex := 5, descriptorIndex := 6, attributes := #[] }, { accessFlags := 9, nameIndex := 32, descriptorIndex := 33, attributes := #[] }] 49 2 #[] #[])
  fields := #[]
  methods := #[k1m0, k1m1]
  instanceTypes := #[]
  staticTypes := #[]
  resolved := Array.replicate 37 none
  statics := none }

def pool2 : Array CpInfo := pool [(2, .class_ 4), (1, u "java/lang/Object"), (0, u "<init>"), (0, u "()V"), (0, .class_ 8), (0, u "com/example/keelstore/keelstore/protocol/Chunks"), (0, .long 65536), (2, .class_ 14), (1, u "java/lang/Math"), (1, u "(JJ)J"), (0, .methodref 12 18), (0, .nameAndType 19 16), (0, u "min"), (3, u "SIZE"), (0, u "I"), (2, u "SLICE"), (1, u "PER_DELETE"), (6, u "length"), (0, u "(JJ)I")] 4

def k2m0 : Method := { name := "<init>", desc := "()V", sig := { parameters := [], returnType := none }, accessFlags := 2, code := none }
def k2c1 : Code := { maxStack := 8, maxLocals := 4, code := prog_48_method_3_code, exceptionTable := #[], attributes := #[] }
def k2m1 : Method := { name := "length", desc := "(JJ)I", sig := { parameters := [.long, .long], returnType := some .int }, accessFlags := 9, code := some k2c1 }
/-- com/example/keelstore/keelstore/protocol/Chunks -/
def k2 : Class := { plain "com/example/keelstore/keelstore/protocol/Chunks" (some 0) with
  accessFlags := 49
  interfaces := #[]
  cf := some (fileOf pool2 7 #[] #[{ accessFlags := 2, nameIndex := 5, descriptorIndex := 6, attributes := #[] }, { accessFlags := 9, nameIndex := 36, descriptorIndex := 37, attributes := #[] }] 49 2 #[] #[{ accessFlags := 25, nameIndex := 23, descriptorIndex := 24, attributes := #[] }, { accessFlags := 25, nameIndex := 27, descriptorIndex := 24, attributes := #[] }, { accessFlags := 25, nameIndex := 29, descriptorIndex := 24, attributes := #[] }])
  fields := #[{ name := "SIZE", type := .int, accessFlags := 25, slot := 0, constantValue := 0 }, { name := "SLICE", type := .int, accessFlags := 25, slot := 1, constantValue := 0 }, { name := "PER_DELETE", type := .int, accessFlags := 25, slot := 2, constantValue := 0 }]
  methods := #[k2m0, k2m1]
  instanceTypes := #[]
  staticTypes := #[.int, .int, .int]
  resolved := Array.replicate 42 none
  statics := none }

def pool3 : Array CpInfo := pool [(1, .class_ 2), (0, u "java/lang/Math"), (1, .class_ 6), (1, u "java/lang/Object"), (0, u "<init>"), (0, u "()V"), (89, .class_ 100), (1, u "java/lang/Math$RandomNumberGeneratorHolder"), (20, u "(JJ)J"), (50, u "negativeZeroFloatBits"), (0, u "J"), (2, u "negativeZeroDoubleBits"), (21, u "max"), (2, u "min"), (43, u "$assertionsDisabled"), (0, u "Z"), (91, u "twoToTheDoubleScaleDown"), (0, u "D"), (4, u "twoToTheDoubleScaleUp"), (9, u "E"), (3, u "PI"), (2, u "TAU"), (2, u "DEGREES_TO_RADIANS"), (0, u "RADIANS_TO_DEGREES")] 94

def k3m0 : Method := { name := "<init>", desc := "()V", sig := { parameters := [], returnType := none }, accessFlags := 2, code := none }
def k3c1 : Code := { maxStack := 4, maxLocals := 4, code := jdk_29_method_66_code, exceptionTable := #[], attributes := #[] }
def k3m1 : Method := { name := "max", desc := "(JJ)J", sig := { parameters := [.long, .long], returnType := some .long }, accessFlags := 9, code := some k3c1 }
def k3c2 : Code := { maxStack := 4, maxLocals := 4, code := jdk_29_method_70_code, exceptionTable := #[], attributes := #[] }
def k3m2 : Method := { name := "min", desc := "(JJ)J", sig := { parameters := [.long, .long], returnType := some .long }, accessFlags := 9, code := some k3c2 }
/-- java/lang/Math -/
def k3 : Class := { plain "java/lang/Math" (some 0) with
  accessFlags := 49
  interfaces := #[]
  cf := some (fileOf pool3 1 #[.nestMembers #[98]] #[{ accessFlags := 2, nameIndex := 7, descriptorIndex := 8, attributes := #[] }, { accessFlags := 9, nameIndex := 198, descriptorIndex := 121, attributes := #[] }, { accessFlags := 9, nameIndex := 201, descriptorIndex := 121, attributes := #[] }] 49 4 #[] #[{ accessFlags := 25, nameIndex := 354, descriptorIndex := 339, attributes := #[] }, { accessFlags := 25, nameIndex := 358, descriptorIndex := 339, attributes := #[] }, { accessFlags := 25, nameIndex := 361, descriptorIndex := 339, attributes := #[] }, { accessFlags := 26, nameIndex := 364, descriptorIndex := 339, attributes := #[] }, { accessFlags := 26, nameIndex := 365, descriptorIndex := 339, attributes := #[] }, { accessFlags := 26, nameIndex := 172, descriptorIndex := 173, attributes := #[] }, { accessFlags := 26, nameIndex := 176, descriptorIndex := 173, attributes := #[] }, { accessFlags := 8, nameIndex := 344, descriptorIndex := 339, attributes := #[] }, { accessFlags := 8, nameIndex := 338, descriptorIndex := 339, attributes := #[] }, { accessFlags := 4120, nameIndex := 245, descriptorIndex := 246, attributes := #[] }])
  fields := #[{ name := "E", type := .double, accessFlags := 25, slot := 0, constantValue := 0 }, { name := "PI", type := .double, accessFlags := 25, slot := 1, constantValue := 0 }, { name := "TAU", type := .double, accessFlags := 25, slot := 2, constantValue := 0 }, { name := "DEGREES_TO_RADIANS", type := .double, accessFlags := 26, slot := 3, constantValue := 0 }, { name := "RADIANS_TO_DEGREES", type := .double, accessFlags := 26, slot := 4, constantValue := 0 }, { name := "negativeZeroFloatBits", type := .long, accessFlags := 26, slot := 5, constantValue := 0 }, { name := "negativeZeroDoubleBits", type := .long, accessFlags := 26, slot := 6, constantValue := 0 }, { name := "twoToTheDoubleScaleUp", type := .double, accessFlags := 8, slot := 7, constantValue := 0 }, { name := "twoToTheDoubleScaleDown", type := .double, accessFlags := 8, slot := 8, constantValue := 0 }, { name := "$assertionsDisabled", type := .boolean, accessFlags := 4120, slot := 9, constantValue := 0 }]
  methods := #[k3m0, k3m1, k3m2]
  instanceTypes := #[]
  staticTypes := #[.double, .double, .double, .double, .double, .long, .long, .double, .double, .boolean]
  resolved := Array.replicate 460 none
  statics := none }

def pool4 : Array CpInfo := pool [(1, u "java/lang/Cloneable"), (0, .class_ 1), (0, u "java/lang/Object"), (0, .class_ 3)] 3

/-- java/lang/Cloneable -/
def k4 : Class := { plain "java/lang/Cloneable" (some 0) with
  accessFlags := 1537
  interfaces := #[]
  cf := some (fileOf pool4 2 #[] #[] 1537 4 #[] #[])
  fields := #[]
  methods := #[]
  instanceTypes := #[]
  staticTypes := #[]
  resolved := Array.replicate 8 none
  statics := none }

def pool5 : Array CpInfo := pool [(1, u "java/io/Serializable"), (0, .class_ 1), (0, u "java/lang/Object"), (0, .class_ 3)] 3

/-- java/io/Serializable -/
def k5 : Class := { plain "java/io/Serializable" (some 0) with
  accessFlags := 1537
  interfaces := #[]
  cf := some (fileOf pool5 2 #[] #[] 1537 4 #[] #[])
  fields := #[]
  methods := #[]
  instanceTypes := #[]
  staticTypes := #[]
  resolved := Array.replicate 8 none
  statics := none }

/-- the primitive byte -/
def k6 : Class := { plain "byte" none with kind := .primitive 'B', accessFlags := 0x411 }
/-- [B -/
def k7 : Class := { plain "[B" (some 0) with kind := .array 6 .byte, interfaces := #[4, 5], accessFlags := 1041 }

/-- the primitive int -/
def k8 : Class := { plain "int" none with kind := .primitive 'I', accessFlags := 0x411 }
/-- [I -/
def k9 : Class := { plain "[I" (some 0) with kind := .array 8 .int, interfaces := #[4, 5], accessFlags := 1041 }

def heap : Heap := #[]
def classes : Array Class := #[k0, k1, k2, k3, k4, k5, k6, k7, k8, k9]
def interned : List (Array UInt16 × Addr) := []
def slotsUsed : Nat := 0
def theMethod : MethodId := ⟨1, 1⟩
def args0 : Array Value := #[.long 5, .long 7, .int 1]
def aboutOver (below : List Frame) : State where
  vm := { classes := classes, interned := interned.toArray }
  heap := heap
  slotsUsed := slotsUsed
  threads := #[{ frames := .invoking theMethod args0 :: below }]
def below0 : List Frame := [.native { method := ⟨0, 0⟩, args := #[] }]
def about1 : State := aboutOver below0
def p0 : Program := .bare "" "" ""
def e0 : Env := launch0.env 0 0 0
theorem w_frames : about1.frames = Frame.invoking theMethod args0 :: below0 := rfl
set_option maxRecDepth 65536 in
theorem w_args : argsFit about1.vm theMethod args0 = true := by decide +kernel
set_option maxRecDepth 65536 in
theorem w_heap : heapFits about1 = true := by decide +kernel
set_option maxRecDepth 65536 in
theorem w_runnable : about1.curStatus? = some .runnable := by decide +kernel
set_option maxRecDepth 65536 in
theorem w_alone : about1.alone = true := by decide +kernel
set_option maxRecDepth 65536 in
theorem w_named : about1.methodNamed? x = some theMethod := by decide +kernel
set_option maxRecDepth 65536 in
theorem w_hears : about1.hears theMethod below0 = true := by decide +kernel
set_option maxRecDepth 65536 in
theorem w_ripe : about1.ripe theMethod args0 below0 = true := by decide +kernel
theorem w_running : about1.status = .running := rfl
set_option maxRecDepth 65536 in
theorem w_room : about1.hasRoom e0.platform room_1 = true :=
  launch0.hasRoom_least _ room_1 (by decide +kernel) (by decide +kernel) (by decide +kernel) (by decide +kernel) (by decide +kernel) (by decide +kernel)
theorem allAtoms_all (ts : List Jvm.Cond) (a : Array Jvm.Value) (st : Jvm.State) : (allAtoms ts).before a st = ts.all (fun c => c.before a st) := by
  induction ts with
  | nil => rfl
  | cons c t ih =>
    show (Jvm.Cond.and c (allAtoms t)).before a st = _
    rw [Jvm.Cond.before_and, ih, List.all_cons]
def words1 : List Jvm.Cond := Jvm.Cond.code x code maxLocals ret :: tables_1
/-- a 'code' word, met by the world's own term for the bytes: nothing is compared byte by byte -/
theorem code_word {y : MethodName} {bytes : ByteArray} {mx : Nat} {rt : Option FieldType} {a : Array Value} {s : State} {m : MethodId} {meth : Method} {c : Code} (h1 : s.methodNamed? y = some m) (h2 : s.vm.method? m = some meth) (h3 : meth.code = some c) (h4 : c.code = bytes)
    (h5 : (c.maxLocals == mx && c.exceptionTable.isEmpty && decide (c.maxStack ≤ mostOperands) && decide (meth.sig.returnType = rt) && !meth.locks && decide (parseMethodDescriptor y.desc = some meth.sig)) = true) : (Jvm.Cond.code y bytes mx rt).before a s = true := by
  simp only [Bool.and_eq_true, beq_iff_eq, Bool.not_eq_true', decide_eq_true_eq] at h5
  obtain ⟨⟨⟨⟨⟨g1, g2⟩, g3⟩, g4⟩, g5⟩, g6⟩ := h5
  simp [Cond.before, Cond.holds, Cond.value, h1, h2, h3, h4, g1, g2, g3, g4, g5, g6]
def isCode : Jvm.Cond → Bool
  | .code _ _ _ _ => true
  | _ => false
theorem all_split {L : List Jvm.Cond} {P : Jvm.Cond → Bool} (h1 : L.all (fun c => isCode c || P c) = true) (h2 : ∀ c ∈ L.filter isCode, P c = true) : L.all P = true := by
  refine List.all_eq_true.mpr fun c hc => ?_
  have h := List.all_eq_true.mp h1 c hc
  rcases Bool.eq_false_or_eq_true (isCode c) with hi | hi
  · exact h2 c (List.mem_filter.mpr ⟨hc, hi⟩)
  · simpa [hi] using h
set_option maxRecDepth 65536 in
theorem w_c0 : (Jvm.Cond.code x code maxLocals ret).before args0 about1 = true := code_word (m := ⟨1, 1⟩) (meth := k1m1) (c := k1c1) (by decide +kernel) rfl rfl rfl (by decide +kernel)
set_option maxRecDepth 65536 in
theorem w_c1 : (Jvm.Cond.code ({ cls := "com/example/keelstore/keelstore/protocol/Chunks", name := "length", desc := "(JJ)I" } : Jvm.MethodName) prog_48_method_3_code (4 : Nat) (Option.some Jvm.ClassFile.FieldType.int)).before args0 about1 = true := code_word (m := ⟨2, 1⟩) (meth := k2m1) (c := k2c1) (by decide +kernel) rfl rfl rfl (by decide +kernel)
set_option maxRecDepth 65536 in
theorem w_c2 : (Jvm.Cond.code ({ cls := "java/lang/Math", name := "min", desc := "(JJ)J" } : Jvm.MethodName) jdk_29_method_70_code (4 : Nat) (Option.some Jvm.ClassFile.FieldType.long)).before args0 about1 = true := code_word (m := ⟨3, 2⟩) (meth := k3m2) (c := k3c2) (by decide +kernel) rfl rfl rfl (by decide +kernel)
set_option maxRecDepth 65536 in
theorem w_c3 : (Jvm.Cond.code ({ cls := "java/lang/Math", name := "max", desc := "(JJ)J" } : Jvm.MethodName) jdk_29_method_66_code (4 : Nat) (Option.some Jvm.ClassFile.FieldType.long)).before args0 about1 = true := code_word (m := ⟨3, 1⟩) (meth := k3m1) (c := k3c1) (by decide +kernel) rfl rfl rfl (by decide +kernel)
def codes1 : List Jvm.Cond := [Jvm.Cond.code x code maxLocals ret, Jvm.Cond.code ({ cls := "com/example/keelstore/keelstore/protocol/Chunks", name := "length", desc := "(JJ)I" } : Jvm.MethodName) prog_48_method_3_code (4 : Nat) (Option.some Jvm.ClassFile.FieldType.int), Jvm.Cond.code ({ cls := "java/lang/Math", name := "min", desc := "(JJ)J" } : Jvm.MethodName) jdk_29_method_70_code (4 : Nat) (Option.some Jvm.ClassFile.FieldType.long), Jvm.Cond.code ({ cls := "java/lang/Math", name := "max", desc := "(JJ)J" } : Jvm.MethodName) jdk_29_method_66_code (4 : Nat) (Option.some Jvm.ClassFile.FieldType.long)]
set_option maxRecDepth 65536 in
theorem codes_eq : words1.filter isCode = codes1 := rfl
theorem w_codes : ∀ c ∈ words1.filter isCode, c.before args0 about1 = true := by
  rw [codes_eq]
  intro c hc
  simp only [codes1, List.mem_cons, List.not_mem_nil, or_false] at hc
  rcases hc with rfl | rfl | rfl | rfl
  · exact w_c0
  · exact w_c1
  · exact w_c2
  · exact w_c3
set_option maxRecDepth 65536 in
theorem w_t1 : words1.all (fun c => isCode c || c.before args0 about1) = true := by decide +kernel
theorem w_tables : (allAtoms (Jvm.Cond.code x code maxLocals ret :: tables_1)).before args0 about1 = true := by
  rw [allAtoms_all]
  show words1.all (fun c => c.before args0 about1) = true
  refine all_split ?_ w_codes
  rw [w_t1]
set_option maxRecDepth 65536 in
theorem w_case : (Jvm.Cond.and given_1 narrow_1).before args0 about1 = true := by decide +kernel
theorem w_applies : (headSpec (Jvm.Cond.code x code maxLocals ret :: tables_1) room_1).applies x e0.platform about1 = true :=
  (Spec.applies_iff w_frames).mpr ⟨w_running, w_runnable, w_alone, w_named, w_hears, w_ripe, w_room, w_tables⟩
theorem atStart : AtStart classFile x code maxLocals ret World_1 tables_1 room_1 Calls_1 rest_1 Pre_1 launch0 p0 e0 about1 theMethod args0 below0 :=
  ⟨lists_1, trivial, launch0.admits_env _ _ _, launch0.least_env, fairChoices_fair.cas, fairChoices_fair.clock, w_frames, w_args, w_heap, w_applies, trivial, trivial, w_case⟩
end start1
theorem witness_1 : WitnessClaimed_1 := ⟨start1.p0, start1.e0, start1.about1, start1.theMethod, start1.args0, start1.below0, start1.atStart⟩
end Jvm.Pilot.@@N@@
