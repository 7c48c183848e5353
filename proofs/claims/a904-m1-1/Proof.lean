import JvmDerived
import JvmDerived.Pilot.@@N@@Statement
import JvmDerived.Pilot.@@N@@Code
set_option linter.unusedVariables false
set_option linter.unusedSimpArgs false
namespace Jvm.RoadKit
open Sem ClassFile Op Lib Jvm.Stand Jvm.Free Jvm.LawKit
section New
variable {p : Program} {l : Launch} {e : Env} {R : Room} {s : State} {m : MethodId} {args : Array Value} {below : List Frame} {meth : Method} {c : Code} {T : State} {locs : List Loc} {cells slots : Nat}
theorem retI (X : Stand p l e R s m args below meth c T locs cells slots) (hx : p.tables.exec = Jvm.exec) {pc : Nat} {Ls : Array Slot} {z : Int32} {rest : List Value} (hret : meth.sig.returnType = some .int) (hd : decode c.code pc = .ok (.ireturn, 1)) {fs : List Frame}
    (hl : ∀ (f : JFrame) (acts : List Action), f.method = m → f.locked = none → f.entered = [] → (doReturn e (T.setTop f) acts (some (.int z))).1 = T.setFrames fs) : Steps p.tables e below (T.setTop (mkF m pc Ls (.int z :: rest))) (T.setFrames fs) := by
  have hm' : T.vm.method? m = some meth := X.method'
  have hn : narrow .int (.int z) = .int z := rfl
  show Steps p.tables e below (T.setTop { method := m, pc := pc, locals := Ls, stack := _ :: rest, locked := none }) _
  jvm_step X.here [X.here.top, hx, hd, hm', hret, hn]
  first | (intro acts; rw [hl _ acts rfl rfl rfl]) | rw [hl _ _ rfl rfl rfl]
  exact Steps.refl _
end New
end Jvm.RoadKit
namespace Jvm.OwnKit
open Sem ClassFile Op Lib Jvm.Stand Jvm.Free Jvm.LawKit Jvm.RoadKit
def b2i (b : Bool) : Int32 := if b = true then 1 else 0
theorem b2i_eq {b : Bool} (h : ¬ b = true) : b2i b = 0 := if_neg h
theorem b2i_ne {b : Bool} (h : b = true) : ¬ b2i b = 0 := by rw [b2i, if_pos h]; decide
theorem nar_b2i (b : Bool) : nar .boolean (b2i b) = b2i b := by cases b <;> decide
theorem b2i_one {b : Bool} (h : b = true) : nar .boolean (b2i b) = 1 := by rw [h]; decide
end Jvm.OwnKit
namespace Jvm.Pilot.@@N@@
open Jvm Jvm.ClassFile Sem Op Lib Jvm.Free Jvm.Stand Jvm.LawKit Jvm.RoadKit Jvm.OwnKit Bundle Jvm.Pilot.@@N@@.Jvm.D
theorem d2_0 : decode jdk_29_method_66_code 0 = .ok (.lload_n 0, 1) := by decide +kernel
theorem d2_1 : decode jdk_29_method_66_code 1 = .ok (.lload_n 2, 1) := by decide +kernel
theorem d2_2 : decode jdk_29_method_66_code 2 = .ok (.lcmp, 1) := by decide +kernel
theorem d2_3 : decode jdk_29_method_66_code 3 = .ok (.ifCond .lt 7, 3) := by decide +kernel
theorem d2_6 : decode jdk_29_method_66_code 6 = .ok (.lload_n 0, 1) := by decide +kernel
theorem d2_7 : decode jdk_29_method_66_code 7 = .ok (.goto 4, 3) := by decide +kernel
theorem d2_10 : decode jdk_29_method_66_code 10 = .ok (.lload_n 2, 1) := by decide +kernel
theorem d2_11 : decode jdk_29_method_66_code 11 = .ok (.lreturn, 1) := by decide +kernel
theorem ef_2 (m : MethodId) (x0 : Int64) (x1 : Int64) : entryFrame m #[(.long x0), (.long x1)] 4 = mkF m 0 #[.val (.long x0), .second, .val (.long x1), .second] [] := by first | (simp [entryFrame, mkF, argsToLocals, Value.category]; done) | rfl
def F2 (q0 : Int64) (q1 : Int64) : Int64 := (if q0 < q1 then q1 else q0)
def Q2 (Z : State) (q0 : Int64) (q1 : Int64) (h0 : Heap) (n0 : Nat) (v : Option Value) (h : Heap) (L : List Loc) : Prop := v = some (.long (F2 q0 q1)) ∧ Fr n0 L ∧ h = h0
set_option maxRecDepth 65536 in
set_option maxHeartbeats 40000000 in
theorem rm2 (l : Launch) (Z : State) (a0 : Array Value) (hw : ∀ d ∈ tables_1, d.before a0 Z = true) (ws : List Jvm.Cond) (q0 : Int64) (q1 : Int64) (h0 : Heap) (n0 : Nat) (Z0 : n0 ≤ h0.size) :
    MetFree l (⟨"java/lang/Math", "max", "(JJ)J"⟩ : MethodName) (head1 (Jvm.Cond.code (⟨"java/lang/Math", "max", "(JJ)J"⟩ : MethodName) jdk_29_method_66_code 4 (some .long) :: ws) ({ frames := 0, cells := 0, slots := 0, locals := 0 } : Room)) (fun a U => a = #[(.long q0), (.long q1)] ∧ Z.Warmed39 U.vm ∧ U.heap = h0) (fun _ _ _ _ _ => True) (fun _ U o U' => ∃ v L, o = .returned v ∧ Q2 Z q0 q1 h0 n0 v U'.heap L ∧ FrameEnd U o U' L ({ frames := 0, cells := 0, slots := 0, locals := 0 } : Room).cells ({ frames := 0, cells := 0, slots := 0, locals := 0 } : Room).slots) := by
  refine MetFree.of_bodySF (Jvm.Free.JP.mathPlain rfl (by decide +kernel)) hisR ?_
  intro p e s m args below meth c s₁ Bd hml0 hP hK
  obtain ⟨rfl, hZ, hh⟩ := hP
  have hx := Bd.exec
  have hby := Bd.bytes
  have hml : c.maxLocals = 4 := hml0
  have hown : s.vm.findClass "java/lang/Math" = some m.cls := findClass_of_methodNamed Bd.named
  have hnm := (name_of_methodNamed Bd.named Bd.method).1
  have X0 : Stand p l e ({ frames := 0, cells := 0, slots := 0, locals := 0 } : Room) s m #[(.long q0), (.long q1)] below meth c s₁ [] 0 0 := Stand.of_body Bd
  have e0 : s₁.heap = h0 := by rw [← hh, Bd.state]; rfl
  have N0 := Fr.nil n0
  have pre0 : ∀ t, Steps p.tables e below (s₁.setTop (mkF m 0 #[.val (.long q0), .second, .val (.long q1), .second] [])) t → Steps p.tables e below (s₁.setTop (entryFrame m #[(.long q0), (.long q1)] 4)) t := fun t k => castTop (ef_2 m q0 q1) k
  have pre1 : ∀ t, Steps p.tables e below (s₁.setTop (mkF m 3 #[.val (.long q0), .second, .val (.long q1), .second] [(.int (lcmpW q0 q1))])) t → Steps p.tables e below (s₁.setTop (entryFrame m #[(.long q0), (.long q1)] 4)) t := by
    intro t k
    refine pre0 t ?_
    show Steps p.tables e below (s₁.setTop (mkF m 0 #[.val (.long q0), .second, .val (.long q1), .second] [])) _
    refine XS.lloadN X0.here hx rfl (hb hby d2_0) rfl ?_
    show Steps p.tables e below (s₁.setTop (mkF m 1 #[.val (.long q0), .second, .val (.long q1), .second] [(.long q0)])) _
    refine XS.lloadN X0.here hx rfl (hb hby d2_1) rfl ?_
    show Steps p.tables e below (s₁.setTop (mkF m 2 #[.val (.long q0), .second, .val (.long q1), .second] [(.long q1), (.long q0)])) _
    refine XS.lcmp X0.here hx rfl (hb hby d2_2) rfl ?_
    exact k
  have pre2 : ∀ t, Steps p.tables e below (s₁.setTop (mkF m 11 #[.val (.long q0), .second, .val (.long q1), .second] [(.long (if q0 < q1 then q1 else q0))])) t → Steps p.tables e below (s₁.setTop (entryFrame m #[(.long q0), (.long q1)] 4)) t := by
    intro t k
    refine pre1 t ?_
    have k : ∀ (v1 : Int64), v1 = (if q0 < q1 then q1 else q0) → Steps p.tables e below (s₁.setTop (mkF m 11 #[.val (.long q0), .second, .val (.long q1), .second] [(.long v1)])) t := fun v1 hv1 => by subst hv1; exact k
    show Steps p.tables e below (s₁.setTop (mkF m 3 #[.val (.long q0), .second, .val (.long q1), .second] [(.int (lcmpW q0 q1))])) _
    by_cases hc3 : q0 < q1
    · refine XS.ifYes X0.here hx rfl (pc0 := 3) (pc' := 10) rfl (hb hby d2_3) rfl ((if0 _ _).trans (tlt ((lw_lt _ _).mpr hc3)).1) (by decide) (by decide) ?_
      have k : ∀ (v1 : Int64), v1 = q1 → Steps p.tables e below (s₁.setTop (mkF m 11 #[.val (.long q0), .second, .val (.long q1), .second] [(.long v1)])) t := fun v1 hv1 => k v1 (hv1.trans (if_pos hc3).symm)
      show Steps p.tables e below (s₁.setTop (mkF m 10 #[.val (.long q0), .second, .val (.long q1), .second] [])) _
      refine XS.lloadN X0.here hx rfl (hb hby d2_10) rfl ?_
      exact k _ rfl
    · refine XS.ifNo X0.here hx rfl (hb hby d2_3) rfl ((if0 _ _).trans (flt (fun q => hc3 ((lw_lt _ _).mp q))).1) ?_
      have k : ∀ (v1 : Int64), v1 = q0 → Steps p.tables e below (s₁.setTop (mkF m 11 #[.val (.long q0), .second, .val (.long q1), .second] [(.long v1)])) t := fun v1 hv1 => k v1 (hv1.trans (if_neg hc3).symm)
      show Steps p.tables e below (s₁.setTop (mkF m 6 #[.val (.long q0), .second, .val (.long q1), .second] [])) _
      refine XS.lloadN X0.here hx rfl (hb hby d2_6) rfl ?_
      show Steps p.tables e below (s₁.setTop (mkF m 7 #[.val (.long q0), .second, .val (.long q1), .second] [(.long q0)])) _
      refine XS.goto X0.here hx rfl (pc0 := 7) (pc' := 11) rfl (hb hby d2_7) (by decide) (by decide) ?_
      exact k _ rfl
  obtain ⟨fs, hr, hrun, hended, hW, hsame⟩ := X0.leave (v := some (.long (F2 q0 q1))) (fun h => by rw [Bd.returns] at h; cases h) (BodyLoose.notSynchronized Bd)
  refine ⟨_, _, pre2 _ ?_, hrun, hended, _, _, rfl, ?_, ⟨_, rfl⟩, hW, hsame.mono (by decide) (by decide)⟩
  · show Steps p.tables e below (s₁.setTop (mkF m 11 #[.val (.long q0), .second, .val (.long q1), .second] [(.long (if q0 < q1 then q1 else q0))])) _
    exact X0.lreturnOut hx Bd.returns (hb hby d2_11) hr
  · show Q2 Z q0 q1 h0 n0 _ s₁.heap _
    rw [e0]
    exact ⟨rfl, N0, rfl⟩
theorem d1_0 : decode prog_48_method_2_code 0 = .ok (.lconst 1, 1) := by decide +kernel
theorem d1_1 : decode prog_48_method_2_code 1 = .ok (.lload_n 0, 1) := by decide +kernel
theorem d1_2 : decode prog_48_method_2_code 2 = .ok (.ldc2_w 9, 3) := by decide +kernel
theorem d1_5 : decode prog_48_method_2_code 5 = .ok (.ldiv, 1) := by decide +kernel
theorem d1_6 : decode prog_48_method_2_code 6 = .ok (.lload_n 0, 1) := by decide +kernel
theorem d1_7 : decode prog_48_method_2_code 7 = .ok (.ldc2_w 9, 3) := by decide +kernel
theorem d1_10 : decode prog_48_method_2_code 10 = .ok (.lrem, 1) := by decide +kernel
theorem d1_11 : decode prog_48_method_2_code 11 = .ok (.lconst 0, 1) := by decide +kernel
theorem d1_12 : decode prog_48_method_2_code 12 = .ok (.lcmp, 1) := by decide +kernel
theorem d1_13 : decode prog_48_method_2_code 13 = .ok (.ifCond .ne 7, 3) := by decide +kernel
theorem d1_16 : decode prog_48_method_2_code 16 = .ok (.iconst 0, 1) := by decide +kernel
theorem d1_17 : decode prog_48_method_2_code 17 = .ok (.goto 4, 3) := by decide +kernel
theorem d1_20 : decode prog_48_method_2_code 20 = .ok (.iconst 1, 1) := by decide +kernel
theorem d1_21 : decode prog_48_method_2_code 21 = .ok (.i2l, 1) := by decide +kernel
theorem d1_22 : decode prog_48_method_2_code 22 = .ok (.ladd, 1) := by decide +kernel
theorem d1_23 : decode prog_48_method_2_code 23 = .ok (.invokestatic 11, 3) := by decide +kernel
theorem d1_26 : decode prog_48_method_2_code 26 = .ok (.lreturn, 1) := by decide +kernel
theorem pn_1 : plainName "com/example/keelstore/keelstore/protocol/Chunks" = true := by first | (simp [plainName, overriddenIn]; done) | decide +kernel
theorem pd_1 : parseMethodDescriptor "(JJ)J" = some ⟨[.long, .long], some .long⟩ := by decide +kernel
theorem ef_1 (m : MethodId) (x0 : Int64) : entryFrame m #[(.long x0)] 2 = mkF m 0 #[.val (.long x0), .second] [] := by first | (simp [entryFrame, mkF, argsToLocals, Value.category]; done) | rfl
def F1 (q0 : Int64) : Int64 := (F2 (1 : Int64) ((q0 / (65536 : Int64)) + ((b2i (if (q0 - (q0 / (65536 : Int64)) * (65536 : Int64)) = (0 : Int64) then false else true)).toInt64)))
def Q1 (Z : State) (q0 : Int64) (h0 : Heap) (n0 : Nat) (v : Option Value) (h : Heap) (L : List Loc) : Prop := v = some (.long (F1 q0)) ∧ Fr n0 L ∧ h = h0
set_option maxRecDepth 65536 in
set_option maxHeartbeats 40000000 in
theorem rm1 (l : Launch) (Z : State) (a0 : Array Value) (hw : ∀ d ∈ tables_1, d.before a0 Z = true) (ws : List Jvm.Cond) (q0 : Int64) (h0 : Heap) (n0 : Nat) (Z0 : n0 ≤ h0.size) :
    MetFree l (⟨"com/example/keelstore/keelstore/protocol/Chunks", "count", "(J)J"⟩ : MethodName) (head1 (Jvm.Cond.code (⟨"com/example/keelstore/keelstore/protocol/Chunks", "count", "(J)J"⟩ : MethodName) prog_48_method_2_code 2 (some .long) :: ws) ({ frames := 1, cells := 0, slots := 0, locals := 15 } : Room)) (fun a U => a = #[(.long q0)] ∧ Z.Warmed39 U.vm ∧ U.heap = h0) (fun _ _ _ _ _ => True) (fun _ U o U' => ∃ v L, o = .returned v ∧ Q1 Z q0 h0 n0 v U'.heap L ∧ FrameEnd U o U' L ({ frames := 1, cells := 0, slots := 0, locals := 15 } : Room).cells ({ frames := 1, cells := 0, slots := 0, locals := 15 } : Room).slots) := by
  refine MetFree.of_bodySF (plainFor_of_name pn_1) hisR ?_
  intro p e s m args below meth c s₁ Bd hml0 hP hK
  obtain ⟨rfl, hZ, hh⟩ := hP
  have hx := Bd.exec
  have hby := Bd.bytes
  have hml : c.maxLocals = 2 := hml0
  have hown : s.vm.findClass "com/example/keelstore/keelstore/protocol/Chunks" = some m.cls := findClass_of_methodNamed Bd.named
  have hnm := (name_of_methodNamed Bd.named Bd.method).1
  have X0 : Stand p l e ({ frames := 1, cells := 0, slots := 0, locals := 15 } : Room) s m #[(.long q0)] below meth c s₁ [] 0 0 := Stand.of_body Bd
  have e0 : s₁.heap = h0 := by rw [← hh, Bd.state]; rfl
  have N0 := Fr.nil n0
  have pre0 : ∀ t, Steps p.tables e below (s₁.setTop (mkF m 0 #[.val (.long q0), .second] [])) t → Steps p.tables e below (s₁.setTop (entryFrame m #[(.long q0)] 2)) t := fun t k => castTop (ef_1 m q0) k
  have pre1 : ∀ t, Steps p.tables e below (s₁.setTop (mkF m 13 #[.val (.long q0), .second] [(.int (lcmpW (q0 - (q0 / (65536 : Int64)) * (65536 : Int64)) (0 : Int64))), (.long (q0 / (65536 : Int64))), (.long (1 : Int64))])) t → Steps p.tables e below (s₁.setTop (entryFrame m #[(.long q0)] 2)) t := by
    intro t k
    refine pre0 t ?_
    show Steps p.tables e below (s₁.setTop (mkF m 0 #[.val (.long q0), .second] [])) _
    refine XS.lconst X0.here hx rfl (hb hby d1_0) ?_
    show Steps p.tables e below (s₁.setTop (mkF m 1 #[.val (.long q0), .second] [(.long (1 : Int64))])) _
    refine XS.lloadN X0.here hx rfl (hb hby d1_1) rfl ?_
    show Steps p.tables e below (s₁.setTop (mkF m 2 #[.val (.long q0), .second] [(.long q0), (.long (1 : Int64))])) _
    refine X0.ldc2Long hx hown (mvT hZ (hw _ (List.mem_of_getElem? (i := 5) rfl))) (g := (mkF m 2 #[.val (.long q0), .second] [(.long q0), (.long (1 : Int64))])) rfl (hb hby d1_2) _ ?_
    show Steps p.tables e below (s₁.setTop (mkF m 5 #[.val (.long q0), .second] [(.long (65536 : Int64)), (.long q0), (.long (1 : Int64))])) _
    refine XS.ldiv X0.here hx rfl (hb hby d1_5) rfl (by decide) ?_
    show Steps p.tables e below (s₁.setTop (mkF m 6 #[.val (.long q0), .second] [(.long (q0 / (65536 : Int64))), (.long (1 : Int64))])) _
    refine XS.lloadN X0.here hx rfl (hb hby d1_6) rfl ?_
    show Steps p.tables e below (s₁.setTop (mkF m 7 #[.val (.long q0), .second] [(.long q0), (.long (q0 / (65536 : Int64))), (.long (1 : Int64))])) _
    refine X0.ldc2Long hx hown (mvT hZ (hw _ (List.mem_of_getElem? (i := 5) rfl))) (g := (mkF m 7 #[.val (.long q0), .second] [(.long q0), (.long (q0 / (65536 : Int64))), (.long (1 : Int64))])) rfl (hb hby d1_7) _ ?_
    show Steps p.tables e below (s₁.setTop (mkF m 10 #[.val (.long q0), .second] [(.long (65536 : Int64)), (.long q0), (.long (q0 / (65536 : Int64))), (.long (1 : Int64))])) _
    refine XS.lrem X0.here hx rfl (hb hby d1_10) rfl (by decide) ?_
    show Steps p.tables e below (s₁.setTop (mkF m 11 #[.val (.long q0), .second] [(.long (q0 - (q0 / (65536 : Int64)) * (65536 : Int64))), (.long (q0 / (65536 : Int64))), (.long (1 : Int64))])) _
    refine XS.lconst X0.here hx rfl (hb hby d1_11) ?_
    show Steps p.tables e below (s₁.setTop (mkF m 12 #[.val (.long q0), .second] [(.long (0 : Int64)), (.long (q0 - (q0 / (65536 : Int64)) * (65536 : Int64))), (.long (q0 / (65536 : Int64))), (.long (1 : Int64))])) _
    refine XS.lcmp X0.here hx rfl (hb hby d1_12) rfl ?_
    exact k
  have pre2 : ∀ t, Steps p.tables e below (s₁.setTop (mkF m 21 #[.val (.long q0), .second] [(.int (b2i (if (q0 - (q0 / (65536 : Int64)) * (65536 : Int64)) = (0 : Int64) then false else true))), (.long (q0 / (65536 : Int64))), (.long (1 : Int64))])) t → Steps p.tables e below (s₁.setTop (entryFrame m #[(.long q0)] 2)) t := by
    intro t k
    refine pre1 t ?_
    have k : ∀ (v1 : Bool), v1 = (if (q0 - (q0 / (65536 : Int64)) * (65536 : Int64)) = (0 : Int64) then false else true) → Steps p.tables e below (s₁.setTop (mkF m 21 #[.val (.long q0), .second] [(.int (b2i v1)), (.long (q0 / (65536 : Int64))), (.long (1 : Int64))])) t := fun v1 hv1 => by subst hv1; exact k
    show Steps p.tables e below (s₁.setTop (mkF m 13 #[.val (.long q0), .second] [(.int (lcmpW (q0 - (q0 / (65536 : Int64)) * (65536 : Int64)) (0 : Int64))), (.long (q0 / (65536 : Int64))), (.long (1 : Int64))])) _
    by_cases hc3 : (q0 - (q0 / (65536 : Int64)) * (65536 : Int64)) = (0 : Int64)
    · refine XS.ifNo X0.here hx rfl (hb hby d1_13) rfl ((if0 _ _).trans (teq ((lw_eq _ _).mpr hc3)).2) ?_
      have k : ∀ (v1 : Bool), v1 = false → Steps p.tables e below (s₁.setTop (mkF m 21 #[.val (.long q0), .second] [(.int (b2i v1)), (.long (q0 / (65536 : Int64))), (.long (1 : Int64))])) t := fun v1 hv1 => k v1 (hv1.trans (if_pos hc3).symm)
      show Steps p.tables e below (s₁.setTop (mkF m 16 #[.val (.long q0), .second] [(.long (q0 / (65536 : Int64))), (.long (1 : Int64))])) _
      refine XS.iconst X0.here hx rfl (hb hby d1_16) ?_
      show Steps p.tables e below (s₁.setTop (mkF m 17 #[.val (.long q0), .second] [(.int (0 : Int32)), (.long (q0 / (65536 : Int64))), (.long (1 : Int64))])) _
      refine XS.goto X0.here hx rfl (pc0 := 17) (pc' := 21) rfl (hb hby d1_17) (by decide) (by decide) ?_
      exact k false rfl
    · refine XS.ifYes X0.here hx rfl (pc0 := 13) (pc' := 20) rfl (hb hby d1_13) rfl ((if0 _ _).trans (feq (fun q => hc3 ((lw_eq _ _).mp q))).2) (by decide) (by decide) ?_
      have k : ∀ (v1 : Bool), v1 = true → Steps p.tables e below (s₁.setTop (mkF m 21 #[.val (.long q0), .second] [(.int (b2i v1)), (.long (q0 / (65536 : Int64))), (.long (1 : Int64))])) t := fun v1 hv1 => k v1 (hv1.trans (if_neg hc3).symm)
      show Steps p.tables e below (s₁.setTop (mkF m 20 #[.val (.long q0), .second] [(.long (q0 / (65536 : Int64))), (.long (1 : Int64))])) _
      refine XS.iconst X0.here hx rfl (hb hby d1_20) ?_
      exact k true rfl
  obtain ⟨_, _, ⟨T4, L4, k4, n4⟩, -, X4, ⟨Lc4, hQ4, l4, y4, z4⟩, st4⟩ := Jvm.LawKit.callS X0 hx (y := (⟨"java/lang/Math", "max", "(JJ)J"⟩ : MethodName)) hown (mvT hZ (hw _ (List.mem_of_getElem? (i := 6) rfl))) (mvT hZ (hw _ (List.mem_of_getElem? (i := 7) rfl))) (mvT hZ (hw _ (List.mem_of_getElem? (i := 8) rfl))) (mvT hZ (hw _ (List.mem_of_getElem? (i := 9) rfl))) (by decide) (backOf (W := 0) (rm2 l Z a0 hw [] (1 : Int64) ((q0 / (65536 : Int64)) + ((b2i (if (q0 - (q0 / (65536 : Int64)) * (65536 : Int64)) = (0 : Int64) then false else true)).toInt64)) h0 n0 Z0) hZ (hw _ (List.mem_of_getElem? (i := 9) rfl)) (hw _ (List.mem_of_getElem? (i := 8) rfl)) (by decide) (by decide)) (g := (mkF m 23 #[.val (.long q0), .second] [(.long ((q0 / (65536 : Int64)) + ((b2i (if (q0 - (q0 / (65536 : Int64)) * (65536 : Int64)) = (0 : Int64) then false else true)).toInt64))), (.long (1 : Int64))])) rfl (by rw [hml]; rfl) (argsL := [(.long (1 : Int64)), (.long ((q0 / (65536 : Int64)) + ((b2i (if (q0 - (q0 / (65536 : Int64)) * (65536 : Int64)) = (0 : Int64) then false else true)).toInt64)))]) (rest := []) (lenOf pd_1 rfl) rfl (by show 2 * 0 + _ ≤ _; exact Nat.le_of_eq rfl) (hb hby d1_23) (fun _ _ => ⟨rfl, e0, (by decide : 0 + 0 ≤ _), (by decide : 0 + 0 ≤ _)⟩)
  dsimp only [Pt.U, Pt.locs, Pt.cells, Pt.slots] at X4 l4 y4 z4 st4 hQ4
  subst l4 y4 z4
  obtain ⟨rfl, N4q, e4⟩ := hQ4
  have N4 := Fr.app N0 N4q
  have pre5 : ∀ t, Steps p.tables e below (T4.setTop (mkF m 26 #[.val (.long q0), .second] [(.long (F2 (1 : Int64) ((q0 / (65536 : Int64)) + ((b2i (if (q0 - (q0 / (65536 : Int64)) * (65536 : Int64)) = (0 : Int64) then false else true)).toInt64))))])) t → Steps p.tables e below (s₁.setTop (entryFrame m #[(.long q0)] 2)) t := by
    intro t k
    refine pre2 t ?_
    show Steps p.tables e below (s₁.setTop (mkF m 21 #[.val (.long q0), .second] [(.int (b2i (if (q0 - (q0 / (65536 : Int64)) * (65536 : Int64)) = (0 : Int64) then false else true))), (.long (q0 / (65536 : Int64))), (.long (1 : Int64))])) _
    refine XS.i2l X0.here hx rfl (hb hby d1_21) rfl ?_
    show Steps p.tables e below (s₁.setTop (mkF m 22 #[.val (.long q0), .second] [(.long ((b2i (if (q0 - (q0 / (65536 : Int64)) * (65536 : Int64)) = (0 : Int64) then false else true)).toInt64)), (.long (q0 / (65536 : Int64))), (.long (1 : Int64))])) _
    refine XS.ladd X0.here hx rfl (hb hby d1_22) rfl ?_
    show Steps p.tables e below (s₁.setTop (mkF m 23 #[.val (.long q0), .second] [(.long ((q0 / (65536 : Int64)) + ((b2i (if (q0 - (q0 / (65536 : Int64)) * (65536 : Int64)) = (0 : Int64) then false else true)).toInt64))), (.long (1 : Int64))])) _
    refine st4 _ ?_
    exact k
  obtain ⟨fs, hr, hrun, hended, hW, hsame⟩ := X4.leave (v := some (.long (F1 q0))) (fun h => by rw [Bd.returns] at h; cases h) (BodyLoose.notSynchronized Bd)
  refine ⟨_, _, pre5 _ ?_, hrun, hended, _, _, rfl, ?_, ⟨_, rfl⟩, hW, hsame.mono (by decide) (by decide)⟩
  · show Steps p.tables e below (T4.setTop (mkF m 26 #[.val (.long q0), .second] [(.long (F2 (1 : Int64) ((q0 / (65536 : Int64)) + ((b2i (if (q0 - (q0 / (65536 : Int64)) * (65536 : Int64)) = (0 : Int64) then false else true)).toInt64))))])) _
    exact X4.lreturnOut hx Bd.returns (hb hby d1_26) hr
  · show Q1 Z q0 h0 n0 _ T4.heap _
    rw [e4]
    exact ⟨rfl, N4, rfl⟩
theorem pn_0 : plainName "com/example/keelstore/keelstore/protocol/ChunksCountPinLaw" = true := by first | (simp [plainName, overriddenIn]; done) | decide +kernel
theorem pd_0 : parseMethodDescriptor "(J)J" = some ⟨[.long], some .long⟩ := by decide +kernel
theorem ef_0 (m : MethodId) (x0 : Int64) (x1 : Int32) : entryFrame m #[(.long x0), (.int x1)] maxLocals = mkF m 0 #[.val (.long x0), .second, .val (.int x1), .unset, .unset, .unset, .unset, .unset, .unset, .unset, .unset] [] := by first | (simp [entryFrame, mkF, argsToLocals, Value.category, maxLocals]; done) | rfl
def v_g (q0 : Int64) : Int64 := (q0 &&& (9223372036854775807 : Int64))
def v_c (q0 : Int64) : Int64 := (F1 (v_g q0))
def v_base (q0 : Int64) : Int64 := (((v_c q0) - (1 : Int64)) * (65536 : Int64))
def v_rem (q0 : Int64) : Int64 := ((v_g q0) - (v_base q0))
def lawE1 (q0 : Int64) : Bool := (if (v_c q0) < (1 : Int64) then false else (if (140737488355327 : Int64) < ((v_c q0) - (1 : Int64)) then false else (if (v_rem q0) < (0 : Int64) then false else (if (65536 : Int64) < (v_rem q0) then false else (if (v_rem q0) = (0 : Int64) then (if (v_c q0) = (1 : Int64) then true else false) else true)))))
def v_k (q0 : Int64) : Int64 := (q0 &&& (140737488355327 : Int64))
def v_d (p1 : Int32) : Int64 := (((((p1.toUInt32 >>> ((1 : Int32) &&& 31).toUInt32).toInt32) % (3 : Int32)) - (1 : Int32)).toInt64)
def v_f (q0 : Int64) (p1 : Int32) : Int64 := (F2 (0 : Int64) (((v_k q0) <<< ((16 : Int32) &&& 0x3f).toInt64) + (v_d p1)))
def v_c_1 (q0 : Int64) (p1 : Int32) : Int64 := (F1 (v_f q0 p1))
def v_base_1 (q0 : Int64) (p1 : Int32) : Int64 := (((v_c_1 q0 p1) - (1 : Int64)) * (65536 : Int64))
def v_rem_1 (q0 : Int64) (p1 : Int32) : Int64 := ((v_f q0 p1) - (v_base_1 q0 p1))
def lawE2 (q0 : Int64) (p1 : Int32) : Bool := (if (v_c_1 q0 p1) < (1 : Int64) then false else (if (140737488355327 : Int64) < ((v_c_1 q0 p1) - (1 : Int64)) then false else (if (v_rem_1 q0 p1) < (0 : Int64) then false else (if (65536 : Int64) < (v_rem_1 q0 p1) then false else (if (v_rem_1 q0 p1) = (0 : Int64) then (if (v_c_1 q0 p1) = (1 : Int64) then true else false) else true)))))
theorem own_max (a b : Int64) : (a.toInt < b.toInt → (F2 a b).toInt = b.toInt) ∧ (¬ a.toInt < b.toInt → (F2 a b).toInt = a.toInt) := by
  unfold F2
  simp only [Int64.lt_iff_toInt_lt]
  split <;> omega
theorem own_count (f : Int64) (h0 : 0 ≤ f.toInt) : (f.toInt = 0 → (F1 f).toInt = 1) ∧ (0 < f.toInt → (F1 f).toInt = (f.toInt + 65535) / 65536) := by
  have a1 := (c_ldiv f 65536 65536 (by decide) (by decide)).1 h0
  have a2 := (c_lrem f 65536 65536 (by decide)).1 h0
  have l0 : (0 : Int64).toInt = 0 := by decide
  have l1 : (1 : Int64).toInt = 1 := by decide
  have r := rng64 f
  obtain ⟨b, hb⟩ : ∃ b, b = (if (f - (f / (65536 : Int64)) * (65536 : Int64)) = (0 : Int64) then false else true) := ⟨_, rfl⟩
  have hb' : ((b2i b).toInt64.toInt = 0 ∧ f.toInt % 65536 = 0) ∨ ((b2i b).toInt64.toInt = 1 ∧ f.toInt % 65536 ≠ 0) := by
    by_cases q : (f - (f / (65536 : Int64)) * (65536 : Int64)) = (0 : Int64)
    · rw [if_pos q] at hb
      rw [q, l0] at a2
      rw [hb]; exact Or.inl ⟨by decide, by omega⟩
    · rw [if_neg q] at hb
      rw [hb]
      refine Or.inr ⟨by decide, fun w => q ?_⟩
      rw [← Int64.toInt_inj, a2, l0, w]
  have a3 := c_ladd (f / 65536) (b2i b).toInt64
  have a4 := rng64 (f / 65536 + (b2i b).toInt64)
  have a5 := own_max 1 (f / 65536 + (b2i b).toInt64)
  have e : F1 f = F2 1 (f / 65536 + (b2i b).toInt64) := by rw [hb]; rfl
  rw [e]
  omega
theorem own_gen (f : Int64) (h0 : 0 ≤ f.toInt) : (if (F1 f) < (1 : Int64) then false else (if (140737488355327 : Int64) < ((F1 f) - (1 : Int64)) then false else (if (f - (((F1 f) - (1 : Int64)) * (65536 : Int64))) < (0 : Int64) then false else (if (65536 : Int64) < (f - (((F1 f) - (1 : Int64)) * (65536 : Int64))) then false else (if (f - (((F1 f) - (1 : Int64)) * (65536 : Int64))) = (0 : Int64) then (if (F1 f) = (1 : Int64) then true else false) else true))))) = true := by
  obtain ⟨c0, c1⟩ := own_count f h0
  have l0 : (0 : Int64).toInt = 0 := by decide
  have l1 : (1 : Int64).toInt = 1 := by decide
  have l2 : (140737488355327 : Int64).toInt = 140737488355327 := by decide
  have l3 : (65536 : Int64).toInt = 65536 := by decide
  have r := rng64 f
  have a1 := c_lsub (F1 f) 1
  have a2 := rng64 (F1 f - 1)
  have a3 := c_lmul (F1 f - 1) 65536
  have a4 := rng64 ((F1 f - 1) * 65536)
  have a5 := c_lsub f ((F1 f - 1) * 65536)
  have a6 := rng64 (f - (F1 f - 1) * 65536)
  rw [l3] at a3
  generalize F1 f - 1 = u at *
  generalize F1 f = c at *
  simp only [Int64.lt_iff_toInt_lt, ← Int64.toInt_inj]
  repeat' split
  all_goals first | rfl | (exfalso; omega)
theorem own_law1 (q0 : Int64) (p1 : Int32) (hc2 : (p1 &&& (1 : Int32)) = (0 : Int32)) : lawE1 q0 = true := by
  have h := c_maskL q0 9223372036854775807 63 (by decide) (by decide)
  exact own_gen (v_g q0) (by show 0 ≤ (q0 &&& 9223372036854775807).toInt; omega)
theorem own_law2 (q0 : Int64) (p1 : Int32) (hc2 : ¬ ((p1 &&& (1 : Int32)) = (0 : Int32))) : lawE2 q0 p1 = true := by
  have l0 : (0 : Int64).toInt = 0 := by decide
  refine own_gen (v_f q0 p1) ?_
  unfold v_f
  have := own_max 0 ((v_k q0 <<< ((16 : Int32) &&& 0x3f).toInt64) + v_d p1)
  omega
def Q0 (Z : State) (q0 : Int64) (p1 : Int32) (h0 : Heap) (n0 : Nat) (v : Option Value) (h : Heap) (L : List Loc) : Prop := v = some (.int (1 : Int32)) ∧ Fr n0 L
set_option maxRecDepth 65536 in
set_option maxHeartbeats 40000000 in
theorem rm0 (l : Launch) (Z : State) (a0 : Array Value) (hw : ∀ d ∈ tables_1, d.before a0 Z = true) (ws : List Jvm.Cond) (q0 : Int64) (p1 : Int32) (h0 : Heap) (n0 : Nat) (Z0 : n0 ≤ h0.size) :
    MetFree l x (head1 (Jvm.Cond.code x code maxLocals ret :: ws) room_1) (fun a U => a = #[(.long q0), (.int p1)] ∧ Z.Warmed39 U.vm ∧ U.heap = h0) (fun _ _ _ _ _ => True) (fun _ U o U' => ∃ v L, o = .returned v ∧ Q0 Z q0 p1 h0 n0 v U'.heap L ∧ FrameEnd U o U' L room_1.cells room_1.slots) := by
  refine MetFree.of_bodySF (plainFor_of_name pn_0) hisR ?_
  intro p e s m args below meth c s₁ Bd hml0 hP hK
  obtain ⟨rfl, hZ, hh⟩ := hP
  have hx := Bd.exec
  have hby := Bd.bytes
  have hml : c.maxLocals = 11 := hml0
  have hown : s.vm.findClass "com/example/keelstore/keelstore/protocol/ChunksCountPinLaw" = some m.cls := findClass_of_methodNamed Bd.named
  have hnm := (name_of_methodNamed Bd.named Bd.method).1
  have X0 : Stand p l e room_1 s m #[(.long q0), (.int p1)] below meth c s₁ [] 0 0 := Stand.of_body Bd
  have e0 : s₁.heap = h0 := by rw [← hh, Bd.state]; rfl
  have N0 := Fr.nil n0
  have pre0 : ∀ t, Steps p.tables e below (s₁.setTop (mkF m 0 #[.val (.long q0), .second, .val (.int p1), .unset, .unset, .unset, .unset, .unset, .unset, .unset, .unset] [])) t → Steps p.tables e below (s₁.setTop (entryFrame m #[(.long q0), (.int p1)] maxLocals)) t := fun t k => castTop (ef_0 m q0 p1) k
  have pre1 : ∀ t, Steps p.tables e below (s₁.setTop (mkF m 3 #[.val (.long q0), .second, .val (.int p1), .unset, .unset, .unset, .unset, .unset, .unset, .unset, .unset] [(.int (p1 &&& (1 : Int32)))])) t → Steps p.tables e below (s₁.setTop (entryFrame m #[(.long q0), (.int p1)] maxLocals)) t := by
    intro t k
    refine pre0 t ?_
    show Steps p.tables e below (s₁.setTop (mkF m 0 #[.val (.long q0), .second, .val (.int p1), .unset, .unset, .unset, .unset, .unset, .unset, .unset, .unset] [])) _
    refine XS.iloadN X0.here hx rfl (hb hby at_0) rfl ?_
    show Steps p.tables e below (s₁.setTop (mkF m 1 #[.val (.long q0), .second, .val (.int p1), .unset, .unset, .unset, .unset, .unset, .unset, .unset, .unset] [(.int p1)])) _
    refine XS.iconst X0.here hx rfl (hb hby at_1) ?_
    show Steps p.tables e below (s₁.setTop (mkF m 2 #[.val (.long q0), .second, .val (.int p1), .unset, .unset, .unset, .unset, .unset, .unset, .unset, .unset] [(.int (1 : Int32)), (.int p1)])) _
    refine XS.iand X0.here hx rfl (hb hby at_2) rfl ?_
    exact k
  by_cases hc2 : (p1 &&& (1 : Int32)) = (0 : Int32)
  ·
    obtain ⟨_, _, ⟨T3, L3, k3, n3⟩, -, X3, ⟨Lc3, hQ3, l3, y3, z3⟩, st3⟩ := Jvm.LawKit.callS X0 hx (y := (⟨"com/example/keelstore/keelstore/protocol/Chunks", "count", "(J)J"⟩ : MethodName)) hown (mvT hZ (hw _ (List.mem_of_getElem? (i := 1) rfl))) (mvT hZ (hw _ (List.mem_of_getElem? (i := 2) rfl))) (mvT hZ (hw _ (List.mem_of_getElem? (i := 3) rfl))) (mvT hZ (hw _ (List.mem_of_getElem? (i := 4) rfl))) (by decide) (backOf (W := 0) (rm1 l Z a0 hw [] (v_g q0) h0 n0 Z0) hZ (hw _ (List.mem_of_getElem? (i := 4) rfl)) (hw _ (List.mem_of_getElem? (i := 3) rfl)) (by decide) (by decide)) (g := (mkF m 46 #[.val (.long q0), .second, .val (.int p1), .val (.long (v_g q0)), .second, .unset, .unset, .unset, .unset, .unset, .unset] [(.long (v_g q0))])) rfl (by rw [hml]; rfl) (argsL := [(.long (v_g q0))]) (rest := []) (lenOf pd_0 rfl) rfl (by show 2 * 0 + _ ≤ _; exact Nat.le_of_eq rfl) (hb hby at_46) (fun _ _ => ⟨rfl, e0, (by decide : 0 + 0 ≤ _), (by decide : 0 + 0 ≤ _)⟩)
    dsimp only [Pt.U, Pt.locs, Pt.cells, Pt.slots] at X3 l3 y3 z3 st3 hQ3
    subst l3 y3 z3
    obtain ⟨rfl, N3q, e3⟩ := hQ3
    have N3 := Fr.app N0 N3q
    have pre4 : ∀ t, Steps p.tables e below (T3.setTop (mkF m 55 #[.val (.long q0), .second, .val (.int p1), .val (.long (v_g q0)), .second, .val (.long (v_c q0)), .second, .unset, .unset, .unset, .unset] [(.int (lcmpW (v_c q0) (1 : Int64)))])) t → Steps p.tables e below (s₁.setTop (entryFrame m #[(.long q0), (.int p1)] maxLocals)) t := by
      intro t k
      refine pre1 t ?_
      show Steps p.tables e below (s₁.setTop (mkF m 3 #[.val (.long q0), .second, .val (.int p1), .unset, .unset, .unset, .unset, .unset, .unset, .unset, .unset] [(.int (p1 &&& (1 : Int32)))])) _
      refine XS.ifYes X0.here hx rfl (pc0 := 3) (pc' := 39) rfl (hb hby at_3) rfl ((if0 _ _).trans (teq hc2).1) (by decide) (by decide) ?_
      show Steps p.tables e below (s₁.setTop (mkF m 39 #[.val (.long q0), .second, .val (.int p1), .unset, .unset, .unset, .unset, .unset, .unset, .unset, .unset] [])) _
      refine XS.lloadN X0.here hx rfl (hb hby at_39) rfl ?_
      show Steps p.tables e below (s₁.setTop (mkF m 40 #[.val (.long q0), .second, .val (.int p1), .unset, .unset, .unset, .unset, .unset, .unset, .unset, .unset] [(.long q0)])) _
      refine X0.ldc2Long hx hown (mvT hZ (hw _ (List.mem_of_getElem? (i := 0) rfl))) (g := (mkF m 40 #[.val (.long q0), .second, .val (.int p1), .unset, .unset, .unset, .unset, .unset, .unset, .unset, .unset] [(.long q0)])) rfl (hb hby at_40) _ ?_
      show Steps p.tables e below (s₁.setTop (mkF m 43 #[.val (.long q0), .second, .val (.int p1), .unset, .unset, .unset, .unset, .unset, .unset, .unset, .unset] [(.long (9223372036854775807 : Int64)), (.long q0)])) _
      refine XS.land X0.here hx rfl (hb hby at_43) rfl ?_
      show Steps p.tables e below (s₁.setTop (mkF m 44 #[.val (.long q0), .second, .val (.int p1), .unset, .unset, .unset, .unset, .unset, .unset, .unset, .unset] [(.long (q0 &&& (9223372036854775807 : Int64)))])) _
      refine XS.lstoreN X0.here hx rfl (hb hby at_44) rfl (l' := #[.val (.long q0), .second, .val (.int p1), .val (.long (v_g q0)), .second, .unset, .unset, .unset, .unset, .unset, .unset]) rfl ?_
      show Steps p.tables e below (s₁.setTop (mkF m 45 #[.val (.long q0), .second, .val (.int p1), .val (.long (v_g q0)), .second, .unset, .unset, .unset, .unset, .unset, .unset] [])) _
      refine XS.lloadN X0.here hx rfl (hb hby at_45) rfl ?_
      show Steps p.tables e below (s₁.setTop (mkF m 46 #[.val (.long q0), .second, .val (.int p1), .val (.long (v_g q0)), .second, .unset, .unset, .unset, .unset, .unset, .unset] [(.long (v_g q0))])) _
      refine st3 _ ?_
      show Steps p.tables e below (T3.setTop (mkF m 49 #[.val (.long q0), .second, .val (.int p1), .val (.long (v_g q0)), .second, .unset, .unset, .unset, .unset, .unset, .unset] [(.long (F1 (v_g q0)))])) _
      refine XS.lstore X3.here hx rfl (hb hby at_49) rfl (l' := #[.val (.long q0), .second, .val (.int p1), .val (.long (v_g q0)), .second, .val (.long (v_c q0)), .second, .unset, .unset, .unset, .unset]) rfl ?_
      show Steps p.tables e below (T3.setTop (mkF m 51 #[.val (.long q0), .second, .val (.int p1), .val (.long (v_g q0)), .second, .val (.long (v_c q0)), .second, .unset, .unset, .unset, .unset] [])) _
      refine XS.lload X3.here hx rfl (hb hby at_51) rfl ?_
      show Steps p.tables e below (T3.setTop (mkF m 53 #[.val (.long q0), .second, .val (.int p1), .val (.long (v_g q0)), .second, .val (.long (v_c q0)), .second, .unset, .unset, .unset, .unset] [(.long (v_c q0))])) _
      refine XS.lconst X3.here hx rfl (hb hby at_53) ?_
      show Steps p.tables e below (T3.setTop (mkF m 54 #[.val (.long q0), .second, .val (.int p1), .val (.long (v_g q0)), .second, .val (.long (v_c q0)), .second, .unset, .unset, .unset, .unset] [(.long (1 : Int64)), (.long (v_c q0))])) _
      refine XS.lcmp X3.here hx rfl (hb hby at_54) rfl ?_
      exact k
    have hlaw : (if (v_c q0) < (1 : Int64) then false else (if (140737488355327 : Int64) < ((v_c q0) - (1 : Int64)) then false else (if (v_rem q0) < (0 : Int64) then false else (if (65536 : Int64) < (v_rem q0) then false else (if (v_rem q0) = (0 : Int64) then (if (v_c q0) = (1 : Int64) then true else false) else true))))) = true := own_law1 q0 p1 hc2
    obtain ⟨fs, hr, hrun, hended, hW, hsame⟩ := X3.leave (v := some (.int (1 : Int32))) (fun h => by rw [Bd.returns] at h; cases h) (BodyLoose.notSynchronized Bd)
    refine ⟨_, _, pre4 _ ?_, hrun, hended, _, _, rfl, ?_, ⟨_, rfl⟩, hW, hsame.mono (by decide) (by decide)⟩
    · have k : ∀ (v1 : Bool), v1 = (if (v_c q0) < (1 : Int64) then false else (if (140737488355327 : Int64) < ((v_c q0) - (1 : Int64)) then false else (if (v_rem q0) < (0 : Int64) then false else (if (65536 : Int64) < (v_rem q0) then false else (if (v_rem q0) = (0 : Int64) then (if (v_c q0) = (1 : Int64) then true else false) else true))))) → ∀ (f : JFrame) (acts : List Action), f.method = m → f.locked = none → f.entered = [] → (doReturn e (T3.setTop f) acts (some (.int (b2i v1)))).1 = T3.setFrames fs := fun v1 hv1 => by rw [hv1.trans hlaw]; exact hr
      have nd5 : (∀ (v1 : Bool), v1 = false → ∀ (f : JFrame) (acts : List Action), f.method = m → f.locked = none → f.entered = [] → (doReturn e (T3.setTop f) acts (some (.int (b2i v1)))).1 = T3.setFrames fs) → Steps p.tables e below (T3.setTop (mkF m 105 #[.val (.long q0), .second, .val (.int p1), .val (.long (v_g q0)), .second, .val (.long (v_c q0)), .second, .val (.long (v_base q0)), .second, .val (.long (v_rem q0)), .second] [])) (T3.setFrames fs) := by
        intro k
        show Steps p.tables e below (T3.setTop (mkF m 105 #[.val (.long q0), .second, .val (.int p1), .val (.long (v_g q0)), .second, .val (.long (v_c q0)), .second, .val (.long (v_base q0)), .second, .val (.long (v_rem q0)), .second] [])) _
        refine XS.iconst X3.here hx rfl (hb hby at_105) ?_
        show Steps p.tables e below (T3.setTop (mkF m 106 #[.val (.long q0), .second, .val (.int p1), .val (.long (v_g q0)), .second, .val (.long (v_c q0)), .second, .val (.long (v_base q0)), .second, .val (.long (v_rem q0)), .second] [(.int (0 : Int32))])) _
        exact retN X3 hx (t := .boolean) Bd.returns (by simp) (hb hby at_106) (k false rfl)
      have nd6 : (∀ (v1 : Bool), v1 = true → ∀ (f : JFrame) (acts : List Action), f.method = m → f.locked = none → f.entered = [] → (doReturn e (T3.setTop f) acts (some (.int (b2i v1)))).1 = T3.setFrames fs) → Steps p.tables e below (T3.setTop (mkF m 123 #[.val (.long q0), .second, .val (.int p1), .val (.long (v_g q0)), .second, .val (.long (v_c q0)), .second, .val (.long (v_base q0)), .second, .val (.long (v_rem q0)), .second] [])) (T3.setFrames fs) := by
        intro k
        show Steps p.tables e below (T3.setTop (mkF m 123 #[.val (.long q0), .second, .val (.int p1), .val (.long (v_g q0)), .second, .val (.long (v_c q0)), .second, .val (.long (v_base q0)), .second, .val (.long (v_rem q0)), .second] [])) _
        refine XS.iconst X3.here hx rfl (hb hby at_123) ?_
        show Steps p.tables e below (T3.setTop (mkF m 124 #[.val (.long q0), .second, .val (.int p1), .val (.long (v_g q0)), .second, .val (.long (v_c q0)), .second, .val (.long (v_base q0)), .second, .val (.long (v_rem q0)), .second] [(.int (1 : Int32))])) _
        exact retN X3 hx (t := .boolean) Bd.returns (by simp) (hb hby at_124) (k true rfl)
      show Steps p.tables e below (T3.setTop (mkF m 55 #[.val (.long q0), .second, .val (.int p1), .val (.long (v_g q0)), .second, .val (.long (v_c q0)), .second, .unset, .unset, .unset, .unset] [(.int (lcmpW (v_c q0) (1 : Int64)))])) _
      by_cases hc7 : (v_c q0) < (1 : Int64)
      · refine XS.ifNo X3.here hx rfl (hb hby at_55) rfl ((if0 _ _).trans (tlt ((lw_lt _ _).mpr hc7)).2.1) ?_
        have k : ∀ (v1 : Bool), v1 = false → ∀ (f : JFrame) (acts : List Action), f.method = m → f.locked = none → f.entered = [] → (doReturn e (T3.setTop f) acts (some (.int (b2i v1)))).1 = T3.setFrames fs := fun v1 hv1 => k v1 (hv1.trans (if_pos hc7).symm)
        show Steps p.tables e below (T3.setTop (mkF m 58 #[.val (.long q0), .second, .val (.int p1), .val (.long (v_g q0)), .second, .val (.long (v_c q0)), .second, .unset, .unset, .unset, .unset] [])) _
        refine XS.iconst X3.here hx rfl (hb hby at_58) ?_
        show Steps p.tables e below (T3.setTop (mkF m 59 #[.val (.long q0), .second, .val (.int p1), .val (.long (v_g q0)), .second, .val (.long (v_c q0)), .second, .unset, .unset, .unset, .unset] [(.int (0 : Int32))])) _
        exact retN X3 hx (t := .boolean) Bd.returns (by simp) (hb hby at_59) (k false rfl)
      · refine XS.ifYes X3.here hx rfl (pc0 := 55) (pc' := 60) rfl (hb hby at_55) rfl ((if0 _ _).trans (flt (fun q => hc7 ((lw_lt _ _).mp q))).2.1) (by decide) (by decide) ?_
        have k : ∀ (v1 : Bool), v1 = (if (140737488355327 : Int64) < ((v_c q0) - (1 : Int64)) then false else (if (v_rem q0) < (0 : Int64) then false else (if (65536 : Int64) < (v_rem q0) then false else (if (v_rem q0) = (0 : Int64) then (if (v_c q0) = (1 : Int64) then true else false) else true)))) → ∀ (f : JFrame) (acts : List Action), f.method = m → f.locked = none → f.entered = [] → (doReturn e (T3.setTop f) acts (some (.int (b2i v1)))).1 = T3.setFrames fs := fun v1 hv1 => k v1 (hv1.trans (if_neg hc7).symm)
        show Steps p.tables e below (T3.setTop (mkF m 60 #[.val (.long q0), .second, .val (.int p1), .val (.long (v_g q0)), .second, .val (.long (v_c q0)), .second, .unset, .unset, .unset, .unset] [])) _
        refine XS.lload X3.here hx rfl (hb hby at_60) rfl ?_
        show Steps p.tables e below (T3.setTop (mkF m 62 #[.val (.long q0), .second, .val (.int p1), .val (.long (v_g q0)), .second, .val (.long (v_c q0)), .second, .unset, .unset, .unset, .unset] [(.long (v_c q0))])) _
        refine XS.lconst X3.here hx rfl (hb hby at_62) ?_
        show Steps p.tables e below (T3.setTop (mkF m 63 #[.val (.long q0), .second, .val (.int p1), .val (.long (v_g q0)), .second, .val (.long (v_c q0)), .second, .unset, .unset, .unset, .unset] [(.long (1 : Int64)), (.long (v_c q0))])) _
        refine XS.lsub X3.here hx rfl (hb hby at_63) rfl ?_
        show Steps p.tables e below (T3.setTop (mkF m 64 #[.val (.long q0), .second, .val (.int p1), .val (.long (v_g q0)), .second, .val (.long (v_c q0)), .second, .unset, .unset, .unset, .unset] [(.long ((v_c q0) - (1 : Int64)))])) _
        refine X3.ldc2Long hx hown (mvT hZ (hw _ (List.mem_of_getElem? (i := 10) rfl))) (g := (mkF m 64 #[.val (.long q0), .second, .val (.int p1), .val (.long (v_g q0)), .second, .val (.long (v_c q0)), .second, .unset, .unset, .unset, .unset] [(.long ((v_c q0) - (1 : Int64)))])) rfl (hb hby at_64) _ ?_
        show Steps p.tables e below (T3.setTop (mkF m 67 #[.val (.long q0), .second, .val (.int p1), .val (.long (v_g q0)), .second, .val (.long (v_c q0)), .second, .unset, .unset, .unset, .unset] [(.long (140737488355327 : Int64)), (.long ((v_c q0) - (1 : Int64)))])) _
        refine XS.lcmp X3.here hx rfl (hb hby at_67) rfl ?_
        show Steps p.tables e below (T3.setTop (mkF m 68 #[.val (.long q0), .second, .val (.int p1), .val (.long (v_g q0)), .second, .val (.long (v_c q0)), .second, .unset, .unset, .unset, .unset] [(.int (lcmpW ((v_c q0) - (1 : Int64)) (140737488355327 : Int64)))])) _
        by_cases hc8 : (140737488355327 : Int64) < ((v_c q0) - (1 : Int64))
        · refine XS.ifNo X3.here hx rfl (hb hby at_68) rfl ((if0 _ _).trans (tlt ((lw_gt _ _).mpr hc8)).2.2.2) ?_
          have k : ∀ (v1 : Bool), v1 = false → ∀ (f : JFrame) (acts : List Action), f.method = m → f.locked = none → f.entered = [] → (doReturn e (T3.setTop f) acts (some (.int (b2i v1)))).1 = T3.setFrames fs := fun v1 hv1 => k v1 (hv1.trans (if_pos hc8).symm)
          show Steps p.tables e below (T3.setTop (mkF m 71 #[.val (.long q0), .second, .val (.int p1), .val (.long (v_g q0)), .second, .val (.long (v_c q0)), .second, .unset, .unset, .unset, .unset] [])) _
          refine XS.iconst X3.here hx rfl (hb hby at_71) ?_
          show Steps p.tables e below (T3.setTop (mkF m 72 #[.val (.long q0), .second, .val (.int p1), .val (.long (v_g q0)), .second, .val (.long (v_c q0)), .second, .unset, .unset, .unset, .unset] [(.int (0 : Int32))])) _
          exact retN X3 hx (t := .boolean) Bd.returns (by simp) (hb hby at_72) (k false rfl)
        · refine XS.ifYes X3.here hx rfl (pc0 := 68) (pc' := 73) rfl (hb hby at_68) rfl ((if0 _ _).trans (flt (fun q => hc8 ((lw_gt _ _).mp q))).2.2.2) (by decide) (by decide) ?_
          have k : ∀ (v1 : Bool), v1 = (if (v_rem q0) < (0 : Int64) then false else (if (65536 : Int64) < (v_rem q0) then false else (if (v_rem q0) = (0 : Int64) then (if (v_c q0) = (1 : Int64) then true else false) else true))) → ∀ (f : JFrame) (acts : List Action), f.method = m → f.locked = none → f.entered = [] → (doReturn e (T3.setTop f) acts (some (.int (b2i v1)))).1 = T3.setFrames fs := fun v1 hv1 => k v1 (hv1.trans (if_neg hc8).symm)
          show Steps p.tables e below (T3.setTop (mkF m 73 #[.val (.long q0), .second, .val (.int p1), .val (.long (v_g q0)), .second, .val (.long (v_c q0)), .second, .unset, .unset, .unset, .unset] [])) _
          refine XS.lload X3.here hx rfl (hb hby at_73) rfl ?_
          show Steps p.tables e below (T3.setTop (mkF m 75 #[.val (.long q0), .second, .val (.int p1), .val (.long (v_g q0)), .second, .val (.long (v_c q0)), .second, .unset, .unset, .unset, .unset] [(.long (v_c q0))])) _
          refine XS.lconst X3.here hx rfl (hb hby at_75) ?_
          show Steps p.tables e below (T3.setTop (mkF m 76 #[.val (.long q0), .second, .val (.int p1), .val (.long (v_g q0)), .second, .val (.long (v_c q0)), .second, .unset, .unset, .unset, .unset] [(.long (1 : Int64)), (.long (v_c q0))])) _
          refine XS.lsub X3.here hx rfl (hb hby at_76) rfl ?_
          show Steps p.tables e below (T3.setTop (mkF m 77 #[.val (.long q0), .second, .val (.int p1), .val (.long (v_g q0)), .second, .val (.long (v_c q0)), .second, .unset, .unset, .unset, .unset] [(.long ((v_c q0) - (1 : Int64)))])) _
          refine X3.ldc2Long hx hown (mvT hZ (hw _ (List.mem_of_getElem? (i := 11) rfl))) (g := (mkF m 77 #[.val (.long q0), .second, .val (.int p1), .val (.long (v_g q0)), .second, .val (.long (v_c q0)), .second, .unset, .unset, .unset, .unset] [(.long ((v_c q0) - (1 : Int64)))])) rfl (hb hby at_77) _ ?_
          show Steps p.tables e below (T3.setTop (mkF m 80 #[.val (.long q0), .second, .val (.int p1), .val (.long (v_g q0)), .second, .val (.long (v_c q0)), .second, .unset, .unset, .unset, .unset] [(.long (65536 : Int64)), (.long ((v_c q0) - (1 : Int64)))])) _
          refine XS.lmul X3.here hx rfl (hb hby at_80) rfl ?_
          show Steps p.tables e below (T3.setTop (mkF m 81 #[.val (.long q0), .second, .val (.int p1), .val (.long (v_g q0)), .second, .val (.long (v_c q0)), .second, .unset, .unset, .unset, .unset] [(.long (((v_c q0) - (1 : Int64)) * (65536 : Int64)))])) _
          refine XS.lstore X3.here hx rfl (hb hby at_81) rfl (l' := #[.val (.long q0), .second, .val (.int p1), .val (.long (v_g q0)), .second, .val (.long (v_c q0)), .second, .val (.long (v_base q0)), .second, .unset, .unset]) rfl ?_
          show Steps p.tables e below (T3.setTop (mkF m 83 #[.val (.long q0), .second, .val (.int p1), .val (.long (v_g q0)), .second, .val (.long (v_c q0)), .second, .val (.long (v_base q0)), .second, .unset, .unset] [])) _
          refine XS.lloadN X3.here hx rfl (hb hby at_83) rfl ?_
          show Steps p.tables e below (T3.setTop (mkF m 84 #[.val (.long q0), .second, .val (.int p1), .val (.long (v_g q0)), .second, .val (.long (v_c q0)), .second, .val (.long (v_base q0)), .second, .unset, .unset] [(.long (v_g q0))])) _
          refine XS.lload X3.here hx rfl (hb hby at_84) rfl ?_
          show Steps p.tables e below (T3.setTop (mkF m 86 #[.val (.long q0), .second, .val (.int p1), .val (.long (v_g q0)), .second, .val (.long (v_c q0)), .second, .val (.long (v_base q0)), .second, .unset, .unset] [(.long (v_base q0)), (.long (v_g q0))])) _
          refine XS.lsub X3.here hx rfl (hb hby at_86) rfl ?_
          show Steps p.tables e below (T3.setTop (mkF m 87 #[.val (.long q0), .second, .val (.int p1), .val (.long (v_g q0)), .second, .val (.long (v_c q0)), .second, .val (.long (v_base q0)), .second, .unset, .unset] [(.long ((v_g q0) - (v_base q0)))])) _
          refine XS.lstore X3.here hx rfl (hb hby at_87) rfl (l' := #[.val (.long q0), .second, .val (.int p1), .val (.long (v_g q0)), .second, .val (.long (v_c q0)), .second, .val (.long (v_base q0)), .second, .val (.long (v_rem q0)), .second]) rfl ?_
          show Steps p.tables e below (T3.setTop (mkF m 89 #[.val (.long q0), .second, .val (.int p1), .val (.long (v_g q0)), .second, .val (.long (v_c q0)), .second, .val (.long (v_base q0)), .second, .val (.long (v_rem q0)), .second] [])) _
          refine XS.lload X3.here hx rfl (hb hby at_89) rfl ?_
          show Steps p.tables e below (T3.setTop (mkF m 91 #[.val (.long q0), .second, .val (.int p1), .val (.long (v_g q0)), .second, .val (.long (v_c q0)), .second, .val (.long (v_base q0)), .second, .val (.long (v_rem q0)), .second] [(.long (v_rem q0))])) _
          refine XS.lconst X3.here hx rfl (hb hby at_91) ?_
          show Steps p.tables e below (T3.setTop (mkF m 92 #[.val (.long q0), .second, .val (.int p1), .val (.long (v_g q0)), .second, .val (.long (v_c q0)), .second, .val (.long (v_base q0)), .second, .val (.long (v_rem q0)), .second] [(.long (0 : Int64)), (.long (v_rem q0))])) _
          refine XS.lcmp X3.here hx rfl (hb hby at_92) rfl ?_
          show Steps p.tables e below (T3.setTop (mkF m 93 #[.val (.long q0), .second, .val (.int p1), .val (.long (v_g q0)), .second, .val (.long (v_c q0)), .second, .val (.long (v_base q0)), .second, .val (.long (v_rem q0)), .second] [(.int (lcmpW (v_rem q0) (0 : Int64)))])) _
          by_cases hc9 : (v_rem q0) < (0 : Int64)
          · refine XS.ifYes X3.here hx rfl (pc0 := 93) (pc' := 105) rfl (hb hby at_93) rfl ((if0 _ _).trans (tlt ((lw_lt _ _).mpr hc9)).1) (by decide) (by decide) ?_
            have k : ∀ (v1 : Bool), v1 = false → ∀ (f : JFrame) (acts : List Action), f.method = m → f.locked = none → f.entered = [] → (doReturn e (T3.setTop f) acts (some (.int (b2i v1)))).1 = T3.setFrames fs := fun v1 hv1 => k v1 (hv1.trans (if_pos hc9).symm)
            exact nd5 k
          · refine XS.ifNo X3.here hx rfl (hb hby at_93) rfl ((if0 _ _).trans (flt (fun q => hc9 ((lw_lt _ _).mp q))).1) ?_
            have k : ∀ (v1 : Bool), v1 = (if (65536 : Int64) < (v_rem q0) then false else (if (v_rem q0) = (0 : Int64) then (if (v_c q0) = (1 : Int64) then true else false) else true)) → ∀ (f : JFrame) (acts : List Action), f.method = m → f.locked = none → f.entered = [] → (doReturn e (T3.setTop f) acts (some (.int (b2i v1)))).1 = T3.setFrames fs := fun v1 hv1 => k v1 (hv1.trans (if_neg hc9).symm)
            show Steps p.tables e below (T3.setTop (mkF m 96 #[.val (.long q0), .second, .val (.int p1), .val (.long (v_g q0)), .second, .val (.long (v_c q0)), .second, .val (.long (v_base q0)), .second, .val (.long (v_rem q0)), .second] [])) _
            refine XS.lload X3.here hx rfl (hb hby at_96) rfl ?_
            show Steps p.tables e below (T3.setTop (mkF m 98 #[.val (.long q0), .second, .val (.int p1), .val (.long (v_g q0)), .second, .val (.long (v_c q0)), .second, .val (.long (v_base q0)), .second, .val (.long (v_rem q0)), .second] [(.long (v_rem q0))])) _
            refine X3.ldc2Long hx hown (mvT hZ (hw _ (List.mem_of_getElem? (i := 11) rfl))) (g := (mkF m 98 #[.val (.long q0), .second, .val (.int p1), .val (.long (v_g q0)), .second, .val (.long (v_c q0)), .second, .val (.long (v_base q0)), .second, .val (.long (v_rem q0)), .second] [(.long (v_rem q0))])) rfl (hb hby at_98) _ ?_
            show Steps p.tables e below (T3.setTop (mkF m 101 #[.val (.long q0), .second, .val (.int p1), .val (.long (v_g q0)), .second, .val (.long (v_c q0)), .second, .val (.long (v_base q0)), .second, .val (.long (v_rem q0)), .second] [(.long (65536 : Int64)), (.long (v_rem q0))])) _
            refine XS.lcmp X3.here hx rfl (hb hby at_101) rfl ?_
            show Steps p.tables e below (T3.setTop (mkF m 102 #[.val (.long q0), .second, .val (.int p1), .val (.long (v_g q0)), .second, .val (.long (v_c q0)), .second, .val (.long (v_base q0)), .second, .val (.long (v_rem q0)), .second] [(.int (lcmpW (v_rem q0) (65536 : Int64)))])) _
            by_cases hc10 : (65536 : Int64) < (v_rem q0)
            · refine XS.ifNo X3.here hx rfl (hb hby at_102) rfl ((if0 _ _).trans (tlt ((lw_gt _ _).mpr hc10)).2.2.2) ?_
              have k : ∀ (v1 : Bool), v1 = false → ∀ (f : JFrame) (acts : List Action), f.method = m → f.locked = none → f.entered = [] → (doReturn e (T3.setTop f) acts (some (.int (b2i v1)))).1 = T3.setFrames fs := fun v1 hv1 => k v1 (hv1.trans (if_pos hc10).symm)
              exact nd5 k
            · refine XS.ifYes X3.here hx rfl (pc0 := 102) (pc' := 107) rfl (hb hby at_102) rfl ((if0 _ _).trans (flt (fun q => hc10 ((lw_gt _ _).mp q))).2.2.2) (by decide) (by decide) ?_
              have k : ∀ (v1 : Bool), v1 = (if (v_rem q0) = (0 : Int64) then (if (v_c q0) = (1 : Int64) then true else false) else true) → ∀ (f : JFrame) (acts : List Action), f.method = m → f.locked = none → f.entered = [] → (doReturn e (T3.setTop f) acts (some (.int (b2i v1)))).1 = T3.setFrames fs := fun v1 hv1 => k v1 (hv1.trans (if_neg hc10).symm)
              show Steps p.tables e below (T3.setTop (mkF m 107 #[.val (.long q0), .second, .val (.int p1), .val (.long (v_g q0)), .second, .val (.long (v_c q0)), .second, .val (.long (v_base q0)), .second, .val (.long (v_rem q0)), .second] [])) _
              refine XS.lload X3.here hx rfl (hb hby at_107) rfl ?_
              show Steps p.tables e below (T3.setTop (mkF m 109 #[.val (.long q0), .second, .val (.int p1), .val (.long (v_g q0)), .second, .val (.long (v_c q0)), .second, .val (.long (v_base q0)), .second, .val (.long (v_rem q0)), .second] [(.long (v_rem q0))])) _
              refine XS.lconst X3.here hx rfl (hb hby at_109) ?_
              show Steps p.tables e below (T3.setTop (mkF m 110 #[.val (.long q0), .second, .val (.int p1), .val (.long (v_g q0)), .second, .val (.long (v_c q0)), .second, .val (.long (v_base q0)), .second, .val (.long (v_rem q0)), .second] [(.long (0 : Int64)), (.long (v_rem q0))])) _
              refine XS.lcmp X3.here hx rfl (hb hby at_110) rfl ?_
              show Steps p.tables e below (T3.setTop (mkF m 111 #[.val (.long q0), .second, .val (.int p1), .val (.long (v_g q0)), .second, .val (.long (v_c q0)), .second, .val (.long (v_base q0)), .second, .val (.long (v_rem q0)), .second] [(.int (lcmpW (v_rem q0) (0 : Int64)))])) _
              by_cases hc11 : (v_rem q0) = (0 : Int64)
              · refine XS.ifNo X3.here hx rfl (hb hby at_111) rfl ((if0 _ _).trans (teq ((lw_eq _ _).mpr hc11)).2) ?_
                have k : ∀ (v1 : Bool), v1 = (if (v_c q0) = (1 : Int64) then true else false) → ∀ (f : JFrame) (acts : List Action), f.method = m → f.locked = none → f.entered = [] → (doReturn e (T3.setTop f) acts (some (.int (b2i v1)))).1 = T3.setFrames fs := fun v1 hv1 => k v1 (hv1.trans (if_pos hc11).symm)
                show Steps p.tables e below (T3.setTop (mkF m 114 #[.val (.long q0), .second, .val (.int p1), .val (.long (v_g q0)), .second, .val (.long (v_c q0)), .second, .val (.long (v_base q0)), .second, .val (.long (v_rem q0)), .second] [])) _
                refine XS.lload X3.here hx rfl (hb hby at_114) rfl ?_
                show Steps p.tables e below (T3.setTop (mkF m 116 #[.val (.long q0), .second, .val (.int p1), .val (.long (v_g q0)), .second, .val (.long (v_c q0)), .second, .val (.long (v_base q0)), .second, .val (.long (v_rem q0)), .second] [(.long (v_c q0))])) _
                refine XS.lconst X3.here hx rfl (hb hby at_116) ?_
                show Steps p.tables e below (T3.setTop (mkF m 117 #[.val (.long q0), .second, .val (.int p1), .val (.long (v_g q0)), .second, .val (.long (v_c q0)), .second, .val (.long (v_base q0)), .second, .val (.long (v_rem q0)), .second] [(.long (1 : Int64)), (.long (v_c q0))])) _
                refine XS.lcmp X3.here hx rfl (hb hby at_117) rfl ?_
                show Steps p.tables e below (T3.setTop (mkF m 118 #[.val (.long q0), .second, .val (.int p1), .val (.long (v_g q0)), .second, .val (.long (v_c q0)), .second, .val (.long (v_base q0)), .second, .val (.long (v_rem q0)), .second] [(.int (lcmpW (v_c q0) (1 : Int64)))])) _
                by_cases hc12 : (v_c q0) = (1 : Int64)
                · refine XS.ifYes X3.here hx rfl (pc0 := 118) (pc' := 123) rfl (hb hby at_118) rfl ((if0 _ _).trans (teq ((lw_eq _ _).mpr hc12)).1) (by decide) (by decide) ?_
                  have k : ∀ (v1 : Bool), v1 = true → ∀ (f : JFrame) (acts : List Action), f.method = m → f.locked = none → f.entered = [] → (doReturn e (T3.setTop f) acts (some (.int (b2i v1)))).1 = T3.setFrames fs := fun v1 hv1 => k v1 (hv1.trans (if_pos hc12).symm)
                  exact nd6 k
                · refine XS.ifNo X3.here hx rfl (hb hby at_118) rfl ((if0 _ _).trans (feq (fun q => hc12 ((lw_eq _ _).mp q))).1) ?_
                  have k : ∀ (v1 : Bool), v1 = false → ∀ (f : JFrame) (acts : List Action), f.method = m → f.locked = none → f.entered = [] → (doReturn e (T3.setTop f) acts (some (.int (b2i v1)))).1 = T3.setFrames fs := fun v1 hv1 => k v1 (hv1.trans (if_neg hc12).symm)
                  show Steps p.tables e below (T3.setTop (mkF m 121 #[.val (.long q0), .second, .val (.int p1), .val (.long (v_g q0)), .second, .val (.long (v_c q0)), .second, .val (.long (v_base q0)), .second, .val (.long (v_rem q0)), .second] [])) _
                  refine XS.iconst X3.here hx rfl (hb hby at_121) ?_
                  show Steps p.tables e below (T3.setTop (mkF m 122 #[.val (.long q0), .second, .val (.int p1), .val (.long (v_g q0)), .second, .val (.long (v_c q0)), .second, .val (.long (v_base q0)), .second, .val (.long (v_rem q0)), .second] [(.int (0 : Int32))])) _
                  exact retN X3 hx (t := .boolean) Bd.returns (by simp) (hb hby at_122) (k false rfl)
              · refine XS.ifYes X3.here hx rfl (pc0 := 111) (pc' := 123) rfl (hb hby at_111) rfl ((if0 _ _).trans (feq (fun q => hc11 ((lw_eq _ _).mp q))).2) (by decide) (by decide) ?_
                have k : ∀ (v1 : Bool), v1 = true → ∀ (f : JFrame) (acts : List Action), f.method = m → f.locked = none → f.entered = [] → (doReturn e (T3.setTop f) acts (some (.int (b2i v1)))).1 = T3.setFrames fs := fun v1 hv1 => k v1 (hv1.trans (if_neg hc11).symm)
                exact nd6 k
    · show Q0 Z q0 p1 h0 n0 _ T3.heap _
      rw [e3]
      exact ⟨rfl, N3⟩
  ·
    obtain ⟨_, _, ⟨T13, L13, k13, n13⟩, -, X13, ⟨Lc13, hQ13, l13, y13, z13⟩, st13⟩ := Jvm.LawKit.callS X0 hx (y := (⟨"java/lang/Math", "max", "(JJ)J"⟩ : MethodName)) hown (mvT hZ (hw _ (List.mem_of_getElem? (i := 12) rfl))) (mvT hZ (hw _ (List.mem_of_getElem? (i := 7) rfl))) (mvT hZ (hw _ (List.mem_of_getElem? (i := 8) rfl))) (mvT hZ (hw _ (List.mem_of_getElem? (i := 9) rfl))) (by decide) (backOf (W := 0) (rm2 l Z a0 hw [] (0 : Int64) (((v_k q0) <<< ((16 : Int32) &&& 0x3f).toInt64) + (v_d p1)) h0 n0 Z0) hZ (hw _ (List.mem_of_getElem? (i := 9) rfl)) (hw _ (List.mem_of_getElem? (i := 8) rfl)) (by decide) (by decide)) (g := (mkF m 32 #[.val (.long q0), .second, .val (.int p1), .unset, .unset, .val (.long (v_k q0)), .second, .val (.long (v_d p1)), .second, .unset, .unset] [(.long (((v_k q0) <<< ((16 : Int32) &&& 0x3f).toInt64) + (v_d p1))), (.long (0 : Int64))])) rfl (by rw [hml]; rfl) (argsL := [(.long (0 : Int64)), (.long (((v_k q0) <<< ((16 : Int32) &&& 0x3f).toInt64) + (v_d p1)))]) (rest := []) (lenOf pd_1 rfl) rfl (by show 2 * 0 + _ ≤ _; exact Nat.le_of_eq rfl) (hb hby at_32) (fun _ _ => ⟨rfl, e0, (by decide : 0 + 0 ≤ _), (by decide : 0 + 0 ≤ _)⟩)
    dsimp only [Pt.U, Pt.locs, Pt.cells, Pt.slots] at X13 l13 y13 z13 st13 hQ13
    subst l13 y13 z13
    obtain ⟨rfl, N13q, e13⟩ := hQ13
    have N13 := Fr.app N0 N13q
    obtain ⟨_, _, ⟨T14, L14, k14, n14⟩, -, X14, ⟨Lc14, hQ14, l14, y14, z14⟩, st14⟩ := Jvm.LawKit.callS X13 hx (y := (⟨"com/example/keelstore/keelstore/protocol/Chunks", "count", "(J)J"⟩ : MethodName)) hown (mvT hZ (hw _ (List.mem_of_getElem? (i := 1) rfl))) (mvT hZ (hw _ (List.mem_of_getElem? (i := 2) rfl))) (mvT hZ (hw _ (List.mem_of_getElem? (i := 3) rfl))) (mvT hZ (hw _ (List.mem_of_getElem? (i := 4) rfl))) (by decide) (backOf (W := 0) (rm1 l Z a0 hw [] (v_f q0 p1) h0 n0 Z0) hZ (hw _ (List.mem_of_getElem? (i := 4) rfl)) (hw _ (List.mem_of_getElem? (i := 3) rfl)) (by decide) (by decide)) (g := (mkF m 46 #[.val (.long q0), .second, .val (.int p1), .val (.long (v_f q0 p1)), .second, .val (.long (v_k q0)), .second, .val (.long (v_d p1)), .second, .unset, .unset] [(.long (v_f q0 p1))])) rfl (by rw [hml]; rfl) (argsL := [(.long (v_f q0 p1))]) (rest := []) (lenOf pd_0 rfl) rfl (by show 2 * 0 + _ ≤ _; exact Nat.le_of_eq rfl) (hb hby at_46) (fun _ _ => ⟨rfl, e13, (by decide : 0 + 0 ≤ _), (by decide : 0 + 0 ≤ _)⟩)
    dsimp only [Pt.U, Pt.locs, Pt.cells, Pt.slots] at X14 l14 y14 z14 st14 hQ14
    subst l14 y14 z14
    obtain ⟨rfl, N14q, e14⟩ := hQ14
    have N14 := Fr.app N13 N14q
    have pre15 : ∀ t, Steps p.tables e below (T14.setTop (mkF m 55 #[.val (.long q0), .second, .val (.int p1), .val (.long (v_f q0 p1)), .second, .val (.long (v_c_1 q0 p1)), .second, .val (.long (v_d p1)), .second, .unset, .unset] [(.int (lcmpW (v_c_1 q0 p1) (1 : Int64)))])) t → Steps p.tables e below (s₁.setTop (entryFrame m #[(.long q0), (.int p1)] maxLocals)) t := by
      intro t k
      refine pre1 t ?_
      show Steps p.tables e below (s₁.setTop (mkF m 3 #[.val (.long q0), .second, .val (.int p1), .unset, .unset, .unset, .unset, .unset, .unset, .unset, .unset] [(.int (p1 &&& (1 : Int32)))])) _
      refine XS.ifNo X0.here hx rfl (hb hby at_3) rfl ((if0 _ _).trans (feq hc2).1) ?_
      show Steps p.tables e below (s₁.setTop (mkF m 6 #[.val (.long q0), .second, .val (.int p1), .unset, .unset, .unset, .unset, .unset, .unset, .unset, .unset] [])) _
      refine XS.lloadN X0.here hx rfl (hb hby at_6) rfl ?_
      show Steps p.tables e below (s₁.setTop (mkF m 7 #[.val (.long q0), .second, .val (.int p1), .unset, .unset, .unset, .unset, .unset, .unset, .unset, .unset] [(.long q0)])) _
      refine X0.ldc2Long hx hown (mvT hZ (hw _ (List.mem_of_getElem? (i := 10) rfl))) (g := (mkF m 7 #[.val (.long q0), .second, .val (.int p1), .unset, .unset, .unset, .unset, .unset, .unset, .unset, .unset] [(.long q0)])) rfl (hb hby at_7) _ ?_
      show Steps p.tables e below (s₁.setTop (mkF m 10 #[.val (.long q0), .second, .val (.int p1), .unset, .unset, .unset, .unset, .unset, .unset, .unset, .unset] [(.long (140737488355327 : Int64)), (.long q0)])) _
      refine XS.land X0.here hx rfl (hb hby at_10) rfl ?_
      show Steps p.tables e below (s₁.setTop (mkF m 11 #[.val (.long q0), .second, .val (.int p1), .unset, .unset, .unset, .unset, .unset, .unset, .unset, .unset] [(.long (q0 &&& (140737488355327 : Int64)))])) _
      refine XS.lstore X0.here hx rfl (hb hby at_11) rfl (l' := #[.val (.long q0), .second, .val (.int p1), .unset, .unset, .val (.long (v_k q0)), .second, .unset, .unset, .unset, .unset]) rfl ?_
      show Steps p.tables e below (s₁.setTop (mkF m 13 #[.val (.long q0), .second, .val (.int p1), .unset, .unset, .val (.long (v_k q0)), .second, .unset, .unset, .unset, .unset] [])) _
      refine XS.iloadN X0.here hx rfl (hb hby at_13) rfl ?_
      show Steps p.tables e below (s₁.setTop (mkF m 14 #[.val (.long q0), .second, .val (.int p1), .unset, .unset, .val (.long (v_k q0)), .second, .unset, .unset, .unset, .unset] [(.int p1)])) _
      refine XS.iconst X0.here hx rfl (hb hby at_14) ?_
      show Steps p.tables e below (s₁.setTop (mkF m 15 #[.val (.long q0), .second, .val (.int p1), .unset, .unset, .val (.long (v_k q0)), .second, .unset, .unset, .unset, .unset] [(.int (1 : Int32)), (.int p1)])) _
      refine XS.iushr X0.here hx rfl (hb hby at_15) rfl ?_
      show Steps p.tables e below (s₁.setTop (mkF m 16 #[.val (.long q0), .second, .val (.int p1), .unset, .unset, .val (.long (v_k q0)), .second, .unset, .unset, .unset, .unset] [(.int ((p1.toUInt32 >>> ((1 : Int32) &&& 31).toUInt32).toInt32))])) _
      refine XS.iconst X0.here hx rfl (hb hby at_16) ?_
      show Steps p.tables e below (s₁.setTop (mkF m 17 #[.val (.long q0), .second, .val (.int p1), .unset, .unset, .val (.long (v_k q0)), .second, .unset, .unset, .unset, .unset] [(.int (3 : Int32)), (.int ((p1.toUInt32 >>> ((1 : Int32) &&& 31).toUInt32).toInt32))])) _
      refine iremM X0 hx rfl (hb hby at_17) rfl (by decide) ?_
      show Steps p.tables e below (s₁.setTop (mkF m 18 #[.val (.long q0), .second, .val (.int p1), .unset, .unset, .val (.long (v_k q0)), .second, .unset, .unset, .unset, .unset] [(.int (((p1.toUInt32 >>> ((1 : Int32) &&& 31).toUInt32).toInt32) % (3 : Int32)))])) _
      refine XS.iconst X0.here hx rfl (hb hby at_18) ?_
      show Steps p.tables e below (s₁.setTop (mkF m 19 #[.val (.long q0), .second, .val (.int p1), .unset, .unset, .val (.long (v_k q0)), .second, .unset, .unset, .unset, .unset] [(.int (1 : Int32)), (.int (((p1.toUInt32 >>> ((1 : Int32) &&& 31).toUInt32).toInt32) % (3 : Int32)))])) _
      refine XS.isub X0.here hx rfl (hb hby at_19) rfl ?_
      show Steps p.tables e below (s₁.setTop (mkF m 20 #[.val (.long q0), .second, .val (.int p1), .unset, .unset, .val (.long (v_k q0)), .second, .unset, .unset, .unset, .unset] [(.int ((((p1.toUInt32 >>> ((1 : Int32) &&& 31).toUInt32).toInt32) % (3 : Int32)) - (1 : Int32)))])) _
      refine XS.i2l X0.here hx rfl (hb hby at_20) rfl ?_
      show Steps p.tables e below (s₁.setTop (mkF m 21 #[.val (.long q0), .second, .val (.int p1), .unset, .unset, .val (.long (v_k q0)), .second, .unset, .unset, .unset, .unset] [(.long (((((p1.toUInt32 >>> ((1 : Int32) &&& 31).toUInt32).toInt32) % (3 : Int32)) - (1 : Int32)).toInt64))])) _
      refine XS.lstore X0.here hx rfl (hb hby at_21) rfl (l' := #[.val (.long q0), .second, .val (.int p1), .unset, .unset, .val (.long (v_k q0)), .second, .val (.long (v_d p1)), .second, .unset, .unset]) rfl ?_
      show Steps p.tables e below (s₁.setTop (mkF m 23 #[.val (.long q0), .second, .val (.int p1), .unset, .unset, .val (.long (v_k q0)), .second, .val (.long (v_d p1)), .second, .unset, .unset] [])) _
      refine XS.lconst X0.here hx rfl (hb hby at_23) ?_
      show Steps p.tables e below (s₁.setTop (mkF m 24 #[.val (.long q0), .second, .val (.int p1), .unset, .unset, .val (.long (v_k q0)), .second, .val (.long (v_d p1)), .second, .unset, .unset] [(.long (0 : Int64))])) _
      refine XS.lload X0.here hx rfl (hb hby at_24) rfl ?_
      show Steps p.tables e below (s₁.setTop (mkF m 26 #[.val (.long q0), .second, .val (.int p1), .unset, .unset, .val (.long (v_k q0)), .second, .val (.long (v_d p1)), .second, .unset, .unset] [(.long (v_k q0)), (.long (0 : Int64))])) _
      refine XS.bipush X0.here hx rfl (hb hby at_26) ?_
      show Steps p.tables e below (s₁.setTop (mkF m 28 #[.val (.long q0), .second, .val (.int p1), .unset, .unset, .val (.long (v_k q0)), .second, .val (.long (v_d p1)), .second, .unset, .unset] [(.int (16 : Int32)), (.long (v_k q0)), (.long (0 : Int64))])) _
      refine XS.lshl X0.here hx rfl (hb hby at_28) rfl ?_
      show Steps p.tables e below (s₁.setTop (mkF m 29 #[.val (.long q0), .second, .val (.int p1), .unset, .unset, .val (.long (v_k q0)), .second, .val (.long (v_d p1)), .second, .unset, .unset] [(.long ((v_k q0) <<< ((16 : Int32) &&& 0x3f).toInt64)), (.long (0 : Int64))])) _
      refine XS.lload X0.here hx rfl (hb hby at_29) rfl ?_
      show Steps p.tables e below (s₁.setTop (mkF m 31 #[.val (.long q0), .second, .val (.int p1), .unset, .unset, .val (.long (v_k q0)), .second, .val (.long (v_d p1)), .second, .unset, .unset] [(.long (v_d p1)), (.long ((v_k q0) <<< ((16 : Int32) &&& 0x3f).toInt64)), (.long (0 : Int64))])) _
      refine XS.ladd X0.here hx rfl (hb hby at_31) rfl ?_
      show Steps p.tables e below (s₁.setTop (mkF m 32 #[.val (.long q0), .second, .val (.int p1), .unset, .unset, .val (.long (v_k q0)), .second, .val (.long (v_d p1)), .second, .unset, .unset] [(.long (((v_k q0) <<< ((16 : Int32) &&& 0x3f).toInt64) + (v_d p1))), (.long (0 : Int64))])) _
      refine st13 _ ?_
      show Steps p.tables e below (T13.setTop (mkF m 35 #[.val (.long q0), .second, .val (.int p1), .unset, .unset, .val (.long (v_k q0)), .second, .val (.long (v_d p1)), .second, .unset, .unset] [(.long (F2 (0 : Int64) (((v_k q0) <<< ((16 : Int32) &&& 0x3f).toInt64) + (v_d p1))))])) _
      refine XS.lstoreN X13.here hx rfl (hb hby at_35) rfl (l' := #[.val (.long q0), .second, .val (.int p1), .val (.long (v_f q0 p1)), .second, .val (.long (v_k q0)), .second, .val (.long (v_d p1)), .second, .unset, .unset]) rfl ?_
      show Steps p.tables e below (T13.setTop (mkF m 36 #[.val (.long q0), .second, .val (.int p1), .val (.long (v_f q0 p1)), .second, .val (.long (v_k q0)), .second, .val (.long (v_d p1)), .second, .unset, .unset] [])) _
      refine XS.goto X13.here hx rfl (pc0 := 36) (pc' := 45) rfl (hb hby at_36) (by decide) (by decide) ?_
      show Steps p.tables e below (T13.setTop (mkF m 45 #[.val (.long q0), .second, .val (.int p1), .val (.long (v_f q0 p1)), .second, .val (.long (v_k q0)), .second, .val (.long (v_d p1)), .second, .unset, .unset] [])) _
      refine XS.lloadN X13.here hx rfl (hb hby at_45) rfl ?_
      show Steps p.tables e below (T13.setTop (mkF m 46 #[.val (.long q0), .second, .val (.int p1), .val (.long (v_f q0 p1)), .second, .val (.long (v_k q0)), .second, .val (.long (v_d p1)), .second, .unset, .unset] [(.long (v_f q0 p1))])) _
      refine st14 _ ?_
      show Steps p.tables e below (T14.setTop (mkF m 49 #[.val (.long q0), .second, .val (.int p1), .val (.long (v_f q0 p1)), .second, .val (.long (v_k q0)), .second, .val (.long (v_d p1)), .second, .unset, .unset] [(.long (F1 (v_f q0 p1)))])) _
      refine XS.lstore X14.here hx rfl (hb hby at_49) rfl (l' := #[.val (.long q0), .second, .val (.int p1), .val (.long (v_f q0 p1)), .second, .val (.long (v_c_1 q0 p1)), .second, .val (.long (v_d p1)), .second, .unset, .unset]) rfl ?_
      show Steps p.tables e below (T14.setTop (mkF m 51 #[.val (.long q0), .second, .val (.int p1), .val (.long (v_f q0 p1)), .second, .val (.long (v_c_1 q0 p1)), .second, .val (.long (v_d p1)), .second, .unset, .unset] [])) _
      refine XS.lload X14.here hx rfl (hb hby at_51) rfl ?_
      show Steps p.tables e below (T14.setTop (mkF m 53 #[.val (.long q0), .second, .val (.int p1), .val (.long (v_f q0 p1)), .second, .val (.long (v_c_1 q0 p1)), .second, .val (.long (v_d p1)), .second, .unset, .unset] [(.long (v_c_1 q0 p1))])) _
      refine XS.lconst X14.here hx rfl (hb hby at_53) ?_
      show Steps p.tables e below (T14.setTop (mkF m 54 #[.val (.long q0), .second, .val (.int p1), .val (.long (v_f q0 p1)), .second, .val (.long (v_c_1 q0 p1)), .second, .val (.long (v_d p1)), .second, .unset, .unset] [(.long (1 : Int64)), (.long (v_c_1 q0 p1))])) _
      refine XS.lcmp X14.here hx rfl (hb hby at_54) rfl ?_
      exact k
    have hlaw : (if (v_c_1 q0 p1) < (1 : Int64) then false else (if (140737488355327 : Int64) < ((v_c_1 q0 p1) - (1 : Int64)) then false else (if (v_rem_1 q0 p1) < (0 : Int64) then false else (if (65536 : Int64) < (v_rem_1 q0 p1) then false else (if (v_rem_1 q0 p1) = (0 : Int64) then (if (v_c_1 q0 p1) = (1 : Int64) then true else false) else true))))) = true := own_law2 q0 p1 hc2
    obtain ⟨fs, hr, hrun, hended, hW, hsame⟩ := X14.leave (v := some (.int (1 : Int32))) (fun h => by rw [Bd.returns] at h; cases h) (BodyLoose.notSynchronized Bd)
    refine ⟨_, _, pre15 _ ?_, hrun, hended, _, _, rfl, ?_, ⟨_, rfl⟩, hW, hsame.mono (by decide) (by decide)⟩
    · have k : ∀ (v1 : Bool), v1 = (if (v_c_1 q0 p1) < (1 : Int64) then false else (if (140737488355327 : Int64) < ((v_c_1 q0 p1) - (1 : Int64)) then false else (if (v_rem_1 q0 p1) < (0 : Int64) then false else (if (65536 : Int64) < (v_rem_1 q0 p1) then false else (if (v_rem_1 q0 p1) = (0 : Int64) then (if (v_c_1 q0 p1) = (1 : Int64) then true else false) else true))))) → ∀ (f : JFrame) (acts : List Action), f.method = m → f.locked = none → f.entered = [] → (doReturn e (T14.setTop f) acts (some (.int (b2i v1)))).1 = T14.setFrames fs := fun v1 hv1 => by rw [hv1.trans hlaw]; exact hr
      have nd16 : (∀ (v1 : Bool), v1 = false → ∀ (f : JFrame) (acts : List Action), f.method = m → f.locked = none → f.entered = [] → (doReturn e (T14.setTop f) acts (some (.int (b2i v1)))).1 = T14.setFrames fs) → Steps p.tables e below (T14.setTop (mkF m 105 #[.val (.long q0), .second, .val (.int p1), .val (.long (v_f q0 p1)), .second, .val (.long (v_c_1 q0 p1)), .second, .val (.long (v_base_1 q0 p1)), .second, .val (.long (v_rem_1 q0 p1)), .second] [])) (T14.setFrames fs) := by
        intro k
        show Steps p.tables e below (T14.setTop (mkF m 105 #[.val (.long q0), .second, .val (.int p1), .val (.long (v_f q0 p1)), .second, .val (.long (v_c_1 q0 p1)), .second, .val (.long (v_base_1 q0 p1)), .second, .val (.long (v_rem_1 q0 p1)), .second] [])) _
        refine XS.iconst X14.here hx rfl (hb hby at_105) ?_
        show Steps p.tables e below (T14.setTop (mkF m 106 #[.val (.long q0), .second, .val (.int p1), .val (.long (v_f q0 p1)), .second, .val (.long (v_c_1 q0 p1)), .second, .val (.long (v_base_1 q0 p1)), .second, .val (.long (v_rem_1 q0 p1)), .second] [(.int (0 : Int32))])) _
        exact retN X14 hx (t := .boolean) Bd.returns (by simp) (hb hby at_106) (k false rfl)
      have nd17 : (∀ (v1 : Bool), v1 = true → ∀ (f : JFrame) (acts : List Action), f.method = m → f.locked = none → f.entered = [] → (doReturn e (T14.setTop f) acts (some (.int (b2i v1)))).1 = T14.setFrames fs) → Steps p.tables e below (T14.setTop (mkF m 123 #[.val (.long q0), .second, .val (.int p1), .val (.long (v_f q0 p1)), .second, .val (.long (v_c_1 q0 p1)), .second, .val (.long (v_base_1 q0 p1)), .second, .val (.long (v_rem_1 q0 p1)), .second] [])) (T14.setFrames fs) := by
        intro k
        show Steps p.tables e below (T14.setTop (mkF m 123 #[.val (.long q0), .second, .val (.int p1), .val (.long (v_f q0 p1)), .second, .val (.long (v_c_1 q0 p1)), .second, .val (.long (v_base_1 q0 p1)), .second, .val (.long (v_rem_1 q0 p1)), .second] [])) _
        refine XS.iconst X14.here hx rfl (hb hby at_123) ?_
        show Steps p.tables e below (T14.setTop (mkF m 124 #[.val (.long q0), .second, .val (.int p1), .val (.long (v_f q0 p1)), .second, .val (.long (v_c_1 q0 p1)), .second, .val (.long (v_base_1 q0 p1)), .second, .val (.long (v_rem_1 q0 p1)), .second] [(.int (1 : Int32))])) _
        exact retN X14 hx (t := .boolean) Bd.returns (by simp) (hb hby at_124) (k true rfl)
      show Steps p.tables e below (T14.setTop (mkF m 55 #[.val (.long q0), .second, .val (.int p1), .val (.long (v_f q0 p1)), .second, .val (.long (v_c_1 q0 p1)), .second, .val (.long (v_d p1)), .second, .unset, .unset] [(.int (lcmpW (v_c_1 q0 p1) (1 : Int64)))])) _
      by_cases hc18 : (v_c_1 q0 p1) < (1 : Int64)
      · refine XS.ifNo X14.here hx rfl (hb hby at_55) rfl ((if0 _ _).trans (tlt ((lw_lt _ _).mpr hc18)).2.1) ?_
        have k : ∀ (v1 : Bool), v1 = false → ∀ (f : JFrame) (acts : List Action), f.method = m → f.locked = none → f.entered = [] → (doReturn e (T14.setTop f) acts (some (.int (b2i v1)))).1 = T14.setFrames fs := fun v1 hv1 => k v1 (hv1.trans (if_pos hc18).symm)
        show Steps p.tables e below (T14.setTop (mkF m 58 #[.val (.long q0), .second, .val (.int p1), .val (.long (v_f q0 p1)), .second, .val (.long (v_c_1 q0 p1)), .second, .val (.long (v_d p1)), .second, .unset, .unset] [])) _
        refine XS.iconst X14.here hx rfl (hb hby at_58) ?_
        show Steps p.tables e below (T14.setTop (mkF m 59 #[.val (.long q0), .second, .val (.int p1), .val (.long (v_f q0 p1)), .second, .val (.long (v_c_1 q0 p1)), .second, .val (.long (v_d p1)), .second, .unset, .unset] [(.int (0 : Int32))])) _
        exact retN X14 hx (t := .boolean) Bd.returns (by simp) (hb hby at_59) (k false rfl)
      · refine XS.ifYes X14.here hx rfl (pc0 := 55) (pc' := 60) rfl (hb hby at_55) rfl ((if0 _ _).trans (flt (fun q => hc18 ((lw_lt _ _).mp q))).2.1) (by decide) (by decide) ?_
        have k : ∀ (v1 : Bool), v1 = (if (140737488355327 : Int64) < ((v_c_1 q0 p1) - (1 : Int64)) then false else (if (v_rem_1 q0 p1) < (0 : Int64) then false else (if (65536 : Int64) < (v_rem_1 q0 p1) then false else (if (v_rem_1 q0 p1) = (0 : Int64) then (if (v_c_1 q0 p1) = (1 : Int64) then true else false) else true)))) → ∀ (f : JFrame) (acts : List Action), f.method = m → f.locked = none → f.entered = [] → (doReturn e (T14.setTop f) acts (some (.int (b2i v1)))).1 = T14.setFrames fs := fun v1 hv1 => k v1 (hv1.trans (if_neg hc18).symm)
        show Steps p.tables e below (T14.setTop (mkF m 60 #[.val (.long q0), .second, .val (.int p1), .val (.long (v_f q0 p1)), .second, .val (.long (v_c_1 q0 p1)), .second, .val (.long (v_d p1)), .second, .unset, .unset] [])) _
        refine XS.lload X14.here hx rfl (hb hby at_60) rfl ?_
        show Steps p.tables e below (T14.setTop (mkF m 62 #[.val (.long q0), .second, .val (.int p1), .val (.long (v_f q0 p1)), .second, .val (.long (v_c_1 q0 p1)), .second, .val (.long (v_d p1)), .second, .unset, .unset] [(.long (v_c_1 q0 p1))])) _
        refine XS.lconst X14.here hx rfl (hb hby at_62) ?_
        show Steps p.tables e below (T14.setTop (mkF m 63 #[.val (.long q0), .second, .val (.int p1), .val (.long (v_f q0 p1)), .second, .val (.long (v_c_1 q0 p1)), .second, .val (.long (v_d p1)), .second, .unset, .unset] [(.long (1 : Int64)), (.long (v_c_1 q0 p1))])) _
        refine XS.lsub X14.here hx rfl (hb hby at_63) rfl ?_
        show Steps p.tables e below (T14.setTop (mkF m 64 #[.val (.long q0), .second, .val (.int p1), .val (.long (v_f q0 p1)), .second, .val (.long (v_c_1 q0 p1)), .second, .val (.long (v_d p1)), .second, .unset, .unset] [(.long ((v_c_1 q0 p1) - (1 : Int64)))])) _
        refine X14.ldc2Long hx hown (mvT hZ (hw _ (List.mem_of_getElem? (i := 10) rfl))) (g := (mkF m 64 #[.val (.long q0), .second, .val (.int p1), .val (.long (v_f q0 p1)), .second, .val (.long (v_c_1 q0 p1)), .second, .val (.long (v_d p1)), .second, .unset, .unset] [(.long ((v_c_1 q0 p1) - (1 : Int64)))])) rfl (hb hby at_64) _ ?_
        show Steps p.tables e below (T14.setTop (mkF m 67 #[.val (.long q0), .second, .val (.int p1), .val (.long (v_f q0 p1)), .second, .val (.long (v_c_1 q0 p1)), .second, .val (.long (v_d p1)), .second, .unset, .unset] [(.long (140737488355327 : Int64)), (.long ((v_c_1 q0 p1) - (1 : Int64)))])) _
        refine XS.lcmp X14.here hx rfl (hb hby at_67) rfl ?_
        show Steps p.tables e below (T14.setTop (mkF m 68 #[.val (.long q0), .second, .val (.int p1), .val (.long (v_f q0 p1)), .second, .val (.long (v_c_1 q0 p1)), .second, .val (.long (v_d p1)), .second, .unset, .unset] [(.int (lcmpW ((v_c_1 q0 p1) - (1 : Int64)) (140737488355327 : Int64)))])) _
        by_cases hc19 : (140737488355327 : Int64) < ((v_c_1 q0 p1) - (1 : Int64))
        · refine XS.ifNo X14.here hx rfl (hb hby at_68) rfl ((if0 _ _).trans (tlt ((lw_gt _ _).mpr hc19)).2.2.2) ?_
          have k : ∀ (v1 : Bool), v1 = false → ∀ (f : JFrame) (acts : List Action), f.method = m → f.locked = none → f.entered = [] → (doReturn e (T14.setTop f) acts (some (.int (b2i v1)))).1 = T14.setFrames fs := fun v1 hv1 => k v1 (hv1.trans (if_pos hc19).symm)
          show Steps p.tables e below (T14.setTop (mkF m 71 #[.val (.long q0), .second, .val (.int p1), .val (.long (v_f q0 p1)), .second, .val (.long (v_c_1 q0 p1)), .second, .val (.long (v_d p1)), .second, .unset, .unset] [])) _
          refine XS.iconst X14.here hx rfl (hb hby at_71) ?_
          show Steps p.tables e below (T14.setTop (mkF m 72 #[.val (.long q0), .second, .val (.int p1), .val (.long (v_f q0 p1)), .second, .val (.long (v_c_1 q0 p1)), .second, .val (.long (v_d p1)), .second, .unset, .unset] [(.int (0 : Int32))])) _
          exact retN X14 hx (t := .boolean) Bd.returns (by simp) (hb hby at_72) (k false rfl)
        · refine XS.ifYes X14.here hx rfl (pc0 := 68) (pc' := 73) rfl (hb hby at_68) rfl ((if0 _ _).trans (flt (fun q => hc19 ((lw_gt _ _).mp q))).2.2.2) (by decide) (by decide) ?_
          have k : ∀ (v1 : Bool), v1 = (if (v_rem_1 q0 p1) < (0 : Int64) then false else (if (65536 : Int64) < (v_rem_1 q0 p1) then false else (if (v_rem_1 q0 p1) = (0 : Int64) then (if (v_c_1 q0 p1) = (1 : Int64) then true else false) else true))) → ∀ (f : JFrame) (acts : List Action), f.method = m → f.locked = none → f.entered = [] → (doReturn e (T14.setTop f) acts (some (.int (b2i v1)))).1 = T14.setFrames fs := fun v1 hv1 => k v1 (hv1.trans (if_neg hc19).symm)
          show Steps p.tables e below (T14.setTop (mkF m 73 #[.val (.long q0), .second, .val (.int p1), .val (.long (v_f q0 p1)), .second, .val (.long (v_c_1 q0 p1)), .second, .val (.long (v_d p1)), .second, .unset, .unset] [])) _
          refine XS.lload X14.here hx rfl (hb hby at_73) rfl ?_
          show Steps p.tables e below (T14.setTop (mkF m 75 #[.val (.long q0), .second, .val (.int p1), .val (.long (v_f q0 p1)), .second, .val (.long (v_c_1 q0 p1)), .second, .val (.long (v_d p1)), .second, .unset, .unset] [(.long (v_c_1 q0 p1))])) _
          refine XS.lconst X14.here hx rfl (hb hby at_75) ?_
          show Steps p.tables e below (T14.setTop (mkF m 76 #[.val (.long q0), .second, .val (.int p1), .val (.long (v_f q0 p1)), .second, .val (.long (v_c_1 q0 p1)), .second, .val (.long (v_d p1)), .second, .unset, .unset] [(.long (1 : Int64)), (.long (v_c_1 q0 p1))])) _
          refine XS.lsub X14.here hx rfl (hb hby at_76) rfl ?_
          show Steps p.tables e below (T14.setTop (mkF m 77 #[.val (.long q0), .second, .val (.int p1), .val (.long (v_f q0 p1)), .second, .val (.long (v_c_1 q0 p1)), .second, .val (.long (v_d p1)), .second, .unset, .unset] [(.long ((v_c_1 q0 p1) - (1 : Int64)))])) _
          refine X14.ldc2Long hx hown (mvT hZ (hw _ (List.mem_of_getElem? (i := 11) rfl))) (g := (mkF m 77 #[.val (.long q0), .second, .val (.int p1), .val (.long (v_f q0 p1)), .second, .val (.long (v_c_1 q0 p1)), .second, .val (.long (v_d p1)), .second, .unset, .unset] [(.long ((v_c_1 q0 p1) - (1 : Int64)))])) rfl (hb hby at_77) _ ?_
          show Steps p.tables e below (T14.setTop (mkF m 80 #[.val (.long q0), .second, .val (.int p1), .val (.long (v_f q0 p1)), .second, .val (.long (v_c_1 q0 p1)), .second, .val (.long (v_d p1)), .second, .unset, .unset] [(.long (65536 : Int64)), (.long ((v_c_1 q0 p1) - (1 : Int64)))])) _
          refine XS.lmul X14.here hx rfl (hb hby at_80) rfl ?_
          show Steps p.tables e below (T14.setTop (mkF m 81 #[.val (.long q0), .second, .val (.int p1), .val (.long (v_f q0 p1)), .second, .val (.long (v_c_1 q0 p1)), .second, .val (.long (v_d p1)), .second, .unset, .unset] [(.long (((v_c_1 q0 p1) - (1 : Int64)) * (65536 : Int64)))])) _
          refine XS.lstore X14.here hx rfl (hb hby at_81) rfl (l' := #[.val (.long q0), .second, .val (.int p1), .val (.long (v_f q0 p1)), .second, .val (.long (v_c_1 q0 p1)), .second, .val (.long (v_base_1 q0 p1)), .second, .unset, .unset]) rfl ?_
          show Steps p.tables e below (T14.setTop (mkF m 83 #[.val (.long q0), .second, .val (.int p1), .val (.long (v_f q0 p1)), .second, .val (.long (v_c_1 q0 p1)), .second, .val (.long (v_base_1 q0 p1)), .second, .unset, .unset] [])) _
          refine XS.lloadN X14.here hx rfl (hb hby at_83) rfl ?_
          show Steps p.tables e below (T14.setTop (mkF m 84 #[.val (.long q0), .second, .val (.int p1), .val (.long (v_f q0 p1)), .second, .val (.long (v_c_1 q0 p1)), .second, .val (.long (v_base_1 q0 p1)), .second, .unset, .unset] [(.long (v_f q0 p1))])) _
          refine XS.lload X14.here hx rfl (hb hby at_84) rfl ?_
          show Steps p.tables e below (T14.setTop (mkF m 86 #[.val (.long q0), .second, .val (.int p1), .val (.long (v_f q0 p1)), .second, .val (.long (v_c_1 q0 p1)), .second, .val (.long (v_base_1 q0 p1)), .second, .unset, .unset] [(.long (v_base_1 q0 p1)), (.long (v_f q0 p1))])) _
          refine XS.lsub X14.here hx rfl (hb hby at_86) rfl ?_
          show Steps p.tables e below (T14.setTop (mkF m 87 #[.val (.long q0), .second, .val (.int p1), .val (.long (v_f q0 p1)), .second, .val (.long (v_c_1 q0 p1)), .second, .val (.long (v_base_1 q0 p1)), .second, .unset, .unset] [(.long ((v_f q0 p1) - (v_base_1 q0 p1)))])) _
          refine XS.lstore X14.here hx rfl (hb hby at_87) rfl (l' := #[.val (.long q0), .second, .val (.int p1), .val (.long (v_f q0 p1)), .second, .val (.long (v_c_1 q0 p1)), .second, .val (.long (v_base_1 q0 p1)), .second, .val (.long (v_rem_1 q0 p1)), .second]) rfl ?_
          show Steps p.tables e below (T14.setTop (mkF m 89 #[.val (.long q0), .second, .val (.int p1), .val (.long (v_f q0 p1)), .second, .val (.long (v_c_1 q0 p1)), .second, .val (.long (v_base_1 q0 p1)), .second, .val (.long (v_rem_1 q0 p1)), .second] [])) _
          refine XS.lload X14.here hx rfl (hb hby at_89) rfl ?_
          show Steps p.tables e below (T14.setTop (mkF m 91 #[.val (.long q0), .second, .val (.int p1), .val (.long (v_f q0 p1)), .second, .val (.long (v_c_1 q0 p1)), .second, .val (.long (v_base_1 q0 p1)), .second, .val (.long (v_rem_1 q0 p1)), .second] [(.long (v_rem_1 q0 p1))])) _
          refine XS.lconst X14.here hx rfl (hb hby at_91) ?_
          show Steps p.tables e below (T14.setTop (mkF m 92 #[.val (.long q0), .second, .val (.int p1), .val (.long (v_f q0 p1)), .second, .val (.long (v_c_1 q0 p1)), .second, .val (.long (v_base_1 q0 p1)), .second, .val (.long (v_rem_1 q0 p1)), .second] [(.long (0 : Int64)), (.long (v_rem_1 q0 p1))])) _
          refine XS.lcmp X14.here hx rfl (hb hby at_92) rfl ?_
          show Steps p.tables e below (T14.setTop (mkF m 93 #[.val (.long q0), .second, .val (.int p1), .val (.long (v_f q0 p1)), .second, .val (.long (v_c_1 q0 p1)), .second, .val (.long (v_base_1 q0 p1)), .second, .val (.long (v_rem_1 q0 p1)), .second] [(.int (lcmpW (v_rem_1 q0 p1) (0 : Int64)))])) _
          by_cases hc20 : (v_rem_1 q0 p1) < (0 : Int64)
          · refine XS.ifYes X14.here hx rfl (pc0 := 93) (pc' := 105) rfl (hb hby at_93) rfl ((if0 _ _).trans (tlt ((lw_lt _ _).mpr hc20)).1) (by decide) (by decide) ?_
            have k : ∀ (v1 : Bool), v1 = false → ∀ (f : JFrame) (acts : List Action), f.method = m → f.locked = none → f.entered = [] → (doReturn e (T14.setTop f) acts (some (.int (b2i v1)))).1 = T14.setFrames fs := fun v1 hv1 => k v1 (hv1.trans (if_pos hc20).symm)
            exact nd16 k
          · refine XS.ifNo X14.here hx rfl (hb hby at_93) rfl ((if0 _ _).trans (flt (fun q => hc20 ((lw_lt _ _).mp q))).1) ?_
            have k : ∀ (v1 : Bool), v1 = (if (65536 : Int64) < (v_rem_1 q0 p1) then false else (if (v_rem_1 q0 p1) = (0 : Int64) then (if (v_c_1 q0 p1) = (1 : Int64) then true else false) else true)) → ∀ (f : JFrame) (acts : List Action), f.method = m → f.locked = none → f.entered = [] → (doReturn e (T14.setTop f) acts (some (.int (b2i v1)))).1 = T14.setFrames fs := fun v1 hv1 => k v1 (hv1.trans (if_neg hc20).symm)
            show Steps p.tables e below (T14.setTop (mkF m 96 #[.val (.long q0), .second, .val (.int p1), .val (.long (v_f q0 p1)), .second, .val (.long (v_c_1 q0 p1)), .second, .val (.long (v_base_1 q0 p1)), .second, .val (.long (v_rem_1 q0 p1)), .second] [])) _
            refine XS.lload X14.here hx rfl (hb hby at_96) rfl ?_
            show Steps p.tables e below (T14.setTop (mkF m 98 #[.val (.long q0), .second, .val (.int p1), .val (.long (v_f q0 p1)), .second, .val (.long (v_c_1 q0 p1)), .second, .val (.long (v_base_1 q0 p1)), .second, .val (.long (v_rem_1 q0 p1)), .second] [(.long (v_rem_1 q0 p1))])) _
            refine X14.ldc2Long hx hown (mvT hZ (hw _ (List.mem_of_getElem? (i := 11) rfl))) (g := (mkF m 98 #[.val (.long q0), .second, .val (.int p1), .val (.long (v_f q0 p1)), .second, .val (.long (v_c_1 q0 p1)), .second, .val (.long (v_base_1 q0 p1)), .second, .val (.long (v_rem_1 q0 p1)), .second] [(.long (v_rem_1 q0 p1))])) rfl (hb hby at_98) _ ?_
            show Steps p.tables e below (T14.setTop (mkF m 101 #[.val (.long q0), .second, .val (.int p1), .val (.long (v_f q0 p1)), .second, .val (.long (v_c_1 q0 p1)), .second, .val (.long (v_base_1 q0 p1)), .second, .val (.long (v_rem_1 q0 p1)), .second] [(.long (65536 : Int64)), (.long (v_rem_1 q0 p1))])) _
            refine XS.lcmp X14.here hx rfl (hb hby at_101) rfl ?_
            show Steps p.tables e below (T14.setTop (mkF m 102 #[.val (.long q0), .second, .val (.int p1), .val (.long (v_f q0 p1)), .second, .val (.long (v_c_1 q0 p1)), .second, .val (.long (v_base_1 q0 p1)), .second, .val (.long (v_rem_1 q0 p1)), .second] [(.int (lcmpW (v_rem_1 q0 p1) (65536 : Int64)))])) _
            by_cases hc21 : (65536 : Int64) < (v_rem_1 q0 p1)
            · refine XS.ifNo X14.here hx rfl (hb hby at_102) rfl ((if0 _ _).trans (tlt ((lw_gt _ _).mpr hc21)).2.2.2) ?_
              have k : ∀ (v1 : Bool), v1 = false → ∀ (f : JFrame) (acts : List Action), f.method = m → f.locked = none → f.entered = [] → (doReturn e (T14.setTop f) acts (some (.int (b2i v1)))).1 = T14.setFrames fs := fun v1 hv1 => k v1 (hv1.trans (if_pos hc21).symm)
              exact nd16 k
            · refine XS.ifYes X14.here hx rfl (pc0 := 102) (pc' := 107) rfl (hb hby at_102) rfl ((if0 _ _).trans (flt (fun q => hc21 ((lw_gt _ _).mp q))).2.2.2) (by decide) (by decide) ?_
              have k : ∀ (v1 : Bool), v1 = (if (v_rem_1 q0 p1) = (0 : Int64) then (if (v_c_1 q0 p1) = (1 : Int64) then true else false) else true) → ∀ (f : JFrame) (acts : List Action), f.method = m → f.locked = none → f.entered = [] → (doReturn e (T14.setTop f) acts (some (.int (b2i v1)))).1 = T14.setFrames fs := fun v1 hv1 => k v1 (hv1.trans (if_neg hc21).symm)
              show Steps p.tables e below (T14.setTop (mkF m 107 #[.val (.long q0), .second, .val (.int p1), .val (.long (v_f q0 p1)), .second, .val (.long (v_c_1 q0 p1)), .second, .val (.long (v_base_1 q0 p1)), .second, .val (.long (v_rem_1 q0 p1)), .second] [])) _
              refine XS.lload X14.here hx rfl (hb hby at_107) rfl ?_
              show Steps p.tables e below (T14.setTop (mkF m 109 #[.val (.long q0), .second, .val (.int p1), .val (.long (v_f q0 p1)), .second, .val (.long (v_c_1 q0 p1)), .second, .val (.long (v_base_1 q0 p1)), .second, .val (.long (v_rem_1 q0 p1)), .second] [(.long (v_rem_1 q0 p1))])) _
              refine XS.lconst X14.here hx rfl (hb hby at_109) ?_
              show Steps p.tables e below (T14.setTop (mkF m 110 #[.val (.long q0), .second, .val (.int p1), .val (.long (v_f q0 p1)), .second, .val (.long (v_c_1 q0 p1)), .second, .val (.long (v_base_1 q0 p1)), .second, .val (.long (v_rem_1 q0 p1)), .second] [(.long (0 : Int64)), (.long (v_rem_1 q0 p1))])) _
              refine XS.lcmp X14.here hx rfl (hb hby at_110) rfl ?_
              show Steps p.tables e below (T14.setTop (mkF m 111 #[.val (.long q0), .second, .val (.int p1), .val (.long (v_f q0 p1)), .second, .val (.long (v_c_1 q0 p1)), .second, .val (.long (v_base_1 q0 p1)), .second, .val (.long (v_rem_1 q0 p1)), .second] [(.int (lcmpW (v_rem_1 q0 p1) (0 : Int64)))])) _
              by_cases hc22 : (v_rem_1 q0 p1) = (0 : Int64)
              · refine XS.ifNo X14.here hx rfl (hb hby at_111) rfl ((if0 _ _).trans (teq ((lw_eq _ _).mpr hc22)).2) ?_
                have k : ∀ (v1 : Bool), v1 = (if (v_c_1 q0 p1) = (1 : Int64) then true else false) → ∀ (f : JFrame) (acts : List Action), f.method = m → f.locked = none → f.entered = [] → (doReturn e (T14.setTop f) acts (some (.int (b2i v1)))).1 = T14.setFrames fs := fun v1 hv1 => k v1 (hv1.trans (if_pos hc22).symm)
                show Steps p.tables e below (T14.setTop (mkF m 114 #[.val (.long q0), .second, .val (.int p1), .val (.long (v_f q0 p1)), .second, .val (.long (v_c_1 q0 p1)), .second, .val (.long (v_base_1 q0 p1)), .second, .val (.long (v_rem_1 q0 p1)), .second] [])) _
                refine XS.lload X14.here hx rfl (hb hby at_114) rfl ?_
                show Steps p.tables e below (T14.setTop (mkF m 116 #[.val (.long q0), .second, .val (.int p1), .val (.long (v_f q0 p1)), .second, .val (.long (v_c_1 q0 p1)), .second, .val (.long (v_base_1 q0 p1)), .second, .val (.long (v_rem_1 q0 p1)), .second] [(.long (v_c_1 q0 p1))])) _
                refine XS.lconst X14.here hx rfl (hb hby at_116) ?_
                show Steps p.tables e below (T14.setTop (mkF m 117 #[.val (.long q0), .second, .val (.int p1), .val (.long (v_f q0 p1)), .second, .val (.long (v_c_1 q0 p1)), .second, .val (.long (v_base_1 q0 p1)), .second, .val (.long (v_rem_1 q0 p1)), .second] [(.long (1 : Int64)), (.long (v_c_1 q0 p1))])) _
                refine XS.lcmp X14.here hx rfl (hb hby at_117) rfl ?_
                show Steps p.tables e below (T14.setTop (mkF m 118 #[.val (.long q0), .second, .val (.int p1), .val (.long (v_f q0 p1)), .second, .val (.long (v_c_1 q0 p1)), .second, .val (.long (v_base_1 q0 p1)), .second, .val (.long (v_rem_1 q0 p1)), .second] [(.int (lcmpW (v_c_1 q0 p1) (1 : Int64)))])) _
                by_cases hc23 : (v_c_1 q0 p1) = (1 : Int64)
                · refine XS.ifYes X14.here hx rfl (pc0 := 118) (pc' := 123) rfl (hb hby at_118) rfl ((if0 _ _).trans (teq ((lw_eq _ _).mpr hc23)).1) (by decide) (by decide) ?_
                  have k : ∀ (v1 : Bool), v1 = true → ∀ (f : JFrame) (acts : List Action), f.method = m → f.locked = none → f.entered = [] → (doReturn e (T14.setTop f) acts (some (.int (b2i v1)))).1 = T14.setFrames fs := fun v1 hv1 => k v1 (hv1.trans (if_pos hc23).symm)
                  exact nd17 k
                · refine XS.ifNo X14.here hx rfl (hb hby at_118) rfl ((if0 _ _).trans (feq (fun q => hc23 ((lw_eq _ _).mp q))).1) ?_
                  have k : ∀ (v1 : Bool), v1 = false → ∀ (f : JFrame) (acts : List Action), f.method = m → f.locked = none → f.entered = [] → (doReturn e (T14.setTop f) acts (some (.int (b2i v1)))).1 = T14.setFrames fs := fun v1 hv1 => k v1 (hv1.trans (if_neg hc23).symm)
                  show Steps p.tables e below (T14.setTop (mkF m 121 #[.val (.long q0), .second, .val (.int p1), .val (.long (v_f q0 p1)), .second, .val (.long (v_c_1 q0 p1)), .second, .val (.long (v_base_1 q0 p1)), .second, .val (.long (v_rem_1 q0 p1)), .second] [])) _
                  refine XS.iconst X14.here hx rfl (hb hby at_121) ?_
                  show Steps p.tables e below (T14.setTop (mkF m 122 #[.val (.long q0), .second, .val (.int p1), .val (.long (v_f q0 p1)), .second, .val (.long (v_c_1 q0 p1)), .second, .val (.long (v_base_1 q0 p1)), .second, .val (.long (v_rem_1 q0 p1)), .second] [(.int (0 : Int32))])) _
                  exact retN X14 hx (t := .boolean) Bd.returns (by simp) (hb hby at_122) (k false rfl)
              · refine XS.ifYes X14.here hx rfl (pc0 := 111) (pc' := 123) rfl (hb hby at_111) rfl ((if0 _ _).trans (feq (fun q => hc22 ((lw_eq _ _).mp q))).2) (by decide) (by decide) ?_
                have k : ∀ (v1 : Bool), v1 = true → ∀ (f : JFrame) (acts : List Action), f.method = m → f.locked = none → f.entered = [] → (doReturn e (T14.setTop f) acts (some (.int (b2i v1)))).1 = T14.setFrames fs := fun v1 hv1 => k v1 (hv1.trans (if_neg hc22).symm)
                exact nd17 k
    · show Q0 Z q0 p1 h0 n0 _ T14.heap _
      rw [e14]
      exact ⟨rfl, N14⟩
set_option maxRecDepth 65536 in
set_option maxHeartbeats 40000000 in
theorem comes_1 {Post : Tables → Env → Array Value → State → Outcome → State → Prop} (hpost : ∀ tb e args s v u, (limb_1_1.after args s (.returned v) u = true ∧ limb_1_2.after args s (.returned v) u = true ∧ True) → FrameEnd s (.returned v) u (Jvm.fieldLocs frame_1_writes args s ++ Jvm.arrayLocs frame_1_arrays args s ++ Jvm.staticLocs frame_1_statics s) 0 0 → Post tb e args s (.returned v) u) :
    ArmFor flags0 classFile x code maxLocals ret World_1 tables_1 room_1 Calls_1 rest_1 Pre_1 Post := by
  intro l hfl _ _ p e ha hc hk s m args below hf hA hF happ hP
  obtain ⟨hcalls, hrest, hpre⟩ := hP
  obtain ⟨-, -, -, hnamed, -, -, -, hat⟩ := (Spec.applies_iff hf).mp happ
  obtain ⟨hg, hn⟩ := and_e (Cond.before_iff.mp (show (Jvm.Cond.and given_1 narrow_1).before args s = true from hpre))
  obtain ⟨g1, g2⟩ := and_e hg
  obtain ⟨g3, g4⟩ := and_e g2
  obtain ⟨w0, w1, rfl⟩ : ∃ w0 w1 : Value, args = #[w0, w1] := by
    have hs : args.size = 2 := by simpa [Cond.value, given_1] using g1
    obtain ⟨L⟩ := args
    match L, hs with
    | [w0, w1], _ => exact ⟨w0, w1, rfl⟩
  have hw := fun d (hd : d ∈ tables_1) => atoms_spec (ws := Jvm.Cond.code x code maxLocals ret :: tables_1) hat d (List.mem_cons_of_mem _ hd)
  obtain ⟨i0, ei0⟩ := isL_v g3
  obtain rfl : w0 = (.long i0) := Option.some.inj ei0
  obtain ⟨i1, ei1⟩ := is_v g4
  obtain rfl : w1 = (.int i1) := Option.some.inj ei1
  obtain ⟨n, o, h1, h2, h3, _, L, rfl, ⟨rfl, N⟩, hq⟩ := rm0 l s _ hw tables_1 i0 i1 s.heap s.heap.size (Nat.le_refl _) p e ha hc hk s m _ below hf ((Spec.applies_iff_loose hf).mp happ).1 ⟨rfl, State.Warmed39.refl s, rfl⟩ trivial
  refine ⟨n, _, h1, h2, h3, hpost _ _ _ _ _ _ ⟨Cond.after_iff.mpr rfl, Cond.after_iff.mpr (eq_i res_at (Term.int_eval (1)) rfl), trivial⟩ ⟨hq.1, hq.2.1, (hq.2.2.sift fun y hy => Or.inr (N y hy)).mono (by decide) (by decide)⟩⟩
theorem main_1_1 : Claimed_1_1 := comes_1 fun _ _ _ _ _ _ h hF => ⟨h.1, hF⟩
theorem main_1_2 : Claimed_1_2 := comes_1 fun _ _ _ _ _ _ h hF => ⟨h.2.1, hF⟩
end Jvm.Pilot.@@N@@
namespace Jvm.Pilot.@@N@@
open Jvm Jvm.ClassFile Sem Op Lib Jvm.Free Jvm.Stand Jvm.Pilot.@@N@@.Jvm.D
/-! MADE BY PROGRAM (witnessworld.py) out of the Statement's table words and the real class files: 10 classes; the members and pool entries that the words name. The judged class is class 1, her method 1. -/
namespace start1
open Jvm.ClassFile
def u (s : String) : CpInfo := .utf8 (stringToUtf16 s)
/-- a pool by its gaps: so many unusable entries, then the entry; so many at the end -/
def gap : Nat → List CpInfo → List CpInfo
  | 0, r => r
  | n + 1, r => .unusable :: gap n r
def poolList (es : List (Nat × CpInfo)) (last : Nat) : List CpInfo := es.foldr (fun e r => gap e.1 (e.2 :: r)) (gap last [])
def pool (es : List (Nat × CpInfo)) (last : Nat) : Array CpInfo := ⟨poolList es last⟩
def fileOf (pool : Array CpInfo) (this : Nat) (attrs : Array Attribute := #[]) (ms : Array MethodInfo := #[]) (fl : Nat := 33) (sup : Nat := 0) (ifs : Array Nat := #[]) (fds : Array FieldInfo := #[]) : ClassFile where
  minorVersion := 0
  majorVersion := 65
  constantPool := pool
  accessFlags := fl
  thisClass := this
  superClass := sup
  interfaces := ifs
  fields := fds
  methods := ms
  attributes := attrs
def plain (name : String) (sup : Option ClassId) : Class where
  name := name
  kind := .ordinary
  loader := none
  accessFlags := 33
  super := sup
  interfaces := #[]
  cf := none
  fields := #[]
  methods := #[]
  instanceTypes := #[]
  staticTypes := #[]
  resolved := #[]
  callSites := []
  init := .initialized
  statics := none
  mirror := none

def pool0 : Array CpInfo := pool [(5, u "<init>"), (0, u "()V"), (1, .class_ 10), (1, u "java/lang/Object")] 113

def k0m0 : Method := { name := "<init>", desc := "()V", sig := { parameters := [], returnType := none }, accessFlags := 1, code := none }
/-- java/lang/Object -/
def k0 : Class := { plain "java/lang/Object" none with
  accessFlags := 33
  interfaces := #[]
  cf := some (fileOf pool0 8 #[] #[{ accessFlags := 1, nameIndex := 5, descriptorIndex := 6, attributes := #[] }] 33 0 #[] #[])
  fields := #[]
  methods := #[k0m0]
  instanceTypes := #[]
  staticTypes := #[]
  resolved := Array.replicate 124 none
  statics := none }

def pool1 : Array CpInfo := pool [(2, .class_ 4), (1, u "java/lang/Object"), (0, u "<init>"), (0, u "()V"), (0, .long 140737488355327), (1, .methodref 10 11), (0, .class_ 12), (0, .nameAndType 13 14), (0, u "java/lang/Math"), (0, u "max"), (0, u "(JJ)J"), (2, .long 9223372036854775807), (1, .methodref 20 21), (0, .class_ 22), (0, .nameAndType 23 24), (0, u "com/example/keelstore/keelstore/protocol/Chunks"), (0, u "count"), (0, u "(J)J"), (0, .long 65536), (1, .class_ 28), (0, u "com/example/keelstore/keelstore/protocol/ChunksCountPinLaw"), (2, u "law"), (0, u "(JI)Z")] 3

def k1m0 : Method := { name := "<init>", desc := "()V", sig := { parameters := [], returnType := none }, accessFlags := 2, code := none }
def k1c1 : Code := { maxStack := 6, maxLocals := 11, code := code, exceptionTable := #[], attributes := #[] }
def k1m1 : Method := { name := "law", desc := "(JI)Z", sig := { parameters := [.long, .int], returnType := some .boolean }, accessFlags := 9, code := some k1c1 }
/-- com/example/keelstore/keelstore/protocol/ChunksCountPinLaw -/
def k1 : Class := { plain "com/example/keelstore/keelstore/protocol/ChunksCountPinLaw" (some 0) with
  accessFlags := 49
  interfaces := #[]
  cf := some (fileOf pool1 27 #[] #[{ accessFlags := 2, nameIndex := 5, descriptorIndex := 6, attributes := #[] }, { accessFlags := 9, nameIndex := 31, descriptorIndex := 32, attributes := #[] }] 49 2 #[] #[])
  fields := #[]
  methods := #[k1m0, k1m1]
  instanceTypes := #[]
  staticTypes := #[]
  resolved := Array.replicate 36 none
  statics := none }

def pool2 : Array CpInfo := pool [(2, .class_ 4), (1, u "java/lang/Object"), (0, u "<init>"), (0, u "()V"), (0, .class_ 8), (0, u "com/example/keelstore/keelstore/protocol/Chunks"), (0, .long 65536), (1, .methodref 12 13), (0, .class_ 14), (0, .nameAndType 15 16), (0, u "java/lang/Math"), (0, u "max"), (0, u "(JJ)J"), (6, u "SIZE"), (0, u "I"), (2, u "SLICE"), (1, u "PER_DELETE"), (3, u "count"), (0, u "(J)J")] 7

def k2m0 : Method := { name := "<init>", desc := "()V", sig := { parameters := [], returnType := none }, accessFlags := 2, code := none }
def k2c1 : Code := { maxStack := 8, maxLocals := 2, code := prog_48_method_2_code, exceptionTable := #[], attributes := #[] }
def k2m1 : Method := { name := "count", desc := "(J)J", sig := { parameters := [.long], returnType := some .long }, accessFlags := 9, code := some k2c1 }
/-- com/example/keelstore/keelstore/protocol/Chunks -/
def k2 : Class := { plain "com/example/keelstore/keelstore/protocol/Chunks" (some 0) with
  accessFlags := 49
  interfaces := #[]
  cf := some (fileOf pool2 7 #[] #[{ accessFlags := 2, nameIndex := 5, descriptorIndex := 6, attributes := #[] }, { accessFlags := 9, nameIndex := 33, descriptorIndex := 34, attributes := #[] }] 49 2 #[] #[{ accessFlags := 25, nameIndex := 23, descriptorIndex := 24, attributes := #[] }, { accessFlags := 25, nameIndex := 27, descriptorIndex := 24, attributes := #[] }, { accessFlags := 25, nameIndex := 29, descriptorIndex := 24, attributes := #[] }])
  fields := #[{ name := "SIZE", type := .int, accessFlags := 25, slot := 0, constantValue := 0 }, { name := "SLICE", type := .int, accessFlags := 25, slot := 1, constantValue := 0 }, { name := "PER_DELETE", type := .int, accessFlags := 25, slot := 2, constantValue := 0 }]
  methods := #[k2m0, k2m1]
  instanceTypes := #[]
  staticTypes := #[.int, .int, .int]
  resolved := Array.replicate 42 none
  statics := none }

def pool3 : Array CpInfo := pool [(1, .class_ 2), (0, u "java/lang/Math"), (1, .class_ 6), (1, u "java/lang/Object"), (0, u "<init>"), (0, u "()V"), (89, .class_ 100), (1, u "java/lang/Math$RandomNumberGeneratorHolder"), (20, u "(JJ)J"), (50, u "negativeZeroFloatBits"), (0, u "J"), (2, u "negativeZeroDoubleBits"), (21, u "max"), (46, u "$assertionsDisabled"), (0, u "Z"), (91, u "twoToTheDoubleScaleDown"), (0, u "D"), (4, u "twoToTheDoubleScaleUp"), (9, u "E"), (3, u "PI"), (2, u "TAU"), (2, u "DEGREES_TO_RADIANS"), (0, u "RADIANS_TO_DEGREES")] 94

def k3m0 : Method := { name := "<init>", desc := "()V", sig := { parameters := [], returnType := none }, accessFlags := 2, code := none }
def k3c1 : Code := { maxStack := 4, maxLocals := 4, code := jdk_29_method_66_code, exceptionTable := #[], attributes := #[] }
def k3m1 : Method := { name := "max", desc := "(JJ)J", sig := { parameters := [.long, .long], returnType := some .long }, accessFlags := 9, code := some k3c1 }
/-- java/lang/Math -/
def k3 : Class := { plain "java/lang/Math" (some 0) with
  accessFlags := 49
  interfaces := #[]
  cf := some (fileOf pool3 1 #[.nestMembers #[98]] #[{ accessFlags := 2, nameIndex := 7, descriptorIndex := 8, attributes := #[] }, { accessFlags := 9, nameIndex := 198, descriptorIndex := 121, attributes := #[] }] 49 4 #[] #[{ accessFlags := 25, nameIndex := 354, descriptorIndex := 339, attributes := #[] }, { accessFlags := 25, nameIndex := 358, descriptorIndex := 339, attributes := #[] }, { accessFlags := 25, nameIndex := 361, descriptorIndex := 339, attributes := #[] }, { accessFlags := 26, nameIndex := 364, descriptorIndex := 339, attributes := #[] }, { accessFlags := 26, nameIndex := 365, descriptorIndex := 339, attributes := #[] }, { accessFlags := 26, nameIndex := 172, descriptorIndex := 173, attributes := #[] }, { accessFlags := 26, nameIndex := 176, descriptorIndex := 173, attributes := #[] }, { accessFlags := 8, nameIndex := 344, descriptorIndex := 339, attributes := #[] }, { accessFlags := 8, nameIndex := 338, descriptorIndex := 339, attributes := #[] }, { accessFlags := 4120, nameIndex := 245, descriptorIndex := 246, attributes := #[] }])
  fields := #[{ name := "E", type := .double, accessFlags := 25, slot := 0, constantValue := 0 }, { name := "PI", type := .double, accessFlags := 25, slot := 1, constantValue := 0 }, { name := "TAU", type := .double, accessFlags := 25, slot := 2, constantValue := 0 }, { name := "DEGREES_TO_RADIANS", type := .double, accessFlags := 26, slot := 3, constantValue := 0 }, { name := "RADIANS_TO_DEGREES", type := .double, accessFlags := 26, slot := 4, constantValue := 0 }, { name := "negativeZeroFloatBits", type := .long, accessFlags := 26, slot := 5, constantValue := 0 }, { name := "negativeZeroDoubleBits", type := .long, accessFlags := 26, slot := 6, constantValue := 0 }, { name := "twoToTheDoubleScaleUp", type := .double, accessFlags := 8, slot := 7, constantValue := 0 }, { name := "twoToTheDoubleScaleDown", type := .double, accessFlags := 8, slot := 8, constantValue := 0 }, { name := "$assertionsDisabled", type := .boolean, accessFlags := 4120, slot := 9, constantValue := 0 }]
  methods := #[k3m0, k3m1]
  instanceTypes := #[]
  staticTypes := #[.double, .double, .double, .double, .double, .long, .long, .double, .double, .boolean]
  resolved := Array.replicate 460 none
  statics := none }

def pool4 : Array CpInfo := pool [(1, u "java/lang/Cloneable"), (0, .class_ 1), (0, u "java/lang/Object"), (0, .class_ 3)] 3

/-- java/lang/Cloneable -/
def k4 : Class := { plain "java/lang/Cloneable" (some 0) with
  accessFlags := 1537
  interfaces := #[]
  cf := some (fileOf pool4 2 #[] #[] 1537 4 #[] #[])
  fields := #[]
  methods := #[]
  instanceTypes := #[]
  staticTypes := #[]
  resolved := Array.replicate 8 none
  statics := none }

def pool5 : Array CpInfo := pool [(1, u "java/io/Serializable"), (0, .class_ 1), (0, u "java/lang/Object"), (0, .class_ 3)] 3

/-- java/io/Serializable -/
def k5 : Class := { plain "java/io/Serializable" (some 0) with
  accessFlags := 1537
  interfaces := #[]
  cf := some (fileOf pool5 2 #[] #[] 1537 4 #[] #[])
  fields := #[]
  methods := #[]
  instanceTypes := #[]
  staticTypes := #[]
  resolved := Array.replicate 8 none
  statics := none }

/-- the primitive byte -/
def k6 : Class := { plain "byte" none with kind := .primitive 'B', accessFlags := 0x411 }
/-- [B -/
def k7 : Class := { plain "[B" (some 0) with kind := .array 6 .byte, interfaces := #[4, 5], accessFlags := 1041 }

/-- the primitive int -/
def k8 : Class := { plain "int" none with kind := .primitive 'I', accessFlags := 0x411 }
/-- [I -/
def k9 : Class := { plain "[I" (some 0) with kind := .array 8 .int, interfaces := #[4, 5], accessFlags := 1041 }

def heap : Heap := #[]
def classes : Array Class := #[k0, k1, k2, k3, k4, k5, k6, k7, k8, k9]
def interned : List (Array UInt16 × Addr) := []
def slotsUsed : Nat := 0
def theMethod : MethodId := ⟨1, 1⟩
def args0 : Array Value := #[.long 5, .int 3]
def aboutOver (below : List Frame) : State where
  vm := { classes := classes, interned := interned.toArray }
  heap := heap
  slotsUsed := slotsUsed
  threads := #[{ frames := .invoking theMethod args0 :: below }]
def below0 : List Frame := [.native { method := ⟨0, 0⟩, args := #[] }]
def about1 : State := aboutOver below0
def p0 : Program := .bare "" "" ""
def e0 : Env := launch0.env 0 0 0
theorem w_frames : about1.frames = Frame.invoking theMethod args0 :: below0 := rfl
set_option maxRecDepth 65536 in
theorem w_args : argsFit about1.vm theMethod args0 = true := by decide +kernel
set_option maxRecDepth 65536 in
theorem w_heap : heapFits about1 = true := by decide +kernel
set_option maxRecDepth 65536 in
theorem w_runnable : about1.curStatus? = some .runnable := by decide +kernel
set_option maxRecDepth 65536 in
theorem w_alone : about1.alone = true := by decide +kernel
set_option maxRecDepth 65536 in
theorem w_named : about1.methodNamed? x = some theMethod := by decide +kernel
set_option maxRecDepth 65536 in
theorem w_hears : about1.hears theMethod below0 = true := by decide +kernel
set_option maxRecDepth 65536 in
theorem w_ripe : about1.ripe theMethod args0 below0 = true := by decide +kernel
theorem w_running : about1.status = .running := rfl
set_option maxRecDepth 65536 in
theorem w_room : about1.hasRoom e0.platform room_1 = true :=
  launch0.hasRoom_least _ room_1 (by decide +kernel) (by decide +kernel) (by decide +kernel) (by decide +kernel) (by decide +kernel) (by decide +kernel)
theorem allAtoms_all (ts : List Jvm.Cond) (a : Array Jvm.Value) (st : Jvm.State) : (allAtoms ts).before a st = ts.all (fun c => c.before a st) := by
  induction ts with
  | nil => rfl
  | cons c t ih =>
    show (Jvm.Cond.and c (allAtoms t)).before a st = _
    rw [Jvm.Cond.before_and, ih, List.all_cons]
def words1 : List Jvm.Cond := Jvm.Cond.code x code maxLocals ret :: tables_1
/-- a 'code' word, met by the world's own term for the bytes: nothing is compared byte by byte -/
theorem code_word {y : MethodName} {bytes : ByteArray} {mx : Nat} {rt : Option FieldType} {a : Array Value} {s : State} {m : MethodId} {meth : Method} {c : Code} (h1 : s.methodNamed? y = some m) (h2 : s.vm.method? m = some meth) (h3 : meth.code = some c) (h4 : c.code = bytes)
    (h5 : (c.maxLocals == mx && c.exceptionTable.isEmpty && decide (c.maxStack ≤ mostOperands) && decide (meth.sig.returnType = rt) && !meth.locks && decide (parseMethodDescriptor y.desc = some meth.sig)) = true) : (Jvm.Cond.code y bytes mx rt).before a s = true := by
  simp only [Bool.and_eq_true, beq_iff_eq, Bool.not_eq_true', decide_eq_true_eq] at h5
  obtain ⟨⟨⟨⟨⟨g1, g2⟩, g3⟩, g4⟩, g5⟩, g6⟩ := h5
  simp [Cond.before, Cond.holds, Cond.value, h1, h2, h3, h4, g1, g2, g3, g4, g5, g6]
def isCode : Jvm.Cond → Bool
  | .code _ _ _ _ => true
  | _ => false
theorem all_split {L : List Jvm.Cond} {P : Jvm.Cond → Bool} (h1 : L.all (fun c => isCode c || P c) = true) (h2 : ∀ c ∈ L.filter isCode, P c = true) : L.all P = true := by
  refine List.all_eq_true.mpr fun c hc => ?_
  have h := List.all_eq_true.mp h1 c hc
  rcases Bool.eq_false_or_eq_true (isCode c) with hi | hi
  · exact h2 c (List.mem_filter.mpr ⟨hc, hi⟩)
  · simpa [hi] using h
set_option maxRecDepth 65536 in
theorem w_c0 : (Jvm.Cond.code x code maxLocals ret).before args0 about1 = true := code_word (m := ⟨1, 1⟩) (meth := k1m1) (c := k1c1) (by decide +kernel) rfl rfl rfl (by decide +kernel)
set_option maxRecDepth 65536 in
theorem w_c1 : (Jvm.Cond.code ({ cls := "com/example/keelstore/keelstore/protocol/Chunks", name := "count", desc := "(J)J" } : Jvm.MethodName) prog_48_method_2_code (2 : Nat) (Option.some Jvm.ClassFile.FieldType.long)).before args0 about1 = true := code_word (m := ⟨2, 1⟩) (meth := k2m1) (c := k2c1) (by decide +kernel) rfl rfl rfl (by decide +kernel)
set_option maxRecDepth 65536 in
theorem w_c2 : (Jvm.Cond.code ({ cls := "java/lang/Math", name := "max", desc := "(JJ)J" } : Jvm.MethodName) jdk_29_method_66_code (4 : Nat) (Option.some Jvm.ClassFile.FieldType.long)).before args0 about1 = true := code_word (m := ⟨3, 1⟩) (meth := k3m1) (c := k3c1) (by decide +kernel) rfl rfl rfl (by decide +kernel)
def codes1 : List Jvm.Cond := [Jvm.Cond.code x code maxLocals ret, Jvm.Cond.code ({ cls := "com/example/keelstore/keelstore/protocol/Chunks", name := "count", desc := "(J)J" } : Jvm.MethodName) prog_48_method_2_code (2 : Nat) (Option.some Jvm.ClassFile.FieldType.long), Jvm.Cond.code ({ cls := "java/lang/Math", name := "max", desc := "(JJ)J" } : Jvm.MethodName) jdk_29_method_66_code (4 : Nat) (Option.some Jvm.ClassFile.FieldType.long)]
set_option maxRecDepth 65536 in
theorem codes_eq : words1.filter isCode = codes1 := rfl
theorem w_codes : ∀ c ∈ words1.filter isCode, c.before args0 about1 = true := by
  rw [codes_eq]
  intro c hc
  simp only [codes1, List.mem_cons, List.not_mem_nil, or_false] at hc
  rcases hc with rfl | rfl | rfl
  · exact w_c0
  · exact w_c1
  · exact w_c2
set_option maxRecDepth 65536 in
theorem w_t1 : words1.all (fun c => isCode c || c.before args0 about1) = true := by decide +kernel
theorem w_tables : (allAtoms (Jvm.Cond.code x code maxLocals ret :: tables_1)).before args0 about1 = true := by
  rw [allAtoms_all]
  show words1.all (fun c => c.before args0 about1) = true
  refine all_split ?_ w_codes
  rw [w_t1]
set_option maxRecDepth 65536 in
theorem w_case : (Jvm.Cond.and given_1 narrow_1).before args0 about1 = true := by decide +kernel
theorem w_applies : (headSpec (Jvm.Cond.code x code maxLocals ret :: tables_1) room_1).applies x e0.platform about1 = true :=
  (Spec.applies_iff w_frames).mpr ⟨w_running, w_runnable, w_alone, w_named, w_hears, w_ripe, w_room, w_tables⟩
theorem atStart : AtStart classFile x code maxLocals ret World_1 tables_1 room_1 Calls_1 rest_1 Pre_1 launch0 p0 e0 about1 theMethod args0 below0 :=
  ⟨lists_1, trivial, launch0.admits_env _ _ _, launch0.least_env, fairChoices_fair.cas, fairChoices_fair.clock, w_frames, w_args, w_heap, w_applies, trivial, trivial, w_case⟩
end start1
theorem witness_1 : WitnessClaimed_1 := ⟨start1.p0, start1.e0, start1.about1, start1.theMethod, start1.args0, start1.below0, start1.atStart⟩
end Jvm.Pilot.@@N@@
