import JvmDerived
import JvmDerived.Pilot.@@N@@Statement
import JvmDerived.Pilot.@@N@@Code
set_option linter.unusedVariables false
set_option linter.unusedSimpArgs false
namespace Jvm.RoadKit
open Sem ClassFile Op Lib Jvm.Stand Jvm.Free Jvm.LawKit
section New
variable {p : Program} {l : Launch} {e : Env} {R : Room} {s : State} {m : MethodId} {args : Array Value} {below : List Frame} {meth : Method} {c : Code} {T : State} {locs : List Loc} {cells slots : Nat}
theorem retI (X : Stand p l e R s m args below meth c T locs cells slots) (hx : p.tables.exec = Jvm.exec) {pc : Nat} {Ls : Array Slot} {z : Int32} {rest : List Value} (hret : meth.sig.returnType = some .int) (hd : decode c.code pc = .ok (.ireturn, 1)) {fs : List Frame}
    (hl : ∀ (f : JFrame) (acts : List Action), f.method = m → f.locked = none → f.entered = [] → (doReturn e (T.setTop f) acts (some (.int z))).1 = T.setFrames fs) : Steps p.tables e below (T.setTop (mkF m pc Ls (.int z :: rest))) (T.setFrames fs) := by
  have hm' : T.vm.method? m = some meth := X.method'
  have hn : narrow .int (.int z) = .int z := rfl
  show Steps p.tables e below (T.setTop { method := m, pc := pc, locals := Ls, stack := _ :: rest, locked := none }) _
  jvm_step X.here [X.here.top, hx, hd, hm', hret, hn]
  first | (intro acts; rw [hl _ acts rfl rfl rfl]) | rw [hl _ _ rfl rfl rfl]
  exact Steps.refl _
end New
end Jvm.RoadKit
namespace Jvm.OwnKit
open Sem ClassFile Op Lib Jvm.Stand Jvm.Free Jvm.LawKit Jvm.RoadKit
def b2i (b : Bool) : Int32 := if b = true then 1 else 0
theorem b2i_eq {b : Bool} (h : ¬ b = true) : b2i b = 0 := if_neg h
theorem b2i_ne {b : Bool} (h : b = true) : ¬ b2i b = 0 := by rw [b2i, if_pos h]; decide
theorem nar_b2i (b : Bool) : nar .boolean (b2i b) = b2i b := by cases b <;> decide
theorem b2i_one {b : Bool} (h : b = true) : nar .boolean (b2i b) = 1 := by rw [h]; decide
end Jvm.OwnKit
namespace Jvm.Pilot.@@N@@
open Jvm Jvm.ClassFile Sem Op Lib Jvm.Free Jvm.Stand Jvm.LawKit Jvm.RoadKit Jvm.OwnKit Bundle Jvm.Pilot.@@N@@.Jvm.D
theorem d1_0 : decode prog_31_method_19_code 0 = .ok (.iload_n 0, 1) := by decide +kernel
theorem d1_1 : decode prog_31_method_19_code 1 = .ok (.bipush 48, 2) := by decide +kernel
theorem d1_3 : decode prog_31_method_19_code 3 = .ok (.if_icmp .lt 14, 3) := by decide +kernel
theorem d1_6 : decode prog_31_method_19_code 6 = .ok (.iload_n 0, 1) := by decide +kernel
theorem d1_7 : decode prog_31_method_19_code 7 = .ok (.bipush 57, 2) := by decide +kernel
theorem d1_9 : decode prog_31_method_19_code 9 = .ok (.if_icmp .gt 8, 3) := by decide +kernel
theorem d1_12 : decode prog_31_method_19_code 12 = .ok (.iload_n 0, 1) := by decide +kernel
theorem d1_13 : decode prog_31_method_19_code 13 = .ok (.bipush 48, 2) := by decide +kernel
theorem d1_15 : decode prog_31_method_19_code 15 = .ok (.isub, 1) := by decide +kernel
theorem d1_16 : decode prog_31_method_19_code 16 = .ok (.ireturn, 1) := by decide +kernel
theorem d1_17 : decode prog_31_method_19_code 17 = .ok (.iload_n 1, 1) := by decide +kernel
theorem d1_18 : decode prog_31_method_19_code 18 = .ok (.bipush 16, 2) := by decide +kernel
theorem d1_20 : decode prog_31_method_19_code 20 = .ok (.if_icmp .ne 32, 3) := by decide +kernel
theorem d1_23 : decode prog_31_method_19_code 23 = .ok (.iload_n 0, 1) := by decide +kernel
theorem d1_24 : decode prog_31_method_19_code 24 = .ok (.bipush 32, 2) := by decide +kernel
theorem d1_26 : decode prog_31_method_19_code 26 = .ok (.ior, 1) := by decide +kernel
theorem d1_27 : decode prog_31_method_19_code 27 = .ok (.bipush 97, 2) := by decide +kernel
theorem d1_29 : decode prog_31_method_19_code 29 = .ok (.if_icmp .lt 23, 3) := by decide +kernel
theorem d1_32 : decode prog_31_method_19_code 32 = .ok (.iload_n 0, 1) := by decide +kernel
theorem d1_33 : decode prog_31_method_19_code 33 = .ok (.bipush 32, 2) := by decide +kernel
theorem d1_35 : decode prog_31_method_19_code 35 = .ok (.ior, 1) := by decide +kernel
theorem d1_36 : decode prog_31_method_19_code 36 = .ok (.bipush 102, 2) := by decide +kernel
theorem d1_38 : decode prog_31_method_19_code 38 = .ok (.if_icmp .gt 14, 3) := by decide +kernel
theorem d1_41 : decode prog_31_method_19_code 41 = .ok (.iload_n 0, 1) := by decide +kernel
theorem d1_42 : decode prog_31_method_19_code 42 = .ok (.bipush 32, 2) := by decide +kernel
theorem d1_44 : decode prog_31_method_19_code 44 = .ok (.ior, 1) := by decide +kernel
theorem d1_45 : decode prog_31_method_19_code 45 = .ok (.bipush 97, 2) := by decide +kernel
theorem d1_47 : decode prog_31_method_19_code 47 = .ok (.isub, 1) := by decide +kernel
theorem d1_48 : decode prog_31_method_19_code 48 = .ok (.bipush 10, 2) := by decide +kernel
theorem d1_50 : decode prog_31_method_19_code 50 = .ok (.iadd, 1) := by decide +kernel
theorem d1_51 : decode prog_31_method_19_code 51 = .ok (.ireturn, 1) := by decide +kernel
theorem d1_52 : decode prog_31_method_19_code 52 = .ok (.iconst (-1), 1) := by decide +kernel
theorem d1_53 : decode prog_31_method_19_code 53 = .ok (.ireturn, 1) := by decide +kernel
theorem pn_1 : plainName "com/example/merkki/merkki/MarkupReader" = true := by first | (simp [plainName, overriddenIn]; done) | decide +kernel
theorem ef_1 (m : MethodId) (x0 : Int32) (x1 : Int32) : entryFrame m #[(.int x0), (.int x1)] 2 = mkF m 0 #[.val (.int x0), .val (.int x1)] [] := by first | (simp [entryFrame, mkF, argsToLocals, Value.category]; done) | rfl
def nd1_17_2 (p0 : Int32) (p1 : Int32) : Int32 := (if p1 = (16 : Int32) then (if (p0 ||| (32 : Int32)) < (97 : Int32) then (-1 : Int32) else (if (102 : Int32) < (p0 ||| (32 : Int32)) then (-1 : Int32) else (((p0 ||| (32 : Int32)) - (97 : Int32)) + (10 : Int32)))) else (-1 : Int32))
def F1 (p0 : Int32) (p1 : Int32) : Int32 := (if p0 < (48 : Int32) then (nd1_17_2 p0 p1) else (if (57 : Int32) < p0 then (nd1_17_2 p0 p1) else (p0 - (48 : Int32))))
def Q1 (Z : State) (p0 : Int32) (p1 : Int32) (h0 : Heap) (n0 : Nat) (v : Option Value) (h : Heap) (L : List Loc) : Prop := v = some (.int (F1 p0 p1)) ∧ Fr n0 L ∧ h = h0
set_option maxRecDepth 65536 in
set_option maxHeartbeats 40000000 in
theorem rm1 (l : Launch) (Z : State) (a0 : Array Value) (hw : ∀ d ∈ tables_1, d.before a0 Z = true) (ws : List Jvm.Cond) (p0 : Int32) (p1 : Int32) (h0 : Heap) (n0 : Nat) (Z0 : n0 ≤ h0.size) :
    MetFree l (⟨"com/example/merkki/merkki/MarkupReader", "digit", "(CI)I"⟩ : MethodName) (head1 (Jvm.Cond.code (⟨"com/example/merkki/merkki/MarkupReader", "digit", "(CI)I"⟩ : MethodName) prog_31_method_19_code 2 (some .int) :: ws) ({ frames := 0, cells := 0, slots := 0, locals := 0 } : Room)) (fun a U => a = #[(.int p0), (.int p1)] ∧ Z.Warmed39 U.vm ∧ U.heap = h0) (fun _ _ _ _ _ => True) (fun _ U o U' => ∃ v L, o = .returned v ∧ Q1 Z p0 p1 h0 n0 v U'.heap L ∧ FrameEnd U o U' L ({ frames := 0, cells := 0, slots := 0, locals := 0 } : Room).cells ({ frames := 0, cells := 0, slots := 0, locals := 0 } : Room).slots) := by
  refine MetFree.of_bodySF (plainFor_of_name pn_1) hisR ?_
  intro p e s m args below meth c s₁ Bd hml0 hP hK
  obtain ⟨rfl, hZ, hh⟩ := hP
  have hx := Bd.exec
  have hby := Bd.bytes
  have hml : c.maxLocals = 2 := hml0
  have hown : s.vm.findClass "com/example/merkki/merkki/MarkupReader" = some m.cls := findClass_of_methodNamed Bd.named
  have hnm := (name_of_methodNamed Bd.named Bd.method).1
  have X0 : Stand p l e ({ frames := 0, cells := 0, slots := 0, locals := 0 } : Room) s m #[(.int p0), (.int p1)] below meth c s₁ [] 0 0 := Stand.of_body Bd
  have e0 : s₁.heap = h0 := by rw [← hh, Bd.state]; rfl
  have N0 := Fr.nil n0
  have pre0 : ∀ t, Steps p.tables e below (s₁.setTop (mkF m 0 #[.val (.int p0), .val (.int p1)] [])) t → Steps p.tables e below (s₁.setTop (entryFrame m #[(.int p0), (.int p1)] 2)) t := fun t k => castTop (ef_1 m p0 p1) k
  have pre1 : ∀ t, Steps p.tables e below (s₁.setTop (mkF m 3 #[.val (.int p0), .val (.int p1)] [(.int (48 : Int32)), (.int p0)])) t → Steps p.tables e below (s₁.setTop (entryFrame m #[(.int p0), (.int p1)] 2)) t := by
    intro t k
    refine pre0 t ?_
    show Steps p.tables e below (s₁.setTop (mkF m 0 #[.val (.int p0), .val (.int p1)] [])) _
    refine XS.iloadN X0.here hx rfl (hb hby d1_0) rfl ?_
    show Steps p.tables e below (s₁.setTop (mkF m 1 #[.val (.int p0), .val (.int p1)] [(.int p0)])) _
    refine XS.bipush X0.here hx rfl (hb hby d1_1) ?_
    exact k
  obtain ⟨fs, hr, hrun, hended, hW, hsame⟩ := X0.leave (v := some (.int (F1 p0 p1))) (fun h => by rw [Bd.returns] at h; cases h)
  refine ⟨_, _, pre1 _ ?_, hrun, hended, _, _, rfl, ?_, ⟨_, rfl⟩, hW, hsame.mono (by decide) (by decide)⟩
  · have k : ∀ (v1 : Int32), v1 = (if p0 < (48 : Int32) then (nd1_17_2 p0 p1) else (if (57 : Int32) < p0 then (nd1_17_2 p0 p1) else (p0 - (48 : Int32)))) → ∀ (f : JFrame) (acts : List Action), f.method = m → f.locked = none → f.entered = [] → (doReturn e (s₁.setTop f) acts (some (.int v1))).1 = s₁.setFrames fs := fun v1 hv1 => by subst hv1; exact hr
    have nd3 : (∀ (v1 : Int32), v1 = (-1 : Int32) → ∀ (f : JFrame) (acts : List Action), f.method = m → f.locked = none → f.entered = [] → (doReturn e (s₁.setTop f) acts (some (.int v1))).1 = s₁.setFrames fs) → Steps p.tables e below (s₁.setTop (mkF m 52 #[.val (.int p0), .val (.int p1)] [])) (s₁.setFrames fs) := by
      intro k
      show Steps p.tables e below (s₁.setTop (mkF m 52 #[.val (.int p0), .val (.int p1)] [])) _
      refine XS.iconst X0.here hx rfl (hb hby d1_52) ?_
      show Steps p.tables e below (s₁.setTop (mkF m 53 #[.val (.int p0), .val (.int p1)] [(.int (-1 : Int32))])) _
      exact retI X0 hx Bd.returns (hb hby d1_53) (k _ rfl)
    have nd4 : (∀ (v1 : Int32), v1 = (nd1_17_2 p0 p1) → ∀ (f : JFrame) (acts : List Action), f.method = m → f.locked = none → f.entered = [] → (doReturn e (s₁.setTop f) acts (some (.int v1))).1 = s₁.setFrames fs) → Steps p.tables e below (s₁.setTop (mkF m 17 #[.val (.int p0), .val (.int p1)] [])) (s₁.setFrames fs) := by
      intro k
      have k : ∀ (v1 : Int32), v1 = (if p1 = (16 : Int32) then (if (p0 ||| (32 : Int32)) < (97 : Int32) then (-1 : Int32) else (if (102 : Int32) < (p0 ||| (32 : Int32)) then (-1 : Int32) else (((p0 ||| (32 : Int32)) - (97 : Int32)) + (10 : Int32)))) else (-1 : Int32)) → ∀ (f : JFrame) (acts : List Action), f.method = m → f.locked = none → f.entered = [] → (doReturn e (s₁.setTop f) acts (some (.int v1))).1 = s₁.setFrames fs := k
      show Steps p.tables e below (s₁.setTop (mkF m 17 #[.val (.int p0), .val (.int p1)] [])) _
      refine XS.iloadN X0.here hx rfl (hb hby d1_17) rfl ?_
      show Steps p.tables e below (s₁.setTop (mkF m 18 #[.val (.int p0), .val (.int p1)] [(.int p1)])) _
      refine XS.bipush X0.here hx rfl (hb hby d1_18) ?_
      show Steps p.tables e below (s₁.setTop (mkF m 20 #[.val (.int p0), .val (.int p1)] [(.int (16 : Int32)), (.int p1)])) _
      by_cases hc5 : p1 = (16 : Int32)
      · refine XS.icmpNo X0.here hx rfl (hb hby d1_20) rfl (teq hc5).2 ?_
        have k : ∀ (v1 : Int32), v1 = (if (p0 ||| (32 : Int32)) < (97 : Int32) then (-1 : Int32) else (if (102 : Int32) < (p0 ||| (32 : Int32)) then (-1 : Int32) else (((p0 ||| (32 : Int32)) - (97 : Int32)) + (10 : Int32)))) → ∀ (f : JFrame) (acts : List Action), f.method = m → f.locked = none → f.entered = [] → (doReturn e (s₁.setTop f) acts (some (.int v1))).1 = s₁.setFrames fs := fun v1 hv1 => k v1 (hv1.trans (if_pos hc5).symm)
        show Steps p.tables e below (s₁.setTop (mkF m 23 #[.val (.int p0), .val (.int p1)] [])) _
        refine XS.iloadN X0.here hx rfl (hb hby d1_23) rfl ?_
        show Steps p.tables e below (s₁.setTop (mkF m 24 #[.val (.int p0), .val (.int p1)] [(.int p0)])) _
        refine XS.bipush X0.here hx rfl (hb hby d1_24) ?_
        show Steps p.tables e below (s₁.setTop (mkF m 26 #[.val (.int p0), .val (.int p1)] [(.int (32 : Int32)), (.int p0)])) _
        refine XS.ior X0.here hx rfl (hb hby d1_26) rfl ?_
        show Steps p.tables e below (s₁.setTop (mkF m 27 #[.val (.int p0), .val (.int p1)] [(.int (p0 ||| (32 : Int32)))])) _
        refine XS.bipush X0.here hx rfl (hb hby d1_27) ?_
        show Steps p.tables e below (s₁.setTop (mkF m 29 #[.val (.int p0), .val (.int p1)] [(.int (97 : Int32)), (.int (p0 ||| (32 : Int32)))])) _
        by_cases hc6 : (p0 ||| (32 : Int32)) < (97 : Int32)
        · refine XS.icmpYes X0.here hx rfl (pc0 := 29) (pc' := 52) rfl (hb hby d1_29) rfl (tlt hc6).1 (by decide) (by decide) ?_
          have k : ∀ (v1 : Int32), v1 = (-1 : Int32) → ∀ (f : JFrame) (acts : List Action), f.method = m → f.locked = none → f.entered = [] → (doReturn e (s₁.setTop f) acts (some (.int v1))).1 = s₁.setFrames fs := fun v1 hv1 => k v1 (hv1.trans (if_pos hc6).symm)
          exact nd3 k
        · refine XS.icmpNo X0.here hx rfl (hb hby d1_29) rfl (flt hc6).1 ?_
          have k : ∀ (v1 : Int32), v1 = (if (102 : Int32) < (p0 ||| (32 : Int32)) then (-1 : Int32) else (((p0 ||| (32 : Int32)) - (97 : Int32)) + (10 : Int32))) → ∀ (f : JFrame) (acts : List Action), f.method = m → f.locked = none → f.entered = [] → (doReturn e (s₁.setTop f) acts (some (.int v1))).1 = s₁.setFrames fs := fun v1 hv1 => k v1 (hv1.trans (if_neg hc6).symm)
          show Steps p.tables e below (s₁.setTop (mkF m 32 #[.val (.int p0), .val (.int p1)] [])) _
          refine XS.iloadN X0.here hx rfl (hb hby d1_32) rfl ?_
          show Steps p.tables e below (s₁.setTop (mkF m 33 #[.val (.int p0), .val (.int p1)] [(.int p0)])) _
          refine XS.bipush X0.here hx rfl (hb hby d1_33) ?_
          show Steps p.tables e below (s₁.setTop (mkF m 35 #[.val (.int p0), .val (.int p1)] [(.int (32 : Int32)), (.int p0)])) _
          refine XS.ior X0.here hx rfl (hb hby d1_35) rfl ?_
          show Steps p.tables e below (s₁.setTop (mkF m 36 #[.val (.int p0), .val (.int p1)] [(.int (p0 ||| (32 : Int32)))])) _
          refine XS.bipush X0.here hx rfl (hb hby d1_36) ?_
          show Steps p.tables e below (s₁.setTop (mkF m 38 #[.val (.int p0), .val (.int p1)] [(.int (102 : Int32)), (.int (p0 ||| (32 : Int32)))])) _
          by_cases hc7 : (102 : Int32) < (p0 ||| (32 : Int32))
          · refine XS.icmpYes X0.here hx rfl (pc0 := 38) (pc' := 52) rfl (hb hby d1_38) rfl (tlt hc7).2.2.1 (by decide) (by decide) ?_
            have k : ∀ (v1 : Int32), v1 = (-1 : Int32) → ∀ (f : JFrame) (acts : List Action), f.method = m → f.locked = none → f.entered = [] → (doReturn e (s₁.setTop f) acts (some (.int v1))).1 = s₁.setFrames fs := fun v1 hv1 => k v1 (hv1.trans (if_pos hc7).symm)
            exact nd3 k
          · refine XS.icmpNo X0.here hx rfl (hb hby d1_38) rfl (flt hc7).2.2.1 ?_
            have k : ∀ (v1 : Int32), v1 = (((p0 ||| (32 : Int32)) - (97 : Int32)) + (10 : Int32)) → ∀ (f : JFrame) (acts : List Action), f.method = m → f.locked = none → f.entered = [] → (doReturn e (s₁.setTop f) acts (some (.int v1))).1 = s₁.setFrames fs := fun v1 hv1 => k v1 (hv1.trans (if_neg hc7).symm)
            show Steps p.tables e below (s₁.setTop (mkF m 41 #[.val (.int p0), .val (.int p1)] [])) _
            refine XS.iloadN X0.here hx rfl (hb hby d1_41) rfl ?_
            show Steps p.tables e below (s₁.setTop (mkF m 42 #[.val (.int p0), .val (.int p1)] [(.int p0)])) _
            refine XS.bipush X0.here hx rfl (hb hby d1_42) ?_
            show Steps p.tables e below (s₁.setTop (mkF m 44 #[.val (.int p0), .val (.int p1)] [(.int (32 : Int32)), (.int p0)])) _
            refine XS.ior X0.here hx rfl (hb hby d1_44) rfl ?_
            show Steps p.tables e below (s₁.setTop (mkF m 45 #[.val (.int p0), .val (.int p1)] [(.int (p0 ||| (32 : Int32)))])) _
            refine XS.bipush X0.here hx rfl (hb hby d1_45) ?_
            show Steps p.tables e below (s₁.setTop (mkF m 47 #[.val (.int p0), .val (.int p1)] [(.int (97 : Int32)), (.int (p0 ||| (32 : Int32)))])) _
            refine XS.isub X0.here hx rfl (hb hby d1_47) rfl ?_
            show Steps p.tables e below (s₁.setTop (mkF m 48 #[.val (.int p0), .val (.int p1)] [(.int ((p0 ||| (32 : Int32)) - (97 : Int32)))])) _
            refine XS.bipush X0.here hx rfl (hb hby d1_48) ?_
            show Steps p.tables e below (s₁.setTop (mkF m 50 #[.val (.int p0), .val (.int p1)] [(.int (10 : Int32)), (.int ((p0 ||| (32 : Int32)) - (97 : Int32)))])) _
            refine XS.iadd X0.here hx rfl (hb hby d1_50) rfl ?_
            show Steps p.tables e below (s₁.setTop (mkF m 51 #[.val (.int p0), .val (.int p1)] [(.int (((p0 ||| (32 : Int32)) - (97 : Int32)) + (10 : Int32)))])) _
            exact retI X0 hx Bd.returns (hb hby d1_51) (k _ rfl)
      · refine XS.icmpYes X0.here hx rfl (pc0 := 20) (pc' := 52) rfl (hb hby d1_20) rfl (feq hc5).2 (by decide) (by decide) ?_
        have k : ∀ (v1 : Int32), v1 = (-1 : Int32) → ∀ (f : JFrame) (acts : List Action), f.method = m → f.locked = none → f.entered = [] → (doReturn e (s₁.setTop f) acts (some (.int v1))).1 = s₁.setFrames fs := fun v1 hv1 => k v1 (hv1.trans (if_neg hc5).symm)
        exact nd3 k
    show Steps p.tables e below (s₁.setTop (mkF m 3 #[.val (.int p0), .val (.int p1)] [(.int (48 : Int32)), (.int p0)])) _
    by_cases hc8 : p0 < (48 : Int32)
    · refine XS.icmpYes X0.here hx rfl (pc0 := 3) (pc' := 17) rfl (hb hby d1_3) rfl (tlt hc8).1 (by decide) (by decide) ?_
      have k : ∀ (v1 : Int32), v1 = (nd1_17_2 p0 p1) → ∀ (f : JFrame) (acts : List Action), f.method = m → f.locked = none → f.entered = [] → (doReturn e (s₁.setTop f) acts (some (.int v1))).1 = s₁.setFrames fs := fun v1 hv1 => k v1 (hv1.trans (if_pos hc8).symm)
      exact nd4 k
    · refine XS.icmpNo X0.here hx rfl (hb hby d1_3) rfl (flt hc8).1 ?_
      have k : ∀ (v1 : Int32), v1 = (if (57 : Int32) < p0 then (nd1_17_2 p0 p1) else (p0 - (48 : Int32))) → ∀ (f : JFrame) (acts : List Action), f.method = m → f.locked = none → f.entered = [] → (doReturn e (s₁.setTop f) acts (some (.int v1))).1 = s₁.setFrames fs := fun v1 hv1 => k v1 (hv1.trans (if_neg hc8).symm)
      show Steps p.tables e below (s₁.setTop (mkF m 6 #[.val (.int p0), .val (.int p1)] [])) _
      refine XS.iloadN X0.here hx rfl (hb hby d1_6) rfl ?_
      show Steps p.tables e below (s₁.setTop (mkF m 7 #[.val (.int p0), .val (.int p1)] [(.int p0)])) _
      refine XS.bipush X0.here hx rfl (hb hby d1_7) ?_
      show Steps p.tables e below (s₁.setTop (mkF m 9 #[.val (.int p0), .val (.int p1)] [(.int (57 : Int32)), (.int p0)])) _
      by_cases hc9 : (57 : Int32) < p0
      · refine XS.icmpYes X0.here hx rfl (pc0 := 9) (pc' := 17) rfl (hb hby d1_9) rfl (tlt hc9).2.2.1 (by decide) (by decide) ?_
        have k : ∀ (v1 : Int32), v1 = (nd1_17_2 p0 p1) → ∀ (f : JFrame) (acts : List Action), f.method = m → f.locked = none → f.entered = [] → (doReturn e (s₁.setTop f) acts (some (.int v1))).1 = s₁.setFrames fs := fun v1 hv1 => k v1 (hv1.trans (if_pos hc9).symm)
        exact nd4 k
      · refine XS.icmpNo X0.here hx rfl (hb hby d1_9) rfl (flt hc9).2.2.1 ?_
        have k : ∀ (v1 : Int32), v1 = (p0 - (48 : Int32)) → ∀ (f : JFrame) (acts : List Action), f.method = m → f.locked = none → f.entered = [] → (doReturn e (s₁.setTop f) acts (some (.int v1))).1 = s₁.setFrames fs := fun v1 hv1 => k v1 (hv1.trans (if_neg hc9).symm)
        show Steps p.tables e below (s₁.setTop (mkF m 12 #[.val (.int p0), .val (.int p1)] [])) _
        refine XS.iloadN X0.here hx rfl (hb hby d1_12) rfl ?_
        show Steps p.tables e below (s₁.setTop (mkF m 13 #[.val (.int p0), .val (.int p1)] [(.int p0)])) _
        refine XS.bipush X0.here hx rfl (hb hby d1_13) ?_
        show Steps p.tables e below (s₁.setTop (mkF m 15 #[.val (.int p0), .val (.int p1)] [(.int (48 : Int32)), (.int p0)])) _
        refine XS.isub X0.here hx rfl (hb hby d1_15) rfl ?_
        show Steps p.tables e below (s₁.setTop (mkF m 16 #[.val (.int p0), .val (.int p1)] [(.int (p0 - (48 : Int32)))])) _
        exact retI X0 hx Bd.returns (hb hby d1_16) (k _ rfl)
  · show Q1 Z p0 p1 h0 n0 _ s₁.heap _
    rw [e0]
    exact ⟨rfl, N0, rfl⟩
theorem d2_0 : decode method_3_code 0 = .ok (.iload_n 0, 1) := by decide +kernel
theorem d2_1 : decode method_3_code 1 = .ok (.bipush 48, 2) := by decide +kernel
theorem d2_3 : decode method_3_code 3 = .ok (.if_icmp .lt 14, 3) := by decide +kernel
theorem d2_6 : decode method_3_code 6 = .ok (.iload_n 0, 1) := by decide +kernel
theorem d2_7 : decode method_3_code 7 = .ok (.bipush 57, 2) := by decide +kernel
theorem d2_9 : decode method_3_code 9 = .ok (.if_icmp .gt 8, 3) := by decide +kernel
theorem d2_12 : decode method_3_code 12 = .ok (.iload_n 0, 1) := by decide +kernel
theorem d2_13 : decode method_3_code 13 = .ok (.bipush 48, 2) := by decide +kernel
theorem d2_15 : decode method_3_code 15 = .ok (.isub, 1) := by decide +kernel
theorem d2_16 : decode method_3_code 16 = .ok (.ireturn, 1) := by decide +kernel
theorem d2_17 : decode method_3_code 17 = .ok (.iload_n 1, 1) := by decide +kernel
theorem d2_18 : decode method_3_code 18 = .ok (.ifCond .eq 43, 3) := by decide +kernel
theorem d2_21 : decode method_3_code 21 = .ok (.iload_n 0, 1) := by decide +kernel
theorem d2_22 : decode method_3_code 22 = .ok (.bipush 97, 2) := by decide +kernel
theorem d2_24 : decode method_3_code 24 = .ok (.if_icmp .lt 17, 3) := by decide +kernel
theorem d2_27 : decode method_3_code 27 = .ok (.iload_n 0, 1) := by decide +kernel
theorem d2_28 : decode method_3_code 28 = .ok (.bipush 102, 2) := by decide +kernel
theorem d2_30 : decode method_3_code 30 = .ok (.if_icmp .gt 11, 3) := by decide +kernel
theorem d2_33 : decode method_3_code 33 = .ok (.iload_n 0, 1) := by decide +kernel
theorem d2_34 : decode method_3_code 34 = .ok (.bipush 97, 2) := by decide +kernel
theorem d2_36 : decode method_3_code 36 = .ok (.isub, 1) := by decide +kernel
theorem d2_37 : decode method_3_code 37 = .ok (.bipush 10, 2) := by decide +kernel
theorem d2_39 : decode method_3_code 39 = .ok (.iadd, 1) := by decide +kernel
theorem d2_40 : decode method_3_code 40 = .ok (.ireturn, 1) := by decide +kernel
theorem d2_41 : decode method_3_code 41 = .ok (.iload_n 0, 1) := by decide +kernel
theorem d2_42 : decode method_3_code 42 = .ok (.bipush 65, 2) := by decide +kernel
theorem d2_44 : decode method_3_code 44 = .ok (.if_icmp .lt 17, 3) := by decide +kernel
theorem d2_47 : decode method_3_code 47 = .ok (.iload_n 0, 1) := by decide +kernel
theorem d2_48 : decode method_3_code 48 = .ok (.bipush 70, 2) := by decide +kernel
theorem d2_50 : decode method_3_code 50 = .ok (.if_icmp .gt 11, 3) := by decide +kernel
theorem d2_53 : decode method_3_code 53 = .ok (.iload_n 0, 1) := by decide +kernel
theorem d2_54 : decode method_3_code 54 = .ok (.bipush 65, 2) := by decide +kernel
theorem d2_56 : decode method_3_code 56 = .ok (.isub, 1) := by decide +kernel
theorem d2_57 : decode method_3_code 57 = .ok (.bipush 10, 2) := by decide +kernel
theorem d2_59 : decode method_3_code 59 = .ok (.iadd, 1) := by decide +kernel
theorem d2_60 : decode method_3_code 60 = .ok (.ireturn, 1) := by decide +kernel
theorem d2_61 : decode method_3_code 61 = .ok (.iconst (-1), 1) := by decide +kernel
theorem d2_62 : decode method_3_code 62 = .ok (.ireturn, 1) := by decide +kernel
theorem pn_2 : plainName "com/example/merkki/merkki/MarkupReaderDigitPinLaw" = true := by first | (simp [plainName, overriddenIn]; done) | decide +kernel
theorem ef_2 (m : MethodId) (x0 : Int32) (x1 : Int32) : entryFrame m #[(.int x0), (.int x1)] 2 = mkF m 0 #[.val (.int x0), .val (.int x1)] [] := by first | (simp [entryFrame, mkF, argsToLocals, Value.category]; done) | rfl
def nd2_41_2 (p0 : Int32) : Int32 := (if p0 < (65 : Int32) then (-1 : Int32) else (if (70 : Int32) < p0 then (-1 : Int32) else ((p0 - (65 : Int32)) + (10 : Int32))))
def nd2_17_3 (p0 : Int32) (p1 : Int32) : Int32 := (if p1 = (0 : Int32) then (-1 : Int32) else (if p0 < (97 : Int32) then (nd2_41_2 p0) else (if (102 : Int32) < p0 then (nd2_41_2 p0) else ((p0 - (97 : Int32)) + (10 : Int32)))))
def F2 (p0 : Int32) (p1 : Int32) : Int32 := (if p0 < (48 : Int32) then (nd2_17_3 p0 p1) else (if (57 : Int32) < p0 then (nd2_17_3 p0 p1) else (p0 - (48 : Int32))))
def Q2 (Z : State) (p0 : Int32) (p1 : Int32) (h0 : Heap) (n0 : Nat) (v : Option Value) (h : Heap) (L : List Loc) : Prop := v = some (.int (F2 p0 p1)) ∧ Fr n0 L ∧ h = h0
set_option maxRecDepth 65536 in
set_option maxHeartbeats 40000000 in
theorem rm2 (l : Launch) (Z : State) (a0 : Array Value) (hw : ∀ d ∈ tables_1, d.before a0 Z = true) (ws : List Jvm.Cond) (p0 : Int32) (p1 : Int32) (h0 : Heap) (n0 : Nat) (Z0 : n0 ≤ h0.size) :
    MetFree l (⟨"com/example/merkki/merkki/MarkupReaderDigitPinLaw", "expected", "(CZ)I"⟩ : MethodName) (head1 (Jvm.Cond.code (⟨"com/example/merkki/merkki/MarkupReaderDigitPinLaw", "expected", "(CZ)I"⟩ : MethodName) method_3_code 2 (some .int) :: ws) ({ frames := 0, cells := 0, slots := 0, locals := 0 } : Room)) (fun a U => a = #[(.int p0), (.int p1)] ∧ Z.Warmed39 U.vm ∧ U.heap = h0) (fun _ _ _ _ _ => True) (fun _ U o U' => ∃ v L, o = .returned v ∧ Q2 Z p0 p1 h0 n0 v U'.heap L ∧ FrameEnd U o U' L ({ frames := 0, cells := 0, slots := 0, locals := 0 } : Room).cells ({ frames := 0, cells := 0, slots := 0, locals := 0 } : Room).slots) := by
  refine MetFree.of_bodySF (plainFor_of_name pn_2) hisR ?_
  intro p e s m args below meth c s₁ Bd hml0 hP hK
  obtain ⟨rfl, hZ, hh⟩ := hP
  have hx := Bd.exec
  have hby := Bd.bytes
  have hml : c.maxLocals = 2 := hml0
  have hown : s.vm.findClass "com/example/merkki/merkki/MarkupReaderDigitPinLaw" = some m.cls := findClass_of_methodNamed Bd.named
  have hnm := (name_of_methodNamed Bd.named Bd.method).1
  have X0 : Stand p l e ({ frames := 0, cells := 0, slots := 0, locals := 0 } : Room) s m #[(.int p0), (.int p1)] below meth c s₁ [] 0 0 := Stand.of_body Bd
  have e0 : s₁.heap = h0 := by rw [← hh, Bd.state]; rfl
  have N0 := Fr.nil n0
  have pre0 : ∀ t, Steps p.tables e below (s₁.setTop (mkF m 0 #[.val (.int p0), .val (.int p1)] [])) t → Steps p.tables e below (s₁.setTop (entryFrame m #[(.int p0), (.int p1)] 2)) t := fun t k => castTop (ef_2 m p0 p1) k
  have pre1 : ∀ t, Steps p.tables e below (s₁.setTop (mkF m 3 #[.val (.int p0), .val (.int p1)] [(.int (48 : Int32)), (.int p0)])) t → Steps p.tables e below (s₁.setTop (entryFrame m #[(.int p0), (.int p1)] 2)) t := by
    intro t k
    refine pre0 t ?_
    show Steps p.tables e below (s₁.setTop (mkF m 0 #[.val (.int p0), .val (.int p1)] [])) _
    refine XS.iloadN X0.here hx rfl (hb hby d2_0) rfl ?_
    show Steps p.tables e below (s₁.setTop (mkF m 1 #[.val (.int p0), .val (.int p1)] [(.int p0)])) _
    refine XS.bipush X0.here hx rfl (hb hby d2_1) ?_
    exact k
  obtain ⟨fs, hr, hrun, hended, hW, hsame⟩ := X0.leave (v := some (.int (F2 p0 p1))) (fun h => by rw [Bd.returns] at h; cases h)
  refine ⟨_, _, pre1 _ ?_, hrun, hended, _, _, rfl, ?_, ⟨_, rfl⟩, hW, hsame.mono (by decide) (by decide)⟩
  · have k : ∀ (v1 : Int32), v1 = (if p0 < (48 : Int32) then (nd2_17_3 p0 p1) else (if (57 : Int32) < p0 then (nd2_17_3 p0 p1) else (p0 - (48 : Int32)))) → ∀ (f : JFrame) (acts : List Action), f.method = m → f.locked = none → f.entered = [] → (doReturn e (s₁.setTop f) acts (some (.int v1))).1 = s₁.setFrames fs := fun v1 hv1 => by subst hv1; exact hr
    have nd4 : (∀ (v1 : Int32), v1 = (-1 : Int32) → ∀ (f : JFrame) (acts : List Action), f.method = m → f.locked = none → f.entered = [] → (doReturn e (s₁.setTop f) acts (some (.int v1))).1 = s₁.setFrames fs) → Steps p.tables e below (s₁.setTop (mkF m 61 #[.val (.int p0), .val (.int p1)] [])) (s₁.setFrames fs) := by
      intro k
      show Steps p.tables e below (s₁.setTop (mkF m 61 #[.val (.int p0), .val (.int p1)] [])) _
      refine XS.iconst X0.here hx rfl (hb hby d2_61) ?_
      show Steps p.tables e below (s₁.setTop (mkF m 62 #[.val (.int p0), .val (.int p1)] [(.int (-1 : Int32))])) _
      exact retI X0 hx Bd.returns (hb hby d2_62) (k _ rfl)
    have nd5 : (∀ (v1 : Int32), v1 = (nd2_41_2 p0) → ∀ (f : JFrame) (acts : List Action), f.method = m → f.locked = none → f.entered = [] → (doReturn e (s₁.setTop f) acts (some (.int v1))).1 = s₁.setFrames fs) → Steps p.tables e below (s₁.setTop (mkF m 41 #[.val (.int p0), .val (.int p1)] [])) (s₁.setFrames fs) := by
      intro k
      have k : ∀ (v1 : Int32), v1 = (if p0 < (65 : Int32) then (-1 : Int32) else (if (70 : Int32) < p0 then (-1 : Int32) else ((p0 - (65 : Int32)) + (10 : Int32)))) → ∀ (f : JFrame) (acts : List Action), f.method = m → f.locked = none → f.entered = [] → (doReturn e (s₁.setTop f) acts (some (.int v1))).1 = s₁.setFrames fs := k
      show Steps p.tables e below (s₁.setTop (mkF m 41 #[.val (.int p0), .val (.int p1)] [])) _
      refine XS.iloadN X0.here hx rfl (hb hby d2_41) rfl ?_
      show Steps p.tables e below (s₁.setTop (mkF m 42 #[.val (.int p0), .val (.int p1)] [(.int p0)])) _
      refine XS.bipush X0.here hx rfl (hb hby d2_42) ?_
      show Steps p.tables e below (s₁.setTop (mkF m 44 #[.val (.int p0), .val (.int p1)] [(.int (65 : Int32)), (.int p0)])) _
      by_cases hc6 : p0 < (65 : Int32)
      · refine XS.icmpYes X0.here hx rfl (pc0 := 44) (pc' := 61) rfl (hb hby d2_44) rfl (tlt hc6).1 (by decide) (by decide) ?_
        have k : ∀ (v1 : Int32), v1 = (-1 : Int32) → ∀ (f : JFrame) (acts : List Action), f.method = m → f.locked = none → f.entered = [] → (doReturn e (s₁.setTop f) acts (some (.int v1))).1 = s₁.setFrames fs := fun v1 hv1 => k v1 (hv1.trans (if_pos hc6).symm)
        exact nd4 k
      · refine XS.icmpNo X0.here hx rfl (hb hby d2_44) rfl (flt hc6).1 ?_
        have k : ∀ (v1 : Int32), v1 = (if (70 : Int32) < p0 then (-1 : Int32) else ((p0 - (65 : Int32)) + (10 : Int32))) → ∀ (f : JFrame) (acts : List Action), f.method = m → f.locked = none → f.entered = [] → (doReturn e (s₁.setTop f) acts (some (.int v1))).1 = s₁.setFrames fs := fun v1 hv1 => k v1 (hv1.trans (if_neg hc6).symm)
        show Steps p.tables e below (s₁.setTop (mkF m 47 #[.val (.int p0), .val (.int p1)] [])) _
        refine XS.iloadN X0.here hx rfl (hb hby d2_47) rfl ?_
        show Steps p.tables e below (s₁.setTop (mkF m 48 #[.val (.int p0), .val (.int p1)] [(.int p0)])) _
        refine XS.bipush X0.here hx rfl (hb hby d2_48) ?_
        show Steps p.tables e below (s₁.setTop (mkF m 50 #[.val (.int p0), .val (.int p1)] [(.int (70 : Int32)), (.int p0)])) _
        by_cases hc7 : (70 : Int32) < p0
        · refine XS.icmpYes X0.here hx rfl (pc0 := 50) (pc' := 61) rfl (hb hby d2_50) rfl (tlt hc7).2.2.1 (by decide) (by decide) ?_
          have k : ∀ (v1 : Int32), v1 = (-1 : Int32) → ∀ (f : JFrame) (acts : List Action), f.method = m → f.locked = none → f.entered = [] → (doReturn e (s₁.setTop f) acts (some (.int v1))).1 = s₁.setFrames fs := fun v1 hv1 => k v1 (hv1.trans (if_pos hc7).symm)
          exact nd4 k
        · refine XS.icmpNo X0.here hx rfl (hb hby d2_50) rfl (flt hc7).2.2.1 ?_
          have k : ∀ (v1 : Int32), v1 = ((p0 - (65 : Int32)) + (10 : Int32)) → ∀ (f : JFrame) (acts : List Action), f.method = m → f.locked = none → f.entered = [] → (doReturn e (s₁.setTop f) acts (some (.int v1))).1 = s₁.setFrames fs := fun v1 hv1 => k v1 (hv1.trans (if_neg hc7).symm)
          show Steps p.tables e below (s₁.setTop (mkF m 53 #[.val (.int p0), .val (.int p1)] [])) _
          refine XS.iloadN X0.here hx rfl (hb hby d2_53) rfl ?_
          show Steps p.tables e below (s₁.setTop (mkF m 54 #[.val (.int p0), .val (.int p1)] [(.int p0)])) _
          refine XS.bipush X0.here hx rfl (hb hby d2_54) ?_
          show Steps p.tables e below (s₁.setTop (mkF m 56 #[.val (.int p0), .val (.int p1)] [(.int (65 : Int32)), (.int p0)])) _
          refine XS.isub X0.here hx rfl (hb hby d2_56) rfl ?_
          show Steps p.tables e below (s₁.setTop (mkF m 57 #[.val (.int p0), .val (.int p1)] [(.int (p0 - (65 : Int32)))])) _
          refine XS.bipush X0.here hx rfl (hb hby d2_57) ?_
          show Steps p.tables e below (s₁.setTop (mkF m 59 #[.val (.int p0), .val (.int p1)] [(.int (10 : Int32)), (.int (p0 - (65 : Int32)))])) _
          refine XS.iadd X0.here hx rfl (hb hby d2_59) rfl ?_
          show Steps p.tables e below (s₁.setTop (mkF m 60 #[.val (.int p0), .val (.int p1)] [(.int ((p0 - (65 : Int32)) + (10 : Int32)))])) _
          exact retI X0 hx Bd.returns (hb hby d2_60) (k _ rfl)
    have nd8 : (∀ (v1 : Int32), v1 = (nd2_17_3 p0 p1) → ∀ (f : JFrame) (acts : List Action), f.method = m → f.locked = none → f.entered = [] → (doReturn e (s₁.setTop f) acts (some (.int v1))).1 = s₁.setFrames fs) → Steps p.tables e below (s₁.setTop (mkF m 17 #[.val (.int p0), .val (.int p1)] [])) (s₁.setFrames fs) := by
      intro k
      have k : ∀ (v1 : Int32), v1 = (if p1 = (0 : Int32) then (-1 : Int32) else (if p0 < (97 : Int32) then (nd2_41_2 p0) else (if (102 : Int32) < p0 then (nd2_41_2 p0) else ((p0 - (97 : Int32)) + (10 : Int32))))) → ∀ (f : JFrame) (acts : List Action), f.method = m → f.locked = none → f.entered = [] → (doReturn e (s₁.setTop f) acts (some (.int v1))).1 = s₁.setFrames fs := k
      show Steps p.tables e below (s₁.setTop (mkF m 17 #[.val (.int p0), .val (.int p1)] [])) _
      refine XS.iloadN X0.here hx rfl (hb hby d2_17) rfl ?_
      show Steps p.tables e below (s₁.setTop (mkF m 18 #[.val (.int p0), .val (.int p1)] [(.int p1)])) _
      by_cases hc9 : p1 = (0 : Int32)
      · refine XS.ifYes X0.here hx rfl (pc0 := 18) (pc' := 61) rfl (hb hby d2_18) rfl ((if0 _ _).trans (teq hc9).1) (by decide) (by decide) ?_
        have k : ∀ (v1 : Int32), v1 = (-1 : Int32) → ∀ (f : JFrame) (acts : List Action), f.method = m → f.locked = none → f.entered = [] → (doReturn e (s₁.setTop f) acts (some (.int v1))).1 = s₁.setFrames fs := fun v1 hv1 => k v1 (hv1.trans (if_pos hc9).symm)
        exact nd4 k
      · refine XS.ifNo X0.here hx rfl (hb hby d2_18) rfl ((if0 _ _).trans (feq hc9).1) ?_
        have k : ∀ (v1 : Int32), v1 = (if p0 < (97 : Int32) then (nd2_41_2 p0) else (if (102 : Int32) < p0 then (nd2_41_2 p0) else ((p0 - (97 : Int32)) + (10 : Int32)))) → ∀ (f : JFrame) (acts : List Action), f.method = m → f.locked = none → f.entered = [] → (doReturn e (s₁.setTop f) acts (some (.int v1))).1 = s₁.setFrames fs := fun v1 hv1 => k v1 (hv1.trans (if_neg hc9).symm)
        show Steps p.tables e below (s₁.setTop (mkF m 21 #[.val (.int p0), .val (.int p1)] [])) _
        refine XS.iloadN X0.here hx rfl (hb hby d2_21) rfl ?_
        show Steps p.tables e below (s₁.setTop (mkF m 22 #[.val (.int p0), .val (.int p1)] [(.int p0)])) _
        refine XS.bipush X0.here hx rfl (hb hby d2_22) ?_
        show Steps p.tables e below (s₁.setTop (mkF m 24 #[.val (.int p0), .val (.int p1)] [(.int (97 : Int32)), (.int p0)])) _
        by_cases hc10 : p0 < (97 : Int32)
        · refine XS.icmpYes X0.here hx rfl (pc0 := 24) (pc' := 41) rfl (hb hby d2_24) rfl (tlt hc10).1 (by decide) (by decide) ?_
          have k : ∀ (v1 : Int32), v1 = (nd2_41_2 p0) → ∀ (f : JFrame) (acts : List Action), f.method = m → f.locked = none → f.entered = [] → (doReturn e (s₁.setTop f) acts (some (.int v1))).1 = s₁.setFrames fs := fun v1 hv1 => k v1 (hv1.trans (if_pos hc10).symm)
          exact nd5 k
        · refine XS.icmpNo X0.here hx rfl (hb hby d2_24) rfl (flt hc10).1 ?_
          have k : ∀ (v1 : Int32), v1 = (if (102 : Int32) < p0 then (nd2_41_2 p0) else ((p0 - (97 : Int32)) + (10 : Int32))) → ∀ (f : JFrame) (acts : List Action), f.method = m → f.locked = none → f.entered = [] → (doReturn e (s₁.setTop f) acts (some (.int v1))).1 = s₁.setFrames fs := fun v1 hv1 => k v1 (hv1.trans (if_neg hc10).symm)
          show Steps p.tables e below (s₁.setTop (mkF m 27 #[.val (.int p0), .val (.int p1)] [])) _
          refine XS.iloadN X0.here hx rfl (hb hby d2_27) rfl ?_
          show Steps p.tables e below (s₁.setTop (mkF m 28 #[.val (.int p0), .val (.int p1)] [(.int p0)])) _
          refine XS.bipush X0.here hx rfl (hb hby d2_28) ?_
          show Steps p.tables e below (s₁.setTop (mkF m 30 #[.val (.int p0), .val (.int p1)] [(.int (102 : Int32)), (.int p0)])) _
          by_cases hc11 : (102 : Int32) < p0
          · refine XS.icmpYes X0.here hx rfl (pc0 := 30) (pc' := 41) rfl (hb hby d2_30) rfl (tlt hc11).2.2.1 (by decide) (by decide) ?_
            have k : ∀ (v1 : Int32), v1 = (nd2_41_2 p0) → ∀ (f : JFrame) (acts : List Action), f.method = m → f.locked = none → f.entered = [] → (doReturn e (s₁.setTop f) acts (some (.int v1))).1 = s₁.setFrames fs := fun v1 hv1 => k v1 (hv1.trans (if_pos hc11).symm)
            exact nd5 k
          · refine XS.icmpNo X0.here hx rfl (hb hby d2_30) rfl (flt hc11).2.2.1 ?_
            have k : ∀ (v1 : Int32), v1 = ((p0 - (97 : Int32)) + (10 : Int32)) → ∀ (f : JFrame) (acts : List Action), f.method = m → f.locked = none → f.entered = [] → (doReturn e (s₁.setTop f) acts (some (.int v1))).1 = s₁.setFrames fs := fun v1 hv1 => k v1 (hv1.trans (if_neg hc11).symm)
            show Steps p.tables e below (s₁.setTop (mkF m 33 #[.val (.int p0), .val (.int p1)] [])) _
            refine XS.iloadN X0.here hx rfl (hb hby d2_33) rfl ?_
            show Steps p.tables e below (s₁.setTop (mkF m 34 #[.val (.int p0), .val (.int p1)] [(.int p0)])) _
            refine XS.bipush X0.here hx rfl (hb hby d2_34) ?_
            show Steps p.tables e below (s₁.setTop (mkF m 36 #[.val (.int p0), .val (.int p1)] [(.int (97 : Int32)), (.int p0)])) _
            refine XS.isub X0.here hx rfl (hb hby d2_36) rfl ?_
            show Steps p.tables e below (s₁.setTop (mkF m 37 #[.val (.int p0), .val (.int p1)] [(.int (p0 - (97 : Int32)))])) _
            refine XS.bipush X0.here hx rfl (hb hby d2_37) ?_
            show Steps p.tables e below (s₁.setTop (mkF m 39 #[.val (.int p0), .val (.int p1)] [(.int (10 : Int32)), (.int (p0 - (97 : Int32)))])) _
            refine XS.iadd X0.here hx rfl (hb hby d2_39) rfl ?_
            show Steps p.tables e below (s₁.setTop (mkF m 40 #[.val (.int p0), .val (.int p1)] [(.int ((p0 - (97 : Int32)) + (10 : Int32)))])) _
            exact retI X0 hx Bd.returns (hb hby d2_40) (k _ rfl)
    show Steps p.tables e below (s₁.setTop (mkF m 3 #[.val (.int p0), .val (.int p1)] [(.int (48 : Int32)), (.int p0)])) _
    by_cases hc12 : p0 < (48 : Int32)
    · refine XS.icmpYes X0.here hx rfl (pc0 := 3) (pc' := 17) rfl (hb hby d2_3) rfl (tlt hc12).1 (by decide) (by decide) ?_
      have k : ∀ (v1 : Int32), v1 = (nd2_17_3 p0 p1) → ∀ (f : JFrame) (acts : List Action), f.method = m → f.locked = none → f.entered = [] → (doReturn e (s₁.setTop f) acts (some (.int v1))).1 = s₁.setFrames fs := fun v1 hv1 => k v1 (hv1.trans (if_pos hc12).symm)
      exact nd8 k
    · refine XS.icmpNo X0.here hx rfl (hb hby d2_3) rfl (flt hc12).1 ?_
      have k : ∀ (v1 : Int32), v1 = (if (57 : Int32) < p0 then (nd2_17_3 p0 p1) else (p0 - (48 : Int32))) → ∀ (f : JFrame) (acts : List Action), f.method = m → f.locked = none → f.entered = [] → (doReturn e (s₁.setTop f) acts (some (.int v1))).1 = s₁.setFrames fs := fun v1 hv1 => k v1 (hv1.trans (if_neg hc12).symm)
      show Steps p.tables e below (s₁.setTop (mkF m 6 #[.val (.int p0), .val (.int p1)] [])) _
      refine XS.iloadN X0.here hx rfl (hb hby d2_6) rfl ?_
      show Steps p.tables e below (s₁.setTop (mkF m 7 #[.val (.int p0), .val (.int p1)] [(.int p0)])) _
      refine XS.bipush X0.here hx rfl (hb hby d2_7) ?_
      show Steps p.tables e below (s₁.setTop (mkF m 9 #[.val (.int p0), .val (.int p1)] [(.int (57 : Int32)), (.int p0)])) _
      by_cases hc13 : (57 : Int32) < p0
      · refine XS.icmpYes X0.here hx rfl (pc0 := 9) (pc' := 17) rfl (hb hby d2_9) rfl (tlt hc13).2.2.1 (by decide) (by decide) ?_
        have k : ∀ (v1 : Int32), v1 = (nd2_17_3 p0 p1) → ∀ (f : JFrame) (acts : List Action), f.method = m → f.locked = none → f.entered = [] → (doReturn e (s₁.setTop f) acts (some (.int v1))).1 = s₁.setFrames fs := fun v1 hv1 => k v1 (hv1.trans (if_pos hc13).symm)
        exact nd8 k
      · refine XS.icmpNo X0.here hx rfl (hb hby d2_9) rfl (flt hc13).2.2.1 ?_
        have k : ∀ (v1 : Int32), v1 = (p0 - (48 : Int32)) → ∀ (f : JFrame) (acts : List Action), f.method = m → f.locked = none → f.entered = [] → (doReturn e (s₁.setTop f) acts (some (.int v1))).1 = s₁.setFrames fs := fun v1 hv1 => k v1 (hv1.trans (if_neg hc13).symm)
        show Steps p.tables e below (s₁.setTop (mkF m 12 #[.val (.int p0), .val (.int p1)] [])) _
        refine XS.iloadN X0.here hx rfl (hb hby d2_12) rfl ?_
        show Steps p.tables e below (s₁.setTop (mkF m 13 #[.val (.int p0), .val (.int p1)] [(.int p0)])) _
        refine XS.bipush X0.here hx rfl (hb hby d2_13) ?_
        show Steps p.tables e below (s₁.setTop (mkF m 15 #[.val (.int p0), .val (.int p1)] [(.int (48 : Int32)), (.int p0)])) _
        refine XS.isub X0.here hx rfl (hb hby d2_15) rfl ?_
        show Steps p.tables e below (s₁.setTop (mkF m 16 #[.val (.int p0), .val (.int p1)] [(.int (p0 - (48 : Int32)))])) _
        exact retI X0 hx Bd.returns (hb hby d2_16) (k _ rfl)
  · show Q2 Z p0 p1 h0 n0 _ s₁.heap _
    rw [e0]
    exact ⟨rfl, N0, rfl⟩
theorem pd_0 : parseMethodDescriptor "(CI)I" = some ⟨[.char, .int], some .int⟩ := by decide +kernel
theorem pd_1 : parseMethodDescriptor "(CZ)I" = some ⟨[.char, .boolean], some .int⟩ := by decide +kernel
theorem ef_0 (m : MethodId) (x0 : Int32) (x1 : Int32) (x2 : Int32) : entryFrame m #[(.int x0), (.int x1), (.int x2)] maxLocals = mkF m 0 #[.val (.int x0), .val (.int x1), .val (.int x2), .unset, .unset, .unset, .unset, .unset, .unset] [] := by first | (simp [entryFrame, mkF, argsToLocals, Value.category, maxLocals]; done) | rfl
def v_hex (p1 : Int32) : Bool := (if (p1 &&& (1 : Int32)) = (0 : Int32) then false else true)
def v_rad (p1 : Int32) : Int32 := (if (v_hex p1) = true then (16 : Int32) else (10 : Int32))
def v_ch (p0 : Int32) (p1 : Int32) : Int32 := (if (p1 &&& (2 : Int32)) = (0 : Int32) then ((p0 &&& (127 : Int32)).toUInt32.toUInt16.toUInt32.toInt32) else ((p0 &&& (65535 : Int32)).toUInt32.toUInt16.toUInt32.toInt32))
def v_v (p1 : Int32) (p2 : Int32) : Int32 := ((p2 &&& (2147483647 : Int32)) % (v_rad p1))
def v_up (p1 : Int32) : Bool := (if (p1 &&& (4 : Int32)) = (0 : Int32) then false else true)
def v_d (p1 : Int32) (p2 : Int32) : Int32 := (if (v_v p1 p2) < (10 : Int32) then (((48 : Int32) + (v_v p1 p2)).toUInt32.toUInt16.toUInt32.toInt32) else (if (v_up p1) = true then (((65 : Int32) + ((v_v p1 p2) - (10 : Int32))).toUInt32.toUInt16.toUInt32.toInt32) else (((97 : Int32) + ((v_v p1 p2) - (10 : Int32))).toUInt32.toUInt16.toUInt32.toInt32)))
theorem own_fin (x : Int32) (n : Nat) (h0 : 0 ≤ x.toInt) (h1 : x.toInt < n) : ∃ i : Fin n, x = Int32.ofInt (i.1 : Int) :=
  ⟨⟨x.toInt.toNat, by omega⟩, by
    have e : ((x.toInt.toNat : Nat) : Int) = x.toInt := Int.toNat_of_nonneg h0
    show x = Int32.ofInt ((x.toInt.toNat : Nat) : Int)
    rw [e, Int32.ofInt_toInt]⟩
theorem own_rad (p1 : Int32) : ¬ (v_rad p1 = 0) := by
  unfold v_rad
  split <;> decide
theorem own_small : ∀ i : Fin 128, F1 (Int32.ofInt (i.1 : Int)) 16 = F2 (Int32.ofInt (i.1 : Int)) 1 ∧ F1 (Int32.ofInt (i.1 : Int)) 10 = F2 (Int32.ofInt (i.1 : Int)) 0 := by decide +kernel
theorem own_far (c r b : Int32) (h : 128 ≤ c.toInt) : F1 c r = F2 c b := by
  have l1 : (48 : Int32).toInt = 48 := by decide
  have l2 : (57 : Int32).toInt = 57 := by decide
  have l3 : (97 : Int32).toInt = 97 := by decide
  have l4 : (102 : Int32).toInt = 102 := by decide
  have l5 : (65 : Int32).toInt = 65 := by decide
  have l6 : (70 : Int32).toInt = 70 := by decide
  have l7 : (32 : Int32).toInt = 32 := by decide
  have o := (c_or0 c 32 (by omega) (by omega)).1
  have e1 : F1 c r = -1 := by
    simp only [F1, nd1_17_2, Int32.lt_iff_toInt_lt]
    repeat' split
    all_goals first | rfl | (exfalso; omega)
  have e2 : F2 c b = -1 := by
    simp only [F2, nd2_17_3, nd2_41_2, Int32.lt_iff_toInt_lt]
    repeat' split
    all_goals first | rfl | (exfalso; omega)
  rw [e1, e2]
theorem own_hex (p1 : Int32) : (v_rad p1 = 16 ∧ b2i (v_hex p1) = 1) ∨ (v_rad p1 = 10 ∧ b2i (v_hex p1) = 0) := by
  unfold v_rad
  cases v_hex p1
  · exact Or.inr (by decide)
  · exact Or.inl (by decide)
theorem own_ch (p0 p1 : Int32) : 0 ≤ (v_ch p0 p1).toInt := by
  unfold v_ch
  split
  · exact (c_i2c _).2.1
  · exact (c_i2c _).2.1
theorem own_first (p0 p1 : Int32) : (F1 (v_ch p0 p1) (v_rad p1)) = (F2 (v_ch p0 p1) (b2i (v_hex p1))) := by
  have h := own_ch p0 p1
  by_cases q : (v_ch p0 p1).toInt < 128
  · obtain ⟨i, hi⟩ := own_fin _ 128 h q
    rw [hi]
    rcases own_hex p1 with ⟨a, b⟩ | ⟨a, b⟩
    · rw [a, b]; exact (own_small i).1
    · rw [a, b]; exact (own_small i).2
  · exact own_far _ _ _ (by omega)
theorem own_d : ∀ (i : Fin 16) (u : Bool), F1 (if (Int32.ofInt (i.1 : Int)) < (10 : Int32) then (((48 : Int32) + (Int32.ofInt (i.1 : Int))).toUInt32.toUInt16.toUInt32.toInt32) else (if u = true then (((65 : Int32) + ((Int32.ofInt (i.1 : Int)) - (10 : Int32))).toUInt32.toUInt16.toUInt32.toInt32) else (((97 : Int32) + ((Int32.ofInt (i.1 : Int)) - (10 : Int32))).toUInt32.toUInt16.toUInt32.toInt32))) 16 = Int32.ofInt (i.1 : Int) := by decide +kernel
theorem own_d10 : ∀ (i : Fin 10) (u : Bool), F1 (if (Int32.ofInt (i.1 : Int)) < (10 : Int32) then (((48 : Int32) + (Int32.ofInt (i.1 : Int))).toUInt32.toUInt16.toUInt32.toInt32) else (if u = true then (((65 : Int32) + ((Int32.ofInt (i.1 : Int)) - (10 : Int32))).toUInt32.toUInt16.toUInt32.toInt32) else (((97 : Int32) + ((Int32.ofInt (i.1 : Int)) - (10 : Int32))).toUInt32.toUInt16.toUInt32.toInt32))) 10 = Int32.ofInt (i.1 : Int) := by decide +kernel
theorem own_second (p1 p2 : Int32) : (F1 (v_d p1 p2) (v_rad p1)) = (v_v p1 p2) := by
  have h := c_mask p2 2147483647 31 (by decide) (by decide)
  have d : v_v p1 p2 = (p2 &&& 2147483647) % v_rad p1 := rfl
  unfold v_d
  rcases own_hex p1 with ⟨a, b⟩ | ⟨a, b⟩
  · rw [a] at d ⊢
    have e := (c_irem (p2 &&& 2147483647) 16 16 (by decide)).1 (by omega)
    rw [← d] at e
    obtain ⟨i, hi⟩ := own_fin (v_v p1 p2) 16 (by omega) (by omega)
    rw [hi]; exact own_d i _
  · rw [a] at d ⊢
    have e := (c_irem (p2 &&& 2147483647) 10 10 (by decide)).1 (by omega)
    rw [← d] at e
    obtain ⟨i, hi⟩ := own_fin (v_v p1 p2) 10 (by omega) (by omega)
    rw [hi]; exact own_d10 i _
def Q0 (Z : State) (p0 : Int32) (p1 : Int32) (p2 : Int32) (h0 : Heap) (n0 : Nat) (v : Option Value) (h : Heap) (L : List Loc) : Prop := v = some (.int (1 : Int32)) ∧ Fr n0 L
set_option maxRecDepth 65536 in
set_option maxHeartbeats 40000000 in
theorem rm0 (l : Launch) (Z : State) (a0 : Array Value) (hw : ∀ d ∈ tables_1, d.before a0 Z = true) (ws : List Jvm.Cond) (p0 : Int32) (p1 : Int32) (p2 : Int32) (h0 : Heap) (n0 : Nat) (Z0 : n0 ≤ h0.size) :
    MetFree l x (head1 (Jvm.Cond.code x code maxLocals ret :: ws) room_1) (fun a U => a = #[(.int p0), (.int p1), (.int p2)] ∧ Z.Warmed39 U.vm ∧ U.heap = h0) (fun _ _ _ _ _ => True) (fun _ U o U' => ∃ v L, o = .returned v ∧ Q0 Z p0 p1 p2 h0 n0 v U'.heap L ∧ FrameEnd U o U' L room_1.cells room_1.slots) := by
  refine MetFree.of_bodySF (plainFor_of_name pn_2) hisR ?_
  intro p e s m args below meth c s₁ Bd hml0 hP hK
  obtain ⟨rfl, hZ, hh⟩ := hP
  have hx := Bd.exec
  have hby := Bd.bytes
  have hml : c.maxLocals = 9 := hml0
  have hown : s.vm.findClass "com/example/merkki/merkki/MarkupReaderDigitPinLaw" = some m.cls := findClass_of_methodNamed Bd.named
  have hnm := (name_of_methodNamed Bd.named Bd.method).1
  have X0 : Stand p l e room_1 s m #[(.int p0), (.int p1), (.int p2)] below meth c s₁ [] 0 0 := Stand.of_body Bd
  have e0 : s₁.heap = h0 := by rw [← hh, Bd.state]; rfl
  have N0 := Fr.nil n0
  have pre0 : ∀ t, Steps p.tables e below (s₁.setTop (mkF m 0 #[.val (.int p0), .val (.int p1), .val (.int p2), .unset, .unset, .unset, .unset, .unset, .unset] [])) t → Steps p.tables e below (s₁.setTop (entryFrame m #[(.int p0), (.int p1), (.int p2)] maxLocals)) t := fun t k => castTop (ef_0 m p0 p1 p2) k
  have pre1 : ∀ t, Steps p.tables e below (s₁.setTop (mkF m 3 #[.val (.int p0), .val (.int p1), .val (.int p2), .unset, .unset, .unset, .unset, .unset, .unset] [(.int (p1 &&& (1 : Int32)))])) t → Steps p.tables e below (s₁.setTop (entryFrame m #[(.int p0), (.int p1), (.int p2)] maxLocals)) t := by
    intro t k
    refine pre0 t ?_
    show Steps p.tables e below (s₁.setTop (mkF m 0 #[.val (.int p0), .val (.int p1), .val (.int p2), .unset, .unset, .unset, .unset, .unset, .unset] [])) _
    refine XS.iloadN X0.here hx rfl (hb hby at_0) rfl ?_
    show Steps p.tables e below (s₁.setTop (mkF m 1 #[.val (.int p0), .val (.int p1), .val (.int p2), .unset, .unset, .unset, .unset, .unset, .unset] [(.int p1)])) _
    refine XS.iconst X0.here hx rfl (hb hby at_1) ?_
    show Steps p.tables e below (s₁.setTop (mkF m 2 #[.val (.int p0), .val (.int p1), .val (.int p2), .unset, .unset, .unset, .unset, .unset, .unset] [(.int (1 : Int32)), (.int p1)])) _
    refine XS.iand X0.here hx rfl (hb hby at_2) rfl ?_
    exact k
  have pre2 : ∀ t, Steps p.tables e below (s₁.setTop (mkF m 11 #[.val (.int p0), .val (.int p1), .val (.int p2), .unset, .unset, .unset, .unset, .unset, .unset] [(.int (b2i (if (p1 &&& (1 : Int32)) = (0 : Int32) then false else true)))])) t → Steps p.tables e below (s₁.setTop (entryFrame m #[(.int p0), (.int p1), (.int p2)] maxLocals)) t := by
    intro t k
    refine pre1 t ?_
    have k : ∀ (v1 : Bool), v1 = (if (p1 &&& (1 : Int32)) = (0 : Int32) then false else true) → Steps p.tables e below (s₁.setTop (mkF m 11 #[.val (.int p0), .val (.int p1), .val (.int p2), .unset, .unset, .unset, .unset, .unset, .unset] [(.int (b2i v1))])) t := fun v1 hv1 => by subst hv1; exact k
    show Steps p.tables e below (s₁.setTop (mkF m 3 #[.val (.int p0), .val (.int p1), .val (.int p2), .unset, .unset, .unset, .unset, .unset, .unset] [(.int (p1 &&& (1 : Int32)))])) _
    by_cases hc3 : (p1 &&& (1 : Int32)) = (0 : Int32)
    · refine XS.ifYes X0.here hx rfl (pc0 := 3) (pc' := 10) rfl (hb hby at_3) rfl ((if0 _ _).trans (teq hc3).1) (by decide) (by decide) ?_
      have k : ∀ (v1 : Bool), v1 = false → Steps p.tables e below (s₁.setTop (mkF m 11 #[.val (.int p0), .val (.int p1), .val (.int p2), .unset, .unset, .unset, .unset, .unset, .unset] [(.int (b2i v1))])) t := fun v1 hv1 => k v1 (hv1.trans (if_pos hc3).symm)
      show Steps p.tables e below (s₁.setTop (mkF m 10 #[.val (.int p0), .val (.int p1), .val (.int p2), .unset, .unset, .unset, .unset, .unset, .unset] [])) _
      refine XS.iconst X0.here hx rfl (hb hby at_10) ?_
      exact k false rfl
    · refine XS.ifNo X0.here hx rfl (hb hby at_3) rfl ((if0 _ _).trans (feq hc3).1) ?_
      have k : ∀ (v1 : Bool), v1 = true → Steps p.tables e below (s₁.setTop (mkF m 11 #[.val (.int p0), .val (.int p1), .val (.int p2), .unset, .unset, .unset, .unset, .unset, .unset] [(.int (b2i v1))])) t := fun v1 hv1 => k v1 (hv1.trans (if_neg hc3).symm)
      show Steps p.tables e below (s₁.setTop (mkF m 6 #[.val (.int p0), .val (.int p1), .val (.int p2), .unset, .unset, .unset, .unset, .unset, .unset] [])) _
      refine XS.iconst X0.here hx rfl (hb hby at_6) ?_
      show Steps p.tables e below (s₁.setTop (mkF m 7 #[.val (.int p0), .val (.int p1), .val (.int p2), .unset, .unset, .unset, .unset, .unset, .unset] [(.int (1 : Int32))])) _
      refine XS.goto X0.here hx rfl (pc0 := 7) (pc' := 11) rfl (hb hby at_7) (by decide) (by decide) ?_
      exact k true rfl
  have pre4 : ∀ t, Steps p.tables e below (s₁.setTop (mkF m 13 #[.val (.int p0), .val (.int p1), .val (.int p2), .val (.int (b2i (v_hex p1))), .unset, .unset, .unset, .unset, .unset] [(.int (b2i (v_hex p1)))])) t → Steps p.tables e below (s₁.setTop (entryFrame m #[(.int p0), (.int p1), (.int p2)] maxLocals)) t := by
    intro t k
    refine pre2 t ?_
    show Steps p.tables e below (s₁.setTop (mkF m 11 #[.val (.int p0), .val (.int p1), .val (.int p2), .unset, .unset, .unset, .unset, .unset, .unset] [(.int (b2i (if (p1 &&& (1 : Int32)) = (0 : Int32) then false else true)))])) _
    refine XS.istoreN X0.here hx rfl (hb hby at_11) rfl (l' := #[.val (.int p0), .val (.int p1), .val (.int p2), .val (.int (b2i (v_hex p1))), .unset, .unset, .unset, .unset, .unset]) rfl ?_
    show Steps p.tables e below (s₁.setTop (mkF m 12 #[.val (.int p0), .val (.int p1), .val (.int p2), .val (.int (b2i (v_hex p1))), .unset, .unset, .unset, .unset, .unset] [])) _
    refine XS.iloadN X0.here hx rfl (hb hby at_12) rfl ?_
    exact k
  have pre5 : ∀ t, Steps p.tables e below (s₁.setTop (mkF m 23 #[.val (.int p0), .val (.int p1), .val (.int p2), .val (.int (b2i (v_hex p1))), .unset, .unset, .unset, .unset, .unset] [(.int (if (v_hex p1) = true then (16 : Int32) else (10 : Int32)))])) t → Steps p.tables e below (s₁.setTop (entryFrame m #[(.int p0), (.int p1), (.int p2)] maxLocals)) t := by
    intro t k
    refine pre4 t ?_
    have k : ∀ (v1 : Int32), v1 = (if (v_hex p1) = true then (16 : Int32) else (10 : Int32)) → Steps p.tables e below (s₁.setTop (mkF m 23 #[.val (.int p0), .val (.int p1), .val (.int p2), .val (.int (b2i (v_hex p1))), .unset, .unset, .unset, .unset, .unset] [(.int v1)])) t := fun v1 hv1 => by subst hv1; exact k
    show Steps p.tables e below (s₁.setTop (mkF m 13 #[.val (.int p0), .val (.int p1), .val (.int p2), .val (.int (b2i (v_hex p1))), .unset, .unset, .unset, .unset, .unset] [(.int (b2i (v_hex p1)))])) _
    by_cases hc6 : (v_hex p1) = true
    · refine XS.ifNo X0.here hx rfl (hb hby at_13) rfl ((if0 _ _).trans (feq (b2i_ne hc6)).1) ?_
      have k : ∀ (v1 : Int32), v1 = (16 : Int32) → Steps p.tables e below (s₁.setTop (mkF m 23 #[.val (.int p0), .val (.int p1), .val (.int p2), .val (.int (b2i (v_hex p1))), .unset, .unset, .unset, .unset, .unset] [(.int v1)])) t := fun v1 hv1 => k v1 (hv1.trans (if_pos hc6).symm)
      show Steps p.tables e below (s₁.setTop (mkF m 16 #[.val (.int p0), .val (.int p1), .val (.int p2), .val (.int (b2i (v_hex p1))), .unset, .unset, .unset, .unset, .unset] [])) _
      refine XS.bipush X0.here hx rfl (hb hby at_16) ?_
      show Steps p.tables e below (s₁.setTop (mkF m 18 #[.val (.int p0), .val (.int p1), .val (.int p2), .val (.int (b2i (v_hex p1))), .unset, .unset, .unset, .unset, .unset] [(.int (16 : Int32))])) _
      refine XS.goto X0.here hx rfl (pc0 := 18) (pc' := 23) rfl (hb hby at_18) (by decide) (by decide) ?_
      exact k _ rfl
    · refine XS.ifYes X0.here hx rfl (pc0 := 13) (pc' := 21) rfl (hb hby at_13) rfl ((if0 _ _).trans (teq (b2i_eq hc6)).1) (by decide) (by decide) ?_
      have k : ∀ (v1 : Int32), v1 = (10 : Int32) → Steps p.tables e below (s₁.setTop (mkF m 23 #[.val (.int p0), .val (.int p1), .val (.int p2), .val (.int (b2i (v_hex p1))), .unset, .unset, .unset, .unset, .unset] [(.int v1)])) t := fun v1 hv1 => k v1 (hv1.trans (if_neg hc6).symm)
      show Steps p.tables e below (s₁.setTop (mkF m 21 #[.val (.int p0), .val (.int p1), .val (.int p2), .val (.int (b2i (v_hex p1))), .unset, .unset, .unset, .unset, .unset] [])) _
      refine XS.bipush X0.here hx rfl (hb hby at_21) ?_
      exact k _ rfl
  have pre7 : ∀ t, Steps p.tables e below (s₁.setTop (mkF m 28 #[.val (.int p0), .val (.int p1), .val (.int p2), .val (.int (b2i (v_hex p1))), .val (.int (v_rad p1)), .unset, .unset, .unset, .unset] [(.int (p1 &&& (2 : Int32)))])) t → Steps p.tables e below (s₁.setTop (entryFrame m #[(.int p0), (.int p1), (.int p2)] maxLocals)) t := by
    intro t k
    refine pre5 t ?_
    show Steps p.tables e below (s₁.setTop (mkF m 23 #[.val (.int p0), .val (.int p1), .val (.int p2), .val (.int (b2i (v_hex p1))), .unset, .unset, .unset, .unset, .unset] [(.int (if (v_hex p1) = true then (16 : Int32) else (10 : Int32)))])) _
    refine XS.istore X0.here hx rfl (hb hby at_23) rfl (l' := #[.val (.int p0), .val (.int p1), .val (.int p2), .val (.int (b2i (v_hex p1))), .val (.int (v_rad p1)), .unset, .unset, .unset, .unset]) rfl ?_
    show Steps p.tables e below (s₁.setTop (mkF m 25 #[.val (.int p0), .val (.int p1), .val (.int p2), .val (.int (b2i (v_hex p1))), .val (.int (v_rad p1)), .unset, .unset, .unset, .unset] [])) _
    refine XS.iloadN X0.here hx rfl (hb hby at_25) rfl ?_
    show Steps p.tables e below (s₁.setTop (mkF m 26 #[.val (.int p0), .val (.int p1), .val (.int p2), .val (.int (b2i (v_hex p1))), .val (.int (v_rad p1)), .unset, .unset, .unset, .unset] [(.int p1)])) _
    refine XS.iconst X0.here hx rfl (hb hby at_26) ?_
    show Steps p.tables e below (s₁.setTop (mkF m 27 #[.val (.int p0), .val (.int p1), .val (.int p2), .val (.int (b2i (v_hex p1))), .val (.int (v_rad p1)), .unset, .unset, .unset, .unset] [(.int (2 : Int32)), (.int p1)])) _
    refine XS.iand X0.here hx rfl (hb hby at_27) rfl ?_
    exact k
  have pre8 : ∀ t, Steps p.tables e below (s₁.setTop (mkF m 44 #[.val (.int p0), .val (.int p1), .val (.int p2), .val (.int (b2i (v_hex p1))), .val (.int (v_rad p1)), .unset, .unset, .unset, .unset] [(.int (if (p1 &&& (2 : Int32)) = (0 : Int32) then ((p0 &&& (127 : Int32)).toUInt32.toUInt16.toUInt32.toInt32) else ((p0 &&& (65535 : Int32)).toUInt32.toUInt16.toUInt32.toInt32)))])) t → Steps p.tables e below (s₁.setTop (entryFrame m #[(.int p0), (.int p1), (.int p2)] maxLocals)) t := by
    intro t k
    refine pre7 t ?_
    have k : ∀ (v1 : Int32), v1 = (if (p1 &&& (2 : Int32)) = (0 : Int32) then ((p0 &&& (127 : Int32)).toUInt32.toUInt16.toUInt32.toInt32) else ((p0 &&& (65535 : Int32)).toUInt32.toUInt16.toUInt32.toInt32)) → Steps p.tables e below (s₁.setTop (mkF m 44 #[.val (.int p0), .val (.int p1), .val (.int p2), .val (.int (b2i (v_hex p1))), .val (.int (v_rad p1)), .unset, .unset, .unset, .unset] [(.int v1)])) t := fun v1 hv1 => by subst hv1; exact k
    show Steps p.tables e below (s₁.setTop (mkF m 28 #[.val (.int p0), .val (.int p1), .val (.int p2), .val (.int (b2i (v_hex p1))), .val (.int (v_rad p1)), .unset, .unset, .unset, .unset] [(.int (p1 &&& (2 : Int32)))])) _
    by_cases hc9 : (p1 &&& (2 : Int32)) = (0 : Int32)
    · refine XS.ifYes X0.here hx rfl (pc0 := 28) (pc' := 39) rfl (hb hby at_28) rfl ((if0 _ _).trans (teq hc9).1) (by decide) (by decide) ?_
      have k : ∀ (v1 : Int32), v1 = ((p0 &&& (127 : Int32)).toUInt32.toUInt16.toUInt32.toInt32) → Steps p.tables e below (s₁.setTop (mkF m 44 #[.val (.int p0), .val (.int p1), .val (.int p2), .val (.int (b2i (v_hex p1))), .val (.int (v_rad p1)), .unset, .unset, .unset, .unset] [(.int v1)])) t := fun v1 hv1 => k v1 (hv1.trans (if_pos hc9).symm)
      show Steps p.tables e below (s₁.setTop (mkF m 39 #[.val (.int p0), .val (.int p1), .val (.int p2), .val (.int (b2i (v_hex p1))), .val (.int (v_rad p1)), .unset, .unset, .unset, .unset] [])) _
      refine XS.iloadN X0.here hx rfl (hb hby at_39) rfl ?_
      show Steps p.tables e below (s₁.setTop (mkF m 40 #[.val (.int p0), .val (.int p1), .val (.int p2), .val (.int (b2i (v_hex p1))), .val (.int (v_rad p1)), .unset, .unset, .unset, .unset] [(.int p0)])) _
      refine XS.bipush X0.here hx rfl (hb hby at_40) ?_
      show Steps p.tables e below (s₁.setTop (mkF m 42 #[.val (.int p0), .val (.int p1), .val (.int p2), .val (.int (b2i (v_hex p1))), .val (.int (v_rad p1)), .unset, .unset, .unset, .unset] [(.int (127 : Int32)), (.int p0)])) _
      refine XS.iand X0.here hx rfl (hb hby at_42) rfl ?_
      show Steps p.tables e below (s₁.setTop (mkF m 43 #[.val (.int p0), .val (.int p1), .val (.int p2), .val (.int (b2i (v_hex p1))), .val (.int (v_rad p1)), .unset, .unset, .unset, .unset] [(.int (p0 &&& (127 : Int32)))])) _
      refine XS.i2c X0.here hx rfl (hb hby at_43) rfl ?_
      exact k _ rfl
    · refine XS.ifNo X0.here hx rfl (hb hby at_28) rfl ((if0 _ _).trans (feq hc9).1) ?_
      have k : ∀ (v1 : Int32), v1 = ((p0 &&& (65535 : Int32)).toUInt32.toUInt16.toUInt32.toInt32) → Steps p.tables e below (s₁.setTop (mkF m 44 #[.val (.int p0), .val (.int p1), .val (.int p2), .val (.int (b2i (v_hex p1))), .val (.int (v_rad p1)), .unset, .unset, .unset, .unset] [(.int v1)])) t := fun v1 hv1 => k v1 (hv1.trans (if_neg hc9).symm)
      show Steps p.tables e below (s₁.setTop (mkF m 31 #[.val (.int p0), .val (.int p1), .val (.int p2), .val (.int (b2i (v_hex p1))), .val (.int (v_rad p1)), .unset, .unset, .unset, .unset] [])) _
      refine XS.iloadN X0.here hx rfl (hb hby at_31) rfl ?_
      show Steps p.tables e below (s₁.setTop (mkF m 32 #[.val (.int p0), .val (.int p1), .val (.int p2), .val (.int (b2i (v_hex p1))), .val (.int (v_rad p1)), .unset, .unset, .unset, .unset] [(.int p0)])) _
      refine X0.ldcInt hx hown (mvT hZ (hw _ (List.mem_of_getElem? (i := 0) rfl))) (g := (mkF m 32 #[.val (.int p0), .val (.int p1), .val (.int p2), .val (.int (b2i (v_hex p1))), .val (.int (v_rad p1)), .unset, .unset, .unset, .unset] [(.int p0)])) rfl (hb hby at_32) _ ?_
      show Steps p.tables e below (s₁.setTop (mkF m 34 #[.val (.int p0), .val (.int p1), .val (.int p2), .val (.int (b2i (v_hex p1))), .val (.int (v_rad p1)), .unset, .unset, .unset, .unset] [(.int (65535 : Int32)), (.int p0)])) _
      refine XS.iand X0.here hx rfl (hb hby at_34) rfl ?_
      show Steps p.tables e below (s₁.setTop (mkF m 35 #[.val (.int p0), .val (.int p1), .val (.int p2), .val (.int (b2i (v_hex p1))), .val (.int (v_rad p1)), .unset, .unset, .unset, .unset] [(.int (p0 &&& (65535 : Int32)))])) _
      refine XS.i2c X0.here hx rfl (hb hby at_35) rfl ?_
      show Steps p.tables e below (s₁.setTop (mkF m 36 #[.val (.int p0), .val (.int p1), .val (.int p2), .val (.int (b2i (v_hex p1))), .val (.int (v_rad p1)), .unset, .unset, .unset, .unset] [(.int ((p0 &&& (65535 : Int32)).toUInt32.toUInt16.toUInt32.toInt32))])) _
      refine XS.goto X0.here hx rfl (pc0 := 36) (pc' := 44) rfl (hb hby at_36) (by decide) (by decide) ?_
      exact k _ rfl
  obtain ⟨_, _, ⟨T10, L10, k10, n10⟩, -, X10, ⟨Lc10, hQ10, l10, y10, z10⟩, st10⟩ := Jvm.LawKit.callS X0 hx (y := (⟨"com/example/merkki/merkki/MarkupReader", "digit", "(CI)I"⟩ : MethodName)) hown (mvT hZ (hw _ (List.mem_of_getElem? (i := 1) rfl))) (mvT hZ (hw _ (List.mem_of_getElem? (i := 2) rfl))) (mvT hZ (hw _ (List.mem_of_getElem? (i := 3) rfl))) (mvT hZ (hw _ (List.mem_of_getElem? (i := 4) rfl))) (by decide) (backOf (W := 0) (rm1 l Z a0 hw [] (v_ch p0 p1) (v_rad p1) h0 n0 Z0) hZ (hw _ (List.mem_of_getElem? (i := 4) rfl)) (hw _ (List.mem_of_getElem? (i := 3) rfl)) (by decide) (by decide)) (g := (mkF m 50 #[.val (.int p0), .val (.int p1), .val (.int p2), .val (.int (b2i (v_hex p1))), .val (.int (v_rad p1)), .val (.int (v_ch p0 p1)), .unset, .unset, .unset] [(.int (v_rad p1)), (.int (v_ch p0 p1))])) rfl (by rw [hml]; rfl) (argsL := [(.int (v_ch p0 p1)), (.int (v_rad p1))]) (rest := []) (lenOf pd_0 rfl) rfl (by show 2 * 0 + _ ≤ _; exact Nat.le_of_eq rfl) (hb hby at_50) (fun _ _ => ⟨rfl, e0, (by decide : 0 + 0 ≤ _), (by decide : 0 + 0 ≤ _)⟩)
  dsimp only [Pt.U, Pt.locs, Pt.cells, Pt.slots] at X10 l10 y10 z10 st10 hQ10
  subst l10 y10 z10
  obtain ⟨rfl, N10q, e10⟩ := hQ10
  have N10 := Fr.app N0 N10q
  obtain ⟨_, _, ⟨T11, L11, k11, n11⟩, -, X11, ⟨Lc11, hQ11, l11, y11, z11⟩, st11⟩ := Jvm.LawKit.callS X10 hx (y := (⟨"com/example/merkki/merkki/MarkupReaderDigitPinLaw", "expected", "(CZ)I"⟩ : MethodName)) hown (mvT hZ (hw _ (List.mem_of_getElem? (i := 5) rfl))) (mvT hZ (hw _ (List.mem_of_getElem? (i := 6) rfl))) (mvT hZ (hw _ (List.mem_of_getElem? (i := 7) rfl))) (mvT hZ (hw _ (List.mem_of_getElem? (i := 8) rfl))) (by decide) (backOf (W := 1) (rm2 l Z a0 hw [] (v_ch p0 p1) (b2i (v_hex p1)) h0 n0 Z0) hZ (hw _ (List.mem_of_getElem? (i := 8) rfl)) (hw _ (List.mem_of_getElem? (i := 7) rfl)) (by decide) (by decide)) (g := (mkF m 56 #[.val (.int p0), .val (.int p1), .val (.int p2), .val (.int (b2i (v_hex p1))), .val (.int (v_rad p1)), .val (.int (v_ch p0 p1)), .unset, .unset, .unset] [(.int (b2i (v_hex p1))), (.int (v_ch p0 p1)), (.int (F1 (v_ch p0 p1) (v_rad p1)))])) rfl (by rw [hml]; rfl) (argsL := [(.int (v_ch p0 p1)), (.int (b2i (v_hex p1)))]) (rest := [(.int (F1 (v_ch p0 p1) (v_rad p1)))]) (lenOf pd_1 rfl) rfl (by show 2 * 0 + _ ≤ _; exact Nat.le_of_eq rfl) (hb hby at_56) (fun _ _ => ⟨rfl, e10, (by decide : 0 + 0 ≤ _), (by decide : 0 + 0 ≤ _)⟩)
  dsimp only [Pt.U, Pt.locs, Pt.cells, Pt.slots] at X11 l11 y11 z11 st11 hQ11
  subst l11 y11 z11
  obtain ⟨rfl, N11q, e11⟩ := hQ11
  have N11 := Fr.app N10 N11q
  have pre12 : ∀ t, Steps p.tables e below (T11.setTop (mkF m 76 #[.val (.int p0), .val (.int p1), .val (.int p2), .val (.int (b2i (v_hex p1))), .val (.int (v_rad p1)), .val (.int (v_ch p0 p1)), .val (.int (v_v p1 p2)), .unset, .unset] [(.int (p1 &&& (4 : Int32)))])) t → Steps p.tables e below (s₁.setTop (entryFrame m #[(.int p0), (.int p1), (.int p2)] maxLocals)) t := by
    intro t k
    refine pre8 t ?_
    show Steps p.tables e below (s₁.setTop (mkF m 44 #[.val (.int p0), .val (.int p1), .val (.int p2), .val (.int (b2i (v_hex p1))), .val (.int (v_rad p1)), .unset, .unset, .unset, .unset] [(.int (if (p1 &&& (2 : Int32)) = (0 : Int32) then ((p0 &&& (127 : Int32)).toUInt32.toUInt16.toUInt32.toInt32) else ((p0 &&& (65535 : Int32)).toUInt32.toUInt16.toUInt32.toInt32)))])) _
    refine XS.istore X0.here hx rfl (hb hby at_44) rfl (l' := #[.val (.int p0), .val (.int p1), .val (.int p2), .val (.int (b2i (v_hex p1))), .val (.int (v_rad p1)), .val (.int (v_ch p0 p1)), .unset, .unset, .unset]) rfl ?_
    show Steps p.tables e below (s₁.setTop (mkF m 46 #[.val (.int p0), .val (.int p1), .val (.int p2), .val (.int (b2i (v_hex p1))), .val (.int (v_rad p1)), .val (.int (v_ch p0 p1)), .unset, .unset, .unset] [])) _
    refine XS.iload X0.here hx rfl (hb hby at_46) rfl ?_
    show Steps p.tables e below (s₁.setTop (mkF m 48 #[.val (.int p0), .val (.int p1), .val (.int p2), .val (.int (b2i (v_hex p1))), .val (.int (v_rad p1)), .val (.int (v_ch p0 p1)), .unset, .unset, .unset] [(.int (v_ch p0 p1))])) _
    refine XS.iload X0.here hx rfl (hb hby at_48) rfl ?_
    show Steps p.tables e below (s₁.setTop (mkF m 50 #[.val (.int p0), .val (.int p1), .val (.int p2), .val (.int (b2i (v_hex p1))), .val (.int (v_rad p1)), .val (.int (v_ch p0 p1)), .unset, .unset, .unset] [(.int (v_rad p1)), (.int (v_ch p0 p1))])) _
    refine st10 _ ?_
    show Steps p.tables e below (T10.setTop (mkF m 53 #[.val (.int p0), .val (.int p1), .val (.int p2), .val (.int (b2i (v_hex p1))), .val (.int (v_rad p1)), .val (.int (v_ch p0 p1)), .unset, .unset, .unset] [(.int (F1 (v_ch p0 p1) (v_rad p1)))])) _
    refine XS.iload X10.here hx rfl (hb hby at_53) rfl ?_
    show Steps p.tables e below (T10.setTop (mkF m 55 #[.val (.int p0), .val (.int p1), .val (.int p2), .val (.int (b2i (v_hex p1))), .val (.int (v_rad p1)), .val (.int (v_ch p0 p1)), .unset, .unset, .unset] [(.int (v_ch p0 p1)), (.int (F1 (v_ch p0 p1) (v_rad p1)))])) _
    refine XS.iloadN X10.here hx rfl (hb hby at_55) rfl ?_
    show Steps p.tables e below (T10.setTop (mkF m 56 #[.val (.int p0), .val (.int p1), .val (.int p2), .val (.int (b2i (v_hex p1))), .val (.int (v_rad p1)), .val (.int (v_ch p0 p1)), .unset, .unset, .unset] [(.int (b2i (v_hex p1))), (.int (v_ch p0 p1)), (.int (F1 (v_ch p0 p1) (v_rad p1)))])) _
    refine st11 _ ?_
    show Steps p.tables e below (T11.setTop (mkF m 59 #[.val (.int p0), .val (.int p1), .val (.int p2), .val (.int (b2i (v_hex p1))), .val (.int (v_rad p1)), .val (.int (v_ch p0 p1)), .unset, .unset, .unset] [(.int (F2 (v_ch p0 p1) (b2i (v_hex p1)))), (.int (F1 (v_ch p0 p1) (v_rad p1)))])) _
    refine XS.icmpYes X11.here hx rfl (pc0 := 59) (pc' := 64) rfl (hb hby at_59) rfl (teq (own_first p0 p1)).1 (by decide) (by decide) ?_
    show Steps p.tables e below (T11.setTop (mkF m 64 #[.val (.int p0), .val (.int p1), .val (.int p2), .val (.int (b2i (v_hex p1))), .val (.int (v_rad p1)), .val (.int (v_ch p0 p1)), .unset, .unset, .unset] [])) _
    refine XS.iloadN X11.here hx rfl (hb hby at_64) rfl ?_
    show Steps p.tables e below (T11.setTop (mkF m 65 #[.val (.int p0), .val (.int p1), .val (.int p2), .val (.int (b2i (v_hex p1))), .val (.int (v_rad p1)), .val (.int (v_ch p0 p1)), .unset, .unset, .unset] [(.int p2)])) _
    refine X11.ldcInt hx hown (mvT hZ (hw _ (List.mem_of_getElem? (i := 9) rfl))) (g := (mkF m 65 #[.val (.int p0), .val (.int p1), .val (.int p2), .val (.int (b2i (v_hex p1))), .val (.int (v_rad p1)), .val (.int (v_ch p0 p1)), .unset, .unset, .unset] [(.int p2)])) rfl (hb hby at_65) _ ?_
    show Steps p.tables e below (T11.setTop (mkF m 67 #[.val (.int p0), .val (.int p1), .val (.int p2), .val (.int (b2i (v_hex p1))), .val (.int (v_rad p1)), .val (.int (v_ch p0 p1)), .unset, .unset, .unset] [(.int (2147483647 : Int32)), (.int p2)])) _
    refine XS.iand X11.here hx rfl (hb hby at_67) rfl ?_
    show Steps p.tables e below (T11.setTop (mkF m 68 #[.val (.int p0), .val (.int p1), .val (.int p2), .val (.int (b2i (v_hex p1))), .val (.int (v_rad p1)), .val (.int (v_ch p0 p1)), .unset, .unset, .unset] [(.int (p2 &&& (2147483647 : Int32)))])) _
    refine XS.iload X11.here hx rfl (hb hby at_68) rfl ?_
    show Steps p.tables e below (T11.setTop (mkF m 70 #[.val (.int p0), .val (.int p1), .val (.int p2), .val (.int (b2i (v_hex p1))), .val (.int (v_rad p1)), .val (.int (v_ch p0 p1)), .unset, .unset, .unset] [(.int (v_rad p1)), (.int (p2 &&& (2147483647 : Int32)))])) _
    refine iremM X11 hx rfl (hb hby at_70) rfl (own_rad _) ?_
    show Steps p.tables e below (T11.setTop (mkF m 71 #[.val (.int p0), .val (.int p1), .val (.int p2), .val (.int (b2i (v_hex p1))), .val (.int (v_rad p1)), .val (.int (v_ch p0 p1)), .unset, .unset, .unset] [(.int ((p2 &&& (2147483647 : Int32)) % (v_rad p1)))])) _
    refine XS.istore X11.here hx rfl (hb hby at_71) rfl (l' := #[.val (.int p0), .val (.int p1), .val (.int p2), .val (.int (b2i (v_hex p1))), .val (.int (v_rad p1)), .val (.int (v_ch p0 p1)), .val (.int (v_v p1 p2)), .unset, .unset]) rfl ?_
    show Steps p.tables e below (T11.setTop (mkF m 73 #[.val (.int p0), .val (.int p1), .val (.int p2), .val (.int (b2i (v_hex p1))), .val (.int (v_rad p1)), .val (.int (v_ch p0 p1)), .val (.int (v_v p1 p2)), .unset, .unset] [])) _
    refine XS.iloadN X11.here hx rfl (hb hby at_73) rfl ?_
    show Steps p.tables e below (T11.setTop (mkF m 74 #[.val (.int p0), .val (.int p1), .val (.int p2), .val (.int (b2i (v_hex p1))), .val (.int (v_rad p1)), .val (.int (v_ch p0 p1)), .val (.int (v_v p1 p2)), .unset, .unset] [(.int p1)])) _
    refine XS.iconst X11.here hx rfl (hb hby at_74) ?_
    show Steps p.tables e below (T11.setTop (mkF m 75 #[.val (.int p0), .val (.int p1), .val (.int p2), .val (.int (b2i (v_hex p1))), .val (.int (v_rad p1)), .val (.int (v_ch p0 p1)), .val (.int (v_v p1 p2)), .unset, .unset] [(.int (4 : Int32)), (.int p1)])) _
    refine XS.iand X11.here hx rfl (hb hby at_75) rfl ?_
    exact k
  have pre13 : ∀ t, Steps p.tables e below (T11.setTop (mkF m 84 #[.val (.int p0), .val (.int p1), .val (.int p2), .val (.int (b2i (v_hex p1))), .val (.int (v_rad p1)), .val (.int (v_ch p0 p1)), .val (.int (v_v p1 p2)), .unset, .unset] [(.int (b2i (if (p1 &&& (4 : Int32)) = (0 : Int32) then false else true)))])) t → Steps p.tables e below (s₁.setTop (entryFrame m #[(.int p0), (.int p1), (.int p2)] maxLocals)) t := by
    intro t k
    refine pre12 t ?_
    have k : ∀ (v1 : Bool), v1 = (if (p1 &&& (4 : Int32)) = (0 : Int32) then false else true) → Steps p.tables e below (T11.setTop (mkF m 84 #[.val (.int p0), .val (.int p1), .val (.int p2), .val (.int (b2i (v_hex p1))), .val (.int (v_rad p1)), .val (.int (v_ch p0 p1)), .val (.int (v_v p1 p2)), .unset, .unset] [(.int (b2i v1))])) t := fun v1 hv1 => by subst hv1; exact k
    show Steps p.tables e below (T11.setTop (mkF m 76 #[.val (.int p0), .val (.int p1), .val (.int p2), .val (.int (b2i (v_hex p1))), .val (.int (v_rad p1)), .val (.int (v_ch p0 p1)), .val (.int (v_v p1 p2)), .unset, .unset] [(.int (p1 &&& (4 : Int32)))])) _
    by_cases hc14 : (p1 &&& (4 : Int32)) = (0 : Int32)
    · refine XS.ifYes X11.here hx rfl (pc0 := 76) (pc' := 83) rfl (hb hby at_76) rfl ((if0 _ _).trans (teq hc14).1) (by decide) (by decide) ?_
      have k : ∀ (v1 : Bool), v1 = false → Steps p.tables e below (T11.setTop (mkF m 84 #[.val (.int p0), .val (.int p1), .val (.int p2), .val (.int (b2i (v_hex p1))), .val (.int (v_rad p1)), .val (.int (v_ch p0 p1)), .val (.int (v_v p1 p2)), .unset, .unset] [(.int (b2i v1))])) t := fun v1 hv1 => k v1 (hv1.trans (if_pos hc14).symm)
      show Steps p.tables e below (T11.setTop (mkF m 83 #[.val (.int p0), .val (.int p1), .val (.int p2), .val (.int (b2i (v_hex p1))), .val (.int (v_rad p1)), .val (.int (v_ch p0 p1)), .val (.int (v_v p1 p2)), .unset, .unset] [])) _
      refine XS.iconst X11.here hx rfl (hb hby at_83) ?_
      exact k false rfl
    · refine XS.ifNo X11.here hx rfl (hb hby at_76) rfl ((if0 _ _).trans (feq hc14).1) ?_
      have k : ∀ (v1 : Bool), v1 = true → Steps p.tables e below (T11.setTop (mkF m 84 #[.val (.int p0), .val (.int p1), .val (.int p2), .val (.int (b2i (v_hex p1))), .val (.int (v_rad p1)), .val (.int (v_ch p0 p1)), .val (.int (v_v p1 p2)), .unset, .unset] [(.int (b2i v1))])) t := fun v1 hv1 => k v1 (hv1.trans (if_neg hc14).symm)
      show Steps p.tables e below (T11.setTop (mkF m 79 #[.val (.int p0), .val (.int p1), .val (.int p2), .val (.int (b2i (v_hex p1))), .val (.int (v_rad p1)), .val (.int (v_ch p0 p1)), .val (.int (v_v p1 p2)), .unset, .unset] [])) _
      refine XS.iconst X11.here hx rfl (hb hby at_79) ?_
      show Steps p.tables e below (T11.setTop (mkF m 80 #[.val (.int p0), .val (.int p1), .val (.int p2), .val (.int (b2i (v_hex p1))), .val (.int (v_rad p1)), .val (.int (v_ch p0 p1)), .val (.int (v_v p1 p2)), .unset, .unset] [(.int (1 : Int32))])) _
      refine XS.goto X11.here hx rfl (pc0 := 80) (pc' := 84) rfl (hb hby at_80) (by decide) (by decide) ?_
      exact k true rfl
  have pre15 : ∀ t, Steps p.tables e below (T11.setTop (mkF m 90 #[.val (.int p0), .val (.int p1), .val (.int p2), .val (.int (b2i (v_hex p1))), .val (.int (v_rad p1)), .val (.int (v_ch p0 p1)), .val (.int (v_v p1 p2)), .val (.int (b2i (v_up p1))), .unset] [(.int (10 : Int32)), (.int (v_v p1 p2))])) t → Steps p.tables e below (s₁.setTop (entryFrame m #[(.int p0), (.int p1), (.int p2)] maxLocals)) t := by
    intro t k
    refine pre13 t ?_
    show Steps p.tables e below (T11.setTop (mkF m 84 #[.val (.int p0), .val (.int p1), .val (.int p2), .val (.int (b2i (v_hex p1))), .val (.int (v_rad p1)), .val (.int (v_ch p0 p1)), .val (.int (v_v p1 p2)), .unset, .unset] [(.int (b2i (if (p1 &&& (4 : Int32)) = (0 : Int32) then false else true)))])) _
    refine XS.istore X11.here hx rfl (hb hby at_84) rfl (l' := #[.val (.int p0), .val (.int p1), .val (.int p2), .val (.int (b2i (v_hex p1))), .val (.int (v_rad p1)), .val (.int (v_ch p0 p1)), .val (.int (v_v p1 p2)), .val (.int (b2i (v_up p1))), .unset]) rfl ?_
    show Steps p.tables e below (T11.setTop (mkF m 86 #[.val (.int p0), .val (.int p1), .val (.int p2), .val (.int (b2i (v_hex p1))), .val (.int (v_rad p1)), .val (.int (v_ch p0 p1)), .val (.int (v_v p1 p2)), .val (.int (b2i (v_up p1))), .unset] [])) _
    refine XS.iload X11.here hx rfl (hb hby at_86) rfl ?_
    show Steps p.tables e below (T11.setTop (mkF m 88 #[.val (.int p0), .val (.int p1), .val (.int p2), .val (.int (b2i (v_hex p1))), .val (.int (v_rad p1)), .val (.int (v_ch p0 p1)), .val (.int (v_v p1 p2)), .val (.int (b2i (v_up p1))), .unset] [(.int (v_v p1 p2))])) _
    refine XS.bipush X11.here hx rfl (hb hby at_88) ?_
    exact k
  have pre16 : ∀ t, Steps p.tables e below (T11.setTop (mkF m 134 #[.val (.int p0), .val (.int p1), .val (.int p2), .val (.int (b2i (v_hex p1))), .val (.int (v_rad p1)), .val (.int (v_ch p0 p1)), .val (.int (v_v p1 p2)), .val (.int (b2i (v_up p1))), .val (.int (v_d p1 p2))] [])) t → Steps p.tables e below (s₁.setTop (entryFrame m #[(.int p0), (.int p1), (.int p2)] maxLocals)) t := by
    intro t k
    refine pre15 t ?_
    have k : ∀ (v1 : Int32), v1 = (if (v_v p1 p2) < (10 : Int32) then (((48 : Int32) + (v_v p1 p2)).toUInt32.toUInt16.toUInt32.toInt32) else (if (v_up p1) = true then (((65 : Int32) + ((v_v p1 p2) - (10 : Int32))).toUInt32.toUInt16.toUInt32.toInt32) else (((97 : Int32) + ((v_v p1 p2) - (10 : Int32))).toUInt32.toUInt16.toUInt32.toInt32))) → Steps p.tables e below (T11.setTop (mkF m 134 #[.val (.int p0), .val (.int p1), .val (.int p2), .val (.int (b2i (v_hex p1))), .val (.int (v_rad p1)), .val (.int (v_ch p0 p1)), .val (.int (v_v p1 p2)), .val (.int (b2i (v_up p1))), .val (.int v1)] [])) t := fun v1 hv1 => by subst hv1; exact k
    show Steps p.tables e below (T11.setTop (mkF m 90 #[.val (.int p0), .val (.int p1), .val (.int p2), .val (.int (b2i (v_hex p1))), .val (.int (v_rad p1)), .val (.int (v_ch p0 p1)), .val (.int (v_v p1 p2)), .val (.int (b2i (v_up p1))), .unset] [(.int (10 : Int32)), (.int (v_v p1 p2))])) _
    by_cases hc17 : (v_v p1 p2) < (10 : Int32)
    · refine XS.icmpNo X11.here hx rfl (hb hby at_90) rfl (tlt hc17).2.1 ?_
      have k : ∀ (v1 : Int32), v1 = (((48 : Int32) + (v_v p1 p2)).toUInt32.toUInt16.toUInt32.toInt32) → Steps p.tables e below (T11.setTop (mkF m 134 #[.val (.int p0), .val (.int p1), .val (.int p2), .val (.int (b2i (v_hex p1))), .val (.int (v_rad p1)), .val (.int (v_ch p0 p1)), .val (.int (v_v p1 p2)), .val (.int (b2i (v_up p1))), .val (.int v1)] [])) t := fun v1 hv1 => k v1 (hv1.trans (if_pos hc17).symm)
      show Steps p.tables e below (T11.setTop (mkF m 93 #[.val (.int p0), .val (.int p1), .val (.int p2), .val (.int (b2i (v_hex p1))), .val (.int (v_rad p1)), .val (.int (v_ch p0 p1)), .val (.int (v_v p1 p2)), .val (.int (b2i (v_up p1))), .unset] [])) _
      refine XS.bipush X11.here hx rfl (hb hby at_93) ?_
      show Steps p.tables e below (T11.setTop (mkF m 95 #[.val (.int p0), .val (.int p1), .val (.int p2), .val (.int (b2i (v_hex p1))), .val (.int (v_rad p1)), .val (.int (v_ch p0 p1)), .val (.int (v_v p1 p2)), .val (.int (b2i (v_up p1))), .unset] [(.int (48 : Int32))])) _
      refine XS.iload X11.here hx rfl (hb hby at_95) rfl ?_
      show Steps p.tables e below (T11.setTop (mkF m 97 #[.val (.int p0), .val (.int p1), .val (.int p2), .val (.int (b2i (v_hex p1))), .val (.int (v_rad p1)), .val (.int (v_ch p0 p1)), .val (.int (v_v p1 p2)), .val (.int (b2i (v_up p1))), .unset] [(.int (v_v p1 p2)), (.int (48 : Int32))])) _
      refine XS.iadd X11.here hx rfl (hb hby at_97) rfl ?_
      show Steps p.tables e below (T11.setTop (mkF m 98 #[.val (.int p0), .val (.int p1), .val (.int p2), .val (.int (b2i (v_hex p1))), .val (.int (v_rad p1)), .val (.int (v_ch p0 p1)), .val (.int (v_v p1 p2)), .val (.int (b2i (v_up p1))), .unset] [(.int ((48 : Int32) + (v_v p1 p2)))])) _
      refine XS.i2c X11.here hx rfl (hb hby at_98) rfl ?_
      show Steps p.tables e below (T11.setTop (mkF m 99 #[.val (.int p0), .val (.int p1), .val (.int p2), .val (.int (b2i (v_hex p1))), .val (.int (v_rad p1)), .val (.int (v_ch p0 p1)), .val (.int (v_v p1 p2)), .val (.int (b2i (v_up p1))), .unset] [(.int (((48 : Int32) + (v_v p1 p2)).toUInt32.toUInt16.toUInt32.toInt32))])) _
      refine XS.istore X11.here hx rfl (hb hby at_99) rfl (l' := #[.val (.int p0), .val (.int p1), .val (.int p2), .val (.int (b2i (v_hex p1))), .val (.int (v_rad p1)), .val (.int (v_ch p0 p1)), .val (.int (v_v p1 p2)), .val (.int (b2i (v_up p1))), .val (.int (((48 : Int32) + (v_v p1 p2)).toUInt32.toUInt16.toUInt32.toInt32))]) rfl ?_
      show Steps p.tables e below (T11.setTop (mkF m 101 #[.val (.int p0), .val (.int p1), .val (.int p2), .val (.int (b2i (v_hex p1))), .val (.int (v_rad p1)), .val (.int (v_ch p0 p1)), .val (.int (v_v p1 p2)), .val (.int (b2i (v_up p1))), .val (.int (((48 : Int32) + (v_v p1 p2)).toUInt32.toUInt16.toUInt32.toInt32))] [])) _
      refine XS.goto X11.here hx rfl (pc0 := 101) (pc' := 134) rfl (hb hby at_101) (by decide) (by decide) ?_
      exact k _ rfl
    · refine XS.icmpYes X11.here hx rfl (pc0 := 90) (pc' := 104) rfl (hb hby at_90) rfl (flt hc17).2.1 (by decide) (by decide) ?_
      have k : ∀ (v1 : Int32), v1 = (if (v_up p1) = true then (((65 : Int32) + ((v_v p1 p2) - (10 : Int32))).toUInt32.toUInt16.toUInt32.toInt32) else (((97 : Int32) + ((v_v p1 p2) - (10 : Int32))).toUInt32.toUInt16.toUInt32.toInt32)) → Steps p.tables e below (T11.setTop (mkF m 134 #[.val (.int p0), .val (.int p1), .val (.int p2), .val (.int (b2i (v_hex p1))), .val (.int (v_rad p1)), .val (.int (v_ch p0 p1)), .val (.int (v_v p1 p2)), .val (.int (b2i (v_up p1))), .val (.int v1)] [])) t := fun v1 hv1 => k v1 (hv1.trans (if_neg hc17).symm)
      show Steps p.tables e below (T11.setTop (mkF m 104 #[.val (.int p0), .val (.int p1), .val (.int p2), .val (.int (b2i (v_hex p1))), .val (.int (v_rad p1)), .val (.int (v_ch p0 p1)), .val (.int (v_v p1 p2)), .val (.int (b2i (v_up p1))), .unset] [])) _
      refine XS.iload X11.here hx rfl (hb hby at_104) rfl ?_
      show Steps p.tables e below (T11.setTop (mkF m 106 #[.val (.int p0), .val (.int p1), .val (.int p2), .val (.int (b2i (v_hex p1))), .val (.int (v_rad p1)), .val (.int (v_ch p0 p1)), .val (.int (v_v p1 p2)), .val (.int (b2i (v_up p1))), .unset] [(.int (b2i (v_up p1)))])) _
      by_cases hc18 : (v_up p1) = true
      · refine XS.ifNo X11.here hx rfl (hb hby at_106) rfl ((if0 _ _).trans (feq (b2i_ne hc18)).1) ?_
        have k : ∀ (v1 : Int32), v1 = (((65 : Int32) + ((v_v p1 p2) - (10 : Int32))).toUInt32.toUInt16.toUInt32.toInt32) → Steps p.tables e below (T11.setTop (mkF m 134 #[.val (.int p0), .val (.int p1), .val (.int p2), .val (.int (b2i (v_hex p1))), .val (.int (v_rad p1)), .val (.int (v_ch p0 p1)), .val (.int (v_v p1 p2)), .val (.int (b2i (v_up p1))), .val (.int v1)] [])) t := fun v1 hv1 => k v1 (hv1.trans (if_pos hc18).symm)
        show Steps p.tables e below (T11.setTop (mkF m 109 #[.val (.int p0), .val (.int p1), .val (.int p2), .val (.int (b2i (v_hex p1))), .val (.int (v_rad p1)), .val (.int (v_ch p0 p1)), .val (.int (v_v p1 p2)), .val (.int (b2i (v_up p1))), .unset] [])) _
        refine XS.bipush X11.here hx rfl (hb hby at_109) ?_
        show Steps p.tables e below (T11.setTop (mkF m 111 #[.val (.int p0), .val (.int p1), .val (.int p2), .val (.int (b2i (v_hex p1))), .val (.int (v_rad p1)), .val (.int (v_ch p0 p1)), .val (.int (v_v p1 p2)), .val (.int (b2i (v_up p1))), .unset] [(.int (65 : Int32))])) _
        refine XS.iload X11.here hx rfl (hb hby at_111) rfl ?_
        show Steps p.tables e below (T11.setTop (mkF m 113 #[.val (.int p0), .val (.int p1), .val (.int p2), .val (.int (b2i (v_hex p1))), .val (.int (v_rad p1)), .val (.int (v_ch p0 p1)), .val (.int (v_v p1 p2)), .val (.int (b2i (v_up p1))), .unset] [(.int (v_v p1 p2)), (.int (65 : Int32))])) _
        refine XS.bipush X11.here hx rfl (hb hby at_113) ?_
        show Steps p.tables e below (T11.setTop (mkF m 115 #[.val (.int p0), .val (.int p1), .val (.int p2), .val (.int (b2i (v_hex p1))), .val (.int (v_rad p1)), .val (.int (v_ch p0 p1)), .val (.int (v_v p1 p2)), .val (.int (b2i (v_up p1))), .unset] [(.int (10 : Int32)), (.int (v_v p1 p2)), (.int (65 : Int32))])) _
        refine XS.isub X11.here hx rfl (hb hby at_115) rfl ?_
        show Steps p.tables e below (T11.setTop (mkF m 116 #[.val (.int p0), .val (.int p1), .val (.int p2), .val (.int (b2i (v_hex p1))), .val (.int (v_rad p1)), .val (.int (v_ch p0 p1)), .val (.int (v_v p1 p2)), .val (.int (b2i (v_up p1))), .unset] [(.int ((v_v p1 p2) - (10 : Int32))), (.int (65 : Int32))])) _
        refine XS.iadd X11.here hx rfl (hb hby at_116) rfl ?_
        show Steps p.tables e below (T11.setTop (mkF m 117 #[.val (.int p0), .val (.int p1), .val (.int p2), .val (.int (b2i (v_hex p1))), .val (.int (v_rad p1)), .val (.int (v_ch p0 p1)), .val (.int (v_v p1 p2)), .val (.int (b2i (v_up p1))), .unset] [(.int ((65 : Int32) + ((v_v p1 p2) - (10 : Int32))))])) _
        refine XS.i2c X11.here hx rfl (hb hby at_117) rfl ?_
        show Steps p.tables e below (T11.setTop (mkF m 118 #[.val (.int p0), .val (.int p1), .val (.int p2), .val (.int (b2i (v_hex p1))), .val (.int (v_rad p1)), .val (.int (v_ch p0 p1)), .val (.int (v_v p1 p2)), .val (.int (b2i (v_up p1))), .unset] [(.int (((65 : Int32) + ((v_v p1 p2) - (10 : Int32))).toUInt32.toUInt16.toUInt32.toInt32))])) _
        refine XS.istore X11.here hx rfl (hb hby at_118) rfl (l' := #[.val (.int p0), .val (.int p1), .val (.int p2), .val (.int (b2i (v_hex p1))), .val (.int (v_rad p1)), .val (.int (v_ch p0 p1)), .val (.int (v_v p1 p2)), .val (.int (b2i (v_up p1))), .val (.int (((65 : Int32) + ((v_v p1 p2) - (10 : Int32))).toUInt32.toUInt16.toUInt32.toInt32))]) rfl ?_
        show Steps p.tables e below (T11.setTop (mkF m 120 #[.val (.int p0), .val (.int p1), .val (.int p2), .val (.int (b2i (v_hex p1))), .val (.int (v_rad p1)), .val (.int (v_ch p0 p1)), .val (.int (v_v p1 p2)), .val (.int (b2i (v_up p1))), .val (.int (((65 : Int32) + ((v_v p1 p2) - (10 : Int32))).toUInt32.toUInt16.toUInt32.toInt32))] [])) _
        refine XS.goto X11.here hx rfl (pc0 := 120) (pc' := 134) rfl (hb hby at_120) (by decide) (by decide) ?_
        exact k _ rfl
      · refine XS.ifYes X11.here hx rfl (pc0 := 106) (pc' := 123) rfl (hb hby at_106) rfl ((if0 _ _).trans (teq (b2i_eq hc18)).1) (by decide) (by decide) ?_
        have k : ∀ (v1 : Int32), v1 = (((97 : Int32) + ((v_v p1 p2) - (10 : Int32))).toUInt32.toUInt16.toUInt32.toInt32) → Steps p.tables e below (T11.setTop (mkF m 134 #[.val (.int p0), .val (.int p1), .val (.int p2), .val (.int (b2i (v_hex p1))), .val (.int (v_rad p1)), .val (.int (v_ch p0 p1)), .val (.int (v_v p1 p2)), .val (.int (b2i (v_up p1))), .val (.int v1)] [])) t := fun v1 hv1 => k v1 (hv1.trans (if_neg hc18).symm)
        show Steps p.tables e below (T11.setTop (mkF m 123 #[.val (.int p0), .val (.int p1), .val (.int p2), .val (.int (b2i (v_hex p1))), .val (.int (v_rad p1)), .val (.int (v_ch p0 p1)), .val (.int (v_v p1 p2)), .val (.int (b2i (v_up p1))), .unset] [])) _
        refine XS.bipush X11.here hx rfl (hb hby at_123) ?_
        show Steps p.tables e below (T11.setTop (mkF m 125 #[.val (.int p0), .val (.int p1), .val (.int p2), .val (.int (b2i (v_hex p1))), .val (.int (v_rad p1)), .val (.int (v_ch p0 p1)), .val (.int (v_v p1 p2)), .val (.int (b2i (v_up p1))), .unset] [(.int (97 : Int32))])) _
        refine XS.iload X11.here hx rfl (hb hby at_125) rfl ?_
        show Steps p.tables e below (T11.setTop (mkF m 127 #[.val (.int p0), .val (.int p1), .val (.int p2), .val (.int (b2i (v_hex p1))), .val (.int (v_rad p1)), .val (.int (v_ch p0 p1)), .val (.int (v_v p1 p2)), .val (.int (b2i (v_up p1))), .unset] [(.int (v_v p1 p2)), (.int (97 : Int32))])) _
        refine XS.bipush X11.here hx rfl (hb hby at_127) ?_
        show Steps p.tables e below (T11.setTop (mkF m 129 #[.val (.int p0), .val (.int p1), .val (.int p2), .val (.int (b2i (v_hex p1))), .val (.int (v_rad p1)), .val (.int (v_ch p0 p1)), .val (.int (v_v p1 p2)), .val (.int (b2i (v_up p1))), .unset] [(.int (10 : Int32)), (.int (v_v p1 p2)), (.int (97 : Int32))])) _
        refine XS.isub X11.here hx rfl (hb hby at_129) rfl ?_
        show Steps p.tables e below (T11.setTop (mkF m 130 #[.val (.int p0), .val (.int p1), .val (.int p2), .val (.int (b2i (v_hex p1))), .val (.int (v_rad p1)), .val (.int (v_ch p0 p1)), .val (.int (v_v p1 p2)), .val (.int (b2i (v_up p1))), .unset] [(.int ((v_v p1 p2) - (10 : Int32))), (.int (97 : Int32))])) _
        refine XS.iadd X11.here hx rfl (hb hby at_130) rfl ?_
        show Steps p.tables e below (T11.setTop (mkF m 131 #[.val (.int p0), .val (.int p1), .val (.int p2), .val (.int (b2i (v_hex p1))), .val (.int (v_rad p1)), .val (.int (v_ch p0 p1)), .val (.int (v_v p1 p2)), .val (.int (b2i (v_up p1))), .unset] [(.int ((97 : Int32) + ((v_v p1 p2) - (10 : Int32))))])) _
        refine XS.i2c X11.here hx rfl (hb hby at_131) rfl ?_
        show Steps p.tables e below (T11.setTop (mkF m 132 #[.val (.int p0), .val (.int p1), .val (.int p2), .val (.int (b2i (v_hex p1))), .val (.int (v_rad p1)), .val (.int (v_ch p0 p1)), .val (.int (v_v p1 p2)), .val (.int (b2i (v_up p1))), .unset] [(.int (((97 : Int32) + ((v_v p1 p2) - (10 : Int32))).toUInt32.toUInt16.toUInt32.toInt32))])) _
        refine XS.istore X11.here hx rfl (hb hby at_132) rfl (l' := #[.val (.int p0), .val (.int p1), .val (.int p2), .val (.int (b2i (v_hex p1))), .val (.int (v_rad p1)), .val (.int (v_ch p0 p1)), .val (.int (v_v p1 p2)), .val (.int (b2i (v_up p1))), .val (.int (((97 : Int32) + ((v_v p1 p2) - (10 : Int32))).toUInt32.toUInt16.toUInt32.toInt32))]) rfl ?_
        exact k _ rfl
  obtain ⟨_, _, ⟨T19, L19, k19, n19⟩, -, X19, ⟨Lc19, hQ19, l19, y19, z19⟩, st19⟩ := Jvm.LawKit.callS X11 hx (y := (⟨"com/example/merkki/merkki/MarkupReader", "digit", "(CI)I"⟩ : MethodName)) hown (mvT hZ (hw _ (List.mem_of_getElem? (i := 1) rfl))) (mvT hZ (hw _ (List.mem_of_getElem? (i := 2) rfl))) (mvT hZ (hw _ (List.mem_of_getElem? (i := 3) rfl))) (mvT hZ (hw _ (List.mem_of_getElem? (i := 4) rfl))) (by decide) (backOf (W := 0) (rm1 l Z a0 hw [] (v_d p1 p2) (v_rad p1) h0 n0 Z0) hZ (hw _ (List.mem_of_getElem? (i := 4) rfl)) (hw _ (List.mem_of_getElem? (i := 3) rfl)) (by decide) (by decide)) (g := (mkF m 138 #[.val (.int p0), .val (.int p1), .val (.int p2), .val (.int (b2i (v_hex p1))), .val (.int (v_rad p1)), .val (.int (v_ch p0 p1)), .val (.int (v_v p1 p2)), .val (.int (b2i (v_up p1))), .val (.int (v_d p1 p2))] [(.int (v_rad p1)), (.int (v_d p1 p2))])) rfl (by rw [hml]; rfl) (argsL := [(.int (v_d p1 p2)), (.int (v_rad p1))]) (rest := []) (lenOf pd_0 rfl) rfl (by show 2 * 0 + _ ≤ _; exact Nat.le_of_eq rfl) (hb hby at_138) (fun _ _ => ⟨rfl, e11, (by decide : 0 + 0 ≤ _), (by decide : 0 + 0 ≤ _)⟩)
  dsimp only [Pt.U, Pt.locs, Pt.cells, Pt.slots] at X19 l19 y19 z19 st19 hQ19
  subst l19 y19 z19
  obtain ⟨rfl, N19q, e19⟩ := hQ19
  have N19 := Fr.app N11 N19q
  have pre20 : ∀ t, Steps p.tables e below (T19.setTop (mkF m 151 #[.val (.int p0), .val (.int p1), .val (.int p2), .val (.int (b2i (v_hex p1))), .val (.int (v_rad p1)), .val (.int (v_ch p0 p1)), .val (.int (v_v p1 p2)), .val (.int (b2i (v_up p1))), .val (.int (v_d p1 p2))] [(.int (1 : Int32))])) t → Steps p.tables e below (s₁.setTop (entryFrame m #[(.int p0), (.int p1), (.int p2)] maxLocals)) t := by
    intro t k
    refine pre16 t ?_
    show Steps p.tables e below (T11.setTop (mkF m 134 #[.val (.int p0), .val (.int p1), .val (.int p2), .val (.int (b2i (v_hex p1))), .val (.int (v_rad p1)), .val (.int (v_ch p0 p1)), .val (.int (v_v p1 p2)), .val (.int (b2i (v_up p1))), .val (.int (v_d p1 p2))] [])) _
    refine XS.iload X11.here hx rfl (hb hby at_134) rfl ?_
    show Steps p.tables e below (T11.setTop (mkF m 136 #[.val (.int p0), .val (.int p1), .val (.int p2), .val (.int (b2i (v_hex p1))), .val (.int (v_rad p1)), .val (.int (v_ch p0 p1)), .val (.int (v_v p1 p2)), .val (.int (b2i (v_up p1))), .val (.int (v_d p1 p2))] [(.int (v_d p1 p2))])) _
    refine XS.iload X11.here hx rfl (hb hby at_136) rfl ?_
    show Steps p.tables e below (T11.setTop (mkF m 138 #[.val (.int p0), .val (.int p1), .val (.int p2), .val (.int (b2i (v_hex p1))), .val (.int (v_rad p1)), .val (.int (v_ch p0 p1)), .val (.int (v_v p1 p2)), .val (.int (b2i (v_up p1))), .val (.int (v_d p1 p2))] [(.int (v_rad p1)), (.int (v_d p1 p2))])) _
    refine st19 _ ?_
    show Steps p.tables e below (T19.setTop (mkF m 141 #[.val (.int p0), .val (.int p1), .val (.int p2), .val (.int (b2i (v_hex p1))), .val (.int (v_rad p1)), .val (.int (v_ch p0 p1)), .val (.int (v_v p1 p2)), .val (.int (b2i (v_up p1))), .val (.int (v_d p1 p2))] [(.int (F1 (v_d p1 p2) (v_rad p1)))])) _
    refine XS.iload X19.here hx rfl (hb hby at_141) rfl ?_
    show Steps p.tables e below (T19.setTop (mkF m 143 #[.val (.int p0), .val (.int p1), .val (.int p2), .val (.int (b2i (v_hex p1))), .val (.int (v_rad p1)), .val (.int (v_ch p0 p1)), .val (.int (v_v p1 p2)), .val (.int (b2i (v_up p1))), .val (.int (v_d p1 p2))] [(.int (v_v p1 p2)), (.int (F1 (v_d p1 p2) (v_rad p1)))])) _
    refine XS.icmpNo X19.here hx rfl (hb hby at_143) rfl (teq (own_second p1 p2)).2 ?_
    show Steps p.tables e below (T19.setTop (mkF m 146 #[.val (.int p0), .val (.int p1), .val (.int p2), .val (.int (b2i (v_hex p1))), .val (.int (v_rad p1)), .val (.int (v_ch p0 p1)), .val (.int (v_v p1 p2)), .val (.int (b2i (v_up p1))), .val (.int (v_d p1 p2))] [])) _
    refine XS.iconst X19.here hx rfl (hb hby at_146) ?_
    show Steps p.tables e below (T19.setTop (mkF m 147 #[.val (.int p0), .val (.int p1), .val (.int p2), .val (.int (b2i (v_hex p1))), .val (.int (v_rad p1)), .val (.int (v_ch p0 p1)), .val (.int (v_v p1 p2)), .val (.int (b2i (v_up p1))), .val (.int (v_d p1 p2))] [(.int (1 : Int32))])) _
    refine XS.goto X19.here hx rfl (pc0 := 147) (pc' := 151) rfl (hb hby at_147) (by decide) (by decide) ?_
    exact k
  obtain ⟨fs, hr, hrun, hended, hW, hsame⟩ := X19.leave (v := some (.int (1 : Int32))) (fun h => by rw [Bd.returns] at h; cases h)
  refine ⟨_, _, pre20 _ ?_, hrun, hended, _, _, rfl, ?_, ⟨_, rfl⟩, hW, hsame.mono (by decide) (by decide)⟩
  · show Steps p.tables e below (T19.setTop (mkF m 151 #[.val (.int p0), .val (.int p1), .val (.int p2), .val (.int (b2i (v_hex p1))), .val (.int (v_rad p1)), .val (.int (v_ch p0 p1)), .val (.int (v_v p1 p2)), .val (.int (b2i (v_up p1))), .val (.int (v_d p1 p2))] [(.int (1 : Int32))])) _
    exact retN X19 hx (t := .boolean) Bd.returns (by simp) (hb hby at_151) hr
  · show Q0 Z p0 p1 p2 h0 n0 _ T19.heap _
    rw [e19]
    exact ⟨rfl, N19⟩
set_option maxRecDepth 65536 in
set_option maxHeartbeats 40000000 in
theorem comes_1 {Post : Tables → Env → Array Value → State → Outcome → State → Prop} (hpost : ∀ tb e args s v u, (limb_1_1.after args s (.returned v) u = true ∧ limb_1_2.after args s (.returned v) u = true ∧ True) → FrameEnd s (.returned v) u (Jvm.fieldLocs frame_1_writes args s ++ Jvm.arrayLocs frame_1_arrays args s ++ Jvm.staticLocs frame_1_statics s) 0 0 → Post tb e args s (.returned v) u) :
    ArmFor flags0 classFile x code maxLocals ret World_1 tables_1 room_1 Calls_1 rest_1 Pre_1 Post := by
  intro l hfl _ _ p e ha hc hk s m args below hf hA hF happ hP
  obtain ⟨hcalls, hrest, hpre⟩ := hP
  obtain ⟨-, -, -, hnamed, -, -, -, hat⟩ := (Spec.applies_iff hf).mp happ
  obtain ⟨hg, hn⟩ := and_e (Cond.before_iff.mp (show (Jvm.Cond.and given_1 narrow_1).before args s = true from hpre))
  obtain ⟨g1, g2⟩ := and_e hg
  obtain ⟨g3, g4⟩ := and_e g2
  obtain ⟨g5, g6⟩ := and_e g4
  obtain ⟨w0, w1, w2, rfl⟩ : ∃ w0 w1 w2 : Value, args = #[w0, w1, w2] := by
    have hs : args.size = 3 := by simpa [Cond.value, given_1] using g1
    obtain ⟨L⟩ := args
    match L, hs with
    | [w0, w1, w2], _ => exact ⟨w0, w1, w2, rfl⟩
  have hw := fun d (hd : d ∈ tables_1) => atoms_spec (ws := Jvm.Cond.code x code maxLocals ret :: tables_1) hat d (List.mem_cons_of_mem _ hd)
  obtain ⟨i0, ei0⟩ := is_v g3
  obtain rfl : w0 = (.int i0) := Option.some.inj ei0
  obtain ⟨i1, ei1⟩ := is_v g5
  obtain rfl : w1 = (.int i1) := Option.some.inj ei1
  obtain ⟨i2, ei2⟩ := is_v g6
  obtain rfl : w2 = (.int i2) := Option.some.inj ei2
  obtain ⟨n, o, h1, h2, h3, _, L, rfl, ⟨rfl, N⟩, hq⟩ := rm0 l s _ hw tables_1 i0 i1 i2 s.heap s.heap.size (Nat.le_refl _) p e ha hc hk s m _ below hf ((Spec.applies_iff_loose hf).mp happ).1 ⟨rfl, State.Warmed39.refl s, rfl⟩ trivial
  refine ⟨n, _, h1, h2, h3, hpost _ _ _ _ _ _ ⟨Cond.after_iff.mpr rfl, Cond.after_iff.mpr (eq_i res_at (Term.int_eval (1)) rfl), trivial⟩ ⟨hq.1, hq.2.1, (hq.2.2.sift fun y hy => Or.inr (N y hy)).mono (by decide) (by decide)⟩⟩
theorem main_1_1 : Claimed_1_1 := comes_1 fun _ _ _ _ _ _ h hF => ⟨h.1, hF⟩
theorem main_1_2 : Claimed_1_2 := comes_1 fun _ _ _ _ _ _ h hF => ⟨h.2.1, hF⟩
end Jvm.Pilot.@@N@@
namespace Jvm.Pilot.@@N@@
open Jvm Jvm.ClassFile Sem Op Lib Jvm.Free Jvm.Stand Jvm.Pilot.@@N@@.Jvm.D
/-! MADE BY PROGRAM (witnessworld.py) out of the Statement's table words and the real class files: 13 classes; the members and pool entries that the words name. The judged class is class 1, her method 1. -/
namespace start1
open Jvm.ClassFile
def u (s : String) : CpInfo := .utf8 (stringToUtf16 s)
/-- a pool by its gaps: so many unusable entries, then the entry; so many at the end -/
def gap : Nat → List CpInfo → List CpInfo
  | 0, r => r
  | n + 1, r => .unusable :: gap n r
def poolList (es : List (Nat × CpInfo)) (last : Nat) : List CpInfo := es.foldr (fun e r => gap e.1 (e.2 :: r)) (gap last [])
def pool (es : List (Nat × CpInfo)) (last : Nat) : Array CpInfo := ⟨poolList es last⟩
def fileOf (pool : Array CpInfo) (this : Nat) (attrs : Array Attribute := #[]) (ms : Array MethodInfo := #[]) (fl : Nat := 33) (sup : Nat := 0) (ifs : Array Nat := #[]) (fds : Array FieldInfo := #[]) : ClassFile where
  minorVersion := 0
  majorVersion := 65
  constantPool := pool
  accessFlags := fl
  thisClass := this
  superClass := sup
  interfaces := ifs
  fields := fds
  methods := ms
  attributes := attrs
def plain (name : String) (sup : Option ClassId) : Class where
  name := name
  kind := .ordinary
  loader := none
  accessFlags := 33
  super := sup
  interfaces := #[]
  cf := none
  fields := #[]
  methods := #[]
  instanceTypes := #[]
  staticTypes := #[]
  resolved := #[]
  callSites := []
  init := .initialized
  statics := none
  mirror := none

def pool0 : Array CpInfo := pool [(5, u "<init>"), (0, u "()V"), (1, .class_ 10), (1, u "java/lang/Object")] 113

def k0m0 : Method := { name := "<init>", desc := "()V", sig := { parameters := [], returnType := none }, accessFlags := 1, code := none }
/-- java/lang/Object -/
def k0 : Class := { plain "java/lang/Object" none with
  accessFlags := 33
  interfaces := #[]
  cf := some (fileOf pool0 8 #[] #[{ accessFlags := 1, nameIndex := 5, descriptorIndex := 6, attributes := #[] }] 33 0 #[] #[])
  fields := #[]
  methods := #[k0m0]
  instanceTypes := #[]
  staticTypes := #[]
  resolved := Array.replicate 124 none
  statics := none }

def pool1 : Array CpInfo := pool [(2, .class_ 4), (1, u "java/lang/Object"), (0, u "<init>"), (0, u "()V"), (0, .integer 65535), (0, .methodref 9 10), (0, .class_ 11), (0, .nameAndType 12 13), (0, u "com/example/merkki/merkki/MarkupReader"), (0, u "digit"), (0, u "(CI)I"), (0, .methodref 15 16), (0, .class_ 17), (0, .nameAndType 18 19), (0, u "com/example/merkki/merkki/MarkupReaderDigitPinLaw"), (0, u "expected"), (0, u "(CZ)I"), (0, .integer 2147483647), (2, u "law"), (0, u "(III)Z")] 3

def k1m0 : Method := { name := "<init>", desc := "()V", sig := { parameters := [], returnType := none }, accessFlags := 1, code := none }
def k1c1 : Code := { maxStack := 3, maxLocals := 9, code := code, exceptionTable := #[], attributes := #[] }
def k1m1 : Method := { name := "law", desc := "(III)Z", sig := { parameters := [.int, .int, .int], returnType := some .boolean }, accessFlags := 9, code := some k1c1 }
def k1c2 : Code := { maxStack := 2, maxLocals := 2, code := method_3_code, exceptionTable := #[], attributes := #[] }
def k1m2 : Method := { name := "expected", desc := "(CZ)I", sig := { parameters := [.char, .boolean], returnType := some .int }, accessFlags := 10, code := some k1c2 }
/-- com/example/merkki/merkki/MarkupReaderDigitPinLaw -/
def k1 : Class := { plain "com/example/merkki/merkki/MarkupReaderDigitPinLaw" (some 0) with
  accessFlags := 49
  interfaces := #[]
  cf := some (fileOf pool1 15 #[] #[{ accessFlags := 1, nameIndex := 5, descriptorIndex := 6, attributes := #[] }, { accessFlags := 9, nameIndex := 23, descriptorIndex := 24, attributes := #[] }, { accessFlags := 10, nameIndex := 18, descriptorIndex := 19, attributes := #[] }] 49 2 #[] #[])
  fields := #[]
  methods := #[k1m0, k1m1, k1m2]
  instanceTypes := #[]
  staticTypes := #[]
  resolved := Array.replicate 28 none
  statics := none }

def pool2 : Array CpInfo := pool [(1, u "org/xml/sax/Locator"), (0, .class_ 1), (0, u "java/lang/Object"), (0, .class_ 3)] 3

/-- org/xml/sax/Locator -/
def k2 : Class := { plain "org/xml/sax/Locator" (some 0) with
  accessFlags := 1537
  interfaces := #[]
  cf := some (fileOf pool2 2 #[] #[] 1537 4 #[] #[])
  fields := #[]
  methods := #[]
  instanceTypes := #[]
  staticTypes := #[]
  resolved := Array.replicate 8 none
  statics := none }

def pool3 : Array CpInfo := pool [(1, .class_ 2), (0, u "java/lang/AutoCloseable"), (0, .class_ 4), (0, u "java/lang/Object")] 7

/-- java/lang/AutoCloseable -/
def k3 : Class := { plain "java/lang/AutoCloseable" (some 0) with
  accessFlags := 1537
  interfaces := #[]
  cf := some (fileOf pool3 1 #[] #[] 1537 3 #[] #[])
  fields := #[]
  methods := #[]
  instanceTypes := #[]
  staticTypes := #[]
  resolved := Array.replicate 12 none
  statics := none }

def pool4 : Array CpInfo := pool [(1, .class_ 2), (0, u "java/io/Closeable"), (0, .class_ 4), (0, u "java/lang/Object"), (0, .class_ 6), (0, u "java/lang/AutoCloseable")] 7

/-- java/io/Closeable -/
def k4 : Class := { plain "java/io/Closeable" (some 0) with
  accessFlags := 1537
  interfaces := #[3]
  cf := some (fileOf pool4 1 #[] #[] 1537 3 #[5] #[])
  fields := #[]
  methods := #[]
  instanceTypes := #[]
  staticTypes := #[]
  resolved := Array.replicate 14 none
  statics := none }

def pool5 : Array CpInfo := pool [(2, .class_ 4), (1, u "java/lang/Object"), (3, .class_ 10), (1, u "com/example/merkki/merkki/EntityReader"), (0, u "mark"), (0, u "I"), (2, u "tagStart"), (0, .class_ 17), (0, u "com/example/merkki/merkki/EntityReader$Suspended"), (2, u "suspended"), (0, u "[Lcom/example/merkki/merkki/EntityReader$Suspended;"), (8, u "counted"), (0, u "[J"), (2, u "buf"), (0, u "[C"), (2, u "source"), (0, u "Lcom/example/merkki/merkki/EntityInput;"), (2, u "externals"), (0, u "Lcom/example/merkki/merkki/ExternalEntities;"), (30, u "limits"), (2, u "handlers"), (0, u "Lcom/example/merkki/merkki/Handlers;"), (9, u "pos"), (2, u "end"), (2, u "atEnd"), (0, u "Z"), (40, u "externalEntitiesRead"), (2, u "entityDepth"), (2, u "sourceDepth"), (66, u "heldInDeclaration"), (0, u "J"), (38, u "toldAgainAt"), (0, u "Lorg/xml/sax/Locator;"), (15, u "current"), (0, u "Lcom/example/merkki/merkki/Entity;"), (8, u "parameterEntityDepth"), (125, .class_ 404), (1, u "org/xml/sax/Locator"), (66, .class_ 472), (0, u "java/io/Closeable"), (0, u "INITIAL_WINDOW"), (2, u "LOOKAHEAD")] 89

/-- com/example/merkki/merkki/EntityReader -/
def k5 : Class := { plain "com/example/merkki/merkki/EntityReader" (some 0) with
  accessFlags := 1056
  interfaces := #[2, 4]
  cf := some (fileOf pool5 8 #[.nestMembers #[16]] #[] 1056 2 #[402, 471] #[{ accessFlags := 24, nameIndex := 473, descriptorIndex := 12, attributes := #[] }, { accessFlags := 26, nameIndex := 476, descriptorIndex := 12, attributes := #[] }, { accessFlags := 0, nameIndex := 77, descriptorIndex := 78, attributes := #[] }, { accessFlags := 16, nameIndex := 42, descriptorIndex := 43, attributes := #[] }, { accessFlags := 0, nameIndex := 34, descriptorIndex := 35, attributes := #[] }, { accessFlags := 0, nameIndex := 88, descriptorIndex := 12, attributes := #[] }, { accessFlags := 0, nameIndex := 91, descriptorIndex := 12, attributes := #[] }, { accessFlags := 0, nameIndex := 11, descriptorIndex := 12, attributes := #[] }, { accessFlags := 0, nameIndex := 15, descriptorIndex := 12, attributes := #[] }, { accessFlags := 2, nameIndex := 94, descriptorIndex := 95, attributes := #[] }, { accessFlags := 2, nameIndex := 266, descriptorIndex := 267, attributes := #[] }, { accessFlags := 2, nameIndex := 38, descriptorIndex := 39, attributes := #[] }, { accessFlags := 2, nameIndex := 142, descriptorIndex := 12, attributes := #[] }, { accessFlags := 2, nameIndex := 20, descriptorIndex := 21, attributes := #[] }, { accessFlags := 2, nameIndex := 139, descriptorIndex := 12, attributes := #[] }, { accessFlags := 2, nameIndex := 276, descriptorIndex := 12, attributes := #[] }, { accessFlags := 18, nameIndex := 74, descriptorIndex := 31, attributes := #[] }, { accessFlags := 2, nameIndex := 136, descriptorIndex := 12, attributes := #[] }, { accessFlags := 2, nameIndex := 249, descriptorIndex := 250, attributes := #[] }, { accessFlags := 18, nameIndex := 30, descriptorIndex := 31, attributes := #[] }, { accessFlags := 2, nameIndex := 209, descriptorIndex := 210, attributes := #[] }])
  fields := #[{ name := "INITIAL_WINDOW", type := .int, accessFlags := 24, slot := 0, constantValue := 0 }, { name := "LOOKAHEAD", type := .int, accessFlags := 26, slot := 1, constantValue := 0 }, { name := "handlers", type := (.object "com/example/merkki/merkki/Handlers"), accessFlags := 0, slot := 0, constantValue := 0 }, { name := "externals", type := (.object "com/example/merkki/merkki/ExternalEntities"), accessFlags := 16, slot := 1, constantValue := 0 }, { name := "buf", type := (.array .char), accessFlags := 0, slot := 2, constantValue := 0 }, { name := "pos", type := .int, accessFlags := 0, slot := 3, constantValue := 0 }, { name := "end", type := .int, accessFlags := 0, slot := 4, constantValue := 0 }, { name := "mark", type := .int, accessFlags := 0, slot := 5, constantValue := 0 }, { name := "tagStart", type := .int, accessFlags := 0, slot := 6, constantValue := 0 }, { name := "atEnd", type := .boolean, accessFlags := 2, slot := 7, constantValue := 0 }, { name := "current", type := (.object "com/example/merkki/merkki/Entity"), accessFlags := 2, slot := 8, constantValue := 0 }, { name := "source", type := (.object "com/example/merkki/merkki/EntityInput"), accessFlags := 2, slot := 9, constantValue := 0 }, { name := "sourceDepth", type := .int, accessFlags := 2, slot := 10, constantValue := 0 }, { name := "suspended", type := (.array (.object "com/example/merkki/merkki/EntityReader$Suspended")), accessFlags := 2, slot := 11, constantValue := 0 }, { name := "entityDepth", type := .int, accessFlags := 2, slot := 12, constantValue := 0 }, { name := "parameterEntityDepth", type := .int, accessFlags := 2, slot := 13, constantValue := 0 }, { name := "limits", type := (.array .long), accessFlags := 18, slot := 14, constantValue := 0 }, { name := "externalEntitiesRead", type := .int, accessFlags := 2, slot := 15, constantValue := 0 }, { name := "toldAgainAt", type := (.object "org/xml/sax/Locator"), accessFlags := 2, slot := 16, constantValue := 0 }, { name := "counted", type := (.array .long), accessFlags := 18, slot := 17, constantValue := 0 }, { name := "heldInDeclaration", type := .long, accessFlags := 2, slot := 18, constantValue := 0 }]
  methods := #[]
  instanceTypes := #[(.object "com/example/merkki/merkki/Handlers"), (.object "com/example/merkki/merkki/ExternalEntities"), (.array .char), .int, .int, .int, .int, .boolean, (.object "com/example/merkki/merkki/Entity"), (.object "com/example/merkki/merkki/EntityInput"), .int, (.array (.object "com/example/merkki/merkki/EntityReader$Suspended")), .int, .int, (.array .long), .int, (.object "org/xml/sax/Locator"), (.array .long), .long]
  staticTypes := #[.int, .int]
  resolved := Array.replicate 566 none
  statics := none }

def pool6 : Array CpInfo := pool [(4, .class_ 6), (1, u "com/example/merkki/merkki/EntityReader"), (8, .class_ 17), (1, u "com/example/merkki/merkki/MarkupReader"), (0, u "dtd"), (0, u "Lcom/example/merkki/merkki/Dtd;"), (4, u "documentVersion"), (0, u "Ljava/lang/String;"), (5, u "value"), (0, u "Ljava/lang/StringBuilder;"), (2, u "namespaces"), (0, u "Lcom/example/merkki/merkki/Namespaces;"), (2, u "names"), (0, u "Lcom/example/merkki/merkki/NameTable;"), (2, u "subsets"), (0, u "Lcom/example/merkki/merkki/DtdCache;"), (89, u "I"), (92, u "valueLength"), (2, u "valueStart"), (9, u "SPECIAL_IN_ATTRIBUTE_VALUE"), (0, u "J"), (101, u "digit"), (0, u "(CI)I"), (131, u "STOP_SET_SIZE")] 88

def k6c0 : Code := { maxStack := 2, maxLocals := 2, code := prog_31_method_19_code, exceptionTable := #[], attributes := #[] }
def k6m0 : Method := { name := "digit", desc := "(CI)I", sig := { parameters := [.char, .int], returnType := some .int }, accessFlags := 8, code := some k6c0 }
/-- com/example/merkki/merkki/MarkupReader -/
def k6 : Class := { plain "com/example/merkki/merkki/MarkupReader" (some 5) with
  accessFlags := 1056
  interfaces := #[]
  cf := some (fileOf pool6 15 #[] #[{ accessFlags := 8, nameIndex := 343, descriptorIndex := 344, attributes := #[] }] 1056 4 #[] #[{ accessFlags := 26, nameIndex := 476, descriptorIndex := 134, attributes := #[] }, { accessFlags := 26, nameIndex := 240, descriptorIndex := 241, attributes := #[] }, { accessFlags := 16, nameIndex := 18, descriptorIndex := 19, attributes := #[] }, { accessFlags := 16, nameIndex := 43, descriptorIndex := 44, attributes := #[] }, { accessFlags := 0, nameIndex := 24, descriptorIndex := 25, attributes := #[] }, { accessFlags := 16, nameIndex := 35, descriptorIndex := 36, attributes := #[] }, { accessFlags := 18, nameIndex := 31, descriptorIndex := 32, attributes := #[] }, { accessFlags := 0, nameIndex := 230, descriptorIndex := 134, attributes := #[] }, { accessFlags := 0, nameIndex := 227, descriptorIndex := 134, attributes := #[] }, { accessFlags := 18, nameIndex := 39, descriptorIndex := 40, attributes := #[] }])
  fields := #[{ name := "STOP_SET_SIZE", type := .int, accessFlags := 26, slot := 0, constantValue := 0 }, { name := "SPECIAL_IN_ATTRIBUTE_VALUE", type := .long, accessFlags := 26, slot := 1, constantValue := 0 }, { name := "dtd", type := (.object "com/example/merkki/merkki/Dtd"), accessFlags := 16, slot := 19, constantValue := 0 }, { name := "subsets", type := (.object "com/example/merkki/merkki/DtdCache"), accessFlags := 16, slot := 20, constantValue := 0 }, { name := "documentVersion", type := (.object "java/lang/String"), accessFlags := 0, slot := 21, constantValue := 0 }, { name := "namespaces", type := (.object "com/example/merkki/merkki/Namespaces"), accessFlags := 16, slot := 22, constantValue := 0 }, { name := "value", type := (.object "java/lang/StringBuilder"), accessFlags := 18, slot := 23, constantValue := 0 }, { name := "valueStart", type := .int, accessFlags := 0, slot := 24, constantValue := 0 }, { name := "valueLength", type := .int, accessFlags := 0, slot := 25, constantValue := 0 }, { name := "names", type := (.object "com/example/merkki/merkki/NameTable"), accessFlags := 18, slot := 26, constantValue := 0 }]
  methods := #[k6m0]
  instanceTypes := #[(.object "com/example/merkki/merkki/Handlers"), (.object "com/example/merkki/merkki/ExternalEntities"), (.array .char), .int, .int, .int, .int, .boolean, (.object "com/example/merkki/merkki/Entity"), (.object "com/example/merkki/merkki/EntityInput"), .int, (.array (.object "com/example/merkki/merkki/EntityReader$Suspended")), .int, .int, (.array .long), .int, (.object "org/xml/sax/Locator"), (.array .long), .long, (.object "com/example/merkki/merkki/Dtd"), (.object "com/example/merkki/merkki/DtdCache"), (.object "java/lang/String"), (.object "com/example/merkki/merkki/Namespaces"), (.object "java/lang/StringBuilder"), .int, .int, (.object "com/example/merkki/merkki/NameTable")]
  staticTypes := #[.int, .long]
  resolved := Array.replicate 565 none
  statics := none }

def pool7 : Array CpInfo := pool [(1, u "java/lang/Cloneable"), (0, .class_ 1), (0, u "java/lang/Object"), (0, .class_ 3)] 3

/-- java/lang/Cloneable -/
def k7 : Class := { plain "java/lang/Cloneable" (some 0) with
  accessFlags := 1537
  interfaces := #[]
  cf := some (fileOf pool7 2 #[] #[] 1537 4 #[] #[])
  fields := #[]
  methods := #[]
  instanceTypes := #[]
  staticTypes := #[]
  resolved := Array.replicate 8 none
  statics := none }

def pool8 : Array CpInfo := pool [(1, u "java/io/Serializable"), (0, .class_ 1), (0, u "java/lang/Object"), (0, .class_ 3)] 3

/-- java/io/Serializable -/
def k8 : Class := { plain "java/io/Serializable" (some 0) with
  accessFlags := 1537
  interfaces := #[]
  cf := some (fileOf pool8 2 #[] #[] 1537 4 #[] #[])
  fields := #[]
  methods := #[]
  instanceTypes := #[]
  staticTypes := #[]
  resolved := Array.replicate 8 none
  statics := none }

/-- the primitive byte -/
def k9 : Class := { plain "byte" none with kind := .primitive 'B', accessFlags := 0x411 }
/-- [B -/
def k10 : Class := { plain "[B" (some 0) with kind := .array 9 .byte, interfaces := #[7, 8], accessFlags := 1041 }

/-- the primitive int -/
def k11 : Class := { plain "int" none with kind := .primitive 'I', accessFlags := 0x411 }
/-- [I -/
def k12 : Class := { plain "[I" (some 0) with kind := .array 11 .int, interfaces := #[7, 8], accessFlags := 1041 }

def heap : Heap := #[]
def classes : Array Class := #[k0, k1, k2, k3, k4, k5, k6, k7, k8, k9, k10, k11, k12]
def interned : List (Array UInt16 × Addr) := []
def slotsUsed : Nat := 0
def theMethod : MethodId := ⟨1, 1⟩
def args0 : Array Value := #[.int 65, .int 3, .int 7]
def aboutOver (below : List Frame) : State where
  vm := { classes := classes, interned := interned.toArray }
  heap := heap
  slotsUsed := slotsUsed
  threads := #[{ frames := .invoking theMethod args0 :: below }]
def below0 : List Frame := [.native { method := ⟨0, 0⟩, args := #[] }]
def about1 : State := aboutOver below0
def p0 : Program := .bare "" "" ""
def e0 : Env := launch0.env 0 0 0
theorem w_frames : about1.frames = Frame.invoking theMethod args0 :: below0 := rfl
set_option maxRecDepth 65536 in
theorem w_args : argsFit about1.vm theMethod args0 = true := by decide +kernel
set_option maxRecDepth 65536 in
theorem w_heap : heapFits about1 = true := by decide +kernel
set_option maxRecDepth 65536 in
theorem w_runnable : about1.curStatus? = some .runnable := by decide +kernel
set_option maxRecDepth 65536 in
theorem w_alone : about1.alone = true := by decide +kernel
set_option maxRecDepth 65536 in
theorem w_named : about1.methodNamed? x = some theMethod := by decide +kernel
set_option maxRecDepth 65536 in
theorem w_hears : about1.hears theMethod below0 = true := by decide +kernel
set_option maxRecDepth 65536 in
theorem w_ripe : about1.ripe theMethod args0 below0 = true := by decide +kernel
theorem w_running : about1.status = .running := rfl
set_option maxRecDepth 65536 in
theorem w_room : about1.hasRoom e0.platform room_1 = true :=
  launch0.hasRoom_least _ room_1 (by decide +kernel) (by decide +kernel) (by decide +kernel) (by decide +kernel) (by decide +kernel) (by decide +kernel)
theorem allAtoms_all (ts : List Jvm.Cond) (a : Array Jvm.Value) (st : Jvm.State) : (allAtoms ts).before a st = ts.all (fun c => c.before a st) := by
  induction ts with
  | nil => rfl
  | cons c t ih =>
    show (Jvm.Cond.and c (allAtoms t)).before a st = _
    rw [Jvm.Cond.before_and, ih, List.all_cons]
def words1 : List Jvm.Cond := Jvm.Cond.code x code maxLocals ret :: tables_1
/-- a 'code' word, met by the world's own term for the bytes: nothing is compared byte by byte -/
theorem code_word {y : MethodName} {bytes : ByteArray} {mx : Nat} {rt : Option FieldType} {a : Array Value} {s : State} {m : MethodId} {meth : Method} {c : Code} (h1 : s.methodNamed? y = some m) (h2 : s.vm.method? m = some meth) (h3 : meth.code = some c) (h4 : c.code = bytes)
    (h5 : (c.maxLocals == mx && c.exceptionTable.isEmpty && decide (c.maxStack ≤ mostOperands) && decide (meth.sig.returnType = rt) && !meth.locks && decide (parseMethodDescriptor y.desc = some meth.sig)) = true) : (Jvm.Cond.code y bytes mx rt).before a s = true := by
  simp only [Bool.and_eq_true, beq_iff_eq, Bool.not_eq_true', decide_eq_true_eq] at h5
  obtain ⟨⟨⟨⟨⟨g1, g2⟩, g3⟩, g4⟩, g5⟩, g6⟩ := h5
  simp [Cond.before, Cond.holds, Cond.value, h1, h2, h3, h4, g1, g2, g3, g4, g5, g6]
def isCode : Jvm.Cond → Bool
  | .code _ _ _ _ => true
  | _ => false
theorem all_split {L : List Jvm.Cond} {P : Jvm.Cond → Bool} (h1 : L.all (fun c => isCode c || P c) = true) (h2 : ∀ c ∈ L.filter isCode, P c = true) : L.all P = true := by
  refine List.all_eq_true.mpr fun c hc => ?_
  have h := List.all_eq_true.mp h1 c hc
  rcases Bool.eq_false_or_eq_true (isCode c) with hi | hi
  · exact h2 c (List.mem_filter.mpr ⟨hc, hi⟩)
  · simpa [hi] using h
set_option maxRecDepth 65536 in
theorem w_c0 : (Jvm.Cond.code x code maxLocals ret).before args0 about1 = true := code_word (m := ⟨1, 1⟩) (meth := k1m1) (c := k1c1) (by decide +kernel) rfl rfl rfl (by decide +kernel)
set_option maxRecDepth 65536 in
theorem w_c1 : (Jvm.Cond.code ({ cls := "com/example/merkki/merkki/MarkupReader", name := "digit", desc := "(CI)I" } : Jvm.MethodName) prog_31_method_19_code (2 : Nat) (Option.some Jvm.ClassFile.FieldType.int)).before args0 about1 = true := code_word (m := ⟨6, 0⟩) (meth := k6m0) (c := k6c0) (by decide +kernel) rfl rfl rfl (by decide +kernel)
set_option maxRecDepth 65536 in
theorem w_c2 : (Jvm.Cond.code ({ cls := "com/example/merkki/merkki/MarkupReaderDigitPinLaw", name := "expected", desc := "(CZ)I" } : Jvm.MethodName) method_3_code (2 : Nat) (Option.some Jvm.ClassFile.FieldType.int)).before args0 about1 = true := code_word (m := ⟨1, 2⟩) (meth := k1m2) (c := k1c2) (by decide +kernel) rfl rfl rfl (by decide +kernel)
def codes1 : List Jvm.Cond := [Jvm.Cond.code x code maxLocals ret, Jvm.Cond.code ({ cls := "com/example/merkki/merkki/MarkupReader", name := "digit", desc := "(CI)I" } : Jvm.MethodName) prog_31_method_19_code (2 : Nat) (Option.some Jvm.ClassFile.FieldType.int), Jvm.Cond.code ({ cls := "com/example/merkki/merkki/MarkupReaderDigitPinLaw", name := "expected", desc := "(CZ)I" } : Jvm.MethodName) method_3_code (2 : Nat) (Option.some Jvm.ClassFile.FieldType.int)]
set_option maxRecDepth 65536 in
theorem codes_eq : words1.filter isCode = codes1 := rfl
theorem w_codes : ∀ c ∈ words1.filter isCode, c.before args0 about1 = true := by
  rw [codes_eq]
  intro c hc
  simp only [codes1, List.mem_cons, List.not_mem_nil, or_false] at hc
  rcases hc with rfl | rfl | rfl
  · exact w_c0
  · exact w_c1
  · exact w_c2
set_option maxRecDepth 65536 in
theorem w_t1 : words1.all (fun c => isCode c || c.before args0 about1) = true := by decide +kernel
theorem w_tables : (allAtoms (Jvm.Cond.code x code maxLocals ret :: tables_1)).before args0 about1 = true := by
  rw [allAtoms_all]
  show words1.all (fun c => c.before args0 about1) = true
  refine all_split ?_ w_codes
  rw [w_t1]
set_option maxRecDepth 65536 in
theorem w_case : (Jvm.Cond.and given_1 narrow_1).before args0 about1 = true := by decide +kernel
theorem w_applies : (headSpec (Jvm.Cond.code x code maxLocals ret :: tables_1) room_1).applies x e0.platform about1 = true :=
  (Spec.applies_iff w_frames).mpr ⟨w_running, w_runnable, w_alone, w_named, w_hears, w_ripe, w_room, w_tables⟩
theorem atStart : AtStart classFile x code maxLocals ret World_1 tables_1 room_1 Calls_1 rest_1 Pre_1 launch0 p0 e0 about1 theMethod args0 below0 :=
  ⟨lists_1, trivial, launch0.admits_env _ _ _, launch0.least_env, fairChoices_fair.cas, fairChoices_fair.clock, w_frames, w_args, w_heap, w_applies, trivial, trivial, w_case⟩
end start1
theorem witness_1 : WitnessClaimed_1 := ⟨start1.p0, start1.e0, start1.about1, start1.theMethod, start1.args0, start1.below0, start1.atStart⟩
end Jvm.Pilot.@@N@@
