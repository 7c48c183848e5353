import JvmDerived
import JvmDerived.Pilot.@@N@@Statement
import JvmDerived.Pilot.@@N@@Code
set_option linter.unusedVariables false
set_option linter.unusedSimpArgs false
namespace Jvm.RoadKit
open Sem ClassFile Op Lib Jvm.Stand Jvm.Free Jvm.LawKit
section New
variable {p : Program} {l : Launch} {e : Env} {R : Room} {s : State} {m : MethodId} {args : Array Value} {below : List Frame} {meth : Method} {c : Code} {T : State} {locs : List Loc} {cells slots : Nat}
theorem retI (X : Stand p l e R s m args below meth c T locs cells slots) (hx : p.tables.exec = Jvm.exec) {pc : Nat} {Ls : Array Slot} {z : Int32} {rest : List Value} (hret : meth.sig.returnType = some .int) (hd : decode c.code pc = .ok (.ireturn, 1)) {fs : List Frame}
    (hl : ∀ (f : JFrame) (acts : List Action), f.method = m → f.locked = none → f.entered = [] → (doReturn e (T.setTop f) acts (some (.int z))).1 = T.setFrames fs) : Steps p.tables e below (T.setTop (mkF m pc Ls (.int z :: rest))) (T.setFrames fs) := by
  have hm' : T.vm.method? m = some meth := X.method'
  have hn : narrow .int (.int z) = .int z := rfl
  show Steps p.tables e below (T.setTop { method := m, pc := pc, locals := Ls, stack := _ :: rest, locked := none }) _
  jvm_step X.here [X.here.top, hx, hd, hm', hret, hn]
  first | (intro acts; rw [hl _ acts rfl rfl rfl]) | rw [hl _ _ rfl rfl rfl]
  exact Steps.refl _
end New
end Jvm.RoadKit
namespace Jvm.OwnKit
open Sem ClassFile Op Lib Jvm.Stand Jvm.Free Jvm.LawKit Jvm.RoadKit
def b2i (b : Bool) : Int32 := if b = true then 1 else 0
theorem b2i_eq {b : Bool} (h : ¬ b = true) : b2i b = 0 := if_neg h
theorem b2i_ne {b : Bool} (h : b = true) : ¬ b2i b = 0 := by rw [b2i, if_pos h]; decide
theorem nar_b2i (b : Bool) : nar .boolean (b2i b) = b2i b := by cases b <;> decide
theorem b2i_one {b : Bool} (h : b = true) : nar .boolean (b2i b) = 1 := by rw [h]; decide
end Jvm.OwnKit
namespace Jvm.Pilot.@@N@@
open Jvm Jvm.ClassFile Sem Op Lib Jvm.Free Jvm.Stand Jvm.LawKit Jvm.RoadKit Jvm.OwnKit Bundle Jvm.Pilot.@@N@@.Jvm.D
theorem d1_0 : decode prog_155_method_2_code 0 = .ok (.iload_n 0, 1) := by decide +kernel
theorem d1_1 : decode prog_155_method_2_code 1 = .ok (.sipush 128, 3) := by decide +kernel
theorem d1_4 : decode prog_155_method_2_code 4 = .ok (.if_icmp .ge 8, 3) := by decide +kernel
theorem d1_7 : decode prog_155_method_2_code 7 = .ok (.iconst 1, 1) := by decide +kernel
theorem d1_8 : decode prog_155_method_2_code 8 = .ok (.istore_n 1, 1) := by decide +kernel
theorem d1_9 : decode prog_155_method_2_code 9 = .ok (.goto 62, 3) := by decide +kernel
theorem d1_12 : decode prog_155_method_2_code 12 = .ok (.iload_n 0, 1) := by decide +kernel
theorem d1_13 : decode prog_155_method_2_code 13 = .ok (.sipush 194, 3) := by decide +kernel
theorem d1_16 : decode prog_155_method_2_code 16 = .ok (.if_icmp .lt 15, 3) := by decide +kernel
theorem d1_19 : decode prog_155_method_2_code 19 = .ok (.iload_n 0, 1) := by decide +kernel
theorem d1_20 : decode prog_155_method_2_code 20 = .ok (.sipush 223, 3) := by decide +kernel
theorem d1_23 : decode prog_155_method_2_code 23 = .ok (.if_icmp .gt 8, 3) := by decide +kernel
theorem d1_26 : decode prog_155_method_2_code 26 = .ok (.iconst 2, 1) := by decide +kernel
theorem d1_27 : decode prog_155_method_2_code 27 = .ok (.istore_n 1, 1) := by decide +kernel
theorem d1_28 : decode prog_155_method_2_code 28 = .ok (.goto 43, 3) := by decide +kernel
theorem d1_31 : decode prog_155_method_2_code 31 = .ok (.iload_n 0, 1) := by decide +kernel
theorem d1_32 : decode prog_155_method_2_code 32 = .ok (.sipush 224, 3) := by decide +kernel
theorem d1_35 : decode prog_155_method_2_code 35 = .ok (.if_icmp .lt 15, 3) := by decide +kernel
theorem d1_38 : decode prog_155_method_2_code 38 = .ok (.iload_n 0, 1) := by decide +kernel
theorem d1_39 : decode prog_155_method_2_code 39 = .ok (.sipush 239, 3) := by decide +kernel
theorem d1_42 : decode prog_155_method_2_code 42 = .ok (.if_icmp .gt 8, 3) := by decide +kernel
theorem d1_45 : decode prog_155_method_2_code 45 = .ok (.iconst 3, 1) := by decide +kernel
theorem d1_46 : decode prog_155_method_2_code 46 = .ok (.istore_n 1, 1) := by decide +kernel
theorem d1_47 : decode prog_155_method_2_code 47 = .ok (.goto 24, 3) := by decide +kernel
theorem d1_50 : decode prog_155_method_2_code 50 = .ok (.iload_n 0, 1) := by decide +kernel
theorem d1_51 : decode prog_155_method_2_code 51 = .ok (.sipush 240, 3) := by decide +kernel
theorem d1_54 : decode prog_155_method_2_code 54 = .ok (.if_icmp .lt 15, 3) := by decide +kernel
theorem d1_57 : decode prog_155_method_2_code 57 = .ok (.iload_n 0, 1) := by decide +kernel
theorem d1_58 : decode prog_155_method_2_code 58 = .ok (.sipush 244, 3) := by decide +kernel
theorem d1_61 : decode prog_155_method_2_code 61 = .ok (.if_icmp .gt 8, 3) := by decide +kernel
theorem d1_64 : decode prog_155_method_2_code 64 = .ok (.iconst 4, 1) := by decide +kernel
theorem d1_65 : decode prog_155_method_2_code 65 = .ok (.istore_n 1, 1) := by decide +kernel
theorem d1_66 : decode prog_155_method_2_code 66 = .ok (.goto 5, 3) := by decide +kernel
theorem d1_69 : decode prog_155_method_2_code 69 = .ok (.iconst 0, 1) := by decide +kernel
theorem d1_70 : decode prog_155_method_2_code 70 = .ok (.istore_n 1, 1) := by decide +kernel
theorem d1_71 : decode prog_155_method_2_code 71 = .ok (.iload_n 1, 1) := by decide +kernel
theorem d1_72 : decode prog_155_method_2_code 72 = .ok (.ireturn, 1) := by decide +kernel
theorem pn_1 : plainName "com/example/tamsui/tamsui/xml/Utf8" = true := by first | (simp [plainName, overriddenIn]; done) | decide +kernel
theorem ef_1 (m : MethodId) (x0 : Int32) : entryFrame m #[(.int x0)] 2 = mkF m 0 #[.val (.int x0), .unset] [] := by first | (simp [entryFrame, mkF, argsToLocals, Value.category]; done) | rfl
def nd1_50_2 (p0 : Int32) : Int32 := (if p0 < (240 : Int32) then (0 : Int32) else (if (244 : Int32) < p0 then (0 : Int32) else (4 : Int32)))
def nd1_31_3 (p0 : Int32) : Int32 := (if p0 < (224 : Int32) then (nd1_50_2 p0) else (if (239 : Int32) < p0 then (nd1_50_2 p0) else (3 : Int32)))
def F1 (p0 : Int32) : Int32 := (if p0 < (128 : Int32) then (1 : Int32) else (if p0 < (194 : Int32) then (nd1_31_3 p0) else (if (223 : Int32) < p0 then (nd1_31_3 p0) else (2 : Int32))))
def Q1 (Z : State) (p0 : Int32) (h0 : Heap) (n0 : Nat) (v : Option Value) (h : Heap) (L : List Loc) : Prop := v = some (.int (F1 p0)) ∧ Fr n0 L ∧ h = h0
set_option maxRecDepth 65536 in
set_option maxHeartbeats 40000000 in
theorem rm1 (l : Launch) (Z : State) (a0 : Array Value) (hw : ∀ d ∈ tables_1, d.before a0 Z = true) (ws : List Jvm.Cond) (p0 : Int32) (h0 : Heap) (n0 : Nat) (Z0 : n0 ≤ h0.size) :
    MetFree l (⟨"com/example/tamsui/tamsui/xml/Utf8", "length", "(I)I"⟩ : MethodName) (head1 (Jvm.Cond.code (⟨"com/example/tamsui/tamsui/xml/Utf8", "length", "(I)I"⟩ : MethodName) prog_155_method_2_code 2 (some .int) :: ws) ({ frames := 0, cells := 0, slots := 0, locals := 0 } : Room)) (fun a U => a = #[(.int p0)] ∧ Z.Warmed39 U.vm ∧ U.heap = h0) (fun _ _ _ _ _ => True) (fun _ U o U' => ∃ v L, o = .returned v ∧ Q1 Z p0 h0 n0 v U'.heap L ∧ FrameEnd U o U' L ({ frames := 0, cells := 0, slots := 0, locals := 0 } : Room).cells ({ frames := 0, cells := 0, slots := 0, locals := 0 } : Room).slots) := by
  refine MetFree.of_bodySF (plainFor_of_name pn_1) hisR ?_
  intro p e s m args below meth c s₁ Bd hml0 hP hK
  obtain ⟨rfl, hZ, hh⟩ := hP
  have hx := Bd.exec
  have hby := Bd.bytes
  have hml : c.maxLocals = 2 := hml0
  have hown : s.vm.findClass "com/example/tamsui/tamsui/xml/Utf8" = some m.cls := findClass_of_methodNamed Bd.named
  have hnm := (name_of_methodNamed Bd.named Bd.method).1
  have X0 : Stand p l e ({ frames := 0, cells := 0, slots := 0, locals := 0 } : Room) s m #[(.int p0)] below meth c s₁ [] 0 0 := Stand.of_body Bd
  have e0 : s₁.heap = h0 := by rw [← hh, Bd.state]; rfl
  have N0 := Fr.nil n0
  have pre0 : ∀ t, Steps p.tables e below (s₁.setTop (mkF m 0 #[.val (.int p0), .unset] [])) t → Steps p.tables e below (s₁.setTop (entryFrame m #[(.int p0)] 2)) t := fun t k => castTop (ef_1 m p0) k
  have pre1 : ∀ t, Steps p.tables e below (s₁.setTop (mkF m 4 #[.val (.int p0), .unset] [(.int (128 : Int32)), (.int p0)])) t → Steps p.tables e below (s₁.setTop (entryFrame m #[(.int p0)] 2)) t := by
    intro t k
    refine pre0 t ?_
    show Steps p.tables e below (s₁.setTop (mkF m 0 #[.val (.int p0), .unset] [])) _
    refine XS.iloadN X0.here hx rfl (hb hby d1_0) rfl ?_
    show Steps p.tables e below (s₁.setTop (mkF m 1 #[.val (.int p0), .unset] [(.int p0)])) _
    refine XS.sipush X0.here hx rfl (hb hby d1_1) ?_
    exact k
  have pre4 : ∀ t, Steps p.tables e below (s₁.setTop (mkF m 71 #[.val (.int p0), .val (.int (if p0 < (128 : Int32) then (1 : Int32) else (if p0 < (194 : Int32) then (nd1_31_3 p0) else (if (223 : Int32) < p0 then (nd1_31_3 p0) else (2 : Int32)))))] [])) t → Steps p.tables e below (s₁.setTop (entryFrame m #[(.int p0)] 2)) t := by
    intro t k
    refine pre1 t ?_
    have k : ∀ (v1 : Int32), v1 = (if p0 < (128 : Int32) then (1 : Int32) else (if p0 < (194 : Int32) then (nd1_31_3 p0) else (if (223 : Int32) < p0 then (nd1_31_3 p0) else (2 : Int32)))) → Steps p.tables e below (s₁.setTop (mkF m 71 #[.val (.int p0), .val (.int v1)] [])) t := fun v1 hv1 => by subst hv1; exact k
    have nd5 : (∀ (v1 : Int32), v1 = (0 : Int32) → Steps p.tables e below (s₁.setTop (mkF m 71 #[.val (.int p0), .val (.int v1)] [])) t) → Steps p.tables e below (s₁.setTop (mkF m 69 #[.val (.int p0), .unset] [])) t := by
      intro k
      show Steps p.tables e below (s₁.setTop (mkF m 69 #[.val (.int p0), .unset] [])) _
      refine XS.iconst X0.here hx rfl (hb hby d1_69) ?_
      show Steps p.tables e below (s₁.setTop (mkF m 70 #[.val (.int p0), .unset] [(.int (0 : Int32))])) _
      refine XS.istoreN X0.here hx rfl (hb hby d1_70) rfl (l' := #[.val (.int p0), .val (.int (0 : Int32))]) rfl ?_
      exact k _ rfl
    have nd6 : (∀ (v1 : Int32), v1 = (nd1_50_2 p0) → Steps p.tables e below (s₁.setTop (mkF m 71 #[.val (.int p0), .val (.int v1)] [])) t) → Steps p.tables e below (s₁.setTop (mkF m 50 #[.val (.int p0), .unset] [])) t := by
      intro k
      have k : ∀ (v1 : Int32), v1 = (if p0 < (240 : Int32) then (0 : Int32) else (if (244 : Int32) < p0 then (0 : Int32) else (4 : Int32))) → Steps p.tables e below (s₁.setTop (mkF m 71 #[.val (.int p0), .val (.int v1)] [])) t := k
      show Steps p.tables e below (s₁.setTop (mkF m 50 #[.val (.int p0), .unset] [])) _
      refine XS.iloadN X0.here hx rfl (hb hby d1_50) rfl ?_
      show Steps p.tables e below (s₁.setTop (mkF m 51 #[.val (.int p0), .unset] [(.int p0)])) _
      refine XS.sipush X0.here hx rfl (hb hby d1_51) ?_
      show Steps p.tables e below (s₁.setTop (mkF m 54 #[.val (.int p0), .unset] [(.int (240 : Int32)), (.int p0)])) _
      by_cases hc7 : p0 < (240 : Int32)
      · refine XS.icmpYes X0.here hx rfl (pc0 := 54) (pc' := 69) rfl (hb hby d1_54) rfl (tlt hc7).1 (by decide) (by decide) ?_
        have k : ∀ (v1 : Int32), v1 = (0 : Int32) → Steps p.tables e below (s₁.setTop (mkF m 71 #[.val (.int p0), .val (.int v1)] [])) t := fun v1 hv1 => k v1 (hv1.trans (if_pos hc7).symm)
        exact nd5 k
      · refine XS.icmpNo X0.here hx rfl (hb hby d1_54) rfl (flt hc7).1 ?_
        have k : ∀ (v1 : Int32), v1 = (if (244 : Int32) < p0 then (0 : Int32) else (4 : Int32)) → Steps p.tables e below (s₁.setTop (mkF m 71 #[.val (.int p0), .val (.int v1)] [])) t := fun v1 hv1 => k v1 (hv1.trans (if_neg hc7).symm)
        show Steps p.tables e below (s₁.setTop (mkF m 57 #[.val (.int p0), .unset] [])) _
        refine XS.iloadN X0.here hx rfl (hb hby d1_57) rfl ?_
        show Steps p.tables e below (s₁.setTop (mkF m 58 #[.val (.int p0), .unset] [(.int p0)])) _
        refine XS.sipush X0.here hx rfl (hb hby d1_58) ?_
        show Steps p.tables e below (s₁.setTop (mkF m 61 #[.val (.int p0), .unset] [(.int (244 : Int32)), (.int p0)])) _
        by_cases hc8 : (244 : Int32) < p0
        · refine XS.icmpYes X0.here hx rfl (pc0 := 61) (pc' := 69) rfl (hb hby d1_61) rfl (tlt hc8).2.2.1 (by decide) (by decide) ?_
          have k : ∀ (v1 : Int32), v1 = (0 : Int32) → Steps p.tables e below (s₁.setTop (mkF m 71 #[.val (.int p0), .val (.int v1)] [])) t := fun v1 hv1 => k v1 (hv1.trans (if_pos hc8).symm)
          exact nd5 k
        · refine XS.icmpNo X0.here hx rfl (hb hby d1_61) rfl (flt hc8).2.2.1 ?_
          have k : ∀ (v1 : Int32), v1 = (4 : Int32) → Steps p.tables e below (s₁.setTop (mkF m 71 #[.val (.int p0), .val (.int v1)] [])) t := fun v1 hv1 => k v1 (hv1.trans (if_neg hc8).symm)
          show Steps p.tables e below (s₁.setTop (mkF m 64 #[.val (.int p0), .unset] [])) _
          refine XS.iconst X0.here hx rfl (hb hby d1_64) ?_
          show Steps p.tables e below (s₁.setTop (mkF m 65 #[.val (.int p0), .unset] [(.int (4 : Int32))])) _
          refine XS.istoreN X0.here hx rfl (hb hby d1_65) rfl (l' := #[.val (.int p0), .val (.int (4 : Int32))]) rfl ?_
          show Steps p.tables e below (s₁.setTop (mkF m 66 #[.val (.int p0), .val (.int (4 : Int32))] [])) _
          refine XS.goto X0.here hx rfl (pc0 := 66) (pc' := 71) rfl (hb hby d1_66) (by decide) (by decide) ?_
          exact k _ rfl
    have nd9 : (∀ (v1 : Int32), v1 = (nd1_31_3 p0) → Steps p.tables e below (s₁.setTop (mkF m 71 #[.val (.int p0), .val (.int v1)] [])) t) → Steps p.tables e below (s₁.setTop (mkF m 31 #[.val (.int p0), .unset] [])) t := by
      intro k
      have k : ∀ (v1 : Int32), v1 = (if p0 < (224 : Int32) then (nd1_50_2 p0) else (if (239 : Int32) < p0 then (nd1_50_2 p0) else (3 : Int32))) → Steps p.tables e below (s₁.setTop (mkF m 71 #[.val (.int p0), .val (.int v1)] [])) t := k
      show Steps p.tables e below (s₁.setTop (mkF m 31 #[.val (.int p0), .unset] [])) _
      refine XS.iloadN X0.here hx rfl (hb hby d1_31) rfl ?_
      show Steps p.tables e below (s₁.setTop (mkF m 32 #[.val (.int p0), .unset] [(.int p0)])) _
      refine XS.sipush X0.here hx rfl (hb hby d1_32) ?_
      show Steps p.tables e below (s₁.setTop (mkF m 35 #[.val (.int p0), .unset] [(.int (224 : Int32)), (.int p0)])) _
      by_cases hc10 : p0 < (224 : Int32)
      · refine XS.icmpYes X0.here hx rfl (pc0 := 35) (pc' := 50) rfl (hb hby d1_35) rfl (tlt hc10).1 (by decide) (by decide) ?_
        have k : ∀ (v1 : Int32), v1 = (nd1_50_2 p0) → Steps p.tables e below (s₁.setTop (mkF m 71 #[.val (.int p0), .val (.int v1)] [])) t := fun v1 hv1 => k v1 (hv1.trans (if_pos hc10).symm)
        exact nd6 k
      · refine XS.icmpNo X0.here hx rfl (hb hby d1_35) rfl (flt hc10).1 ?_
        have k : ∀ (v1 : Int32), v1 = (if (239 : Int32) < p0 then (nd1_50_2 p0) else (3 : Int32)) → Steps p.tables e below (s₁.setTop (mkF m 71 #[.val (.int p0), .val (.int v1)] [])) t := fun v1 hv1 => k v1 (hv1.trans (if_neg hc10).symm)
        show Steps p.tables e below (s₁.setTop (mkF m 38 #[.val (.int p0), .unset] [])) _
        refine XS.iloadN X0.here hx rfl (hb hby d1_38) rfl ?_
        show Steps p.tables e below (s₁.setTop (mkF m 39 #[.val (.int p0), .unset] [(.int p0)])) _
        refine XS.sipush X0.here hx rfl (hb hby d1_39) ?_
        show Steps p.tables e below (s₁.setTop (mkF m 42 #[.val (.int p0), .unset] [(.int (239 : Int32)), (.int p0)])) _
        by_cases hc11 : (239 : Int32) < p0
        · refine XS.icmpYes X0.here hx rfl (pc0 := 42) (pc' := 50) rfl (hb hby d1_42) rfl (tlt hc11).2.2.1 (by decide) (by decide) ?_
          have k : ∀ (v1 : Int32), v1 = (nd1_50_2 p0) → Steps p.tables e below (s₁.setTop (mkF m 71 #[.val (.int p0), .val (.int v1)] [])) t := fun v1 hv1 => k v1 (hv1.trans (if_pos hc11).symm)
          exact nd6 k
        · refine XS.icmpNo X0.here hx rfl (hb hby d1_42) rfl (flt hc11).2.2.1 ?_
          have k : ∀ (v1 : Int32), v1 = (3 : Int32) → Steps p.tables e below (s₁.setTop (mkF m 71 #[.val (.int p0), .val (.int v1)] [])) t := fun v1 hv1 => k v1 (hv1.trans (if_neg hc11).symm)
          show Steps p.tables e below (s₁.setTop (mkF m 45 #[.val (.int p0), .unset] [])) _
          refine XS.iconst X0.here hx rfl (hb hby d1_45) ?_
          show Steps p.tables e below (s₁.setTop (mkF m 46 #[.val (.int p0), .unset] [(.int (3 : Int32))])) _
          refine XS.istoreN X0.here hx rfl (hb hby d1_46) rfl (l' := #[.val (.int p0), .val (.int (3 : Int32))]) rfl ?_
          show Steps p.tables e below (s₁.setTop (mkF m 47 #[.val (.int p0), .val (.int (3 : Int32))] [])) _
          refine XS.goto X0.here hx rfl (pc0 := 47) (pc' := 71) rfl (hb hby d1_47) (by decide) (by decide) ?_
          exact k _ rfl
    show Steps p.tables e below (s₁.setTop (mkF m 4 #[.val (.int p0), .unset] [(.int (128 : Int32)), (.int p0)])) _
    by_cases hc12 : p0 < (128 : Int32)
    · refine XS.icmpNo X0.here hx rfl (hb hby d1_4) rfl (tlt hc12).2.1 ?_
      have k : ∀ (v1 : Int32), v1 = (1 : Int32) → Steps p.tables e below (s₁.setTop (mkF m 71 #[.val (.int p0), .val (.int v1)] [])) t := fun v1 hv1 => k v1 (hv1.trans (if_pos hc12).symm)
      show Steps p.tables e below (s₁.setTop (mkF m 7 #[.val (.int p0), .unset] [])) _
      refine XS.iconst X0.here hx rfl (hb hby d1_7) ?_
      show Steps p.tables e below (s₁.setTop (mkF m 8 #[.val (.int p0), .unset] [(.int (1 : Int32))])) _
      refine XS.istoreN X0.here hx rfl (hb hby d1_8) rfl (l' := #[.val (.int p0), .val (.int (1 : Int32))]) rfl ?_
      show Steps p.tables e below (s₁.setTop (mkF m 9 #[.val (.int p0), .val (.int (1 : Int32))] [])) _
      refine XS.goto X0.here hx rfl (pc0 := 9) (pc' := 71) rfl (hb hby d1_9) (by decide) (by decide) ?_
      exact k _ rfl
    · refine XS.icmpYes X0.here hx rfl (pc0 := 4) (pc' := 12) rfl (hb hby d1_4) rfl (flt hc12).2.1 (by decide) (by decide) ?_
      have k : ∀ (v1 : Int32), v1 = (if p0 < (194 : Int32) then (nd1_31_3 p0) else (if (223 : Int32) < p0 then (nd1_31_3 p0) else (2 : Int32))) → Steps p.tables e below (s₁.setTop (mkF m 71 #[.val (.int p0), .val (.int v1)] [])) t := fun v1 hv1 => k v1 (hv1.trans (if_neg hc12).symm)
      show Steps p.tables e below (s₁.setTop (mkF m 12 #[.val (.int p0), .unset] [])) _
      refine XS.iloadN X0.here hx rfl (hb hby d1_12) rfl ?_
      show Steps p.tables e below (s₁.setTop (mkF m 13 #[.val (.int p0), .unset] [(.int p0)])) _
      refine XS.sipush X0.here hx rfl (hb hby d1_13) ?_
      show Steps p.tables e below (s₁.setTop (mkF m 16 #[.val (.int p0), .unset] [(.int (194 : Int32)), (.int p0)])) _
      by_cases hc13 : p0 < (194 : Int32)
      · refine XS.icmpYes X0.here hx rfl (pc0 := 16) (pc' := 31) rfl (hb hby d1_16) rfl (tlt hc13).1 (by decide) (by decide) ?_
        have k : ∀ (v1 : Int32), v1 = (nd1_31_3 p0) → Steps p.tables e below (s₁.setTop (mkF m 71 #[.val (.int p0), .val (.int v1)] [])) t := fun v1 hv1 => k v1 (hv1.trans (if_pos hc13).symm)
        exact nd9 k
      · refine XS.icmpNo X0.here hx rfl (hb hby d1_16) rfl (flt hc13).1 ?_
        have k : ∀ (v1 : Int32), v1 = (if (223 : Int32) < p0 then (nd1_31_3 p0) else (2 : Int32)) → Steps p.tables e below (s₁.setTop (mkF m 71 #[.val (.int p0), .val (.int v1)] [])) t := fun v1 hv1 => k v1 (hv1.trans (if_neg hc13).symm)
        show Steps p.tables e below (s₁.setTop (mkF m 19 #[.val (.int p0), .unset] [])) _
        refine XS.iloadN X0.here hx rfl (hb hby d1_19) rfl ?_
        show Steps p.tables e below (s₁.setTop (mkF m 20 #[.val (.int p0), .unset] [(.int p0)])) _
        refine XS.sipush X0.here hx rfl (hb hby d1_20) ?_
        show Steps p.tables e below (s₁.setTop (mkF m 23 #[.val (.int p0), .unset] [(.int (223 : Int32)), (.int p0)])) _
        by_cases hc14 : (223 : Int32) < p0
        · refine XS.icmpYes X0.here hx rfl (pc0 := 23) (pc' := 31) rfl (hb hby d1_23) rfl (tlt hc14).2.2.1 (by decide) (by decide) ?_
          have k : ∀ (v1 : Int32), v1 = (nd1_31_3 p0) → Steps p.tables e below (s₁.setTop (mkF m 71 #[.val (.int p0), .val (.int v1)] [])) t := fun v1 hv1 => k v1 (hv1.trans (if_pos hc14).symm)
          exact nd9 k
        · refine XS.icmpNo X0.here hx rfl (hb hby d1_23) rfl (flt hc14).2.2.1 ?_
          have k : ∀ (v1 : Int32), v1 = (2 : Int32) → Steps p.tables e below (s₁.setTop (mkF m 71 #[.val (.int p0), .val (.int v1)] [])) t := fun v1 hv1 => k v1 (hv1.trans (if_neg hc14).symm)
          show Steps p.tables e below (s₁.setTop (mkF m 26 #[.val (.int p0), .unset] [])) _
          refine XS.iconst X0.here hx rfl (hb hby d1_26) ?_
          show Steps p.tables e below (s₁.setTop (mkF m 27 #[.val (.int p0), .unset] [(.int (2 : Int32))])) _
          refine XS.istoreN X0.here hx rfl (hb hby d1_27) rfl (l' := #[.val (.int p0), .val (.int (2 : Int32))]) rfl ?_
          show Steps p.tables e below (s₁.setTop (mkF m 28 #[.val (.int p0), .val (.int (2 : Int32))] [])) _
          refine XS.goto X0.here hx rfl (pc0 := 28) (pc' := 71) rfl (hb hby d1_28) (by decide) (by decide) ?_
          exact k _ rfl
  have pre15 : ∀ t, Steps p.tables e below (s₁.setTop (mkF m 72 #[.val (.int p0), .val (.int (if p0 < (128 : Int32) then (1 : Int32) else (if p0 < (194 : Int32) then (nd1_31_3 p0) else (if (223 : Int32) < p0 then (nd1_31_3 p0) else (2 : Int32)))))] [(.int (if p0 < (128 : Int32) then (1 : Int32) else (if p0 < (194 : Int32) then (nd1_31_3 p0) else (if (223 : Int32) < p0 then (nd1_31_3 p0) else (2 : Int32)))))])) t → Steps p.tables e below (s₁.setTop (entryFrame m #[(.int p0)] 2)) t := by
    intro t k
    refine pre4 t ?_
    show Steps p.tables e below (s₁.setTop (mkF m 71 #[.val (.int p0), .val (.int (if p0 < (128 : Int32) then (1 : Int32) else (if p0 < (194 : Int32) then (nd1_31_3 p0) else (if (223 : Int32) < p0 then (nd1_31_3 p0) else (2 : Int32)))))] [])) _
    refine XS.iloadN X0.here hx rfl (hb hby d1_71) rfl ?_
    exact k
  obtain ⟨fs, hr, hrun, hended, hW, hsame⟩ := X0.leave (v := some (.int (F1 p0))) (fun h => by rw [Bd.returns] at h; cases h)
  refine ⟨_, _, pre15 _ ?_, hrun, hended, _, _, rfl, ?_, ⟨_, rfl⟩, hW, hsame.mono (by decide) (by decide)⟩
  · show Steps p.tables e below (s₁.setTop (mkF m 72 #[.val (.int p0), .val (.int (if p0 < (128 : Int32) then (1 : Int32) else (if p0 < (194 : Int32) then (nd1_31_3 p0) else (if (223 : Int32) < p0 then (nd1_31_3 p0) else (2 : Int32)))))] [(.int (if p0 < (128 : Int32) then (1 : Int32) else (if p0 < (194 : Int32) then (nd1_31_3 p0) else (if (223 : Int32) < p0 then (nd1_31_3 p0) else (2 : Int32)))))])) _
    exact retI X0 hx Bd.returns (hb hby d1_72) hr
  · show Q1 Z p0 h0 n0 _ s₁.heap _
    rw [e0]
    exact ⟨rfl, N0, rfl⟩
theorem d2_0 : decode method_2_code 0 = .ok (.iload_n 0, 1) := by decide +kernel
theorem d2_1 : decode method_2_code 1 = .ok (.sipush 128, 3) := by decide +kernel
theorem d2_4 : decode method_2_code 4 = .ok (.iand, 1) := by decide +kernel
theorem d2_5 : decode method_2_code 5 = .ok (.ifCond .ne 5, 3) := by decide +kernel
theorem d2_8 : decode method_2_code 8 = .ok (.iconst 1, 1) := by decide +kernel
theorem d2_9 : decode method_2_code 9 = .ok (.ireturn, 1) := by decide +kernel
theorem d2_10 : decode method_2_code 10 = .ok (.iload_n 0, 1) := by decide +kernel
theorem d2_11 : decode method_2_code 11 = .ok (.sipush 224, 3) := by decide +kernel
theorem d2_14 : decode method_2_code 14 = .ok (.iand, 1) := by decide +kernel
theorem d2_15 : decode method_2_code 15 = .ok (.sipush 192, 3) := by decide +kernel
theorem d2_18 : decode method_2_code 18 = .ok (.if_icmp .ne 14, 3) := by decide +kernel
theorem d2_21 : decode method_2_code 21 = .ok (.iload_n 0, 1) := by decide +kernel
theorem d2_22 : decode method_2_code 22 = .ok (.sipush 194, 3) := by decide +kernel
theorem d2_25 : decode method_2_code 25 = .ok (.if_icmp .lt 5, 3) := by decide +kernel
theorem d2_28 : decode method_2_code 28 = .ok (.iconst 2, 1) := by decide +kernel
theorem d2_29 : decode method_2_code 29 = .ok (.ireturn, 1) := by decide +kernel
theorem d2_30 : decode method_2_code 30 = .ok (.iconst 0, 1) := by decide +kernel
theorem d2_31 : decode method_2_code 31 = .ok (.ireturn, 1) := by decide +kernel
theorem d2_32 : decode method_2_code 32 = .ok (.iload_n 0, 1) := by decide +kernel
theorem d2_33 : decode method_2_code 33 = .ok (.sipush 240, 3) := by decide +kernel
theorem d2_36 : decode method_2_code 36 = .ok (.iand, 1) := by decide +kernel
theorem d2_37 : decode method_2_code 37 = .ok (.sipush 224, 3) := by decide +kernel
theorem d2_40 : decode method_2_code 40 = .ok (.if_icmp .ne 5, 3) := by decide +kernel
theorem d2_43 : decode method_2_code 43 = .ok (.iconst 3, 1) := by decide +kernel
theorem d2_44 : decode method_2_code 44 = .ok (.ireturn, 1) := by decide +kernel
theorem d2_45 : decode method_2_code 45 = .ok (.iload_n 0, 1) := by decide +kernel
theorem d2_46 : decode method_2_code 46 = .ok (.sipush 248, 3) := by decide +kernel
theorem d2_49 : decode method_2_code 49 = .ok (.iand, 1) := by decide +kernel
theorem d2_50 : decode method_2_code 50 = .ok (.sipush 240, 3) := by decide +kernel
theorem d2_53 : decode method_2_code 53 = .ok (.if_icmp .ne 14, 3) := by decide +kernel
theorem d2_56 : decode method_2_code 56 = .ok (.iload_n 0, 1) := by decide +kernel
theorem d2_57 : decode method_2_code 57 = .ok (.sipush 244, 3) := by decide +kernel
theorem d2_60 : decode method_2_code 60 = .ok (.if_icmp .gt 5, 3) := by decide +kernel
theorem d2_63 : decode method_2_code 63 = .ok (.iconst 4, 1) := by decide +kernel
theorem d2_64 : decode method_2_code 64 = .ok (.ireturn, 1) := by decide +kernel
theorem d2_65 : decode method_2_code 65 = .ok (.iconst 0, 1) := by decide +kernel
theorem d2_66 : decode method_2_code 66 = .ok (.ireturn, 1) := by decide +kernel
theorem d2_67 : decode method_2_code 67 = .ok (.iconst 0, 1) := by decide +kernel
theorem d2_68 : decode method_2_code 68 = .ok (.ireturn, 1) := by decide +kernel
theorem pn_2 : plainName "com/example/tamsui/tamsui/xml/Utf8LengthPinLaw" = true := by first | (simp [plainName, overriddenIn]; done) | decide +kernel
theorem ef_2 (m : MethodId) (x0 : Int32) : entryFrame m #[(.int x0)] 1 = mkF m 0 #[.val (.int x0)] [] := by first | (simp [entryFrame, mkF, argsToLocals, Value.category]; done) | rfl
def F2 (p0 : Int32) : Int32 := (if (p0 &&& (128 : Int32)) = (0 : Int32) then (1 : Int32) else (if (p0 &&& (224 : Int32)) = (192 : Int32) then (if p0 < (194 : Int32) then (0 : Int32) else (2 : Int32)) else (if (p0 &&& (240 : Int32)) = (224 : Int32) then (3 : Int32) else (if (p0 &&& (248 : Int32)) = (240 : Int32) then (if (244 : Int32) < p0 then (0 : Int32) else (4 : Int32)) else (0 : Int32)))))
def Q2 (Z : State) (p0 : Int32) (h0 : Heap) (n0 : Nat) (v : Option Value) (h : Heap) (L : List Loc) : Prop := v = some (.int (F2 p0)) ∧ Fr n0 L ∧ h = h0
set_option maxRecDepth 65536 in
set_option maxHeartbeats 40000000 in
theorem rm2 (l : Launch) (Z : State) (a0 : Array Value) (hw : ∀ d ∈ tables_1, d.before a0 Z = true) (ws : List Jvm.Cond) (p0 : Int32) (h0 : Heap) (n0 : Nat) (Z0 : n0 ≤ h0.size) :
    MetFree l (⟨"com/example/tamsui/tamsui/xml/Utf8LengthPinLaw", "expected", "(I)I"⟩ : MethodName) (head1 (Jvm.Cond.code (⟨"com/example/tamsui/tamsui/xml/Utf8LengthPinLaw", "expected", "(I)I"⟩ : MethodName) method_2_code 1 (some .int) :: ws) ({ frames := 0, cells := 0, slots := 0, locals := 0 } : Room)) (fun a U => a = #[(.int p0)] ∧ Z.Warmed39 U.vm ∧ U.heap = h0) (fun _ _ _ _ _ => True) (fun _ U o U' => ∃ v L, o = .returned v ∧ Q2 Z p0 h0 n0 v U'.heap L ∧ FrameEnd U o U' L ({ frames := 0, cells := 0, slots := 0, locals := 0 } : Room).cells ({ frames := 0, cells := 0, slots := 0, locals := 0 } : Room).slots) := by
  refine MetFree.of_bodySF (plainFor_of_name pn_2) hisR ?_
  intro p e s m args below meth c s₁ Bd hml0 hP hK
  obtain ⟨rfl, hZ, hh⟩ := hP
  have hx := Bd.exec
  have hby := Bd.bytes
  have hml : c.maxLocals = 1 := hml0
  have hown : s.vm.findClass "com/example/tamsui/tamsui/xml/Utf8LengthPinLaw" = some m.cls := findClass_of_methodNamed Bd.named
  have hnm := (name_of_methodNamed Bd.named Bd.method).1
  have X0 : Stand p l e ({ frames := 0, cells := 0, slots := 0, locals := 0 } : Room) s m #[(.int p0)] below meth c s₁ [] 0 0 := Stand.of_body Bd
  have e0 : s₁.heap = h0 := by rw [← hh, Bd.state]; rfl
  have N0 := Fr.nil n0
  have pre0 : ∀ t, Steps p.tables e below (s₁.setTop (mkF m 0 #[.val (.int p0)] [])) t → Steps p.tables e below (s₁.setTop (entryFrame m #[(.int p0)] 1)) t := fun t k => castTop (ef_2 m p0) k
  have pre1 : ∀ t, Steps p.tables e below (s₁.setTop (mkF m 5 #[.val (.int p0)] [(.int (p0 &&& (128 : Int32)))])) t → Steps p.tables e below (s₁.setTop (entryFrame m #[(.int p0)] 1)) t := by
    intro t k
    refine pre0 t ?_
    show Steps p.tables e below (s₁.setTop (mkF m 0 #[.val (.int p0)] [])) _
    refine XS.iloadN X0.here hx rfl (hb hby d2_0) rfl ?_
    show Steps p.tables e below (s₁.setTop (mkF m 1 #[.val (.int p0)] [(.int p0)])) _
    refine XS.sipush X0.here hx rfl (hb hby d2_1) ?_
    show Steps p.tables e below (s₁.setTop (mkF m 4 #[.val (.int p0)] [(.int (128 : Int32)), (.int p0)])) _
    refine XS.iand X0.here hx rfl (hb hby d2_4) rfl ?_
    exact k
  obtain ⟨fs, hr, hrun, hended, hW, hsame⟩ := X0.leave (v := some (.int (F2 p0))) (fun h => by rw [Bd.returns] at h; cases h)
  refine ⟨_, _, pre1 _ ?_, hrun, hended, _, _, rfl, ?_, ⟨_, rfl⟩, hW, hsame.mono (by decide) (by decide)⟩
  · have k : ∀ (v1 : Int32), v1 = (if (p0 &&& (128 : Int32)) = (0 : Int32) then (1 : Int32) else (if (p0 &&& (224 : Int32)) = (192 : Int32) then (if p0 < (194 : Int32) then (0 : Int32) else (2 : Int32)) else (if (p0 &&& (240 : Int32)) = (224 : Int32) then (3 : Int32) else (if (p0 &&& (248 : Int32)) = (240 : Int32) then (if (244 : Int32) < p0 then (0 : Int32) else (4 : Int32)) else (0 : Int32))))) → ∀ (f : JFrame) (acts : List Action), f.method = m → f.locked = none → f.entered = [] → (doReturn e (s₁.setTop f) acts (some (.int v1))).1 = s₁.setFrames fs := fun v1 hv1 => by subst hv1; exact hr
    show Steps p.tables e below (s₁.setTop (mkF m 5 #[.val (.int p0)] [(.int (p0 &&& (128 : Int32)))])) _
    by_cases hc2 : (p0 &&& (128 : Int32)) = (0 : Int32)
    · refine XS.ifNo X0.here hx rfl (hb hby d2_5) rfl ((if0 _ _).trans (teq hc2).2) ?_
      have k : ∀ (v1 : Int32), v1 = (1 : Int32) → ∀ (f : JFrame) (acts : List Action), f.method = m → f.locked = none → f.entered = [] → (doReturn e (s₁.setTop f) acts (some (.int v1))).1 = s₁.setFrames fs := fun v1 hv1 => k v1 (hv1.trans (if_pos hc2).symm)
      show Steps p.tables e below (s₁.setTop (mkF m 8 #[.val (.int p0)] [])) _
      refine XS.iconst X0.here hx rfl (hb hby d2_8) ?_
      show Steps p.tables e below (s₁.setTop (mkF m 9 #[.val (.int p0)] [(.int (1 : Int32))])) _
      exact retI X0 hx Bd.returns (hb hby d2_9) (k _ rfl)
    · refine XS.ifYes X0.here hx rfl (pc0 := 5) (pc' := 10) rfl (hb hby d2_5) rfl ((if0 _ _).trans (feq hc2).2) (by decide) (by decide) ?_
      have k : ∀ (v1 : Int32), v1 = (if (p0 &&& (224 : Int32)) = (192 : Int32) then (if p0 < (194 : Int32) then (0 : Int32) else (2 : Int32)) else (if (p0 &&& (240 : Int32)) = (224 : Int32) then (3 : Int32) else (if (p0 &&& (248 : Int32)) = (240 : Int32) then (if (244 : Int32) < p0 then (0 : Int32) else (4 : Int32)) else (0 : Int32)))) → ∀ (f : JFrame) (acts : List Action), f.method = m → f.locked = none → f.entered = [] → (doReturn e (s₁.setTop f) acts (some (.int v1))).1 = s₁.setFrames fs := fun v1 hv1 => k v1 (hv1.trans (if_neg hc2).symm)
      show Steps p.tables e below (s₁.setTop (mkF m 10 #[.val (.int p0)] [])) _
      refine XS.iloadN X0.here hx rfl (hb hby d2_10) rfl ?_
      show Steps p.tables e below (s₁.setTop (mkF m 11 #[.val (.int p0)] [(.int p0)])) _
      refine XS.sipush X0.here hx rfl (hb hby d2_11) ?_
      show Steps p.tables e below (s₁.setTop (mkF m 14 #[.val (.int p0)] [(.int (224 : Int32)), (.int p0)])) _
      refine XS.iand X0.here hx rfl (hb hby d2_14) rfl ?_
      show Steps p.tables e below (s₁.setTop (mkF m 15 #[.val (.int p0)] [(.int (p0 &&& (224 : Int32)))])) _
      refine XS.sipush X0.here hx rfl (hb hby d2_15) ?_
      show Steps p.tables e below (s₁.setTop (mkF m 18 #[.val (.int p0)] [(.int (192 : Int32)), (.int (p0 &&& (224 : Int32)))])) _
      by_cases hc3 : (p0 &&& (224 : Int32)) = (192 : Int32)
      · refine XS.icmpNo X0.here hx rfl (hb hby d2_18) rfl (teq hc3).2 ?_
        have k : ∀ (v1 : Int32), v1 = (if p0 < (194 : Int32) then (0 : Int32) else (2 : Int32)) → ∀ (f : JFrame) (acts : List Action), f.method = m → f.locked = none → f.entered = [] → (doReturn e (s₁.setTop f) acts (some (.int v1))).1 = s₁.setFrames fs := fun v1 hv1 => k v1 (hv1.trans (if_pos hc3).symm)
        show Steps p.tables e below (s₁.setTop (mkF m 21 #[.val (.int p0)] [])) _
        refine XS.iloadN X0.here hx rfl (hb hby d2_21) rfl ?_
        show Steps p.tables e below (s₁.setTop (mkF m 22 #[.val (.int p0)] [(.int p0)])) _
        refine XS.sipush X0.here hx rfl (hb hby d2_22) ?_
        show Steps p.tables e below (s₁.setTop (mkF m 25 #[.val (.int p0)] [(.int (194 : Int32)), (.int p0)])) _
        by_cases hc4 : p0 < (194 : Int32)
        · refine XS.icmpYes X0.here hx rfl (pc0 := 25) (pc' := 30) rfl (hb hby d2_25) rfl (tlt hc4).1 (by decide) (by decide) ?_
          have k : ∀ (v1 : Int32), v1 = (0 : Int32) → ∀ (f : JFrame) (acts : List Action), f.method = m → f.locked = none → f.entered = [] → (doReturn e (s₁.setTop f) acts (some (.int v1))).1 = s₁.setFrames fs := fun v1 hv1 => k v1 (hv1.trans (if_pos hc4).symm)
          show Steps p.tables e below (s₁.setTop (mkF m 30 #[.val (.int p0)] [])) _
          refine XS.iconst X0.here hx rfl (hb hby d2_30) ?_
          show Steps p.tables e below (s₁.setTop (mkF m 31 #[.val (.int p0)] [(.int (0 : Int32))])) _
          exact retI X0 hx Bd.returns (hb hby d2_31) (k _ rfl)
        · refine XS.icmpNo X0.here hx rfl (hb hby d2_25) rfl (flt hc4).1 ?_
          have k : ∀ (v1 : Int32), v1 = (2 : Int32) → ∀ (f : JFrame) (acts : List Action), f.method = m → f.locked = none → f.entered = [] → (doReturn e (s₁.setTop f) acts (some (.int v1))).1 = s₁.setFrames fs := fun v1 hv1 => k v1 (hv1.trans (if_neg hc4).symm)
          show Steps p.tables e below (s₁.setTop (mkF m 28 #[.val (.int p0)] [])) _
          refine XS.iconst X0.here hx rfl (hb hby d2_28) ?_
          show Steps p.tables e below (s₁.setTop (mkF m 29 #[.val (.int p0)] [(.int (2 : Int32))])) _
          exact retI X0 hx Bd.returns (hb hby d2_29) (k _ rfl)
      · refine XS.icmpYes X0.here hx rfl (pc0 := 18) (pc' := 32) rfl (hb hby d2_18) rfl (feq hc3).2 (by decide) (by decide) ?_
        have k : ∀ (v1 : Int32), v1 = (if (p0 &&& (240 : Int32)) = (224 : Int32) then (3 : Int32) else (if (p0 &&& (248 : Int32)) = (240 : Int32) then (if (244 : Int32) < p0 then (0 : Int32) else (4 : Int32)) else (0 : Int32))) → ∀ (f : JFrame) (acts : List Action), f.method = m → f.locked = none → f.entered = [] → (doReturn e (s₁.setTop f) acts (some (.int v1))).1 = s₁.setFrames fs := fun v1 hv1 => k v1 (hv1.trans (if_neg hc3).symm)
        show Steps p.tables e below (s₁.setTop (mkF m 32 #[.val (.int p0)] [])) _
        refine XS.iloadN X0.here hx rfl (hb hby d2_32) rfl ?_
        show Steps p.tables e below (s₁.setTop (mkF m 33 #[.val (.int p0)] [(.int p0)])) _
        refine XS.sipush X0.here hx rfl (hb hby d2_33) ?_
        show Steps p.tables e below (s₁.setTop (mkF m 36 #[.val (.int p0)] [(.int (240 : Int32)), (.int p0)])) _
        refine XS.iand X0.here hx rfl (hb hby d2_36) rfl ?_
        show Steps p.tables e below (s₁.setTop (mkF m 37 #[.val (.int p0)] [(.int (p0 &&& (240 : Int32)))])) _
        refine XS.sipush X0.here hx rfl (hb hby d2_37) ?_
        show Steps p.tables e below (s₁.setTop (mkF m 40 #[.val (.int p0)] [(.int (224 : Int32)), (.int (p0 &&& (240 : Int32)))])) _
        by_cases hc5 : (p0 &&& (240 : Int32)) = (224 : Int32)
        · refine XS.icmpNo X0.here hx rfl (hb hby d2_40) rfl (teq hc5).2 ?_
          have k : ∀ (v1 : Int32), v1 = (3 : Int32) → ∀ (f : JFrame) (acts : List Action), f.method = m → f.locked = none → f.entered = [] → (doReturn e (s₁.setTop f) acts (some (.int v1))).1 = s₁.setFrames fs := fun v1 hv1 => k v1 (hv1.trans (if_pos hc5).symm)
          show Steps p.tables e below (s₁.setTop (mkF m 43 #[.val (.int p0)] [])) _
          refine XS.iconst X0.here hx rfl (hb hby d2_43) ?_
          show Steps p.tables e below (s₁.setTop (mkF m 44 #[.val (.int p0)] [(.int (3 : Int32))])) _
          exact retI X0 hx Bd.returns (hb hby d2_44) (k _ rfl)
        · refine XS.icmpYes X0.here hx rfl (pc0 := 40) (pc' := 45) rfl (hb hby d2_40) rfl (feq hc5).2 (by decide) (by decide) ?_
          have k : ∀ (v1 : Int32), v1 = (if (p0 &&& (248 : Int32)) = (240 : Int32) then (if (244 : Int32) < p0 then (0 : Int32) else (4 : Int32)) else (0 : Int32)) → ∀ (f : JFrame) (acts : List Action), f.method = m → f.locked = none → f.entered = [] → (doReturn e (s₁.setTop f) acts (some (.int v1))).1 = s₁.setFrames fs := fun v1 hv1 => k v1 (hv1.trans (if_neg hc5).symm)
          show Steps p.tables e below (s₁.setTop (mkF m 45 #[.val (.int p0)] [])) _
          refine XS.iloadN X0.here hx rfl (hb hby d2_45) rfl ?_
          show Steps p.tables e below (s₁.setTop (mkF m 46 #[.val (.int p0)] [(.int p0)])) _
          refine XS.sipush X0.here hx rfl (hb hby d2_46) ?_
          show Steps p.tables e below (s₁.setTop (mkF m 49 #[.val (.int p0)] [(.int (248 : Int32)), (.int p0)])) _
          refine XS.iand X0.here hx rfl (hb hby d2_49) rfl ?_
          show Steps p.tables e below (s₁.setTop (mkF m 50 #[.val (.int p0)] [(.int (p0 &&& (248 : Int32)))])) _
          refine XS.sipush X0.here hx rfl (hb hby d2_50) ?_
          show Steps p.tables e below (s₁.setTop (mkF m 53 #[.val (.int p0)] [(.int (240 : Int32)), (.int (p0 &&& (248 : Int32)))])) _
          by_cases hc6 : (p0 &&& (248 : Int32)) = (240 : Int32)
          · refine XS.icmpNo X0.here hx rfl (hb hby d2_53) rfl (teq hc6).2 ?_
            have k : ∀ (v1 : Int32), v1 = (if (244 : Int32) < p0 then (0 : Int32) else (4 : Int32)) → ∀ (f : JFrame) (acts : List Action), f.method = m → f.locked = none → f.entered = [] → (doReturn e (s₁.setTop f) acts (some (.int v1))).1 = s₁.setFrames fs := fun v1 hv1 => k v1 (hv1.trans (if_pos hc6).symm)
            show Steps p.tables e below (s₁.setTop (mkF m 56 #[.val (.int p0)] [])) _
            refine XS.iloadN X0.here hx rfl (hb hby d2_56) rfl ?_
            show Steps p.tables e below (s₁.setTop (mkF m 57 #[.val (.int p0)] [(.int p0)])) _
            refine XS.sipush X0.here hx rfl (hb hby d2_57) ?_
            show Steps p.tables e below (s₁.setTop (mkF m 60 #[.val (.int p0)] [(.int (244 : Int32)), (.int p0)])) _
            by_cases hc7 : (244 : Int32) < p0
            · refine XS.icmpYes X0.here hx rfl (pc0 := 60) (pc' := 65) rfl (hb hby d2_60) rfl (tlt hc7).2.2.1 (by decide) (by decide) ?_
              have k : ∀ (v1 : Int32), v1 = (0 : Int32) → ∀ (f : JFrame) (acts : List Action), f.method = m → f.locked = none → f.entered = [] → (doReturn e (s₁.setTop f) acts (some (.int v1))).1 = s₁.setFrames fs := fun v1 hv1 => k v1 (hv1.trans (if_pos hc7).symm)
              show Steps p.tables e below (s₁.setTop (mkF m 65 #[.val (.int p0)] [])) _
              refine XS.iconst X0.here hx rfl (hb hby d2_65) ?_
              show Steps p.tables e below (s₁.setTop (mkF m 66 #[.val (.int p0)] [(.int (0 : Int32))])) _
              exact retI X0 hx Bd.returns (hb hby d2_66) (k _ rfl)
            · refine XS.icmpNo X0.here hx rfl (hb hby d2_60) rfl (flt hc7).2.2.1 ?_
              have k : ∀ (v1 : Int32), v1 = (4 : Int32) → ∀ (f : JFrame) (acts : List Action), f.method = m → f.locked = none → f.entered = [] → (doReturn e (s₁.setTop f) acts (some (.int v1))).1 = s₁.setFrames fs := fun v1 hv1 => k v1 (hv1.trans (if_neg hc7).symm)
              show Steps p.tables e below (s₁.setTop (mkF m 63 #[.val (.int p0)] [])) _
              refine XS.iconst X0.here hx rfl (hb hby d2_63) ?_
              show Steps p.tables e below (s₁.setTop (mkF m 64 #[.val (.int p0)] [(.int (4 : Int32))])) _
              exact retI X0 hx Bd.returns (hb hby d2_64) (k _ rfl)
          · refine XS.icmpYes X0.here hx rfl (pc0 := 53) (pc' := 67) rfl (hb hby d2_53) rfl (feq hc6).2 (by decide) (by decide) ?_
            have k : ∀ (v1 : Int32), v1 = (0 : Int32) → ∀ (f : JFrame) (acts : List Action), f.method = m → f.locked = none → f.entered = [] → (doReturn e (s₁.setTop f) acts (some (.int v1))).1 = s₁.setFrames fs := fun v1 hv1 => k v1 (hv1.trans (if_neg hc6).symm)
            show Steps p.tables e below (s₁.setTop (mkF m 67 #[.val (.int p0)] [])) _
            refine XS.iconst X0.here hx rfl (hb hby d2_67) ?_
            show Steps p.tables e below (s₁.setTop (mkF m 68 #[.val (.int p0)] [(.int (0 : Int32))])) _
            exact retI X0 hx Bd.returns (hb hby d2_68) (k _ rfl)
  · show Q2 Z p0 h0 n0 _ s₁.heap _
    rw [e0]
    exact ⟨rfl, N0, rfl⟩
theorem pd_0 : parseMethodDescriptor "(I)I" = some ⟨[.int], some .int⟩ := by decide +kernel
theorem ef_0 (m : MethodId) (x0 : Int32) : entryFrame m #[(.int x0)] maxLocals = mkF m 0 #[.val (.int x0), .unset] [] := by first | (simp [entryFrame, mkF, argsToLocals, Value.category, maxLocals]; done) | rfl
def lawE1 (p0 : Int32) : Bool := (if (F1 (p0 &&& (255 : Int32))) = (F2 (p0 &&& (255 : Int32))) then true else false)
theorem own_fin (x : Int32) (n : Nat) (h0 : 0 ≤ x.toInt) (h1 : x.toInt < n) : ∃ i : Fin n, x = Int32.ofInt (i.1 : Int) :=
  ⟨⟨x.toInt.toNat, by omega⟩, by
    have e : ((x.toInt.toNat : Nat) : Int) = x.toInt := Int.toNat_of_nonneg h0
    show x = Int32.ofInt ((x.toInt.toNat : Nat) : Int)
    rw [e, Int32.ofInt_toInt]⟩
theorem own_all : ∀ i : Fin 256, F1 (Int32.ofInt (i.1 : Int)) = F2 (Int32.ofInt (i.1 : Int)) := by decide +kernel
theorem own_law1 (p0 : Int32) : lawE1 p0 = true := by
  have h := c_mask p0 255 8 (by decide) (by decide)
  obtain ⟨i, hi⟩ := own_fin (p0 &&& 255) 256 (by omega) (by omega)
  unfold lawE1
  rw [hi, own_all i]
  exact if_pos rfl
def Q0 (Z : State) (p0 : Int32) (h0 : Heap) (n0 : Nat) (v : Option Value) (h : Heap) (L : List Loc) : Prop := v = some (.int (1 : Int32)) ∧ Fr n0 L
set_option maxRecDepth 65536 in
set_option maxHeartbeats 40000000 in
theorem rm0 (l : Launch) (Z : State) (a0 : Array Value) (hw : ∀ d ∈ tables_1, d.before a0 Z = true) (ws : List Jvm.Cond) (p0 : Int32) (h0 : Heap) (n0 : Nat) (Z0 : n0 ≤ h0.size) :
    MetFree l x (head1 (Jvm.Cond.code x code maxLocals ret :: ws) room_1) (fun a U => a = #[(.int p0)] ∧ Z.Warmed39 U.vm ∧ U.heap = h0) (fun _ _ _ _ _ => True) (fun _ U o U' => ∃ v L, o = .returned v ∧ Q0 Z p0 h0 n0 v U'.heap L ∧ FrameEnd U o U' L room_1.cells room_1.slots) := by
  refine MetFree.of_bodySF (plainFor_of_name pn_2) hisR ?_
  intro p e s m args below meth c s₁ Bd hml0 hP hK
  obtain ⟨rfl, hZ, hh⟩ := hP
  have hx := Bd.exec
  have hby := Bd.bytes
  have hml : c.maxLocals = 2 := hml0
  have hown : s.vm.findClass "com/example/tamsui/tamsui/xml/Utf8LengthPinLaw" = some m.cls := findClass_of_methodNamed Bd.named
  have hnm := (name_of_methodNamed Bd.named Bd.method).1
  have X0 : Stand p l e room_1 s m #[(.int p0)] below meth c s₁ [] 0 0 := Stand.of_body Bd
  have e0 : s₁.heap = h0 := by rw [← hh, Bd.state]; rfl
  have N0 := Fr.nil n0
  have pre0 : ∀ t, Steps p.tables e below (s₁.setTop (mkF m 0 #[.val (.int p0), .unset] [])) t → Steps p.tables e below (s₁.setTop (entryFrame m #[(.int p0)] maxLocals)) t := fun t k => castTop (ef_0 m p0) k
  obtain ⟨_, _, ⟨T1, L1, k1, n1⟩, -, X1, ⟨Lc1, hQ1, l1, y1, z1⟩, st1⟩ := Jvm.LawKit.callS X0 hx (y := (⟨"com/example/tamsui/tamsui/xml/Utf8", "length", "(I)I"⟩ : MethodName)) hown (mvT hZ (hw _ (List.mem_of_getElem? (i := 0) rfl))) (mvT hZ (hw _ (List.mem_of_getElem? (i := 1) rfl))) (mvT hZ (hw _ (List.mem_of_getElem? (i := 2) rfl))) (mvT hZ (hw _ (List.mem_of_getElem? (i := 3) rfl))) (by decide) (backOf (W := 0) (rm1 l Z a0 hw [] (p0 &&& (255 : Int32)) h0 n0 Z0) hZ (hw _ (List.mem_of_getElem? (i := 3) rfl)) (hw _ (List.mem_of_getElem? (i := 2) rfl)) (by decide) (by decide)) (g := (mkF m 7 #[.val (.int p0), .val (.int (p0 &&& (255 : Int32)))] [(.int (p0 &&& (255 : Int32)))])) rfl (by rw [hml]; rfl) (argsL := [(.int (p0 &&& (255 : Int32)))]) (rest := []) (lenOf pd_0 rfl) rfl (by show 2 * 0 + _ ≤ _; exact Nat.le_of_eq rfl) (hb hby at_7) (fun _ _ => ⟨rfl, e0, (by decide : 0 + 0 ≤ _), (by decide : 0 + 0 ≤ _)⟩)
  dsimp only [Pt.U, Pt.locs, Pt.cells, Pt.slots] at X1 l1 y1 z1 st1 hQ1
  subst l1 y1 z1
  obtain ⟨rfl, N1q, e1⟩ := hQ1
  have N1 := Fr.app N0 N1q
  obtain ⟨_, _, ⟨T2, L2, k2, n2⟩, -, X2, ⟨Lc2, hQ2, l2, y2, z2⟩, st2⟩ := Jvm.LawKit.callS X1 hx (y := (⟨"com/example/tamsui/tamsui/xml/Utf8LengthPinLaw", "expected", "(I)I"⟩ : MethodName)) hown (mvT hZ (hw _ (List.mem_of_getElem? (i := 4) rfl))) (mvT hZ (hw _ (List.mem_of_getElem? (i := 5) rfl))) (mvT hZ (hw _ (List.mem_of_getElem? (i := 6) rfl))) (mvT hZ (hw _ (List.mem_of_getElem? (i := 7) rfl))) (by decide) (backOf (W := 1) (rm2 l Z a0 hw [] (p0 &&& (255 : Int32)) h0 n0 Z0) hZ (hw _ (List.mem_of_getElem? (i := 7) rfl)) (hw _ (List.mem_of_getElem? (i := 6) rfl)) (by decide) (by decide)) (g := (mkF m 11 #[.val (.int p0), .val (.int (p0 &&& (255 : Int32)))] [(.int (p0 &&& (255 : Int32))), (.int (F1 (p0 &&& (255 : Int32))))])) rfl (by rw [hml]; rfl) (argsL := [(.int (p0 &&& (255 : Int32)))]) (rest := [(.int (F1 (p0 &&& (255 : Int32))))]) (lenOf pd_0 rfl) rfl (by show 2 * 0 + _ ≤ _; exact Nat.le_of_eq rfl) (hb hby at_11) (fun _ _ => ⟨rfl, e1, (by decide : 0 + 0 ≤ _), (by decide : 0 + 0 ≤ _)⟩)
  dsimp only [Pt.U, Pt.locs, Pt.cells, Pt.slots] at X2 l2 y2 z2 st2 hQ2
  subst l2 y2 z2
  obtain ⟨rfl, N2q, e2⟩ := hQ2
  have N2 := Fr.app N1 N2q
  have pre3 : ∀ t, Steps p.tables e below (T2.setTop (mkF m 14 #[.val (.int p0), .val (.int (p0 &&& (255 : Int32)))] [(.int (F2 (p0 &&& (255 : Int32)))), (.int (F1 (p0 &&& (255 : Int32))))])) t → Steps p.tables e below (s₁.setTop (entryFrame m #[(.int p0)] maxLocals)) t := by
    intro t k
    refine pre0 t ?_
    show Steps p.tables e below (s₁.setTop (mkF m 0 #[.val (.int p0), .unset] [])) _
    refine XS.iloadN X0.here hx rfl (hb hby at_0) rfl ?_
    show Steps p.tables e below (s₁.setTop (mkF m 1 #[.val (.int p0), .unset] [(.int p0)])) _
    refine XS.sipush X0.here hx rfl (hb hby at_1) ?_
    show Steps p.tables e below (s₁.setTop (mkF m 4 #[.val (.int p0), .unset] [(.int (255 : Int32)), (.int p0)])) _
    refine XS.iand X0.here hx rfl (hb hby at_4) rfl ?_
    show Steps p.tables e below (s₁.setTop (mkF m 5 #[.val (.int p0), .unset] [(.int (p0 &&& (255 : Int32)))])) _
    refine XS.istoreN X0.here hx rfl (hb hby at_5) rfl (l' := #[.val (.int p0), .val (.int (p0 &&& (255 : Int32)))]) rfl ?_
    show Steps p.tables e below (s₁.setTop (mkF m 6 #[.val (.int p0), .val (.int (p0 &&& (255 : Int32)))] [])) _
    refine XS.iloadN X0.here hx rfl (hb hby at_6) rfl ?_
    show Steps p.tables e below (s₁.setTop (mkF m 7 #[.val (.int p0), .val (.int (p0 &&& (255 : Int32)))] [(.int (p0 &&& (255 : Int32)))])) _
    refine st1 _ ?_
    show Steps p.tables e below (T1.setTop (mkF m 10 #[.val (.int p0), .val (.int (p0 &&& (255 : Int32)))] [(.int (F1 (p0 &&& (255 : Int32))))])) _
    refine XS.iloadN X1.here hx rfl (hb hby at_10) rfl ?_
    show Steps p.tables e below (T1.setTop (mkF m 11 #[.val (.int p0), .val (.int (p0 &&& (255 : Int32)))] [(.int (p0 &&& (255 : Int32))), (.int (F1 (p0 &&& (255 : Int32))))])) _
    refine st2 _ ?_
    exact k
  have pre4 : ∀ t, Steps p.tables e below (T2.setTop (mkF m 22 #[.val (.int p0), .val (.int (p0 &&& (255 : Int32)))] [(.int (b2i (if (F1 (p0 &&& (255 : Int32))) = (F2 (p0 &&& (255 : Int32))) then true else false)))])) t → Steps p.tables e below (s₁.setTop (entryFrame m #[(.int p0)] maxLocals)) t := by
    intro t k
    refine pre3 t ?_
    have k : ∀ (v1 : Bool), v1 = (if (F1 (p0 &&& (255 : Int32))) = (F2 (p0 &&& (255 : Int32))) then true else false) → Steps p.tables e below (T2.setTop (mkF m 22 #[.val (.int p0), .val (.int (p0 &&& (255 : Int32)))] [(.int (b2i v1))])) t := fun v1 hv1 => by subst hv1; exact k
    show Steps p.tables e below (T2.setTop (mkF m 14 #[.val (.int p0), .val (.int (p0 &&& (255 : Int32)))] [(.int (F2 (p0 &&& (255 : Int32)))), (.int (F1 (p0 &&& (255 : Int32))))])) _
    by_cases hc5 : (F1 (p0 &&& (255 : Int32))) = (F2 (p0 &&& (255 : Int32)))
    · refine XS.icmpNo X2.here hx rfl (hb hby at_14) rfl (teq hc5).2 ?_
      have k : ∀ (v1 : Bool), v1 = true → Steps p.tables e below (T2.setTop (mkF m 22 #[.val (.int p0), .val (.int (p0 &&& (255 : Int32)))] [(.int (b2i v1))])) t := fun v1 hv1 => k v1 (hv1.trans (if_pos hc5).symm)
      show Steps p.tables e below (T2.setTop (mkF m 17 #[.val (.int p0), .val (.int (p0 &&& (255 : Int32)))] [])) _
      refine XS.iconst X2.here hx rfl (hb hby at_17) ?_
      show Steps p.tables e below (T2.setTop (mkF m 18 #[.val (.int p0), .val (.int (p0 &&& (255 : Int32)))] [(.int (1 : Int32))])) _
      refine XS.goto X2.here hx rfl (pc0 := 18) (pc' := 22) rfl (hb hby at_18) (by decide) (by decide) ?_
      exact k true rfl
    · refine XS.icmpYes X2.here hx rfl (pc0 := 14) (pc' := 21) rfl (hb hby at_14) rfl (feq hc5).2 (by decide) (by decide) ?_
      have k : ∀ (v1 : Bool), v1 = false → Steps p.tables e below (T2.setTop (mkF m 22 #[.val (.int p0), .val (.int (p0 &&& (255 : Int32)))] [(.int (b2i v1))])) t := fun v1 hv1 => k v1 (hv1.trans (if_neg hc5).symm)
      show Steps p.tables e below (T2.setTop (mkF m 21 #[.val (.int p0), .val (.int (p0 &&& (255 : Int32)))] [])) _
      refine XS.iconst X2.here hx rfl (hb hby at_21) ?_
      exact k false rfl
  have hlaw : (if (F1 (p0 &&& (255 : Int32))) = (F2 (p0 &&& (255 : Int32))) then true else false) = true := own_law1 p0
  obtain ⟨fs, hr, hrun, hended, hW, hsame⟩ := X2.leave (v := some (.int (1 : Int32))) (fun h => by rw [Bd.returns] at h; cases h)
  refine ⟨_, _, pre4 _ ?_, hrun, hended, _, _, rfl, ?_, ⟨_, rfl⟩, hW, hsame.mono (by decide) (by decide)⟩
  · show Steps p.tables e below (T2.setTop (mkF m 22 #[.val (.int p0), .val (.int (p0 &&& (255 : Int32)))] [(.int (b2i (if (F1 (p0 &&& (255 : Int32))) = (F2 (p0 &&& (255 : Int32))) then true else false)))])) _
    exact retN X2 hx (t := .boolean) Bd.returns (by simp) (hb hby at_22) (by rw [b2i_one hlaw]; exact hr)
  · show Q0 Z p0 h0 n0 _ T2.heap _
    rw [e2]
    exact ⟨rfl, N2⟩
set_option maxRecDepth 65536 in
set_option maxHeartbeats 40000000 in
theorem comes_1 {Post : Tables → Env → Array Value → State → Outcome → State → Prop} (hpost : ∀ tb e args s v u, (limb_1_1.after args s (.returned v) u = true ∧ limb_1_2.after args s (.returned v) u = true ∧ True) → FrameEnd s (.returned v) u (Jvm.fieldLocs frame_1_writes args s ++ Jvm.arrayLocs frame_1_arrays args s ++ Jvm.staticLocs frame_1_statics s) 0 0 → Post tb e args s (.returned v) u) :
    ArmFor flags0 classFile x code maxLocals ret World_1 tables_1 room_1 Calls_1 rest_1 Pre_1 Post := by
  intro l hfl _ _ p e ha hc hk s m args below hf hA hF happ hP
  obtain ⟨hcalls, hrest, hpre⟩ := hP
  obtain ⟨-, -, -, hnamed, -, -, -, hat⟩ := (Spec.applies_iff hf).mp happ
  obtain ⟨hg, hn⟩ := and_e (Cond.before_iff.mp (show (Jvm.Cond.and given_1 narrow_1).before args s = true from hpre))
  obtain ⟨g1, g2⟩ := and_e hg
  obtain ⟨w0, rfl⟩ : ∃ w0 : Value, args = #[w0] := by
    have hs : args.size = 1 := by simpa [Cond.value, given_1] using g1
    obtain ⟨L⟩ := args
    match L, hs with
    | [w0], _ => exact ⟨w0, rfl⟩
  have hw := fun d (hd : d ∈ tables_1) => atoms_spec (ws := Jvm.Cond.code x code maxLocals ret :: tables_1) hat d (List.mem_cons_of_mem _ hd)
  obtain ⟨i0, ei0⟩ := is_v g2
  obtain rfl : w0 = (.int i0) := Option.some.inj ei0
  obtain ⟨n, o, h1, h2, h3, _, L, rfl, ⟨rfl, N⟩, hq⟩ := rm0 l s _ hw tables_1 i0 s.heap s.heap.size (Nat.le_refl _) p e ha hc hk s m _ below hf ((Spec.applies_iff_loose hf).mp happ).1 ⟨rfl, State.Warmed39.refl s, rfl⟩ trivial
  refine ⟨n, _, h1, h2, h3, hpost _ _ _ _ _ _ ⟨Cond.after_iff.mpr rfl, Cond.after_iff.mpr (eq_i res_at (Term.int_eval (1)) rfl), trivial⟩ ⟨hq.1, hq.2.1, (hq.2.2.sift fun y hy => Or.inr (N y hy)).mono (by decide) (by decide)⟩⟩
theorem main_1_1 : Claimed_1_1 := comes_1 fun _ _ _ _ _ _ h hF => ⟨h.1, hF⟩
theorem main_1_2 : Claimed_1_2 := comes_1 fun _ _ _ _ _ _ h hF => ⟨h.2.1, hF⟩
end Jvm.Pilot.@@N@@
namespace Jvm.Pilot.@@N@@
open Jvm Jvm.ClassFile Sem Op Lib Jvm.Free Jvm.Stand Jvm.Pilot.@@N@@.Jvm.D
/-! MADE BY PROGRAM (witnessworld.py) out of the Statement's table words and the real class files: 9 classes; the members and pool entries that the words name. The judged class is class 1, her method 2. -/
namespace start1
open Jvm.ClassFile
def u (s : String) : CpInfo := .utf8 (stringToUtf16 s)
/-- a pool by its gaps: so many unusable entries, then the entry; so many at the end -/
def gap : Nat → List CpInfo → List CpInfo
  | 0, r => r
  | n + 1, r => .unusable :: gap n r
def poolList (es : List (Nat × CpInfo)) (last : Nat) : List CpInfo := es.foldr (fun e r => gap e.1 (e.2 :: r)) (gap last [])
def pool (es : List (Nat × CpInfo)) (last : Nat) : Array CpInfo := ⟨poolList es last⟩
def fileOf (pool : Array CpInfo) (this : Nat) (attrs : Array Attribute := #[]) (ms : Array MethodInfo := #[]) (fl : Nat := 33) (sup : Nat := 0) (ifs : Array Nat := #[]) (fds : Array FieldInfo := #[]) : ClassFile where
  minorVersion := 0
  majorVersion := 65
  constantPool := pool
  accessFlags := fl
  thisClass := this
  superClass := sup
  interfaces := ifs
  fields := fds
  methods := ms
  attributes := attrs
def plain (name : String) (sup : Option ClassId) : Class where
  name := name
  kind := .ordinary
  loader := none
  accessFlags := 33
  super := sup
  interfaces := #[]
  cf := none
  fields := #[]
  methods := #[]
  instanceTypes := #[]
  staticTypes := #[]
  resolved := #[]
  callSites := []
  init := .initialized
  statics := none
  mirror := none

def pool0 : Array CpInfo := pool [(5, u "<init>"), (0, u "()V"), (1, .class_ 10), (1, u "java/lang/Object")] 113

def k0m0 : Method := { name := "<init>", desc := "()V", sig := { parameters := [], returnType := none }, accessFlags := 1, code := none }
/-- java/lang/Object -/
def k0 : Class := { plain "java/lang/Object" none with
  accessFlags := 33
  interfaces := #[]
  cf := some (fileOf pool0 8 #[] #[{ accessFlags := 1, nameIndex := 5, descriptorIndex := 6, attributes := #[] }] 33 0 #[] #[])
  fields := #[]
  methods := #[k0m0]
  instanceTypes := #[]
  staticTypes := #[]
  resolved := Array.replicate 124 none
  statics := none }

def pool1 : Array CpInfo := pool [(2, .class_ 4), (1, u "java/lang/Object"), (0, u "<init>"), (0, u "()V"), (0, .methodref 8 9), (0, .class_ 10), (0, .nameAndType 11 12), (0, u "com/example/tamsui/tamsui/xml/Utf8"), (0, u "length"), (0, u "(I)I"), (0, .methodref 14 15), (0, .class_ 16), (0, .nameAndType 17 12), (0, u "com/example/tamsui/tamsui/xml/Utf8LengthPinLaw"), (0, u "expected"), (3, u "law"), (0, u "(I)Z")] 2

def k1m0 : Method := { name := "<init>", desc := "()V", sig := { parameters := [], returnType := none }, accessFlags := 2, code := none }
def k1c1 : Code := { maxStack := 2, maxLocals := 1, code := method_2_code, exceptionTable := #[], attributes := #[] }
def k1m1 : Method := { name := "expected", desc := "(I)I", sig := { parameters := [.int], returnType := some .int }, accessFlags := 10, code := some k1c1 }
def k1c2 : Code := { maxStack := 2, maxLocals := 2, code := code, exceptionTable := #[], attributes := #[] }
def k1m2 : Method := { name := "law", desc := "(I)Z", sig := { parameters := [.int], returnType := some .boolean }, accessFlags := 9, code := some k1c2 }
/-- com/example/tamsui/tamsui/xml/Utf8LengthPinLaw -/
def k1 : Class := { plain "com/example/tamsui/tamsui/xml/Utf8LengthPinLaw" (some 0) with
  accessFlags := 49
  interfaces := #[]
  cf := some (fileOf pool1 14 #[] #[{ accessFlags := 2, nameIndex := 5, descriptorIndex := 6, attributes := #[] }, { accessFlags := 10, nameIndex := 17, descriptorIndex := 12, attributes := #[] }, { accessFlags := 9, nameIndex := 21, descriptorIndex := 22, attributes := #[] }] 49 2 #[] #[])
  fields := #[]
  methods := #[k1m0, k1m1, k1m2]
  instanceTypes := #[]
  staticTypes := #[]
  resolved := Array.replicate 25 none
  statics := none }

def pool2 : Array CpInfo := pool [(2, .class_ 4), (1, u "java/lang/Object"), (0, u "<init>"), (0, u "()V"), (1, .class_ 10), (1, u "com/example/tamsui/tamsui/xml/Utf8"), (0, u "length"), (0, u "(I)I")] 15

def k2m0 : Method := { name := "<init>", desc := "()V", sig := { parameters := [], returnType := none }, accessFlags := 2, code := none }
def k2c1 : Code := { maxStack := 2, maxLocals := 2, code := prog_155_method_2_code, exceptionTable := #[], attributes := #[] }
def k2m1 : Method := { name := "length", desc := "(I)I", sig := { parameters := [.int], returnType := some .int }, accessFlags := 9, code := some k2c1 }
/-- com/example/tamsui/tamsui/xml/Utf8 -/
def k2 : Class := { plain "com/example/tamsui/tamsui/xml/Utf8" (some 0) with
  accessFlags := 49
  interfaces := #[]
  cf := some (fileOf pool2 8 #[] #[{ accessFlags := 2, nameIndex := 5, descriptorIndex := 6, attributes := #[] }, { accessFlags := 9, nameIndex := 11, descriptorIndex := 12, attributes := #[] }] 49 2 #[] #[])
  fields := #[]
  methods := #[k2m0, k2m1]
  instanceTypes := #[]
  staticTypes := #[]
  resolved := Array.replicate 28 none
  statics := none }

def pool3 : Array CpInfo := pool [(1, u "java/lang/Cloneable"), (0, .class_ 1), (0, u "java/lang/Object"), (0, .class_ 3)] 3

/-- java/lang/Cloneable -/
def k3 : Class := { plain "java/lang/Cloneable" (some 0) with
  accessFlags := 1537
  interfaces := #[]
  cf := some (fileOf pool3 2 #[] #[] 1537 4 #[] #[])
  fields := #[]
  methods := #[]
  instanceTypes := #[]
  staticTypes := #[]
  resolved := Array.replicate 8 none
  statics := none }

def pool4 : Array CpInfo := pool [(1, u "java/io/Serializable"), (0, .class_ 1), (0, u "java/lang/Object"), (0, .class_ 3)] 3

/-- java/io/Serializable -/
def k4 : Class := { plain "java/io/Serializable" (some 0) with
  accessFlags := 1537
  interfaces := #[]
  cf := some (fileOf pool4 2 #[] #[] 1537 4 #[] #[])
  fields := #[]
  methods := #[]
  instanceTypes := #[]
  staticTypes := #[]
  resolved := Array.replicate 8 none
  statics := none }

/-- the primitive byte -/
def k5 : Class := { plain "byte" none with kind := .primitive 'B', accessFlags := 0x411 }
/-- [B -/
def k6 : Class := { plain "[B" (some 0) with kind := .array 5 .byte, interfaces := #[3, 4], accessFlags := 1041 }

/-- the primitive int -/
def k7 : Class := { plain "int" none with kind := .primitive 'I', accessFlags := 0x411 }
/-- [I -/
def k8 : Class := { plain "[I" (some 0) with kind := .array 7 .int, interfaces := #[3, 4], accessFlags := 1041 }

def heap : Heap := #[]
def classes : Array Class := #[k0, k1, k2, k3, k4, k5, k6, k7, k8]
def interned : List (Array UInt16 × Addr) := []
def slotsUsed : Nat := 0
def theMethod : MethodId := ⟨1, 2⟩
def args0 : Array Value := #[.int 5]
def aboutOver (below : List Frame) : State where
  vm := { classes := classes, interned := interned.toArray }
  heap := heap
  slotsUsed := slotsUsed
  threads := #[{ frames := .invoking theMethod args0 :: below }]
def below0 : List Frame := [.native { method := ⟨0, 0⟩, args := #[] }]
def about1 : State := aboutOver below0
def p0 : Program := .bare "" "" ""
def e0 : Env := launch0.env 0 0 0
theorem w_frames : about1.frames = Frame.invoking theMethod args0 :: below0 := rfl
set_option maxRecDepth 65536 in
theorem w_args : argsFit about1.vm theMethod args0 = true := by decide +kernel
set_option maxRecDepth 65536 in
theorem w_heap : heapFits about1 = true := by decide +kernel
set_option maxRecDepth 65536 in
theorem w_runnable : about1.curStatus? = some .runnable := by decide +kernel
set_option maxRecDepth 65536 in
theorem w_alone : about1.alone = true := by decide +kernel
set_option maxRecDepth 65536 in
theorem w_named : about1.methodNamed? x = some theMethod := by decide +kernel
set_option maxRecDepth 65536 in
theorem w_hears : about1.hears theMethod below0 = true := by decide +kernel
set_option maxRecDepth 65536 in
theorem w_ripe : about1.ripe theMethod args0 below0 = true := by decide +kernel
theorem w_running : about1.status = .running := rfl
set_option maxRecDepth 65536 in
theorem w_room : about1.hasRoom e0.platform room_1 = true :=
  launch0.hasRoom_least _ room_1 (by decide +kernel) (by decide +kernel) (by decide +kernel) (by decide +kernel) (by decide +kernel) (by decide +kernel)
theorem allAtoms_all (ts : List Jvm.Cond) (a : Array Jvm.Value) (st : Jvm.State) : (allAtoms ts).before a st = ts.all (fun c => c.before a st) := by
  induction ts with
  | nil => rfl
  | cons c t ih =>
    show (Jvm.Cond.and c (allAtoms t)).before a st = _
    rw [Jvm.Cond.before_and, ih, List.all_cons]
def words1 : List Jvm.Cond := Jvm.Cond.code x code maxLocals ret :: tables_1
/-- a 'code' word, met by the world's own term for the bytes: nothing is compared byte by byte -/
theorem code_word {y : MethodName} {bytes : ByteArray} {mx : Nat} {rt : Option FieldType} {a : Array Value} {s : State} {m : MethodId} {meth : Method} {c : Code} (h1 : s.methodNamed? y = some m) (h2 : s.vm.method? m = some meth) (h3 : meth.code = some c) (h4 : c.code = bytes)
    (h5 : (c.maxLocals == mx && c.exceptionTable.isEmpty && decide (c.maxStack ≤ mostOperands) && decide (meth.sig.returnType = rt) && !meth.locks && decide (parseMethodDescriptor y.desc = some meth.sig)) = true) : (Jvm.Cond.code y bytes mx rt).before a s = true := by
  simp only [Bool.and_eq_true, beq_iff_eq, Bool.not_eq_true', decide_eq_true_eq] at h5
  obtain ⟨⟨⟨⟨⟨g1, g2⟩, g3⟩, g4⟩, g5⟩, g6⟩ := h5
  simp [Cond.before, Cond.holds, Cond.value, h1, h2, h3, h4, g1, g2, g3, g4, g5, g6]
def isCode : Jvm.Cond → Bool
  | .code _ _ _ _ => true
  | _ => false
theorem all_split {L : List Jvm.Cond} {P : Jvm.Cond → Bool} (h1 : L.all (fun c => isCode c || P c) = true) (h2 : ∀ c ∈ L.filter isCode, P c = true) : L.all P = true := by
  refine List.all_eq_true.mpr fun c hc => ?_
  have h := List.all_eq_true.mp h1 c hc
  rcases Bool.eq_false_or_eq_true (isCode c) with hi | hi
  · exact h2 c (List.mem_filter.mpr ⟨hc, hi⟩)
  · simpa [hi] using h
set_option maxRecDepth 65536 in
theorem w_c0 : (Jvm.Cond.code x code maxLocals ret).before args0 about1 = true := code_word (m := ⟨1, 2⟩) (meth := k1m2) (c := k1c2) (by decide +kernel) rfl rfl rfl (by decide +kernel)
set_option maxRecDepth 65536 in
theorem w_c1 : (Jvm.Cond.code ({ cls := "com/example/tamsui/tamsui/xml/Utf8", name := "length", desc := "(I)I" } : Jvm.MethodName) prog_155_method_2_code (2 : Nat) (Option.some Jvm.ClassFile.FieldType.int)).before args0 about1 = true := code_word (m := ⟨2, 1⟩) (meth := k2m1) (c := k2c1) (by decide +kernel) rfl rfl rfl (by decide +kernel)
set_option maxRecDepth 65536 in
theorem w_c2 : (Jvm.Cond.code ({ cls := "com/example/tamsui/tamsui/xml/Utf8LengthPinLaw", name := "expected", desc := "(I)I" } : Jvm.MethodName) method_2_code (1 : Nat) (Option.some Jvm.ClassFile.FieldType.int)).before args0 about1 = true := code_word (m := ⟨1, 1⟩) (meth := k1m1) (c := k1c1) (by decide +kernel) rfl rfl rfl (by decide +kernel)
def codes1 : List Jvm.Cond := [Jvm.Cond.code x code maxLocals ret, Jvm.Cond.code ({ cls := "com/example/tamsui/tamsui/xml/Utf8", name := "length", desc := "(I)I" } : Jvm.MethodName) prog_155_method_2_code (2 : Nat) (Option.some Jvm.ClassFile.FieldType.int), Jvm.Cond.code ({ cls := "com/example/tamsui/tamsui/xml/Utf8LengthPinLaw", name := "expected", desc := "(I)I" } : Jvm.MethodName) method_2_code (1 : Nat) (Option.some Jvm.ClassFile.FieldType.int)]
set_option maxRecDepth 65536 in
theorem codes_eq : words1.filter isCode = codes1 := rfl
theorem w_codes : ∀ c ∈ words1.filter isCode, c.before args0 about1 = true := by
  rw [codes_eq]
  intro c hc
  simp only [codes1, List.mem_cons, List.not_mem_nil, or_false] at hc
  rcases hc with rfl | rfl | rfl
  · exact w_c0
  · exact w_c1
  · exact w_c2
set_option maxRecDepth 65536 in
theorem w_t1 : words1.all (fun c => isCode c || c.before args0 about1) = true := by decide +kernel
theorem w_tables : (allAtoms (Jvm.Cond.code x code maxLocals ret :: tables_1)).before args0 about1 = true := by
  rw [allAtoms_all]
  show words1.all (fun c => c.before args0 about1) = true
  refine all_split ?_ w_codes
  rw [w_t1]
set_option maxRecDepth 65536 in
theorem w_case : (Jvm.Cond.and given_1 narrow_1).before args0 about1 = true := by decide +kernel
theorem w_applies : (headSpec (Jvm.Cond.code x code maxLocals ret :: tables_1) room_1).applies x e0.platform about1 = true :=
  (Spec.applies_iff w_frames).mpr ⟨w_running, w_runnable, w_alone, w_named, w_hears, w_ripe, w_room, w_tables⟩
theorem atStart : AtStart classFile x code maxLocals ret World_1 tables_1 room_1 Calls_1 rest_1 Pre_1 launch0 p0 e0 about1 theMethod args0 below0 :=
  ⟨lists_1, trivial, launch0.admits_env _ _ _, launch0.least_env, fairChoices_fair.cas, fairChoices_fair.clock, w_frames, w_args, w_heap, w_applies, trivial, trivial, w_case⟩
end start1
theorem witness_1 : WitnessClaimed_1 := ⟨start1.p0, start1.e0, start1.about1, start1.theMethod, start1.args0, start1.below0, start1.atStart⟩
end Jvm.Pilot.@@N@@
