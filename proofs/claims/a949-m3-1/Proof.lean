import JvmDerived
import JvmDerived.Pilot.@@N@@Statement
import JvmDerived.Pilot.@@N@@Code
set_option linter.unusedVariables false
set_option linter.unusedSimpArgs false
namespace Jvm.RoadKit
open Sem ClassFile Op Lib Jvm.Stand Jvm.Free Jvm.LawKit
section New
variable {p : Program} {l : Launch} {e : Env} {R : Room} {s : State} {m : MethodId} {args : Array Value} {below : List Frame} {meth : Method} {c : Code} {T : State} {locs : List Loc} {cells slots : Nat}
theorem retI (X : Stand p l e R s m args below meth c T locs cells slots) (hx : p.tables.exec = Jvm.exec) {pc : Nat} {Ls : Array Slot} {z : Int32} {rest : List Value} (hret : meth.sig.returnType = some .int) (hd : decode c.code pc = .ok (.ireturn, 1)) {fs : List Frame}
    (hl : ∀ (f : JFrame) (acts : List Action), f.method = m → f.locked = none → f.entered = [] → (doReturn e (T.setTop f) acts (some (.int z))).1 = T.setFrames fs) : Steps p.tables e below (T.setTop (mkF m pc Ls (.int z :: rest))) (T.setFrames fs) := by
  have hm' : T.vm.method? m = some meth := X.method'
  have hn : narrow .int (.int z) = .int z := rfl
  show Steps p.tables e below (T.setTop { method := m, pc := pc, locals := Ls, stack := _ :: rest, locked := none }) _
  jvm_step X.here [X.here.top, hx, hd, hm', hret, hn]
  first | (intro acts; rw [hl _ acts rfl rfl rfl]) | rw [hl _ _ rfl rfl rfl]
  exact Steps.refl _
end New
end Jvm.RoadKit
namespace Jvm.OwnKit
open Sem ClassFile Op Lib Jvm.Stand Jvm.Free Jvm.LawKit Jvm.RoadKit
def b2i (b : Bool) : Int32 := if b = true then 1 else 0
theorem b2i_eq {b : Bool} (h : ¬ b = true) : b2i b = 0 := if_neg h
theorem b2i_ne {b : Bool} (h : b = true) : ¬ b2i b = 0 := by rw [b2i, if_pos h]; decide
theorem nar_b2i (b : Bool) : nar .boolean (b2i b) = b2i b := by cases b <;> decide
theorem b2i_one {b : Bool} (h : b = true) : nar .boolean (b2i b) = 1 := by rw [h]; decide
end Jvm.OwnKit
namespace Jvm.Pilot.@@N@@
open Jvm Jvm.ClassFile Sem Op Lib Jvm.Free Jvm.Stand Jvm.LawKit Jvm.RoadKit Jvm.OwnKit Bundle Jvm.Pilot.@@N@@.Jvm.D
theorem d2_0 : decode prog_31_method_21_code 0 = .ok (.iload_n 0, 1) := by decide +kernel
theorem d2_1 : decode prog_31_method_21_code 1 = .ok (.bipush 65, 2) := by decide +kernel
theorem d2_3 : decode prog_31_method_21_code 3 = .ok (.if_icmp .lt 9, 3) := by decide +kernel
theorem d2_6 : decode prog_31_method_21_code 6 = .ok (.iload_n 0, 1) := by decide +kernel
theorem d2_7 : decode prog_31_method_21_code 7 = .ok (.bipush 90, 2) := by decide +kernel
theorem d2_9 : decode prog_31_method_21_code 9 = .ok (.if_icmp .le 27, 3) := by decide +kernel
theorem d2_12 : decode prog_31_method_21_code 12 = .ok (.iload_n 0, 1) := by decide +kernel
theorem d2_13 : decode prog_31_method_21_code 13 = .ok (.bipush 97, 2) := by decide +kernel
theorem d2_15 : decode prog_31_method_21_code 15 = .ok (.if_icmp .lt 9, 3) := by decide +kernel
theorem d2_18 : decode prog_31_method_21_code 18 = .ok (.iload_n 0, 1) := by decide +kernel
theorem d2_19 : decode prog_31_method_21_code 19 = .ok (.bipush 122, 2) := by decide +kernel
theorem d2_21 : decode prog_31_method_21_code 21 = .ok (.if_icmp .le 15, 3) := by decide +kernel
theorem d2_24 : decode prog_31_method_21_code 24 = .ok (.iload_n 0, 1) := by decide +kernel
theorem d2_25 : decode prog_31_method_21_code 25 = .ok (.bipush 48, 2) := by decide +kernel
theorem d2_27 : decode prog_31_method_21_code 27 = .ok (.if_icmp .lt 13, 3) := by decide +kernel
theorem d2_30 : decode prog_31_method_21_code 30 = .ok (.iload_n 0, 1) := by decide +kernel
theorem d2_31 : decode prog_31_method_21_code 31 = .ok (.bipush 57, 2) := by decide +kernel
theorem d2_33 : decode prog_31_method_21_code 33 = .ok (.if_icmp .gt 7, 3) := by decide +kernel
theorem d2_36 : decode prog_31_method_21_code 36 = .ok (.iconst 1, 1) := by decide +kernel
theorem d2_37 : decode prog_31_method_21_code 37 = .ok (.goto 4, 3) := by decide +kernel
theorem d2_40 : decode prog_31_method_21_code 40 = .ok (.iconst 0, 1) := by decide +kernel
theorem d2_41 : decode prog_31_method_21_code 41 = .ok (.ireturn, 1) := by decide +kernel
theorem pn_2 : plainName "com/example/merkki/merkki/MarkupReader" = true := by first | (simp [plainName, overriddenIn]; done) | decide +kernel
theorem ef_2 (m : MethodId) (x0 : Int32) : entryFrame m #[(.int x0)] 1 = mkF m 0 #[.val (.int x0)] [] := by first | (simp [entryFrame, mkF, argsToLocals, Value.category]; done) | rfl
def nd2_24_2 (p0 : Int32) : Bool := (if p0 < (48 : Int32) then false else (if (57 : Int32) < p0 then false else true))
def nd2_12_3 (p0 : Int32) : Bool := (if p0 < (97 : Int32) then (nd2_24_2 p0) else (if (122 : Int32) < p0 then (nd2_24_2 p0) else true))
def F2 (p0 : Int32) : Bool := (if p0 < (65 : Int32) then (nd2_12_3 p0) else (if (90 : Int32) < p0 then (nd2_12_3 p0) else true))
def Q2 (Z : State) (p0 : Int32) (h0 : Heap) (n0 : Nat) (v : Option Value) (h : Heap) (L : List Loc) : Prop := v = some (.int (b2i (F2 p0))) ∧ Fr n0 L ∧ h = h0
set_option maxRecDepth 65536 in
set_option maxHeartbeats 40000000 in
theorem rm2 (l : Launch) (Z : State) (a0 : Array Value) (hw : ∀ d ∈ tables_1, d.before a0 Z = true) (ws : List Jvm.Cond) (p0 : Int32) (h0 : Heap) (n0 : Nat) (Z0 : n0 ≤ h0.size) :
    MetFree l (⟨"com/example/merkki/merkki/MarkupReader", "isAsciiLetterOrDigit", "(I)Z"⟩ : MethodName) (head1 (Jvm.Cond.code (⟨"com/example/merkki/merkki/MarkupReader", "isAsciiLetterOrDigit", "(I)Z"⟩ : MethodName) prog_31_method_21_code 1 (some .boolean) :: ws) ({ frames := 0, cells := 0, slots := 0, locals := 0 } : Room)) (fun a U => a = #[(.int p0)] ∧ Z.Warmed39 U.vm ∧ U.heap = h0) (fun _ _ _ _ _ => True) (fun _ U o U' => ∃ v L, o = .returned v ∧ Q2 Z p0 h0 n0 v U'.heap L ∧ FrameEnd U o U' L ({ frames := 0, cells := 0, slots := 0, locals := 0 } : Room).cells ({ frames := 0, cells := 0, slots := 0, locals := 0 } : Room).slots) := by
  refine MetFree.of_bodySF (plainFor_of_name pn_2) hisR ?_
  intro p e s m args below meth c s₁ Bd hml0 hP hK
  obtain ⟨rfl, hZ, hh⟩ := hP
  have hx := Bd.exec
  have hby := Bd.bytes
  have hml : c.maxLocals = 1 := hml0
  have hown : s.vm.findClass "com/example/merkki/merkki/MarkupReader" = some m.cls := findClass_of_methodNamed Bd.named
  have hnm := (name_of_methodNamed Bd.named Bd.method).1
  have X0 : Stand p l e ({ frames := 0, cells := 0, slots := 0, locals := 0 } : Room) s m #[(.int p0)] below meth c s₁ [] 0 0 := Stand.of_body Bd
  have e0 : s₁.heap = h0 := by rw [← hh, Bd.state]; rfl
  have N0 := Fr.nil n0
  have pre0 : ∀ t, Steps p.tables e below (s₁.setTop (mkF m 0 #[.val (.int p0)] [])) t → Steps p.tables e below (s₁.setTop (entryFrame m #[(.int p0)] 1)) t := fun t k => castTop (ef_2 m p0) k
  have pre1 : ∀ t, Steps p.tables e below (s₁.setTop (mkF m 3 #[.val (.int p0)] [(.int (65 : Int32)), (.int p0)])) t → Steps p.tables e below (s₁.setTop (entryFrame m #[(.int p0)] 1)) t := by
    intro t k
    refine pre0 t ?_
    show Steps p.tables e below (s₁.setTop (mkF m 0 #[.val (.int p0)] [])) _
    refine XS.iloadN X0.here hx rfl (hb hby d2_0) rfl ?_
    show Steps p.tables e below (s₁.setTop (mkF m 1 #[.val (.int p0)] [(.int p0)])) _
    refine XS.bipush X0.here hx rfl (hb hby d2_1) ?_
    exact k
  have pre4 : ∀ t, Steps p.tables e below (s₁.setTop (mkF m 41 #[.val (.int p0)] [(.int (b2i (if p0 < (65 : Int32) then (nd2_12_3 p0) else (if (90 : Int32) < p0 then (nd2_12_3 p0) else true))))])) t → Steps p.tables e below (s₁.setTop (entryFrame m #[(.int p0)] 1)) t := by
    intro t k
    refine pre1 t ?_
    have k : ∀ (v1 : Bool), v1 = (if p0 < (65 : Int32) then (nd2_12_3 p0) else (if (90 : Int32) < p0 then (nd2_12_3 p0) else true)) → Steps p.tables e below (s₁.setTop (mkF m 41 #[.val (.int p0)] [(.int (b2i v1))])) t := fun v1 hv1 => by subst hv1; exact k
    have nd5 : (∀ (v1 : Bool), v1 = false → Steps p.tables e below (s₁.setTop (mkF m 41 #[.val (.int p0)] [(.int (b2i v1))])) t) → Steps p.tables e below (s₁.setTop (mkF m 40 #[.val (.int p0)] [])) t := by
      intro k
      show Steps p.tables e below (s₁.setTop (mkF m 40 #[.val (.int p0)] [])) _
      refine XS.iconst X0.here hx rfl (hb hby d2_40) ?_
      exact k false rfl
    have nd6 : (∀ (v1 : Bool), v1 = true → Steps p.tables e below (s₁.setTop (mkF m 41 #[.val (.int p0)] [(.int (b2i v1))])) t) → Steps p.tables e below (s₁.setTop (mkF m 36 #[.val (.int p0)] [])) t := by
      intro k
      show Steps p.tables e below (s₁.setTop (mkF m 36 #[.val (.int p0)] [])) _
      refine XS.iconst X0.here hx rfl (hb hby d2_36) ?_
      show Steps p.tables e below (s₁.setTop (mkF m 37 #[.val (.int p0)] [(.int (1 : Int32))])) _
      refine XS.goto X0.here hx rfl (pc0 := 37) (pc' := 41) rfl (hb hby d2_37) (by decide) (by decide) ?_
      exact k true rfl
    have nd7 : (∀ (v1 : Bool), v1 = (nd2_24_2 p0) → Steps p.tables e below (s₁.setTop (mkF m 41 #[.val (.int p0)] [(.int (b2i v1))])) t) → Steps p.tables e below (s₁.setTop (mkF m 24 #[.val (.int p0)] [])) t := by
      intro k
      have k : ∀ (v1 : Bool), v1 = (if p0 < (48 : Int32) then false else (if (57 : Int32) < p0 then false else true)) → Steps p.tables e below (s₁.setTop (mkF m 41 #[.val (.int p0)] [(.int (b2i v1))])) t := k
      show Steps p.tables e below (s₁.setTop (mkF m 24 #[.val (.int p0)] [])) _
      refine XS.iloadN X0.here hx rfl (hb hby d2_24) rfl ?_
      show Steps p.tables e below (s₁.setTop (mkF m 25 #[.val (.int p0)] [(.int p0)])) _
      refine XS.bipush X0.here hx rfl (hb hby d2_25) ?_
      show Steps p.tables e below (s₁.setTop (mkF m 27 #[.val (.int p0)] [(.int (48 : Int32)), (.int p0)])) _
      by_cases hc8 : p0 < (48 : Int32)
      · refine XS.icmpYes X0.here hx rfl (pc0 := 27) (pc' := 40) rfl (hb hby d2_27) rfl (tlt hc8).1 (by decide) (by decide) ?_
        have k : ∀ (v1 : Bool), v1 = false → Steps p.tables e below (s₁.setTop (mkF m 41 #[.val (.int p0)] [(.int (b2i v1))])) t := fun v1 hv1 => k v1 (hv1.trans (if_pos hc8).symm)
        exact nd5 k
      · refine XS.icmpNo X0.here hx rfl (hb hby d2_27) rfl (flt hc8).1 ?_
        have k : ∀ (v1 : Bool), v1 = (if (57 : Int32) < p0 then false else true) → Steps p.tables e below (s₁.setTop (mkF m 41 #[.val (.int p0)] [(.int (b2i v1))])) t := fun v1 hv1 => k v1 (hv1.trans (if_neg hc8).symm)
        show Steps p.tables e below (s₁.setTop (mkF m 30 #[.val (.int p0)] [])) _
        refine XS.iloadN X0.here hx rfl (hb hby d2_30) rfl ?_
        show Steps p.tables e below (s₁.setTop (mkF m 31 #[.val (.int p0)] [(.int p0)])) _
        refine XS.bipush X0.here hx rfl (hb hby d2_31) ?_
        show Steps p.tables e below (s₁.setTop (mkF m 33 #[.val (.int p0)] [(.int (57 : Int32)), (.int p0)])) _
        by_cases hc9 : (57 : Int32) < p0
        · refine XS.icmpYes X0.here hx rfl (pc0 := 33) (pc' := 40) rfl (hb hby d2_33) rfl (tlt hc9).2.2.1 (by decide) (by decide) ?_
          have k : ∀ (v1 : Bool), v1 = false → Steps p.tables e below (s₁.setTop (mkF m 41 #[.val (.int p0)] [(.int (b2i v1))])) t := fun v1 hv1 => k v1 (hv1.trans (if_pos hc9).symm)
          exact nd5 k
        · refine XS.icmpNo X0.here hx rfl (hb hby d2_33) rfl (flt hc9).2.2.1 ?_
          have k : ∀ (v1 : Bool), v1 = true → Steps p.tables e below (s₁.setTop (mkF m 41 #[.val (.int p0)] [(.int (b2i v1))])) t := fun v1 hv1 => k v1 (hv1.trans (if_neg hc9).symm)
          exact nd6 k
    have nd10 : (∀ (v1 : Bool), v1 = (nd2_12_3 p0) → Steps p.tables e below (s₁.setTop (mkF m 41 #[.val (.int p0)] [(.int (b2i v1))])) t) → Steps p.tables e below (s₁.setTop (mkF m 12 #[.val (.int p0)] [])) t := by
      intro k
      have k : ∀ (v1 : Bool), v1 = (if p0 < (97 : Int32) then (nd2_24_2 p0) else (if (122 : Int32) < p0 then (nd2_24_2 p0) else true)) → Steps p.tables e below (s₁.setTop (mkF m 41 #[.val (.int p0)] [(.int (b2i v1))])) t := k
      show Steps p.tables e below (s₁.setTop (mkF m 12 #[.val (.int p0)] [])) _
      refine XS.iloadN X0.here hx rfl (hb hby d2_12) rfl ?_
      show Steps p.tables e below (s₁.setTop (mkF m 13 #[.val (.int p0)] [(.int p0)])) _
      refine XS.bipush X0.here hx rfl (hb hby d2_13) ?_
      show Steps p.tables e below (s₁.setTop (mkF m 15 #[.val (.int p0)] [(.int (97 : Int32)), (.int p0)])) _
      by_cases hc11 : p0 < (97 : Int32)
      · refine XS.icmpYes X0.here hx rfl (pc0 := 15) (pc' := 24) rfl (hb hby d2_15) rfl (tlt hc11).1 (by decide) (by decide) ?_
        have k : ∀ (v1 : Bool), v1 = (nd2_24_2 p0) → Steps p.tables e below (s₁.setTop (mkF m 41 #[.val (.int p0)] [(.int (b2i v1))])) t := fun v1 hv1 => k v1 (hv1.trans (if_pos hc11).symm)
        exact nd7 k
      · refine XS.icmpNo X0.here hx rfl (hb hby d2_15) rfl (flt hc11).1 ?_
        have k : ∀ (v1 : Bool), v1 = (if (122 : Int32) < p0 then (nd2_24_2 p0) else true) → Steps p.tables e below (s₁.setTop (mkF m 41 #[.val (.int p0)] [(.int (b2i v1))])) t := fun v1 hv1 => k v1 (hv1.trans (if_neg hc11).symm)
        show Steps p.tables e below (s₁.setTop (mkF m 18 #[.val (.int p0)] [])) _
        refine XS.iloadN X0.here hx rfl (hb hby d2_18) rfl ?_
        show Steps p.tables e below (s₁.setTop (mkF m 19 #[.val (.int p0)] [(.int p0)])) _
        refine XS.bipush X0.here hx rfl (hb hby d2_19) ?_
        show Steps p.tables e below (s₁.setTop (mkF m 21 #[.val (.int p0)] [(.int (122 : Int32)), (.int p0)])) _
        by_cases hc12 : (122 : Int32) < p0
        · refine XS.icmpNo X0.here hx rfl (hb hby d2_21) rfl (tlt hc12).2.2.2 ?_
          have k : ∀ (v1 : Bool), v1 = (nd2_24_2 p0) → Steps p.tables e below (s₁.setTop (mkF m 41 #[.val (.int p0)] [(.int (b2i v1))])) t := fun v1 hv1 => k v1 (hv1.trans (if_pos hc12).symm)
          exact nd7 k
        · refine XS.icmpYes X0.here hx rfl (pc0 := 21) (pc' := 36) rfl (hb hby d2_21) rfl (flt hc12).2.2.2 (by decide) (by decide) ?_
          have k : ∀ (v1 : Bool), v1 = true → Steps p.tables e below (s₁.setTop (mkF m 41 #[.val (.int p0)] [(.int (b2i v1))])) t := fun v1 hv1 => k v1 (hv1.trans (if_neg hc12).symm)
          exact nd6 k
    show Steps p.tables e below (s₁.setTop (mkF m 3 #[.val (.int p0)] [(.int (65 : Int32)), (.int p0)])) _
    by_cases hc13 : p0 < (65 : Int32)
    · refine XS.icmpYes X0.here hx rfl (pc0 := 3) (pc' := 12) rfl (hb hby d2_3) rfl (tlt hc13).1 (by decide) (by decide) ?_
      have k : ∀ (v1 : Bool), v1 = (nd2_12_3 p0) → Steps p.tables e below (s₁.setTop (mkF m 41 #[.val (.int p0)] [(.int (b2i v1))])) t := fun v1 hv1 => k v1 (hv1.trans (if_pos hc13).symm)
      exact nd10 k
    · refine XS.icmpNo X0.here hx rfl (hb hby d2_3) rfl (flt hc13).1 ?_
      have k : ∀ (v1 : Bool), v1 = (if (90 : Int32) < p0 then (nd2_12_3 p0) else true) → Steps p.tables e below (s₁.setTop (mkF m 41 #[.val (.int p0)] [(.int (b2i v1))])) t := fun v1 hv1 => k v1 (hv1.trans (if_neg hc13).symm)
      show Steps p.tables e below (s₁.setTop (mkF m 6 #[.val (.int p0)] [])) _
      refine XS.iloadN X0.here hx rfl (hb hby d2_6) rfl ?_
      show Steps p.tables e below (s₁.setTop (mkF m 7 #[.val (.int p0)] [(.int p0)])) _
      refine XS.bipush X0.here hx rfl (hb hby d2_7) ?_
      show Steps p.tables e below (s₁.setTop (mkF m 9 #[.val (.int p0)] [(.int (90 : Int32)), (.int p0)])) _
      by_cases hc14 : (90 : Int32) < p0
      · refine XS.icmpNo X0.here hx rfl (hb hby d2_9) rfl (tlt hc14).2.2.2 ?_
        have k : ∀ (v1 : Bool), v1 = (nd2_12_3 p0) → Steps p.tables e below (s₁.setTop (mkF m 41 #[.val (.int p0)] [(.int (b2i v1))])) t := fun v1 hv1 => k v1 (hv1.trans (if_pos hc14).symm)
        exact nd10 k
      · refine XS.icmpYes X0.here hx rfl (pc0 := 9) (pc' := 36) rfl (hb hby d2_9) rfl (flt hc14).2.2.2 (by decide) (by decide) ?_
        have k : ∀ (v1 : Bool), v1 = true → Steps p.tables e below (s₁.setTop (mkF m 41 #[.val (.int p0)] [(.int (b2i v1))])) t := fun v1 hv1 => k v1 (hv1.trans (if_neg hc14).symm)
        exact nd6 k
  obtain ⟨fs, hr, hrun, hended, hW, hsame⟩ := X0.leave (v := some (.int (b2i (F2 p0)))) (fun h => by rw [Bd.returns] at h; cases h)
  refine ⟨_, _, pre4 _ ?_, hrun, hended, _, _, rfl, ?_, ⟨_, rfl⟩, hW, hsame.mono (by decide) (by decide)⟩
  · show Steps p.tables e below (s₁.setTop (mkF m 41 #[.val (.int p0)] [(.int (b2i (if p0 < (65 : Int32) then (nd2_12_3 p0) else (if (90 : Int32) < p0 then (nd2_12_3 p0) else true))))])) _
    exact retN X0 hx (t := .boolean) Bd.returns (by simp) (hb hby d2_41) (by rw [nar_b2i]; exact hr)
  · show Q2 Z p0 h0 n0 _ s₁.heap _
    rw [e0]
    exact ⟨rfl, N0, rfl⟩
theorem d3_0 : decode method_2_code 0 = .ok (.iload_n 0, 1) := by decide +kernel
theorem d3_1 : decode method_2_code 1 = .ok (.bipush 32, 2) := by decide +kernel
theorem d3_3 : decode method_2_code 3 = .ok (.ior, 1) := by decide +kernel
theorem d3_4 : decode method_2_code 4 = .ok (.istore_n 1, 1) := by decide +kernel
theorem d3_5 : decode method_2_code 5 = .ok (.iload_n 1, 1) := by decide +kernel
theorem d3_6 : decode method_2_code 6 = .ok (.bipush 97, 2) := by decide +kernel
theorem d3_8 : decode method_2_code 8 = .ok (.if_icmp .lt 13, 3) := by decide +kernel
theorem d3_11 : decode method_2_code 11 = .ok (.iload_n 1, 1) := by decide +kernel
theorem d3_12 : decode method_2_code 12 = .ok (.bipush 122, 2) := by decide +kernel
theorem d3_14 : decode method_2_code 14 = .ok (.if_icmp .gt 7, 3) := by decide +kernel
theorem d3_17 : decode method_2_code 17 = .ok (.iconst 1, 1) := by decide +kernel
theorem d3_18 : decode method_2_code 18 = .ok (.goto 4, 3) := by decide +kernel
theorem d3_21 : decode method_2_code 21 = .ok (.iconst 0, 1) := by decide +kernel
theorem d3_22 : decode method_2_code 22 = .ok (.istore_n 2, 1) := by decide +kernel
theorem d3_23 : decode method_2_code 23 = .ok (.iload_n 0, 1) := by decide +kernel
theorem d3_24 : decode method_2_code 24 = .ok (.bipush 48, 2) := by decide +kernel
theorem d3_26 : decode method_2_code 26 = .ok (.ixor, 1) := by decide +kernel
theorem d3_27 : decode method_2_code 27 = .ok (.istore_n 3, 1) := by decide +kernel
theorem d3_28 : decode method_2_code 28 = .ok (.iload_n 3, 1) := by decide +kernel
theorem d3_29 : decode method_2_code 29 = .ok (.ifCond .lt 13, 3) := by decide +kernel
theorem d3_32 : decode method_2_code 32 = .ok (.iload_n 3, 1) := by decide +kernel
theorem d3_33 : decode method_2_code 33 = .ok (.bipush 9, 2) := by decide +kernel
theorem d3_35 : decode method_2_code 35 = .ok (.if_icmp .gt 7, 3) := by decide +kernel
theorem d3_38 : decode method_2_code 38 = .ok (.iconst 1, 1) := by decide +kernel
theorem d3_39 : decode method_2_code 39 = .ok (.goto 4, 3) := by decide +kernel
theorem d3_42 : decode method_2_code 42 = .ok (.iconst 0, 1) := by decide +kernel
theorem d3_43 : decode method_2_code 43 = .ok (.istore 4, 2) := by decide +kernel
theorem d3_45 : decode method_2_code 45 = .ok (.iload_n 2, 1) := by decide +kernel
theorem d3_46 : decode method_2_code 46 = .ok (.ifCond .ne 8, 3) := by decide +kernel
theorem d3_49 : decode method_2_code 49 = .ok (.iload 4, 2) := by decide +kernel
theorem d3_51 : decode method_2_code 51 = .ok (.ifCond .eq 7, 3) := by decide +kernel
theorem d3_54 : decode method_2_code 54 = .ok (.iconst 1, 1) := by decide +kernel
theorem d3_55 : decode method_2_code 55 = .ok (.goto 4, 3) := by decide +kernel
theorem d3_58 : decode method_2_code 58 = .ok (.iconst 0, 1) := by decide +kernel
theorem d3_59 : decode method_2_code 59 = .ok (.ireturn, 1) := by decide +kernel
theorem pn_3 : plainName "com/example/merkki/merkki/MarkupReaderIsAsciiLetterOrDigitPinLaw" = true := by first | (simp [plainName, overriddenIn]; done) | decide +kernel
theorem ef_3 (m : MethodId) (x0 : Int32) : entryFrame m #[(.int x0)] 5 = mkF m 0 #[.val (.int x0), .unset, .unset, .unset, .unset] [] := by first | (simp [entryFrame, mkF, argsToLocals, Value.category]; done) | rfl
def F3 (p0 : Int32) : Bool := (if (if (p0 ||| (32 : Int32)) < (97 : Int32) then false else (if (122 : Int32) < (p0 ||| (32 : Int32)) then false else true)) = true then true else (if (if (p0 ^^^ (48 : Int32)) < (0 : Int32) then false else (if (9 : Int32) < (p0 ^^^ (48 : Int32)) then false else true)) = true then true else false))
def Q3 (Z : State) (p0 : Int32) (h0 : Heap) (n0 : Nat) (v : Option Value) (h : Heap) (L : List Loc) : Prop := v = some (.int (b2i (F3 p0))) ∧ Fr n0 L ∧ h = h0
set_option maxRecDepth 65536 in
set_option maxHeartbeats 40000000 in
theorem rm3 (l : Launch) (Z : State) (a0 : Array Value) (hw : ∀ d ∈ tables_1, d.before a0 Z = true) (ws : List Jvm.Cond) (p0 : Int32) (h0 : Heap) (n0 : Nat) (Z0 : n0 ≤ h0.size) :
    MetFree l (⟨"com/example/merkki/merkki/MarkupReaderIsAsciiLetterOrDigitPinLaw", "reference", "(I)Z"⟩ : MethodName) (head1 (Jvm.Cond.code (⟨"com/example/merkki/merkki/MarkupReaderIsAsciiLetterOrDigitPinLaw", "reference", "(I)Z"⟩ : MethodName) method_2_code 5 (some .boolean) :: ws) ({ frames := 0, cells := 0, slots := 0, locals := 0 } : Room)) (fun a U => a = #[(.int p0)] ∧ Z.Warmed39 U.vm ∧ U.heap = h0) (fun _ _ _ _ _ => True) (fun _ U o U' => ∃ v L, o = .returned v ∧ Q3 Z p0 h0 n0 v U'.heap L ∧ FrameEnd U o U' L ({ frames := 0, cells := 0, slots := 0, locals := 0 } : Room).cells ({ frames := 0, cells := 0, slots := 0, locals := 0 } : Room).slots) := by
  refine MetFree.of_bodySF (plainFor_of_name pn_3) hisR ?_
  intro p e s m args below meth c s₁ Bd hml0 hP hK
  obtain ⟨rfl, hZ, hh⟩ := hP
  have hx := Bd.exec
  have hby := Bd.bytes
  have hml : c.maxLocals = 5 := hml0
  have hown : s.vm.findClass "com/example/merkki/merkki/MarkupReaderIsAsciiLetterOrDigitPinLaw" = some m.cls := findClass_of_methodNamed Bd.named
  have hnm := (name_of_methodNamed Bd.named Bd.method).1
  have X0 : Stand p l e ({ frames := 0, cells := 0, slots := 0, locals := 0 } : Room) s m #[(.int p0)] below meth c s₁ [] 0 0 := Stand.of_body Bd
  have e0 : s₁.heap = h0 := by rw [← hh, Bd.state]; rfl
  have N0 := Fr.nil n0
  have pre0 : ∀ t, Steps p.tables e below (s₁.setTop (mkF m 0 #[.val (.int p0), .unset, .unset, .unset, .unset] [])) t → Steps p.tables e below (s₁.setTop (entryFrame m #[(.int p0)] 5)) t := fun t k => castTop (ef_3 m p0) k
  have pre1 : ∀ t, Steps p.tables e below (s₁.setTop (mkF m 8 #[.val (.int p0), .val (.int (p0 ||| (32 : Int32))), .unset, .unset, .unset] [(.int (97 : Int32)), (.int (p0 ||| (32 : Int32)))])) t → Steps p.tables e below (s₁.setTop (entryFrame m #[(.int p0)] 5)) t := by
    intro t k
    refine pre0 t ?_
    show Steps p.tables e below (s₁.setTop (mkF m 0 #[.val (.int p0), .unset, .unset, .unset, .unset] [])) _
    refine XS.iloadN X0.here hx rfl (hb hby d3_0) rfl ?_
    show Steps p.tables e below (s₁.setTop (mkF m 1 #[.val (.int p0), .unset, .unset, .unset, .unset] [(.int p0)])) _
    refine XS.bipush X0.here hx rfl (hb hby d3_1) ?_
    show Steps p.tables e below (s₁.setTop (mkF m 3 #[.val (.int p0), .unset, .unset, .unset, .unset] [(.int (32 : Int32)), (.int p0)])) _
    refine XS.ior X0.here hx rfl (hb hby d3_3) rfl ?_
    show Steps p.tables e below (s₁.setTop (mkF m 4 #[.val (.int p0), .unset, .unset, .unset, .unset] [(.int (p0 ||| (32 : Int32)))])) _
    refine XS.istoreN X0.here hx rfl (hb hby d3_4) rfl (l' := #[.val (.int p0), .val (.int (p0 ||| (32 : Int32))), .unset, .unset, .unset]) rfl ?_
    show Steps p.tables e below (s₁.setTop (mkF m 5 #[.val (.int p0), .val (.int (p0 ||| (32 : Int32))), .unset, .unset, .unset] [])) _
    refine XS.iloadN X0.here hx rfl (hb hby d3_5) rfl ?_
    show Steps p.tables e below (s₁.setTop (mkF m 6 #[.val (.int p0), .val (.int (p0 ||| (32 : Int32))), .unset, .unset, .unset] [(.int (p0 ||| (32 : Int32)))])) _
    refine XS.bipush X0.here hx rfl (hb hby d3_6) ?_
    exact k
  have pre2 : ∀ t, Steps p.tables e below (s₁.setTop (mkF m 22 #[.val (.int p0), .val (.int (p0 ||| (32 : Int32))), .unset, .unset, .unset] [(.int (b2i (if (p0 ||| (32 : Int32)) < (97 : Int32) then false else (if (122 : Int32) < (p0 ||| (32 : Int32)) then false else true))))])) t → Steps p.tables e below (s₁.setTop (entryFrame m #[(.int p0)] 5)) t := by
    intro t k
    refine pre1 t ?_
    have k : ∀ (v1 : Bool), v1 = (if (p0 ||| (32 : Int32)) < (97 : Int32) then false else (if (122 : Int32) < (p0 ||| (32 : Int32)) then false else true)) → Steps p.tables e below (s₁.setTop (mkF m 22 #[.val (.int p0), .val (.int (p0 ||| (32 : Int32))), .unset, .unset, .unset] [(.int (b2i v1))])) t := fun v1 hv1 => by subst hv1; exact k
    have nd3 : (∀ (v1 : Bool), v1 = false → Steps p.tables e below (s₁.setTop (mkF m 22 #[.val (.int p0), .val (.int (p0 ||| (32 : Int32))), .unset, .unset, .unset] [(.int (b2i v1))])) t) → Steps p.tables e below (s₁.setTop (mkF m 21 #[.val (.int p0), .val (.int (p0 ||| (32 : Int32))), .unset, .unset, .unset] [])) t := by
      intro k
      show Steps p.tables e below (s₁.setTop (mkF m 21 #[.val (.int p0), .val (.int (p0 ||| (32 : Int32))), .unset, .unset, .unset] [])) _
      refine XS.iconst X0.here hx rfl (hb hby d3_21) ?_
      exact k false rfl
    show Steps p.tables e below (s₁.setTop (mkF m 8 #[.val (.int p0), .val (.int (p0 ||| (32 : Int32))), .unset, .unset, .unset] [(.int (97 : Int32)), (.int (p0 ||| (32 : Int32)))])) _
    by_cases hc4 : (p0 ||| (32 : Int32)) < (97 : Int32)
    · refine XS.icmpYes X0.here hx rfl (pc0 := 8) (pc' := 21) rfl (hb hby d3_8) rfl (tlt hc4).1 (by decide) (by decide) ?_
      have k : ∀ (v1 : Bool), v1 = false → Steps p.tables e below (s₁.setTop (mkF m 22 #[.val (.int p0), .val (.int (p0 ||| (32 : Int32))), .unset, .unset, .unset] [(.int (b2i v1))])) t := fun v1 hv1 => k v1 (hv1.trans (if_pos hc4).symm)
      exact nd3 k
    · refine XS.icmpNo X0.here hx rfl (hb hby d3_8) rfl (flt hc4).1 ?_
      have k : ∀ (v1 : Bool), v1 = (if (122 : Int32) < (p0 ||| (32 : Int32)) then false else true) → Steps p.tables e below (s₁.setTop (mkF m 22 #[.val (.int p0), .val (.int (p0 ||| (32 : Int32))), .unset, .unset, .unset] [(.int (b2i v1))])) t := fun v1 hv1 => k v1 (hv1.trans (if_neg hc4).symm)
      show Steps p.tables e below (s₁.setTop (mkF m 11 #[.val (.int p0), .val (.int (p0 ||| (32 : Int32))), .unset, .unset, .unset] [])) _
      refine XS.iloadN X0.here hx rfl (hb hby d3_11) rfl ?_
      show Steps p.tables e below (s₁.setTop (mkF m 12 #[.val (.int p0), .val (.int (p0 ||| (32 : Int32))), .unset, .unset, .unset] [(.int (p0 ||| (32 : Int32)))])) _
      refine XS.bipush X0.here hx rfl (hb hby d3_12) ?_
      show Steps p.tables e below (s₁.setTop (mkF m 14 #[.val (.int p0), .val (.int (p0 ||| (32 : Int32))), .unset, .unset, .unset] [(.int (122 : Int32)), (.int (p0 ||| (32 : Int32)))])) _
      by_cases hc5 : (122 : Int32) < (p0 ||| (32 : Int32))
      · refine XS.icmpYes X0.here hx rfl (pc0 := 14) (pc' := 21) rfl (hb hby d3_14) rfl (tlt hc5).2.2.1 (by decide) (by decide) ?_
        have k : ∀ (v1 : Bool), v1 = false → Steps p.tables e below (s₁.setTop (mkF m 22 #[.val (.int p0), .val (.int (p0 ||| (32 : Int32))), .unset, .unset, .unset] [(.int (b2i v1))])) t := fun v1 hv1 => k v1 (hv1.trans (if_pos hc5).symm)
        exact nd3 k
      · refine XS.icmpNo X0.here hx rfl (hb hby d3_14) rfl (flt hc5).2.2.1 ?_
        have k : ∀ (v1 : Bool), v1 = true → Steps p.tables e below (s₁.setTop (mkF m 22 #[.val (.int p0), .val (.int (p0 ||| (32 : Int32))), .unset, .unset, .unset] [(.int (b2i v1))])) t := fun v1 hv1 => k v1 (hv1.trans (if_neg hc5).symm)
        show Steps p.tables e below (s₁.setTop (mkF m 17 #[.val (.int p0), .val (.int (p0 ||| (32 : Int32))), .unset, .unset, .unset] [])) _
        refine XS.iconst X0.here hx rfl (hb hby d3_17) ?_
        show Steps p.tables e below (s₁.setTop (mkF m 18 #[.val (.int p0), .val (.int (p0 ||| (32 : Int32))), .unset, .unset, .unset] [(.int (1 : Int32))])) _
        refine XS.goto X0.here hx rfl (pc0 := 18) (pc' := 22) rfl (hb hby d3_18) (by decide) (by decide) ?_
        exact k true rfl
  have pre6 : ∀ t, Steps p.tables e below (s₁.setTop (mkF m 29 #[.val (.int p0), .val (.int (p0 ||| (32 : Int32))), .val (.int (b2i (if (p0 ||| (32 : Int32)) < (97 : Int32) then false else (if (122 : Int32) < (p0 ||| (32 : Int32)) then false else true)))), .val (.int (p0 ^^^ (48 : Int32))), .unset] [(.int (p0 ^^^ (48 : Int32)))])) t → Steps p.tables e below (s₁.setTop (entryFrame m #[(.int p0)] 5)) t := by
    intro t k
    refine pre2 t ?_
    show Steps p.tables e below (s₁.setTop (mkF m 22 #[.val (.int p0), .val (.int (p0 ||| (32 : Int32))), .unset, .unset, .unset] [(.int (b2i (if (p0 ||| (32 : Int32)) < (97 : Int32) then false else (if (122 : Int32) < (p0 ||| (32 : Int32)) then false else true))))])) _
    refine XS.istoreN X0.here hx rfl (hb hby d3_22) rfl (l' := #[.val (.int p0), .val (.int (p0 ||| (32 : Int32))), .val (.int (b2i (if (p0 ||| (32 : Int32)) < (97 : Int32) then false else (if (122 : Int32) < (p0 ||| (32 : Int32)) then false else true)))), .unset, .unset]) rfl ?_
    show Steps p.tables e below (s₁.setTop (mkF m 23 #[.val (.int p0), .val (.int (p0 ||| (32 : Int32))), .val (.int (b2i (if (p0 ||| (32 : Int32)) < (97 : Int32) then false else (if (122 : Int32) < (p0 ||| (32 : Int32)) then false else true)))), .unset, .unset] [])) _
    refine XS.iloadN X0.here hx rfl (hb hby d3_23) rfl ?_
    show Steps p.tables e below (s₁.setTop (mkF m 24 #[.val (.int p0), .val (.int (p0 ||| (32 : Int32))), .val (.int (b2i (if (p0 ||| (32 : Int32)) < (97 : Int32) then false else (if (122 : Int32) < (p0 ||| (32 : Int32)) then false else true)))), .unset, .unset] [(.int p0)])) _
    refine XS.bipush X0.here hx rfl (hb hby d3_24) ?_
    show Steps p.tables e below (s₁.setTop (mkF m 26 #[.val (.int p0), .val (.int (p0 ||| (32 : Int32))), .val (.int (b2i (if (p0 ||| (32 : Int32)) < (97 : Int32) then false else (if (122 : Int32) < (p0 ||| (32 : Int32)) then false else true)))), .unset, .unset] [(.int (48 : Int32)), (.int p0)])) _
    refine XS.ixor X0.here hx rfl (hb hby d3_26) rfl ?_
    show Steps p.tables e below (s₁.setTop (mkF m 27 #[.val (.int p0), .val (.int (p0 ||| (32 : Int32))), .val (.int (b2i (if (p0 ||| (32 : Int32)) < (97 : Int32) then false else (if (122 : Int32) < (p0 ||| (32 : Int32)) then false else true)))), .unset, .unset] [(.int (p0 ^^^ (48 : Int32)))])) _
    refine XS.istoreN X0.here hx rfl (hb hby d3_27) rfl (l' := #[.val (.int p0), .val (.int (p0 ||| (32 : Int32))), .val (.int (b2i (if (p0 ||| (32 : Int32)) < (97 : Int32) then false else (if (122 : Int32) < (p0 ||| (32 : Int32)) then false else true)))), .val (.int (p0 ^^^ (48 : Int32))), .unset]) rfl ?_
    show Steps p.tables e below (s₁.setTop (mkF m 28 #[.val (.int p0), .val (.int (p0 ||| (32 : Int32))), .val (.int (b2i (if (p0 ||| (32 : Int32)) < (97 : Int32) then false else (if (122 : Int32) < (p0 ||| (32 : Int32)) then false else true)))), .val (.int (p0 ^^^ (48 : Int32))), .unset] [])) _
    refine XS.iloadN X0.here hx rfl (hb hby d3_28) rfl ?_
    exact k
  have pre7 : ∀ t, Steps p.tables e below (s₁.setTop (mkF m 43 #[.val (.int p0), .val (.int (p0 ||| (32 : Int32))), .val (.int (b2i (if (p0 ||| (32 : Int32)) < (97 : Int32) then false else (if (122 : Int32) < (p0 ||| (32 : Int32)) then false else true)))), .val (.int (p0 ^^^ (48 : Int32))), .unset] [(.int (b2i (if (p0 ^^^ (48 : Int32)) < (0 : Int32) then false else (if (9 : Int32) < (p0 ^^^ (48 : Int32)) then false else true))))])) t → Steps p.tables e below (s₁.setTop (entryFrame m #[(.int p0)] 5)) t := by
    intro t k
    refine pre6 t ?_
    have k : ∀ (v1 : Bool), v1 = (if (p0 ^^^ (48 : Int32)) < (0 : Int32) then false else (if (9 : Int32) < (p0 ^^^ (48 : Int32)) then false else true)) → Steps p.tables e below (s₁.setTop (mkF m 43 #[.val (.int p0), .val (.int (p0 ||| (32 : Int32))), .val (.int (b2i (if (p0 ||| (32 : Int32)) < (97 : Int32) then false else (if (122 : Int32) < (p0 ||| (32 : Int32)) then false else true)))), .val (.int (p0 ^^^ (48 : Int32))), .unset] [(.int (b2i v1))])) t := fun v1 hv1 => by subst hv1; exact k
    have nd8 : (∀ (v1 : Bool), v1 = false → Steps p.tables e below (s₁.setTop (mkF m 43 #[.val (.int p0), .val (.int (p0 ||| (32 : Int32))), .val (.int (b2i (if (p0 ||| (32 : Int32)) < (97 : Int32) then false else (if (122 : Int32) < (p0 ||| (32 : Int32)) then false else true)))), .val (.int (p0 ^^^ (48 : Int32))), .unset] [(.int (b2i v1))])) t) → Steps p.tables e below (s₁.setTop (mkF m 42 #[.val (.int p0), .val (.int (p0 ||| (32 : Int32))), .val (.int (b2i (if (p0 ||| (32 : Int32)) < (97 : Int32) then false else (if (122 : Int32) < (p0 ||| (32 : Int32)) then false else true)))), .val (.int (p0 ^^^ (48 : Int32))), .unset] [])) t := by
      intro k
      show Steps p.tables e below (s₁.setTop (mkF m 42 #[.val (.int p0), .val (.int (p0 ||| (32 : Int32))), .val (.int (b2i (if (p0 ||| (32 : Int32)) < (97 : Int32) then false else (if (122 : Int32) < (p0 ||| (32 : Int32)) then false else true)))), .val (.int (p0 ^^^ (48 : Int32))), .unset] [])) _
      refine XS.iconst X0.here hx rfl (hb hby d3_42) ?_
      exact k false rfl
    show Steps p.tables e below (s₁.setTop (mkF m 29 #[.val (.int p0), .val (.int (p0 ||| (32 : Int32))), .val (.int (b2i (if (p0 ||| (32 : Int32)) < (97 : Int32) then false else (if (122 : Int32) < (p0 ||| (32 : Int32)) then false else true)))), .val (.int (p0 ^^^ (48 : Int32))), .unset] [(.int (p0 ^^^ (48 : Int32)))])) _
    by_cases hc9 : (p0 ^^^ (48 : Int32)) < (0 : Int32)
    · refine XS.ifYes X0.here hx rfl (pc0 := 29) (pc' := 42) rfl (hb hby d3_29) rfl ((if0 _ _).trans (tlt hc9).1) (by decide) (by decide) ?_
      have k : ∀ (v1 : Bool), v1 = false → Steps p.tables e below (s₁.setTop (mkF m 43 #[.val (.int p0), .val (.int (p0 ||| (32 : Int32))), .val (.int (b2i (if (p0 ||| (32 : Int32)) < (97 : Int32) then false else (if (122 : Int32) < (p0 ||| (32 : Int32)) then false else true)))), .val (.int (p0 ^^^ (48 : Int32))), .unset] [(.int (b2i v1))])) t := fun v1 hv1 => k v1 (hv1.trans (if_pos hc9).symm)
      exact nd8 k
    · refine XS.ifNo X0.here hx rfl (hb hby d3_29) rfl ((if0 _ _).trans (flt hc9).1) ?_
      have k : ∀ (v1 : Bool), v1 = (if (9 : Int32) < (p0 ^^^ (48 : Int32)) then false else true) → Steps p.tables e below (s₁.setTop (mkF m 43 #[.val (.int p0), .val (.int (p0 ||| (32 : Int32))), .val (.int (b2i (if (p0 ||| (32 : Int32)) < (97 : Int32) then false else (if (122 : Int32) < (p0 ||| (32 : Int32)) then false else true)))), .val (.int (p0 ^^^ (48 : Int32))), .unset] [(.int (b2i v1))])) t := fun v1 hv1 => k v1 (hv1.trans (if_neg hc9).symm)
      show Steps p.tables e below (s₁.setTop (mkF m 32 #[.val (.int p0), .val (.int (p0 ||| (32 : Int32))), .val (.int (b2i (if (p0 ||| (32 : Int32)) < (97 : Int32) then false else (if (122 : Int32) < (p0 ||| (32 : Int32)) then false else true)))), .val (.int (p0 ^^^ (48 : Int32))), .unset] [])) _
      refine XS.iloadN X0.here hx rfl (hb hby d3_32) rfl ?_
      show Steps p.tables e below (s₁.setTop (mkF m 33 #[.val (.int p0), .val (.int (p0 ||| (32 : Int32))), .val (.int (b2i (if (p0 ||| (32 : Int32)) < (97 : Int32) then false else (if (122 : Int32) < (p0 ||| (32 : Int32)) then false else true)))), .val (.int (p0 ^^^ (48 : Int32))), .unset] [(.int (p0 ^^^ (48 : Int32)))])) _
      refine XS.bipush X0.here hx rfl (hb hby d3_33) ?_
      show Steps p.tables e below (s₁.setTop (mkF m 35 #[.val (.int p0), .val (.int (p0 ||| (32 : Int32))), .val (.int (b2i (if (p0 ||| (32 : Int32)) < (97 : Int32) then false else (if (122 : Int32) < (p0 ||| (32 : Int32)) then false else true)))), .val (.int (p0 ^^^ (48 : Int32))), .unset] [(.int (9 : Int32)), (.int (p0 ^^^ (48 : Int32)))])) _
      by_cases hc10 : (9 : Int32) < (p0 ^^^ (48 : Int32))
      · refine XS.icmpYes X0.here hx rfl (pc0 := 35) (pc' := 42) rfl (hb hby d3_35) rfl (tlt hc10).2.2.1 (by decide) (by decide) ?_
        have k : ∀ (v1 : Bool), v1 = false → Steps p.tables e below (s₁.setTop (mkF m 43 #[.val (.int p0), .val (.int (p0 ||| (32 : Int32))), .val (.int (b2i (if (p0 ||| (32 : Int32)) < (97 : Int32) then false else (if (122 : Int32) < (p0 ||| (32 : Int32)) then false else true)))), .val (.int (p0 ^^^ (48 : Int32))), .unset] [(.int (b2i v1))])) t := fun v1 hv1 => k v1 (hv1.trans (if_pos hc10).symm)
        exact nd8 k
      · refine XS.icmpNo X0.here hx rfl (hb hby d3_35) rfl (flt hc10).2.2.1 ?_
        have k : ∀ (v1 : Bool), v1 = true → Steps p.tables e below (s₁.setTop (mkF m 43 #[.val (.int p0), .val (.int (p0 ||| (32 : Int32))), .val (.int (b2i (if (p0 ||| (32 : Int32)) < (97 : Int32) then false else (if (122 : Int32) < (p0 ||| (32 : Int32)) then false else true)))), .val (.int (p0 ^^^ (48 : Int32))), .unset] [(.int (b2i v1))])) t := fun v1 hv1 => k v1 (hv1.trans (if_neg hc10).symm)
        show Steps p.tables e below (s₁.setTop (mkF m 38 #[.val (.int p0), .val (.int (p0 ||| (32 : Int32))), .val (.int (b2i (if (p0 ||| (32 : Int32)) < (97 : Int32) then false else (if (122 : Int32) < (p0 ||| (32 : Int32)) then false else true)))), .val (.int (p0 ^^^ (48 : Int32))), .unset] [])) _
        refine XS.iconst X0.here hx rfl (hb hby d3_38) ?_
        show Steps p.tables e below (s₁.setTop (mkF m 39 #[.val (.int p0), .val (.int (p0 ||| (32 : Int32))), .val (.int (b2i (if (p0 ||| (32 : Int32)) < (97 : Int32) then false else (if (122 : Int32) < (p0 ||| (32 : Int32)) then false else true)))), .val (.int (p0 ^^^ (48 : Int32))), .unset] [(.int (1 : Int32))])) _
        refine XS.goto X0.here hx rfl (pc0 := 39) (pc' := 43) rfl (hb hby d3_39) (by decide) (by decide) ?_
        exact k true rfl
  have pre11 : ∀ t, Steps p.tables e below (s₁.setTop (mkF m 46 #[.val (.int p0), .val (.int (p0 ||| (32 : Int32))), .val (.int (b2i (if (p0 ||| (32 : Int32)) < (97 : Int32) then false else (if (122 : Int32) < (p0 ||| (32 : Int32)) then false else true)))), .val (.int (p0 ^^^ (48 : Int32))), .val (.int (b2i (if (p0 ^^^ (48 : Int32)) < (0 : Int32) then false else (if (9 : Int32) < (p0 ^^^ (48 : Int32)) then false else true))))] [(.int (b2i (if (p0 ||| (32 : Int32)) < (97 : Int32) then false else (if (122 : Int32) < (p0 ||| (32 : Int32)) then false else true))))])) t → Steps p.tables e below (s₁.setTop (entryFrame m #[(.int p0)] 5)) t := by
    intro t k
    refine pre7 t ?_
    show Steps p.tables e below (s₁.setTop (mkF m 43 #[.val (.int p0), .val (.int (p0 ||| (32 : Int32))), .val (.int (b2i (if (p0 ||| (32 : Int32)) < (97 : Int32) then false else (if (122 : Int32) < (p0 ||| (32 : Int32)) then false else true)))), .val (.int (p0 ^^^ (48 : Int32))), .unset] [(.int (b2i (if (p0 ^^^ (48 : Int32)) < (0 : Int32) then false else (if (9 : Int32) < (p0 ^^^ (48 : Int32)) then false else true))))])) _
    refine XS.istore X0.here hx rfl (hb hby d3_43) rfl (l' := #[.val (.int p0), .val (.int (p0 ||| (32 : Int32))), .val (.int (b2i (if (p0 ||| (32 : Int32)) < (97 : Int32) then false else (if (122 : Int32) < (p0 ||| (32 : Int32)) then false else true)))), .val (.int (p0 ^^^ (48 : Int32))), .val (.int (b2i (if (p0 ^^^ (48 : Int32)) < (0 : Int32) then false else (if (9 : Int32) < (p0 ^^^ (48 : Int32)) then false else true))))]) rfl ?_
    show Steps p.tables e below (s₁.setTop (mkF m 45 #[.val (.int p0), .val (.int (p0 ||| (32 : Int32))), .val (.int (b2i (if (p0 ||| (32 : Int32)) < (97 : Int32) then false else (if (122 : Int32) < (p0 ||| (32 : Int32)) then false else true)))), .val (.int (p0 ^^^ (48 : Int32))), .val (.int (b2i (if (p0 ^^^ (48 : Int32)) < (0 : Int32) then false else (if (9 : Int32) < (p0 ^^^ (48 : Int32)) then false else true))))] [])) _
    refine XS.iloadN X0.here hx rfl (hb hby d3_45) rfl ?_
    exact k
  have pre12 : ∀ t, Steps p.tables e below (s₁.setTop (mkF m 59 #[.val (.int p0), .val (.int (p0 ||| (32 : Int32))), .val (.int (b2i (if (p0 ||| (32 : Int32)) < (97 : Int32) then false else (if (122 : Int32) < (p0 ||| (32 : Int32)) then false else true)))), .val (.int (p0 ^^^ (48 : Int32))), .val (.int (b2i (if (p0 ^^^ (48 : Int32)) < (0 : Int32) then false else (if (9 : Int32) < (p0 ^^^ (48 : Int32)) then false else true))))] [(.int (b2i (if (if (p0 ||| (32 : Int32)) < (97 : Int32) then false else (if (122 : Int32) < (p0 ||| (32 : Int32)) then false else true)) = true then true else (if (if (p0 ^^^ (48 : Int32)) < (0 : Int32) then false else (if (9 : Int32) < (p0 ^^^ (48 : Int32)) then false else true)) = true then true else false))))])) t → Steps p.tables e below (s₁.setTop (entryFrame m #[(.int p0)] 5)) t := by
    intro t k
    refine pre11 t ?_
    have k : ∀ (v1 : Bool), v1 = (if (if (p0 ||| (32 : Int32)) < (97 : Int32) then false else (if (122 : Int32) < (p0 ||| (32 : Int32)) then false else true)) = true then true else (if (if (p0 ^^^ (48 : Int32)) < (0 : Int32) then false else (if (9 : Int32) < (p0 ^^^ (48 : Int32)) then false else true)) = true then true else false)) → Steps p.tables e below (s₁.setTop (mkF m 59 #[.val (.int p0), .val (.int (p0 ||| (32 : Int32))), .val (.int (b2i (if (p0 ||| (32 : Int32)) < (97 : Int32) then false else (if (122 : Int32) < (p0 ||| (32 : Int32)) then false else true)))), .val (.int (p0 ^^^ (48 : Int32))), .val (.int (b2i (if (p0 ^^^ (48 : Int32)) < (0 : Int32) then false else (if (9 : Int32) < (p0 ^^^ (48 : Int32)) then false else true))))] [(.int (b2i v1))])) t := fun v1 hv1 => by subst hv1; exact k
    have nd13 : (∀ (v1 : Bool), v1 = true → Steps p.tables e below (s₁.setTop (mkF m 59 #[.val (.int p0), .val (.int (p0 ||| (32 : Int32))), .val (.int (b2i (if (p0 ||| (32 : Int32)) < (97 : Int32) then false else (if (122 : Int32) < (p0 ||| (32 : Int32)) then false else true)))), .val (.int (p0 ^^^ (48 : Int32))), .val (.int (b2i (if (p0 ^^^ (48 : Int32)) < (0 : Int32) then false else (if (9 : Int32) < (p0 ^^^ (48 : Int32)) then false else true))))] [(.int (b2i v1))])) t) → Steps p.tables e below (s₁.setTop (mkF m 54 #[.val (.int p0), .val (.int (p0 ||| (32 : Int32))), .val (.int (b2i (if (p0 ||| (32 : Int32)) < (97 : Int32) then false else (if (122 : Int32) < (p0 ||| (32 : Int32)) then false else true)))), .val (.int (p0 ^^^ (48 : Int32))), .val (.int (b2i (if (p0 ^^^ (48 : Int32)) < (0 : Int32) then false else (if (9 : Int32) < (p0 ^^^ (48 : Int32)) then false else true))))] [])) t := by
      intro k
      show Steps p.tables e below (s₁.setTop (mkF m 54 #[.val (.int p0), .val (.int (p0 ||| (32 : Int32))), .val (.int (b2i (if (p0 ||| (32 : Int32)) < (97 : Int32) then false else (if (122 : Int32) < (p0 ||| (32 : Int32)) then false else true)))), .val (.int (p0 ^^^ (48 : Int32))), .val (.int (b2i (if (p0 ^^^ (48 : Int32)) < (0 : Int32) then false else (if (9 : Int32) < (p0 ^^^ (48 : Int32)) then false else true))))] [])) _
      refine XS.iconst X0.here hx rfl (hb hby d3_54) ?_
      show Steps p.tables e below (s₁.setTop (mkF m 55 #[.val (.int p0), .val (.int (p0 ||| (32 : Int32))), .val (.int (b2i (if (p0 ||| (32 : Int32)) < (97 : Int32) then false else (if (122 : Int32) < (p0 ||| (32 : Int32)) then false else true)))), .val (.int (p0 ^^^ (48 : Int32))), .val (.int (b2i (if (p0 ^^^ (48 : Int32)) < (0 : Int32) then false else (if (9 : Int32) < (p0 ^^^ (48 : Int32)) then false else true))))] [(.int (1 : Int32))])) _
      refine XS.goto X0.here hx rfl (pc0 := 55) (pc' := 59) rfl (hb hby d3_55) (by decide) (by decide) ?_
      exact k true rfl
    show Steps p.tables e below (s₁.setTop (mkF m 46 #[.val (.int p0), .val (.int (p0 ||| (32 : Int32))), .val (.int (b2i (if (p0 ||| (32 : Int32)) < (97 : Int32) then false else (if (122 : Int32) < (p0 ||| (32 : Int32)) then false else true)))), .val (.int (p0 ^^^ (48 : Int32))), .val (.int (b2i (if (p0 ^^^ (48 : Int32)) < (0 : Int32) then false else (if (9 : Int32) < (p0 ^^^ (48 : Int32)) then false else true))))] [(.int (b2i (if (p0 ||| (32 : Int32)) < (97 : Int32) then false else (if (122 : Int32) < (p0 ||| (32 : Int32)) then false else true))))])) _
    by_cases hc14 : (if (p0 ||| (32 : Int32)) < (97 : Int32) then false else (if (122 : Int32) < (p0 ||| (32 : Int32)) then false else true)) = true
    · refine XS.ifYes X0.here hx rfl (pc0 := 46) (pc' := 54) rfl (hb hby d3_46) rfl ((if0 _ _).trans (feq (b2i_ne hc14)).2) (by decide) (by decide) ?_
      have k : ∀ (v1 : Bool), v1 = true → Steps p.tables e below (s₁.setTop (mkF m 59 #[.val (.int p0), .val (.int (p0 ||| (32 : Int32))), .val (.int (b2i (if (p0 ||| (32 : Int32)) < (97 : Int32) then false else (if (122 : Int32) < (p0 ||| (32 : Int32)) then false else true)))), .val (.int (p0 ^^^ (48 : Int32))), .val (.int (b2i (if (p0 ^^^ (48 : Int32)) < (0 : Int32) then false else (if (9 : Int32) < (p0 ^^^ (48 : Int32)) then false else true))))] [(.int (b2i v1))])) t := fun v1 hv1 => k v1 (hv1.trans (if_pos hc14).symm)
      exact nd13 k
    · refine XS.ifNo X0.here hx rfl (hb hby d3_46) rfl ((if0 _ _).trans (teq (b2i_eq hc14)).2) ?_
      have k : ∀ (v1 : Bool), v1 = (if (if (p0 ^^^ (48 : Int32)) < (0 : Int32) then false else (if (9 : Int32) < (p0 ^^^ (48 : Int32)) then false else true)) = true then true else false) → Steps p.tables e below (s₁.setTop (mkF m 59 #[.val (.int p0), .val (.int (p0 ||| (32 : Int32))), .val (.int (b2i (if (p0 ||| (32 : Int32)) < (97 : Int32) then false else (if (122 : Int32) < (p0 ||| (32 : Int32)) then false else true)))), .val (.int (p0 ^^^ (48 : Int32))), .val (.int (b2i (if (p0 ^^^ (48 : Int32)) < (0 : Int32) then false else (if (9 : Int32) < (p0 ^^^ (48 : Int32)) then false else true))))] [(.int (b2i v1))])) t := fun v1 hv1 => k v1 (hv1.trans (if_neg hc14).symm)
      show Steps p.tables e below (s₁.setTop (mkF m 49 #[.val (.int p0), .val (.int (p0 ||| (32 : Int32))), .val (.int (b2i (if (p0 ||| (32 : Int32)) < (97 : Int32) then false else (if (122 : Int32) < (p0 ||| (32 : Int32)) then false else true)))), .val (.int (p0 ^^^ (48 : Int32))), .val (.int (b2i (if (p0 ^^^ (48 : Int32)) < (0 : Int32) then false else (if (9 : Int32) < (p0 ^^^ (48 : Int32)) then false else true))))] [])) _
      refine XS.iload X0.here hx rfl (hb hby d3_49) rfl ?_
      show Steps p.tables e below (s₁.setTop (mkF m 51 #[.val (.int p0), .val (.int (p0 ||| (32 : Int32))), .val (.int (b2i (if (p0 ||| (32 : Int32)) < (97 : Int32) then false else (if (122 : Int32) < (p0 ||| (32 : Int32)) then false else true)))), .val (.int (p0 ^^^ (48 : Int32))), .val (.int (b2i (if (p0 ^^^ (48 : Int32)) < (0 : Int32) then false else (if (9 : Int32) < (p0 ^^^ (48 : Int32)) then false else true))))] [(.int (b2i (if (p0 ^^^ (48 : Int32)) < (0 : Int32) then false else (if (9 : Int32) < (p0 ^^^ (48 : Int32)) then false else true))))])) _
      by_cases hc15 : (if (p0 ^^^ (48 : Int32)) < (0 : Int32) then false else (if (9 : Int32) < (p0 ^^^ (48 : Int32)) then false else true)) = true
      · refine XS.ifNo X0.here hx rfl (hb hby d3_51) rfl ((if0 _ _).trans (feq (b2i_ne hc15)).1) ?_
        have k : ∀ (v1 : Bool), v1 = true → Steps p.tables e below (s₁.setTop (mkF m 59 #[.val (.int p0), .val (.int (p0 ||| (32 : Int32))), .val (.int (b2i (if (p0 ||| (32 : Int32)) < (97 : Int32) then false else (if (122 : Int32) < (p0 ||| (32 : Int32)) then false else true)))), .val (.int (p0 ^^^ (48 : Int32))), .val (.int (b2i (if (p0 ^^^ (48 : Int32)) < (0 : Int32) then false else (if (9 : Int32) < (p0 ^^^ (48 : Int32)) then false else true))))] [(.int (b2i v1))])) t := fun v1 hv1 => k v1 (hv1.trans (if_pos hc15).symm)
        exact nd13 k
      · refine XS.ifYes X0.here hx rfl (pc0 := 51) (pc' := 58) rfl (hb hby d3_51) rfl ((if0 _ _).trans (teq (b2i_eq hc15)).1) (by decide) (by decide) ?_
        have k : ∀ (v1 : Bool), v1 = false → Steps p.tables e below (s₁.setTop (mkF m 59 #[.val (.int p0), .val (.int (p0 ||| (32 : Int32))), .val (.int (b2i (if (p0 ||| (32 : Int32)) < (97 : Int32) then false else (if (122 : Int32) < (p0 ||| (32 : Int32)) then false else true)))), .val (.int (p0 ^^^ (48 : Int32))), .val (.int (b2i (if (p0 ^^^ (48 : Int32)) < (0 : Int32) then false else (if (9 : Int32) < (p0 ^^^ (48 : Int32)) then false else true))))] [(.int (b2i v1))])) t := fun v1 hv1 => k v1 (hv1.trans (if_neg hc15).symm)
        show Steps p.tables e below (s₁.setTop (mkF m 58 #[.val (.int p0), .val (.int (p0 ||| (32 : Int32))), .val (.int (b2i (if (p0 ||| (32 : Int32)) < (97 : Int32) then false else (if (122 : Int32) < (p0 ||| (32 : Int32)) then false else true)))), .val (.int (p0 ^^^ (48 : Int32))), .val (.int (b2i (if (p0 ^^^ (48 : Int32)) < (0 : Int32) then false else (if (9 : Int32) < (p0 ^^^ (48 : Int32)) then false else true))))] [])) _
        refine XS.iconst X0.here hx rfl (hb hby d3_58) ?_
        exact k false rfl
  obtain ⟨fs, hr, hrun, hended, hW, hsame⟩ := X0.leave (v := some (.int (b2i (F3 p0)))) (fun h => by rw [Bd.returns] at h; cases h)
  refine ⟨_, _, pre12 _ ?_, hrun, hended, _, _, rfl, ?_, ⟨_, rfl⟩, hW, hsame.mono (by decide) (by decide)⟩
  · show Steps p.tables e below (s₁.setTop (mkF m 59 #[.val (.int p0), .val (.int (p0 ||| (32 : Int32))), .val (.int (b2i (if (p0 ||| (32 : Int32)) < (97 : Int32) then false else (if (122 : Int32) < (p0 ||| (32 : Int32)) then false else true)))), .val (.int (p0 ^^^ (48 : Int32))), .val (.int (b2i (if (p0 ^^^ (48 : Int32)) < (0 : Int32) then false else (if (9 : Int32) < (p0 ^^^ (48 : Int32)) then false else true))))] [(.int (b2i (if (if (p0 ||| (32 : Int32)) < (97 : Int32) then false else (if (122 : Int32) < (p0 ||| (32 : Int32)) then false else true)) = true then true else (if (if (p0 ^^^ (48 : Int32)) < (0 : Int32) then false else (if (9 : Int32) < (p0 ^^^ (48 : Int32)) then false else true)) = true then true else false))))])) _
    exact retN X0 hx (t := .boolean) Bd.returns (by simp) (hb hby d3_59) (by rw [nar_b2i]; exact hr)
  · show Q3 Z p0 h0 n0 _ s₁.heap _
    rw [e0]
    exact ⟨rfl, N0, rfl⟩
theorem d1_0 : decode method_3_code 0 = .ok (.iload_n 0, 1) := by decide +kernel
theorem d1_1 : decode method_3_code 1 = .ok (.invokestatic 7, 3) := by decide +kernel
theorem d1_4 : decode method_3_code 4 = .ok (.iload_n 0, 1) := by decide +kernel
theorem d1_5 : decode method_3_code 5 = .ok (.invokestatic 13, 3) := by decide +kernel
theorem d1_8 : decode method_3_code 8 = .ok (.if_icmp .ne 7, 3) := by decide +kernel
theorem d1_11 : decode method_3_code 11 = .ok (.iconst 1, 1) := by decide +kernel
theorem d1_12 : decode method_3_code 12 = .ok (.goto 4, 3) := by decide +kernel
theorem d1_15 : decode method_3_code 15 = .ok (.iconst 0, 1) := by decide +kernel
theorem d1_16 : decode method_3_code 16 = .ok (.ireturn, 1) := by decide +kernel
theorem pd_0 : parseMethodDescriptor "(I)Z" = some ⟨[.int], some .boolean⟩ := by decide +kernel
theorem ef_1 (m : MethodId) (x0 : Int32) : entryFrame m #[(.int x0)] 1 = mkF m 0 #[.val (.int x0)] [] := by first | (simp [entryFrame, mkF, argsToLocals, Value.category]; done) | rfl
def F1 (p0 : Int32) : Bool := (if (b2i (F2 p0)) = (b2i (F3 p0)) then true else false)
def Q1 (Z : State) (p0 : Int32) (h0 : Heap) (n0 : Nat) (v : Option Value) (h : Heap) (L : List Loc) : Prop := v = some (.int (b2i (F1 p0))) ∧ Fr n0 L ∧ h = h0
set_option maxRecDepth 65536 in
set_option maxHeartbeats 40000000 in
theorem rm1 (l : Launch) (Z : State) (a0 : Array Value) (hw : ∀ d ∈ tables_1, d.before a0 Z = true) (ws : List Jvm.Cond) (p0 : Int32) (h0 : Heap) (n0 : Nat) (Z0 : n0 ≤ h0.size) :
    MetFree l (⟨"com/example/merkki/merkki/MarkupReaderIsAsciiLetterOrDigitPinLaw", "agrees", "(I)Z"⟩ : MethodName) (head1 (Jvm.Cond.code (⟨"com/example/merkki/merkki/MarkupReaderIsAsciiLetterOrDigitPinLaw", "agrees", "(I)Z"⟩ : MethodName) method_3_code 1 (some .boolean) :: ws) ({ frames := 1, cells := 0, slots := 0, locals := 17 } : Room)) (fun a U => a = #[(.int p0)] ∧ Z.Warmed39 U.vm ∧ U.heap = h0) (fun _ _ _ _ _ => True) (fun _ U o U' => ∃ v L, o = .returned v ∧ Q1 Z p0 h0 n0 v U'.heap L ∧ FrameEnd U o U' L ({ frames := 1, cells := 0, slots := 0, locals := 17 } : Room).cells ({ frames := 1, cells := 0, slots := 0, locals := 17 } : Room).slots) := by
  refine MetFree.of_bodySF (plainFor_of_name pn_3) hisR ?_
  intro p e s m args below meth c s₁ Bd hml0 hP hK
  obtain ⟨rfl, hZ, hh⟩ := hP
  have hx := Bd.exec
  have hby := Bd.bytes
  have hml : c.maxLocals = 1 := hml0
  have hown : s.vm.findClass "com/example/merkki/merkki/MarkupReaderIsAsciiLetterOrDigitPinLaw" = some m.cls := findClass_of_methodNamed Bd.named
  have hnm := (name_of_methodNamed Bd.named Bd.method).1
  have X0 : Stand p l e ({ frames := 1, cells := 0, slots := 0, locals := 17 } : Room) s m #[(.int p0)] below meth c s₁ [] 0 0 := Stand.of_body Bd
  have e0 : s₁.heap = h0 := by rw [← hh, Bd.state]; rfl
  have N0 := Fr.nil n0
  have pre0 : ∀ t, Steps p.tables e below (s₁.setTop (mkF m 0 #[.val (.int p0)] [])) t → Steps p.tables e below (s₁.setTop (entryFrame m #[(.int p0)] 1)) t := fun t k => castTop (ef_1 m p0) k
  obtain ⟨_, _, ⟨T1, L1, k1, n1⟩, -, X1, ⟨Lc1, hQ1, l1, y1, z1⟩, st1⟩ := Jvm.LawKit.callS X0 hx (y := (⟨"com/example/merkki/merkki/MarkupReader", "isAsciiLetterOrDigit", "(I)Z"⟩ : MethodName)) hown (mvT hZ (hw _ (List.mem_of_getElem? (i := 4) rfl))) (mvT hZ (hw _ (List.mem_of_getElem? (i := 5) rfl))) (mvT hZ (hw _ (List.mem_of_getElem? (i := 6) rfl))) (mvT hZ (hw _ (List.mem_of_getElem? (i := 7) rfl))) (by decide) (backOf (W := 0) (rm2 l Z a0 hw [] p0 h0 n0 Z0) hZ (hw _ (List.mem_of_getElem? (i := 7) rfl)) (hw _ (List.mem_of_getElem? (i := 6) rfl)) (by decide) (by decide)) (g := (mkF m 1 #[.val (.int p0)] [(.int p0)])) rfl (by rw [hml]; rfl) (argsL := [(.int p0)]) (rest := []) (lenOf pd_0 rfl) rfl (by show 2 * 0 + _ ≤ _; exact Nat.le_of_eq rfl) (hb hby d1_1) (fun _ _ => ⟨rfl, e0, (by decide : 0 + 0 ≤ _), (by decide : 0 + 0 ≤ _)⟩)
  dsimp only [Pt.U, Pt.locs, Pt.cells, Pt.slots] at X1 l1 y1 z1 st1 hQ1
  subst l1 y1 z1
  obtain ⟨rfl, N1q, e1⟩ := hQ1
  have N1 := Fr.app N0 N1q
  obtain ⟨_, _, ⟨T2, L2, k2, n2⟩, -, X2, ⟨Lc2, hQ2, l2, y2, z2⟩, st2⟩ := Jvm.LawKit.callS X1 hx (y := (⟨"com/example/merkki/merkki/MarkupReaderIsAsciiLetterOrDigitPinLaw", "reference", "(I)Z"⟩ : MethodName)) hown (mvT hZ (hw _ (List.mem_of_getElem? (i := 8) rfl))) (mvT hZ (hw _ (List.mem_of_getElem? (i := 9) rfl))) (mvT hZ (hw _ (List.mem_of_getElem? (i := 2) rfl))) (mvT hZ (hw _ (List.mem_of_getElem? (i := 10) rfl))) (by decide) (backOf (W := 1) (rm3 l Z a0 hw [] p0 h0 n0 Z0) hZ (hw _ (List.mem_of_getElem? (i := 10) rfl)) (hw _ (List.mem_of_getElem? (i := 2) rfl)) (by decide) (by decide)) (g := (mkF m 5 #[.val (.int p0)] [(.int p0), (.int (b2i (F2 p0)))])) rfl (by rw [hml]; rfl) (argsL := [(.int p0)]) (rest := [(.int (b2i (F2 p0)))]) (lenOf pd_0 rfl) rfl (by show 2 * 0 + _ ≤ _; exact Nat.le_of_eq rfl) (hb hby d1_5) (fun _ _ => ⟨rfl, e1, (by decide : 0 + 0 ≤ _), (by decide : 0 + 0 ≤ _)⟩)
  dsimp only [Pt.U, Pt.locs, Pt.cells, Pt.slots] at X2 l2 y2 z2 st2 hQ2
  subst l2 y2 z2
  obtain ⟨rfl, N2q, e2⟩ := hQ2
  have N2 := Fr.app N1 N2q
  have pre3 : ∀ t, Steps p.tables e below (T2.setTop (mkF m 8 #[.val (.int p0)] [(.int (b2i (F3 p0))), (.int (b2i (F2 p0)))])) t → Steps p.tables e below (s₁.setTop (entryFrame m #[(.int p0)] 1)) t := by
    intro t k
    refine pre0 t ?_
    show Steps p.tables e below (s₁.setTop (mkF m 0 #[.val (.int p0)] [])) _
    refine XS.iloadN X0.here hx rfl (hb hby d1_0) rfl ?_
    show Steps p.tables e below (s₁.setTop (mkF m 1 #[.val (.int p0)] [(.int p0)])) _
    refine st1 _ ?_
    show Steps p.tables e below (T1.setTop (mkF m 4 #[.val (.int p0)] [(.int (b2i (F2 p0)))])) _
    refine XS.iloadN X1.here hx rfl (hb hby d1_4) rfl ?_
    show Steps p.tables e below (T1.setTop (mkF m 5 #[.val (.int p0)] [(.int p0), (.int (b2i (F2 p0)))])) _
    refine st2 _ ?_
    exact k
  have pre4 : ∀ t, Steps p.tables e below (T2.setTop (mkF m 16 #[.val (.int p0)] [(.int (b2i (if (b2i (F2 p0)) = (b2i (F3 p0)) then true else false)))])) t → Steps p.tables e below (s₁.setTop (entryFrame m #[(.int p0)] 1)) t := by
    intro t k
    refine pre3 t ?_
    have k : ∀ (v1 : Bool), v1 = (if (b2i (F2 p0)) = (b2i (F3 p0)) then true else false) → Steps p.tables e below (T2.setTop (mkF m 16 #[.val (.int p0)] [(.int (b2i v1))])) t := fun v1 hv1 => by subst hv1; exact k
    show Steps p.tables e below (T2.setTop (mkF m 8 #[.val (.int p0)] [(.int (b2i (F3 p0))), (.int (b2i (F2 p0)))])) _
    by_cases hc5 : (b2i (F2 p0)) = (b2i (F3 p0))
    · refine XS.icmpNo X2.here hx rfl (hb hby d1_8) rfl (teq hc5).2 ?_
      have k : ∀ (v1 : Bool), v1 = true → Steps p.tables e below (T2.setTop (mkF m 16 #[.val (.int p0)] [(.int (b2i v1))])) t := fun v1 hv1 => k v1 (hv1.trans (if_pos hc5).symm)
      show Steps p.tables e below (T2.setTop (mkF m 11 #[.val (.int p0)] [])) _
      refine XS.iconst X2.here hx rfl (hb hby d1_11) ?_
      show Steps p.tables e below (T2.setTop (mkF m 12 #[.val (.int p0)] [(.int (1 : Int32))])) _
      refine XS.goto X2.here hx rfl (pc0 := 12) (pc' := 16) rfl (hb hby d1_12) (by decide) (by decide) ?_
      exact k true rfl
    · refine XS.icmpYes X2.here hx rfl (pc0 := 8) (pc' := 15) rfl (hb hby d1_8) rfl (feq hc5).2 (by decide) (by decide) ?_
      have k : ∀ (v1 : Bool), v1 = false → Steps p.tables e below (T2.setTop (mkF m 16 #[.val (.int p0)] [(.int (b2i v1))])) t := fun v1 hv1 => k v1 (hv1.trans (if_neg hc5).symm)
      show Steps p.tables e below (T2.setTop (mkF m 15 #[.val (.int p0)] [])) _
      refine XS.iconst X2.here hx rfl (hb hby d1_15) ?_
      exact k false rfl
  obtain ⟨fs, hr, hrun, hended, hW, hsame⟩ := X2.leave (v := some (.int (b2i (F1 p0)))) (fun h => by rw [Bd.returns] at h; cases h)
  refine ⟨_, _, pre4 _ ?_, hrun, hended, _, _, rfl, ?_, ⟨_, rfl⟩, hW, hsame.mono (by decide) (by decide)⟩
  · show Steps p.tables e below (T2.setTop (mkF m 16 #[.val (.int p0)] [(.int (b2i (if (b2i (F2 p0)) = (b2i (F3 p0)) then true else false)))])) _
    exact retN X2 hx (t := .boolean) Bd.returns (by simp) (hb hby d1_16) (by rw [nar_b2i]; exact hr)
  · show Q1 Z p0 h0 n0 _ T2.heap _
    rw [e2]
    exact ⟨rfl, N2, rfl⟩
theorem ef_0 (m : MethodId) (x0 : Int32) (x1 : Int32) : entryFrame m #[(.int x0), (.int x1)] maxLocals = mkF m 0 #[.val (.int x0), .val (.int x1), .unset, .unset, .unset] [] := by first | (simp [entryFrame, mkF, argsToLocals, Value.category, maxLocals]; done) | rfl
theorem own_fin (x : Int32) (n : Nat) (h0 : 0 ≤ x.toInt) (h1 : x.toInt < n) : ∃ i : Fin n, x = Int32.ofInt (i.1 : Int) :=
  ⟨⟨x.toInt.toNat, by omega⟩, by
    have e : ((x.toInt.toNat : Nat) : Int) = x.toInt := Int.toNat_of_nonneg h0
    show x = Int32.ofInt ((x.toInt.toNat : Nat) : Int)
    rw [e, Int32.ofInt_toInt]⟩
theorem own_all : ∀ i : Fin 256, F2 (Int32.ofInt (i.1 : Int)) = F3 (Int32.ofInt (i.1 : Int)) := by decide +kernel
theorem own_dig : ∀ i : Fin 10, F2 ((Int32.ofInt (i.1 : Int)) ^^^ 48) = true := by decide +kernel
theorem own_far (c : Int32) (h : c.toInt < 0 ∨ 256 ≤ c.toInt) : F2 c = false := by
  have l1 : (48 : Int32).toInt = 48 := by decide
  have l2 : (57 : Int32).toInt = 57 := by decide
  have l3 : (65 : Int32).toInt = 65 := by decide
  have l4 : (90 : Int32).toInt = 90 := by decide
  have l5 : (97 : Int32).toInt = 97 := by decide
  have l6 : (122 : Int32).toInt = 122 := by decide
  simp only [F2, nd2_12_3, nd2_24_2, Int32.lt_iff_toInt_lt]
  repeat' split
  all_goals first | rfl | (exfalso; omega)
theorem own_eq (c : Int32) : F2 c = F3 c := by
  by_cases h : 0 ≤ c.toInt ∧ c.toInt < 256
  · obtain ⟨i, hi⟩ := own_fin c 256 h.1 h.2
    rw [hi]; exact own_all i
  · have hf := own_far c (by omega)
    rw [hf]
    have l0 : (0 : Int32).toInt = 0 := by decide
    have l1 : (97 : Int32).toInt = 97 := by decide
    have l2 : (122 : Int32).toInt = 122 := by decide
    have l3 : (9 : Int32).toInt = 9 := by decide
    have l4 : (32 : Int32).toInt = 32 := by decide
    have l5 : (48 : Int32).toInt = 48 := by decide
    have o1 := c_or0 c 32
    have o2 := c_orS c 32
    have x2 : ¬ (0 ≤ (c ^^^ 48).toInt ∧ (c ^^^ 48).toInt ≤ 9) := by
      intro q
      obtain ⟨i, hi⟩ := own_fin (c ^^^ 48) 10 q.1 (by omega)
      have hc : c = (Int32.ofInt (i.1 : Int)) ^^^ 48 := by rw [← hi, Int32.xor_assoc, Int32.xor_self, Int32.xor_zero]
      have := own_dig i
      rw [← hc, hf] at this
      cases this
    simp only [F3, Int32.lt_iff_toInt_lt]
    repeat' split
    all_goals first | rfl | assumption | contradiction | (exfalso; omega)
theorem own_agrees (c : Int32) : F1 c = true := by
  unfold F1
  rw [own_eq c]
  exact if_pos rfl
def Q0 (Z : State) (p0 : Int32) (p1 : Int32) (h0 : Heap) (n0 : Nat) (v : Option Value) (h : Heap) (L : List Loc) : Prop := v = some (.int (1 : Int32)) ∧ Fr n0 L
set_option maxRecDepth 65536 in
set_option maxHeartbeats 40000000 in
theorem rm0 (l : Launch) (Z : State) (a0 : Array Value) (hw : ∀ d ∈ tables_1, d.before a0 Z = true) (ws : List Jvm.Cond) (p0 : Int32) (p1 : Int32) (h0 : Heap) (n0 : Nat) (Z0 : n0 ≤ h0.size) :
    MetFree l x (head1 (Jvm.Cond.code x code maxLocals ret :: ws) room_1) (fun a U => a = #[(.int p0), (.int p1)] ∧ Z.Warmed39 U.vm ∧ U.heap = h0) (fun _ _ _ _ _ => True) (fun _ U o U' => ∃ v L, o = .returned v ∧ Q0 Z p0 p1 h0 n0 v U'.heap L ∧ FrameEnd U o U' L room_1.cells room_1.slots) := by
  refine MetFree.of_bodySF (plainFor_of_name pn_3) hisR ?_
  intro p e s m args below meth c s₁ Bd hml0 hP hK
  obtain ⟨rfl, hZ, hh⟩ := hP
  have hx := Bd.exec
  have hby := Bd.bytes
  have hml : c.maxLocals = 5 := hml0
  have hown : s.vm.findClass "com/example/merkki/merkki/MarkupReaderIsAsciiLetterOrDigitPinLaw" = some m.cls := findClass_of_methodNamed Bd.named
  have hnm := (name_of_methodNamed Bd.named Bd.method).1
  have X0 : Stand p l e room_1 s m #[(.int p0), (.int p1)] below meth c s₁ [] 0 0 := Stand.of_body Bd
  have e0 : s₁.heap = h0 := by rw [← hh, Bd.state]; rfl
  have N0 := Fr.nil n0
  have pre0 : ∀ t, Steps p.tables e below (s₁.setTop (mkF m 0 #[.val (.int p0), .val (.int p1), .unset, .unset, .unset] [])) t → Steps p.tables e below (s₁.setTop (entryFrame m #[(.int p0), (.int p1)] maxLocals)) t := fun t k => castTop (ef_0 m p0 p1) k
  obtain ⟨_, _, ⟨T1, L1, k1, n1⟩, -, X1, ⟨Lc1, hQ1, l1, y1, z1⟩, st1⟩ := Jvm.LawKit.callS X0 hx (y := (⟨"com/example/merkki/merkki/MarkupReaderIsAsciiLetterOrDigitPinLaw", "agrees", "(I)Z"⟩ : MethodName)) hown (mvT hZ (hw _ (List.mem_of_getElem? (i := 0) rfl))) (mvT hZ (hw _ (List.mem_of_getElem? (i := 1) rfl))) (mvT hZ (hw _ (List.mem_of_getElem? (i := 2) rfl))) (mvT hZ (hw _ (List.mem_of_getElem? (i := 3) rfl))) (by decide) (backOf (W := 0) (rm1 l Z a0 hw [] p0 h0 n0 Z0) hZ (hw _ (List.mem_of_getElem? (i := 3) rfl)) (hw _ (List.mem_of_getElem? (i := 2) rfl)) (by decide) (by decide)) (g := (mkF m 23 #[.val (.int p0), .val (.int p1), .val (.int p0), .val (.int (p1 &&& (255 : Int32))), .val (.int (((p1 >>> ((8 : Int32) &&& 31)) &&& (255 : Int32)) - (128 : Int32)))] [(.int p0)])) rfl (by rw [hml]; rfl) (argsL := [(.int p0)]) (rest := []) (lenOf pd_0 rfl) rfl (by show 2 * 0 + _ ≤ _; exact Nat.le_of_eq rfl) (hb hby at_23) (fun _ _ => ⟨rfl, e0, (by decide : 0 + 0 ≤ _), (by decide : 0 + 0 ≤ _)⟩)
  dsimp only [Pt.U, Pt.locs, Pt.cells, Pt.slots] at X1 l1 y1 z1 st1 hQ1
  subst l1 y1 z1
  obtain ⟨rfl, N1q, e1⟩ := hQ1
  have N1 := Fr.app N0 N1q
  obtain ⟨_, _, ⟨T2, L2, k2, n2⟩, -, X2, ⟨Lc2, hQ2, l2, y2, z2⟩, st2⟩ := Jvm.LawKit.callS X1 hx (y := (⟨"com/example/merkki/merkki/MarkupReaderIsAsciiLetterOrDigitPinLaw", "agrees", "(I)Z"⟩ : MethodName)) hown (mvT hZ (hw _ (List.mem_of_getElem? (i := 0) rfl))) (mvT hZ (hw _ (List.mem_of_getElem? (i := 1) rfl))) (mvT hZ (hw _ (List.mem_of_getElem? (i := 2) rfl))) (mvT hZ (hw _ (List.mem_of_getElem? (i := 3) rfl))) (by decide) (backOf (W := 0) (rm1 l Z a0 hw [] (p1 &&& (255 : Int32)) h0 n0 Z0) hZ (hw _ (List.mem_of_getElem? (i := 3) rfl)) (hw _ (List.mem_of_getElem? (i := 2) rfl)) (by decide) (by decide)) (g := (mkF m 30 #[.val (.int p0), .val (.int p1), .val (.int p0), .val (.int (p1 &&& (255 : Int32))), .val (.int (((p1 >>> ((8 : Int32) &&& 31)) &&& (255 : Int32)) - (128 : Int32)))] [(.int (p1 &&& (255 : Int32)))])) rfl (by rw [hml]; rfl) (argsL := [(.int (p1 &&& (255 : Int32)))]) (rest := []) (lenOf pd_0 rfl) rfl (by show 2 * 0 + _ ≤ _; exact Nat.le_of_eq rfl) (hb hby at_30) (fun _ _ => ⟨rfl, e1, (by decide : 0 + 0 ≤ _), (by decide : 0 + 0 ≤ _)⟩)
  dsimp only [Pt.U, Pt.locs, Pt.cells, Pt.slots] at X2 l2 y2 z2 st2 hQ2
  subst l2 y2 z2
  obtain ⟨rfl, N2q, e2⟩ := hQ2
  have N2 := Fr.app N1 N2q
  obtain ⟨_, _, ⟨T3, L3, k3, n3⟩, -, X3, ⟨Lc3, hQ3, l3, y3, z3⟩, st3⟩ := Jvm.LawKit.callS X2 hx (y := (⟨"com/example/merkki/merkki/MarkupReaderIsAsciiLetterOrDigitPinLaw", "agrees", "(I)Z"⟩ : MethodName)) hown (mvT hZ (hw _ (List.mem_of_getElem? (i := 0) rfl))) (mvT hZ (hw _ (List.mem_of_getElem? (i := 1) rfl))) (mvT hZ (hw _ (List.mem_of_getElem? (i := 2) rfl))) (mvT hZ (hw _ (List.mem_of_getElem? (i := 3) rfl))) (by decide) (backOf (W := 0) (rm1 l Z a0 hw [] (((p1 >>> ((8 : Int32) &&& 31)) &&& (255 : Int32)) - (128 : Int32)) h0 n0 Z0) hZ (hw _ (List.mem_of_getElem? (i := 3) rfl)) (hw _ (List.mem_of_getElem? (i := 2) rfl)) (by decide) (by decide)) (g := (mkF m 38 #[.val (.int p0), .val (.int p1), .val (.int p0), .val (.int (p1 &&& (255 : Int32))), .val (.int (((p1 >>> ((8 : Int32) &&& 31)) &&& (255 : Int32)) - (128 : Int32)))] [(.int (((p1 >>> ((8 : Int32) &&& 31)) &&& (255 : Int32)) - (128 : Int32)))])) rfl (by rw [hml]; rfl) (argsL := [(.int (((p1 >>> ((8 : Int32) &&& 31)) &&& (255 : Int32)) - (128 : Int32)))]) (rest := []) (lenOf pd_0 rfl) rfl (by show 2 * 0 + _ ≤ _; exact Nat.le_of_eq rfl) (hb hby at_38) (fun _ _ => ⟨rfl, e2, (by decide : 0 + 0 ≤ _), (by decide : 0 + 0 ≤ _)⟩)
  dsimp only [Pt.U, Pt.locs, Pt.cells, Pt.slots] at X3 l3 y3 z3 st3 hQ3
  subst l3 y3 z3
  obtain ⟨rfl, N3q, e3⟩ := hQ3
  have N3 := Fr.app N2 N3q
  have pre4 : ∀ t, Steps p.tables e below (T3.setTop (mkF m 49 #[.val (.int p0), .val (.int p1), .val (.int p0), .val (.int (p1 &&& (255 : Int32))), .val (.int (((p1 >>> ((8 : Int32) &&& 31)) &&& (255 : Int32)) - (128 : Int32)))] [(.int (1 : Int32))])) t → Steps p.tables e below (s₁.setTop (entryFrame m #[(.int p0), (.int p1)] maxLocals)) t := by
    intro t k
    refine pre0 t ?_
    show Steps p.tables e below (s₁.setTop (mkF m 0 #[.val (.int p0), .val (.int p1), .unset, .unset, .unset] [])) _
    refine XS.iloadN X0.here hx rfl (hb hby at_0) rfl ?_
    show Steps p.tables e below (s₁.setTop (mkF m 1 #[.val (.int p0), .val (.int p1), .unset, .unset, .unset] [(.int p0)])) _
    refine XS.istoreN X0.here hx rfl (hb hby at_1) rfl (l' := #[.val (.int p0), .val (.int p1), .val (.int p0), .unset, .unset]) rfl ?_
    show Steps p.tables e below (s₁.setTop (mkF m 2 #[.val (.int p0), .val (.int p1), .val (.int p0), .unset, .unset] [])) _
    refine XS.iloadN X0.here hx rfl (hb hby at_2) rfl ?_
    show Steps p.tables e below (s₁.setTop (mkF m 3 #[.val (.int p0), .val (.int p1), .val (.int p0), .unset, .unset] [(.int p1)])) _
    refine XS.sipush X0.here hx rfl (hb hby at_3) ?_
    show Steps p.tables e below (s₁.setTop (mkF m 6 #[.val (.int p0), .val (.int p1), .val (.int p0), .unset, .unset] [(.int (255 : Int32)), (.int p1)])) _
    refine XS.iand X0.here hx rfl (hb hby at_6) rfl ?_
    show Steps p.tables e below (s₁.setTop (mkF m 7 #[.val (.int p0), .val (.int p1), .val (.int p0), .unset, .unset] [(.int (p1 &&& (255 : Int32)))])) _
    refine XS.istoreN X0.here hx rfl (hb hby at_7) rfl (l' := #[.val (.int p0), .val (.int p1), .val (.int p0), .val (.int (p1 &&& (255 : Int32))), .unset]) rfl ?_
    show Steps p.tables e below (s₁.setTop (mkF m 8 #[.val (.int p0), .val (.int p1), .val (.int p0), .val (.int (p1 &&& (255 : Int32))), .unset] [])) _
    refine XS.iloadN X0.here hx rfl (hb hby at_8) rfl ?_
    show Steps p.tables e below (s₁.setTop (mkF m 9 #[.val (.int p0), .val (.int p1), .val (.int p0), .val (.int (p1 &&& (255 : Int32))), .unset] [(.int p1)])) _
    refine XS.bipush X0.here hx rfl (hb hby at_9) ?_
    show Steps p.tables e below (s₁.setTop (mkF m 11 #[.val (.int p0), .val (.int p1), .val (.int p0), .val (.int (p1 &&& (255 : Int32))), .unset] [(.int (8 : Int32)), (.int p1)])) _
    refine XS.ishr X0.here hx rfl (hb hby at_11) rfl ?_
    show Steps p.tables e below (s₁.setTop (mkF m 12 #[.val (.int p0), .val (.int p1), .val (.int p0), .val (.int (p1 &&& (255 : Int32))), .unset] [(.int (p1 >>> ((8 : Int32) &&& 31)))])) _
    refine XS.sipush X0.here hx rfl (hb hby at_12) ?_
    show Steps p.tables e below (s₁.setTop (mkF m 15 #[.val (.int p0), .val (.int p1), .val (.int p0), .val (.int (p1 &&& (255 : Int32))), .unset] [(.int (255 : Int32)), (.int (p1 >>> ((8 : Int32) &&& 31)))])) _
    refine XS.iand X0.here hx rfl (hb hby at_15) rfl ?_
    show Steps p.tables e below (s₁.setTop (mkF m 16 #[.val (.int p0), .val (.int p1), .val (.int p0), .val (.int (p1 &&& (255 : Int32))), .unset] [(.int ((p1 >>> ((8 : Int32) &&& 31)) &&& (255 : Int32)))])) _
    refine XS.sipush X0.here hx rfl (hb hby at_16) ?_
    show Steps p.tables e below (s₁.setTop (mkF m 19 #[.val (.int p0), .val (.int p1), .val (.int p0), .val (.int (p1 &&& (255 : Int32))), .unset] [(.int (128 : Int32)), (.int ((p1 >>> ((8 : Int32) &&& 31)) &&& (255 : Int32)))])) _
    refine XS.isub X0.here hx rfl (hb hby at_19) rfl ?_
    show Steps p.tables e below (s₁.setTop (mkF m 20 #[.val (.int p0), .val (.int p1), .val (.int p0), .val (.int (p1 &&& (255 : Int32))), .unset] [(.int (((p1 >>> ((8 : Int32) &&& 31)) &&& (255 : Int32)) - (128 : Int32)))])) _
    refine XS.istore X0.here hx rfl (hb hby at_20) rfl (l' := #[.val (.int p0), .val (.int p1), .val (.int p0), .val (.int (p1 &&& (255 : Int32))), .val (.int (((p1 >>> ((8 : Int32) &&& 31)) &&& (255 : Int32)) - (128 : Int32)))]) rfl ?_
    show Steps p.tables e below (s₁.setTop (mkF m 22 #[.val (.int p0), .val (.int p1), .val (.int p0), .val (.int (p1 &&& (255 : Int32))), .val (.int (((p1 >>> ((8 : Int32) &&& 31)) &&& (255 : Int32)) - (128 : Int32)))] [])) _
    refine XS.iloadN X0.here hx rfl (hb hby at_22) rfl ?_
    show Steps p.tables e below (s₁.setTop (mkF m 23 #[.val (.int p0), .val (.int p1), .val (.int p0), .val (.int (p1 &&& (255 : Int32))), .val (.int (((p1 >>> ((8 : Int32) &&& 31)) &&& (255 : Int32)) - (128 : Int32)))] [(.int p0)])) _
    refine st1 _ ?_
    show Steps p.tables e below (T1.setTop (mkF m 26 #[.val (.int p0), .val (.int p1), .val (.int p0), .val (.int (p1 &&& (255 : Int32))), .val (.int (((p1 >>> ((8 : Int32) &&& 31)) &&& (255 : Int32)) - (128 : Int32)))] [(.int (b2i (F1 p0)))])) _
    refine XS.ifNo X1.here hx rfl (hb hby at_26) rfl ((if0 _ _).trans (feq (b2i_ne (own_agrees p0))).1) ?_
    show Steps p.tables e below (T1.setTop (mkF m 29 #[.val (.int p0), .val (.int p1), .val (.int p0), .val (.int (p1 &&& (255 : Int32))), .val (.int (((p1 >>> ((8 : Int32) &&& 31)) &&& (255 : Int32)) - (128 : Int32)))] [])) _
    refine XS.iloadN X1.here hx rfl (hb hby at_29) rfl ?_
    show Steps p.tables e below (T1.setTop (mkF m 30 #[.val (.int p0), .val (.int p1), .val (.int p0), .val (.int (p1 &&& (255 : Int32))), .val (.int (((p1 >>> ((8 : Int32) &&& 31)) &&& (255 : Int32)) - (128 : Int32)))] [(.int (p1 &&& (255 : Int32)))])) _
    refine st2 _ ?_
    show Steps p.tables e below (T2.setTop (mkF m 33 #[.val (.int p0), .val (.int p1), .val (.int p0), .val (.int (p1 &&& (255 : Int32))), .val (.int (((p1 >>> ((8 : Int32) &&& 31)) &&& (255 : Int32)) - (128 : Int32)))] [(.int (b2i (F1 (p1 &&& (255 : Int32)))))])) _
    refine XS.ifNo X2.here hx rfl (hb hby at_33) rfl ((if0 _ _).trans (feq (b2i_ne (own_agrees (p1 &&& (255 : Int32))))).1) ?_
    show Steps p.tables e below (T2.setTop (mkF m 36 #[.val (.int p0), .val (.int p1), .val (.int p0), .val (.int (p1 &&& (255 : Int32))), .val (.int (((p1 >>> ((8 : Int32) &&& 31)) &&& (255 : Int32)) - (128 : Int32)))] [])) _
    refine XS.iload X2.here hx rfl (hb hby at_36) rfl ?_
    show Steps p.tables e below (T2.setTop (mkF m 38 #[.val (.int p0), .val (.int p1), .val (.int p0), .val (.int (p1 &&& (255 : Int32))), .val (.int (((p1 >>> ((8 : Int32) &&& 31)) &&& (255 : Int32)) - (128 : Int32)))] [(.int (((p1 >>> ((8 : Int32) &&& 31)) &&& (255 : Int32)) - (128 : Int32)))])) _
    refine st3 _ ?_
    show Steps p.tables e below (T3.setTop (mkF m 41 #[.val (.int p0), .val (.int p1), .val (.int p0), .val (.int (p1 &&& (255 : Int32))), .val (.int (((p1 >>> ((8 : Int32) &&& 31)) &&& (255 : Int32)) - (128 : Int32)))] [(.int (b2i (F1 (((p1 >>> ((8 : Int32) &&& 31)) &&& (255 : Int32)) - (128 : Int32)))))])) _
    refine XS.ifNo X3.here hx rfl (hb hby at_41) rfl ((if0 _ _).trans (feq (b2i_ne (own_agrees (((p1 >>> ((8 : Int32) &&& 31)) &&& (255 : Int32)) - (128 : Int32))))).1) ?_
    show Steps p.tables e below (T3.setTop (mkF m 44 #[.val (.int p0), .val (.int p1), .val (.int p0), .val (.int (p1 &&& (255 : Int32))), .val (.int (((p1 >>> ((8 : Int32) &&& 31)) &&& (255 : Int32)) - (128 : Int32)))] [])) _
    refine XS.iconst X3.here hx rfl (hb hby at_44) ?_
    show Steps p.tables e below (T3.setTop (mkF m 45 #[.val (.int p0), .val (.int p1), .val (.int p0), .val (.int (p1 &&& (255 : Int32))), .val (.int (((p1 >>> ((8 : Int32) &&& 31)) &&& (255 : Int32)) - (128 : Int32)))] [(.int (1 : Int32))])) _
    refine XS.goto X3.here hx rfl (pc0 := 45) (pc' := 49) rfl (hb hby at_45) (by decide) (by decide) ?_
    exact k
  obtain ⟨fs, hr, hrun, hended, hW, hsame⟩ := X3.leave (v := some (.int (1 : Int32))) (fun h => by rw [Bd.returns] at h; cases h)
  refine ⟨_, _, pre4 _ ?_, hrun, hended, _, _, rfl, ?_, ⟨_, rfl⟩, hW, hsame.mono (by decide) (by decide)⟩
  · show Steps p.tables e below (T3.setTop (mkF m 49 #[.val (.int p0), .val (.int p1), .val (.int p0), .val (.int (p1 &&& (255 : Int32))), .val (.int (((p1 >>> ((8 : Int32) &&& 31)) &&& (255 : Int32)) - (128 : Int32)))] [(.int (1 : Int32))])) _
    exact retN X3 hx (t := .boolean) Bd.returns (by simp) (hb hby at_49) hr
  · show Q0 Z p0 p1 h0 n0 _ T3.heap _
    rw [e3]
    exact ⟨rfl, N3⟩
set_option maxRecDepth 65536 in
set_option maxHeartbeats 40000000 in
theorem comes_1 {Post : Tables → Env → Array Value → State → Outcome → State → Prop} (hpost : ∀ tb e args s v u, (limb_1_1.after args s (.returned v) u = true ∧ limb_1_2.after args s (.returned v) u = true ∧ True) → FrameEnd s (.returned v) u (Jvm.fieldLocs frame_1_writes args s ++ Jvm.arrayLocs frame_1_arrays args s ++ Jvm.staticLocs frame_1_statics s) 0 0 → Post tb e args s (.returned v) u) :
    ArmFor flags0 classFile x code maxLocals ret World_1 tables_1 room_1 Calls_1 rest_1 Pre_1 Post := by
  intro l hfl _ _ p e ha hc hk s m args below hf hA hF happ hP
  obtain ⟨hcalls, hrest, hpre⟩ := hP
  obtain ⟨-, -, -, hnamed, -, -, -, hat⟩ := (Spec.applies_iff hf).mp happ
  obtain ⟨hg, hn⟩ := and_e (Cond.before_iff.mp (show (Jvm.Cond.and given_1 narrow_1).before args s = true from hpre))
  obtain ⟨g1, g2⟩ := and_e hg
  obtain ⟨g3, g4⟩ := and_e g2
  obtain ⟨w0, w1, rfl⟩ : ∃ w0 w1 : Value, args = #[w0, w1] := by
    have hs : args.size = 2 := by simpa [Cond.value, given_1] using g1
    obtain ⟨L⟩ := args
    match L, hs with
    | [w0, w1], _ => exact ⟨w0, w1, rfl⟩
  have hw := fun d (hd : d ∈ tables_1) => atoms_spec (ws := Jvm.Cond.code x code maxLocals ret :: tables_1) hat d (List.mem_cons_of_mem _ hd)
  obtain ⟨i0, ei0⟩ := is_v g3
  obtain rfl : w0 = (.int i0) := Option.some.inj ei0
  obtain ⟨i1, ei1⟩ := is_v g4
  obtain rfl : w1 = (.int i1) := Option.some.inj ei1
  obtain ⟨n, o, h1, h2, h3, _, L, rfl, ⟨rfl, N⟩, hq⟩ := rm0 l s _ hw tables_1 i0 i1 s.heap s.heap.size (Nat.le_refl _) p e ha hc hk s m _ below hf ((Spec.applies_iff_loose hf).mp happ).1 ⟨rfl, State.Warmed39.refl s, rfl⟩ trivial
  refine ⟨n, _, h1, h2, h3, hpost _ _ _ _ _ _ ⟨Cond.after_iff.mpr rfl, Cond.after_iff.mpr (eq_i res_at (Term.int_eval (1)) rfl), trivial⟩ ⟨hq.1, hq.2.1, (hq.2.2.sift fun y hy => Or.inr (N y hy)).mono (by decide) (by decide)⟩⟩
theorem main_1_1 : Claimed_1_1 := comes_1 fun _ _ _ _ _ _ h hF => ⟨h.1, hF⟩
theorem main_1_2 : Claimed_1_2 := comes_1 fun _ _ _ _ _ _ h hF => ⟨h.2.1, hF⟩
end Jvm.Pilot.@@N@@
namespace Jvm.Pilot.@@N@@
open Jvm Jvm.ClassFile Sem Op Lib Jvm.Free Jvm.Stand Jvm.Pilot.@@N@@.Jvm.D
/-! MADE BY PROGRAM (witnessworld.py) out of the Statement's table words and the real class files: 13 classes; the members and pool entries that the words name. The judged class is class 1, her method 3. -/
namespace start1
open Jvm.ClassFile
def u (s : String) : CpInfo := .utf8 (stringToUtf16 s)
/-- a pool by its gaps: so many unusable entries, then the entry; so many at the end -/
def gap : Nat → List CpInfo → List CpInfo
  | 0, r => r
  | n + 1, r => .unusable :: gap n r
def poolList (es : List (Nat × CpInfo)) (last : Nat) : List CpInfo := es.foldr (fun e r => gap e.1 (e.2 :: r)) (gap last [])
def pool (es : List (Nat × CpInfo)) (last : Nat) : Array CpInfo := ⟨poolList es last⟩
def fileOf (pool : Array CpInfo) (this : Nat) (attrs : Array Attribute := #[]) (ms : Array MethodInfo := #[]) (fl : Nat := 33) (sup : Nat := 0) (ifs : Array Nat := #[]) (fds : Array FieldInfo := #[]) : ClassFile where
  minorVersion := 0
  majorVersion := 65
  constantPool := pool
  accessFlags := fl
  thisClass := this
  superClass := sup
  interfaces := ifs
  fields := fds
  methods := ms
  attributes := attrs
def plain (name : String) (sup : Option ClassId) : Class where
  name := name
  kind := .ordinary
  loader := none
  accessFlags := 33
  super := sup
  interfaces := #[]
  cf := none
  fields := #[]
  methods := #[]
  instanceTypes := #[]
  staticTypes := #[]
  resolved := #[]
  callSites := []
  init := .initialized
  statics := none
  mirror := none

def pool0 : Array CpInfo := pool [(5, u "<init>"), (0, u "()V"), (1, .class_ 10), (1, u "java/lang/Object")] 113

def k0m0 : Method := { name := "<init>", desc := "()V", sig := { parameters := [], returnType := none }, accessFlags := 1, code := none }
/-- java/lang/Object -/
def k0 : Class := { plain "java/lang/Object" none with
  accessFlags := 33
  interfaces := #[]
  cf := some (fileOf pool0 8 #[] #[{ accessFlags := 1, nameIndex := 5, descriptorIndex := 6, attributes := #[] }] 33 0 #[] #[])
  fields := #[]
  methods := #[k0m0]
  instanceTypes := #[]
  staticTypes := #[]
  resolved := Array.replicate 124 none
  statics := none }

def pool1 : Array CpInfo := pool [(2, .class_ 4), (1, u "java/lang/Object"), (0, u "<init>"), (0, u "()V"), (0, .methodref 8 9), (0, .class_ 10), (0, .nameAndType 11 12), (0, u "com/example/merkki/merkki/MarkupReader"), (0, u "isAsciiLetterOrDigit"), (0, u "(I)Z"), (0, .methodref 14 15), (0, .class_ 16), (0, .nameAndType 17 12), (0, u "com/example/merkki/merkki/MarkupReaderIsAsciiLetterOrDigitPinLaw"), (0, u "reference"), (0, .methodref 14 19), (0, .nameAndType 20 12), (0, u "agrees"), (3, u "law"), (0, u "(II)Z")] 2

def k1m0 : Method := { name := "<init>", desc := "()V", sig := { parameters := [], returnType := none }, accessFlags := 2, code := none }
def k1c1 : Code := { maxStack := 2, maxLocals := 5, code := method_2_code, exceptionTable := #[], attributes := #[] }
def k1m1 : Method := { name := "reference", desc := "(I)Z", sig := { parameters := [.int], returnType := some .boolean }, accessFlags := 10, code := some k1c1 }
def k1c2 : Code := { maxStack := 2, maxLocals := 1, code := method_3_code, exceptionTable := #[], attributes := #[] }
def k1m2 : Method := { name := "agrees", desc := "(I)Z", sig := { parameters := [.int], returnType := some .boolean }, accessFlags := 10, code := some k1c2 }
def k1c3 : Code := { maxStack := 2, maxLocals := 5, code := code, exceptionTable := #[], attributes := #[] }
def k1m3 : Method := { name := "law", desc := "(II)Z", sig := { parameters := [.int, .int], returnType := some .boolean }, accessFlags := 9, code := some k1c3 }
/-- com/example/merkki/merkki/MarkupReaderIsAsciiLetterOrDigitPinLaw -/
def k1 : Class := { plain "com/example/merkki/merkki/MarkupReaderIsAsciiLetterOrDigitPinLaw" (some 0) with
  accessFlags := 49
  interfaces := #[]
  cf := some (fileOf pool1 14 #[] #[{ accessFlags := 2, nameIndex := 5, descriptorIndex := 6, attributes := #[] }, { accessFlags := 10, nameIndex := 17, descriptorIndex := 12, attributes := #[] }, { accessFlags := 10, nameIndex := 20, descriptorIndex := 12, attributes := #[] }, { accessFlags := 9, nameIndex := 24, descriptorIndex := 25, attributes := #[] }] 49 2 #[] #[])
  fields := #[]
  methods := #[k1m0, k1m1, k1m2, k1m3]
  instanceTypes := #[]
  staticTypes := #[]
  resolved := Array.replicate 28 none
  statics := none }

def pool2 : Array CpInfo := pool [(1, u "org/xml/sax/Locator"), (0, .class_ 1), (0, u "java/lang/Object"), (0, .class_ 3)] 3

/-- org/xml/sax/Locator -/
def k2 : Class := { plain "org/xml/sax/Locator" (some 0) with
  accessFlags := 1537
  interfaces := #[]
  cf := some (fileOf pool2 2 #[] #[] 1537 4 #[] #[])
  fields := #[]
  methods := #[]
  instanceTypes := #[]
  staticTypes := #[]
  resolved := Array.replicate 8 none
  statics := none }

def pool3 : Array CpInfo := pool [(1, .class_ 2), (0, u "java/lang/AutoCloseable"), (0, .class_ 4), (0, u "java/lang/Object")] 7

/-- java/lang/AutoCloseable -/
def k3 : Class := { plain "java/lang/AutoCloseable" (some 0) with
  accessFlags := 1537
  interfaces := #[]
  cf := some (fileOf pool3 1 #[] #[] 1537 3 #[] #[])
  fields := #[]
  methods := #[]
  instanceTypes := #[]
  staticTypes := #[]
  resolved := Array.replicate 12 none
  statics := none }

def pool4 : Array CpInfo := pool [(1, .class_ 2), (0, u "java/io/Closeable"), (0, .class_ 4), (0, u "java/lang/Object"), (0, .class_ 6), (0, u "java/lang/AutoCloseable")] 7

/-- java/io/Closeable -/
def k4 : Class := { plain "java/io/Closeable" (some 0) with
  accessFlags := 1537
  interfaces := #[3]
  cf := some (fileOf pool4 1 #[] #[] 1537 3 #[5] #[])
  fields := #[]
  methods := #[]
  instanceTypes := #[]
  staticTypes := #[]
  resolved := Array.replicate 14 none
  statics := none }

def pool5 : Array CpInfo := pool [(2, .class_ 4), (1, u "java/lang/Object"), (3, .class_ 10), (1, u "com/example/merkki/merkki/EntityReader"), (0, u "mark"), (0, u "I"), (2, u "tagStart"), (0, .class_ 17), (0, u "com/example/merkki/merkki/EntityReader$Suspended"), (2, u "suspended"), (0, u "[Lcom/example/merkki/merkki/EntityReader$Suspended;"), (8, u "counted"), (0, u "[J"), (2, u "buf"), (0, u "[C"), (2, u "source"), (0, u "Lcom/example/merkki/merkki/EntityInput;"), (2, u "externals"), (0, u "Lcom/example/merkki/merkki/ExternalEntities;"), (30, u "limits"), (2, u "handlers"), (0, u "Lcom/example/merkki/merkki/Handlers;"), (9, u "pos"), (2, u "end"), (2, u "atEnd"), (0, u "Z"), (40, u "externalEntitiesRead"), (2, u "entityDepth"), (2, u "sourceDepth"), (66, u "heldInDeclaration"), (0, u "J"), (38, u "toldAgainAt"), (0, u "Lorg/xml/sax/Locator;"), (15, u "current"), (0, u "Lcom/example/merkki/merkki/Entity;"), (8, u "parameterEntityDepth"), (125, .class_ 404), (1, u "org/xml/sax/Locator"), (66, .class_ 472), (0, u "java/io/Closeable"), (0, u "INITIAL_WINDOW"), (2, u "LOOKAHEAD")] 89

/-- com/example/merkki/merkki/EntityReader -/
def k5 : Class := { plain "com/example/merkki/merkki/EntityReader" (some 0) with
  accessFlags := 1056
  interfaces := #[2, 4]
  cf := some (fileOf pool5 8 #[.nestMembers #[16]] #[] 1056 2 #[402, 471] #[{ accessFlags := 24, nameIndex := 473, descriptorIndex := 12, attributes := #[] }, { accessFlags := 26, nameIndex := 476, descriptorIndex := 12, attributes := #[] }, { accessFlags := 0, nameIndex := 77, descriptorIndex := 78, attributes := #[] }, { accessFlags := 16, nameIndex := 42, descriptorIndex := 43, attributes := #[] }, { accessFlags := 0, nameIndex := 34, descriptorIndex := 35, attributes := #[] }, { accessFlags := 0, nameIndex := 88, descriptorIndex := 12, attributes := #[] }, { accessFlags := 0, nameIndex := 91, descriptorIndex := 12, attributes := #[] }, { accessFlags := 0, nameIndex := 11, descriptorIndex := 12, attributes := #[] }, { accessFlags := 0, nameIndex := 15, descriptorIndex := 12, attributes := #[] }, { accessFlags := 2, nameIndex := 94, descriptorIndex := 95, attributes := #[] }, { accessFlags := 2, nameIndex := 266, descriptorIndex := 267, attributes := #[] }, { accessFlags := 2, nameIndex := 38, descriptorIndex := 39, attributes := #[] }, { accessFlags := 2, nameIndex := 142, descriptorIndex := 12, attributes := #[] }, { accessFlags := 2, nameIndex := 20, descriptorIndex := 21, attributes := #[] }, { accessFlags := 2, nameIndex := 139, descriptorIndex := 12, attributes := #[] }, { accessFlags := 2, nameIndex := 276, descriptorIndex := 12, attributes := #[] }, { accessFlags := 18, nameIndex := 74, descriptorIndex := 31, attributes := #[] }, { accessFlags := 2, nameIndex := 136, descriptorIndex := 12, attributes := #[] }, { accessFlags := 2, nameIndex := 249, descriptorIndex := 250, attributes := #[] }, { accessFlags := 18, nameIndex := 30, descriptorIndex := 31, attributes := #[] }, { accessFlags := 2, nameIndex := 209, descriptorIndex := 210, attributes := #[] }])
  fields := #[{ name := "INITIAL_WINDOW", type := .int, accessFlags := 24, slot := 0, constantValue := 0 }, { name := "LOOKAHEAD", type := .int, accessFlags := 26, slot := 1, constantValue := 0 }, { name := "handlers", type := (.object "com/example/merkki/merkki/Handlers"), accessFlags := 0, slot := 0, constantValue := 0 }, { name := "externals", type := (.object "com/example/merkki/merkki/ExternalEntities"), accessFlags := 16, slot := 1, constantValue := 0 }, { name := "buf", type := (.array .char), accessFlags := 0, slot := 2, constantValue := 0 }, { name := "pos", type := .int, accessFlags := 0, slot := 3, constantValue := 0 }, { name := "end", type := .int, accessFlags := 0, slot := 4, constantValue := 0 }, { name := "mark", type := .int, accessFlags := 0, slot := 5, constantValue := 0 }, { name := "tagStart", type := .int, accessFlags := 0, slot := 6, constantValue := 0 }, { name := "atEnd", type := .boolean, accessFlags := 2, slot := 7, constantValue := 0 }, { name := "current", type := (.object "com/example/merkki/merkki/Entity"), accessFlags := 2, slot := 8, constantValue := 0 }, { name := "source", type := (.object "com/example/merkki/merkki/EntityInput"), accessFlags := 2, slot := 9, constantValue := 0 }, { name := "sourceDepth", type := .int, accessFlags := 2, slot := 10, constantValue := 0 }, { name := "suspended", type := (.array (.object "com/example/merkki/merkki/EntityReader$Suspended")), accessFlags := 2, slot := 11, constantValue := 0 }, { name := "entityDepth", type := .int, accessFlags := 2, slot := 12, constantValue := 0 }, { name := "parameterEntityDepth", type := .int, accessFlags := 2, slot := 13, constantValue := 0 }, { name := "limits", type := (.array .long), accessFlags := 18, slot := 14, constantValue := 0 }, { name := "externalEntitiesRead", type := .int, accessFlags := 2, slot := 15, constantValue := 0 }, { name := "toldAgainAt", type := (.object "org/xml/sax/Locator"), accessFlags := 2, slot := 16, constantValue := 0 }, { name := "counted", type := (.array .long), accessFlags := 18, slot := 17, constantValue := 0 }, { name := "heldInDeclaration", type := .long, accessFlags := 2, slot := 18, constantValue := 0 }]
  methods := #[]
  instanceTypes := #[(.object "com/example/merkki/merkki/Handlers"), (.object "com/example/merkki/merkki/ExternalEntities"), (.array .char), .int, .int, .int, .int, .boolean, (.object "com/example/merkki/merkki/Entity"), (.object "com/example/merkki/merkki/EntityInput"), .int, (.array (.object "com/example/merkki/merkki/EntityReader$Suspended")), .int, .int, (.array .long), .int, (.object "org/xml/sax/Locator"), (.array .long), .long]
  staticTypes := #[.int, .int]
  resolved := Array.replicate 566 none
  statics := none }

def pool6 : Array CpInfo := pool [(4, .class_ 6), (1, u "com/example/merkki/merkki/EntityReader"), (8, .class_ 17), (1, u "com/example/merkki/merkki/MarkupReader"), (0, u "dtd"), (0, u "Lcom/example/merkki/merkki/Dtd;"), (4, u "documentVersion"), (0, u "Ljava/lang/String;"), (5, u "value"), (0, u "Ljava/lang/StringBuilder;"), (2, u "namespaces"), (0, u "Lcom/example/merkki/merkki/Namespaces;"), (2, u "names"), (0, u "Lcom/example/merkki/merkki/NameTable;"), (2, u "subsets"), (0, u "Lcom/example/merkki/merkki/DtdCache;"), (89, u "I"), (12, u "(I)Z"), (79, u "valueLength"), (2, u "valueStart"), (9, u "SPECIAL_IN_ATTRIBUTE_VALUE"), (0, u "J"), (234, u "STOP_SET_SIZE"), (22, u "isAsciiLetterOrDigit")] 65

def k6c0 : Code := { maxStack := 2, maxLocals := 1, code := prog_31_method_21_code, exceptionTable := #[], attributes := #[] }
def k6m0 : Method := { name := "isAsciiLetterOrDigit", desc := "(I)Z", sig := { parameters := [.int], returnType := some .boolean }, accessFlags := 8, code := some k6c0 }
/-- com/example/merkki/merkki/MarkupReader -/
def k6 : Class := { plain "com/example/merkki/merkki/MarkupReader" (some 5) with
  accessFlags := 1056
  interfaces := #[]
  cf := some (fileOf pool6 15 #[] #[{ accessFlags := 8, nameIndex := 499, descriptorIndex := 147, attributes := #[] }] 1056 4 #[] #[{ accessFlags := 26, nameIndex := 476, descriptorIndex := 134, attributes := #[] }, { accessFlags := 26, nameIndex := 240, descriptorIndex := 241, attributes := #[] }, { accessFlags := 16, nameIndex := 18, descriptorIndex := 19, attributes := #[] }, { accessFlags := 16, nameIndex := 43, descriptorIndex := 44, attributes := #[] }, { accessFlags := 0, nameIndex := 24, descriptorIndex := 25, attributes := #[] }, { accessFlags := 16, nameIndex := 35, descriptorIndex := 36, attributes := #[] }, { accessFlags := 18, nameIndex := 31, descriptorIndex := 32, attributes := #[] }, { accessFlags := 0, nameIndex := 230, descriptorIndex := 134, attributes := #[] }, { accessFlags := 0, nameIndex := 227, descriptorIndex := 134, attributes := #[] }, { accessFlags := 18, nameIndex := 39, descriptorIndex := 40, attributes := #[] }])
  fields := #[{ name := "STOP_SET_SIZE", type := .int, accessFlags := 26, slot := 0, constantValue := 0 }, { name := "SPECIAL_IN_ATTRIBUTE_VALUE", type := .long, accessFlags := 26, slot := 1, constantValue := 0 }, { name := "dtd", type := (.object "com/example/merkki/merkki/Dtd"), accessFlags := 16, slot := 19, constantValue := 0 }, { name := "subsets", type := (.object "com/example/merkki/merkki/DtdCache"), accessFlags := 16, slot := 20, constantValue := 0 }, { name := "documentVersion", type := (.object "java/lang/String"), accessFlags := 0, slot := 21, constantValue := 0 }, { name := "namespaces", type := (.object "com/example/merkki/merkki/Namespaces"), accessFlags := 16, slot := 22, constantValue := 0 }, { name := "value", type := (.object "java/lang/StringBuilder"), accessFlags := 18, slot := 23, constantValue := 0 }, { name := "valueStart", type := .int, accessFlags := 0, slot := 24, constantValue := 0 }, { name := "valueLength", type := .int, accessFlags := 0, slot := 25, constantValue := 0 }, { name := "names", type := (.object "com/example/merkki/merkki/NameTable"), accessFlags := 18, slot := 26, constantValue := 0 }]
  methods := #[k6m0]
  instanceTypes := #[(.object "com/example/merkki/merkki/Handlers"), (.object "com/example/merkki/merkki/ExternalEntities"), (.array .char), .int, .int, .int, .int, .boolean, (.object "com/example/merkki/merkki/Entity"), (.object "com/example/merkki/merkki/EntityInput"), .int, (.array (.object "com/example/merkki/merkki/EntityReader$Suspended")), .int, .int, (.array .long), .int, (.object "org/xml/sax/Locator"), (.array .long), .long, (.object "com/example/merkki/merkki/Dtd"), (.object "com/example/merkki/merkki/DtdCache"), (.object "java/lang/String"), (.object "com/example/merkki/merkki/Namespaces"), (.object "java/lang/StringBuilder"), .int, .int, (.object "com/example/merkki/merkki/NameTable")]
  staticTypes := #[.int, .long]
  resolved := Array.replicate 565 none
  statics := none }

def pool7 : Array CpInfo := pool [(1, u "java/lang/Cloneable"), (0, .class_ 1), (0, u "java/lang/Object"), (0, .class_ 3)] 3

/-- java/lang/Cloneable -/
def k7 : Class := { plain "java/lang/Cloneable" (some 0) with
  accessFlags := 1537
  interfaces := #[]
  cf := some (fileOf pool7 2 #[] #[] 1537 4 #[] #[])
  fields := #[]
  methods := #[]
  instanceTypes := #[]
  staticTypes := #[]
  resolved := Array.replicate 8 none
  statics := none }

def pool8 : Array CpInfo := pool [(1, u "java/io/Serializable"), (0, .class_ 1), (0, u "java/lang/Object"), (0, .class_ 3)] 3

/-- java/io/Serializable -/
def k8 : Class := { plain "java/io/Serializable" (some 0) with
  accessFlags := 1537
  interfaces := #[]
  cf := some (fileOf pool8 2 #[] #[] 1537 4 #[] #[])
  fields := #[]
  methods := #[]
  instanceTypes := #[]
  staticTypes := #[]
  resolved := Array.replicate 8 none
  statics := none }

/-- the primitive byte -/
def k9 : Class := { plain "byte" none with kind := .primitive 'B', accessFlags := 0x411 }
/-- [B -/
def k10 : Class := { plain "[B" (some 0) with kind := .array 9 .byte, interfaces := #[7, 8], accessFlags := 1041 }

/-- the primitive int -/
def k11 : Class := { plain "int" none with kind := .primitive 'I', accessFlags := 0x411 }
/-- [I -/
def k12 : Class := { plain "[I" (some 0) with kind := .array 11 .int, interfaces := #[7, 8], accessFlags := 1041 }

def heap : Heap := #[]
def classes : Array Class := #[k0, k1, k2, k3, k4, k5, k6, k7, k8, k9, k10, k11, k12]
def interned : List (Array UInt16 × Addr) := []
def slotsUsed : Nat := 0
def theMethod : MethodId := ⟨1, 3⟩
def args0 : Array Value := #[.int 5, .int 7]
def aboutOver (below : List Frame) : State where
  vm := { classes := classes, interned := interned.toArray }
  heap := heap
  slotsUsed := slotsUsed
  threads := #[{ frames := .invoking theMethod args0 :: below }]
def below0 : List Frame := [.native { method := ⟨0, 0⟩, args := #[] }]
def about1 : State := aboutOver below0
def p0 : Program := .bare "" "" ""
def e0 : Env := launch0.env 0 0 0
theorem w_frames : about1.frames = Frame.invoking theMethod args0 :: below0 := rfl
set_option maxRecDepth 65536 in
theorem w_args : argsFit about1.vm theMethod args0 = true := by decide +kernel
set_option maxRecDepth 65536 in
theorem w_heap : heapFits about1 = true := by decide +kernel
set_option maxRecDepth 65536 in
theorem w_runnable : about1.curStatus? = some .runnable := by decide +kernel
set_option maxRecDepth 65536 in
theorem w_alone : about1.alone = true := by decide +kernel
set_option maxRecDepth 65536 in
theorem w_named : about1.methodNamed? x = some theMethod := by decide +kernel
set_option maxRecDepth 65536 in
theorem w_hears : about1.hears theMethod below0 = true := by decide +kernel
set_option maxRecDepth 65536 in
theorem w_ripe : about1.ripe theMethod args0 below0 = true := by decide +kernel
theorem w_running : about1.status = .running := rfl
set_option maxRecDepth 65536 in
theorem w_room : about1.hasRoom e0.platform room_1 = true :=
  launch0.hasRoom_least _ room_1 (by decide +kernel) (by decide +kernel) (by decide +kernel) (by decide +kernel) (by decide +kernel) (by decide +kernel)
theorem allAtoms_all (ts : List Jvm.Cond) (a : Array Jvm.Value) (st : Jvm.State) : (allAtoms ts).before a st = ts.all (fun c => c.before a st) := by
  induction ts with
  | nil => rfl
  | cons c t ih =>
    show (Jvm.Cond.and c (allAtoms t)).before a st = _
    rw [Jvm.Cond.before_and, ih, List.all_cons]
def words1 : List Jvm.Cond := Jvm.Cond.code x code maxLocals ret :: tables_1
/-- a 'code' word, met by the world's own term for the bytes: nothing is compared byte by byte -/
theorem code_word {y : MethodName} {bytes : ByteArray} {mx : Nat} {rt : Option FieldType} {a : Array Value} {s : State} {m : MethodId} {meth : Method} {c : Code} (h1 : s.methodNamed? y = some m) (h2 : s.vm.method? m = some meth) (h3 : meth.code = some c) (h4 : c.code = bytes)
    (h5 : (c.maxLocals == mx && c.exceptionTable.isEmpty && decide (c.maxStack ≤ mostOperands) && decide (meth.sig.returnType = rt) && !meth.locks && decide (parseMethodDescriptor y.desc = some meth.sig)) = true) : (Jvm.Cond.code y bytes mx rt).before a s = true := by
  simp only [Bool.and_eq_true, beq_iff_eq, Bool.not_eq_true', decide_eq_true_eq] at h5
  obtain ⟨⟨⟨⟨⟨g1, g2⟩, g3⟩, g4⟩, g5⟩, g6⟩ := h5
  simp [Cond.before, Cond.holds, Cond.value, h1, h2, h3, h4, g1, g2, g3, g4, g5, g6]
def isCode : Jvm.Cond → Bool
  | .code _ _ _ _ => true
  | _ => false
theorem all_split {L : List Jvm.Cond} {P : Jvm.Cond → Bool} (h1 : L.all (fun c => isCode c || P c) = true) (h2 : ∀ c ∈ L.filter isCode, P c = true) : L.all P = true := by
  refine List.all_eq_true.mpr fun c hc => ?_
  have h := List.all_eq_true.mp h1 c hc
  rcases Bool.eq_false_or_eq_true (isCode c) with hi | hi
  · exact h2 c (List.mem_filter.mpr ⟨hc, hi⟩)
  · simpa [hi] using h
set_option maxRecDepth 65536 in
theorem w_c0 : (Jvm.Cond.code x code maxLocals ret).before args0 about1 = true := code_word (m := ⟨1, 3⟩) (meth := k1m3) (c := k1c3) (by decide +kernel) rfl rfl rfl (by decide +kernel)
set_option maxRecDepth 65536 in
theorem w_c1 : (Jvm.Cond.code ({ cls := "com/example/merkki/merkki/MarkupReaderIsAsciiLetterOrDigitPinLaw", name := "agrees", desc := "(I)Z" } : Jvm.MethodName) method_3_code (1 : Nat) (Option.some Jvm.ClassFile.FieldType.boolean)).before args0 about1 = true := code_word (m := ⟨1, 2⟩) (meth := k1m2) (c := k1c2) (by decide +kernel) rfl rfl rfl (by decide +kernel)
set_option maxRecDepth 65536 in
theorem w_c2 : (Jvm.Cond.code ({ cls := "com/example/merkki/merkki/MarkupReader", name := "isAsciiLetterOrDigit", desc := "(I)Z" } : Jvm.MethodName) prog_31_method_21_code (1 : Nat) (Option.some Jvm.ClassFile.FieldType.boolean)).before args0 about1 = true := code_word (m := ⟨6, 0⟩) (meth := k6m0) (c := k6c0) (by decide +kernel) rfl rfl rfl (by decide +kernel)
set_option maxRecDepth 65536 in
theorem w_c3 : (Jvm.Cond.code ({ cls := "com/example/merkki/merkki/MarkupReaderIsAsciiLetterOrDigitPinLaw", name := "reference", desc := "(I)Z" } : Jvm.MethodName) method_2_code (5 : Nat) (Option.some Jvm.ClassFile.FieldType.boolean)).before args0 about1 = true := code_word (m := ⟨1, 1⟩) (meth := k1m1) (c := k1c1) (by decide +kernel) rfl rfl rfl (by decide +kernel)
def codes1 : List Jvm.Cond := [Jvm.Cond.code x code maxLocals ret, Jvm.Cond.code ({ cls := "com/example/merkki/merkki/MarkupReaderIsAsciiLetterOrDigitPinLaw", name := "agrees", desc := "(I)Z" } : Jvm.MethodName) method_3_code (1 : Nat) (Option.some Jvm.ClassFile.FieldType.boolean), Jvm.Cond.code ({ cls := "com/example/merkki/merkki/MarkupReader", name := "isAsciiLetterOrDigit", desc := "(I)Z" } : Jvm.MethodName) prog_31_method_21_code (1 : Nat) (Option.some Jvm.ClassFile.FieldType.boolean), Jvm.Cond.code ({ cls := "com/example/merkki/merkki/MarkupReaderIsAsciiLetterOrDigitPinLaw", name := "reference", desc := "(I)Z" } : Jvm.MethodName) method_2_code (5 : Nat) (Option.some Jvm.ClassFile.FieldType.boolean)]
set_option maxRecDepth 65536 in
theorem codes_eq : words1.filter isCode = codes1 := rfl
theorem w_codes : ∀ c ∈ words1.filter isCode, c.before args0 about1 = true := by
  rw [codes_eq]
  intro c hc
  simp only [codes1, List.mem_cons, List.not_mem_nil, or_false] at hc
  rcases hc with rfl | rfl | rfl | rfl
  · exact w_c0
  · exact w_c1
  · exact w_c2
  · exact w_c3
set_option maxRecDepth 65536 in
theorem w_t1 : words1.all (fun c => isCode c || c.before args0 about1) = true := by decide +kernel
theorem w_tables : (allAtoms (Jvm.Cond.code x code maxLocals ret :: tables_1)).before args0 about1 = true := by
  rw [allAtoms_all]
  show words1.all (fun c => c.before args0 about1) = true
  refine all_split ?_ w_codes
  rw [w_t1]
set_option maxRecDepth 65536 in
theorem w_case : (Jvm.Cond.and given_1 narrow_1).before args0 about1 = true := by decide +kernel
theorem w_applies : (headSpec (Jvm.Cond.code x code maxLocals ret :: tables_1) room_1).applies x e0.platform about1 = true :=
  (Spec.applies_iff w_frames).mpr ⟨w_running, w_runnable, w_alone, w_named, w_hears, w_ripe, w_room, w_tables⟩
theorem atStart : AtStart classFile x code maxLocals ret World_1 tables_1 room_1 Calls_1 rest_1 Pre_1 launch0 p0 e0 about1 theMethod args0 below0 :=
  ⟨lists_1, trivial, launch0.admits_env _ _ _, launch0.least_env, fairChoices_fair.cas, fairChoices_fair.clock, w_frames, w_args, w_heap, w_applies, trivial, trivial, w_case⟩
end start1
theorem witness_1 : WitnessClaimed_1 := ⟨start1.p0, start1.e0, start1.about1, start1.theMethod, start1.args0, start1.below0, start1.atStart⟩
end Jvm.Pilot.@@N@@
