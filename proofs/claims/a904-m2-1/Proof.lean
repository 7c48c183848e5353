import JvmDerived
import JvmDerived.Pilot.@@N@@Statement
import JvmDerived.Pilot.@@N@@Code
set_option linter.unusedVariables false
set_option linter.unusedSimpArgs false
namespace Jvm.RoadKit
open Sem ClassFile Op Lib Jvm.Stand Jvm.Free Jvm.LawKit
section New
variable {p : Program} {l : Launch} {e : Env} {R : Room} {s : State} {m : MethodId} {args : Array Value} {below : List Frame} {meth : Method} {c : Code} {T : State} {locs : List Loc} {cells slots : Nat}
theorem retI (X : Stand p l e R s m args below meth c T locs cells slots) (hx : p.tables.exec = Jvm.exec) {pc : Nat} {Ls : Array Slot} {z : Int32} {rest : List Value} (hret : meth.sig.returnType = some .int) (hd : decode c.code pc = .ok (.ireturn, 1)) {fs : List Frame}
    (hl : ∀ (f : JFrame) (acts : List Action), f.method = m → f.locked = none → f.entered = [] → (doReturn e (T.setTop f) acts (some (.int z))).1 = T.setFrames fs) : Steps p.tables e below (T.setTop (mkF m pc Ls (.int z :: rest))) (T.setFrames fs) := by
  have hm' : T.vm.method? m = some meth := X.method'
  have hn : narrow .int (.int z) = .int z := rfl
  show Steps p.tables e below (T.setTop { method := m, pc := pc, locals := Ls, stack := _ :: rest, locked := none }) _
  jvm_step X.here [X.here.top, hx, hd, hm', hret, hn]
  first | (intro acts; rw [hl _ acts rfl rfl rfl]) | rw [hl _ _ rfl rfl rfl]
  exact Steps.refl _
end New
end Jvm.RoadKit
namespace Jvm.OwnKit
open Sem ClassFile Op Lib Jvm.Stand Jvm.Free Jvm.LawKit Jvm.RoadKit
def b2i (b : Bool) : Int32 := if b = true then 1 else 0
theorem b2i_eq {b : Bool} (h : ¬ b = true) : b2i b = 0 := if_neg h
theorem b2i_ne {b : Bool} (h : b = true) : ¬ b2i b = 0 := by rw [b2i, if_pos h]; decide
theorem nar_b2i (b : Bool) : nar .boolean (b2i b) = b2i b := by cases b <;> decide
theorem b2i_one {b : Bool} (h : b = true) : nar .boolean (b2i b) = 1 := by rw [h]; decide
end Jvm.OwnKit
namespace Jvm.Pilot.@@N@@
open Jvm Jvm.ClassFile Sem Op Lib Jvm.Free Jvm.Stand Jvm.LawKit Jvm.RoadKit Jvm.OwnKit Bundle Jvm.Pilot.@@N@@.Jvm.D
theorem d2_0 : decode jdk_29_method_65_code 0 = .ok (.iload_n 0, 1) := by decide +kernel
theorem d2_1 : decode jdk_29_method_65_code 1 = .ok (.iload_n 1, 1) := by decide +kernel
theorem d2_2 : decode jdk_29_method_65_code 2 = .ok (.if_icmp .lt 7, 3) := by decide +kernel
theorem d2_5 : decode jdk_29_method_65_code 5 = .ok (.iload_n 0, 1) := by decide +kernel
theorem d2_6 : decode jdk_29_method_65_code 6 = .ok (.goto 4, 3) := by decide +kernel
theorem d2_9 : decode jdk_29_method_65_code 9 = .ok (.iload_n 1, 1) := by decide +kernel
theorem d2_10 : decode jdk_29_method_65_code 10 = .ok (.ireturn, 1) := by decide +kernel
theorem ef_2 (m : MethodId) (x0 : Int32) (x1 : Int32) : entryFrame m #[(.int x0), (.int x1)] 2 = mkF m 0 #[.val (.int x0), .val (.int x1)] [] := by first | (simp [entryFrame, mkF, argsToLocals, Value.category]; done) | rfl
def F2 (p0 : Int32) (p1 : Int32) : Int32 := (if p0 < p1 then p1 else p0)
def Q2 (Z : State) (p0 : Int32) (p1 : Int32) (h0 : Heap) (n0 : Nat) (v : Option Value) (h : Heap) (L : List Loc) : Prop := v = some (.int (F2 p0 p1)) ∧ Fr n0 L ∧ h = h0
set_option maxRecDepth 65536 in
set_option maxHeartbeats 40000000 in
theorem rm2 (l : Launch) (Z : State) (a0 : Array Value) (hw : ∀ d ∈ tables_1, d.before a0 Z = true) (ws : List Jvm.Cond) (p0 : Int32) (p1 : Int32) (h0 : Heap) (n0 : Nat) (Z0 : n0 ≤ h0.size) :
    MetFree l (⟨"java/lang/Math", "max", "(II)I"⟩ : MethodName) (head1 (Jvm.Cond.code (⟨"java/lang/Math", "max", "(II)I"⟩ : MethodName) jdk_29_method_65_code 2 (some .int) :: ws) ({ frames := 0, cells := 0, slots := 0, locals := 0 } : Room)) (fun a U => a = #[(.int p0), (.int p1)] ∧ Z.Warmed39 U.vm ∧ U.heap = h0) (fun _ _ _ _ _ => True) (fun _ U o U' => ∃ v L, o = .returned v ∧ Q2 Z p0 p1 h0 n0 v U'.heap L ∧ FrameEnd U o U' L ({ frames := 0, cells := 0, slots := 0, locals := 0 } : Room).cells ({ frames := 0, cells := 0, slots := 0, locals := 0 } : Room).slots) := by
  refine MetFree.of_bodySF (Jvm.Free.JP.mathPlain rfl (by decide +kernel)) hisR ?_
  intro p e s m args below meth c s₁ Bd hml0 hP hK
  obtain ⟨rfl, hZ, hh⟩ := hP
  have hx := Bd.exec
  have hby := Bd.bytes
  have hml : c.maxLocals = 2 := hml0
  have hown : s.vm.findClass "java/lang/Math" = some m.cls := findClass_of_methodNamed Bd.named
  have hnm := (name_of_methodNamed Bd.named Bd.method).1
  have X0 : Stand p l e ({ frames := 0, cells := 0, slots := 0, locals := 0 } : Room) s m #[(.int p0), (.int p1)] below meth c s₁ [] 0 0 := Stand.of_body Bd
  have e0 : s₁.heap = h0 := by rw [← hh, Bd.state]; rfl
  have N0 := Fr.nil n0
  have pre0 : ∀ t, Steps p.tables e below (s₁.setTop (mkF m 0 #[.val (.int p0), .val (.int p1)] [])) t → Steps p.tables e below (s₁.setTop (entryFrame m #[(.int p0), (.int p1)] 2)) t := fun t k => castTop (ef_2 m p0 p1) k
  have pre1 : ∀ t, Steps p.tables e below (s₁.setTop (mkF m 2 #[.val (.int p0), .val (.int p1)] [(.int p1), (.int p0)])) t → Steps p.tables e below (s₁.setTop (entryFrame m #[(.int p0), (.int p1)] 2)) t := by
    intro t k
    refine pre0 t ?_
    show Steps p.tables e below (s₁.setTop (mkF m 0 #[.val (.int p0), .val (.int p1)] [])) _
    refine XS.iloadN X0.here hx rfl (hb hby d2_0) rfl ?_
    show Steps p.tables e below (s₁.setTop (mkF m 1 #[.val (.int p0), .val (.int p1)] [(.int p0)])) _
    refine XS.iloadN X0.here hx rfl (hb hby d2_1) rfl ?_
    exact k
  have pre2 : ∀ t, Steps p.tables e below (s₁.setTop (mkF m 10 #[.val (.int p0), .val (.int p1)] [(.int (if p0 < p1 then p1 else p0))])) t → Steps p.tables e below (s₁.setTop (entryFrame m #[(.int p0), (.int p1)] 2)) t := by
    intro t k
    refine pre1 t ?_
    have k : ∀ (v1 : Int32), v1 = (if p0 < p1 then p1 else p0) → Steps p.tables e below (s₁.setTop (mkF m 10 #[.val (.int p0), .val (.int p1)] [(.int v1)])) t := fun v1 hv1 => by subst hv1; exact k
    show Steps p.tables e below (s₁.setTop (mkF m 2 #[.val (.int p0), .val (.int p1)] [(.int p1), (.int p0)])) _
    by_cases hc3 : p0 < p1
    · refine XS.icmpYes X0.here hx rfl (pc0 := 2) (pc' := 9) rfl (hb hby d2_2) rfl (tlt hc3).1 (by decide) (by decide) ?_
      have k : ∀ (v1 : Int32), v1 = p1 → Steps p.tables e below (s₁.setTop (mkF m 10 #[.val (.int p0), .val (.int p1)] [(.int v1)])) t := fun v1 hv1 => k v1 (hv1.trans (if_pos hc3).symm)
      show Steps p.tables e below (s₁.setTop (mkF m 9 #[.val (.int p0), .val (.int p1)] [])) _
      refine XS.iloadN X0.here hx rfl (hb hby d2_9) rfl ?_
      exact k _ rfl
    · refine XS.icmpNo X0.here hx rfl (hb hby d2_2) rfl (flt hc3).1 ?_
      have k : ∀ (v1 : Int32), v1 = p0 → Steps p.tables e below (s₁.setTop (mkF m 10 #[.val (.int p0), .val (.int p1)] [(.int v1)])) t := fun v1 hv1 => k v1 (hv1.trans (if_neg hc3).symm)
      show Steps p.tables e below (s₁.setTop (mkF m 5 #[.val (.int p0), .val (.int p1)] [])) _
      refine XS.iloadN X0.here hx rfl (hb hby d2_5) rfl ?_
      show Steps p.tables e below (s₁.setTop (mkF m 6 #[.val (.int p0), .val (.int p1)] [(.int p0)])) _
      refine XS.goto X0.here hx rfl (pc0 := 6) (pc' := 10) rfl (hb hby d2_6) (by decide) (by decide) ?_
      exact k _ rfl
  obtain ⟨fs, hr, hrun, hended, hW, hsame⟩ := X0.leave (v := some (.int (F2 p0 p1))) (fun h => by rw [Bd.returns] at h; cases h)
  refine ⟨_, _, pre2 _ ?_, hrun, hended, _, _, rfl, ?_, ⟨_, rfl⟩, hW, hsame.mono (by decide) (by decide)⟩
  · show Steps p.tables e below (s₁.setTop (mkF m 10 #[.val (.int p0), .val (.int p1)] [(.int (if p0 < p1 then p1 else p0))])) _
    exact retI X0 hx Bd.returns (hb hby d2_10) hr
  · show Q2 Z p0 p1 h0 n0 _ s₁.heap _
    rw [e0]
    exact ⟨rfl, N0, rfl⟩
theorem d1_0 : decode prog_48_method_4_code 0 = .ok (.iconst 1, 1) := by decide +kernel
theorem d1_1 : decode prog_48_method_4_code 1 = .ok (.iload_n 0, 1) := by decide +kernel
theorem d1_2 : decode prog_48_method_4_code 2 = .ok (.sipush 8192, 3) := by decide +kernel
theorem d1_5 : decode prog_48_method_4_code 5 = .ok (.iadd, 1) := by decide +kernel
theorem d1_6 : decode prog_48_method_4_code 6 = .ok (.iconst 1, 1) := by decide +kernel
theorem d1_7 : decode prog_48_method_4_code 7 = .ok (.isub, 1) := by decide +kernel
theorem d1_8 : decode prog_48_method_4_code 8 = .ok (.sipush 8192, 3) := by decide +kernel
theorem d1_11 : decode prog_48_method_4_code 11 = .ok (.idiv, 1) := by decide +kernel
theorem d1_12 : decode prog_48_method_4_code 12 = .ok (.invokestatic 20, 3) := by decide +kernel
theorem d1_15 : decode prog_48_method_4_code 15 = .ok (.ireturn, 1) := by decide +kernel
theorem pn_1 : plainName "com/example/keelstore/keelstore/protocol/Chunks" = true := by first | (simp [plainName, overriddenIn]; done) | decide +kernel
theorem pd_1 : parseMethodDescriptor "(II)I" = some ⟨[.int, .int], some .int⟩ := by decide +kernel
theorem ef_1 (m : MethodId) (x0 : Int32) : entryFrame m #[(.int x0)] 1 = mkF m 0 #[.val (.int x0)] [] := by first | (simp [entryFrame, mkF, argsToLocals, Value.category]; done) | rfl
def F1 (p0 : Int32) : Int32 := (F2 (1 : Int32) (((p0 + (8192 : Int32)) - (1 : Int32)) / (8192 : Int32)))
def Q1 (Z : State) (p0 : Int32) (h0 : Heap) (n0 : Nat) (v : Option Value) (h : Heap) (L : List Loc) : Prop := v = some (.int (F1 p0)) ∧ Fr n0 L ∧ h = h0
set_option maxRecDepth 65536 in
set_option maxHeartbeats 40000000 in
theorem rm1 (l : Launch) (Z : State) (a0 : Array Value) (hw : ∀ d ∈ tables_1, d.before a0 Z = true) (ws : List Jvm.Cond) (p0 : Int32) (h0 : Heap) (n0 : Nat) (Z0 : n0 ≤ h0.size) :
    MetFree l (⟨"com/example/keelstore/keelstore/protocol/Chunks", "slices", "(I)I"⟩ : MethodName) (head1 (Jvm.Cond.code (⟨"com/example/keelstore/keelstore/protocol/Chunks", "slices", "(I)I"⟩ : MethodName) prog_48_method_4_code 1 (some .int) :: ws) ({ frames := 1, cells := 0, slots := 0, locals := 13 } : Room)) (fun a U => a = #[(.int p0)] ∧ Z.Warmed39 U.vm ∧ U.heap = h0) (fun _ _ _ _ _ => True) (fun _ U o U' => ∃ v L, o = .returned v ∧ Q1 Z p0 h0 n0 v U'.heap L ∧ FrameEnd U o U' L ({ frames := 1, cells := 0, slots := 0, locals := 13 } : Room).cells ({ frames := 1, cells := 0, slots := 0, locals := 13 } : Room).slots) := by
  refine MetFree.of_bodySF (plainFor_of_name pn_1) hisR ?_
  intro p e s m args below meth c s₁ Bd hml0 hP hK
  obtain ⟨rfl, hZ, hh⟩ := hP
  have hx := Bd.exec
  have hby := Bd.bytes
  have hml : c.maxLocals = 1 := hml0
  have hown : s.vm.findClass "com/example/keelstore/keelstore/protocol/Chunks" = some m.cls := findClass_of_methodNamed Bd.named
  have hnm := (name_of_methodNamed Bd.named Bd.method).1
  have X0 : Stand p l e ({ frames := 1, cells := 0, slots := 0, locals := 13 } : Room) s m #[(.int p0)] below meth c s₁ [] 0 0 := Stand.of_body Bd
  have e0 : s₁.heap = h0 := by rw [← hh, Bd.state]; rfl
  have N0 := Fr.nil n0
  have pre0 : ∀ t, Steps p.tables e below (s₁.setTop (mkF m 0 #[.val (.int p0)] [])) t → Steps p.tables e below (s₁.setTop (entryFrame m #[(.int p0)] 1)) t := fun t k => castTop (ef_1 m p0) k
  obtain ⟨_, _, ⟨T1, L1, k1, n1⟩, -, X1, ⟨Lc1, hQ1, l1, y1, z1⟩, st1⟩ := Jvm.LawKit.callS X0 hx (y := (⟨"java/lang/Math", "max", "(II)I"⟩ : MethodName)) hown (mvT hZ (hw _ (List.mem_of_getElem? (i := 6) rfl))) (mvT hZ (hw _ (List.mem_of_getElem? (i := 7) rfl))) (mvT hZ (hw _ (List.mem_of_getElem? (i := 8) rfl))) (mvT hZ (hw _ (List.mem_of_getElem? (i := 9) rfl))) (by decide) (backOf (W := 0) (rm2 l Z a0 hw [] (1 : Int32) (((p0 + (8192 : Int32)) - (1 : Int32)) / (8192 : Int32)) h0 n0 Z0) hZ (hw _ (List.mem_of_getElem? (i := 9) rfl)) (hw _ (List.mem_of_getElem? (i := 8) rfl)) (by decide) (by decide)) (g := (mkF m 12 #[.val (.int p0)] [(.int (((p0 + (8192 : Int32)) - (1 : Int32)) / (8192 : Int32))), (.int (1 : Int32))])) rfl (by rw [hml]; rfl) (argsL := [(.int (1 : Int32)), (.int (((p0 + (8192 : Int32)) - (1 : Int32)) / (8192 : Int32)))]) (rest := []) (lenOf pd_1 rfl) rfl (by show 2 * 0 + _ ≤ _; exact Nat.le_of_eq rfl) (hb hby d1_12) (fun _ _ => ⟨rfl, e0, (by decide : 0 + 0 ≤ _), (by decide : 0 + 0 ≤ _)⟩)
  dsimp only [Pt.U, Pt.locs, Pt.cells, Pt.slots] at X1 l1 y1 z1 st1 hQ1
  subst l1 y1 z1
  obtain ⟨rfl, N1q, e1⟩ := hQ1
  have N1 := Fr.app N0 N1q
  have pre2 : ∀ t, Steps p.tables e below (T1.setTop (mkF m 15 #[.val (.int p0)] [(.int (F2 (1 : Int32) (((p0 + (8192 : Int32)) - (1 : Int32)) / (8192 : Int32))))])) t → Steps p.tables e below (s₁.setTop (entryFrame m #[(.int p0)] 1)) t := by
    intro t k
    refine pre0 t ?_
    show Steps p.tables e below (s₁.setTop (mkF m 0 #[.val (.int p0)] [])) _
    refine XS.iconst X0.here hx rfl (hb hby d1_0) ?_
    show Steps p.tables e below (s₁.setTop (mkF m 1 #[.val (.int p0)] [(.int (1 : Int32))])) _
    refine XS.iloadN X0.here hx rfl (hb hby d1_1) rfl ?_
    show Steps p.tables e below (s₁.setTop (mkF m 2 #[.val (.int p0)] [(.int p0), (.int (1 : Int32))])) _
    refine XS.sipush X0.here hx rfl (hb hby d1_2) ?_
    show Steps p.tables e below (s₁.setTop (mkF m 5 #[.val (.int p0)] [(.int (8192 : Int32)), (.int p0), (.int (1 : Int32))])) _
    refine XS.iadd X0.here hx rfl (hb hby d1_5) rfl ?_
    show Steps p.tables e below (s₁.setTop (mkF m 6 #[.val (.int p0)] [(.int (p0 + (8192 : Int32))), (.int (1 : Int32))])) _
    refine XS.iconst X0.here hx rfl (hb hby d1_6) ?_
    show Steps p.tables e below (s₁.setTop (mkF m 7 #[.val (.int p0)] [(.int (1 : Int32)), (.int (p0 + (8192 : Int32))), (.int (1 : Int32))])) _
    refine XS.isub X0.here hx rfl (hb hby d1_7) rfl ?_
    show Steps p.tables e below (s₁.setTop (mkF m 8 #[.val (.int p0)] [(.int ((p0 + (8192 : Int32)) - (1 : Int32))), (.int (1 : Int32))])) _
    refine XS.sipush X0.here hx rfl (hb hby d1_8) ?_
    show Steps p.tables e below (s₁.setTop (mkF m 11 #[.val (.int p0)] [(.int (8192 : Int32)), (.int ((p0 + (8192 : Int32)) - (1 : Int32))), (.int (1 : Int32))])) _
    refine XS.idiv X0.here hx rfl (hb hby d1_11) rfl (by decide) ?_
    show Steps p.tables e below (s₁.setTop (mkF m 12 #[.val (.int p0)] [(.int (((p0 + (8192 : Int32)) - (1 : Int32)) / (8192 : Int32))), (.int (1 : Int32))])) _
    refine st1 _ ?_
    exact k
  obtain ⟨fs, hr, hrun, hended, hW, hsame⟩ := X1.leave (v := some (.int (F1 p0))) (fun h => by rw [Bd.returns] at h; cases h)
  refine ⟨_, _, pre2 _ ?_, hrun, hended, _, _, rfl, ?_, ⟨_, rfl⟩, hW, hsame.mono (by decide) (by decide)⟩
  · show Steps p.tables e below (T1.setTop (mkF m 15 #[.val (.int p0)] [(.int (F2 (1 : Int32) (((p0 + (8192 : Int32)) - (1 : Int32)) / (8192 : Int32))))])) _
    exact retI X1 hx Bd.returns (hb hby d1_15) hr
  · show Q1 Z p0 h0 n0 _ T1.heap _
    rw [e1]
    exact ⟨rfl, N1, rfl⟩
theorem pn_0 : plainName "com/example/keelstore/keelstore/protocol/ChunksSlicesPinLaw" = true := by first | (simp [plainName, overriddenIn]; done) | decide +kernel
theorem pd_0 : parseMethodDescriptor "(I)I" = some ⟨[.int], some .int⟩ := by decide +kernel
theorem ef_0 (m : MethodId) (x0 : Int32) : entryFrame m #[(.int x0)] maxLocals = mkF m 0 #[.val (.int x0), .unset, .unset, .unset, .unset, .unset, .unset] [] := by first | (simp [entryFrame, mkF, argsToLocals, Value.category, maxLocals]; done) | rfl
def v_c (p0 : Int32) : Int32 := ((p0 &&& (2147483647 : Int32)) % (65537 : Int32))
def v_n (p0 : Int32) : Int32 := (F1 (v_c p0))
def v_lo (p0 : Int32) : Int64 := ((((v_n p0) - (1 : Int32)).toInt64) * (8192 : Int64))
def v_hi (p0 : Int32) : Int64 := (((v_n p0).toInt64) * (8192 : Int64))
def lawE1 (p0 : Int32) : Bool := (if (v_c p0) = (0 : Int32) then (if (v_n p0) = (1 : Int32) then true else false) else (if (v_n p0) < (1 : Int32) then false else (if (v_lo p0) < ((v_c p0).toInt64) then (if (v_hi p0) < ((v_c p0).toInt64) then false else true) else false)))
theorem own_vc (x : Int32) : 0 ≤ (v_c x).toInt ∧ (v_c x).toInt ≤ 65536 := by
  have h := c_mask x 2147483647 31 (by decide) (by decide)
  have h2 := (c_irem (x &&& 2147483647) 65537 65537 (by decide)).1 (by omega)
  show 0 ≤ ((x &&& 2147483647) % 65537).toInt ∧ ((x &&& 2147483647) % 65537).toInt ≤ 65536
  omega
theorem own_slices (c : Int32) (h0 : 0 ≤ c.toInt) (h1 : c.toInt ≤ 65536) : (c.toInt = 0 → (F1 c).toInt = 1) ∧ (0 < c.toInt → (F1 c).toInt = (c.toInt + 8191) / 8192) := by
  have a1 := c_iadd c 8192
  have a2 := rng32 (c + 8192)
  have a3 := c_isub (c + 8192) 1
  have a4 := rng32 (c + 8192 - 1)
  have l1 : (8192 : Int32).toInt = 8192 := by decide
  have l2 : (1 : Int32).toInt = 1 := by decide
  have a5 : (c + 8192 - 1).toInt = c.toInt + 8191 := by omega
  have a6 := (c_idiv (c + 8192 - 1) 8192 8192 (by decide) (by decide)).1 (by omega)
  rw [a5] at a6
  unfold F1 F2
  simp only [Int32.lt_iff_toInt_lt, a6, l2]
  split <;> omega
theorem own_law1 (p0 : Int32) : lawE1 p0 = true := by
  obtain ⟨h0, h1⟩ := own_vc p0
  obtain ⟨s0, s1⟩ := own_slices (v_c p0) h0 h1
  have n1 := c_isub (F1 (v_c p0)) 1
  have n2 := rng32 (F1 (v_c p0) - 1)
  have l1 : (1 : Int32).toInt = 1 := by decide
  have l0 : (0 : Int32).toInt = 0 := by decide
  have l2 : (8192 : Int64).toInt = 8192 := by decide
  have m1 := c_lmul (F1 (v_c p0) - 1).toInt64 8192
  have m2 := rng64 ((F1 (v_c p0) - 1).toInt64 * 8192)
  have m3 := c_lmul (F1 (v_c p0)).toInt64 8192
  have m4 := rng64 ((F1 (v_c p0)).toInt64 * 8192)
  rw [c_i2l, l2] at m1 m3
  have d1 : v_n p0 = F1 (v_c p0) := rfl
  have d2 : v_lo p0 = (F1 (v_c p0) - 1).toInt64 * 8192 := rfl
  have d3 : v_hi p0 = (F1 (v_c p0)).toInt64 * 8192 := rfl
  simp only [lawE1, d1, d2, d3, Int32.lt_iff_toInt_lt, Int64.lt_iff_toInt_lt, ← Int32.toInt_inj, c_i2l]
  repeat' split
  all_goals first | rfl | (exfalso; omega)
def Q0 (Z : State) (p0 : Int32) (h0 : Heap) (n0 : Nat) (v : Option Value) (h : Heap) (L : List Loc) : Prop := v = some (.int (1 : Int32)) ∧ Fr n0 L
set_option maxRecDepth 65536 in
set_option maxHeartbeats 40000000 in
theorem rm0 (l : Launch) (Z : State) (a0 : Array Value) (hw : ∀ d ∈ tables_1, d.before a0 Z = true) (ws : List Jvm.Cond) (p0 : Int32) (h0 : Heap) (n0 : Nat) (Z0 : n0 ≤ h0.size) :
    MetFree l x (head1 (Jvm.Cond.code x code maxLocals ret :: ws) room_1) (fun a U => a = #[(.int p0)] ∧ Z.Warmed39 U.vm ∧ U.heap = h0) (fun _ _ _ _ _ => True) (fun _ U o U' => ∃ v L, o = .returned v ∧ Q0 Z p0 h0 n0 v U'.heap L ∧ FrameEnd U o U' L room_1.cells room_1.slots) := by
  refine MetFree.of_bodySF (plainFor_of_name pn_0) hisR ?_
  intro p e s m args below meth c s₁ Bd hml0 hP hK
  obtain ⟨rfl, hZ, hh⟩ := hP
  have hx := Bd.exec
  have hby := Bd.bytes
  have hml : c.maxLocals = 7 := hml0
  have hown : s.vm.findClass "com/example/keelstore/keelstore/protocol/ChunksSlicesPinLaw" = some m.cls := findClass_of_methodNamed Bd.named
  have hnm := (name_of_methodNamed Bd.named Bd.method).1
  have X0 : Stand p l e room_1 s m #[(.int p0)] below meth c s₁ [] 0 0 := Stand.of_body Bd
  have e0 : s₁.heap = h0 := by rw [← hh, Bd.state]; rfl
  have N0 := Fr.nil n0
  have pre0 : ∀ t, Steps p.tables e below (s₁.setTop (mkF m 0 #[.val (.int p0), .unset, .unset, .unset, .unset, .unset, .unset] [])) t → Steps p.tables e below (s₁.setTop (entryFrame m #[(.int p0)] maxLocals)) t := fun t k => castTop (ef_0 m p0) k
  obtain ⟨_, _, ⟨T1, L1, k1, n1⟩, -, X1, ⟨Lc1, hQ1, l1, y1, z1⟩, st1⟩ := Jvm.LawKit.callS X0 hx (y := (⟨"com/example/keelstore/keelstore/protocol/Chunks", "slices", "(I)I"⟩ : MethodName)) hown (mvT hZ (hw _ (List.mem_of_getElem? (i := 2) rfl))) (mvT hZ (hw _ (List.mem_of_getElem? (i := 3) rfl))) (mvT hZ (hw _ (List.mem_of_getElem? (i := 4) rfl))) (mvT hZ (hw _ (List.mem_of_getElem? (i := 5) rfl))) (by decide) (backOf (W := 0) (rm1 l Z a0 hw [] (v_c p0) h0 n0 Z0) hZ (hw _ (List.mem_of_getElem? (i := 5) rfl)) (hw _ (List.mem_of_getElem? (i := 4) rfl)) (by decide) (by decide)) (g := (mkF m 9 #[.val (.int p0), .val (.int (v_c p0)), .unset, .unset, .unset, .unset, .unset] [(.int (v_c p0))])) rfl (by rw [hml]; rfl) (argsL := [(.int (v_c p0))]) (rest := []) (lenOf pd_0 rfl) rfl (by show 2 * 0 + _ ≤ _; exact Nat.le_of_eq rfl) (hb hby at_9) (fun _ _ => ⟨rfl, e0, (by decide : 0 + 0 ≤ _), (by decide : 0 + 0 ≤ _)⟩)
  dsimp only [Pt.U, Pt.locs, Pt.cells, Pt.slots] at X1 l1 y1 z1 st1 hQ1
  subst l1 y1 z1
  obtain ⟨rfl, N1q, e1⟩ := hQ1
  have N1 := Fr.app N0 N1q
  have pre2 : ∀ t, Steps p.tables e below (T1.setTop (mkF m 14 #[.val (.int p0), .val (.int (v_c p0)), .val (.int (v_n p0)), .unset, .unset, .unset, .unset] [(.int (v_c p0))])) t → Steps p.tables e below (s₁.setTop (entryFrame m #[(.int p0)] maxLocals)) t := by
    intro t k
    refine pre0 t ?_
    show Steps p.tables e below (s₁.setTop (mkF m 0 #[.val (.int p0), .unset, .unset, .unset, .unset, .unset, .unset] [])) _
    refine XS.iloadN X0.here hx rfl (hb hby at_0) rfl ?_
    show Steps p.tables e below (s₁.setTop (mkF m 1 #[.val (.int p0), .unset, .unset, .unset, .unset, .unset, .unset] [(.int p0)])) _
    refine X0.ldcInt hx hown (mvT hZ (hw _ (List.mem_of_getElem? (i := 0) rfl))) (g := (mkF m 1 #[.val (.int p0), .unset, .unset, .unset, .unset, .unset, .unset] [(.int p0)])) rfl (hb hby at_1) _ ?_
    show Steps p.tables e below (s₁.setTop (mkF m 3 #[.val (.int p0), .unset, .unset, .unset, .unset, .unset, .unset] [(.int (2147483647 : Int32)), (.int p0)])) _
    refine XS.iand X0.here hx rfl (hb hby at_3) rfl ?_
    show Steps p.tables e below (s₁.setTop (mkF m 4 #[.val (.int p0), .unset, .unset, .unset, .unset, .unset, .unset] [(.int (p0 &&& (2147483647 : Int32)))])) _
    refine X0.ldcInt hx hown (mvT hZ (hw _ (List.mem_of_getElem? (i := 1) rfl))) (g := (mkF m 4 #[.val (.int p0), .unset, .unset, .unset, .unset, .unset, .unset] [(.int (p0 &&& (2147483647 : Int32)))])) rfl (hb hby at_4) _ ?_
    show Steps p.tables e below (s₁.setTop (mkF m 6 #[.val (.int p0), .unset, .unset, .unset, .unset, .unset, .unset] [(.int (65537 : Int32)), (.int (p0 &&& (2147483647 : Int32)))])) _
    refine iremM X0 hx rfl (hb hby at_6) rfl (by decide) ?_
    show Steps p.tables e below (s₁.setTop (mkF m 7 #[.val (.int p0), .unset, .unset, .unset, .unset, .unset, .unset] [(.int ((p0 &&& (2147483647 : Int32)) % (65537 : Int32)))])) _
    refine XS.istoreN X0.here hx rfl (hb hby at_7) rfl (l' := #[.val (.int p0), .val (.int (v_c p0)), .unset, .unset, .unset, .unset, .unset]) rfl ?_
    show Steps p.tables e below (s₁.setTop (mkF m 8 #[.val (.int p0), .val (.int (v_c p0)), .unset, .unset, .unset, .unset, .unset] [])) _
    refine XS.iloadN X0.here hx rfl (hb hby at_8) rfl ?_
    show Steps p.tables e below (s₁.setTop (mkF m 9 #[.val (.int p0), .val (.int (v_c p0)), .unset, .unset, .unset, .unset, .unset] [(.int (v_c p0))])) _
    refine st1 _ ?_
    show Steps p.tables e below (T1.setTop (mkF m 12 #[.val (.int p0), .val (.int (v_c p0)), .unset, .unset, .unset, .unset, .unset] [(.int (F1 (v_c p0)))])) _
    refine XS.istoreN X1.here hx rfl (hb hby at_12) rfl (l' := #[.val (.int p0), .val (.int (v_c p0)), .val (.int (v_n p0)), .unset, .unset, .unset, .unset]) rfl ?_
    show Steps p.tables e below (T1.setTop (mkF m 13 #[.val (.int p0), .val (.int (v_c p0)), .val (.int (v_n p0)), .unset, .unset, .unset, .unset] [])) _
    refine XS.iloadN X1.here hx rfl (hb hby at_13) rfl ?_
    exact k
  have hlaw : (if (v_c p0) = (0 : Int32) then (if (v_n p0) = (1 : Int32) then true else false) else (if (v_n p0) < (1 : Int32) then false else (if (v_lo p0) < ((v_c p0).toInt64) then (if (v_hi p0) < ((v_c p0).toInt64) then false else true) else false))) = true := own_law1 p0
  obtain ⟨fs, hr, hrun, hended, hW, hsame⟩ := X1.leave (v := some (.int (1 : Int32))) (fun h => by rw [Bd.returns] at h; cases h)
  refine ⟨_, _, pre2 _ ?_, hrun, hended, _, _, rfl, ?_, ⟨_, rfl⟩, hW, hsame.mono (by decide) (by decide)⟩
  · have k : ∀ (v1 : Bool), v1 = (if (v_c p0) = (0 : Int32) then (if (v_n p0) = (1 : Int32) then true else false) else (if (v_n p0) < (1 : Int32) then false else (if (v_lo p0) < ((v_c p0).toInt64) then (if (v_hi p0) < ((v_c p0).toInt64) then false else true) else false))) → ∀ (f : JFrame) (acts : List Action), f.method = m → f.locked = none → f.entered = [] → (doReturn e (T1.setTop f) acts (some (.int (b2i v1)))).1 = T1.setFrames fs := fun v1 hv1 => by rw [hv1.trans hlaw]; exact hr
    have nd3 : (∀ (v1 : Bool), v1 = false → ∀ (f : JFrame) (acts : List Action), f.method = m → f.locked = none → f.entered = [] → (doReturn e (T1.setTop f) acts (some (.int (b2i v1)))).1 = T1.setFrames fs) → Steps p.tables e below (T1.setTop (mkF m 71 #[.val (.int p0), .val (.int (v_c p0)), .val (.int (v_n p0)), .val (.long (v_lo p0)), .second, .val (.long (v_hi p0)), .second] [])) (T1.setFrames fs) := by
      intro k
      show Steps p.tables e below (T1.setTop (mkF m 71 #[.val (.int p0), .val (.int (v_c p0)), .val (.int (v_n p0)), .val (.long (v_lo p0)), .second, .val (.long (v_hi p0)), .second] [])) _
      refine XS.iconst X1.here hx rfl (hb hby at_71) ?_
      show Steps p.tables e below (T1.setTop (mkF m 72 #[.val (.int p0), .val (.int (v_c p0)), .val (.int (v_n p0)), .val (.long (v_lo p0)), .second, .val (.long (v_hi p0)), .second] [(.int (0 : Int32))])) _
      exact retN X1 hx (t := .boolean) Bd.returns (by simp) (hb hby at_72) (k false rfl)
    show Steps p.tables e below (T1.setTop (mkF m 14 #[.val (.int p0), .val (.int (v_c p0)), .val (.int (v_n p0)), .unset, .unset, .unset, .unset] [(.int (v_c p0))])) _
    by_cases hc4 : (v_c p0) = (0 : Int32)
    · refine XS.ifNo X1.here hx rfl (hb hby at_14) rfl ((if0 _ _).trans (teq hc4).2) ?_
      have k : ∀ (v1 : Bool), v1 = (if (v_n p0) = (1 : Int32) then true else false) → ∀ (f : JFrame) (acts : List Action), f.method = m → f.locked = none → f.entered = [] → (doReturn e (T1.setTop f) acts (some (.int (b2i v1)))).1 = T1.setFrames fs := fun v1 hv1 => k v1 (hv1.trans (if_pos hc4).symm)
      show Steps p.tables e below (T1.setTop (mkF m 17 #[.val (.int p0), .val (.int (v_c p0)), .val (.int (v_n p0)), .unset, .unset, .unset, .unset] [])) _
      refine XS.iloadN X1.here hx rfl (hb hby at_17) rfl ?_
      show Steps p.tables e below (T1.setTop (mkF m 18 #[.val (.int p0), .val (.int (v_c p0)), .val (.int (v_n p0)), .unset, .unset, .unset, .unset] [(.int (v_n p0))])) _
      refine XS.iconst X1.here hx rfl (hb hby at_18) ?_
      show Steps p.tables e below (T1.setTop (mkF m 19 #[.val (.int p0), .val (.int (v_c p0)), .val (.int (v_n p0)), .unset, .unset, .unset, .unset] [(.int (1 : Int32)), (.int (v_n p0))])) _
      by_cases hc5 : (v_n p0) = (1 : Int32)
      · refine XS.icmpNo X1.here hx rfl (hb hby at_19) rfl (teq hc5).2 ?_
        have k : ∀ (v1 : Bool), v1 = true → ∀ (f : JFrame) (acts : List Action), f.method = m → f.locked = none → f.entered = [] → (doReturn e (T1.setTop f) acts (some (.int (b2i v1)))).1 = T1.setFrames fs := fun v1 hv1 => k v1 (hv1.trans (if_pos hc5).symm)
        show Steps p.tables e below (T1.setTop (mkF m 22 #[.val (.int p0), .val (.int (v_c p0)), .val (.int (v_n p0)), .unset, .unset, .unset, .unset] [])) _
        refine XS.iconst X1.here hx rfl (hb hby at_22) ?_
        show Steps p.tables e below (T1.setTop (mkF m 23 #[.val (.int p0), .val (.int (v_c p0)), .val (.int (v_n p0)), .unset, .unset, .unset, .unset] [(.int (1 : Int32))])) _
        refine XS.goto X1.here hx rfl (pc0 := 23) (pc' := 27) rfl (hb hby at_23) (by decide) (by decide) ?_
        show Steps p.tables e below (T1.setTop (mkF m 27 #[.val (.int p0), .val (.int (v_c p0)), .val (.int (v_n p0)), .unset, .unset, .unset, .unset] [(.int (1 : Int32))])) _
        exact retN X1 hx (t := .boolean) Bd.returns (by simp) (hb hby at_27) (k true rfl)
      · refine XS.icmpYes X1.here hx rfl (pc0 := 19) (pc' := 26) rfl (hb hby at_19) rfl (feq hc5).2 (by decide) (by decide) ?_
        have k : ∀ (v1 : Bool), v1 = false → ∀ (f : JFrame) (acts : List Action), f.method = m → f.locked = none → f.entered = [] → (doReturn e (T1.setTop f) acts (some (.int (b2i v1)))).1 = T1.setFrames fs := fun v1 hv1 => k v1 (hv1.trans (if_neg hc5).symm)
        show Steps p.tables e below (T1.setTop (mkF m 26 #[.val (.int p0), .val (.int (v_c p0)), .val (.int (v_n p0)), .unset, .unset, .unset, .unset] [])) _
        refine XS.iconst X1.here hx rfl (hb hby at_26) ?_
        show Steps p.tables e below (T1.setTop (mkF m 27 #[.val (.int p0), .val (.int (v_c p0)), .val (.int (v_n p0)), .unset, .unset, .unset, .unset] [(.int (0 : Int32))])) _
        exact retN X1 hx (t := .boolean) Bd.returns (by simp) (hb hby at_27) (k false rfl)
    · refine XS.ifYes X1.here hx rfl (pc0 := 14) (pc' := 28) rfl (hb hby at_14) rfl ((if0 _ _).trans (feq hc4).2) (by decide) (by decide) ?_
      have k : ∀ (v1 : Bool), v1 = (if (v_n p0) < (1 : Int32) then false else (if (v_lo p0) < ((v_c p0).toInt64) then (if (v_hi p0) < ((v_c p0).toInt64) then false else true) else false)) → ∀ (f : JFrame) (acts : List Action), f.method = m → f.locked = none → f.entered = [] → (doReturn e (T1.setTop f) acts (some (.int (b2i v1)))).1 = T1.setFrames fs := fun v1 hv1 => k v1 (hv1.trans (if_neg hc4).symm)
      show Steps p.tables e below (T1.setTop (mkF m 28 #[.val (.int p0), .val (.int (v_c p0)), .val (.int (v_n p0)), .unset, .unset, .unset, .unset] [])) _
      refine XS.iloadN X1.here hx rfl (hb hby at_28) rfl ?_
      show Steps p.tables e below (T1.setTop (mkF m 29 #[.val (.int p0), .val (.int (v_c p0)), .val (.int (v_n p0)), .unset, .unset, .unset, .unset] [(.int (v_n p0))])) _
      refine XS.iconst X1.here hx rfl (hb hby at_29) ?_
      show Steps p.tables e below (T1.setTop (mkF m 30 #[.val (.int p0), .val (.int (v_c p0)), .val (.int (v_n p0)), .unset, .unset, .unset, .unset] [(.int (1 : Int32)), (.int (v_n p0))])) _
      by_cases hc6 : (v_n p0) < (1 : Int32)
      · refine XS.icmpNo X1.here hx rfl (hb hby at_30) rfl (tlt hc6).2.1 ?_
        have k : ∀ (v1 : Bool), v1 = false → ∀ (f : JFrame) (acts : List Action), f.method = m → f.locked = none → f.entered = [] → (doReturn e (T1.setTop f) acts (some (.int (b2i v1)))).1 = T1.setFrames fs := fun v1 hv1 => k v1 (hv1.trans (if_pos hc6).symm)
        show Steps p.tables e below (T1.setTop (mkF m 33 #[.val (.int p0), .val (.int (v_c p0)), .val (.int (v_n p0)), .unset, .unset, .unset, .unset] [])) _
        refine XS.iconst X1.here hx rfl (hb hby at_33) ?_
        show Steps p.tables e below (T1.setTop (mkF m 34 #[.val (.int p0), .val (.int (v_c p0)), .val (.int (v_n p0)), .unset, .unset, .unset, .unset] [(.int (0 : Int32))])) _
        exact retN X1 hx (t := .boolean) Bd.returns (by simp) (hb hby at_34) (k false rfl)
      · refine XS.icmpYes X1.here hx rfl (pc0 := 30) (pc' := 35) rfl (hb hby at_30) rfl (flt hc6).2.1 (by decide) (by decide) ?_
        have k : ∀ (v1 : Bool), v1 = (if (v_lo p0) < ((v_c p0).toInt64) then (if (v_hi p0) < ((v_c p0).toInt64) then false else true) else false) → ∀ (f : JFrame) (acts : List Action), f.method = m → f.locked = none → f.entered = [] → (doReturn e (T1.setTop f) acts (some (.int (b2i v1)))).1 = T1.setFrames fs := fun v1 hv1 => k v1 (hv1.trans (if_neg hc6).symm)
        show Steps p.tables e below (T1.setTop (mkF m 35 #[.val (.int p0), .val (.int (v_c p0)), .val (.int (v_n p0)), .unset, .unset, .unset, .unset] [])) _
        refine XS.iloadN X1.here hx rfl (hb hby at_35) rfl ?_
        show Steps p.tables e below (T1.setTop (mkF m 36 #[.val (.int p0), .val (.int (v_c p0)), .val (.int (v_n p0)), .unset, .unset, .unset, .unset] [(.int (v_n p0))])) _
        refine XS.iconst X1.here hx rfl (hb hby at_36) ?_
        show Steps p.tables e below (T1.setTop (mkF m 37 #[.val (.int p0), .val (.int (v_c p0)), .val (.int (v_n p0)), .unset, .unset, .unset, .unset] [(.int (1 : Int32)), (.int (v_n p0))])) _
        refine XS.isub X1.here hx rfl (hb hby at_37) rfl ?_
        show Steps p.tables e below (T1.setTop (mkF m 38 #[.val (.int p0), .val (.int (v_c p0)), .val (.int (v_n p0)), .unset, .unset, .unset, .unset] [(.int ((v_n p0) - (1 : Int32)))])) _
        refine XS.i2l X1.here hx rfl (hb hby at_38) rfl ?_
        show Steps p.tables e below (T1.setTop (mkF m 39 #[.val (.int p0), .val (.int (v_c p0)), .val (.int (v_n p0)), .unset, .unset, .unset, .unset] [(.long (((v_n p0) - (1 : Int32)).toInt64))])) _
        refine X1.ldc2Long hx hown (mvT hZ (hw _ (List.mem_of_getElem? (i := 10) rfl))) (g := (mkF m 39 #[.val (.int p0), .val (.int (v_c p0)), .val (.int (v_n p0)), .unset, .unset, .unset, .unset] [(.long (((v_n p0) - (1 : Int32)).toInt64))])) rfl (hb hby at_39) _ ?_
        show Steps p.tables e below (T1.setTop (mkF m 42 #[.val (.int p0), .val (.int (v_c p0)), .val (.int (v_n p0)), .unset, .unset, .unset, .unset] [(.long (8192 : Int64)), (.long (((v_n p0) - (1 : Int32)).toInt64))])) _
        refine XS.lmul X1.here hx rfl (hb hby at_42) rfl ?_
        show Steps p.tables e below (T1.setTop (mkF m 43 #[.val (.int p0), .val (.int (v_c p0)), .val (.int (v_n p0)), .unset, .unset, .unset, .unset] [(.long ((((v_n p0) - (1 : Int32)).toInt64) * (8192 : Int64)))])) _
        refine XS.lstoreN X1.here hx rfl (hb hby at_43) rfl (l' := #[.val (.int p0), .val (.int (v_c p0)), .val (.int (v_n p0)), .val (.long (v_lo p0)), .second, .unset, .unset]) rfl ?_
        show Steps p.tables e below (T1.setTop (mkF m 44 #[.val (.int p0), .val (.int (v_c p0)), .val (.int (v_n p0)), .val (.long (v_lo p0)), .second, .unset, .unset] [])) _
        refine XS.iloadN X1.here hx rfl (hb hby at_44) rfl ?_
        show Steps p.tables e below (T1.setTop (mkF m 45 #[.val (.int p0), .val (.int (v_c p0)), .val (.int (v_n p0)), .val (.long (v_lo p0)), .second, .unset, .unset] [(.int (v_n p0))])) _
        refine XS.i2l X1.here hx rfl (hb hby at_45) rfl ?_
        show Steps p.tables e below (T1.setTop (mkF m 46 #[.val (.int p0), .val (.int (v_c p0)), .val (.int (v_n p0)), .val (.long (v_lo p0)), .second, .unset, .unset] [(.long ((v_n p0).toInt64))])) _
        refine X1.ldc2Long hx hown (mvT hZ (hw _ (List.mem_of_getElem? (i := 10) rfl))) (g := (mkF m 46 #[.val (.int p0), .val (.int (v_c p0)), .val (.int (v_n p0)), .val (.long (v_lo p0)), .second, .unset, .unset] [(.long ((v_n p0).toInt64))])) rfl (hb hby at_46) _ ?_
        show Steps p.tables e below (T1.setTop (mkF m 49 #[.val (.int p0), .val (.int (v_c p0)), .val (.int (v_n p0)), .val (.long (v_lo p0)), .second, .unset, .unset] [(.long (8192 : Int64)), (.long ((v_n p0).toInt64))])) _
        refine XS.lmul X1.here hx rfl (hb hby at_49) rfl ?_
        show Steps p.tables e below (T1.setTop (mkF m 50 #[.val (.int p0), .val (.int (v_c p0)), .val (.int (v_n p0)), .val (.long (v_lo p0)), .second, .unset, .unset] [(.long (((v_n p0).toInt64) * (8192 : Int64)))])) _
        refine XS.lstore X1.here hx rfl (hb hby at_50) rfl (l' := #[.val (.int p0), .val (.int (v_c p0)), .val (.int (v_n p0)), .val (.long (v_lo p0)), .second, .val (.long (v_hi p0)), .second]) rfl ?_
        show Steps p.tables e below (T1.setTop (mkF m 52 #[.val (.int p0), .val (.int (v_c p0)), .val (.int (v_n p0)), .val (.long (v_lo p0)), .second, .val (.long (v_hi p0)), .second] [])) _
        refine XS.lloadN X1.here hx rfl (hb hby at_52) rfl ?_
        show Steps p.tables e below (T1.setTop (mkF m 53 #[.val (.int p0), .val (.int (v_c p0)), .val (.int (v_n p0)), .val (.long (v_lo p0)), .second, .val (.long (v_hi p0)), .second] [(.long (v_lo p0))])) _
        refine XS.iloadN X1.here hx rfl (hb hby at_53) rfl ?_
        show Steps p.tables e below (T1.setTop (mkF m 54 #[.val (.int p0), .val (.int (v_c p0)), .val (.int (v_n p0)), .val (.long (v_lo p0)), .second, .val (.long (v_hi p0)), .second] [(.int (v_c p0)), (.long (v_lo p0))])) _
        refine XS.i2l X1.here hx rfl (hb hby at_54) rfl ?_
        show Steps p.tables e below (T1.setTop (mkF m 55 #[.val (.int p0), .val (.int (v_c p0)), .val (.int (v_n p0)), .val (.long (v_lo p0)), .second, .val (.long (v_hi p0)), .second] [(.long ((v_c p0).toInt64)), (.long (v_lo p0))])) _
        refine XS.lcmp X1.here hx rfl (hb hby at_55) rfl ?_
        show Steps p.tables e below (T1.setTop (mkF m 56 #[.val (.int p0), .val (.int (v_c p0)), .val (.int (v_n p0)), .val (.long (v_lo p0)), .second, .val (.long (v_hi p0)), .second] [(.int (lcmpW (v_lo p0) ((v_c p0).toInt64)))])) _
        by_cases hc7 : (v_lo p0) < ((v_c p0).toInt64)
        · refine XS.ifNo X1.here hx rfl (hb hby at_56) rfl ((if0 _ _).trans (tlt ((lw_lt _ _).mpr hc7)).2.1) ?_
          have k : ∀ (v1 : Bool), v1 = (if (v_hi p0) < ((v_c p0).toInt64) then false else true) → ∀ (f : JFrame) (acts : List Action), f.method = m → f.locked = none → f.entered = [] → (doReturn e (T1.setTop f) acts (some (.int (b2i v1)))).1 = T1.setFrames fs := fun v1 hv1 => k v1 (hv1.trans (if_pos hc7).symm)
          show Steps p.tables e below (T1.setTop (mkF m 59 #[.val (.int p0), .val (.int (v_c p0)), .val (.int (v_n p0)), .val (.long (v_lo p0)), .second, .val (.long (v_hi p0)), .second] [])) _
          refine XS.iloadN X1.here hx rfl (hb hby at_59) rfl ?_
          show Steps p.tables e below (T1.setTop (mkF m 60 #[.val (.int p0), .val (.int (v_c p0)), .val (.int (v_n p0)), .val (.long (v_lo p0)), .second, .val (.long (v_hi p0)), .second] [(.int (v_c p0))])) _
          refine XS.i2l X1.here hx rfl (hb hby at_60) rfl ?_
          show Steps p.tables e below (T1.setTop (mkF m 61 #[.val (.int p0), .val (.int (v_c p0)), .val (.int (v_n p0)), .val (.long (v_lo p0)), .second, .val (.long (v_hi p0)), .second] [(.long ((v_c p0).toInt64))])) _
          refine XS.lload X1.here hx rfl (hb hby at_61) rfl ?_
          show Steps p.tables e below (T1.setTop (mkF m 63 #[.val (.int p0), .val (.int (v_c p0)), .val (.int (v_n p0)), .val (.long (v_lo p0)), .second, .val (.long (v_hi p0)), .second] [(.long (v_hi p0)), (.long ((v_c p0).toInt64))])) _
          refine XS.lcmp X1.here hx rfl (hb hby at_63) rfl ?_
          show Steps p.tables e below (T1.setTop (mkF m 64 #[.val (.int p0), .val (.int (v_c p0)), .val (.int (v_n p0)), .val (.long (v_lo p0)), .second, .val (.long (v_hi p0)), .second] [(.int (lcmpW ((v_c p0).toInt64) (v_hi p0)))])) _
          by_cases hc8 : (v_hi p0) < ((v_c p0).toInt64)
          · refine XS.ifYes X1.here hx rfl (pc0 := 64) (pc' := 71) rfl (hb hby at_64) rfl ((if0 _ _).trans (tlt ((lw_gt _ _).mpr hc8)).2.2.1) (by decide) (by decide) ?_
            have k : ∀ (v1 : Bool), v1 = false → ∀ (f : JFrame) (acts : List Action), f.method = m → f.locked = none → f.entered = [] → (doReturn e (T1.setTop f) acts (some (.int (b2i v1)))).1 = T1.setFrames fs := fun v1 hv1 => k v1 (hv1.trans (if_pos hc8).symm)
            exact nd3 k
          · refine XS.ifNo X1.here hx rfl (hb hby at_64) rfl ((if0 _ _).trans (flt (fun q => hc8 ((lw_gt _ _).mp q))).2.2.1) ?_
            have k : ∀ (v1 : Bool), v1 = true → ∀ (f : JFrame) (acts : List Action), f.method = m → f.locked = none → f.entered = [] → (doReturn e (T1.setTop f) acts (some (.int (b2i v1)))).1 = T1.setFrames fs := fun v1 hv1 => k v1 (hv1.trans (if_neg hc8).symm)
            show Steps p.tables e below (T1.setTop (mkF m 67 #[.val (.int p0), .val (.int (v_c p0)), .val (.int (v_n p0)), .val (.long (v_lo p0)), .second, .val (.long (v_hi p0)), .second] [])) _
            refine XS.iconst X1.here hx rfl (hb hby at_67) ?_
            show Steps p.tables e below (T1.setTop (mkF m 68 #[.val (.int p0), .val (.int (v_c p0)), .val (.int (v_n p0)), .val (.long (v_lo p0)), .second, .val (.long (v_hi p0)), .second] [(.int (1 : Int32))])) _
            refine XS.goto X1.here hx rfl (pc0 := 68) (pc' := 72) rfl (hb hby at_68) (by decide) (by decide) ?_
            show Steps p.tables e below (T1.setTop (mkF m 72 #[.val (.int p0), .val (.int (v_c p0)), .val (.int (v_n p0)), .val (.long (v_lo p0)), .second, .val (.long (v_hi p0)), .second] [(.int (1 : Int32))])) _
            exact retN X1 hx (t := .boolean) Bd.returns (by simp) (hb hby at_72) (k true rfl)
        · refine XS.ifYes X1.here hx rfl (pc0 := 56) (pc' := 71) rfl (hb hby at_56) rfl ((if0 _ _).trans (flt (fun q => hc7 ((lw_lt _ _).mp q))).2.1) (by decide) (by decide) ?_
          have k : ∀ (v1 : Bool), v1 = false → ∀ (f : JFrame) (acts : List Action), f.method = m → f.locked = none → f.entered = [] → (doReturn e (T1.setTop f) acts (some (.int (b2i v1)))).1 = T1.setFrames fs := fun v1 hv1 => k v1 (hv1.trans (if_neg hc7).symm)
          exact nd3 k
  · show Q0 Z p0 h0 n0 _ T1.heap _
    rw [e1]
    exact ⟨rfl, N1⟩
set_option maxRecDepth 65536 in
set_option maxHeartbeats 40000000 in
theorem comes_1 {Post : Tables → Env → Array Value → State → Outcome → State → Prop} (hpost : ∀ tb e args s v u, (limb_1_1.after args s (.returned v) u = true ∧ limb_1_2.after args s (.returned v) u = true ∧ True) → FrameEnd s (.returned v) u (Jvm.fieldLocs frame_1_writes args s ++ Jvm.arrayLocs frame_1_arrays args s ++ Jvm.staticLocs frame_1_statics s) 0 0 → Post tb e args s (.returned v) u) :
    ArmFor flags0 classFile x code maxLocals ret World_1 tables_1 room_1 Calls_1 rest_1 Pre_1 Post := by
  intro l hfl _ _ p e ha hc hk s m args below hf hA hF happ hP
  obtain ⟨hcalls, hrest, hpre⟩ := hP
  obtain ⟨-, -, -, hnamed, -, -, -, hat⟩ := (Spec.applies_iff hf).mp happ
  obtain ⟨hg, hn⟩ := and_e (Cond.before_iff.mp (show (Jvm.Cond.and given_1 narrow_1).before args s = true from hpre))
  obtain ⟨g1, g2⟩ := and_e hg
  obtain ⟨w0, rfl⟩ : ∃ w0 : Value, args = #[w0] := by
    have hs : args.size = 1 := by simpa [Cond.value, given_1] using g1
    obtain ⟨L⟩ := args
    match L, hs with
    | [w0], _ => exact ⟨w0, rfl⟩
  have hw := fun d (hd : d ∈ tables_1) => atoms_spec (ws := Jvm.Cond.code x code maxLocals ret :: tables_1) hat d (List.mem_cons_of_mem _ hd)
  obtain ⟨i0, ei0⟩ := is_v g2
  obtain rfl : w0 = (.int i0) := Option.some.inj ei0
  obtain ⟨n, o, h1, h2, h3, _, L, rfl, ⟨rfl, N⟩, hq⟩ := rm0 l s _ hw tables_1 i0 s.heap s.heap.size (Nat.le_refl _) p e ha hc hk s m _ below hf ((Spec.applies_iff_loose hf).mp happ).1 ⟨rfl, State.Warmed39.refl s, rfl⟩ trivial
  refine ⟨n, _, h1, h2, h3, hpost _ _ _ _ _ _ ⟨Cond.after_iff.mpr rfl, Cond.after_iff.mpr (eq_i res_at (Term.int_eval (1)) rfl), trivial⟩ ⟨hq.1, hq.2.1, (hq.2.2.sift fun y hy => Or.inr (N y hy)).mono (by decide) (by decide)⟩⟩
theorem main_1_1 : Claimed_1_1 := comes_1 fun _ _ _ _ _ _ h hF => ⟨h.1, hF⟩
theorem main_1_2 : Claimed_1_2 := comes_1 fun _ _ _ _ _ _ h hF => ⟨h.2.1, hF⟩
end Jvm.Pilot.@@N@@
namespace Jvm.Pilot.@@N@@
open Jvm Jvm.ClassFile Sem Op Lib Jvm.Free Jvm.Stand Jvm.Pilot.@@N@@.Jvm.D
/-! MADE BY PROGRAM (witnessworld.py) out of the Statement's table words and the real class files: 10 classes; the members and pool entries that the words name. The judged class is class 1, her method 1. -/
namespace start1
open Jvm.ClassFile
def u (s : String) : CpInfo := .utf8 (stringToUtf16 s)
/-- a pool by its gaps: so many unusable entries, then the entry; so many at the end -/
def gap : Nat → List CpInfo → List CpInfo
  | 0, r => r
  | n + 1, r => .unusable :: gap n r
def poolList (es : List (Nat × CpInfo)) (last : Nat) : List CpInfo := es.foldr (fun e r => gap e.1 (e.2 :: r)) (gap last [])
def pool (es : List (Nat × CpInfo)) (last : Nat) : Array CpInfo := ⟨poolList es last⟩
def fileOf (pool : Array CpInfo) (this : Nat) (attrs : Array Attribute := #[]) (ms : Array MethodInfo := #[]) (fl : Nat := 33) (sup : Nat := 0) (ifs : Array Nat := #[]) (fds : Array FieldInfo := #[]) : ClassFile where
  minorVersion := 0
  majorVersion := 65
  constantPool := pool
  accessFlags := fl
  thisClass := this
  superClass := sup
  interfaces := ifs
  fields := fds
  methods := ms
  attributes := attrs
def plain (name : String) (sup : Option ClassId) : Class where
  name := name
  kind := .ordinary
  loader := none
  accessFlags := 33
  super := sup
  interfaces := #[]
  cf := none
  fields := #[]
  methods := #[]
  instanceTypes := #[]
  staticTypes := #[]
  resolved := #[]
  callSites := []
  init := .initialized
  statics := none
  mirror := none

def pool0 : Array CpInfo := pool [(5, u "<init>"), (0, u "()V"), (1, .class_ 10), (1, u "java/lang/Object")] 113

def k0m0 : Method := { name := "<init>", desc := "()V", sig := { parameters := [], returnType := none }, accessFlags := 1, code := none }
/-- java/lang/Object -/
def k0 : Class := { plain "java/lang/Object" none with
  accessFlags := 33
  interfaces := #[]
  cf := some (fileOf pool0 8 #[] #[{ accessFlags := 1, nameIndex := 5, descriptorIndex := 6, attributes := #[] }] 33 0 #[] #[])
  fields := #[]
  methods := #[k0m0]
  instanceTypes := #[]
  staticTypes := #[]
  resolved := Array.replicate 124 none
  statics := none }

def pool1 : Array CpInfo := pool [(2, .class_ 4), (1, u "java/lang/Object"), (0, u "<init>"), (0, u "()V"), (0, .integer 2147483647), (0, .integer 65537), (0, .methodref 10 11), (0, .class_ 12), (0, .nameAndType 13 14), (0, u "com/example/keelstore/keelstore/protocol/Chunks"), (0, u "slices"), (0, u "(I)I"), (0, .long 8192), (1, .class_ 18), (0, u "com/example/keelstore/keelstore/protocol/ChunksSlicesPinLaw"), (2, u "law"), (0, u "(I)Z")] 3

def k1m0 : Method := { name := "<init>", desc := "()V", sig := { parameters := [], returnType := none }, accessFlags := 2, code := none }
def k1c1 : Code := { maxStack := 4, maxLocals := 7, code := code, exceptionTable := #[], attributes := #[] }
def k1m1 : Method := { name := "law", desc := "(I)Z", sig := { parameters := [.int], returnType := some .boolean }, accessFlags := 9, code := some k1c1 }
/-- com/example/keelstore/keelstore/protocol/ChunksSlicesPinLaw -/
def k1 : Class := { plain "com/example/keelstore/keelstore/protocol/ChunksSlicesPinLaw" (some 0) with
  accessFlags := 49
  interfaces := #[]
  cf := some (fileOf pool1 17 #[] #[{ accessFlags := 2, nameIndex := 5, descriptorIndex := 6, attributes := #[] }, { accessFlags := 9, nameIndex := 21, descriptorIndex := 22, attributes := #[] }] 49 2 #[] #[])
  fields := #[]
  methods := #[k1m0, k1m1]
  instanceTypes := #[]
  staticTypes := #[]
  resolved := Array.replicate 26 none
  statics := none }

def pool2 : Array CpInfo := pool [(2, .class_ 4), (1, u "java/lang/Object"), (0, u "<init>"), (0, u "()V"), (0, .class_ 8), (0, u "com/example/keelstore/keelstore/protocol/Chunks"), (3, .class_ 14), (1, u "java/lang/Math"), (0, u "max"), (4, .methodref 12 21), (0, .nameAndType 15 22), (0, u "(II)I"), (0, u "SIZE"), (0, u "I"), (2, u "SLICE"), (1, u "PER_DELETE"), (8, u "slices"), (0, u "(I)I")] 2

def k2m0 : Method := { name := "<init>", desc := "()V", sig := { parameters := [], returnType := none }, accessFlags := 2, code := none }
def k2c1 : Code := { maxStack := 3, maxLocals := 1, code := prog_48_method_4_code, exceptionTable := #[], attributes := #[] }
def k2m1 : Method := { name := "slices", desc := "(I)I", sig := { parameters := [.int], returnType := some .int }, accessFlags := 9, code := some k2c1 }
/-- com/example/keelstore/keelstore/protocol/Chunks -/
def k2 : Class := { plain "com/example/keelstore/keelstore/protocol/Chunks" (some 0) with
  accessFlags := 49
  interfaces := #[]
  cf := some (fileOf pool2 7 #[] #[{ accessFlags := 2, nameIndex := 5, descriptorIndex := 6, attributes := #[] }, { accessFlags := 9, nameIndex := 38, descriptorIndex := 39, attributes := #[] }] 49 2 #[] #[{ accessFlags := 25, nameIndex := 23, descriptorIndex := 24, attributes := #[] }, { accessFlags := 25, nameIndex := 27, descriptorIndex := 24, attributes := #[] }, { accessFlags := 25, nameIndex := 29, descriptorIndex := 24, attributes := #[] }])
  fields := #[{ name := "SIZE", type := .int, accessFlags := 25, slot := 0, constantValue := 0 }, { name := "SLICE", type := .int, accessFlags := 25, slot := 1, constantValue := 0 }, { name := "PER_DELETE", type := .int, accessFlags := 25, slot := 2, constantValue := 0 }]
  methods := #[k2m0, k2m1]
  instanceTypes := #[]
  staticTypes := #[.int, .int, .int]
  resolved := Array.replicate 42 none
  statics := none }

def pool3 : Array CpInfo := pool [(1, .class_ 2), (0, u "java/lang/Math"), (1, .class_ 6), (1, u "java/lang/Object"), (0, u "<init>"), (0, u "()V"), (89, .class_ 100), (1, u "java/lang/Math$RandomNumberGeneratorHolder"), (71, u "negativeZeroFloatBits"), (0, u "J"), (2, u "negativeZeroDoubleBits"), (21, u "max"), (46, u "$assertionsDisabled"), (0, u "Z"), (88, u "(II)I"), (2, u "twoToTheDoubleScaleDown"), (0, u "D"), (4, u "twoToTheDoubleScaleUp"), (9, u "E"), (3, u "PI"), (2, u "TAU"), (2, u "DEGREES_TO_RADIANS"), (0, u "RADIANS_TO_DEGREES")] 94

def k3m0 : Method := { name := "<init>", desc := "()V", sig := { parameters := [], returnType := none }, accessFlags := 2, code := none }
def k3c1 : Code := { maxStack := 2, maxLocals := 2, code := jdk_29_method_65_code, exceptionTable := #[], attributes := #[] }
def k3m1 : Method := { name := "max", desc := "(II)I", sig := { parameters := [.int, .int], returnType := some .int }, accessFlags := 9, code := some k3c1 }
/-- java/lang/Math -/
def k3 : Class := { plain "java/lang/Math" (some 0) with
  accessFlags := 49
  interfaces := #[]
  cf := some (fileOf pool3 1 #[.nestMembers #[98]] #[{ accessFlags := 2, nameIndex := 7, descriptorIndex := 8, attributes := #[] }, { accessFlags := 9, nameIndex := 198, descriptorIndex := 335, attributes := #[] }] 49 4 #[] #[{ accessFlags := 25, nameIndex := 354, descriptorIndex := 339, attributes := #[] }, { accessFlags := 25, nameIndex := 358, descriptorIndex := 339, attributes := #[] }, { accessFlags := 25, nameIndex := 361, descriptorIndex := 339, attributes := #[] }, { accessFlags := 26, nameIndex := 364, descriptorIndex := 339, attributes := #[] }, { accessFlags := 26, nameIndex := 365, descriptorIndex := 339, attributes := #[] }, { accessFlags := 26, nameIndex := 172, descriptorIndex := 173, attributes := #[] }, { accessFlags := 26, nameIndex := 176, descriptorIndex := 173, attributes := #[] }, { accessFlags := 8, nameIndex := 344, descriptorIndex := 339, attributes := #[] }, { accessFlags := 8, nameIndex := 338, descriptorIndex := 339, attributes := #[] }, { accessFlags := 4120, nameIndex := 245, descriptorIndex := 246, attributes := #[] }])
  fields := #[{ name := "E", type := .double, accessFlags := 25, slot := 0, constantValue := 0 }, { name := "PI", type := .double, accessFlags := 25, slot := 1, constantValue := 0 }, { name := "TAU", type := .double, accessFlags := 25, slot := 2, constantValue := 0 }, { name := "DEGREES_TO_RADIANS", type := .double, accessFlags := 26, slot := 3, constantValue := 0 }, { name := "RADIANS_TO_DEGREES", type := .double, accessFlags := 26, slot := 4, constantValue := 0 }, { name := "negativeZeroFloatBits", type := .long, accessFlags := 26, slot := 5, constantValue := 0 }, { name := "negativeZeroDoubleBits", type := .long, accessFlags := 26, slot := 6, constantValue := 0 }, { name := "twoToTheDoubleScaleUp", type := .double, accessFlags := 8, slot := 7, constantValue := 0 }, { name := "twoToTheDoubleScaleDown", type := .double, accessFlags := 8, slot := 8, constantValue := 0 }, { name := "$assertionsDisabled", type := .boolean, accessFlags := 4120, slot := 9, constantValue := 0 }]
  methods := #[k3m0, k3m1]
  instanceTypes := #[]
  staticTypes := #[.double, .double, .double, .double, .double, .long, .long, .double, .double, .boolean]
  resolved := Array.replicate 460 none
  statics := none }

def pool4 : Array CpInfo := pool [(1, u "java/lang/Cloneable"), (0, .class_ 1), (0, u "java/lang/Object"), (0, .class_ 3)] 3

/-- java/lang/Cloneable -/
def k4 : Class := { plain "java/lang/Cloneable" (some 0) with
  accessFlags := 1537
  interfaces := #[]
  cf := some (fileOf pool4 2 #[] #[] 1537 4 #[] #[])
  fields := #[]
  methods := #[]
  instanceTypes := #[]
  staticTypes := #[]
  resolved := Array.replicate 8 none
  statics := none }

def pool5 : Array CpInfo := pool [(1, u "java/io/Serializable"), (0, .class_ 1), (0, u "java/lang/Object"), (0, .class_ 3)] 3

/-- java/io/Serializable -/
def k5 : Class := { plain "java/io/Serializable" (some 0) with
  accessFlags := 1537
  interfaces := #[]
  cf := some (fileOf pool5 2 #[] #[] 1537 4 #[] #[])
  fields := #[]
  methods := #[]
  instanceTypes := #[]
  staticTypes := #[]
  resolved := Array.replicate 8 none
  statics := none }

/-- the primitive byte -/
def k6 : Class := { plain "byte" none with kind := .primitive 'B', accessFlags := 0x411 }
/-- [B -/
def k7 : Class := { plain "[B" (some 0) with kind := .array 6 .byte, interfaces := #[4, 5], accessFlags := 1041 }

/-- the primitive int -/
def k8 : Class := { plain "int" none with kind := .primitive 'I', accessFlags := 0x411 }
/-- [I -/
def k9 : Class := { plain "[I" (some 0) with kind := .array 8 .int, interfaces := #[4, 5], accessFlags := 1041 }

def heap : Heap := #[]
def classes : Array Class := #[k0, k1, k2, k3, k4, k5, k6, k7, k8, k9]
def interned : List (Array UInt16 × Addr) := []
def slotsUsed : Nat := 0
def theMethod : MethodId := ⟨1, 1⟩
def args0 : Array Value := #[.int 5]
def aboutOver (below : List Frame) : State where
  vm := { classes := classes, interned := interned.toArray }
  heap := heap
  slotsUsed := slotsUsed
  threads := #[{ frames := .invoking theMethod args0 :: below }]
def below0 : List Frame := [.native { method := ⟨0, 0⟩, args := #[] }]
def about1 : State := aboutOver below0
def p0 : Program := .bare "" "" ""
def e0 : Env := launch0.env 0 0 0
theorem w_frames : about1.frames = Frame.invoking theMethod args0 :: below0 := rfl
set_option maxRecDepth 65536 in
theorem w_args : argsFit about1.vm theMethod args0 = true := by decide +kernel
set_option maxRecDepth 65536 in
theorem w_heap : heapFits about1 = true := by decide +kernel
set_option maxRecDepth 65536 in
theorem w_runnable : about1.curStatus? = some .runnable := by decide +kernel
set_option maxRecDepth 65536 in
theorem w_alone : about1.alone = true := by decide +kernel
set_option maxRecDepth 65536 in
theorem w_named : about1.methodNamed? x = some theMethod := by decide +kernel
set_option maxRecDepth 65536 in
theorem w_hears : about1.hears theMethod below0 = true := by decide +kernel
set_option maxRecDepth 65536 in
theorem w_ripe : about1.ripe theMethod args0 below0 = true := by decide +kernel
theorem w_running : about1.status = .running := rfl
set_option maxRecDepth 65536 in
theorem w_room : about1.hasRoom e0.platform room_1 = true :=
  launch0.hasRoom_least _ room_1 (by decide +kernel) (by decide +kernel) (by decide +kernel) (by decide +kernel) (by decide +kernel) (by decide +kernel)
theorem allAtoms_all (ts : List Jvm.Cond) (a : Array Jvm.Value) (st : Jvm.State) : (allAtoms ts).before a st = ts.all (fun c => c.before a st) := by
  induction ts with
  | nil => rfl
  | cons c t ih =>
    show (Jvm.Cond.and c (allAtoms t)).before a st = _
    rw [Jvm.Cond.before_and, ih, List.all_cons]
def words1 : List Jvm.Cond := Jvm.Cond.code x code maxLocals ret :: tables_1
/-- a 'code' word, met by the world's own term for the bytes: nothing is compared byte by byte -/
theorem code_word {y : MethodName} {bytes : ByteArray} {mx : Nat} {rt : Option FieldType} {a : Array Value} {s : State} {m : MethodId} {meth : Method} {c : Code} (h1 : s.methodNamed? y = some m) (h2 : s.vm.method? m = some meth) (h3 : meth.code = some c) (h4 : c.code = bytes)
    (h5 : (c.maxLocals == mx && c.exceptionTable.isEmpty && decide (c.maxStack ≤ mostOperands) && decide (meth.sig.returnType = rt) && !meth.locks && decide (parseMethodDescriptor y.desc = some meth.sig)) = true) : (Jvm.Cond.code y bytes mx rt).before a s = true := by
  simp only [Bool.and_eq_true, beq_iff_eq, Bool.not_eq_true', decide_eq_true_eq] at h5
  obtain ⟨⟨⟨⟨⟨g1, g2⟩, g3⟩, g4⟩, g5⟩, g6⟩ := h5
  simp [Cond.before, Cond.holds, Cond.value, h1, h2, h3, h4, g1, g2, g3, g4, g5, g6]
def isCode : Jvm.Cond → Bool
  | .code _ _ _ _ => true
  | _ => false
theorem all_split {L : List Jvm.Cond} {P : Jvm.Cond → Bool} (h1 : L.all (fun c => isCode c || P c) = true) (h2 : ∀ c ∈ L.filter isCode, P c = true) : L.all P = true := by
  refine List.all_eq_true.mpr fun c hc => ?_
  have h := List.all_eq_true.mp h1 c hc
  rcases Bool.eq_false_or_eq_true (isCode c) with hi | hi
  · exact h2 c (List.mem_filter.mpr ⟨hc, hi⟩)
  · simpa [hi] using h
set_option maxRecDepth 65536 in
theorem w_c0 : (Jvm.Cond.code x code maxLocals ret).before args0 about1 = true := code_word (m := ⟨1, 1⟩) (meth := k1m1) (c := k1c1) (by decide +kernel) rfl rfl rfl (by decide +kernel)
set_option maxRecDepth 65536 in
theorem w_c1 : (Jvm.Cond.code ({ cls := "com/example/keelstore/keelstore/protocol/Chunks", name := "slices", desc := "(I)I" } : Jvm.MethodName) prog_48_method_4_code (1 : Nat) (Option.some Jvm.ClassFile.FieldType.int)).before args0 about1 = true := code_word (m := ⟨2, 1⟩) (meth := k2m1) (c := k2c1) (by decide +kernel) rfl rfl rfl (by decide +kernel)
set_option maxRecDepth 65536 in
theorem w_c2 : (Jvm.Cond.code ({ cls := "java/lang/Math", name := "max", desc := "(II)I" } : Jvm.MethodName) jdk_29_method_65_code (2 : Nat) (Option.some Jvm.ClassFile.FieldType.int)).before args0 about1 = true := code_word (m := ⟨3, 1⟩) (meth := k3m1) (c := k3c1) (by decide +kernel) rfl rfl rfl (by decide +kernel)
def codes1 : List Jvm.Cond := [Jvm.Cond.code x code maxLocals ret, Jvm.Cond.code ({ cls := "com/example/keelstore/keelstore/protocol/Chunks", name := "slices", desc := "(I)I" } : Jvm.MethodName) prog_48_method_4_code (1 : Nat) (Option.some Jvm.ClassFile.FieldType.int), Jvm.Cond.code ({ cls := "java/lang/Math", name := "max", desc := "(II)I" } : Jvm.MethodName) jdk_29_method_65_code (2 : Nat) (Option.some Jvm.ClassFile.FieldType.int)]
set_option maxRecDepth 65536 in
theorem codes_eq : words1.filter isCode = codes1 := rfl
theorem w_codes : ∀ c ∈ words1.filter isCode, c.before args0 about1 = true := by
  rw [codes_eq]
  intro c hc
  simp only [codes1, List.mem_cons, List.not_mem_nil, or_false] at hc
  rcases hc with rfl | rfl | rfl
  · exact w_c0
  · exact w_c1
  · exact w_c2
set_option maxRecDepth 65536 in
theorem w_t1 : words1.all (fun c => isCode c || c.before args0 about1) = true := by decide +kernel
theorem w_tables : (allAtoms (Jvm.Cond.code x code maxLocals ret :: tables_1)).before args0 about1 = true := by
  rw [allAtoms_all]
  show words1.all (fun c => c.before args0 about1) = true
  refine all_split ?_ w_codes
  rw [w_t1]
set_option maxRecDepth 65536 in
theorem w_case : (Jvm.Cond.and given_1 narrow_1).before args0 about1 = true := by decide +kernel
theorem w_applies : (headSpec (Jvm.Cond.code x code maxLocals ret :: tables_1) room_1).applies x e0.platform about1 = true :=
  (Spec.applies_iff w_frames).mpr ⟨w_running, w_runnable, w_alone, w_named, w_hears, w_ripe, w_room, w_tables⟩
theorem atStart : AtStart classFile x code maxLocals ret World_1 tables_1 room_1 Calls_1 rest_1 Pre_1 launch0 p0 e0 about1 theMethod args0 below0 :=
  ⟨lists_1, trivial, launch0.admits_env _ _ _, launch0.least_env, fairChoices_fair.cas, fairChoices_fair.clock, w_frames, w_args, w_heap, w_applies, trivial, trivial, w_case⟩
end start1
theorem witness_1 : WitnessClaimed_1 := ⟨start1.p0, start1.e0, start1.about1, start1.theMethod, start1.args0, start1.below0, start1.atStart⟩
end Jvm.Pilot.@@N@@
