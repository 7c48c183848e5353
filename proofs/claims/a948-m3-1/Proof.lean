import JvmDerived
import JvmDerived.Pilot.@@N@@Statement
import JvmDerived.Pilot.@@N@@Code
set_option linter.unusedVariables false
set_option linter.unusedSimpArgs false
namespace Jvm.RoadKit
open Sem ClassFile Op Lib Jvm.Stand Jvm.Free Jvm.LawKit
section New
variable {p : Program} {l : Launch} {e : Env} {R : Room} {s : State} {m : MethodId} {args : Array Value} {below : List Frame} {meth : Method} {c : Code} {T : State} {locs : List Loc} {cells slots : Nat}
theorem retI (X : Stand p l e R s m args below meth c T locs cells slots) (hx : p.tables.exec = Jvm.exec) {pc : Nat} {Ls : Array Slot} {z : Int32} {rest : List Value} (hret : meth.sig.returnType = some .int) (hd : decode c.code pc = .ok (.ireturn, 1)) {fs : List Frame}
    (hl : ∀ (f : JFrame) (acts : List Action), f.method = m → f.locked = none → f.entered = [] → (doReturn e (T.setTop f) acts (some (.int z))).1 = T.setFrames fs) : Steps p.tables e below (T.setTop (mkF m pc Ls (.int z :: rest))) (T.setFrames fs) := by
  have hm' : T.vm.method? m = some meth := X.method'
  have hn : narrow .int (.int z) = .int z := rfl
  show Steps p.tables e below (T.setTop { method := m, pc := pc, locals := Ls, stack := _ :: rest, locked := none }) _
  jvm_step X.here [X.here.top, hx, hd, hm', hret, hn]
  first | (intro acts; rw [hl _ acts rfl rfl rfl]) | rw [hl _ _ rfl rfl rfl]
  exact Steps.refl _
end New
end Jvm.RoadKit
namespace Jvm.OwnKit
open Sem ClassFile Op Lib Jvm.Stand Jvm.Free Jvm.LawKit Jvm.RoadKit
def b2i (b : Bool) : Int32 := if b = true then 1 else 0
theorem b2i_eq {b : Bool} (h : ¬ b = true) : b2i b = 0 := if_neg h
theorem b2i_ne {b : Bool} (h : b = true) : ¬ b2i b = 0 := by rw [b2i, if_pos h]; decide
theorem nar_b2i (b : Bool) : nar .boolean (b2i b) = b2i b := by cases b <;> decide
theorem b2i_one {b : Bool} (h : b = true) : nar .boolean (b2i b) = 1 := by rw [h]; decide
end Jvm.OwnKit
namespace Jvm.OwnKit
open Sem ClassFile Op Lib Jvm.Stand Jvm.Free Jvm.LawKit Jvm.RoadKit
section Arrays
variable {Z : State} {h h' : Heap} {a b : Addr} {ty : FieldType} {z : Int32} {G : Int32 → Value}
def AG (Z : State) (h : Heap) (a : Addr) (ty : FieldType) (z : Int32) (G : Int32 → Value) : Prop := ∃ c : Cell, Arr Z h a c ty ∧ c.slots.size = z.toNatClampNeg ∧ ¬ z < 0 ∧ ∀ j : Int32, ¬ j < 0 → j < z → c.slots[j.toNatClampNeg]? = some (G j)
def AJ (Z : State) (h : Heap) (a : Addr) (z : Int32) (f : Int32 → Int64) : Prop := AG Z h a .long z (fun i => .long (f i))
def AI (Z : State) (h : Heap) (a : Addr) (ty : FieldType) (z : Int32) (f : Int32 → Int32) : Prop := AG Z h a ty z (fun i => .int (f i))
def upA {α : Type} (f : Int32 → α) (j : Int32) (v : α) : Int32 → α := fun i => if i = j then v else f i
theorem upA_hit {α : Type} {f : Int32 → α} {j : Int32} {v : α} : upA f j v j = v := if_pos rfl
theorem upA_miss {α : Type} {f : Int32 → α} {i j : Int32} {v : α} (q : ¬ i = j) : upA f j v i = f i := if_neg q
theorem AG.lt (F : AG Z h a ty z G) : a < h.size := by obtain ⟨c, A, -⟩ := F; exact A.lt
theorem AG.ext (F : AG Z h a ty z G) (E : Ext h h') : AG Z h' a ty z G := by obtain ⟨c, A, r⟩ := F; exact ⟨c, A.ext E, r⟩
theorem AG.other (F : AG Z h b ty z G) {sl : Nat} {v : Value} (W : Wr h h' a sl v) (q : b ≠ a) : AG Z h' b ty z G := by obtain ⟨c, A, r⟩ := F; exact ⟨c, A.other W q, r⟩
theorem AG.new {k : ClassId} (A : Arr Z h a (newA k ty z) ty) (q : ¬ z < 0) : AG Z h a ty z (fun _ => defaultValue ty) :=
  ⟨_, A, sz_new _ _ _, q, fun j h1 h2 => get_new (by have w := inb_of (sz_new k ty z) ⟨h1, h2⟩; rwa [sz_new] at w)⟩
theorem AG.set (F : AG Z h a ty z G) {j : Int32} {v : Value} (W : Wr h h' a j.toNatClampNeg v) (q : ¬ j < 0 ∧ j < z) : AG Z h' a ty z (upA G j v) := by
  obtain ⟨c, A, S, M, H⟩ := F
  refine ⟨_, A.same W, by rw [sz_set]; exact S, M, fun i h1 h2 => ?_⟩
  by_cases e : i = j
  · rw [upA, if_pos e]; exact get_hit (inb_of S q) e
  · rw [upA, if_neg e, get_miss q.1 h1 e]; exact H i h1 h2
theorem AG.keep (F : AG Z h a ty z G) {ws : List Addr} (K : Keep h h' ws) (q : a ∉ ws) : AG Z h' a ty z G := by obtain ⟨c, A, r⟩ := F; exact ⟨c, ⟨K.2.1 a c A.1 q, A.2⟩, r⟩
theorem AJ.keep {f : Int32 → Int64} (F : AJ Z h a z f) {ws : List Addr} (K : Keep h h' ws) (q : a ∉ ws) : AJ Z h' a z f := AG.keep F K q
theorem AI.keep {f : Int32 → Int32} (F : AI Z h a ty z f) {ws : List Addr} (K : Keep h h' ws) (q : a ∉ ws) : AI Z h' a ty z f := AG.keep F K q
theorem AJ.lt {f : Int32 → Int64} (F : AJ Z h a z f) : a < h.size := AG.lt F
theorem AI.lt {f : Int32 → Int32} (F : AI Z h a ty z f) : a < h.size := AG.lt F
theorem AJ.ext {f : Int32 → Int64} (F : AJ Z h a z f) (E : Ext h h') : AJ Z h' a z f := AG.ext F E
theorem AI.ext {f : Int32 → Int32} (F : AI Z h a ty z f) (E : Ext h h') : AI Z h' a ty z f := AG.ext F E
theorem AJ.other {f : Int32 → Int64} (F : AJ Z h b z f) {sl : Nat} {v : Value} (W : Wr h h' a sl v) (q : b ≠ a) : AJ Z h' b z f := AG.other F W q
theorem AI.other {f : Int32 → Int32} (F : AI Z h b ty z f) {sl : Nat} {v : Value} (W : Wr h h' a sl v) (q : b ≠ a) : AI Z h' b ty z f := AG.other F W q
theorem AJ.set {f : Int32 → Int64} (F : AJ Z h a z f) {j : Int32} {v : Int64} (W : Wr h h' a j.toNatClampNeg (.long v)) (q : ¬ j < 0 ∧ j < z) : AJ Z h' a z (upA f j v) := by
  have e : (fun i => Value.long (upA f j v i)) = upA (fun i => Value.long (f i)) j (.long v) := funext fun i => by unfold upA; split <;> rfl
  unfold AJ; rw [e]; exact AG.set F W q
theorem AI.set {f : Int32 → Int32} (F : AI Z h a ty z f) {j v : Int32} (W : Wr h h' a j.toNatClampNeg (.int v)) (q : ¬ j < 0 ∧ j < z) : AI Z h' a ty z (upA f j v) := by
  have e : (fun i => Value.int (upA f j v i)) = upA (fun i => Value.int (f i)) j (.int v) := funext fun i => by unfold upA; split <;> rfl
  unfold AI; rw [e]; exact AG.set F W q
theorem AJ.congr {f g : Int32 → Int64} (F : AJ Z h a z f) (q : ∀ j : Int32, ¬ j < 0 → j < z → f j = g j) : AJ Z h a z g := by
  obtain ⟨c, A, S, M, H⟩ := F; exact ⟨c, A, S, M, fun j h1 h2 => (H j h1 h2).trans (congrArg (fun v => some (Value.long v)) (q j h1 h2))⟩
theorem AI.congr {f g : Int32 → Int32} (F : AI Z h a ty z f) (q : ∀ j : Int32, ¬ j < 0 → j < z → f j = g j) : AI Z h a ty z g := by
  obtain ⟨c, A, S, M, H⟩ := F; exact ⟨c, A, S, M, fun j h1 h2 => (H j h1 h2).trans (congrArg (fun v => some (Value.int v)) (q j h1 h2))⟩
theorem AJ.new {k : ClassId} (A : Arr Z h a (newA k .long z) .long) (q : ¬ z < 0) : AJ Z h a z (fun _ => 0) := AG.new A q
theorem AI.new {k : ClassId} (A : Arr Z h a (newA k .int z) .int) (q : ¬ z < 0) : AI Z h a .int z (fun _ => 0) := AG.new A q
theorem AI.newB {k : ClassId} (A : Arr Z h a (newA k .byte z) .byte) (q : ¬ z < 0) : AI Z h a .byte z (fun _ => 0) := AG.new A q
theorem AI.newZ {k : ClassId} (A : Arr Z h a (newA k .boolean z) .boolean) (q : ¬ z < 0) : AI Z h a .boolean z (fun _ => 0) := AG.new A q
variable {p : Program} {l : Launch} {e : Env} {R : Room} {s : State} {m : MethodId} {args : Array Value} {below : List Frame} {meth : Method} {c : Code} {T : State} {locs : List Loc} {cells slots : Nat} {g : JFrame} {rest : List Value} {j : Int32}
theorem rdJ {f : Int32 → Int64} {y : Int64} (X : Stand p l e R s m args below meth c T locs cells slots) (hx : p.tables.exec = Jvm.exec) (hZ : Z.Warmed39 s.vm) (eT : T.heap = h) (F : AJ Z h a z f) (q : ¬ j < 0 ∧ j < z) (hv : f j = y) (hg : g.method = m) (hs : g.stack = .int j :: .ref a :: rest) (hd : decode c.code g.pc = .ok (.laload, 1)) (target : State)
    (hr : Steps p.tables e below (T.setTop { g with pc := g.pc + 1, stack := .long y :: rest }) target) : Steps p.tables e below (T.setTop g) target := by
  subst hv
  obtain ⟨cl, A, S, M, H⟩ := F
  exact X.laload hx (by rw [eT]; exact A.1) (State.isArrayOf_alike hZ.alike A.2.1) A.2.2 (inb_of S q) (H j q.1 q.2) hg hs hd target hr
theorem rdI {f : Int32 → Int32} {y : Int32} (X : Stand p l e R s m args below meth c T locs cells slots) (hx : p.tables.exec = Jvm.exec) (hZ : Z.Warmed39 s.vm) (eT : T.heap = h) (F : AI Z h a .int z f) (q : ¬ j < 0 ∧ j < z) (hv : f j = y) (hg : g.method = m) (hs : g.stack = .int j :: .ref a :: rest) (hd : decode c.code g.pc = .ok (.iaload, 1)) (target : State)
    (hr : Steps p.tables e below (T.setTop { g with pc := g.pc + 1, stack := .int y :: rest }) target) : Steps p.tables e below (T.setTop g) target := by
  subst hv
  obtain ⟨cl, A, S, M, H⟩ := F
  exact X.iaload hx (by rw [eT]; exact A.1) (State.isArrayOf_alike hZ.alike A.2.1) A.2.2 (inb_of S q) (H j q.1 q.2) hg hs hd target hr
theorem rdB {f : Int32 → Int32} {y : Int32} (X : Stand p l e R s m args below meth c T locs cells slots) (hx : p.tables.exec = Jvm.exec) (hZ : Z.Warmed39 s.vm) (eT : T.heap = h) (F : AI Z h a .byte z f) (q : ¬ j < 0 ∧ j < z) (hv : f j = y) (hg : g.method = m) (hs : g.stack = .int j :: .ref a :: rest) (hd : decode c.code g.pc = .ok (.baload, 1)) (target : State)
    (hr : Steps p.tables e below (T.setTop { g with pc := g.pc + 1, stack := .int y :: rest }) target) : Steps p.tables e below (T.setTop g) target := by
  subst hv
  obtain ⟨cl, A, S, M, H⟩ := F
  exact X.baloadBytes hx (by rw [eT]; exact A.1) (State.isArrayOf_alike hZ.alike A.2.1) A.2.2 (inb_of S q) (H j q.1 q.2) hg hs hd target hr
theorem rdZ {f : Int32 → Int32} {y : Int32} (X : Stand p l e R s m args below meth c T locs cells slots) (hx : p.tables.exec = Jvm.exec) (hZ : Z.Warmed39 s.vm) (eT : T.heap = h) (F : AI Z h a .boolean z f) (q : ¬ j < 0 ∧ j < z) (hv : f j = y) (hg : g.method = m) (hs : g.stack = .int j :: .ref a :: rest) (hd : decode c.code g.pc = .ok (.baload, 1)) (target : State)
    (hr : Steps p.tables e below (T.setTop { g with pc := g.pc + 1, stack := .int y :: rest }) target) : Steps p.tables e below (T.setTop g) target := by
  subst hv
  obtain ⟨cl, A, S, M, H⟩ := F
  exact X.baloadBooleans hx (by rw [eT]; exact A.1) (State.isArrayOf_alike hZ.alike A.2.1) A.2.2 (inb_of S q) (H j q.1 q.2) hg hs hd target hr
theorem lnG (X : Stand p l e R s m args below meth c T locs cells slots) (hx : p.tables.exec = Jvm.exec) (hZ : Z.Warmed39 s.vm) (eT : T.heap = h) (F : AG Z h a ty z G) (hg : g.method = m) (hs : g.stack = .ref a :: rest) (hd : decode c.code g.pc = .ok (.arraylength, 1)) (target : State)
    (hr : Steps p.tables e below (T.setTop { g with pc := g.pc + 1, stack := .int z :: rest }) target) : Steps p.tables e below (T.setTop g) target := by
  obtain ⟨cl, A, S, M, H⟩ := F
  refine X.arraylength hx (by rw [eT]; exact A.1) (State.isArrayOf_alike hZ.alike A.2.1) hg hs hd target ?_
  rw [len_of S M]; exact hr
theorem wrJ {f : Int32 → Int64} {x : Int64} (X : Stand p l e R s m args below meth c T locs cells slots) (hx : p.tables.exec = Jvm.exec) (hZ : Z.Warmed39 s.vm) (eT : T.heap = h) (F : AJ Z h a z f) (q : ¬ j < 0 ∧ j < z) (hg : g.method = m) (hs : g.stack = .long x :: .int j :: .ref a :: rest) (hd : decode c.code g.pc = .ok (.lastore, 1)) :
    ∃ T' h', Stand p l e R s m args below meth c T' (locs ++ [⟨a, j.toNatClampNeg⟩]) cells slots ∧ T'.heap = h' ∧ Wr h h' a j.toNatClampNeg (.long x) ∧ AJ Z h' a z (upA f j x) ∧ ∀ target, Steps p.tables e below (T'.setTop { g with pc := g.pc + 1, stack := rest }) target → Steps p.tables e below (T.setTop g) target := by
  have F' := F
  obtain ⟨cl, A, S, M, H⟩ := F
  obtain ⟨T', h', X', e', W, st⟩ := stJ X hx hZ eT A (inb_of S q) hg hs hd
  exact ⟨T', h', X', e', W, AJ.set F' W q, st⟩
theorem wrI {f : Int32 → Int32} {x : Int32} (X : Stand p l e R s m args below meth c T locs cells slots) (hx : p.tables.exec = Jvm.exec) (hZ : Z.Warmed39 s.vm) (eT : T.heap = h) (F : AI Z h a .int z f) (q : ¬ j < 0 ∧ j < z) (hg : g.method = m) (hs : g.stack = .int x :: .int j :: .ref a :: rest) (hd : decode c.code g.pc = .ok (.iastore, 1)) :
    ∃ T' h', Stand p l e R s m args below meth c T' (locs ++ [⟨a, j.toNatClampNeg⟩]) cells slots ∧ T'.heap = h' ∧ Wr h h' a j.toNatClampNeg (.int x) ∧ AI Z h' a .int z (upA f j x) ∧ ∀ target, Steps p.tables e below (T'.setTop { g with pc := g.pc + 1, stack := rest }) target → Steps p.tables e below (T.setTop g) target := by
  have F' := F
  obtain ⟨cl, A, S, M, H⟩ := F
  obtain ⟨T', h', X', e', W, st⟩ := stI X hx hZ eT A (inb_of S q) hg hs hd
  exact ⟨T', h', X', e', W, AI.set F' W q, st⟩
theorem wrB {f : Int32 → Int32} {x y : Int32} (X : Stand p l e R s m args below meth c T locs cells slots) (hx : p.tables.exec = Jvm.exec) (hZ : Z.Warmed39 s.vm) (eT : T.heap = h) (F : AI Z h a .byte z f) (q : ¬ j < 0 ∧ j < z) (hn : nar .byte x = y) (hg : g.method = m) (hs : g.stack = .int x :: .int j :: .ref a :: rest) (hd : decode c.code g.pc = .ok (.bastore, 1)) :
    ∃ T' h', Stand p l e R s m args below meth c T' (locs ++ [⟨a, j.toNatClampNeg⟩]) cells slots ∧ T'.heap = h' ∧ Wr h h' a j.toNatClampNeg (.int y) ∧ AI Z h' a .byte z (upA f j y) ∧ ∀ target, Steps p.tables e below (T'.setTop { g with pc := g.pc + 1, stack := rest }) target → Steps p.tables e below (T.setTop g) target := by
  have F' := F
  obtain ⟨cl, A, S, M, H⟩ := F
  obtain ⟨T', h', X', e', W, st⟩ := stB X hx hZ eT A (inb_of S q) hg hs hd
  rw [hn] at W
  exact ⟨T', h', X', e', W, AI.set F' W q, st⟩
theorem wrZ {f : Int32 → Int32} {x y : Int32} (X : Stand p l e R s m args below meth c T locs cells slots) (hx : p.tables.exec = Jvm.exec) (hZ : Z.Warmed39 s.vm) (eT : T.heap = h) (F : AI Z h a .boolean z f) (q : ¬ j < 0 ∧ j < z) (hn : nar .boolean x = y) (hg : g.method = m) (hs : g.stack = .int x :: .int j :: .ref a :: rest) (hd : decode c.code g.pc = .ok (.bastore, 1)) :
    ∃ T' h', Stand p l e R s m args below meth c T' (locs ++ [⟨a, j.toNatClampNeg⟩]) cells slots ∧ T'.heap = h' ∧ Wr h h' a j.toNatClampNeg (.int y) ∧ AI Z h' a .boolean z (upA f j y) ∧ ∀ target, Steps p.tables e below (T'.setTop { g with pc := g.pc + 1, stack := rest }) target → Steps p.tables e below (T.setTop g) target := by
  have F' := F
  obtain ⟨cl, A, S, M, H⟩ := F
  obtain ⟨T', h', X', e', W, st⟩ := stZ X hx hZ eT A (inb_of S q) hg hs hd
  rw [hn] at W
  exact ⟨T', h', X', e', W, AI.set F' W q, st⟩
theorem nar_byte (x : Int32) : nar .byte x.toInt8.toInt32 = x.toInt8.toInt32 := by
  show x.toInt8.toInt32.toInt8.toInt32 = x.toInt8.toInt32
  rw [Int8.toInt8_toInt32]
end Arrays
end Jvm.OwnKit
namespace Jvm.Pilot.@@N@@
open Jvm Jvm.ClassFile Sem Op Lib Jvm.Free Jvm.Stand Jvm.LawKit Jvm.RoadKit Jvm.OwnKit Bundle Jvm.Pilot.@@N@@.Jvm.D
def PV (Z : State) (h : Heap) (n0 : Nat) (ia : Addr) (fb : Int32 → Int32) : Prop := AI Z h ia .byte (13 : Int32) fb ∧ n0 ≤ ia ∧ n0 ≤ h.size
theorem d1_6 : decode prog_10_method_6_code 6 = .ok (.iload 7, 2) := by decide +kernel
theorem d1_8 : decode prog_10_method_6_code 8 = .ok (.iload 4, 2) := by decide +kernel
theorem d1_10 : decode prog_10_method_6_code 10 = .ok (.iconst 1, 1) := by decide +kernel
theorem d1_11 : decode prog_10_method_6_code 11 = .ok (.isub, 1) := by decide +kernel
theorem d1_12 : decode prog_10_method_6_code 12 = .ok (.if_icmp .ge 34, 3) := by decide +kernel
theorem d1_15 : decode prog_10_method_6_code 15 = .ok (.aload_n 0, 1) := by decide +kernel
theorem d1_16 : decode prog_10_method_6_code 16 = .ok (.iload_n 1, 1) := by decide +kernel
theorem d1_17 : decode prog_10_method_6_code 17 = .ok (.iload 7, 2) := by decide +kernel
theorem d1_19 : decode prog_10_method_6_code 19 = .ok (.iadd, 1) := by decide +kernel
theorem d1_20 : decode prog_10_method_6_code 20 = .ok (.lload 5, 2) := by decide +kernel
theorem d1_22 : decode prog_10_method_6_code 22 = .ok (.ldc2_w 52, 3) := by decide +kernel
theorem d1_25 : decode prog_10_method_6_code 25 = .ok (.land, 1) := by decide +kernel
theorem d1_26 : decode prog_10_method_6_code 26 = .ok (.ldc2_w 54, 3) := by decide +kernel
theorem d1_29 : decode prog_10_method_6_code 29 = .ok (.lor, 1) := by decide +kernel
theorem d1_30 : decode prog_10_method_6_code 30 = .ok (.l2i, 1) := by decide +kernel
theorem d1_31 : decode prog_10_method_6_code 31 = .ok (.i2b, 1) := by decide +kernel
theorem d1_32 : decode prog_10_method_6_code 32 = .ok (.bastore, 1) := by decide +kernel
theorem d1_33 : decode prog_10_method_6_code 33 = .ok (.lload 5, 2) := by decide +kernel
theorem d1_35 : decode prog_10_method_6_code 35 = .ok (.bipush 7, 2) := by decide +kernel
theorem d1_37 : decode prog_10_method_6_code 37 = .ok (.lushr, 1) := by decide +kernel
theorem d1_38 : decode prog_10_method_6_code 38 = .ok (.lstore 5, 2) := by decide +kernel
theorem d1_40 : decode prog_10_method_6_code 40 = .ok (.iinc 7 1, 3) := by decide +kernel
theorem d1_43 : decode prog_10_method_6_code 43 = .ok (.goto (-37), 3) := by decide +kernel
def pv_r (r : Int64) : Int64 := ((r.toUInt64 >>> ((7 : Int32) &&& 0x3f).toInt64.toUInt64).toInt64)
def pv_i (ii : Int32) : Int32 := (ii + (1 : Int32))
def pv_f (off : Int32) (r : Int64) (ii : Int32) (fb : Int32 → Int32) : Int32 → Int32 := (@upA Int32 fb (off + ii) ((((r &&& (127 : Int64)) ||| (128 : Int64)).toInt32).toInt8.toInt32))
set_option maxRecDepth 65536 in
set_option maxHeartbeats 40000000 in
theorem pvTurn {p : Program} {l : Launch} {e : Env} {R : Room} {s : State} {m : MethodId} {args : Array Value} {below : List Frame} {meth : Method} {c : Code} {T0 : State} {locs : List Loc} {cells slots : Nat} {Z : State} {a0 : Array Value} {h0 : Heap} {n0 : Nat} (off : Int32) (val : Int64) (len : Int32) (r : Int64) (ii : Int32) (ia : Addr) (fb : Int32 → Int32)
    (X0 : Stand p l e R s m args below meth c T0 locs cells slots) (hx : p.tables.exec = Jvm.exec) (hZ : Z.Warmed39 s.vm) (hw : ∀ d ∈ tables_1, d.before a0 Z = true) (hby : c.code = prog_10_method_6_code) (hml : c.maxLocals = 8) (hown : s.vm.findClass "com/example/tamsui/tamsui/encoded/EncodedForm" = some m.cls) (e0 : T0.heap = h0) (N0 : Fr n0 locs) (Z0 : n0 ≤ h0.size) (I0 : PV Z h0 n0 ia fb) (hlt : ii < (len - (1 : Int32))) (hin : ¬ (off + ii) < 0 ∧ (off + ii) < (13 : Int32)) :
    ∃ (T' : State) (h' : Heap) (locs' : List Loc), Stand p l e R s m args below meth c T' locs' cells slots ∧ T'.heap = h' ∧ Fr n0 locs' ∧ (PV Z h' n0 ia (pv_f off r ii fb)) ∧ ∀ t, Steps p.tables e below (T'.setTop (mkF m 6 #[.val (.ref ia), .val (.int off), .val (.long val), .second, .val (.int len), .val (.long (pv_r r)), .second, .val (.int (pv_i ii))] [])) t → Steps p.tables e below (T0.setTop (mkF m 6 #[.val (.ref ia), .val (.int off), .val (.long val), .second, .val (.int len), .val (.long r), .second, .val (.int ii)] [])) t := by
  have pre0 : ∀ t, Steps p.tables e below (T0.setTop (mkF m 6 #[.val (.ref ia), .val (.int off), .val (.long val), .second, .val (.int len), .val (.long r), .second, .val (.int ii)] [])) t → Steps p.tables e below (T0.setTop (mkF m 6 #[.val (.ref ia), .val (.int off), .val (.long val), .second, .val (.int len), .val (.long r), .second, .val (.int ii)] [])) t := fun t k => k
  obtain ⟨k1_0, k1_g_ia, k1_sz⟩ := I0
  obtain ⟨T2, h2, X2, e2, W2, V2, st2⟩ := wrB X0 hx hZ e0 k1_0 (j := (off + ii)) hin (nar_byte _) (g := (mkF m 32 #[.val (.ref ia), .val (.int off), .val (.long val), .second, .val (.int len), .val (.long r), .second, .val (.int ii)] [(.int ((((r &&& (127 : Int64)) ||| (128 : Int64)).toInt32).toInt8.toInt32)), (.int (off + ii)), (.ref ia)])) rfl rfl (hb hby d1_32)
  have Z2 : n0 ≤ h2.size := Nat.le_trans Z0 (Keep.of_wr W2).1
  have N2 := Fr.snoc X2 N0 k1_g_ia
  have pre3 : ∀ t, Steps p.tables e below (T2.setTop (mkF m 6 #[.val (.ref ia), .val (.int off), .val (.long val), .second, .val (.int len), .val (.long ((r.toUInt64 >>> ((7 : Int32) &&& 0x3f).toInt64.toUInt64).toInt64)), .second, .val (.int (ii + (1 : Int32)))] [])) t → Steps p.tables e below (T0.setTop (mkF m 6 #[.val (.ref ia), .val (.int off), .val (.long val), .second, .val (.int len), .val (.long r), .second, .val (.int ii)] [])) t := by
    intro t k
    refine pre0 t ?_
    show Steps p.tables e below (T0.setTop (mkF m 6 #[.val (.ref ia), .val (.int off), .val (.long val), .second, .val (.int len), .val (.long r), .second, .val (.int ii)] [])) _
    refine XS.iload X0.here hx rfl (hb hby d1_6) rfl ?_
    show Steps p.tables e below (T0.setTop (mkF m 8 #[.val (.ref ia), .val (.int off), .val (.long val), .second, .val (.int len), .val (.long r), .second, .val (.int ii)] [(.int ii)])) _
    refine XS.iload X0.here hx rfl (hb hby d1_8) rfl ?_
    show Steps p.tables e below (T0.setTop (mkF m 10 #[.val (.ref ia), .val (.int off), .val (.long val), .second, .val (.int len), .val (.long r), .second, .val (.int ii)] [(.int len), (.int ii)])) _
    refine XS.iconst X0.here hx rfl (hb hby d1_10) ?_
    show Steps p.tables e below (T0.setTop (mkF m 11 #[.val (.ref ia), .val (.int off), .val (.long val), .second, .val (.int len), .val (.long r), .second, .val (.int ii)] [(.int (1 : Int32)), (.int len), (.int ii)])) _
    refine XS.isub X0.here hx rfl (hb hby d1_11) rfl ?_
    show Steps p.tables e below (T0.setTop (mkF m 12 #[.val (.ref ia), .val (.int off), .val (.long val), .second, .val (.int len), .val (.long r), .second, .val (.int ii)] [(.int (len - (1 : Int32))), (.int ii)])) _
    refine XS.icmpNo X0.here hx rfl (hb hby d1_12) rfl (tlt hlt).2.1 ?_
    show Steps p.tables e below (T0.setTop (mkF m 15 #[.val (.ref ia), .val (.int off), .val (.long val), .second, .val (.int len), .val (.long r), .second, .val (.int ii)] [])) _
    refine XS.aloadN X0.here hx rfl (hb hby d1_15) rfl rfl ?_
    show Steps p.tables e below (T0.setTop (mkF m 16 #[.val (.ref ia), .val (.int off), .val (.long val), .second, .val (.int len), .val (.long r), .second, .val (.int ii)] [(.ref ia)])) _
    refine XS.iloadN X0.here hx rfl (hb hby d1_16) rfl ?_
    show Steps p.tables e below (T0.setTop (mkF m 17 #[.val (.ref ia), .val (.int off), .val (.long val), .second, .val (.int len), .val (.long r), .second, .val (.int ii)] [(.int off), (.ref ia)])) _
    refine XS.iload X0.here hx rfl (hb hby d1_17) rfl ?_
    show Steps p.tables e below (T0.setTop (mkF m 19 #[.val (.ref ia), .val (.int off), .val (.long val), .second, .val (.int len), .val (.long r), .second, .val (.int ii)] [(.int ii), (.int off), (.ref ia)])) _
    refine XS.iadd X0.here hx rfl (hb hby d1_19) rfl ?_
    show Steps p.tables e below (T0.setTop (mkF m 20 #[.val (.ref ia), .val (.int off), .val (.long val), .second, .val (.int len), .val (.long r), .second, .val (.int ii)] [(.int (off + ii)), (.ref ia)])) _
    refine XS.lload X0.here hx rfl (hb hby d1_20) rfl ?_
    show Steps p.tables e below (T0.setTop (mkF m 22 #[.val (.ref ia), .val (.int off), .val (.long val), .second, .val (.int len), .val (.long r), .second, .val (.int ii)] [(.long r), (.int (off + ii)), (.ref ia)])) _
    refine X0.ldc2Long hx hown (mvT hZ (hw _ (List.mem_of_getElem? (i := 6) rfl))) (g := (mkF m 22 #[.val (.ref ia), .val (.int off), .val (.long val), .second, .val (.int len), .val (.long r), .second, .val (.int ii)] [(.long r), (.int (off + ii)), (.ref ia)])) rfl (hb hby d1_22) _ ?_
    show Steps p.tables e below (T0.setTop (mkF m 25 #[.val (.ref ia), .val (.int off), .val (.long val), .second, .val (.int len), .val (.long r), .second, .val (.int ii)] [(.long (127 : Int64)), (.long r), (.int (off + ii)), (.ref ia)])) _
    refine XS.land X0.here hx rfl (hb hby d1_25) rfl ?_
    show Steps p.tables e below (T0.setTop (mkF m 26 #[.val (.ref ia), .val (.int off), .val (.long val), .second, .val (.int len), .val (.long r), .second, .val (.int ii)] [(.long (r &&& (127 : Int64))), (.int (off + ii)), (.ref ia)])) _
    refine X0.ldc2Long hx hown (mvT hZ (hw _ (List.mem_of_getElem? (i := 7) rfl))) (g := (mkF m 26 #[.val (.ref ia), .val (.int off), .val (.long val), .second, .val (.int len), .val (.long r), .second, .val (.int ii)] [(.long (r &&& (127 : Int64))), (.int (off + ii)), (.ref ia)])) rfl (hb hby d1_26) _ ?_
    show Steps p.tables e below (T0.setTop (mkF m 29 #[.val (.ref ia), .val (.int off), .val (.long val), .second, .val (.int len), .val (.long r), .second, .val (.int ii)] [(.long (128 : Int64)), (.long (r &&& (127 : Int64))), (.int (off + ii)), (.ref ia)])) _
    refine XS.lor X0.here hx rfl (hb hby d1_29) rfl ?_
    show Steps p.tables e below (T0.setTop (mkF m 30 #[.val (.ref ia), .val (.int off), .val (.long val), .second, .val (.int len), .val (.long r), .second, .val (.int ii)] [(.long ((r &&& (127 : Int64)) ||| (128 : Int64))), (.int (off + ii)), (.ref ia)])) _
    refine XS.l2i X0.here hx rfl (hb hby d1_30) rfl ?_
    show Steps p.tables e below (T0.setTop (mkF m 31 #[.val (.ref ia), .val (.int off), .val (.long val), .second, .val (.int len), .val (.long r), .second, .val (.int ii)] [(.int (((r &&& (127 : Int64)) ||| (128 : Int64)).toInt32)), (.int (off + ii)), (.ref ia)])) _
    refine XS.i2b X0.here hx rfl (hb hby d1_31) rfl ?_
    show Steps p.tables e below (T0.setTop (mkF m 32 #[.val (.ref ia), .val (.int off), .val (.long val), .second, .val (.int len), .val (.long r), .second, .val (.int ii)] [(.int ((((r &&& (127 : Int64)) ||| (128 : Int64)).toInt32).toInt8.toInt32)), (.int (off + ii)), (.ref ia)])) _
    refine st2 _ ?_
    show Steps p.tables e below (T2.setTop (mkF m 33 #[.val (.ref ia), .val (.int off), .val (.long val), .second, .val (.int len), .val (.long r), .second, .val (.int ii)] [])) _
    refine XS.lload X2.here hx rfl (hb hby d1_33) rfl ?_
    show Steps p.tables e below (T2.setTop (mkF m 35 #[.val (.ref ia), .val (.int off), .val (.long val), .second, .val (.int len), .val (.long r), .second, .val (.int ii)] [(.long r)])) _
    refine XS.bipush X2.here hx rfl (hb hby d1_35) ?_
    show Steps p.tables e below (T2.setTop (mkF m 37 #[.val (.ref ia), .val (.int off), .val (.long val), .second, .val (.int len), .val (.long r), .second, .val (.int ii)] [(.int (7 : Int32)), (.long r)])) _
    refine XS.lushr X2.here hx rfl (hb hby d1_37) rfl ?_
    show Steps p.tables e below (T2.setTop (mkF m 38 #[.val (.ref ia), .val (.int off), .val (.long val), .second, .val (.int len), .val (.long r), .second, .val (.int ii)] [(.long ((r.toUInt64 >>> ((7 : Int32) &&& 0x3f).toInt64.toUInt64).toInt64))])) _
    refine XS.lstore X2.here hx rfl (hb hby d1_38) rfl (l' := #[.val (.ref ia), .val (.int off), .val (.long val), .second, .val (.int len), .val (.long ((r.toUInt64 >>> ((7 : Int32) &&& 0x3f).toInt64.toUInt64).toInt64)), .second, .val (.int ii)]) rfl ?_
    show Steps p.tables e below (T2.setTop (mkF m 40 #[.val (.ref ia), .val (.int off), .val (.long val), .second, .val (.int len), .val (.long ((r.toUInt64 >>> ((7 : Int32) &&& 0x3f).toInt64.toUInt64).toInt64)), .second, .val (.int ii)] [])) _
    refine XS.iinc X2.here hx rfl (hb hby d1_40) rfl (l' := #[.val (.ref ia), .val (.int off), .val (.long val), .second, .val (.int len), .val (.long ((r.toUInt64 >>> ((7 : Int32) &&& 0x3f).toInt64.toUInt64).toInt64)), .second, .val (.int (ii + (1 : Int32)))]) rfl ?_
    show Steps p.tables e below (T2.setTop (mkF m 43 #[.val (.ref ia), .val (.int off), .val (.long val), .second, .val (.int len), .val (.long ((r.toUInt64 >>> ((7 : Int32) &&& 0x3f).toInt64.toUInt64).toInt64)), .second, .val (.int (ii + (1 : Int32)))] [])) _
    refine XS.goto X2.here hx rfl (pc0 := 43) (pc' := 6) rfl (hb hby d1_43) (by decide) (by decide) ?_
    exact k
  refine ⟨T2, _, _, X2, e2, N2, ⟨(by rw [(show (pv_f off r ii fb) = (@upA Int32 fb (off + ii) ((((r &&& (127 : Int64)) ||| (128 : Int64)).toInt32).toInt8.toInt32)) from rfl)]; exact V2), k1_g_ia, Z2⟩, fun t k => ?_⟩
  rw [(show (pv_r r) = ((r.toUInt64 >>> ((7 : Int32) &&& 0x3f).toInt64.toUInt64).toInt64) from rfl), (show (pv_i ii) = (ii + (1 : Int32)) from rfl)] at k
  exact pre3 t k
def pvR : Nat → Int64 → Int64
  | 0, r => r
  | k + 1, r => pvR k (pv_r r)
def pvF (off : Int32) : Nat → Int32 → Int64 → (Int32 → Int32) → (Int32 → Int32)
  | 0, _, _, f => f
  | k + 1, ii, r, f => pvF off k (pv_i ii) (pv_r r) (pv_f off r ii f)
theorem own_pvi (ii : Int32) (h : ii.toInt < 100) (h0 : 0 ≤ ii.toInt) : (pv_i ii).toInt = ii.toInt + 1 := by
  have a := c_iadd ii 1
  have b := rng32 (ii + 1)
  have l : (1 : Int32).toInt = 1 := by decide
  show (ii + 1).toInt = _
  omega
theorem own_len1 (len : Int32) (h : 1 ≤ len.toInt) (h' : len.toInt ≤ 9) : (len - 1).toInt = len.toInt - 1 := by
  have a := c_isub len 1
  have b := rng32 (len - 1)
  have l : (1 : Int32).toInt = 1 := by decide
  omega
theorem own_off (off ii : Int32) (h0 : 0 ≤ off.toInt) (h1 : off.toInt ≤ 3) (h2 : 0 ≤ ii.toInt) (h3 : ii.toInt ≤ 9) : (off + ii).toInt = off.toInt + ii.toInt := by
  have a := c_iadd off ii
  have b := rng32 (off + ii)
  omega
theorem own_in13 (x : Int32) (h0 : 0 ≤ x.toInt) (h1 : x.toInt < 13) : ¬ x < 0 ∧ x < (13 : Int32) := by
  have l0 : (0 : Int32).toInt = 0 := by decide
  have l : (13 : Int32).toInt = 13 := by decide
  rw [Int32.lt_iff_toInt_lt, Int32.lt_iff_toInt_lt, l0, l]
  omega
set_option maxHeartbeats 4000000 in
theorem pvLoop {p : Program} {l : Launch} {e : Env} {R : Room} {s : State} {m : MethodId} {args : Array Value} {below : List Frame} {meth : Method} {c : Code} {cells slots : Nat} {Z : State} {a0 : Array Value} {n0 : Nat} (off : Int32) (val : Int64) (len : Int32) (ia : Addr)
    (hx : p.tables.exec = Jvm.exec) (hZ : Z.Warmed39 s.vm) (hw : ∀ d ∈ tables_1, d.before a0 Z = true) (hby : c.code = prog_10_method_6_code) (hml : c.maxLocals = 8) (hown : s.vm.findClass "com/example/tamsui/tamsui/encoded/EncodedForm" = some m.cls)
    (ho0 : 0 ≤ off.toInt) (ho1 : off.toInt ≤ 3) (hl0 : 1 ≤ len.toInt) (hl1 : len.toInt ≤ 9) (k : Nat) : ∀ {T0 : State} {locs : List Loc} {h0 : Heap} (ii : Int32) (r : Int64) (f : Int32 → Int32) (X0 : Stand p l e R s m args below meth c T0 locs cells slots) (e0 : T0.heap = h0) (N0 : Fr n0 locs) (I0 : PV Z h0 n0 ia f) (hk : ii.toInt + k = len.toInt - 1) (hi0 : 0 ≤ ii.toInt),
    ∃ (T' : State) (h' : Heap) (locs' : List Loc), Stand p l e R s m args below meth c T' locs' cells slots ∧ T'.heap = h' ∧ Fr n0 locs' ∧ PV Z h' n0 ia (pvF off k ii r f) ∧ ∀ t, Steps p.tables e below (T'.setTop (mkF m 6 #[.val (.ref ia), .val (.int off), .val (.long val), .second, .val (.int len), .val (.long (pvR k r)), .second, .val (.int (len - (1 : Int32)))] [])) t → Steps p.tables e below (T0.setTop (mkF m 6 #[.val (.ref ia), .val (.int off), .val (.long val), .second, .val (.int len), .val (.long r), .second, .val (.int ii)] [])) t := by
  have e1 := own_len1 len hl0 hl1
  induction k with
  | zero =>
    intro T0 locs h0 ii r f X0 e0 N0 I0 hk hi0
    have q : ii = len - 1 := by rw [← Int32.toInt_inj, e1]; omega
    subst q
    exact ⟨T0, h0, locs, X0, e0, N0, I0, fun t k => k⟩
  | succ k ih =>
    intro T0 locs h0 ii r f X0 e0 N0 I0 hk hi0
    have e2 := own_pvi ii (by omega) hi0
    have e3 := own_off off ii ho0 ho1 hi0 (by omega)
    obtain ⟨T1, h1, locs1, X1, q1, N1, I1, st1⟩ := pvTurn off val len r ii ia f X0 hx hZ hw hby hml hown e0 N0 I0.2.2 I0 (by rw [Int32.lt_iff_toInt_lt, e1]; omega) (own_in13 _ (by omega) (by omega))
    obtain ⟨T2, h2, locs2, X2, q2, N2, I2, st2⟩ := ih (pv_i ii) (pv_r r) (pv_f off r ii f) X1 q1 N1 I1 (by omega) (by omega)
    exact ⟨T2, h2, locs2, X2, q2, N2, I2, fun t k => st1 t (st2 t k)⟩
theorem own_last (off len : Int32) (h0 : 0 ≤ off.toInt) (h1 : off.toInt ≤ 3) (h2 : 1 ≤ len.toInt) (h3 : len.toInt ≤ 9) : ((off + len) - 1).toInt = off.toInt + len.toInt - 1 := by
  have a := own_off off len h0 h1 (by omega) h3
  have b := c_isub (off + len) 1
  have c := rng32 (off + len - 1)
  have l : (1 : Int32).toInt = 1 := by decide
  omega
theorem d1_0 : decode prog_10_method_6_code 0 = .ok (.lload_n 2, 1) := by decide +kernel
theorem d1_1 : decode prog_10_method_6_code 1 = .ok (.lstore 5, 2) := by decide +kernel
theorem d1_3 : decode prog_10_method_6_code 3 = .ok (.iconst 0, 1) := by decide +kernel
theorem d1_4 : decode prog_10_method_6_code 4 = .ok (.istore 7, 2) := by decide +kernel
theorem d1_46 : decode prog_10_method_6_code 46 = .ok (.aload_n 0, 1) := by decide +kernel
theorem d1_47 : decode prog_10_method_6_code 47 = .ok (.iload_n 1, 1) := by decide +kernel
theorem d1_48 : decode prog_10_method_6_code 48 = .ok (.iload 4, 2) := by decide +kernel
theorem d1_50 : decode prog_10_method_6_code 50 = .ok (.iadd, 1) := by decide +kernel
theorem d1_51 : decode prog_10_method_6_code 51 = .ok (.iconst 1, 1) := by decide +kernel
theorem d1_52 : decode prog_10_method_6_code 52 = .ok (.isub, 1) := by decide +kernel
theorem d1_53 : decode prog_10_method_6_code 53 = .ok (.lload 5, 2) := by decide +kernel
theorem d1_55 : decode prog_10_method_6_code 55 = .ok (.l2i, 1) := by decide +kernel
theorem d1_56 : decode prog_10_method_6_code 56 = .ok (.i2b, 1) := by decide +kernel
theorem d1_57 : decode prog_10_method_6_code 57 = .ok (.bastore, 1) := by decide +kernel
theorem d1_58 : decode prog_10_method_6_code 58 = .ok (.iload_n 1, 1) := by decide +kernel
theorem d1_59 : decode prog_10_method_6_code 59 = .ok (.iload 4, 2) := by decide +kernel
theorem d1_61 : decode prog_10_method_6_code 61 = .ok (.iadd, 1) := by decide +kernel
theorem d1_62 : decode prog_10_method_6_code 62 = .ok (.ireturn, 1) := by decide +kernel
theorem pn_1 : plainName "com/example/tamsui/tamsui/encoded/EncodedForm" = true := by first | (simp [plainName, overriddenIn]; done) | decide +kernel
theorem ef_1 (m : MethodId) (x0 : Addr) (x1 : Int32) (x2 : Int64) (x3 : Int32) : entryFrame m #[(.ref x0), (.int x1), (.long x2), (.int x3)] 8 = mkF m 0 #[.val (.ref x0), .val (.int x1), .val (.long x2), .second, .val (.int x3), .unset, .unset, .unset] [] := by first | (simp [entryFrame, mkF, argsToLocals, Value.category]; done) | rfl
def Fpv (off : Int32) (len : Int32) : Int32 := (off + len)
def Fpv_f (off : Int32) (val : Int64) (len : Int32) (fb : Int32 → Int32) : Int32 → Int32 := (@upA Int32 (pvF off (len.toInt - 1).toNat (0 : Int32) val fb) ((off + len) - (1 : Int32)) (((pvR (len.toInt - 1).toNat val).toInt32).toInt8.toInt32))
def Q1 (Z : State) (ia : Addr) (off : Int32) (val : Int64) (len : Int32) (fb : Int32 → Int32) (h0 : Heap) (n0 : Nat) (v : Option Value) (h : Heap) (L : List Loc) : Prop := v = some (.int (Fpv off len)) ∧ Fr n0 L ∧ PV Z h n0 ia (Fpv_f off val len fb)
set_option maxRecDepth 65536 in
set_option maxHeartbeats 40000000 in
theorem rm1 (l : Launch) (Z : State) (a0 : Array Value) (hw : ∀ d ∈ tables_1, d.before a0 Z = true) (ws : List Jvm.Cond) (ia : Addr) (off : Int32) (val : Int64) (len : Int32) (fb : Int32 → Int32) (h0 : Heap) (n0 : Nat) (Z0 : n0 ≤ h0.size) (I0 : PV Z h0 n0 ia fb) (ho0 : 0 ≤ off.toInt) (ho1 : off.toInt ≤ 3) (hl0 : 1 ≤ len.toInt) (hl1 : len.toInt ≤ 9) :
    MetFree l (⟨"com/example/tamsui/tamsui/encoded/EncodedForm", "putVarint", "([BIJI)I"⟩ : MethodName) (head1 (Jvm.Cond.code (⟨"com/example/tamsui/tamsui/encoded/EncodedForm", "putVarint", "([BIJI)I"⟩ : MethodName) prog_10_method_6_code 8 (some .int) :: ws) ({ frames := 0, cells := 0, slots := 0, locals := 0 } : Room)) (fun a U => a = #[(.ref ia), (.int off), (.long val), (.int len)] ∧ Z.Warmed39 U.vm ∧ U.heap = h0) (fun _ _ _ _ _ => True) (fun _ U o U' => ∃ v L, o = .returned v ∧ Q1 Z ia off val len fb h0 n0 v U'.heap L ∧ FrameEnd U o U' L ({ frames := 0, cells := 0, slots := 0, locals := 0 } : Room).cells ({ frames := 0, cells := 0, slots := 0, locals := 0 } : Room).slots) := by
  refine MetFree.of_bodySF (plainFor_of_name pn_1) hisR ?_
  intro p e s m args below meth c s₁ Bd hml0 hP hK
  obtain ⟨rfl, hZ, hh⟩ := hP
  have hx := Bd.exec
  have hby := Bd.bytes
  have hml : c.maxLocals = 8 := hml0
  have hown : s.vm.findClass "com/example/tamsui/tamsui/encoded/EncodedForm" = some m.cls := findClass_of_methodNamed Bd.named
  have hnm := (name_of_methodNamed Bd.named Bd.method).1
  have X0 : Stand p l e ({ frames := 0, cells := 0, slots := 0, locals := 0 } : Room) s m #[(.ref ia), (.int off), (.long val), (.int len)] below meth c s₁ [] 0 0 := Stand.of_body Bd
  have e0 : s₁.heap = h0 := by rw [← hh, Bd.state]; rfl
  have N0 := Fr.nil n0
  have pre0 : ∀ t, Steps p.tables e below (s₁.setTop (mkF m 0 #[.val (.ref ia), .val (.int off), .val (.long val), .second, .val (.int len), .unset, .unset, .unset] [])) t → Steps p.tables e below (s₁.setTop (entryFrame m #[(.ref ia), (.int off), (.long val), (.int len)] 8)) t := fun t k => castTop (ef_1 m ia off val len) k
  obtain ⟨k1_0, k1_g_ia, k1_sz⟩ := I0
  have pre2 : ∀ t, Steps p.tables e below (s₁.setTop (mkF m 6 #[.val (.ref ia), .val (.int off), .val (.long val), .second, .val (.int len), .val (.long val), .second, .val (.int (0 : Int32))] [])) t → Steps p.tables e below (s₁.setTop (entryFrame m #[(.ref ia), (.int off), (.long val), (.int len)] 8)) t := by
    intro t k
    refine pre0 t ?_
    show Steps p.tables e below (s₁.setTop (mkF m 0 #[.val (.ref ia), .val (.int off), .val (.long val), .second, .val (.int len), .unset, .unset, .unset] [])) _
    refine XS.lloadN X0.here hx rfl (hb hby d1_0) rfl ?_
    show Steps p.tables e below (s₁.setTop (mkF m 1 #[.val (.ref ia), .val (.int off), .val (.long val), .second, .val (.int len), .unset, .unset, .unset] [(.long val)])) _
    refine XS.lstore X0.here hx rfl (hb hby d1_1) rfl (l' := #[.val (.ref ia), .val (.int off), .val (.long val), .second, .val (.int len), .val (.long val), .second, .unset]) rfl ?_
    show Steps p.tables e below (s₁.setTop (mkF m 3 #[.val (.ref ia), .val (.int off), .val (.long val), .second, .val (.int len), .val (.long val), .second, .unset] [])) _
    refine XS.iconst X0.here hx rfl (hb hby d1_3) ?_
    show Steps p.tables e below (s₁.setTop (mkF m 4 #[.val (.ref ia), .val (.int off), .val (.long val), .second, .val (.int len), .val (.long val), .second, .unset] [(.int (0 : Int32))])) _
    refine XS.istore X0.here hx rfl (hb hby d1_4) rfl (l' := #[.val (.ref ia), .val (.int off), .val (.long val), .second, .val (.int len), .val (.long val), .second, .val (.int (0 : Int32))]) rfl ?_
    exact k
  obtain ⟨T3, h3, L3, X3, e3, N3, I3, st3⟩ := pvLoop off val len ia hx hZ hw hby hml hown ho0 ho1 hl0 hl1 (len.toInt - 1).toNat (0 : Int32) val fb X0 e0 N0 ⟨k1_0, k1_g_ia, Z0⟩ (by have q : (0 : Int32).toInt = 0 := (by decide); omega) (by decide)
  obtain ⟨k4_0, k4_g_ia, k4_sz⟩ := I3
  have pre3 : ∀ t, Steps p.tables e below (T3.setTop (mkF m 6 #[.val (.ref ia), .val (.int off), .val (.long val), .second, .val (.int len), .val (.long (pvR (len.toInt - 1).toNat val)), .second, .val (.int (len - (1 : Int32)))] [])) t → Steps p.tables e below (s₁.setTop (entryFrame m #[(.ref ia), (.int off), (.long val), (.int len)] 8)) t := fun t k => pre2 t (st3 t k)
  obtain ⟨T5, h5, X5, e5, W5, V5, st5⟩ := wrB X3 hx hZ e3 k4_0 (j := ((off + len) - (1 : Int32))) (own_in13 _ (by rw [own_last off len ho0 ho1 hl0 hl1]; omega) (by rw [own_last off len ho0 ho1 hl0 hl1]; omega)) (nar_byte _) (g := (mkF m 57 #[.val (.ref ia), .val (.int off), .val (.long val), .second, .val (.int len), .val (.long (pvR (len.toInt - 1).toNat val)), .second, .val (.int (len - (1 : Int32)))] [(.int (((pvR (len.toInt - 1).toNat val).toInt32).toInt8.toInt32)), (.int ((off + len) - (1 : Int32))), (.ref ia)])) rfl rfl (hb hby d1_57)
  have Z5 : n0 ≤ h5.size := Nat.le_trans k4_sz (Keep.of_wr W5).1
  have N5 := Fr.snoc X5 N3 k4_g_ia
  have pre6 : ∀ t, Steps p.tables e below (T5.setTop (mkF m 62 #[.val (.ref ia), .val (.int off), .val (.long val), .second, .val (.int len), .val (.long (pvR (len.toInt - 1).toNat val)), .second, .val (.int (len - (1 : Int32)))] [(.int (off + len))])) t → Steps p.tables e below (s₁.setTop (entryFrame m #[(.ref ia), (.int off), (.long val), (.int len)] 8)) t := by
    intro t k
    refine pre3 t ?_
    show Steps p.tables e below (T3.setTop (mkF m 6 #[.val (.ref ia), .val (.int off), .val (.long val), .second, .val (.int len), .val (.long (pvR (len.toInt - 1).toNat val)), .second, .val (.int (len - (1 : Int32)))] [])) _
    refine XS.iload X3.here hx rfl (hb hby d1_6) rfl ?_
    show Steps p.tables e below (T3.setTop (mkF m 8 #[.val (.ref ia), .val (.int off), .val (.long val), .second, .val (.int len), .val (.long (pvR (len.toInt - 1).toNat val)), .second, .val (.int (len - (1 : Int32)))] [(.int (len - (1 : Int32)))])) _
    refine XS.iload X3.here hx rfl (hb hby d1_8) rfl ?_
    show Steps p.tables e below (T3.setTop (mkF m 10 #[.val (.ref ia), .val (.int off), .val (.long val), .second, .val (.int len), .val (.long (pvR (len.toInt - 1).toNat val)), .second, .val (.int (len - (1 : Int32)))] [(.int len), (.int (len - (1 : Int32)))])) _
    refine XS.iconst X3.here hx rfl (hb hby d1_10) ?_
    show Steps p.tables e below (T3.setTop (mkF m 11 #[.val (.ref ia), .val (.int off), .val (.long val), .second, .val (.int len), .val (.long (pvR (len.toInt - 1).toNat val)), .second, .val (.int (len - (1 : Int32)))] [(.int (1 : Int32)), (.int len), (.int (len - (1 : Int32)))])) _
    refine XS.isub X3.here hx rfl (hb hby d1_11) rfl ?_
    show Steps p.tables e below (T3.setTop (mkF m 12 #[.val (.ref ia), .val (.int off), .val (.long val), .second, .val (.int len), .val (.long (pvR (len.toInt - 1).toNat val)), .second, .val (.int (len - (1 : Int32)))] [(.int (len - (1 : Int32))), (.int (len - (1 : Int32)))])) _
    refine XS.icmpYes X3.here hx rfl (pc0 := 12) (pc' := 46) rfl (hb hby d1_12) rfl (flt (Int32.lt_irrefl)).2.1 (by decide) (by decide) ?_
    show Steps p.tables e below (T3.setTop (mkF m 46 #[.val (.ref ia), .val (.int off), .val (.long val), .second, .val (.int len), .val (.long (pvR (len.toInt - 1).toNat val)), .second, .val (.int (len - (1 : Int32)))] [])) _
    refine XS.aloadN X3.here hx rfl (hb hby d1_46) rfl rfl ?_
    show Steps p.tables e below (T3.setTop (mkF m 47 #[.val (.ref ia), .val (.int off), .val (.long val), .second, .val (.int len), .val (.long (pvR (len.toInt - 1).toNat val)), .second, .val (.int (len - (1 : Int32)))] [(.ref ia)])) _
    refine XS.iloadN X3.here hx rfl (hb hby d1_47) rfl ?_
    show Steps p.tables e below (T3.setTop (mkF m 48 #[.val (.ref ia), .val (.int off), .val (.long val), .second, .val (.int len), .val (.long (pvR (len.toInt - 1).toNat val)), .second, .val (.int (len - (1 : Int32)))] [(.int off), (.ref ia)])) _
    refine XS.iload X3.here hx rfl (hb hby d1_48) rfl ?_
    show Steps p.tables e below (T3.setTop (mkF m 50 #[.val (.ref ia), .val (.int off), .val (.long val), .second, .val (.int len), .val (.long (pvR (len.toInt - 1).toNat val)), .second, .val (.int (len - (1 : Int32)))] [(.int len), (.int off), (.ref ia)])) _
    refine XS.iadd X3.here hx rfl (hb hby d1_50) rfl ?_
    show Steps p.tables e below (T3.setTop (mkF m 51 #[.val (.ref ia), .val (.int off), .val (.long val), .second, .val (.int len), .val (.long (pvR (len.toInt - 1).toNat val)), .second, .val (.int (len - (1 : Int32)))] [(.int (off + len)), (.ref ia)])) _
    refine XS.iconst X3.here hx rfl (hb hby d1_51) ?_
    show Steps p.tables e below (T3.setTop (mkF m 52 #[.val (.ref ia), .val (.int off), .val (.long val), .second, .val (.int len), .val (.long (pvR (len.toInt - 1).toNat val)), .second, .val (.int (len - (1 : Int32)))] [(.int (1 : Int32)), (.int (off + len)), (.ref ia)])) _
    refine XS.isub X3.here hx rfl (hb hby d1_52) rfl ?_
    show Steps p.tables e below (T3.setTop (mkF m 53 #[.val (.ref ia), .val (.int off), .val (.long val), .second, .val (.int len), .val (.long (pvR (len.toInt - 1).toNat val)), .second, .val (.int (len - (1 : Int32)))] [(.int ((off + len) - (1 : Int32))), (.ref ia)])) _
    refine XS.lload X3.here hx rfl (hb hby d1_53) rfl ?_
    show Steps p.tables e below (T3.setTop (mkF m 55 #[.val (.ref ia), .val (.int off), .val (.long val), .second, .val (.int len), .val (.long (pvR (len.toInt - 1).toNat val)), .second, .val (.int (len - (1 : Int32)))] [(.long (pvR (len.toInt - 1).toNat val)), (.int ((off + len) - (1 : Int32))), (.ref ia)])) _
    refine XS.l2i X3.here hx rfl (hb hby d1_55) rfl ?_
    show Steps p.tables e below (T3.setTop (mkF m 56 #[.val (.ref ia), .val (.int off), .val (.long val), .second, .val (.int len), .val (.long (pvR (len.toInt - 1).toNat val)), .second, .val (.int (len - (1 : Int32)))] [(.int ((pvR (len.toInt - 1).toNat val).toInt32)), (.int ((off + len) - (1 : Int32))), (.ref ia)])) _
    refine XS.i2b X3.here hx rfl (hb hby d1_56) rfl ?_
    show Steps p.tables e below (T3.setTop (mkF m 57 #[.val (.ref ia), .val (.int off), .val (.long val), .second, .val (.int len), .val (.long (pvR (len.toInt - 1).toNat val)), .second, .val (.int (len - (1 : Int32)))] [(.int (((pvR (len.toInt - 1).toNat val).toInt32).toInt8.toInt32)), (.int ((off + len) - (1 : Int32))), (.ref ia)])) _
    refine st5 _ ?_
    show Steps p.tables e below (T5.setTop (mkF m 58 #[.val (.ref ia), .val (.int off), .val (.long val), .second, .val (.int len), .val (.long (pvR (len.toInt - 1).toNat val)), .second, .val (.int (len - (1 : Int32)))] [])) _
    refine XS.iloadN X5.here hx rfl (hb hby d1_58) rfl ?_
    show Steps p.tables e below (T5.setTop (mkF m 59 #[.val (.ref ia), .val (.int off), .val (.long val), .second, .val (.int len), .val (.long (pvR (len.toInt - 1).toNat val)), .second, .val (.int (len - (1 : Int32)))] [(.int off)])) _
    refine XS.iload X5.here hx rfl (hb hby d1_59) rfl ?_
    show Steps p.tables e below (T5.setTop (mkF m 61 #[.val (.ref ia), .val (.int off), .val (.long val), .second, .val (.int len), .val (.long (pvR (len.toInt - 1).toNat val)), .second, .val (.int (len - (1 : Int32)))] [(.int len), (.int off)])) _
    refine XS.iadd X5.here hx rfl (hb hby d1_61) rfl ?_
    exact k
  obtain ⟨fs, hr, hrun, hended, hW, hsame⟩ := X5.leave (v := some (.int (Fpv off len))) (fun h => by rw [Bd.returns] at h; cases h) (BodyLoose.notSynchronized Bd)
  refine ⟨_, _, pre6 _ ?_, hrun, hended, _, _, rfl, ?_, ⟨_, rfl⟩, hW, hsame.mono (by decide) (by decide)⟩
  · show Steps p.tables e below (T5.setTop (mkF m 62 #[.val (.ref ia), .val (.int off), .val (.long val), .second, .val (.int len), .val (.long (pvR (len.toInt - 1).toNat val)), .second, .val (.int (len - (1 : Int32)))] [(.int (off + len))])) _
    have hr2 := hr
    rw [(show (Fpv off len) = (off + len) from rfl)] at hr2
    exact retI X5 hx Bd.returns (hb hby d1_62) hr2
  · show Q1 Z ia off val len fb h0 n0 _ T5.heap _
    rw [e5]
    exact ⟨rfl, N5, ⟨(by rw [(show (Fpv_f off val len fb) = (@upA Int32 (pvF off (len.toInt - 1).toNat (0 : Int32) val fb) ((off + len) - (1 : Int32)) (((pvR (len.toInt - 1).toNat val).toInt32).toInt8.toInt32)) from rfl)]; exact V5), k4_g_ia, Z5⟩⟩
theorem d2_0 : decode method_3_code 0 = .ok (.iload 4, 2) := by decide +kernel
theorem d2_2 : decode method_3_code 2 = .ok (.iload_n 1, 1) := by decide +kernel
theorem d2_3 : decode method_3_code 3 = .ok (.if_icmp .lt 13, 3) := by decide +kernel
theorem d2_6 : decode method_3_code 6 = .ok (.iload 4, 2) := by decide +kernel
theorem d2_8 : decode method_3_code 8 = .ok (.iload_n 1, 1) := by decide +kernel
theorem d2_9 : decode method_3_code 9 = .ok (.iload_n 2, 1) := by decide +kernel
theorem d2_10 : decode method_3_code 10 = .ok (.iadd, 1) := by decide +kernel
theorem d2_11 : decode method_3_code 11 = .ok (.if_icmp .ge 5, 3) := by decide +kernel
theorem d2_14 : decode method_3_code 14 = .ok (.iconst 1, 1) := by decide +kernel
theorem d2_15 : decode method_3_code 15 = .ok (.ireturn, 1) := by decide +kernel
theorem d2_16 : decode method_3_code 16 = .ok (.aload_n 0, 1) := by decide +kernel
theorem d2_17 : decode method_3_code 17 = .ok (.iload 4, 2) := by decide +kernel
theorem d2_19 : decode method_3_code 19 = .ok (.baload, 1) := by decide +kernel
theorem d2_20 : decode method_3_code 20 = .ok (.iload_n 3, 1) := by decide +kernel
theorem d2_21 : decode method_3_code 21 = .ok (.if_icmp .ne 7, 3) := by decide +kernel
theorem d2_24 : decode method_3_code 24 = .ok (.iconst 1, 1) := by decide +kernel
theorem d2_25 : decode method_3_code 25 = .ok (.goto 4, 3) := by decide +kernel
theorem d2_28 : decode method_3_code 28 = .ok (.iconst 0, 1) := by decide +kernel
theorem d2_29 : decode method_3_code 29 = .ok (.ireturn, 1) := by decide +kernel
theorem pn_2 : plainName "com/example/tamsui/tamsui/encoded/EncodedFormPutVarintPinLaw" = true := by first | (simp [plainName, overriddenIn]; done) | decide +kernel
theorem ef_2 (m : MethodId) (x0 : Addr) (x1 : Int32) (x2 : Int32) (x3 : Int32) (x4 : Int32) : entryFrame m #[(.ref x0), (.int x1), (.int x2), (.int x3), (.int x4)] 5 = mkF m 0 #[.val (.ref x0), .val (.int x1), .val (.int x2), .val (.int x3), .val (.int x4)] [] := by first | (simp [entryFrame, mkF, argsToLocals, Value.category]; done) | rfl
def Fun (off : Int32) (len : Int32) (sv : Int32) (kk : Int32) (fb : Int32 → Int32) : Bool := (if kk < off then (if (fb kk) = sv then true else false) else (if kk < (off + len) then true else (if (fb kk) = sv then true else false)))
def Q2 (Z : State) (ia : Addr) (off : Int32) (len : Int32) (sv : Int32) (kk : Int32) (fb : Int32 → Int32) (h0 : Heap) (n0 : Nat) (v : Option Value) (h : Heap) (L : List Loc) : Prop := v = some (.int (b2i (Fun off len sv kk fb))) ∧ Fr n0 L ∧ h = h0
set_option maxRecDepth 65536 in
set_option maxHeartbeats 40000000 in
theorem rm2 (l : Launch) (Z : State) (a0 : Array Value) (hw : ∀ d ∈ tables_1, d.before a0 Z = true) (ws : List Jvm.Cond) (ia : Addr) (off : Int32) (len : Int32) (sv : Int32) (kk : Int32) (fb : Int32 → Int32) (h0 : Heap) (n0 : Nat) (Z0 : n0 ≤ h0.size) (I0 : PV Z h0 n0 ia fb) (hkk : ¬ kk < 0 ∧ kk < (13 : Int32)) :
    MetFree l (⟨"com/example/tamsui/tamsui/encoded/EncodedFormPutVarintPinLaw", "untouched", "([BIIBI)Z"⟩ : MethodName) (head1 (Jvm.Cond.code (⟨"com/example/tamsui/tamsui/encoded/EncodedFormPutVarintPinLaw", "untouched", "([BIIBI)Z"⟩ : MethodName) method_3_code 5 (some .boolean) :: ws) ({ frames := 0, cells := 0, slots := 0, locals := 0 } : Room)) (fun a U => a = #[(.ref ia), (.int off), (.int len), (.int sv), (.int kk)] ∧ Z.Warmed39 U.vm ∧ U.heap = h0) (fun _ _ _ _ _ => True) (fun _ U o U' => ∃ v L, o = .returned v ∧ Q2 Z ia off len sv kk fb h0 n0 v U'.heap L ∧ FrameEnd U o U' L ({ frames := 0, cells := 0, slots := 0, locals := 0 } : Room).cells ({ frames := 0, cells := 0, slots := 0, locals := 0 } : Room).slots) := by
  refine MetFree.of_bodySF (plainFor_of_name pn_2) hisR ?_
  intro p e s m args below meth c s₁ Bd hml0 hP hK
  obtain ⟨rfl, hZ, hh⟩ := hP
  have hx := Bd.exec
  have hby := Bd.bytes
  have hml : c.maxLocals = 5 := hml0
  have hown : s.vm.findClass "com/example/tamsui/tamsui/encoded/EncodedFormPutVarintPinLaw" = some m.cls := findClass_of_methodNamed Bd.named
  have hnm := (name_of_methodNamed Bd.named Bd.method).1
  have X0 : Stand p l e ({ frames := 0, cells := 0, slots := 0, locals := 0 } : Room) s m #[(.ref ia), (.int off), (.int len), (.int sv), (.int kk)] below meth c s₁ [] 0 0 := Stand.of_body Bd
  have e0 : s₁.heap = h0 := by rw [← hh, Bd.state]; rfl
  have N0 := Fr.nil n0
  have pre0 : ∀ t, Steps p.tables e below (s₁.setTop (mkF m 0 #[.val (.ref ia), .val (.int off), .val (.int len), .val (.int sv), .val (.int kk)] [])) t → Steps p.tables e below (s₁.setTop (entryFrame m #[(.ref ia), (.int off), (.int len), (.int sv), (.int kk)] 5)) t := fun t k => castTop (ef_2 m ia off len sv kk) k
  obtain ⟨k1_0, k1_g_ia, k1_sz⟩ := I0
  have pre2 : ∀ t, Steps p.tables e below (s₁.setTop (mkF m 3 #[.val (.ref ia), .val (.int off), .val (.int len), .val (.int sv), .val (.int kk)] [(.int off), (.int kk)])) t → Steps p.tables e below (s₁.setTop (entryFrame m #[(.ref ia), (.int off), (.int len), (.int sv), (.int kk)] 5)) t := by
    intro t k
    refine pre0 t ?_
    show Steps p.tables e below (s₁.setTop (mkF m 0 #[.val (.ref ia), .val (.int off), .val (.int len), .val (.int sv), .val (.int kk)] [])) _
    refine XS.iload X0.here hx rfl (hb hby d2_0) rfl ?_
    show Steps p.tables e below (s₁.setTop (mkF m 2 #[.val (.ref ia), .val (.int off), .val (.int len), .val (.int sv), .val (.int kk)] [(.int kk)])) _
    refine XS.iloadN X0.here hx rfl (hb hby d2_2) rfl ?_
    exact k
  by_cases hc3 : kk < off
  ·
    have pre4 : ∀ t, Steps p.tables e below (s₁.setTop (mkF m 21 #[.val (.ref ia), .val (.int off), .val (.int len), .val (.int sv), .val (.int kk)] [(.int sv), (.int (fb kk))])) t → Steps p.tables e below (s₁.setTop (entryFrame m #[(.ref ia), (.int off), (.int len), (.int sv), (.int kk)] 5)) t := by
      intro t k
      refine pre2 t ?_
      show Steps p.tables e below (s₁.setTop (mkF m 3 #[.val (.ref ia), .val (.int off), .val (.int len), .val (.int sv), .val (.int kk)] [(.int off), (.int kk)])) _
      refine XS.icmpYes X0.here hx rfl (pc0 := 3) (pc' := 16) rfl (hb hby d2_3) rfl (tlt hc3).1 (by decide) (by decide) ?_
      show Steps p.tables e below (s₁.setTop (mkF m 16 #[.val (.ref ia), .val (.int off), .val (.int len), .val (.int sv), .val (.int kk)] [])) _
      refine XS.aloadN X0.here hx rfl (hb hby d2_16) rfl rfl ?_
      show Steps p.tables e below (s₁.setTop (mkF m 17 #[.val (.ref ia), .val (.int off), .val (.int len), .val (.int sv), .val (.int kk)] [(.ref ia)])) _
      refine XS.iload X0.here hx rfl (hb hby d2_17) rfl ?_
      show Steps p.tables e below (s₁.setTop (mkF m 19 #[.val (.ref ia), .val (.int off), .val (.int len), .val (.int sv), .val (.int kk)] [(.int kk), (.ref ia)])) _
      refine rdB X0 hx hZ e0 k1_0 (j := kk) hkk rfl (g := (mkF m 19 #[.val (.ref ia), .val (.int off), .val (.int len), .val (.int sv), .val (.int kk)] [(.int kk), (.ref ia)])) rfl rfl (hb hby d2_19) _ ?_
      show Steps p.tables e below (s₁.setTop (mkF m 20 #[.val (.ref ia), .val (.int off), .val (.int len), .val (.int sv), .val (.int kk)] [(.int (fb kk))])) _
      refine XS.iloadN X0.here hx rfl (hb hby d2_20) rfl ?_
      exact k
    have pre5 : ∀ t, Steps p.tables e below (s₁.setTop (mkF m 29 #[.val (.ref ia), .val (.int off), .val (.int len), .val (.int sv), .val (.int kk)] [(.int (b2i (if (fb kk) = sv then true else false)))])) t → Steps p.tables e below (s₁.setTop (entryFrame m #[(.ref ia), (.int off), (.int len), (.int sv), (.int kk)] 5)) t := by
      intro t k
      refine pre4 t ?_
      have k : ∀ (v1 : Bool), v1 = (if (fb kk) = sv then true else false) → Steps p.tables e below (s₁.setTop (mkF m 29 #[.val (.ref ia), .val (.int off), .val (.int len), .val (.int sv), .val (.int kk)] [(.int (b2i v1))])) t := fun v1 hv1 => by subst hv1; exact k
      show Steps p.tables e below (s₁.setTop (mkF m 21 #[.val (.ref ia), .val (.int off), .val (.int len), .val (.int sv), .val (.int kk)] [(.int sv), (.int (fb kk))])) _
      by_cases hc6 : (fb kk) = sv
      · refine XS.icmpNo X0.here hx rfl (hb hby d2_21) rfl (teq hc6).2 ?_
        have k : ∀ (v1 : Bool), v1 = true → Steps p.tables e below (s₁.setTop (mkF m 29 #[.val (.ref ia), .val (.int off), .val (.int len), .val (.int sv), .val (.int kk)] [(.int (b2i v1))])) t := fun v1 hv1 => k v1 (hv1.trans (if_pos hc6).symm)
        show Steps p.tables e below (s₁.setTop (mkF m 24 #[.val (.ref ia), .val (.int off), .val (.int len), .val (.int sv), .val (.int kk)] [])) _
        refine XS.iconst X0.here hx rfl (hb hby d2_24) ?_
        show Steps p.tables e below (s₁.setTop (mkF m 25 #[.val (.ref ia), .val (.int off), .val (.int len), .val (.int sv), .val (.int kk)] [(.int (1 : Int32))])) _
        refine XS.goto X0.here hx rfl (pc0 := 25) (pc' := 29) rfl (hb hby d2_25) (by decide) (by decide) ?_
        exact k true rfl
      · refine XS.icmpYes X0.here hx rfl (pc0 := 21) (pc' := 28) rfl (hb hby d2_21) rfl (feq hc6).2 (by decide) (by decide) ?_
        have k : ∀ (v1 : Bool), v1 = false → Steps p.tables e below (s₁.setTop (mkF m 29 #[.val (.ref ia), .val (.int off), .val (.int len), .val (.int sv), .val (.int kk)] [(.int (b2i v1))])) t := fun v1 hv1 => k v1 (hv1.trans (if_neg hc6).symm)
        show Steps p.tables e below (s₁.setTop (mkF m 28 #[.val (.ref ia), .val (.int off), .val (.int len), .val (.int sv), .val (.int kk)] [])) _
        refine XS.iconst X0.here hx rfl (hb hby d2_28) ?_
        exact k false rfl
    obtain ⟨fs, hr, hrun, hended, hW, hsame⟩ := X0.leave (v := some (.int (b2i (Fun off len sv kk fb)))) (fun h => by rw [Bd.returns] at h; cases h) (BodyLoose.notSynchronized Bd)
    refine ⟨_, _, pre5 _ ?_, hrun, hended, _, _, rfl, ?_, ⟨_, rfl⟩, hW, hsame.mono (by decide) (by decide)⟩
    · show Steps p.tables e below (s₁.setTop (mkF m 29 #[.val (.ref ia), .val (.int off), .val (.int len), .val (.int sv), .val (.int kk)] [(.int (b2i (if (fb kk) = sv then true else false)))])) _
      have hr2 := hr
      rw [(show (Fun off len sv kk fb) = (if (fb kk) = sv then true else false) from ((if_pos hc3).trans rfl))] at hr2
      exact retN X0 hx (t := .boolean) Bd.returns (by simp) (hb hby d2_29) (by rw [nar_b2i]; exact hr2)
    · show Q2 Z ia off len sv kk fb h0 n0 _ s₁.heap _
      rw [e0]
      exact ⟨rfl, N0, rfl⟩
  ·
    have pre7 : ∀ t, Steps p.tables e below (s₁.setTop (mkF m 11 #[.val (.ref ia), .val (.int off), .val (.int len), .val (.int sv), .val (.int kk)] [(.int (off + len)), (.int kk)])) t → Steps p.tables e below (s₁.setTop (entryFrame m #[(.ref ia), (.int off), (.int len), (.int sv), (.int kk)] 5)) t := by
      intro t k
      refine pre2 t ?_
      show Steps p.tables e below (s₁.setTop (mkF m 3 #[.val (.ref ia), .val (.int off), .val (.int len), .val (.int sv), .val (.int kk)] [(.int off), (.int kk)])) _
      refine XS.icmpNo X0.here hx rfl (hb hby d2_3) rfl (flt hc3).1 ?_
      show Steps p.tables e below (s₁.setTop (mkF m 6 #[.val (.ref ia), .val (.int off), .val (.int len), .val (.int sv), .val (.int kk)] [])) _
      refine XS.iload X0.here hx rfl (hb hby d2_6) rfl ?_
      show Steps p.tables e below (s₁.setTop (mkF m 8 #[.val (.ref ia), .val (.int off), .val (.int len), .val (.int sv), .val (.int kk)] [(.int kk)])) _
      refine XS.iloadN X0.here hx rfl (hb hby d2_8) rfl ?_
      show Steps p.tables e below (s₁.setTop (mkF m 9 #[.val (.ref ia), .val (.int off), .val (.int len), .val (.int sv), .val (.int kk)] [(.int off), (.int kk)])) _
      refine XS.iloadN X0.here hx rfl (hb hby d2_9) rfl ?_
      show Steps p.tables e below (s₁.setTop (mkF m 10 #[.val (.ref ia), .val (.int off), .val (.int len), .val (.int sv), .val (.int kk)] [(.int len), (.int off), (.int kk)])) _
      refine XS.iadd X0.here hx rfl (hb hby d2_10) rfl ?_
      exact k
    by_cases hc8 : kk < (off + len)
    ·
      have pre9 : ∀ t, Steps p.tables e below (s₁.setTop (mkF m 15 #[.val (.ref ia), .val (.int off), .val (.int len), .val (.int sv), .val (.int kk)] [(.int (1 : Int32))])) t → Steps p.tables e below (s₁.setTop (entryFrame m #[(.ref ia), (.int off), (.int len), (.int sv), (.int kk)] 5)) t := by
        intro t k
        refine pre7 t ?_
        show Steps p.tables e below (s₁.setTop (mkF m 11 #[.val (.ref ia), .val (.int off), .val (.int len), .val (.int sv), .val (.int kk)] [(.int (off + len)), (.int kk)])) _
        refine XS.icmpNo X0.here hx rfl (hb hby d2_11) rfl (tlt hc8).2.1 ?_
        show Steps p.tables e below (s₁.setTop (mkF m 14 #[.val (.ref ia), .val (.int off), .val (.int len), .val (.int sv), .val (.int kk)] [])) _
        refine XS.iconst X0.here hx rfl (hb hby d2_14) ?_
        exact k
      obtain ⟨fs, hr, hrun, hended, hW, hsame⟩ := X0.leave (v := some (.int (b2i (Fun off len sv kk fb)))) (fun h => by rw [Bd.returns] at h; cases h) (BodyLoose.notSynchronized Bd)
      refine ⟨_, _, pre9 _ ?_, hrun, hended, _, _, rfl, ?_, ⟨_, rfl⟩, hW, hsame.mono (by decide) (by decide)⟩
      · show Steps p.tables e below (s₁.setTop (mkF m 15 #[.val (.ref ia), .val (.int off), .val (.int len), .val (.int sv), .val (.int kk)] [(.int (1 : Int32))])) _
        have hr2 := hr
        rw [(show (Fun off len sv kk fb) = true from ((if_neg hc3).trans ((if_pos hc8).trans rfl)))] at hr2
        exact retN X0 hx (t := .boolean) Bd.returns (by simp) (hb hby d2_15) hr2
      · show Q2 Z ia off len sv kk fb h0 n0 _ s₁.heap _
        rw [e0]
        exact ⟨rfl, N0, rfl⟩
    ·
      have pre10 : ∀ t, Steps p.tables e below (s₁.setTop (mkF m 21 #[.val (.ref ia), .val (.int off), .val (.int len), .val (.int sv), .val (.int kk)] [(.int sv), (.int (fb kk))])) t → Steps p.tables e below (s₁.setTop (entryFrame m #[(.ref ia), (.int off), (.int len), (.int sv), (.int kk)] 5)) t := by
        intro t k
        refine pre7 t ?_
        show Steps p.tables e below (s₁.setTop (mkF m 11 #[.val (.ref ia), .val (.int off), .val (.int len), .val (.int sv), .val (.int kk)] [(.int (off + len)), (.int kk)])) _
        refine XS.icmpYes X0.here hx rfl (pc0 := 11) (pc' := 16) rfl (hb hby d2_11) rfl (flt hc8).2.1 (by decide) (by decide) ?_
        show Steps p.tables e below (s₁.setTop (mkF m 16 #[.val (.ref ia), .val (.int off), .val (.int len), .val (.int sv), .val (.int kk)] [])) _
        refine XS.aloadN X0.here hx rfl (hb hby d2_16) rfl rfl ?_
        show Steps p.tables e below (s₁.setTop (mkF m 17 #[.val (.ref ia), .val (.int off), .val (.int len), .val (.int sv), .val (.int kk)] [(.ref ia)])) _
        refine XS.iload X0.here hx rfl (hb hby d2_17) rfl ?_
        show Steps p.tables e below (s₁.setTop (mkF m 19 #[.val (.ref ia), .val (.int off), .val (.int len), .val (.int sv), .val (.int kk)] [(.int kk), (.ref ia)])) _
        refine rdB X0 hx hZ e0 k1_0 (j := kk) hkk rfl (g := (mkF m 19 #[.val (.ref ia), .val (.int off), .val (.int len), .val (.int sv), .val (.int kk)] [(.int kk), (.ref ia)])) rfl rfl (hb hby d2_19) _ ?_
        show Steps p.tables e below (s₁.setTop (mkF m 20 #[.val (.ref ia), .val (.int off), .val (.int len), .val (.int sv), .val (.int kk)] [(.int (fb kk))])) _
        refine XS.iloadN X0.here hx rfl (hb hby d2_20) rfl ?_
        exact k
      have pre11 : ∀ t, Steps p.tables e below (s₁.setTop (mkF m 29 #[.val (.ref ia), .val (.int off), .val (.int len), .val (.int sv), .val (.int kk)] [(.int (b2i (if (fb kk) = sv then true else false)))])) t → Steps p.tables e below (s₁.setTop (entryFrame m #[(.ref ia), (.int off), (.int len), (.int sv), (.int kk)] 5)) t := by
        intro t k
        refine pre10 t ?_
        have k : ∀ (v1 : Bool), v1 = (if (fb kk) = sv then true else false) → Steps p.tables e below (s₁.setTop (mkF m 29 #[.val (.ref ia), .val (.int off), .val (.int len), .val (.int sv), .val (.int kk)] [(.int (b2i v1))])) t := fun v1 hv1 => by subst hv1; exact k
        show Steps p.tables e below (s₁.setTop (mkF m 21 #[.val (.ref ia), .val (.int off), .val (.int len), .val (.int sv), .val (.int kk)] [(.int sv), (.int (fb kk))])) _
        by_cases hc12 : (fb kk) = sv
        · refine XS.icmpNo X0.here hx rfl (hb hby d2_21) rfl (teq hc12).2 ?_
          have k : ∀ (v1 : Bool), v1 = true → Steps p.tables e below (s₁.setTop (mkF m 29 #[.val (.ref ia), .val (.int off), .val (.int len), .val (.int sv), .val (.int kk)] [(.int (b2i v1))])) t := fun v1 hv1 => k v1 (hv1.trans (if_pos hc12).symm)
          show Steps p.tables e below (s₁.setTop (mkF m 24 #[.val (.ref ia), .val (.int off), .val (.int len), .val (.int sv), .val (.int kk)] [])) _
          refine XS.iconst X0.here hx rfl (hb hby d2_24) ?_
          show Steps p.tables e below (s₁.setTop (mkF m 25 #[.val (.ref ia), .val (.int off), .val (.int len), .val (.int sv), .val (.int kk)] [(.int (1 : Int32))])) _
          refine XS.goto X0.here hx rfl (pc0 := 25) (pc' := 29) rfl (hb hby d2_25) (by decide) (by decide) ?_
          exact k true rfl
        · refine XS.icmpYes X0.here hx rfl (pc0 := 21) (pc' := 28) rfl (hb hby d2_21) rfl (feq hc12).2 (by decide) (by decide) ?_
          have k : ∀ (v1 : Bool), v1 = false → Steps p.tables e below (s₁.setTop (mkF m 29 #[.val (.ref ia), .val (.int off), .val (.int len), .val (.int sv), .val (.int kk)] [(.int (b2i v1))])) t := fun v1 hv1 => k v1 (hv1.trans (if_neg hc12).symm)
          show Steps p.tables e below (s₁.setTop (mkF m 28 #[.val (.ref ia), .val (.int off), .val (.int len), .val (.int sv), .val (.int kk)] [])) _
          refine XS.iconst X0.here hx rfl (hb hby d2_28) ?_
          exact k false rfl
      obtain ⟨fs, hr, hrun, hended, hW, hsame⟩ := X0.leave (v := some (.int (b2i (Fun off len sv kk fb)))) (fun h => by rw [Bd.returns] at h; cases h) (BodyLoose.notSynchronized Bd)
      refine ⟨_, _, pre11 _ ?_, hrun, hended, _, _, rfl, ?_, ⟨_, rfl⟩, hW, hsame.mono (by decide) (by decide)⟩
      · show Steps p.tables e below (s₁.setTop (mkF m 29 #[.val (.ref ia), .val (.int off), .val (.int len), .val (.int sv), .val (.int kk)] [(.int (b2i (if (fb kk) = sv then true else false)))])) _
        have hr2 := hr
        rw [(show (Fun off len sv kk fb) = (if (fb kk) = sv then true else false) from ((if_neg hc3).trans ((if_neg hc8).trans rfl)))] at hr2
        exact retN X0 hx (t := .boolean) Bd.returns (by simp) (hb hby d2_29) (by rw [nar_b2i]; exact hr2)
      · show Q2 Z ia off len sv kk fb h0 n0 _ s₁.heap _
        rw [e0]
        exact ⟨rfl, N0, rfl⟩
theorem d3_0 : decode method_4_code 0 = .ok (.iload_n 3, 1) := by decide +kernel
theorem d3_1 : decode method_4_code 1 = .ok (.iload_n 2, 1) := by decide +kernel
theorem d3_2 : decode method_4_code 2 = .ok (.if_icmp .lt 5, 3) := by decide +kernel
theorem d3_5 : decode method_4_code 5 = .ok (.lconst 0, 1) := by decide +kernel
theorem d3_6 : decode method_4_code 6 = .ok (.lreturn, 1) := by decide +kernel
theorem d3_7 : decode method_4_code 7 = .ok (.aload_n 0, 1) := by decide +kernel
theorem d3_8 : decode method_4_code 8 = .ok (.iload_n 1, 1) := by decide +kernel
theorem d3_9 : decode method_4_code 9 = .ok (.iload_n 3, 1) := by decide +kernel
theorem d3_10 : decode method_4_code 10 = .ok (.iadd, 1) := by decide +kernel
theorem d3_11 : decode method_4_code 11 = .ok (.baload, 1) := by decide +kernel
theorem d3_12 : decode method_4_code 12 = .ok (.sipush 255, 3) := by decide +kernel
theorem d3_15 : decode method_4_code 15 = .ok (.iand, 1) := by decide +kernel
theorem d3_16 : decode method_4_code 16 = .ok (.istore 4, 2) := by decide +kernel
theorem d3_18 : decode method_4_code 18 = .ok (.iload_n 3, 1) := by decide +kernel
theorem d3_19 : decode method_4_code 19 = .ok (.iload_n 2, 1) := by decide +kernel
theorem d3_20 : decode method_4_code 20 = .ok (.iconst 1, 1) := by decide +kernel
theorem d3_21 : decode method_4_code 21 = .ok (.isub, 1) := by decide +kernel
theorem d3_22 : decode method_4_code 22 = .ok (.if_icmp .ne 24, 3) := by decide +kernel
theorem d3_25 : decode method_4_code 25 = .ok (.iload 4, 2) := by decide +kernel
theorem d3_27 : decode method_4_code 27 = .ok (.sipush 128, 3) := by decide +kernel
theorem d3_30 : decode method_4_code 30 = .ok (.if_icmp .lt 7, 3) := by decide +kernel
theorem d3_33 : decode method_4_code 33 = .ok (.ldc2_w 24, 3) := by decide +kernel
theorem d3_36 : decode method_4_code 36 = .ok (.lreturn, 1) := by decide +kernel
theorem d3_37 : decode method_4_code 37 = .ok (.iload 4, 2) := by decide +kernel
theorem d3_39 : decode method_4_code 39 = .ok (.i2l, 1) := by decide +kernel
theorem d3_40 : decode method_4_code 40 = .ok (.bipush 7, 2) := by decide +kernel
theorem d3_42 : decode method_4_code 42 = .ok (.iload_n 3, 1) := by decide +kernel
theorem d3_43 : decode method_4_code 43 = .ok (.imul, 1) := by decide +kernel
theorem d3_44 : decode method_4_code 44 = .ok (.lshl, 1) := by decide +kernel
theorem d3_45 : decode method_4_code 45 = .ok (.lreturn, 1) := by decide +kernel
theorem d3_46 : decode method_4_code 46 = .ok (.iload 4, 2) := by decide +kernel
theorem d3_48 : decode method_4_code 48 = .ok (.sipush 128, 3) := by decide +kernel
theorem d3_51 : decode method_4_code 51 = .ok (.if_icmp .ge 7, 3) := by decide +kernel
theorem d3_54 : decode method_4_code 54 = .ok (.ldc2_w 24, 3) := by decide +kernel
theorem d3_57 : decode method_4_code 57 = .ok (.lreturn, 1) := by decide +kernel
theorem d3_58 : decode method_4_code 58 = .ok (.iload 4, 2) := by decide +kernel
theorem d3_60 : decode method_4_code 60 = .ok (.bipush 127, 2) := by decide +kernel
theorem d3_62 : decode method_4_code 62 = .ok (.iand, 1) := by decide +kernel
theorem d3_63 : decode method_4_code 63 = .ok (.i2l, 1) := by decide +kernel
theorem d3_64 : decode method_4_code 64 = .ok (.bipush 7, 2) := by decide +kernel
theorem d3_66 : decode method_4_code 66 = .ok (.iload_n 3, 1) := by decide +kernel
theorem d3_67 : decode method_4_code 67 = .ok (.imul, 1) := by decide +kernel
theorem d3_68 : decode method_4_code 68 = .ok (.lshl, 1) := by decide +kernel
theorem d3_69 : decode method_4_code 69 = .ok (.lreturn, 1) := by decide +kernel
theorem ef_3 (m : MethodId) (x0 : Addr) (x1 : Int32) (x2 : Int32) (x3 : Int32) : entryFrame m #[(.ref x0), (.int x1), (.int x2), (.int x3)] 5 = mkF m 0 #[.val (.ref x0), .val (.int x1), .val (.int x2), .val (.int x3), .unset] [] := by first | (simp [entryFrame, mkF, argsToLocals, Value.category]; done) | rfl
def v_pb (off : Int32) (jj : Int32) (fb : Int32 → Int32) : Int32 := ((fb (off + jj)) &&& (255 : Int32))
def Fpart (off : Int32) (len : Int32) (jj : Int32) (fb : Int32 → Int32) : Int64 := (if jj < len then (if jj = (len - (1 : Int32)) then (if (v_pb off jj fb) < (128 : Int32) then (((v_pb off jj fb).toInt64) <<< (((7 : Int32) * jj) &&& 0x3f).toInt64) else (-1 : Int64)) else (if (v_pb off jj fb) < (128 : Int32) then (-1 : Int64) else ((((v_pb off jj fb) &&& (127 : Int32)).toInt64) <<< (((7 : Int32) * jj) &&& 0x3f).toInt64))) else (0 : Int64))
def Q3 (Z : State) (ia : Addr) (off : Int32) (len : Int32) (jj : Int32) (fb : Int32 → Int32) (h0 : Heap) (n0 : Nat) (v : Option Value) (h : Heap) (L : List Loc) : Prop := v = some (.long (Fpart off len jj fb)) ∧ Fr n0 L ∧ h = h0
set_option maxRecDepth 65536 in
set_option maxHeartbeats 40000000 in
theorem rm3 (l : Launch) (Z : State) (a0 : Array Value) (hw : ∀ d ∈ tables_1, d.before a0 Z = true) (ws : List Jvm.Cond) (ia : Addr) (off : Int32) (len : Int32) (jj : Int32) (fb : Int32 → Int32) (h0 : Heap) (n0 : Nat) (Z0 : n0 ≤ h0.size) (I0 : PV Z h0 n0 ia fb) (hjj : jj < len → ¬ (off + jj) < 0 ∧ (off + jj) < (13 : Int32)) :
    MetFree l (⟨"com/example/tamsui/tamsui/encoded/EncodedFormPutVarintPinLaw", "part", "([BIII)J"⟩ : MethodName) (head1 (Jvm.Cond.code (⟨"com/example/tamsui/tamsui/encoded/EncodedFormPutVarintPinLaw", "part", "([BIII)J"⟩ : MethodName) method_4_code 5 (some .long) :: ws) ({ frames := 0, cells := 0, slots := 0, locals := 0 } : Room)) (fun a U => a = #[(.ref ia), (.int off), (.int len), (.int jj)] ∧ Z.Warmed39 U.vm ∧ U.heap = h0) (fun _ _ _ _ _ => True) (fun _ U o U' => ∃ v L, o = .returned v ∧ Q3 Z ia off len jj fb h0 n0 v U'.heap L ∧ FrameEnd U o U' L ({ frames := 0, cells := 0, slots := 0, locals := 0 } : Room).cells ({ frames := 0, cells := 0, slots := 0, locals := 0 } : Room).slots) := by
  refine MetFree.of_bodySF (plainFor_of_name pn_2) hisR ?_
  intro p e s m args below meth c s₁ Bd hml0 hP hK
  obtain ⟨rfl, hZ, hh⟩ := hP
  have hx := Bd.exec
  have hby := Bd.bytes
  have hml : c.maxLocals = 5 := hml0
  have hown : s.vm.findClass "com/example/tamsui/tamsui/encoded/EncodedFormPutVarintPinLaw" = some m.cls := findClass_of_methodNamed Bd.named
  have hnm := (name_of_methodNamed Bd.named Bd.method).1
  have X0 : Stand p l e ({ frames := 0, cells := 0, slots := 0, locals := 0 } : Room) s m #[(.ref ia), (.int off), (.int len), (.int jj)] below meth c s₁ [] 0 0 := Stand.of_body Bd
  have e0 : s₁.heap = h0 := by rw [← hh, Bd.state]; rfl
  have N0 := Fr.nil n0
  have pre0 : ∀ t, Steps p.tables e below (s₁.setTop (mkF m 0 #[.val (.ref ia), .val (.int off), .val (.int len), .val (.int jj), .unset] [])) t → Steps p.tables e below (s₁.setTop (entryFrame m #[(.ref ia), (.int off), (.int len), (.int jj)] 5)) t := fun t k => castTop (ef_3 m ia off len jj) k
  obtain ⟨k1_0, k1_g_ia, k1_sz⟩ := I0
  have pre2 : ∀ t, Steps p.tables e below (s₁.setTop (mkF m 2 #[.val (.ref ia), .val (.int off), .val (.int len), .val (.int jj), .unset] [(.int len), (.int jj)])) t → Steps p.tables e below (s₁.setTop (entryFrame m #[(.ref ia), (.int off), (.int len), (.int jj)] 5)) t := by
    intro t k
    refine pre0 t ?_
    show Steps p.tables e below (s₁.setTop (mkF m 0 #[.val (.ref ia), .val (.int off), .val (.int len), .val (.int jj), .unset] [])) _
    refine XS.iloadN X0.here hx rfl (hb hby d3_0) rfl ?_
    show Steps p.tables e below (s₁.setTop (mkF m 1 #[.val (.ref ia), .val (.int off), .val (.int len), .val (.int jj), .unset] [(.int jj)])) _
    refine XS.iloadN X0.here hx rfl (hb hby d3_1) rfl ?_
    exact k
  by_cases hc3 : jj < len
  ·
    have pre4 : ∀ t, Steps p.tables e below (s₁.setTop (mkF m 22 #[.val (.ref ia), .val (.int off), .val (.int len), .val (.int jj), .val (.int (v_pb off jj fb))] [(.int (len - (1 : Int32))), (.int jj)])) t → Steps p.tables e below (s₁.setTop (entryFrame m #[(.ref ia), (.int off), (.int len), (.int jj)] 5)) t := by
      intro t k
      refine pre2 t ?_
      show Steps p.tables e below (s₁.setTop (mkF m 2 #[.val (.ref ia), .val (.int off), .val (.int len), .val (.int jj), .unset] [(.int len), (.int jj)])) _
      refine XS.icmpYes X0.here hx rfl (pc0 := 2) (pc' := 7) rfl (hb hby d3_2) rfl (tlt hc3).1 (by decide) (by decide) ?_
      show Steps p.tables e below (s₁.setTop (mkF m 7 #[.val (.ref ia), .val (.int off), .val (.int len), .val (.int jj), .unset] [])) _
      refine XS.aloadN X0.here hx rfl (hb hby d3_7) rfl rfl ?_
      show Steps p.tables e below (s₁.setTop (mkF m 8 #[.val (.ref ia), .val (.int off), .val (.int len), .val (.int jj), .unset] [(.ref ia)])) _
      refine XS.iloadN X0.here hx rfl (hb hby d3_8) rfl ?_
      show Steps p.tables e below (s₁.setTop (mkF m 9 #[.val (.ref ia), .val (.int off), .val (.int len), .val (.int jj), .unset] [(.int off), (.ref ia)])) _
      refine XS.iloadN X0.here hx rfl (hb hby d3_9) rfl ?_
      show Steps p.tables e below (s₁.setTop (mkF m 10 #[.val (.ref ia), .val (.int off), .val (.int len), .val (.int jj), .unset] [(.int jj), (.int off), (.ref ia)])) _
      refine XS.iadd X0.here hx rfl (hb hby d3_10) rfl ?_
      show Steps p.tables e below (s₁.setTop (mkF m 11 #[.val (.ref ia), .val (.int off), .val (.int len), .val (.int jj), .unset] [(.int (off + jj)), (.ref ia)])) _
      refine rdB X0 hx hZ e0 k1_0 (j := (off + jj)) (hjj hc3) rfl (g := (mkF m 11 #[.val (.ref ia), .val (.int off), .val (.int len), .val (.int jj), .unset] [(.int (off + jj)), (.ref ia)])) rfl rfl (hb hby d3_11) _ ?_
      show Steps p.tables e below (s₁.setTop (mkF m 12 #[.val (.ref ia), .val (.int off), .val (.int len), .val (.int jj), .unset] [(.int (fb (off + jj)))])) _
      refine XS.sipush X0.here hx rfl (hb hby d3_12) ?_
      show Steps p.tables e below (s₁.setTop (mkF m 15 #[.val (.ref ia), .val (.int off), .val (.int len), .val (.int jj), .unset] [(.int (255 : Int32)), (.int (fb (off + jj)))])) _
      refine XS.iand X0.here hx rfl (hb hby d3_15) rfl ?_
      show Steps p.tables e below (s₁.setTop (mkF m 16 #[.val (.ref ia), .val (.int off), .val (.int len), .val (.int jj), .unset] [(.int ((fb (off + jj)) &&& (255 : Int32)))])) _
      refine XS.istore X0.here hx rfl (hb hby d3_16) rfl (l' := #[.val (.ref ia), .val (.int off), .val (.int len), .val (.int jj), .val (.int (v_pb off jj fb))]) rfl ?_
      show Steps p.tables e below (s₁.setTop (mkF m 18 #[.val (.ref ia), .val (.int off), .val (.int len), .val (.int jj), .val (.int (v_pb off jj fb))] [])) _
      refine XS.iloadN X0.here hx rfl (hb hby d3_18) rfl ?_
      show Steps p.tables e below (s₁.setTop (mkF m 19 #[.val (.ref ia), .val (.int off), .val (.int len), .val (.int jj), .val (.int (v_pb off jj fb))] [(.int jj)])) _
      refine XS.iloadN X0.here hx rfl (hb hby d3_19) rfl ?_
      show Steps p.tables e below (s₁.setTop (mkF m 20 #[.val (.ref ia), .val (.int off), .val (.int len), .val (.int jj), .val (.int (v_pb off jj fb))] [(.int len), (.int jj)])) _
      refine XS.iconst X0.here hx rfl (hb hby d3_20) ?_
      show Steps p.tables e below (s₁.setTop (mkF m 21 #[.val (.ref ia), .val (.int off), .val (.int len), .val (.int jj), .val (.int (v_pb off jj fb))] [(.int (1 : Int32)), (.int len), (.int jj)])) _
      refine XS.isub X0.here hx rfl (hb hby d3_21) rfl ?_
      exact k
    by_cases hc5 : jj = (len - (1 : Int32))
    ·
      have pre6 : ∀ t, Steps p.tables e below (s₁.setTop (mkF m 30 #[.val (.ref ia), .val (.int off), .val (.int len), .val (.int jj), .val (.int (v_pb off jj fb))] [(.int (128 : Int32)), (.int (v_pb off jj fb))])) t → Steps p.tables e below (s₁.setTop (entryFrame m #[(.ref ia), (.int off), (.int len), (.int jj)] 5)) t := by
        intro t k
        refine pre4 t ?_
        show Steps p.tables e below (s₁.setTop (mkF m 22 #[.val (.ref ia), .val (.int off), .val (.int len), .val (.int jj), .val (.int (v_pb off jj fb))] [(.int (len - (1 : Int32))), (.int jj)])) _
        refine XS.icmpNo X0.here hx rfl (hb hby d3_22) rfl (teq hc5).2 ?_
        show Steps p.tables e below (s₁.setTop (mkF m 25 #[.val (.ref ia), .val (.int off), .val (.int len), .val (.int jj), .val (.int (v_pb off jj fb))] [])) _
        refine XS.iload X0.here hx rfl (hb hby d3_25) rfl ?_
        show Steps p.tables e below (s₁.setTop (mkF m 27 #[.val (.ref ia), .val (.int off), .val (.int len), .val (.int jj), .val (.int (v_pb off jj fb))] [(.int (v_pb off jj fb))])) _
        refine XS.sipush X0.here hx rfl (hb hby d3_27) ?_
        exact k
      by_cases hc7 : (v_pb off jj fb) < (128 : Int32)
      ·
        have pre8 : ∀ t, Steps p.tables e below (s₁.setTop (mkF m 45 #[.val (.ref ia), .val (.int off), .val (.int len), .val (.int jj), .val (.int (v_pb off jj fb))] [(.long (((v_pb off jj fb).toInt64) <<< (((7 : Int32) * jj) &&& 0x3f).toInt64))])) t → Steps p.tables e below (s₁.setTop (entryFrame m #[(.ref ia), (.int off), (.int len), (.int jj)] 5)) t := by
          intro t k
          refine pre6 t ?_
          show Steps p.tables e below (s₁.setTop (mkF m 30 #[.val (.ref ia), .val (.int off), .val (.int len), .val (.int jj), .val (.int (v_pb off jj fb))] [(.int (128 : Int32)), (.int (v_pb off jj fb))])) _
          refine XS.icmpYes X0.here hx rfl (pc0 := 30) (pc' := 37) rfl (hb hby d3_30) rfl (tlt hc7).1 (by decide) (by decide) ?_
          show Steps p.tables e below (s₁.setTop (mkF m 37 #[.val (.ref ia), .val (.int off), .val (.int len), .val (.int jj), .val (.int (v_pb off jj fb))] [])) _
          refine XS.iload X0.here hx rfl (hb hby d3_37) rfl ?_
          show Steps p.tables e below (s₁.setTop (mkF m 39 #[.val (.ref ia), .val (.int off), .val (.int len), .val (.int jj), .val (.int (v_pb off jj fb))] [(.int (v_pb off jj fb))])) _
          refine XS.i2l X0.here hx rfl (hb hby d3_39) rfl ?_
          show Steps p.tables e below (s₁.setTop (mkF m 40 #[.val (.ref ia), .val (.int off), .val (.int len), .val (.int jj), .val (.int (v_pb off jj fb))] [(.long ((v_pb off jj fb).toInt64))])) _
          refine XS.bipush X0.here hx rfl (hb hby d3_40) ?_
          show Steps p.tables e below (s₁.setTop (mkF m 42 #[.val (.ref ia), .val (.int off), .val (.int len), .val (.int jj), .val (.int (v_pb off jj fb))] [(.int (7 : Int32)), (.long ((v_pb off jj fb).toInt64))])) _
          refine XS.iloadN X0.here hx rfl (hb hby d3_42) rfl ?_
          show Steps p.tables e below (s₁.setTop (mkF m 43 #[.val (.ref ia), .val (.int off), .val (.int len), .val (.int jj), .val (.int (v_pb off jj fb))] [(.int jj), (.int (7 : Int32)), (.long ((v_pb off jj fb).toInt64))])) _
          refine XS.imul X0.here hx rfl (hb hby d3_43) rfl ?_
          show Steps p.tables e below (s₁.setTop (mkF m 44 #[.val (.ref ia), .val (.int off), .val (.int len), .val (.int jj), .val (.int (v_pb off jj fb))] [(.int ((7 : Int32) * jj)), (.long ((v_pb off jj fb).toInt64))])) _
          refine XS.lshl X0.here hx rfl (hb hby d3_44) rfl ?_
          exact k
        obtain ⟨fs, hr, hrun, hended, hW, hsame⟩ := X0.leave (v := some (.long (Fpart off len jj fb))) (fun h => by rw [Bd.returns] at h; cases h) (BodyLoose.notSynchronized Bd)
        refine ⟨_, _, pre8 _ ?_, hrun, hended, _, _, rfl, ?_, ⟨_, rfl⟩, hW, hsame.mono (by decide) (by decide)⟩
        · show Steps p.tables e below (s₁.setTop (mkF m 45 #[.val (.ref ia), .val (.int off), .val (.int len), .val (.int jj), .val (.int (v_pb off jj fb))] [(.long (((v_pb off jj fb).toInt64) <<< (((7 : Int32) * jj) &&& 0x3f).toInt64))])) _
          have hr2 := hr
          rw [(show (Fpart off len jj fb) = (((v_pb off jj fb).toInt64) <<< (((7 : Int32) * jj) &&& 0x3f).toInt64) from ((if_pos hc3).trans ((if_pos hc5).trans ((if_pos hc7).trans rfl))))] at hr2
          exact X0.lreturnOut hx Bd.returns (hb hby d3_45) hr2
        · show Q3 Z ia off len jj fb h0 n0 _ s₁.heap _
          rw [e0]
          exact ⟨rfl, N0, rfl⟩
      ·
        have pre9 : ∀ t, Steps p.tables e below (s₁.setTop (mkF m 36 #[.val (.ref ia), .val (.int off), .val (.int len), .val (.int jj), .val (.int (v_pb off jj fb))] [(.long (-1 : Int64))])) t → Steps p.tables e below (s₁.setTop (entryFrame m #[(.ref ia), (.int off), (.int len), (.int jj)] 5)) t := by
          intro t k
          refine pre6 t ?_
          show Steps p.tables e below (s₁.setTop (mkF m 30 #[.val (.ref ia), .val (.int off), .val (.int len), .val (.int jj), .val (.int (v_pb off jj fb))] [(.int (128 : Int32)), (.int (v_pb off jj fb))])) _
          refine XS.icmpNo X0.here hx rfl (hb hby d3_30) rfl (flt hc7).1 ?_
          show Steps p.tables e below (s₁.setTop (mkF m 33 #[.val (.ref ia), .val (.int off), .val (.int len), .val (.int jj), .val (.int (v_pb off jj fb))] [])) _
          refine X0.ldc2Long hx hown (mvT hZ (hw _ (List.mem_of_getElem? (i := 15) rfl))) (g := (mkF m 33 #[.val (.ref ia), .val (.int off), .val (.int len), .val (.int jj), .val (.int (v_pb off jj fb))] [])) rfl (hb hby d3_33) _ ?_
          exact k
        obtain ⟨fs, hr, hrun, hended, hW, hsame⟩ := X0.leave (v := some (.long (Fpart off len jj fb))) (fun h => by rw [Bd.returns] at h; cases h) (BodyLoose.notSynchronized Bd)
        refine ⟨_, _, pre9 _ ?_, hrun, hended, _, _, rfl, ?_, ⟨_, rfl⟩, hW, hsame.mono (by decide) (by decide)⟩
        · show Steps p.tables e below (s₁.setTop (mkF m 36 #[.val (.ref ia), .val (.int off), .val (.int len), .val (.int jj), .val (.int (v_pb off jj fb))] [(.long (-1 : Int64))])) _
          have hr2 := hr
          rw [(show (Fpart off len jj fb) = (-1 : Int64) from ((if_pos hc3).trans ((if_pos hc5).trans ((if_neg hc7).trans rfl))))] at hr2
          exact X0.lreturnOut hx Bd.returns (hb hby d3_36) hr2
        · show Q3 Z ia off len jj fb h0 n0 _ s₁.heap _
          rw [e0]
          exact ⟨rfl, N0, rfl⟩
    ·
      have pre10 : ∀ t, Steps p.tables e below (s₁.setTop (mkF m 51 #[.val (.ref ia), .val (.int off), .val (.int len), .val (.int jj), .val (.int (v_pb off jj fb))] [(.int (128 : Int32)), (.int (v_pb off jj fb))])) t → Steps p.tables e below (s₁.setTop (entryFrame m #[(.ref ia), (.int off), (.int len), (.int jj)] 5)) t := by
        intro t k
        refine pre4 t ?_
        show Steps p.tables e below (s₁.setTop (mkF m 22 #[.val (.ref ia), .val (.int off), .val (.int len), .val (.int jj), .val (.int (v_pb off jj fb))] [(.int (len - (1 : Int32))), (.int jj)])) _
        refine XS.icmpYes X0.here hx rfl (pc0 := 22) (pc' := 46) rfl (hb hby d3_22) rfl (feq hc5).2 (by decide) (by decide) ?_
        show Steps p.tables e below (s₁.setTop (mkF m 46 #[.val (.ref ia), .val (.int off), .val (.int len), .val (.int jj), .val (.int (v_pb off jj fb))] [])) _
        refine XS.iload X0.here hx rfl (hb hby d3_46) rfl ?_
        show Steps p.tables e below (s₁.setTop (mkF m 48 #[.val (.ref ia), .val (.int off), .val (.int len), .val (.int jj), .val (.int (v_pb off jj fb))] [(.int (v_pb off jj fb))])) _
        refine XS.sipush X0.here hx rfl (hb hby d3_48) ?_
        exact k
      by_cases hc11 : (v_pb off jj fb) < (128 : Int32)
      ·
        have pre12 : ∀ t, Steps p.tables e below (s₁.setTop (mkF m 57 #[.val (.ref ia), .val (.int off), .val (.int len), .val (.int jj), .val (.int (v_pb off jj fb))] [(.long (-1 : Int64))])) t → Steps p.tables e below (s₁.setTop (entryFrame m #[(.ref ia), (.int off), (.int len), (.int jj)] 5)) t := by
          intro t k
          refine pre10 t ?_
          show Steps p.tables e below (s₁.setTop (mkF m 51 #[.val (.ref ia), .val (.int off), .val (.int len), .val (.int jj), .val (.int (v_pb off jj fb))] [(.int (128 : Int32)), (.int (v_pb off jj fb))])) _
          refine XS.icmpNo X0.here hx rfl (hb hby d3_51) rfl (tlt hc11).2.1 ?_
          show Steps p.tables e below (s₁.setTop (mkF m 54 #[.val (.ref ia), .val (.int off), .val (.int len), .val (.int jj), .val (.int (v_pb off jj fb))] [])) _
          refine X0.ldc2Long hx hown (mvT hZ (hw _ (List.mem_of_getElem? (i := 15) rfl))) (g := (mkF m 54 #[.val (.ref ia), .val (.int off), .val (.int len), .val (.int jj), .val (.int (v_pb off jj fb))] [])) rfl (hb hby d3_54) _ ?_
          exact k
        obtain ⟨fs, hr, hrun, hended, hW, hsame⟩ := X0.leave (v := some (.long (Fpart off len jj fb))) (fun h => by rw [Bd.returns] at h; cases h) (BodyLoose.notSynchronized Bd)
        refine ⟨_, _, pre12 _ ?_, hrun, hended, _, _, rfl, ?_, ⟨_, rfl⟩, hW, hsame.mono (by decide) (by decide)⟩
        · show Steps p.tables e below (s₁.setTop (mkF m 57 #[.val (.ref ia), .val (.int off), .val (.int len), .val (.int jj), .val (.int (v_pb off jj fb))] [(.long (-1 : Int64))])) _
          have hr2 := hr
          rw [(show (Fpart off len jj fb) = (-1 : Int64) from ((if_pos hc3).trans ((if_neg hc5).trans ((if_pos hc11).trans rfl))))] at hr2
          exact X0.lreturnOut hx Bd.returns (hb hby d3_57) hr2
        · show Q3 Z ia off len jj fb h0 n0 _ s₁.heap _
          rw [e0]
          exact ⟨rfl, N0, rfl⟩
      ·
        have pre13 : ∀ t, Steps p.tables e below (s₁.setTop (mkF m 69 #[.val (.ref ia), .val (.int off), .val (.int len), .val (.int jj), .val (.int (v_pb off jj fb))] [(.long ((((v_pb off jj fb) &&& (127 : Int32)).toInt64) <<< (((7 : Int32) * jj) &&& 0x3f).toInt64))])) t → Steps p.tables e below (s₁.setTop (entryFrame m #[(.ref ia), (.int off), (.int len), (.int jj)] 5)) t := by
          intro t k
          refine pre10 t ?_
          show Steps p.tables e below (s₁.setTop (mkF m 51 #[.val (.ref ia), .val (.int off), .val (.int len), .val (.int jj), .val (.int (v_pb off jj fb))] [(.int (128 : Int32)), (.int (v_pb off jj fb))])) _
          refine XS.icmpYes X0.here hx rfl (pc0 := 51) (pc' := 58) rfl (hb hby d3_51) rfl (flt hc11).2.1 (by decide) (by decide) ?_
          show Steps p.tables e below (s₁.setTop (mkF m 58 #[.val (.ref ia), .val (.int off), .val (.int len), .val (.int jj), .val (.int (v_pb off jj fb))] [])) _
          refine XS.iload X0.here hx rfl (hb hby d3_58) rfl ?_
          show Steps p.tables e below (s₁.setTop (mkF m 60 #[.val (.ref ia), .val (.int off), .val (.int len), .val (.int jj), .val (.int (v_pb off jj fb))] [(.int (v_pb off jj fb))])) _
          refine XS.bipush X0.here hx rfl (hb hby d3_60) ?_
          show Steps p.tables e below (s₁.setTop (mkF m 62 #[.val (.ref ia), .val (.int off), .val (.int len), .val (.int jj), .val (.int (v_pb off jj fb))] [(.int (127 : Int32)), (.int (v_pb off jj fb))])) _
          refine XS.iand X0.here hx rfl (hb hby d3_62) rfl ?_
          show Steps p.tables e below (s₁.setTop (mkF m 63 #[.val (.ref ia), .val (.int off), .val (.int len), .val (.int jj), .val (.int (v_pb off jj fb))] [(.int ((v_pb off jj fb) &&& (127 : Int32)))])) _
          refine XS.i2l X0.here hx rfl (hb hby d3_63) rfl ?_
          show Steps p.tables e below (s₁.setTop (mkF m 64 #[.val (.ref ia), .val (.int off), .val (.int len), .val (.int jj), .val (.int (v_pb off jj fb))] [(.long (((v_pb off jj fb) &&& (127 : Int32)).toInt64))])) _
          refine XS.bipush X0.here hx rfl (hb hby d3_64) ?_
          show Steps p.tables e below (s₁.setTop (mkF m 66 #[.val (.ref ia), .val (.int off), .val (.int len), .val (.int jj), .val (.int (v_pb off jj fb))] [(.int (7 : Int32)), (.long (((v_pb off jj fb) &&& (127 : Int32)).toInt64))])) _
          refine XS.iloadN X0.here hx rfl (hb hby d3_66) rfl ?_
          show Steps p.tables e below (s₁.setTop (mkF m 67 #[.val (.ref ia), .val (.int off), .val (.int len), .val (.int jj), .val (.int (v_pb off jj fb))] [(.int jj), (.int (7 : Int32)), (.long (((v_pb off jj fb) &&& (127 : Int32)).toInt64))])) _
          refine XS.imul X0.here hx rfl (hb hby d3_67) rfl ?_
          show Steps p.tables e below (s₁.setTop (mkF m 68 #[.val (.ref ia), .val (.int off), .val (.int len), .val (.int jj), .val (.int (v_pb off jj fb))] [(.int ((7 : Int32) * jj)), (.long (((v_pb off jj fb) &&& (127 : Int32)).toInt64))])) _
          refine XS.lshl X0.here hx rfl (hb hby d3_68) rfl ?_
          exact k
        obtain ⟨fs, hr, hrun, hended, hW, hsame⟩ := X0.leave (v := some (.long (Fpart off len jj fb))) (fun h => by rw [Bd.returns] at h; cases h) (BodyLoose.notSynchronized Bd)
        refine ⟨_, _, pre13 _ ?_, hrun, hended, _, _, rfl, ?_, ⟨_, rfl⟩, hW, hsame.mono (by decide) (by decide)⟩
        · show Steps p.tables e below (s₁.setTop (mkF m 69 #[.val (.ref ia), .val (.int off), .val (.int len), .val (.int jj), .val (.int (v_pb off jj fb))] [(.long ((((v_pb off jj fb) &&& (127 : Int32)).toInt64) <<< (((7 : Int32) * jj) &&& 0x3f).toInt64))])) _
          have hr2 := hr
          rw [(show (Fpart off len jj fb) = ((((v_pb off jj fb) &&& (127 : Int32)).toInt64) <<< (((7 : Int32) * jj) &&& 0x3f).toInt64) from ((if_pos hc3).trans ((if_neg hc5).trans ((if_neg hc11).trans rfl))))] at hr2
          exact X0.lreturnOut hx Bd.returns (hb hby d3_69) hr2
        · show Q3 Z ia off len jj fb h0 n0 _ s₁.heap _
          rw [e0]
          exact ⟨rfl, N0, rfl⟩
  ·
    have pre14 : ∀ t, Steps p.tables e below (s₁.setTop (mkF m 6 #[.val (.ref ia), .val (.int off), .val (.int len), .val (.int jj), .unset] [(.long (0 : Int64))])) t → Steps p.tables e below (s₁.setTop (entryFrame m #[(.ref ia), (.int off), (.int len), (.int jj)] 5)) t := by
      intro t k
      refine pre2 t ?_
      show Steps p.tables e below (s₁.setTop (mkF m 2 #[.val (.ref ia), .val (.int off), .val (.int len), .val (.int jj), .unset] [(.int len), (.int jj)])) _
      refine XS.icmpNo X0.here hx rfl (hb hby d3_2) rfl (flt hc3).1 ?_
      show Steps p.tables e below (s₁.setTop (mkF m 5 #[.val (.ref ia), .val (.int off), .val (.int len), .val (.int jj), .unset] [])) _
      refine XS.lconst X0.here hx rfl (hb hby d3_5) ?_
      exact k
    obtain ⟨fs, hr, hrun, hended, hW, hsame⟩ := X0.leave (v := some (.long (Fpart off len jj fb))) (fun h => by rw [Bd.returns] at h; cases h) (BodyLoose.notSynchronized Bd)
    refine ⟨_, _, pre14 _ ?_, hrun, hended, _, _, rfl, ?_, ⟨_, rfl⟩, hW, hsame.mono (by decide) (by decide)⟩
    · show Steps p.tables e below (s₁.setTop (mkF m 6 #[.val (.ref ia), .val (.int off), .val (.int len), .val (.int jj), .unset] [(.long (0 : Int64))])) _
      have hr2 := hr
      rw [(show (Fpart off len jj fb) = (0 : Int64) from ((if_neg hc3).trans rfl))] at hr2
      exact X0.lreturnOut hx Bd.returns (hb hby d3_6) hr2
    · show Q3 Z ia off len jj fb h0 n0 _ s₁.heap _
      rw [e0]
      exact ⟨rfl, N0, rfl⟩
theorem pd_0 : parseMethodDescriptor "([BIJI)I" = some ⟨[(.array .byte), .int, .long, .int], some .int⟩ := by decide +kernel
theorem pd_1 : parseMethodDescriptor "([BIIBI)Z" = some ⟨[(.array .byte), .int, .int, .byte, .int], some .boolean⟩ := by decide +kernel
theorem pd_2 : parseMethodDescriptor "([BIII)J" = some ⟨[(.array .byte), .int, .int, .int], some .long⟩ := by decide +kernel
theorem ef_0 (m : MethodId) (x0 : Int64) (x1 : Int32) (x2 : Int32) (x3 : Int32) : entryFrame m #[(.long x0), (.int x1), (.int x2), (.int x3)] maxLocals = mkF m 0 #[.val (.long x0), .second, .val (.int x1), .val (.int x2), .val (.int x3), .unset, .unset, .unset, .unset, .unset, .unset, .unset, .unset, .unset, .unset, .unset, .unset, .unset, .unset, .unset, .unset, .unset, .unset, .unset, .unset, .unset, .unset, .unset, .unset, .unset, .unset, .unset, .unset] [] := by first | (simp [entryFrame, mkF, argsToLocals, Value.category, maxLocals]; done) | rfl
def v_len (ln : Int32) : Int32 := (((ln &&& (2147483647 : Int32)) % (9 : Int32)) + (1 : Int32))
def v_val (vv : Int64) (ln : Int32) : Int64 := (vv &&& (((1 : Int64) <<< (((7 : Int32) * (v_len ln)) &&& 0x3f).toInt64) - (1 : Int64)))
def v_off (os : Int32) : Int32 := (os &&& (3 : Int32))
def v_in (fi : Int32) : Int32 → Int32 := (@upA Int32 (@upA Int32 (@upA Int32 (@upA Int32 (@upA Int32 (@upA Int32 (@upA Int32 (@upA Int32 (@upA Int32 (@upA Int32 (@upA Int32 (@upA Int32 (@upA Int32 (fun _ => 0) (0 : Int32) (fi.toInt8.toInt32)) (1 : Int32) (fi.toInt8.toInt32)) (2 : Int32) (fi.toInt8.toInt32)) (3 : Int32) (fi.toInt8.toInt32)) (4 : Int32) (fi.toInt8.toInt32)) (5 : Int32) (fi.toInt8.toInt32)) (6 : Int32) (fi.toInt8.toInt32)) (7 : Int32) (fi.toInt8.toInt32)) (8 : Int32) (fi.toInt8.toInt32)) (9 : Int32) (fi.toInt8.toInt32)) (10 : Int32) (fi.toInt8.toInt32)) (11 : Int32) (fi.toInt8.toInt32)) (12 : Int32) (fi.toInt8.toInt32))
def v_g (vv : Int64) (ln : Int32) (os : Int32) (fi : Int32) : Int32 → Int32 := (Fpv_f (v_off os) (v_val vv ln) (v_len ln) (v_in fi))
def v_p0 (vv : Int64) (ln : Int32) (os : Int32) (fi : Int32) : Int64 := (Fpart (v_off os) (v_len ln) (0 : Int32) (v_g vv ln os fi))
def v_p1 (vv : Int64) (ln : Int32) (os : Int32) (fi : Int32) : Int64 := (Fpart (v_off os) (v_len ln) (1 : Int32) (v_g vv ln os fi))
def v_p2 (vv : Int64) (ln : Int32) (os : Int32) (fi : Int32) : Int64 := (Fpart (v_off os) (v_len ln) (2 : Int32) (v_g vv ln os fi))
def v_p3 (vv : Int64) (ln : Int32) (os : Int32) (fi : Int32) : Int64 := (Fpart (v_off os) (v_len ln) (3 : Int32) (v_g vv ln os fi))
def v_p4 (vv : Int64) (ln : Int32) (os : Int32) (fi : Int32) : Int64 := (Fpart (v_off os) (v_len ln) (4 : Int32) (v_g vv ln os fi))
def v_p5 (vv : Int64) (ln : Int32) (os : Int32) (fi : Int32) : Int64 := (Fpart (v_off os) (v_len ln) (5 : Int32) (v_g vv ln os fi))
def v_p6 (vv : Int64) (ln : Int32) (os : Int32) (fi : Int32) : Int64 := (Fpart (v_off os) (v_len ln) (6 : Int32) (v_g vv ln os fi))
def v_p7 (vv : Int64) (ln : Int32) (os : Int32) (fi : Int32) : Int64 := (Fpart (v_off os) (v_len ln) (7 : Int32) (v_g vv ln os fi))
def v_p8 (vv : Int64) (ln : Int32) (os : Int32) (fi : Int32) : Int64 := (Fpart (v_off os) (v_len ln) (8 : Int32) (v_g vv ln os fi))
def v_sum (vv : Int64) (ln : Int32) (os : Int32) (fi : Int32) : Int64 := (((((((((v_p0 vv ln os fi) + (v_p1 vv ln os fi)) + (v_p2 vv ln os fi)) + (v_p3 vv ln os fi)) + (v_p4 vv ln os fi)) + (v_p5 vv ln os fi)) + (v_p6 vv ln os fi)) + (v_p7 vv ln os fi)) + (v_p8 vv ln os fi))
def lawE1 (vv : Int64) (ln : Int32) (os : Int32) (fi : Int32) : Bool := (if (v_sum vv ln os fi) = (v_val vv ln) then true else false)
theorem own_vlen (ln : Int32) : 1 ≤ (v_len ln).toInt ∧ (v_len ln).toInt ≤ 9 := by
  have a := c_mask ln 2147483647 31 (by decide) (by decide)
  have b := (c_irem (ln &&& 2147483647) 9 9 (by decide)).1 (by omega)
  have c := c_iadd ((ln &&& 2147483647) % 9) 1
  have d := rng32 ((ln &&& 2147483647) % 9 + 1)
  have l : (1 : Int32).toInt = 1 := by decide
  show 1 ≤ ((ln &&& 2147483647) % 9 + 1).toInt ∧ ((ln &&& 2147483647) % 9 + 1).toInt ≤ 9
  omega
theorem own_voff (os : Int32) : 0 ≤ (v_off os).toInt ∧ (v_off os).toInt ≤ 3 := by
  have a := c_mask os 3 2 (by decide) (by decide)
  show 0 ≤ (os &&& 3).toInt ∧ (os &&& 3).toInt ≤ 3
  omega
theorem own_jin (ln os j : Int32) (h0 : 0 ≤ j.toInt) (h1 : j.toInt ≤ 8) : j < v_len ln → ¬ (v_off os + j) < 0 ∧ (v_off os + j) < (13 : Int32) := fun _ => by
  obtain ⟨a, b⟩ := own_voff os
  have e := own_off (v_off os) j a b h0 (by omega)
  exact own_in13 _ (by omega) (by omega)
theorem pvF_out (off : Int32) (h0 : 0 ≤ off.toInt) (h1 : off.toInt ≤ 3) (k : Nat) : ∀ (ii : Int32) (r : Int64) (f : Int32 → Int32) (x : Int32), 0 ≤ ii.toInt → ii.toInt + k ≤ 9 → (x.toInt < off.toInt + ii.toInt ∨ off.toInt + ii.toInt + k ≤ x.toInt) → pvF off k ii r f x = f x := by
  induction k with
  | zero => intro ii r f x _ _ _; rfl
  | succ k ih =>
    intro ii r f x hi hk hx
    have e2 := own_pvi ii (by omega) hi
    have e3 := own_off off ii h0 h1 hi (by omega)
    show pvF off k (pv_i ii) (pv_r r) (pv_f off r ii f) x = f x
    rw [ih (pv_i ii) (pv_r r) (pv_f off r ii f) x (by omega) (by omega) (by omega)]
    exact upA_miss fun q => by rw [q, e3] at hx; omega
def byte1 (r : Int64) : Int32 := ((((r &&& (127 : Int64)) ||| (128 : Int64)).toInt32).toInt8.toInt32)
theorem pvF_in (off : Int32) (h0 : 0 ≤ off.toInt) (h1 : off.toInt ≤ 3) (k : Nat) : ∀ (ii : Int32) (r : Int64) (f : Int32 → Int32) (x : Int32) (j : Nat), 0 ≤ ii.toInt → ii.toInt + k ≤ 9 → j < k → x.toInt = off.toInt + ii.toInt + j → pvF off k ii r f x = byte1 (pvR j r) := by
  induction k with
  | zero => intro ii r f x j _ _ h _; omega
  | succ k ih =>
    intro ii r f x j hi hk hj hx
    have e2 := own_pvi ii (by omega) hi
    have e3 := own_off off ii h0 h1 hi (by omega)
    show pvF off k (pv_i ii) (pv_r r) (pv_f off r ii f) x = _
    cases j with
    | zero =>
      rw [pvF_out off h0 h1 k (pv_i ii) (pv_r r) (pv_f off r ii f) x (by omega) (by omega) (by omega)]
      have q : x = off + ii := by rw [← Int32.toInt_inj, e3]; omega
      rw [q]; exact upA_hit
    | succ j => exact ih (pv_i ii) (pv_r r) (pv_f off r ii f) x j (by omega) (by omega) (by omega) (by omega)
theorem own_vin (fi x : Int32) (h0 : 0 ≤ x.toInt) (h1 : x.toInt < 13) : v_in fi x = fi.toInt8.toInt32 := by
  unfold v_in
  simp only [upA]
  by_cases q0 : x = 0
  · subst q0; rfl
  by_cases q1 : x = 1
  · subst q1; rfl
  by_cases q2 : x = 2
  · subst q2; rfl
  by_cases q3 : x = 3
  · subst q3; rfl
  by_cases q4 : x = 4
  · subst q4; rfl
  by_cases q5 : x = 5
  · subst q5; rfl
  by_cases q6 : x = 6
  · subst q6; rfl
  by_cases q7 : x = 7
  · subst q7; rfl
  by_cases q8 : x = 8
  · subst q8; rfl
  by_cases q9 : x = 9
  · subst q9; rfl
  by_cases q10 : x = 10
  · subst q10; rfl
  by_cases q11 : x = 11
  · subst q11; rfl
  by_cases q12 : x = 12
  · subst q12; rfl
  exfalso
  have l0 : (0 : Int32).toInt = 0 := by decide
  have l1 : (1 : Int32).toInt = 1 := by decide
  have l2 : (2 : Int32).toInt = 2 := by decide
  have l3 : (3 : Int32).toInt = 3 := by decide
  have l4 : (4 : Int32).toInt = 4 := by decide
  have l5 : (5 : Int32).toInt = 5 := by decide
  have l6 : (6 : Int32).toInt = 6 := by decide
  have l7 : (7 : Int32).toInt = 7 := by decide
  have l8 : (8 : Int32).toInt = 8 := by decide
  have l9 : (9 : Int32).toInt = 9 := by decide
  have l10 : (10 : Int32).toInt = 10 := by decide
  have l11 : (11 : Int32).toInt = 11 := by decide
  have l12 : (12 : Int32).toInt = 12 := by decide
  rw [← Int32.toInt_inj] at *
  omega
def own_R (vv : Int64) (ln : Int32) (j : Nat) : Int := (pvR j (v_val vv ln)).toInt
theorem own_Kv (ln : Int32) : (((v_len ln).toInt - 1).toNat : Int) = (v_len ln).toInt - 1 := by have := own_vlen ln; omega
theorem own_g_out (vv : Int64) (ln os fi x : Int32) (h0 : 0 ≤ x.toInt) (h1 : x.toInt < 13) (h : x.toInt < (v_off os).toInt ∨ (v_off os).toInt + (v_len ln).toInt ≤ x.toInt) : v_g vv ln os fi x = fi.toInt8.toInt32 := by
  obtain ⟨a, b⟩ := own_voff os
  obtain ⟨c, d⟩ := own_vlen ln
  have e := own_last (v_off os) (v_len ln) a b c d
  have kv := own_Kv ln
  have l0 : (0 : Int32).toInt = 0 := by decide
  have s1 : v_g vv ln os fi x = pvF (v_off os) ((v_len ln).toInt - 1).toNat 0 (v_val vv ln) (v_in fi) x := upA_miss fun q => by rw [q, e] at h; omega
  rw [s1, pvF_out _ a b _ _ _ _ _ (by omega) (by omega) (by omega)]
  exact own_vin fi x h0 h1
theorem own_g_in (vv : Int64) (ln os fi x : Int32) (j : Nat) (hx : x.toInt = (v_off os).toInt + j) (h : (j : Int) < (v_len ln).toInt - 1) : v_g vv ln os fi x = byte1 (pvR j (v_val vv ln)) := by
  obtain ⟨a, b⟩ := own_voff os
  obtain ⟨c, d⟩ := own_vlen ln
  have e := own_last (v_off os) (v_len ln) a b c d
  have kv := own_Kv ln
  have l0 : (0 : Int32).toInt = 0 := by decide
  have s1 : v_g vv ln os fi x = pvF (v_off os) ((v_len ln).toInt - 1).toNat 0 (v_val vv ln) (v_in fi) x := upA_miss fun q => by rw [q, e] at hx; omega
  rw [s1]
  exact pvF_in _ a b _ _ _ _ _ j (by omega) (by omega) (by omega) (by omega)
theorem own_g_last (vv : Int64) (ln os fi x : Int32) (hx : x.toInt = (v_off os).toInt + ((v_len ln).toInt - 1)) : v_g vv ln os fi x = (pvR ((v_len ln).toInt - 1).toNat (v_val vv ln)).toInt32.toInt8.toInt32 := by
  obtain ⟨a, b⟩ := own_voff os
  obtain ⟨c, d⟩ := own_vlen ln
  have e := own_last (v_off os) (v_len ln) a b c d
  have q : x = (v_off os + v_len ln) - 1 := by rw [← Int32.toInt_inj, e, hx]; omega
  rw [q]; exact upA_hit
theorem own_unt (vv : Int64) (ln os fi k : Int32) (h0 : 0 ≤ k.toInt) (h1 : k.toInt < 13) : Fun (v_off os) (v_len ln) (fi.toInt8.toInt32) k (v_g vv ln os fi) = true := by
  obtain ⟨a, b⟩ := own_voff os
  obtain ⟨c, d⟩ := own_vlen ln
  have e := own_off (v_off os) (v_len ln) a b (by omega) d
  unfold Fun
  simp only [Int32.lt_iff_toInt_lt, e]
  split
  · exact if_pos (own_g_out vv ln os fi k h0 h1 (by omega))
  · split
    · rfl
    · exact if_pos (own_g_out vv ln os fi k h0 h1 (by omega))
theorem own_pvr (r : Int64) (h : 0 ≤ r.toInt) : (pv_r r).toInt = r.toInt / 128 := by
  have a := c_lushr r 7 7 (by decide) (by decide)
  have b := rng64 r
  have c : (pv_r r).toInt = (r.toInt % 18446744073709551616) / (2 ^ 7 : Nat) := a
  omega
theorem pvR_succ (j : Nat) : ∀ r, pvR (j + 1) r = pv_r (pvR j r) := by
  induction j with
  | zero => intro r; rfl
  | succ j ih => intro r; show pvR (j + 1) (pv_r r) = _; rw [ih]; rfl
theorem own_val0 (vv : Int64) (ln : Int32) : 0 ≤ (v_val vv ln).toInt ∧ (((v_len ln).toInt = 1 ∧ (v_val vv ln).toInt < 128) ∨ ((v_len ln).toInt = 2 ∧ (v_val vv ln).toInt < 16384) ∨ ((v_len ln).toInt = 3 ∧ (v_val vv ln).toInt < 2097152) ∨ ((v_len ln).toInt = 4 ∧ (v_val vv ln).toInt < 268435456) ∨ ((v_len ln).toInt = 5 ∧ (v_val vv ln).toInt < 34359738368) ∨ ((v_len ln).toInt = 6 ∧ (v_val vv ln).toInt < 4398046511104) ∨ ((v_len ln).toInt = 7 ∧ (v_val vv ln).toInt < 562949953421312) ∨ ((v_len ln).toInt = 8 ∧ (v_val vv ln).toInt < 72057594037927936) ∨ ((v_len ln).toInt = 9 ∧ (v_val vv ln).toInt < 9223372036854775808)) := by
  obtain ⟨c, d⟩ := own_vlen ln
  have key : ∀ (L : Int32) (k : Nat), v_len ln = L → k ≤ 63 → (((1 : Int64) <<< (((7 : Int32) * L) &&& 0x3f).toInt64) - (1 : Int64)).toBitVec.toNat = 2 ^ k - 1 → (v_val vv ln).toInt = vv.toInt % (2 ^ k : Nat) := fun L k q hk hm => by
    unfold v_val; rw [q]; exact c_maskL vv _ k hk hm
  have cases9 : v_len ln = 1 ∨ v_len ln = 2 ∨ v_len ln = 3 ∨ v_len ln = 4 ∨ v_len ln = 5 ∨ v_len ln = 6 ∨ v_len ln = 7 ∨ v_len ln = 8 ∨ v_len ln = 9 := by
    have l1 : (1 : Int32).toInt = 1 := by decide
    have l2 : (2 : Int32).toInt = 2 := by decide
    have l3 : (3 : Int32).toInt = 3 := by decide
    have l4 : (4 : Int32).toInt = 4 := by decide
    have l5 : (5 : Int32).toInt = 5 := by decide
    have l6 : (6 : Int32).toInt = 6 := by decide
    have l7 : (7 : Int32).toInt = 7 := by decide
    have l8 : (8 : Int32).toInt = 8 := by decide
    have l9 : (9 : Int32).toInt = 9 := by decide
    simp only [← Int32.toInt_inj, l1, l2, l3, l4, l5, l6, l7, l8, l9]
    omega
  rcases cases9 with q | q | q | q | q | q | q | q | q
  · have h := key 1 7 q (by decide) (by decide); have w : (v_len ln).toInt = 1 := by rw [q]; decide
    omega
  · have h := key 2 14 q (by decide) (by decide); have w : (v_len ln).toInt = 2 := by rw [q]; decide
    omega
  · have h := key 3 21 q (by decide) (by decide); have w : (v_len ln).toInt = 3 := by rw [q]; decide
    omega
  · have h := key 4 28 q (by decide) (by decide); have w : (v_len ln).toInt = 4 := by rw [q]; decide
    omega
  · have h := key 5 35 q (by decide) (by decide); have w : (v_len ln).toInt = 5 := by rw [q]; decide
    omega
  · have h := key 6 42 q (by decide) (by decide); have w : (v_len ln).toInt = 6 := by rw [q]; decide
    omega
  · have h := key 7 49 q (by decide) (by decide); have w : (v_len ln).toInt = 7 := by rw [q]; decide
    omega
  · have h := key 8 56 q (by decide) (by decide); have w : (v_len ln).toInt = 8 := by rw [q]; decide
    omega
  · have h := key 9 63 q (by decide) (by decide); have w : (v_len ln).toInt = 9 := by rw [q]; decide
    omega
theorem own_Rstep (vv : Int64) (ln : Int32) (j : Nat) (h : 0 ≤ own_R vv ln j) : own_R vv ln (j + 1) = own_R vv ln j / 128 := by
  unfold own_R
  rw [pvR_succ, own_pvr _ h]
theorem own_Rs (vv : Int64) (ln : Int32) : 0 ≤ own_R vv ln 0 ∧ own_R vv ln 1 = own_R vv ln 0 / 128 ∧ own_R vv ln 2 = own_R vv ln 1 / 128 ∧ own_R vv ln 3 = own_R vv ln 2 / 128 ∧ own_R vv ln 4 = own_R vv ln 3 / 128 ∧ own_R vv ln 5 = own_R vv ln 4 / 128 ∧ own_R vv ln 6 = own_R vv ln 5 / 128 ∧ own_R vv ln 7 = own_R vv ln 6 / 128 ∧ own_R vv ln 8 = own_R vv ln 7 / 128 := by
  have h0 : 0 ≤ own_R vv ln 0 := (own_val0 vv ln).1
  have h1 : own_R vv ln 1 = own_R vv ln 0 / 128 := own_Rstep vv ln 0 h0
  have h2 : own_R vv ln 2 = own_R vv ln 1 / 128 := own_Rstep vv ln 1 (by omega)
  have h3 : own_R vv ln 3 = own_R vv ln 2 / 128 := own_Rstep vv ln 2 (by omega)
  have h4 : own_R vv ln 4 = own_R vv ln 3 / 128 := own_Rstep vv ln 3 (by omega)
  have h5 : own_R vv ln 5 = own_R vv ln 4 / 128 := own_Rstep vv ln 4 (by omega)
  have h6 : own_R vv ln 6 = own_R vv ln 5 / 128 := own_Rstep vv ln 5 (by omega)
  have h7 : own_R vv ln 7 = own_R vv ln 6 / 128 := own_Rstep vv ln 6 (by omega)
  have h8 : own_R vv ln 8 = own_R vv ln 7 / 128 := own_Rstep vv ln 7 (by omega)
  exact ⟨h0, h1, h2, h3, h4, h5, h6, h7, h8⟩
theorem own_byte1 (r : Int64) (h : 0 ≤ r.toInt) : (byte1 r &&& 255).toInt = 128 + r.toInt % 128 := by
  have a := c_maskL r 127 7 (by decide) (by decide)
  have l : (128 : Int64).toInt = 128 := by decide
  have b := c_orL' (r &&& 127) 128 7 (by decide) 128 (by decide) (by omega) (by omega) (by omega)
  have b2 := rng64 ((r &&& 127) ||| 128)
  have c := c_l2i ((r &&& 127) ||| 128)
  have d := c_i2b ((r &&& 127) ||| 128).toInt32
  have e := c_mask (byte1 r) 255 8 (by decide) (by decide)
  have f : (byte1 r).toInt = ((r &&& 127) ||| 128).toInt32.toInt8.toInt32.toInt := rfl
  have k := rng32 ((r &&& 127) ||| 128).toInt32
  omega
theorem own_byte0 (r : Int64) (h : 0 ≤ r.toInt) (h1 : r.toInt < 128) : (r.toInt32.toInt8.toInt32 &&& 255).toInt = r.toInt := by
  have c := c_l2i r
  have d := c_i2b r.toInt32
  have e := c_mask r.toInt32.toInt8.toInt32 255 8 (by decide) (by decide)
  have k := rng32 r.toInt32
  omega
theorem own_part (vv : Int64) (ln os fi j : Int32) (jn : Nat) (P : Int) (hj : j.toInt = jn) (hj8 : jn ≤ 8) (hq : ((7 : Int32) * j).toBitVec.toNat % 64 = 7 * jn) (hP : P = ((2 ^ (7 * jn) : Nat) : Int))
    (hR : 0 ≤ own_R vv ln jn) (hb : (own_R vv ln jn % 128) * P < 9223372036854775808) (hb0 : 0 ≤ (own_R vv ln jn % 128) * P) (h1 : (jn : Int) = (v_len ln).toInt - 1 → own_R vv ln jn < 128) (h2 : (v_len ln).toInt ≤ jn → own_R vv ln jn = 0) :
    (Fpart (v_off os) (v_len ln) j (v_g vv ln os fi)).toInt = (own_R vv ln jn % 128) * P := by
  obtain ⟨a, b⟩ := own_voff os
  obtain ⟨c, d⟩ := own_vlen ln
  have e1 := own_len1 (v_len ln) c d
  have e2 := own_off (v_off os) j a b (by omega) (by omega)
  have l1 : (128 : Int32).toInt = 128 := by decide
  have kv := own_Kv ln
  unfold Fpart
  by_cases q1 : j < v_len ln
  · rw [if_pos q1]
    by_cases q2 : j = v_len ln - 1
    · rw [if_pos q2]
      have q3 : (jn : Int) = (v_len ln).toInt - 1 := by rw [← Int32.toInt_inj, e1] at q2; omega
      have hg : v_pb (v_off os) j (v_g vv ln os fi) = (pvR jn (v_val vv ln)).toInt32.toInt8.toInt32 &&& 255 := by
        have q4 : ((v_len ln).toInt - 1).toNat = jn := by omega
        unfold v_pb
        rw [own_g_last vv ln os fi (v_off os + j) (by omega), q4]
      have hr : own_R vv ln jn < 128 := h1 q3
      have hv := own_byte0 (pvR jn (v_val vv ln)) hR hr
      rw [← hg] at hv
      have hv2 : (v_pb (v_off os) j (v_g vv ln os fi)).toInt = own_R vv ln jn := hv
      rw [if_pos (by rw [Int32.lt_iff_toInt_lt, l1, hv2]; exact hr)]
      have s := c_lshl (v_pb (v_off os) j (v_g vv ln os fi)).toInt64 ((7 : Int32) * j) (7 * jn) hq
      have t := rng64 ((v_pb (v_off os) j (v_g vv ln os fi)).toInt64 <<< (((7 : Int32) * j) &&& 0x3f).toInt64)
      rw [c_i2l, hv2, ← hP] at s
      have u : own_R vv ln jn % 128 = own_R vv ln jn := by omega
      rw [u] at hb hb0 ⊢
      generalize own_R vv ln jn * P = w at *
      omega
    · rw [if_neg q2]
      have q3 : (jn : Int) < (v_len ln).toInt - 1 := by
        rw [Int32.lt_iff_toInt_lt] at q1
        rw [← Int32.toInt_inj, e1] at q2
        omega
      have hg : v_pb (v_off os) j (v_g vv ln os fi) = byte1 (pvR jn (v_val vv ln)) &&& 255 := by
        unfold v_pb
        rw [own_g_in vv ln os fi (v_off os + j) jn (by omega) q3]
      have hv := own_byte1 (pvR jn (v_val vv ln)) hR
      rw [← hg] at hv
      have hv2 : (v_pb (v_off os) j (v_g vv ln os fi)).toInt = 128 + own_R vv ln jn % 128 := hv
      rw [if_neg (by rw [Int32.lt_iff_toInt_lt, l1, hv2]; omega)]
      have m := c_mask (v_pb (v_off os) j (v_g vv ln os fi)) 127 7 (by decide) (by decide)
      have m2 : (v_pb (v_off os) j (v_g vv ln os fi) &&& 127).toInt = own_R vv ln jn % 128 := by omega
      have s := c_lshl (v_pb (v_off os) j (v_g vv ln os fi) &&& 127).toInt64 ((7 : Int32) * j) (7 * jn) hq
      have t := rng64 ((v_pb (v_off os) j (v_g vv ln os fi) &&& 127).toInt64 <<< (((7 : Int32) * j) &&& 0x3f).toInt64)
      rw [c_i2l, m2, ← hP] at s
      generalize own_R vv ln jn % 128 * P = w at *
      omega
  · rw [if_neg q1, h2 (by rw [Int32.lt_iff_toInt_lt] at q1; omega)]
    have l0 : (0 : Int64).toInt = 0 := by decide
    rw [l0, Int.zero_emod, Int.zero_mul]
theorem own_p0 (vv : Int64) (ln os fi : Int32) : (v_p0 vv ln os fi).toInt = (own_R vv ln 0 % 128) * 1 := by
  obtain ⟨h0, h1, h2, h3, h4, h5, h6, h7, h8⟩ := own_Rs vv ln
  have hv : own_R vv ln 0 = (v_val vv ln).toInt := rfl
  have hb := (own_val0 vv ln).2
  exact own_part vv ln os fi 0 0 1 (by decide) (by decide) (by decide) (by decide) (by omega) (by omega) (by omega) (fun q => by omega) (fun q => by omega)
theorem own_p1 (vv : Int64) (ln os fi : Int32) : (v_p1 vv ln os fi).toInt = (own_R vv ln 1 % 128) * 128 := by
  obtain ⟨h0, h1, h2, h3, h4, h5, h6, h7, h8⟩ := own_Rs vv ln
  have hv : own_R vv ln 0 = (v_val vv ln).toInt := rfl
  have hb := (own_val0 vv ln).2
  exact own_part vv ln os fi 1 1 128 (by decide) (by decide) (by decide) (by decide) (by omega) (by omega) (by omega) (fun q => by omega) (fun q => by omega)
theorem own_p2 (vv : Int64) (ln os fi : Int32) : (v_p2 vv ln os fi).toInt = (own_R vv ln 2 % 128) * 16384 := by
  obtain ⟨h0, h1, h2, h3, h4, h5, h6, h7, h8⟩ := own_Rs vv ln
  have hv : own_R vv ln 0 = (v_val vv ln).toInt := rfl
  have hb := (own_val0 vv ln).2
  exact own_part vv ln os fi 2 2 16384 (by decide) (by decide) (by decide) (by decide) (by omega) (by omega) (by omega) (fun q => by omega) (fun q => by omega)
theorem own_p3 (vv : Int64) (ln os fi : Int32) : (v_p3 vv ln os fi).toInt = (own_R vv ln 3 % 128) * 2097152 := by
  obtain ⟨h0, h1, h2, h3, h4, h5, h6, h7, h8⟩ := own_Rs vv ln
  have hv : own_R vv ln 0 = (v_val vv ln).toInt := rfl
  have hb := (own_val0 vv ln).2
  exact own_part vv ln os fi 3 3 2097152 (by decide) (by decide) (by decide) (by decide) (by omega) (by omega) (by omega) (fun q => by omega) (fun q => by omega)
theorem own_p4 (vv : Int64) (ln os fi : Int32) : (v_p4 vv ln os fi).toInt = (own_R vv ln 4 % 128) * 268435456 := by
  obtain ⟨h0, h1, h2, h3, h4, h5, h6, h7, h8⟩ := own_Rs vv ln
  have hv : own_R vv ln 0 = (v_val vv ln).toInt := rfl
  have hb := (own_val0 vv ln).2
  exact own_part vv ln os fi 4 4 268435456 (by decide) (by decide) (by decide) (by decide) (by omega) (by omega) (by omega) (fun q => by omega) (fun q => by omega)
theorem own_p5 (vv : Int64) (ln os fi : Int32) : (v_p5 vv ln os fi).toInt = (own_R vv ln 5 % 128) * 34359738368 := by
  obtain ⟨h0, h1, h2, h3, h4, h5, h6, h7, h8⟩ := own_Rs vv ln
  have hv : own_R vv ln 0 = (v_val vv ln).toInt := rfl
  have hb := (own_val0 vv ln).2
  exact own_part vv ln os fi 5 5 34359738368 (by decide) (by decide) (by decide) (by decide) (by omega) (by omega) (by omega) (fun q => by omega) (fun q => by omega)
theorem own_p6 (vv : Int64) (ln os fi : Int32) : (v_p6 vv ln os fi).toInt = (own_R vv ln 6 % 128) * 4398046511104 := by
  obtain ⟨h0, h1, h2, h3, h4, h5, h6, h7, h8⟩ := own_Rs vv ln
  have hv : own_R vv ln 0 = (v_val vv ln).toInt := rfl
  have hb := (own_val0 vv ln).2
  exact own_part vv ln os fi 6 6 4398046511104 (by decide) (by decide) (by decide) (by decide) (by omega) (by omega) (by omega) (fun q => by omega) (fun q => by omega)
theorem own_p7 (vv : Int64) (ln os fi : Int32) : (v_p7 vv ln os fi).toInt = (own_R vv ln 7 % 128) * 562949953421312 := by
  obtain ⟨h0, h1, h2, h3, h4, h5, h6, h7, h8⟩ := own_Rs vv ln
  have hv : own_R vv ln 0 = (v_val vv ln).toInt := rfl
  have hb := (own_val0 vv ln).2
  exact own_part vv ln os fi 7 7 562949953421312 (by decide) (by decide) (by decide) (by decide) (by omega) (by omega) (by omega) (fun q => by omega) (fun q => by omega)
theorem own_p8 (vv : Int64) (ln os fi : Int32) : (v_p8 vv ln os fi).toInt = (own_R vv ln 8 % 128) * 72057594037927936 := by
  obtain ⟨h0, h1, h2, h3, h4, h5, h6, h7, h8⟩ := own_Rs vv ln
  have hv : own_R vv ln 0 = (v_val vv ln).toInt := rfl
  have hb := (own_val0 vv ln).2
  exact own_part vv ln os fi 8 8 72057594037927936 (by decide) (by decide) (by decide) (by decide) (by omega) (by omega) (by omega) (fun q => by omega) (fun q => by omega)
theorem own_pos9 (vv : Int64) (ln os fi : Int32) (x : Int64) (R P : Int) (h : x.toInt = (R % 128) * P) (hP : 0 ≤ P) : ¬ (x < (0 : Int64)) := by
  rw [Int64.lt_iff_toInt_lt, h]
  have l0 : (0 : Int64).toInt = 0 := by decide
  have := Int.mul_nonneg (Int.emod_nonneg R (by decide : (128 : Int) ≠ 0)) hP
  omega
theorem own_law1 (vv : Int64) (ln : Int32) (os : Int32) (fi : Int32) : lawE1 vv ln os fi = true := by
  refine if_pos ?_
  obtain ⟨h0, h1, h2, h3, h4, h5, h6, h7, h8⟩ := own_Rs vv ln
  have hv : own_R vv ln 0 = (v_val vv ln).toInt := rfl
  have hb := (own_val0 vv ln).2
  have r := rng64 (v_val vv ln)
  have p0 := own_p0 vv ln os fi
  have p1 := own_p1 vv ln os fi
  have p2 := own_p2 vv ln os fi
  have p3 := own_p3 vv ln os fi
  have p4 := own_p4 vv ln os fi
  have p5 := own_p5 vv ln os fi
  have p6 := own_p6 vv ln os fi
  have p7 := own_p7 vv ln os fi
  have p8 := own_p8 vv ln os fi
  rw [← Int64.toInt_inj]
  unfold v_sum
  have a1 := c_ladd (v_p0 vv ln os fi) (v_p1 vv ln os fi)
  have b1 := rng64 (v_p0 vv ln os fi + v_p1 vv ln os fi)
  generalize v_p0 vv ln os fi + v_p1 vv ln os fi = s1 at *
  have a2 := c_ladd s1 (v_p2 vv ln os fi)
  have b2 := rng64 (s1 + v_p2 vv ln os fi)
  generalize s1 + v_p2 vv ln os fi = s2 at *
  have a3 := c_ladd s2 (v_p3 vv ln os fi)
  have b3 := rng64 (s2 + v_p3 vv ln os fi)
  generalize s2 + v_p3 vv ln os fi = s3 at *
  have a4 := c_ladd s3 (v_p4 vv ln os fi)
  have b4 := rng64 (s3 + v_p4 vv ln os fi)
  generalize s3 + v_p4 vv ln os fi = s4 at *
  have a5 := c_ladd s4 (v_p5 vv ln os fi)
  have b5 := rng64 (s4 + v_p5 vv ln os fi)
  generalize s4 + v_p5 vv ln os fi = s5 at *
  have a6 := c_ladd s5 (v_p6 vv ln os fi)
  have b6 := rng64 (s5 + v_p6 vv ln os fi)
  generalize s5 + v_p6 vv ln os fi = s6 at *
  have a7 := c_ladd s6 (v_p7 vv ln os fi)
  have b7 := rng64 (s6 + v_p7 vv ln os fi)
  generalize s6 + v_p7 vv ln os fi = s7 at *
  have a8 := c_ladd s7 (v_p8 vv ln os fi)
  have b8 := rng64 (s7 + v_p8 vv ln os fi)
  generalize s7 + v_p8 vv ln os fi = s8 at *
  have r8 : own_R vv ln 8 < 128 := by omega
  have t1 : s1.toInt = own_R vv ln 0 % 128 + own_R vv ln 1 % 128 * 128 := by omega
  have t2 : s2.toInt = s1.toInt + own_R vv ln 2 % 128 * 16384 := by omega
  have t3 : s3.toInt = s2.toInt + own_R vv ln 3 % 128 * 2097152 := by omega
  have t4 : s4.toInt = s3.toInt + own_R vv ln 4 % 128 * 268435456 := by omega
  have t5 : s5.toInt = s4.toInt + own_R vv ln 5 % 128 * 34359738368 := by omega
  have t6 : s6.toInt = s5.toInt + own_R vv ln 6 % 128 * 4398046511104 := by omega
  have t7 : s7.toInt = s6.toInt + own_R vv ln 7 % 128 * 562949953421312 := by omega
  have t8 : s8.toInt = s7.toInt + own_R vv ln 8 % 128 * 72057594037927936 := by omega
  omega
def Q0 (Z : State) (vv : Int64) (ln : Int32) (os : Int32) (fi : Int32) (h0 : Heap) (n0 : Nat) (v : Option Value) (h : Heap) (L : List Loc) : Prop := v = some (.int (1 : Int32)) ∧ Fr n0 L
set_option maxRecDepth 65536 in
set_option maxHeartbeats 40000000 in
theorem rm0 (l : Launch) (Z : State) (a0 : Array Value) (hw : ∀ d ∈ tables_1, d.before a0 Z = true) (ws : List Jvm.Cond) (vv : Int64) (ln : Int32) (os : Int32) (fi : Int32) (h0 : Heap) (n0 : Nat) (Z0 : n0 ≤ h0.size) :
    MetFree l x (head1 (Jvm.Cond.code x code maxLocals ret :: ws) room_1) (fun a U => a = #[(.long vv), (.int ln), (.int os), (.int fi)] ∧ Z.Warmed39 U.vm ∧ U.heap = h0) (fun _ _ _ _ _ => True) (fun _ U o U' => ∃ v L, o = .returned v ∧ Q0 Z vv ln os fi h0 n0 v U'.heap L ∧ FrameEnd U o U' L room_1.cells room_1.slots) := by
  refine MetFree.of_bodySF (plainFor_of_name pn_2) hisR ?_
  intro p e s m args below meth c s₁ Bd hml0 hP hK
  obtain ⟨rfl, hZ, hh⟩ := hP
  have hx := Bd.exec
  have hby := Bd.bytes
  have hml : c.maxLocals = 33 := hml0
  have hown : s.vm.findClass "com/example/tamsui/tamsui/encoded/EncodedFormPutVarintPinLaw" = some m.cls := findClass_of_methodNamed Bd.named
  have hnm := (name_of_methodNamed Bd.named Bd.method).1
  have X0 : Stand p l e room_1 s m #[(.long vv), (.int ln), (.int os), (.int fi)] below meth c s₁ [] 0 0 := Stand.of_body Bd
  have e0 : s₁.heap = h0 := by rw [← hh, Bd.state]; rfl
  have N0 := Fr.nil n0
  have pre0 : ∀ t, Steps p.tables e below (s₁.setTop (mkF m 0 #[.val (.long vv), .second, .val (.int ln), .val (.int os), .val (.int fi), .unset, .unset, .unset, .unset, .unset, .unset, .unset, .unset, .unset, .unset, .unset, .unset, .unset, .unset, .unset, .unset, .unset, .unset, .unset, .unset, .unset, .unset, .unset, .unset, .unset, .unset, .unset, .unset] [])) t → Steps p.tables e below (s₁.setTop (entryFrame m #[(.long vv), (.int ln), (.int os), (.int fi)] maxLocals)) t := fun t k => castTop (ef_0 m vv ln os fi) k
  obtain ⟨T1, h1, k1, X1, e1, E1, A1, st1⟩ := newP X0 hx hZ (hw _ (List.mem_of_getElem? (i := 1) rfl)) e0 (g := (mkF m 36 #[.val (.long vv), .second, .val (.int ln), .val (.int os), .val (.int fi), .val (.int (v_len ln)), .val (.long (v_val vv ln)), .second, .val (.int (v_off os)), .val (.int (fi.toInt8.toInt32)), .unset, .unset, .unset, .unset, .unset, .unset, .unset, .unset, .unset, .unset, .unset, .unset, .unset, .unset, .unset, .unset, .unset, .unset, .unset, .unset, .unset, .unset, .unset] [(.int (13 : Int32))])) rfl (hb hby at_36) rfl (by decide) (cap := 13) (by decide) (by decide) (by decide) (by decide)
  obtain ⟨b1, g1⟩ : ∃ z, z = h0.size := ⟨_, rfl⟩
  rw [← g1] at A1 st1
  have ge_b1 : n0 ≤ b1 := Nat.le_trans Z0 (Nat.le_of_eq g1.symm)
  have Z1 : n0 ≤ h1.size := Nat.le_trans Z0 E1.1
  have V1 := AI.newB A1 (by decide)
  obtain ⟨T2, h2, X2, e2, W2, V2, st2⟩ := wrB X1 hx hZ e1 V1 (j := (0 : Int32)) ⟨by decide, by decide⟩ (nar_byte _) (g := (mkF m 42 #[.val (.long vv), .second, .val (.int ln), .val (.int os), .val (.int fi), .val (.int (v_len ln)), .val (.long (v_val vv ln)), .second, .val (.int (v_off os)), .val (.int (fi.toInt8.toInt32)), .unset, .unset, .unset, .unset, .unset, .unset, .unset, .unset, .unset, .unset, .unset, .unset, .unset, .unset, .unset, .unset, .unset, .unset, .unset, .unset, .unset, .unset, .unset] [(.int (fi.toInt8.toInt32)), (.int (0 : Int32)), (.ref b1), (.ref b1)])) rfl rfl (hb hby at_42)
  have Z2 : n0 ≤ h2.size := Nat.le_trans Z1 (Keep.of_wr W2).1
  have N2 := Fr.snoc X2 N0 ge_b1
  obtain ⟨T3, h3, X3, e3, W3, V3, st3⟩ := wrB X2 hx hZ e2 V2 (j := (1 : Int32)) ⟨by decide, by decide⟩ (nar_byte _) (g := (mkF m 47 #[.val (.long vv), .second, .val (.int ln), .val (.int os), .val (.int fi), .val (.int (v_len ln)), .val (.long (v_val vv ln)), .second, .val (.int (v_off os)), .val (.int (fi.toInt8.toInt32)), .unset, .unset, .unset, .unset, .unset, .unset, .unset, .unset, .unset, .unset, .unset, .unset, .unset, .unset, .unset, .unset, .unset, .unset, .unset, .unset, .unset, .unset, .unset] [(.int (fi.toInt8.toInt32)), (.int (1 : Int32)), (.ref b1), (.ref b1)])) rfl rfl (hb hby at_47)
  have Z3 : n0 ≤ h3.size := Nat.le_trans Z2 (Keep.of_wr W3).1
  have N3 := Fr.snoc X3 N2 ge_b1
  obtain ⟨T4, h4, X4, e4, W4, V4, st4⟩ := wrB X3 hx hZ e3 V3 (j := (2 : Int32)) ⟨by decide, by decide⟩ (nar_byte _) (g := (mkF m 52 #[.val (.long vv), .second, .val (.int ln), .val (.int os), .val (.int fi), .val (.int (v_len ln)), .val (.long (v_val vv ln)), .second, .val (.int (v_off os)), .val (.int (fi.toInt8.toInt32)), .unset, .unset, .unset, .unset, .unset, .unset, .unset, .unset, .unset, .unset, .unset, .unset, .unset, .unset, .unset, .unset, .unset, .unset, .unset, .unset, .unset, .unset, .unset] [(.int (fi.toInt8.toInt32)), (.int (2 : Int32)), (.ref b1), (.ref b1)])) rfl rfl (hb hby at_52)
  have Z4 : n0 ≤ h4.size := Nat.le_trans Z3 (Keep.of_wr W4).1
  have N4 := Fr.snoc X4 N3 ge_b1
  obtain ⟨T5, h5, X5, e5, W5, V5, st5⟩ := wrB X4 hx hZ e4 V4 (j := (3 : Int32)) ⟨by decide, by decide⟩ (nar_byte _) (g := (mkF m 57 #[.val (.long vv), .second, .val (.int ln), .val (.int os), .val (.int fi), .val (.int (v_len ln)), .val (.long (v_val vv ln)), .second, .val (.int (v_off os)), .val (.int (fi.toInt8.toInt32)), .unset, .unset, .unset, .unset, .unset, .unset, .unset, .unset, .unset, .unset, .unset, .unset, .unset, .unset, .unset, .unset, .unset, .unset, .unset, .unset, .unset, .unset, .unset] [(.int (fi.toInt8.toInt32)), (.int (3 : Int32)), (.ref b1), (.ref b1)])) rfl rfl (hb hby at_57)
  have Z5 : n0 ≤ h5.size := Nat.le_trans Z4 (Keep.of_wr W5).1
  have N5 := Fr.snoc X5 N4 ge_b1
  obtain ⟨T6, h6, X6, e6, W6, V6, st6⟩ := wrB X5 hx hZ e5 V5 (j := (4 : Int32)) ⟨by decide, by decide⟩ (nar_byte _) (g := (mkF m 62 #[.val (.long vv), .second, .val (.int ln), .val (.int os), .val (.int fi), .val (.int (v_len ln)), .val (.long (v_val vv ln)), .second, .val (.int (v_off os)), .val (.int (fi.toInt8.toInt32)), .unset, .unset, .unset, .unset, .unset, .unset, .unset, .unset, .unset, .unset, .unset, .unset, .unset, .unset, .unset, .unset, .unset, .unset, .unset, .unset, .unset, .unset, .unset] [(.int (fi.toInt8.toInt32)), (.int (4 : Int32)), (.ref b1), (.ref b1)])) rfl rfl (hb hby at_62)
  have Z6 : n0 ≤ h6.size := Nat.le_trans Z5 (Keep.of_wr W6).1
  have N6 := Fr.snoc X6 N5 ge_b1
  obtain ⟨T7, h7, X7, e7, W7, V7, st7⟩ := wrB X6 hx hZ e6 V6 (j := (5 : Int32)) ⟨by decide, by decide⟩ (nar_byte _) (g := (mkF m 67 #[.val (.long vv), .second, .val (.int ln), .val (.int os), .val (.int fi), .val (.int (v_len ln)), .val (.long (v_val vv ln)), .second, .val (.int (v_off os)), .val (.int (fi.toInt8.toInt32)), .unset, .unset, .unset, .unset, .unset, .unset, .unset, .unset, .unset, .unset, .unset, .unset, .unset, .unset, .unset, .unset, .unset, .unset, .unset, .unset, .unset, .unset, .unset] [(.int (fi.toInt8.toInt32)), (.int (5 : Int32)), (.ref b1), (.ref b1)])) rfl rfl (hb hby at_67)
  have Z7 : n0 ≤ h7.size := Nat.le_trans Z6 (Keep.of_wr W7).1
  have N7 := Fr.snoc X7 N6 ge_b1
  obtain ⟨T8, h8, X8, e8, W8, V8, st8⟩ := wrB X7 hx hZ e7 V7 (j := (6 : Int32)) ⟨by decide, by decide⟩ (nar_byte _) (g := (mkF m 73 #[.val (.long vv), .second, .val (.int ln), .val (.int os), .val (.int fi), .val (.int (v_len ln)), .val (.long (v_val vv ln)), .second, .val (.int (v_off os)), .val (.int (fi.toInt8.toInt32)), .unset, .unset, .unset, .unset, .unset, .unset, .unset, .unset, .unset, .unset, .unset, .unset, .unset, .unset, .unset, .unset, .unset, .unset, .unset, .unset, .unset, .unset, .unset] [(.int (fi.toInt8.toInt32)), (.int (6 : Int32)), (.ref b1), (.ref b1)])) rfl rfl (hb hby at_73)
  have Z8 : n0 ≤ h8.size := Nat.le_trans Z7 (Keep.of_wr W8).1
  have N8 := Fr.snoc X8 N7 ge_b1
  obtain ⟨T9, h9, X9, e9, W9, V9, st9⟩ := wrB X8 hx hZ e8 V8 (j := (7 : Int32)) ⟨by decide, by decide⟩ (nar_byte _) (g := (mkF m 79 #[.val (.long vv), .second, .val (.int ln), .val (.int os), .val (.int fi), .val (.int (v_len ln)), .val (.long (v_val vv ln)), .second, .val (.int (v_off os)), .val (.int (fi.toInt8.toInt32)), .unset, .unset, .unset, .unset, .unset, .unset, .unset, .unset, .unset, .unset, .unset, .unset, .unset, .unset, .unset, .unset, .unset, .unset, .unset, .unset, .unset, .unset, .unset] [(.int (fi.toInt8.toInt32)), (.int (7 : Int32)), (.ref b1), (.ref b1)])) rfl rfl (hb hby at_79)
  have Z9 : n0 ≤ h9.size := Nat.le_trans Z8 (Keep.of_wr W9).1
  have N9 := Fr.snoc X9 N8 ge_b1
  obtain ⟨T10, h10, X10, e10, W10, V10, st10⟩ := wrB X9 hx hZ e9 V9 (j := (8 : Int32)) ⟨by decide, by decide⟩ (nar_byte _) (g := (mkF m 85 #[.val (.long vv), .second, .val (.int ln), .val (.int os), .val (.int fi), .val (.int (v_len ln)), .val (.long (v_val vv ln)), .second, .val (.int (v_off os)), .val (.int (fi.toInt8.toInt32)), .unset, .unset, .unset, .unset, .unset, .unset, .unset, .unset, .unset, .unset, .unset, .unset, .unset, .unset, .unset, .unset, .unset, .unset, .unset, .unset, .unset, .unset, .unset] [(.int (fi.toInt8.toInt32)), (.int (8 : Int32)), (.ref b1), (.ref b1)])) rfl rfl (hb hby at_85)
  have Z10 : n0 ≤ h10.size := Nat.le_trans Z9 (Keep.of_wr W10).1
  have N10 := Fr.snoc X10 N9 ge_b1
  obtain ⟨T11, h11, X11, e11, W11, V11, st11⟩ := wrB X10 hx hZ e10 V10 (j := (9 : Int32)) ⟨by decide, by decide⟩ (nar_byte _) (g := (mkF m 91 #[.val (.long vv), .second, .val (.int ln), .val (.int os), .val (.int fi), .val (.int (v_len ln)), .val (.long (v_val vv ln)), .second, .val (.int (v_off os)), .val (.int (fi.toInt8.toInt32)), .unset, .unset, .unset, .unset, .unset, .unset, .unset, .unset, .unset, .unset, .unset, .unset, .unset, .unset, .unset, .unset, .unset, .unset, .unset, .unset, .unset, .unset, .unset] [(.int (fi.toInt8.toInt32)), (.int (9 : Int32)), (.ref b1), (.ref b1)])) rfl rfl (hb hby at_91)
  have Z11 : n0 ≤ h11.size := Nat.le_trans Z10 (Keep.of_wr W11).1
  have N11 := Fr.snoc X11 N10 ge_b1
  obtain ⟨T12, h12, X12, e12, W12, V12, st12⟩ := wrB X11 hx hZ e11 V11 (j := (10 : Int32)) ⟨by decide, by decide⟩ (nar_byte _) (g := (mkF m 97 #[.val (.long vv), .second, .val (.int ln), .val (.int os), .val (.int fi), .val (.int (v_len ln)), .val (.long (v_val vv ln)), .second, .val (.int (v_off os)), .val (.int (fi.toInt8.toInt32)), .unset, .unset, .unset, .unset, .unset, .unset, .unset, .unset, .unset, .unset, .unset, .unset, .unset, .unset, .unset, .unset, .unset, .unset, .unset, .unset, .unset, .unset, .unset] [(.int (fi.toInt8.toInt32)), (.int (10 : Int32)), (.ref b1), (.ref b1)])) rfl rfl (hb hby at_97)
  have Z12 : n0 ≤ h12.size := Nat.le_trans Z11 (Keep.of_wr W12).1
  have N12 := Fr.snoc X12 N11 ge_b1
  obtain ⟨T13, h13, X13, e13, W13, V13, st13⟩ := wrB X12 hx hZ e12 V12 (j := (11 : Int32)) ⟨by decide, by decide⟩ (nar_byte _) (g := (mkF m 103 #[.val (.long vv), .second, .val (.int ln), .val (.int os), .val (.int fi), .val (.int (v_len ln)), .val (.long (v_val vv ln)), .second, .val (.int (v_off os)), .val (.int (fi.toInt8.toInt32)), .unset, .unset, .unset, .unset, .unset, .unset, .unset, .unset, .unset, .unset, .unset, .unset, .unset, .unset, .unset, .unset, .unset, .unset, .unset, .unset, .unset, .unset, .unset] [(.int (fi.toInt8.toInt32)), (.int (11 : Int32)), (.ref b1), (.ref b1)])) rfl rfl (hb hby at_103)
  have Z13 : n0 ≤ h13.size := Nat.le_trans Z12 (Keep.of_wr W13).1
  have N13 := Fr.snoc X13 N12 ge_b1
  obtain ⟨T14, h14, X14, e14, W14, V14, st14⟩ := wrB X13 hx hZ e13 V13 (j := (12 : Int32)) ⟨by decide, by decide⟩ (nar_byte _) (g := (mkF m 109 #[.val (.long vv), .second, .val (.int ln), .val (.int os), .val (.int fi), .val (.int (v_len ln)), .val (.long (v_val vv ln)), .second, .val (.int (v_off os)), .val (.int (fi.toInt8.toInt32)), .unset, .unset, .unset, .unset, .unset, .unset, .unset, .unset, .unset, .unset, .unset, .unset, .unset, .unset, .unset, .unset, .unset, .unset, .unset, .unset, .unset, .unset, .unset] [(.int (fi.toInt8.toInt32)), (.int (12 : Int32)), (.ref b1), (.ref b1)])) rfl rfl (hb hby at_109)
  have V14n : AI Z h14 b1 .byte (13 : Int32) (v_in fi) := V14
  have Z14 : n0 ≤ h14.size := Nat.le_trans Z13 (Keep.of_wr W14).1
  have N14 := Fr.snoc X14 N13 ge_b1
  obtain ⟨_, _, ⟨T15, L15, k15, n15⟩, -, X15, ⟨Lc15, hQ15, l15, y15, z15⟩, st15⟩ := Jvm.LawKit.callS X14 hx (y := (⟨"com/example/tamsui/tamsui/encoded/EncodedForm", "putVarint", "([BIJI)I"⟩ : MethodName)) hown (mvT hZ (hw _ (List.mem_of_getElem? (i := 2) rfl))) (mvT hZ (hw _ (List.mem_of_getElem? (i := 3) rfl))) (mvT hZ (hw _ (List.mem_of_getElem? (i := 4) rfl))) (mvT hZ (hw _ (List.mem_of_getElem? (i := 5) rfl))) (by decide) (backOf (W := 0) (rm1 l Z a0 hw [] b1 (v_off os) (v_val vv ln) (v_len ln) (v_in fi) h14 n0 Z14 ⟨V14n, ge_b1, Z14⟩ (own_voff os).1 (own_voff os).2 (own_vlen ln).1 (own_vlen ln).2) hZ (hw _ (List.mem_of_getElem? (i := 5) rfl)) (hw _ (List.mem_of_getElem? (i := 4) rfl)) (by decide) (by decide)) (g := (mkF m 120 #[.val (.long vv), .second, .val (.int ln), .val (.int os), .val (.int fi), .val (.int (v_len ln)), .val (.long (v_val vv ln)), .second, .val (.int (v_off os)), .val (.int (fi.toInt8.toInt32)), .val (.ref b1), .unset, .unset, .unset, .unset, .unset, .unset, .unset, .unset, .unset, .unset, .unset, .unset, .unset, .unset, .unset, .unset, .unset, .unset, .unset, .unset, .unset, .unset] [(.int (v_len ln)), (.long (v_val vv ln)), (.int (v_off os)), (.ref b1)])) rfl (by rw [hml]; rfl) (argsL := [(.ref b1), (.int (v_off os)), (.long (v_val vv ln)), (.int (v_len ln))]) (rest := []) (lenOf pd_0 rfl) rfl (by show 2 * 0 + _ ≤ _; exact Nat.le_of_eq rfl) (hb hby at_120) (fun _ _ => ⟨rfl, e14, (by decide : 1 + 0 ≤ _), (by decide : 13 + 0 ≤ _)⟩)
  dsimp only [Pt.U, Pt.locs, Pt.cells, Pt.slots] at X15 l15 y15 z15 st15 hQ15
  subst y15 z15
  obtain ⟨rfl, N15q, I15⟩ := hQ15
  obtain ⟨k16_0, k16_g_ia, k16_sz⟩ := I15
  have N15 : Fr n0 L15 := by rw [l15]; exact Fr.app N14 N15q
  obtain ⟨_, _, ⟨T17, L17, k17, n17⟩, -, X17, ⟨Lc17, hQ17, l17, y17, z17⟩, st17⟩ := Jvm.LawKit.callS X15 hx (y := (⟨"com/example/tamsui/tamsui/encoded/EncodedFormPutVarintPinLaw", "untouched", "([BIIBI)Z"⟩ : MethodName)) hown (mvT hZ (hw _ (List.mem_of_getElem? (i := 8) rfl))) (mvT hZ (hw _ (List.mem_of_getElem? (i := 9) rfl))) (mvT hZ (hw _ (List.mem_of_getElem? (i := 10) rfl))) (mvT hZ (hw _ (List.mem_of_getElem? (i := 11) rfl))) (by decide) (backOf (W := 0) (rm2 l Z a0 hw [] b1 (v_off os) (v_len ln) (fi.toInt8.toInt32) (0 : Int32) (v_g vv ln os fi) T15.heap n0 k16_sz ⟨k16_0, k16_g_ia, k16_sz⟩ ⟨by decide, by decide⟩) hZ (hw _ (List.mem_of_getElem? (i := 11) rfl)) (hw _ (List.mem_of_getElem? (i := 10) rfl)) (by decide) (by decide)) (g := (mkF m 146 #[.val (.long vv), .second, .val (.int ln), .val (.int os), .val (.int fi), .val (.int (v_len ln)), .val (.long (v_val vv ln)), .second, .val (.int (v_off os)), .val (.int (fi.toInt8.toInt32)), .val (.ref b1), .val (.int (Fpv (v_off os) (v_len ln))), .unset, .unset, .unset, .unset, .unset, .unset, .unset, .unset, .unset, .unset, .unset, .unset, .unset, .unset, .unset, .unset, .unset, .unset, .unset, .unset, .unset] [(.int (0 : Int32)), (.int (fi.toInt8.toInt32)), (.int (v_len ln)), (.int (v_off os)), (.ref b1)])) rfl (by rw [hml]; rfl) (argsL := [(.ref b1), (.int (v_off os)), (.int (v_len ln)), (.int (fi.toInt8.toInt32)), (.int (0 : Int32))]) (rest := []) (lenOf pd_1 rfl) rfl (by show 2 * 0 + _ ≤ _; exact Nat.le_of_eq rfl) (hb hby at_146) (fun _ _ => ⟨rfl, rfl, (by decide : 1 + 0 ≤ _), (by decide : 13 + 0 ≤ _)⟩)
  dsimp only [Pt.U, Pt.locs, Pt.cells, Pt.slots] at X17 l17 y17 z17 st17 hQ17
  subst y17 z17
  obtain ⟨rfl, N17q, e17⟩ := hQ17
  have N17 : Fr n0 L17 := by rw [l17]; exact Fr.app N15 N17q
  obtain ⟨_, _, ⟨T18, L18, k18, n18⟩, -, X18, ⟨Lc18, hQ18, l18, y18, z18⟩, st18⟩ := Jvm.LawKit.callS X17 hx (y := (⟨"com/example/tamsui/tamsui/encoded/EncodedFormPutVarintPinLaw", "untouched", "([BIIBI)Z"⟩ : MethodName)) hown (mvT hZ (hw _ (List.mem_of_getElem? (i := 8) rfl))) (mvT hZ (hw _ (List.mem_of_getElem? (i := 9) rfl))) (mvT hZ (hw _ (List.mem_of_getElem? (i := 10) rfl))) (mvT hZ (hw _ (List.mem_of_getElem? (i := 11) rfl))) (by decide) (backOf (W := 0) (rm2 l Z a0 hw [] b1 (v_off os) (v_len ln) (fi.toInt8.toInt32) (1 : Int32) (v_g vv ln os fi) T15.heap n0 k16_sz ⟨k16_0, k16_g_ia, k16_sz⟩ ⟨by decide, by decide⟩) hZ (hw _ (List.mem_of_getElem? (i := 11) rfl)) (hw _ (List.mem_of_getElem? (i := 10) rfl)) (by decide) (by decide)) (g := (mkF m 161 #[.val (.long vv), .second, .val (.int ln), .val (.int os), .val (.int fi), .val (.int (v_len ln)), .val (.long (v_val vv ln)), .second, .val (.int (v_off os)), .val (.int (fi.toInt8.toInt32)), .val (.ref b1), .val (.int (Fpv (v_off os) (v_len ln))), .unset, .unset, .unset, .unset, .unset, .unset, .unset, .unset, .unset, .unset, .unset, .unset, .unset, .unset, .unset, .unset, .unset, .unset, .unset, .unset, .unset] [(.int (1 : Int32)), (.int (fi.toInt8.toInt32)), (.int (v_len ln)), (.int (v_off os)), (.ref b1)])) rfl (by rw [hml]; rfl) (argsL := [(.ref b1), (.int (v_off os)), (.int (v_len ln)), (.int (fi.toInt8.toInt32)), (.int (1 : Int32))]) (rest := []) (lenOf pd_1 rfl) rfl (by show 2 * 0 + _ ≤ _; exact Nat.le_of_eq rfl) (hb hby at_161) (fun _ _ => ⟨rfl, e17, (by decide : 1 + 0 ≤ _), (by decide : 13 + 0 ≤ _)⟩)
  dsimp only [Pt.U, Pt.locs, Pt.cells, Pt.slots] at X18 l18 y18 z18 st18 hQ18
  subst y18 z18
  obtain ⟨rfl, N18q, e18⟩ := hQ18
  have N18 : Fr n0 L18 := by rw [l18]; exact Fr.app N17 N18q
  obtain ⟨_, _, ⟨T19, L19, k19, n19⟩, -, X19, ⟨Lc19, hQ19, l19, y19, z19⟩, st19⟩ := Jvm.LawKit.callS X18 hx (y := (⟨"com/example/tamsui/tamsui/encoded/EncodedFormPutVarintPinLaw", "untouched", "([BIIBI)Z"⟩ : MethodName)) hown (mvT hZ (hw _ (List.mem_of_getElem? (i := 8) rfl))) (mvT hZ (hw _ (List.mem_of_getElem? (i := 9) rfl))) (mvT hZ (hw _ (List.mem_of_getElem? (i := 10) rfl))) (mvT hZ (hw _ (List.mem_of_getElem? (i := 11) rfl))) (by decide) (backOf (W := 0) (rm2 l Z a0 hw [] b1 (v_off os) (v_len ln) (fi.toInt8.toInt32) (2 : Int32) (v_g vv ln os fi) T15.heap n0 k16_sz ⟨k16_0, k16_g_ia, k16_sz⟩ ⟨by decide, by decide⟩) hZ (hw _ (List.mem_of_getElem? (i := 11) rfl)) (hw _ (List.mem_of_getElem? (i := 10) rfl)) (by decide) (by decide)) (g := (mkF m 176 #[.val (.long vv), .second, .val (.int ln), .val (.int os), .val (.int fi), .val (.int (v_len ln)), .val (.long (v_val vv ln)), .second, .val (.int (v_off os)), .val (.int (fi.toInt8.toInt32)), .val (.ref b1), .val (.int (Fpv (v_off os) (v_len ln))), .unset, .unset, .unset, .unset, .unset, .unset, .unset, .unset, .unset, .unset, .unset, .unset, .unset, .unset, .unset, .unset, .unset, .unset, .unset, .unset, .unset] [(.int (2 : Int32)), (.int (fi.toInt8.toInt32)), (.int (v_len ln)), (.int (v_off os)), (.ref b1)])) rfl (by rw [hml]; rfl) (argsL := [(.ref b1), (.int (v_off os)), (.int (v_len ln)), (.int (fi.toInt8.toInt32)), (.int (2 : Int32))]) (rest := []) (lenOf pd_1 rfl) rfl (by show 2 * 0 + _ ≤ _; exact Nat.le_of_eq rfl) (hb hby at_176) (fun _ _ => ⟨rfl, e18, (by decide : 1 + 0 ≤ _), (by decide : 13 + 0 ≤ _)⟩)
  dsimp only [Pt.U, Pt.locs, Pt.cells, Pt.slots] at X19 l19 y19 z19 st19 hQ19
  subst y19 z19
  obtain ⟨rfl, N19q, e19⟩ := hQ19
  have N19 : Fr n0 L19 := by rw [l19]; exact Fr.app N18 N19q
  obtain ⟨_, _, ⟨T20, L20, k20, n20⟩, -, X20, ⟨Lc20, hQ20, l20, y20, z20⟩, st20⟩ := Jvm.LawKit.callS X19 hx (y := (⟨"com/example/tamsui/tamsui/encoded/EncodedFormPutVarintPinLaw", "untouched", "([BIIBI)Z"⟩ : MethodName)) hown (mvT hZ (hw _ (List.mem_of_getElem? (i := 8) rfl))) (mvT hZ (hw _ (List.mem_of_getElem? (i := 9) rfl))) (mvT hZ (hw _ (List.mem_of_getElem? (i := 10) rfl))) (mvT hZ (hw _ (List.mem_of_getElem? (i := 11) rfl))) (by decide) (backOf (W := 0) (rm2 l Z a0 hw [] b1 (v_off os) (v_len ln) (fi.toInt8.toInt32) (3 : Int32) (v_g vv ln os fi) T15.heap n0 k16_sz ⟨k16_0, k16_g_ia, k16_sz⟩ ⟨by decide, by decide⟩) hZ (hw _ (List.mem_of_getElem? (i := 11) rfl)) (hw _ (List.mem_of_getElem? (i := 10) rfl)) (by decide) (by decide)) (g := (mkF m 191 #[.val (.long vv), .second, .val (.int ln), .val (.int os), .val (.int fi), .val (.int (v_len ln)), .val (.long (v_val vv ln)), .second, .val (.int (v_off os)), .val (.int (fi.toInt8.toInt32)), .val (.ref b1), .val (.int (Fpv (v_off os) (v_len ln))), .unset, .unset, .unset, .unset, .unset, .unset, .unset, .unset, .unset, .unset, .unset, .unset, .unset, .unset, .unset, .unset, .unset, .unset, .unset, .unset, .unset] [(.int (3 : Int32)), (.int (fi.toInt8.toInt32)), (.int (v_len ln)), (.int (v_off os)), (.ref b1)])) rfl (by rw [hml]; rfl) (argsL := [(.ref b1), (.int (v_off os)), (.int (v_len ln)), (.int (fi.toInt8.toInt32)), (.int (3 : Int32))]) (rest := []) (lenOf pd_1 rfl) rfl (by show 2 * 0 + _ ≤ _; exact Nat.le_of_eq rfl) (hb hby at_191) (fun _ _ => ⟨rfl, e19, (by decide : 1 + 0 ≤ _), (by decide : 13 + 0 ≤ _)⟩)
  dsimp only [Pt.U, Pt.locs, Pt.cells, Pt.slots] at X20 l20 y20 z20 st20 hQ20
  subst y20 z20
  obtain ⟨rfl, N20q, e20⟩ := hQ20
  have N20 : Fr n0 L20 := by rw [l20]; exact Fr.app N19 N20q
  obtain ⟨_, _, ⟨T21, L21, k21, n21⟩, -, X21, ⟨Lc21, hQ21, l21, y21, z21⟩, st21⟩ := Jvm.LawKit.callS X20 hx (y := (⟨"com/example/tamsui/tamsui/encoded/EncodedFormPutVarintPinLaw", "untouched", "([BIIBI)Z"⟩ : MethodName)) hown (mvT hZ (hw _ (List.mem_of_getElem? (i := 8) rfl))) (mvT hZ (hw _ (List.mem_of_getElem? (i := 9) rfl))) (mvT hZ (hw _ (List.mem_of_getElem? (i := 10) rfl))) (mvT hZ (hw _ (List.mem_of_getElem? (i := 11) rfl))) (by decide) (backOf (W := 0) (rm2 l Z a0 hw [] b1 (v_off os) (v_len ln) (fi.toInt8.toInt32) (4 : Int32) (v_g vv ln os fi) T15.heap n0 k16_sz ⟨k16_0, k16_g_ia, k16_sz⟩ ⟨by decide, by decide⟩) hZ (hw _ (List.mem_of_getElem? (i := 11) rfl)) (hw _ (List.mem_of_getElem? (i := 10) rfl)) (by decide) (by decide)) (g := (mkF m 206 #[.val (.long vv), .second, .val (.int ln), .val (.int os), .val (.int fi), .val (.int (v_len ln)), .val (.long (v_val vv ln)), .second, .val (.int (v_off os)), .val (.int (fi.toInt8.toInt32)), .val (.ref b1), .val (.int (Fpv (v_off os) (v_len ln))), .unset, .unset, .unset, .unset, .unset, .unset, .unset, .unset, .unset, .unset, .unset, .unset, .unset, .unset, .unset, .unset, .unset, .unset, .unset, .unset, .unset] [(.int (4 : Int32)), (.int (fi.toInt8.toInt32)), (.int (v_len ln)), (.int (v_off os)), (.ref b1)])) rfl (by rw [hml]; rfl) (argsL := [(.ref b1), (.int (v_off os)), (.int (v_len ln)), (.int (fi.toInt8.toInt32)), (.int (4 : Int32))]) (rest := []) (lenOf pd_1 rfl) rfl (by show 2 * 0 + _ ≤ _; exact Nat.le_of_eq rfl) (hb hby at_206) (fun _ _ => ⟨rfl, e20, (by decide : 1 + 0 ≤ _), (by decide : 13 + 0 ≤ _)⟩)
  dsimp only [Pt.U, Pt.locs, Pt.cells, Pt.slots] at X21 l21 y21 z21 st21 hQ21
  subst y21 z21
  obtain ⟨rfl, N21q, e21⟩ := hQ21
  have N21 : Fr n0 L21 := by rw [l21]; exact Fr.app N20 N21q
  obtain ⟨_, _, ⟨T22, L22, k22, n22⟩, -, X22, ⟨Lc22, hQ22, l22, y22, z22⟩, st22⟩ := Jvm.LawKit.callS X21 hx (y := (⟨"com/example/tamsui/tamsui/encoded/EncodedFormPutVarintPinLaw", "untouched", "([BIIBI)Z"⟩ : MethodName)) hown (mvT hZ (hw _ (List.mem_of_getElem? (i := 8) rfl))) (mvT hZ (hw _ (List.mem_of_getElem? (i := 9) rfl))) (mvT hZ (hw _ (List.mem_of_getElem? (i := 10) rfl))) (mvT hZ (hw _ (List.mem_of_getElem? (i := 11) rfl))) (by decide) (backOf (W := 0) (rm2 l Z a0 hw [] b1 (v_off os) (v_len ln) (fi.toInt8.toInt32) (5 : Int32) (v_g vv ln os fi) T15.heap n0 k16_sz ⟨k16_0, k16_g_ia, k16_sz⟩ ⟨by decide, by decide⟩) hZ (hw _ (List.mem_of_getElem? (i := 11) rfl)) (hw _ (List.mem_of_getElem? (i := 10) rfl)) (by decide) (by decide)) (g := (mkF m 221 #[.val (.long vv), .second, .val (.int ln), .val (.int os), .val (.int fi), .val (.int (v_len ln)), .val (.long (v_val vv ln)), .second, .val (.int (v_off os)), .val (.int (fi.toInt8.toInt32)), .val (.ref b1), .val (.int (Fpv (v_off os) (v_len ln))), .unset, .unset, .unset, .unset, .unset, .unset, .unset, .unset, .unset, .unset, .unset, .unset, .unset, .unset, .unset, .unset, .unset, .unset, .unset, .unset, .unset] [(.int (5 : Int32)), (.int (fi.toInt8.toInt32)), (.int (v_len ln)), (.int (v_off os)), (.ref b1)])) rfl (by rw [hml]; rfl) (argsL := [(.ref b1), (.int (v_off os)), (.int (v_len ln)), (.int (fi.toInt8.toInt32)), (.int (5 : Int32))]) (rest := []) (lenOf pd_1 rfl) rfl (by show 2 * 0 + _ ≤ _; exact Nat.le_of_eq rfl) (hb hby at_221) (fun _ _ => ⟨rfl, e21, (by decide : 1 + 0 ≤ _), (by decide : 13 + 0 ≤ _)⟩)
  dsimp only [Pt.U, Pt.locs, Pt.cells, Pt.slots] at X22 l22 y22 z22 st22 hQ22
  subst y22 z22
  obtain ⟨rfl, N22q, e22⟩ := hQ22
  have N22 : Fr n0 L22 := by rw [l22]; exact Fr.app N21 N22q
  obtain ⟨_, _, ⟨T23, L23, k23, n23⟩, -, X23, ⟨Lc23, hQ23, l23, y23, z23⟩, st23⟩ := Jvm.LawKit.callS X22 hx (y := (⟨"com/example/tamsui/tamsui/encoded/EncodedFormPutVarintPinLaw", "untouched", "([BIIBI)Z"⟩ : MethodName)) hown (mvT hZ (hw _ (List.mem_of_getElem? (i := 8) rfl))) (mvT hZ (hw _ (List.mem_of_getElem? (i := 9) rfl))) (mvT hZ (hw _ (List.mem_of_getElem? (i := 10) rfl))) (mvT hZ (hw _ (List.mem_of_getElem? (i := 11) rfl))) (by decide) (backOf (W := 0) (rm2 l Z a0 hw [] b1 (v_off os) (v_len ln) (fi.toInt8.toInt32) (6 : Int32) (v_g vv ln os fi) T15.heap n0 k16_sz ⟨k16_0, k16_g_ia, k16_sz⟩ ⟨by decide, by decide⟩) hZ (hw _ (List.mem_of_getElem? (i := 11) rfl)) (hw _ (List.mem_of_getElem? (i := 10) rfl)) (by decide) (by decide)) (g := (mkF m 237 #[.val (.long vv), .second, .val (.int ln), .val (.int os), .val (.int fi), .val (.int (v_len ln)), .val (.long (v_val vv ln)), .second, .val (.int (v_off os)), .val (.int (fi.toInt8.toInt32)), .val (.ref b1), .val (.int (Fpv (v_off os) (v_len ln))), .unset, .unset, .unset, .unset, .unset, .unset, .unset, .unset, .unset, .unset, .unset, .unset, .unset, .unset, .unset, .unset, .unset, .unset, .unset, .unset, .unset] [(.int (6 : Int32)), (.int (fi.toInt8.toInt32)), (.int (v_len ln)), (.int (v_off os)), (.ref b1)])) rfl (by rw [hml]; rfl) (argsL := [(.ref b1), (.int (v_off os)), (.int (v_len ln)), (.int (fi.toInt8.toInt32)), (.int (6 : Int32))]) (rest := []) (lenOf pd_1 rfl) rfl (by show 2 * 0 + _ ≤ _; exact Nat.le_of_eq rfl) (hb hby at_237) (fun _ _ => ⟨rfl, e22, (by decide : 1 + 0 ≤ _), (by decide : 13 + 0 ≤ _)⟩)
  dsimp only [Pt.U, Pt.locs, Pt.cells, Pt.slots] at X23 l23 y23 z23 st23 hQ23
  subst y23 z23
  obtain ⟨rfl, N23q, e23⟩ := hQ23
  have N23 : Fr n0 L23 := by rw [l23]; exact Fr.app N22 N23q
  obtain ⟨_, _, ⟨T24, L24, k24, n24⟩, -, X24, ⟨Lc24, hQ24, l24, y24, z24⟩, st24⟩ := Jvm.LawKit.callS X23 hx (y := (⟨"com/example/tamsui/tamsui/encoded/EncodedFormPutVarintPinLaw", "untouched", "([BIIBI)Z"⟩ : MethodName)) hown (mvT hZ (hw _ (List.mem_of_getElem? (i := 8) rfl))) (mvT hZ (hw _ (List.mem_of_getElem? (i := 9) rfl))) (mvT hZ (hw _ (List.mem_of_getElem? (i := 10) rfl))) (mvT hZ (hw _ (List.mem_of_getElem? (i := 11) rfl))) (by decide) (backOf (W := 0) (rm2 l Z a0 hw [] b1 (v_off os) (v_len ln) (fi.toInt8.toInt32) (7 : Int32) (v_g vv ln os fi) T15.heap n0 k16_sz ⟨k16_0, k16_g_ia, k16_sz⟩ ⟨by decide, by decide⟩) hZ (hw _ (List.mem_of_getElem? (i := 11) rfl)) (hw _ (List.mem_of_getElem? (i := 10) rfl)) (by decide) (by decide)) (g := (mkF m 253 #[.val (.long vv), .second, .val (.int ln), .val (.int os), .val (.int fi), .val (.int (v_len ln)), .val (.long (v_val vv ln)), .second, .val (.int (v_off os)), .val (.int (fi.toInt8.toInt32)), .val (.ref b1), .val (.int (Fpv (v_off os) (v_len ln))), .unset, .unset, .unset, .unset, .unset, .unset, .unset, .unset, .unset, .unset, .unset, .unset, .unset, .unset, .unset, .unset, .unset, .unset, .unset, .unset, .unset] [(.int (7 : Int32)), (.int (fi.toInt8.toInt32)), (.int (v_len ln)), (.int (v_off os)), (.ref b1)])) rfl (by rw [hml]; rfl) (argsL := [(.ref b1), (.int (v_off os)), (.int (v_len ln)), (.int (fi.toInt8.toInt32)), (.int (7 : Int32))]) (rest := []) (lenOf pd_1 rfl) rfl (by show 2 * 0 + _ ≤ _; exact Nat.le_of_eq rfl) (hb hby at_253) (fun _ _ => ⟨rfl, e23, (by decide : 1 + 0 ≤ _), (by decide : 13 + 0 ≤ _)⟩)
  dsimp only [Pt.U, Pt.locs, Pt.cells, Pt.slots] at X24 l24 y24 z24 st24 hQ24
  subst y24 z24
  obtain ⟨rfl, N24q, e24⟩ := hQ24
  have N24 : Fr n0 L24 := by rw [l24]; exact Fr.app N23 N24q
  obtain ⟨_, _, ⟨T25, L25, k25, n25⟩, -, X25, ⟨Lc25, hQ25, l25, y25, z25⟩, st25⟩ := Jvm.LawKit.callS X24 hx (y := (⟨"com/example/tamsui/tamsui/encoded/EncodedFormPutVarintPinLaw", "untouched", "([BIIBI)Z"⟩ : MethodName)) hown (mvT hZ (hw _ (List.mem_of_getElem? (i := 8) rfl))) (mvT hZ (hw _ (List.mem_of_getElem? (i := 9) rfl))) (mvT hZ (hw _ (List.mem_of_getElem? (i := 10) rfl))) (mvT hZ (hw _ (List.mem_of_getElem? (i := 11) rfl))) (by decide) (backOf (W := 0) (rm2 l Z a0 hw [] b1 (v_off os) (v_len ln) (fi.toInt8.toInt32) (8 : Int32) (v_g vv ln os fi) T15.heap n0 k16_sz ⟨k16_0, k16_g_ia, k16_sz⟩ ⟨by decide, by decide⟩) hZ (hw _ (List.mem_of_getElem? (i := 11) rfl)) (hw _ (List.mem_of_getElem? (i := 10) rfl)) (by decide) (by decide)) (g := (mkF m 269 #[.val (.long vv), .second, .val (.int ln), .val (.int os), .val (.int fi), .val (.int (v_len ln)), .val (.long (v_val vv ln)), .second, .val (.int (v_off os)), .val (.int (fi.toInt8.toInt32)), .val (.ref b1), .val (.int (Fpv (v_off os) (v_len ln))), .unset, .unset, .unset, .unset, .unset, .unset, .unset, .unset, .unset, .unset, .unset, .unset, .unset, .unset, .unset, .unset, .unset, .unset, .unset, .unset, .unset] [(.int (8 : Int32)), (.int (fi.toInt8.toInt32)), (.int (v_len ln)), (.int (v_off os)), (.ref b1)])) rfl (by rw [hml]; rfl) (argsL := [(.ref b1), (.int (v_off os)), (.int (v_len ln)), (.int (fi.toInt8.toInt32)), (.int (8 : Int32))]) (rest := []) (lenOf pd_1 rfl) rfl (by show 2 * 0 + _ ≤ _; exact Nat.le_of_eq rfl) (hb hby at_269) (fun _ _ => ⟨rfl, e24, (by decide : 1 + 0 ≤ _), (by decide : 13 + 0 ≤ _)⟩)
  dsimp only [Pt.U, Pt.locs, Pt.cells, Pt.slots] at X25 l25 y25 z25 st25 hQ25
  subst y25 z25
  obtain ⟨rfl, N25q, e25⟩ := hQ25
  have N25 : Fr n0 L25 := by rw [l25]; exact Fr.app N24 N25q
  obtain ⟨_, _, ⟨T26, L26, k26, n26⟩, -, X26, ⟨Lc26, hQ26, l26, y26, z26⟩, st26⟩ := Jvm.LawKit.callS X25 hx (y := (⟨"com/example/tamsui/tamsui/encoded/EncodedFormPutVarintPinLaw", "untouched", "([BIIBI)Z"⟩ : MethodName)) hown (mvT hZ (hw _ (List.mem_of_getElem? (i := 8) rfl))) (mvT hZ (hw _ (List.mem_of_getElem? (i := 9) rfl))) (mvT hZ (hw _ (List.mem_of_getElem? (i := 10) rfl))) (mvT hZ (hw _ (List.mem_of_getElem? (i := 11) rfl))) (by decide) (backOf (W := 0) (rm2 l Z a0 hw [] b1 (v_off os) (v_len ln) (fi.toInt8.toInt32) (9 : Int32) (v_g vv ln os fi) T15.heap n0 k16_sz ⟨k16_0, k16_g_ia, k16_sz⟩ ⟨by decide, by decide⟩) hZ (hw _ (List.mem_of_getElem? (i := 11) rfl)) (hw _ (List.mem_of_getElem? (i := 10) rfl)) (by decide) (by decide)) (g := (mkF m 285 #[.val (.long vv), .second, .val (.int ln), .val (.int os), .val (.int fi), .val (.int (v_len ln)), .val (.long (v_val vv ln)), .second, .val (.int (v_off os)), .val (.int (fi.toInt8.toInt32)), .val (.ref b1), .val (.int (Fpv (v_off os) (v_len ln))), .unset, .unset, .unset, .unset, .unset, .unset, .unset, .unset, .unset, .unset, .unset, .unset, .unset, .unset, .unset, .unset, .unset, .unset, .unset, .unset, .unset] [(.int (9 : Int32)), (.int (fi.toInt8.toInt32)), (.int (v_len ln)), (.int (v_off os)), (.ref b1)])) rfl (by rw [hml]; rfl) (argsL := [(.ref b1), (.int (v_off os)), (.int (v_len ln)), (.int (fi.toInt8.toInt32)), (.int (9 : Int32))]) (rest := []) (lenOf pd_1 rfl) rfl (by show 2 * 0 + _ ≤ _; exact Nat.le_of_eq rfl) (hb hby at_285) (fun _ _ => ⟨rfl, e25, (by decide : 1 + 0 ≤ _), (by decide : 13 + 0 ≤ _)⟩)
  dsimp only [Pt.U, Pt.locs, Pt.cells, Pt.slots] at X26 l26 y26 z26 st26 hQ26
  subst y26 z26
  obtain ⟨rfl, N26q, e26⟩ := hQ26
  have N26 : Fr n0 L26 := by rw [l26]; exact Fr.app N25 N26q
  obtain ⟨_, _, ⟨T27, L27, k27, n27⟩, -, X27, ⟨Lc27, hQ27, l27, y27, z27⟩, st27⟩ := Jvm.LawKit.callS X26 hx (y := (⟨"com/example/tamsui/tamsui/encoded/EncodedFormPutVarintPinLaw", "untouched", "([BIIBI)Z"⟩ : MethodName)) hown (mvT hZ (hw _ (List.mem_of_getElem? (i := 8) rfl))) (mvT hZ (hw _ (List.mem_of_getElem? (i := 9) rfl))) (mvT hZ (hw _ (List.mem_of_getElem? (i := 10) rfl))) (mvT hZ (hw _ (List.mem_of_getElem? (i := 11) rfl))) (by decide) (backOf (W := 0) (rm2 l Z a0 hw [] b1 (v_off os) (v_len ln) (fi.toInt8.toInt32) (10 : Int32) (v_g vv ln os fi) T15.heap n0 k16_sz ⟨k16_0, k16_g_ia, k16_sz⟩ ⟨by decide, by decide⟩) hZ (hw _ (List.mem_of_getElem? (i := 11) rfl)) (hw _ (List.mem_of_getElem? (i := 10) rfl)) (by decide) (by decide)) (g := (mkF m 301 #[.val (.long vv), .second, .val (.int ln), .val (.int os), .val (.int fi), .val (.int (v_len ln)), .val (.long (v_val vv ln)), .second, .val (.int (v_off os)), .val (.int (fi.toInt8.toInt32)), .val (.ref b1), .val (.int (Fpv (v_off os) (v_len ln))), .unset, .unset, .unset, .unset, .unset, .unset, .unset, .unset, .unset, .unset, .unset, .unset, .unset, .unset, .unset, .unset, .unset, .unset, .unset, .unset, .unset] [(.int (10 : Int32)), (.int (fi.toInt8.toInt32)), (.int (v_len ln)), (.int (v_off os)), (.ref b1)])) rfl (by rw [hml]; rfl) (argsL := [(.ref b1), (.int (v_off os)), (.int (v_len ln)), (.int (fi.toInt8.toInt32)), (.int (10 : Int32))]) (rest := []) (lenOf pd_1 rfl) rfl (by show 2 * 0 + _ ≤ _; exact Nat.le_of_eq rfl) (hb hby at_301) (fun _ _ => ⟨rfl, e26, (by decide : 1 + 0 ≤ _), (by decide : 13 + 0 ≤ _)⟩)
  dsimp only [Pt.U, Pt.locs, Pt.cells, Pt.slots] at X27 l27 y27 z27 st27 hQ27
  subst y27 z27
  obtain ⟨rfl, N27q, e27⟩ := hQ27
  have N27 : Fr n0 L27 := by rw [l27]; exact Fr.app N26 N27q
  obtain ⟨_, _, ⟨T28, L28, k28, n28⟩, -, X28, ⟨Lc28, hQ28, l28, y28, z28⟩, st28⟩ := Jvm.LawKit.callS X27 hx (y := (⟨"com/example/tamsui/tamsui/encoded/EncodedFormPutVarintPinLaw", "untouched", "([BIIBI)Z"⟩ : MethodName)) hown (mvT hZ (hw _ (List.mem_of_getElem? (i := 8) rfl))) (mvT hZ (hw _ (List.mem_of_getElem? (i := 9) rfl))) (mvT hZ (hw _ (List.mem_of_getElem? (i := 10) rfl))) (mvT hZ (hw _ (List.mem_of_getElem? (i := 11) rfl))) (by decide) (backOf (W := 0) (rm2 l Z a0 hw [] b1 (v_off os) (v_len ln) (fi.toInt8.toInt32) (11 : Int32) (v_g vv ln os fi) T15.heap n0 k16_sz ⟨k16_0, k16_g_ia, k16_sz⟩ ⟨by decide, by decide⟩) hZ (hw _ (List.mem_of_getElem? (i := 11) rfl)) (hw _ (List.mem_of_getElem? (i := 10) rfl)) (by decide) (by decide)) (g := (mkF m 317 #[.val (.long vv), .second, .val (.int ln), .val (.int os), .val (.int fi), .val (.int (v_len ln)), .val (.long (v_val vv ln)), .second, .val (.int (v_off os)), .val (.int (fi.toInt8.toInt32)), .val (.ref b1), .val (.int (Fpv (v_off os) (v_len ln))), .unset, .unset, .unset, .unset, .unset, .unset, .unset, .unset, .unset, .unset, .unset, .unset, .unset, .unset, .unset, .unset, .unset, .unset, .unset, .unset, .unset] [(.int (11 : Int32)), (.int (fi.toInt8.toInt32)), (.int (v_len ln)), (.int (v_off os)), (.ref b1)])) rfl (by rw [hml]; rfl) (argsL := [(.ref b1), (.int (v_off os)), (.int (v_len ln)), (.int (fi.toInt8.toInt32)), (.int (11 : Int32))]) (rest := []) (lenOf pd_1 rfl) rfl (by show 2 * 0 + _ ≤ _; exact Nat.le_of_eq rfl) (hb hby at_317) (fun _ _ => ⟨rfl, e27, (by decide : 1 + 0 ≤ _), (by decide : 13 + 0 ≤ _)⟩)
  dsimp only [Pt.U, Pt.locs, Pt.cells, Pt.slots] at X28 l28 y28 z28 st28 hQ28
  subst y28 z28
  obtain ⟨rfl, N28q, e28⟩ := hQ28
  have N28 : Fr n0 L28 := by rw [l28]; exact Fr.app N27 N28q
  obtain ⟨_, _, ⟨T29, L29, k29, n29⟩, -, X29, ⟨Lc29, hQ29, l29, y29, z29⟩, st29⟩ := Jvm.LawKit.callS X28 hx (y := (⟨"com/example/tamsui/tamsui/encoded/EncodedFormPutVarintPinLaw", "untouched", "([BIIBI)Z"⟩ : MethodName)) hown (mvT hZ (hw _ (List.mem_of_getElem? (i := 8) rfl))) (mvT hZ (hw _ (List.mem_of_getElem? (i := 9) rfl))) (mvT hZ (hw _ (List.mem_of_getElem? (i := 10) rfl))) (mvT hZ (hw _ (List.mem_of_getElem? (i := 11) rfl))) (by decide) (backOf (W := 0) (rm2 l Z a0 hw [] b1 (v_off os) (v_len ln) (fi.toInt8.toInt32) (12 : Int32) (v_g vv ln os fi) T15.heap n0 k16_sz ⟨k16_0, k16_g_ia, k16_sz⟩ ⟨by decide, by decide⟩) hZ (hw _ (List.mem_of_getElem? (i := 11) rfl)) (hw _ (List.mem_of_getElem? (i := 10) rfl)) (by decide) (by decide)) (g := (mkF m 333 #[.val (.long vv), .second, .val (.int ln), .val (.int os), .val (.int fi), .val (.int (v_len ln)), .val (.long (v_val vv ln)), .second, .val (.int (v_off os)), .val (.int (fi.toInt8.toInt32)), .val (.ref b1), .val (.int (Fpv (v_off os) (v_len ln))), .unset, .unset, .unset, .unset, .unset, .unset, .unset, .unset, .unset, .unset, .unset, .unset, .unset, .unset, .unset, .unset, .unset, .unset, .unset, .unset, .unset] [(.int (12 : Int32)), (.int (fi.toInt8.toInt32)), (.int (v_len ln)), (.int (v_off os)), (.ref b1)])) rfl (by rw [hml]; rfl) (argsL := [(.ref b1), (.int (v_off os)), (.int (v_len ln)), (.int (fi.toInt8.toInt32)), (.int (12 : Int32))]) (rest := []) (lenOf pd_1 rfl) rfl (by show 2 * 0 + _ ≤ _; exact Nat.le_of_eq rfl) (hb hby at_333) (fun _ _ => ⟨rfl, e28, (by decide : 1 + 0 ≤ _), (by decide : 13 + 0 ≤ _)⟩)
  dsimp only [Pt.U, Pt.locs, Pt.cells, Pt.slots] at X29 l29 y29 z29 st29 hQ29
  subst y29 z29
  obtain ⟨rfl, N29q, e29⟩ := hQ29
  have N29 : Fr n0 L29 := by rw [l29]; exact Fr.app N28 N29q
  obtain ⟨_, _, ⟨T30, L30, k30, n30⟩, -, X30, ⟨Lc30, hQ30, l30, y30, z30⟩, st30⟩ := Jvm.LawKit.callS X29 hx (y := (⟨"com/example/tamsui/tamsui/encoded/EncodedFormPutVarintPinLaw", "part", "([BIII)J"⟩ : MethodName)) hown (mvT hZ (hw _ (List.mem_of_getElem? (i := 12) rfl))) (mvT hZ (hw _ (List.mem_of_getElem? (i := 13) rfl))) (mvT hZ (hw _ (List.mem_of_getElem? (i := 10) rfl))) (mvT hZ (hw _ (List.mem_of_getElem? (i := 14) rfl))) (by decide) (backOf (W := 0) (rm3 l Z a0 hw [] b1 (v_off os) (v_len ln) (0 : Int32) (v_g vv ln os fi) T15.heap n0 k16_sz ⟨k16_0, k16_g_ia, k16_sz⟩ (own_jin ln os (0 : Int32) (by decide) (by decide))) hZ (hw _ (List.mem_of_getElem? (i := 14) rfl)) (hw _ (List.mem_of_getElem? (i := 10) rfl)) (by decide) (by decide)) (g := (mkF m 360 #[.val (.long vv), .second, .val (.int ln), .val (.int os), .val (.int fi), .val (.int (v_len ln)), .val (.long (v_val vv ln)), .second, .val (.int (v_off os)), .val (.int (fi.toInt8.toInt32)), .val (.ref b1), .val (.int (Fpv (v_off os) (v_len ln))), .val (.int (1 : Int32)), .unset, .unset, .unset, .unset, .unset, .unset, .unset, .unset, .unset, .unset, .unset, .unset, .unset, .unset, .unset, .unset, .unset, .unset, .unset, .unset] [(.int (0 : Int32)), (.int (v_len ln)), (.int (v_off os)), (.ref b1)])) rfl (by rw [hml]; rfl) (argsL := [(.ref b1), (.int (v_off os)), (.int (v_len ln)), (.int (0 : Int32))]) (rest := []) (lenOf pd_2 rfl) rfl (by show 2 * 0 + _ ≤ _; exact Nat.le_of_eq rfl) (hb hby at_360) (fun _ _ => ⟨rfl, e29, (by decide : 1 + 0 ≤ _), (by decide : 13 + 0 ≤ _)⟩)
  dsimp only [Pt.U, Pt.locs, Pt.cells, Pt.slots] at X30 l30 y30 z30 st30 hQ30
  subst y30 z30
  obtain ⟨rfl, N30q, e30⟩ := hQ30
  have N30 : Fr n0 L30 := by rw [l30]; exact Fr.app N29 N30q
  obtain ⟨_, _, ⟨T31, L31, k31, n31⟩, -, X31, ⟨Lc31, hQ31, l31, y31, z31⟩, st31⟩ := Jvm.LawKit.callS X30 hx (y := (⟨"com/example/tamsui/tamsui/encoded/EncodedFormPutVarintPinLaw", "part", "([BIII)J"⟩ : MethodName)) hown (mvT hZ (hw _ (List.mem_of_getElem? (i := 12) rfl))) (mvT hZ (hw _ (List.mem_of_getElem? (i := 13) rfl))) (mvT hZ (hw _ (List.mem_of_getElem? (i := 10) rfl))) (mvT hZ (hw _ (List.mem_of_getElem? (i := 14) rfl))) (by decide) (backOf (W := 0) (rm3 l Z a0 hw [] b1 (v_off os) (v_len ln) (1 : Int32) (v_g vv ln os fi) T15.heap n0 k16_sz ⟨k16_0, k16_g_ia, k16_sz⟩ (own_jin ln os (1 : Int32) (by decide) (by decide))) hZ (hw _ (List.mem_of_getElem? (i := 14) rfl)) (hw _ (List.mem_of_getElem? (i := 10) rfl)) (by decide) (by decide)) (g := (mkF m 372 #[.val (.long vv), .second, .val (.int ln), .val (.int os), .val (.int fi), .val (.int (v_len ln)), .val (.long (v_val vv ln)), .second, .val (.int (v_off os)), .val (.int (fi.toInt8.toInt32)), .val (.ref b1), .val (.int (Fpv (v_off os) (v_len ln))), .val (.int (1 : Int32)), .val (.long (v_p0 vv ln os fi)), .second, .unset, .unset, .unset, .unset, .unset, .unset, .unset, .unset, .unset, .unset, .unset, .unset, .unset, .unset, .unset, .unset, .unset, .unset] [(.int (1 : Int32)), (.int (v_len ln)), (.int (v_off os)), (.ref b1)])) rfl (by rw [hml]; rfl) (argsL := [(.ref b1), (.int (v_off os)), (.int (v_len ln)), (.int (1 : Int32))]) (rest := []) (lenOf pd_2 rfl) rfl (by show 2 * 0 + _ ≤ _; exact Nat.le_of_eq rfl) (hb hby at_372) (fun _ _ => ⟨rfl, e30, (by decide : 1 + 0 ≤ _), (by decide : 13 + 0 ≤ _)⟩)
  dsimp only [Pt.U, Pt.locs, Pt.cells, Pt.slots] at X31 l31 y31 z31 st31 hQ31
  subst y31 z31
  obtain ⟨rfl, N31q, e31⟩ := hQ31
  have N31 : Fr n0 L31 := by rw [l31]; exact Fr.app N30 N31q
  obtain ⟨_, _, ⟨T32, L32, k32, n32⟩, -, X32, ⟨Lc32, hQ32, l32, y32, z32⟩, st32⟩ := Jvm.LawKit.callS X31 hx (y := (⟨"com/example/tamsui/tamsui/encoded/EncodedFormPutVarintPinLaw", "part", "([BIII)J"⟩ : MethodName)) hown (mvT hZ (hw _ (List.mem_of_getElem? (i := 12) rfl))) (mvT hZ (hw _ (List.mem_of_getElem? (i := 13) rfl))) (mvT hZ (hw _ (List.mem_of_getElem? (i := 10) rfl))) (mvT hZ (hw _ (List.mem_of_getElem? (i := 14) rfl))) (by decide) (backOf (W := 0) (rm3 l Z a0 hw [] b1 (v_off os) (v_len ln) (2 : Int32) (v_g vv ln os fi) T15.heap n0 k16_sz ⟨k16_0, k16_g_ia, k16_sz⟩ (own_jin ln os (2 : Int32) (by decide) (by decide))) hZ (hw _ (List.mem_of_getElem? (i := 14) rfl)) (hw _ (List.mem_of_getElem? (i := 10) rfl)) (by decide) (by decide)) (g := (mkF m 384 #[.val (.long vv), .second, .val (.int ln), .val (.int os), .val (.int fi), .val (.int (v_len ln)), .val (.long (v_val vv ln)), .second, .val (.int (v_off os)), .val (.int (fi.toInt8.toInt32)), .val (.ref b1), .val (.int (Fpv (v_off os) (v_len ln))), .val (.int (1 : Int32)), .val (.long (v_p0 vv ln os fi)), .second, .val (.long (v_p1 vv ln os fi)), .second, .unset, .unset, .unset, .unset, .unset, .unset, .unset, .unset, .unset, .unset, .unset, .unset, .unset, .unset, .unset, .unset] [(.int (2 : Int32)), (.int (v_len ln)), (.int (v_off os)), (.ref b1)])) rfl (by rw [hml]; rfl) (argsL := [(.ref b1), (.int (v_off os)), (.int (v_len ln)), (.int (2 : Int32))]) (rest := []) (lenOf pd_2 rfl) rfl (by show 2 * 0 + _ ≤ _; exact Nat.le_of_eq rfl) (hb hby at_384) (fun _ _ => ⟨rfl, e31, (by decide : 1 + 0 ≤ _), (by decide : 13 + 0 ≤ _)⟩)
  dsimp only [Pt.U, Pt.locs, Pt.cells, Pt.slots] at X32 l32 y32 z32 st32 hQ32
  subst y32 z32
  obtain ⟨rfl, N32q, e32⟩ := hQ32
  have N32 : Fr n0 L32 := by rw [l32]; exact Fr.app N31 N32q
  obtain ⟨_, _, ⟨T33, L33, k33, n33⟩, -, X33, ⟨Lc33, hQ33, l33, y33, z33⟩, st33⟩ := Jvm.LawKit.callS X32 hx (y := (⟨"com/example/tamsui/tamsui/encoded/EncodedFormPutVarintPinLaw", "part", "([BIII)J"⟩ : MethodName)) hown (mvT hZ (hw _ (List.mem_of_getElem? (i := 12) rfl))) (mvT hZ (hw _ (List.mem_of_getElem? (i := 13) rfl))) (mvT hZ (hw _ (List.mem_of_getElem? (i := 10) rfl))) (mvT hZ (hw _ (List.mem_of_getElem? (i := 14) rfl))) (by decide) (backOf (W := 0) (rm3 l Z a0 hw [] b1 (v_off os) (v_len ln) (3 : Int32) (v_g vv ln os fi) T15.heap n0 k16_sz ⟨k16_0, k16_g_ia, k16_sz⟩ (own_jin ln os (3 : Int32) (by decide) (by decide))) hZ (hw _ (List.mem_of_getElem? (i := 14) rfl)) (hw _ (List.mem_of_getElem? (i := 10) rfl)) (by decide) (by decide)) (g := (mkF m 396 #[.val (.long vv), .second, .val (.int ln), .val (.int os), .val (.int fi), .val (.int (v_len ln)), .val (.long (v_val vv ln)), .second, .val (.int (v_off os)), .val (.int (fi.toInt8.toInt32)), .val (.ref b1), .val (.int (Fpv (v_off os) (v_len ln))), .val (.int (1 : Int32)), .val (.long (v_p0 vv ln os fi)), .second, .val (.long (v_p1 vv ln os fi)), .second, .val (.long (v_p2 vv ln os fi)), .second, .unset, .unset, .unset, .unset, .unset, .unset, .unset, .unset, .unset, .unset, .unset, .unset, .unset, .unset] [(.int (3 : Int32)), (.int (v_len ln)), (.int (v_off os)), (.ref b1)])) rfl (by rw [hml]; rfl) (argsL := [(.ref b1), (.int (v_off os)), (.int (v_len ln)), (.int (3 : Int32))]) (rest := []) (lenOf pd_2 rfl) rfl (by show 2 * 0 + _ ≤ _; exact Nat.le_of_eq rfl) (hb hby at_396) (fun _ _ => ⟨rfl, e32, (by decide : 1 + 0 ≤ _), (by decide : 13 + 0 ≤ _)⟩)
  dsimp only [Pt.U, Pt.locs, Pt.cells, Pt.slots] at X33 l33 y33 z33 st33 hQ33
  subst y33 z33
  obtain ⟨rfl, N33q, e33⟩ := hQ33
  have N33 : Fr n0 L33 := by rw [l33]; exact Fr.app N32 N33q
  obtain ⟨_, _, ⟨T34, L34, k34, n34⟩, -, X34, ⟨Lc34, hQ34, l34, y34, z34⟩, st34⟩ := Jvm.LawKit.callS X33 hx (y := (⟨"com/example/tamsui/tamsui/encoded/EncodedFormPutVarintPinLaw", "part", "([BIII)J"⟩ : MethodName)) hown (mvT hZ (hw _ (List.mem_of_getElem? (i := 12) rfl))) (mvT hZ (hw _ (List.mem_of_getElem? (i := 13) rfl))) (mvT hZ (hw _ (List.mem_of_getElem? (i := 10) rfl))) (mvT hZ (hw _ (List.mem_of_getElem? (i := 14) rfl))) (by decide) (backOf (W := 0) (rm3 l Z a0 hw [] b1 (v_off os) (v_len ln) (4 : Int32) (v_g vv ln os fi) T15.heap n0 k16_sz ⟨k16_0, k16_g_ia, k16_sz⟩ (own_jin ln os (4 : Int32) (by decide) (by decide))) hZ (hw _ (List.mem_of_getElem? (i := 14) rfl)) (hw _ (List.mem_of_getElem? (i := 10) rfl)) (by decide) (by decide)) (g := (mkF m 408 #[.val (.long vv), .second, .val (.int ln), .val (.int os), .val (.int fi), .val (.int (v_len ln)), .val (.long (v_val vv ln)), .second, .val (.int (v_off os)), .val (.int (fi.toInt8.toInt32)), .val (.ref b1), .val (.int (Fpv (v_off os) (v_len ln))), .val (.int (1 : Int32)), .val (.long (v_p0 vv ln os fi)), .second, .val (.long (v_p1 vv ln os fi)), .second, .val (.long (v_p2 vv ln os fi)), .second, .val (.long (v_p3 vv ln os fi)), .second, .unset, .unset, .unset, .unset, .unset, .unset, .unset, .unset, .unset, .unset, .unset, .unset] [(.int (4 : Int32)), (.int (v_len ln)), (.int (v_off os)), (.ref b1)])) rfl (by rw [hml]; rfl) (argsL := [(.ref b1), (.int (v_off os)), (.int (v_len ln)), (.int (4 : Int32))]) (rest := []) (lenOf pd_2 rfl) rfl (by show 2 * 0 + _ ≤ _; exact Nat.le_of_eq rfl) (hb hby at_408) (fun _ _ => ⟨rfl, e33, (by decide : 1 + 0 ≤ _), (by decide : 13 + 0 ≤ _)⟩)
  dsimp only [Pt.U, Pt.locs, Pt.cells, Pt.slots] at X34 l34 y34 z34 st34 hQ34
  subst y34 z34
  obtain ⟨rfl, N34q, e34⟩ := hQ34
  have N34 : Fr n0 L34 := by rw [l34]; exact Fr.app N33 N34q
  obtain ⟨_, _, ⟨T35, L35, k35, n35⟩, -, X35, ⟨Lc35, hQ35, l35, y35, z35⟩, st35⟩ := Jvm.LawKit.callS X34 hx (y := (⟨"com/example/tamsui/tamsui/encoded/EncodedFormPutVarintPinLaw", "part", "([BIII)J"⟩ : MethodName)) hown (mvT hZ (hw _ (List.mem_of_getElem? (i := 12) rfl))) (mvT hZ (hw _ (List.mem_of_getElem? (i := 13) rfl))) (mvT hZ (hw _ (List.mem_of_getElem? (i := 10) rfl))) (mvT hZ (hw _ (List.mem_of_getElem? (i := 14) rfl))) (by decide) (backOf (W := 0) (rm3 l Z a0 hw [] b1 (v_off os) (v_len ln) (5 : Int32) (v_g vv ln os fi) T15.heap n0 k16_sz ⟨k16_0, k16_g_ia, k16_sz⟩ (own_jin ln os (5 : Int32) (by decide) (by decide))) hZ (hw _ (List.mem_of_getElem? (i := 14) rfl)) (hw _ (List.mem_of_getElem? (i := 10) rfl)) (by decide) (by decide)) (g := (mkF m 420 #[.val (.long vv), .second, .val (.int ln), .val (.int os), .val (.int fi), .val (.int (v_len ln)), .val (.long (v_val vv ln)), .second, .val (.int (v_off os)), .val (.int (fi.toInt8.toInt32)), .val (.ref b1), .val (.int (Fpv (v_off os) (v_len ln))), .val (.int (1 : Int32)), .val (.long (v_p0 vv ln os fi)), .second, .val (.long (v_p1 vv ln os fi)), .second, .val (.long (v_p2 vv ln os fi)), .second, .val (.long (v_p3 vv ln os fi)), .second, .val (.long (v_p4 vv ln os fi)), .second, .unset, .unset, .unset, .unset, .unset, .unset, .unset, .unset, .unset, .unset] [(.int (5 : Int32)), (.int (v_len ln)), (.int (v_off os)), (.ref b1)])) rfl (by rw [hml]; rfl) (argsL := [(.ref b1), (.int (v_off os)), (.int (v_len ln)), (.int (5 : Int32))]) (rest := []) (lenOf pd_2 rfl) rfl (by show 2 * 0 + _ ≤ _; exact Nat.le_of_eq rfl) (hb hby at_420) (fun _ _ => ⟨rfl, e34, (by decide : 1 + 0 ≤ _), (by decide : 13 + 0 ≤ _)⟩)
  dsimp only [Pt.U, Pt.locs, Pt.cells, Pt.slots] at X35 l35 y35 z35 st35 hQ35
  subst y35 z35
  obtain ⟨rfl, N35q, e35⟩ := hQ35
  have N35 : Fr n0 L35 := by rw [l35]; exact Fr.app N34 N35q
  obtain ⟨_, _, ⟨T36, L36, k36, n36⟩, -, X36, ⟨Lc36, hQ36, l36, y36, z36⟩, st36⟩ := Jvm.LawKit.callS X35 hx (y := (⟨"com/example/tamsui/tamsui/encoded/EncodedFormPutVarintPinLaw", "part", "([BIII)J"⟩ : MethodName)) hown (mvT hZ (hw _ (List.mem_of_getElem? (i := 12) rfl))) (mvT hZ (hw _ (List.mem_of_getElem? (i := 13) rfl))) (mvT hZ (hw _ (List.mem_of_getElem? (i := 10) rfl))) (mvT hZ (hw _ (List.mem_of_getElem? (i := 14) rfl))) (by decide) (backOf (W := 0) (rm3 l Z a0 hw [] b1 (v_off os) (v_len ln) (6 : Int32) (v_g vv ln os fi) T15.heap n0 k16_sz ⟨k16_0, k16_g_ia, k16_sz⟩ (own_jin ln os (6 : Int32) (by decide) (by decide))) hZ (hw _ (List.mem_of_getElem? (i := 14) rfl)) (hw _ (List.mem_of_getElem? (i := 10) rfl)) (by decide) (by decide)) (g := (mkF m 433 #[.val (.long vv), .second, .val (.int ln), .val (.int os), .val (.int fi), .val (.int (v_len ln)), .val (.long (v_val vv ln)), .second, .val (.int (v_off os)), .val (.int (fi.toInt8.toInt32)), .val (.ref b1), .val (.int (Fpv (v_off os) (v_len ln))), .val (.int (1 : Int32)), .val (.long (v_p0 vv ln os fi)), .second, .val (.long (v_p1 vv ln os fi)), .second, .val (.long (v_p2 vv ln os fi)), .second, .val (.long (v_p3 vv ln os fi)), .second, .val (.long (v_p4 vv ln os fi)), .second, .val (.long (v_p5 vv ln os fi)), .second, .unset, .unset, .unset, .unset, .unset, .unset, .unset, .unset] [(.int (6 : Int32)), (.int (v_len ln)), (.int (v_off os)), (.ref b1)])) rfl (by rw [hml]; rfl) (argsL := [(.ref b1), (.int (v_off os)), (.int (v_len ln)), (.int (6 : Int32))]) (rest := []) (lenOf pd_2 rfl) rfl (by show 2 * 0 + _ ≤ _; exact Nat.le_of_eq rfl) (hb hby at_433) (fun _ _ => ⟨rfl, e35, (by decide : 1 + 0 ≤ _), (by decide : 13 + 0 ≤ _)⟩)
  dsimp only [Pt.U, Pt.locs, Pt.cells, Pt.slots] at X36 l36 y36 z36 st36 hQ36
  subst y36 z36
  obtain ⟨rfl, N36q, e36⟩ := hQ36
  have N36 : Fr n0 L36 := by rw [l36]; exact Fr.app N35 N36q
  obtain ⟨_, _, ⟨T37, L37, k37, n37⟩, -, X37, ⟨Lc37, hQ37, l37, y37, z37⟩, st37⟩ := Jvm.LawKit.callS X36 hx (y := (⟨"com/example/tamsui/tamsui/encoded/EncodedFormPutVarintPinLaw", "part", "([BIII)J"⟩ : MethodName)) hown (mvT hZ (hw _ (List.mem_of_getElem? (i := 12) rfl))) (mvT hZ (hw _ (List.mem_of_getElem? (i := 13) rfl))) (mvT hZ (hw _ (List.mem_of_getElem? (i := 10) rfl))) (mvT hZ (hw _ (List.mem_of_getElem? (i := 14) rfl))) (by decide) (backOf (W := 0) (rm3 l Z a0 hw [] b1 (v_off os) (v_len ln) (7 : Int32) (v_g vv ln os fi) T15.heap n0 k16_sz ⟨k16_0, k16_g_ia, k16_sz⟩ (own_jin ln os (7 : Int32) (by decide) (by decide))) hZ (hw _ (List.mem_of_getElem? (i := 14) rfl)) (hw _ (List.mem_of_getElem? (i := 10) rfl)) (by decide) (by decide)) (g := (mkF m 446 #[.val (.long vv), .second, .val (.int ln), .val (.int os), .val (.int fi), .val (.int (v_len ln)), .val (.long (v_val vv ln)), .second, .val (.int (v_off os)), .val (.int (fi.toInt8.toInt32)), .val (.ref b1), .val (.int (Fpv (v_off os) (v_len ln))), .val (.int (1 : Int32)), .val (.long (v_p0 vv ln os fi)), .second, .val (.long (v_p1 vv ln os fi)), .second, .val (.long (v_p2 vv ln os fi)), .second, .val (.long (v_p3 vv ln os fi)), .second, .val (.long (v_p4 vv ln os fi)), .second, .val (.long (v_p5 vv ln os fi)), .second, .val (.long (v_p6 vv ln os fi)), .second, .unset, .unset, .unset, .unset, .unset, .unset] [(.int (7 : Int32)), (.int (v_len ln)), (.int (v_off os)), (.ref b1)])) rfl (by rw [hml]; rfl) (argsL := [(.ref b1), (.int (v_off os)), (.int (v_len ln)), (.int (7 : Int32))]) (rest := []) (lenOf pd_2 rfl) rfl (by show 2 * 0 + _ ≤ _; exact Nat.le_of_eq rfl) (hb hby at_446) (fun _ _ => ⟨rfl, e36, (by decide : 1 + 0 ≤ _), (by decide : 13 + 0 ≤ _)⟩)
  dsimp only [Pt.U, Pt.locs, Pt.cells, Pt.slots] at X37 l37 y37 z37 st37 hQ37
  subst y37 z37
  obtain ⟨rfl, N37q, e37⟩ := hQ37
  have N37 : Fr n0 L37 := by rw [l37]; exact Fr.app N36 N37q
  obtain ⟨_, _, ⟨T38, L38, k38, n38⟩, -, X38, ⟨Lc38, hQ38, l38, y38, z38⟩, st38⟩ := Jvm.LawKit.callS X37 hx (y := (⟨"com/example/tamsui/tamsui/encoded/EncodedFormPutVarintPinLaw", "part", "([BIII)J"⟩ : MethodName)) hown (mvT hZ (hw _ (List.mem_of_getElem? (i := 12) rfl))) (mvT hZ (hw _ (List.mem_of_getElem? (i := 13) rfl))) (mvT hZ (hw _ (List.mem_of_getElem? (i := 10) rfl))) (mvT hZ (hw _ (List.mem_of_getElem? (i := 14) rfl))) (by decide) (backOf (W := 0) (rm3 l Z a0 hw [] b1 (v_off os) (v_len ln) (8 : Int32) (v_g vv ln os fi) T15.heap n0 k16_sz ⟨k16_0, k16_g_ia, k16_sz⟩ (own_jin ln os (8 : Int32) (by decide) (by decide))) hZ (hw _ (List.mem_of_getElem? (i := 14) rfl)) (hw _ (List.mem_of_getElem? (i := 10) rfl)) (by decide) (by decide)) (g := (mkF m 459 #[.val (.long vv), .second, .val (.int ln), .val (.int os), .val (.int fi), .val (.int (v_len ln)), .val (.long (v_val vv ln)), .second, .val (.int (v_off os)), .val (.int (fi.toInt8.toInt32)), .val (.ref b1), .val (.int (Fpv (v_off os) (v_len ln))), .val (.int (1 : Int32)), .val (.long (v_p0 vv ln os fi)), .second, .val (.long (v_p1 vv ln os fi)), .second, .val (.long (v_p2 vv ln os fi)), .second, .val (.long (v_p3 vv ln os fi)), .second, .val (.long (v_p4 vv ln os fi)), .second, .val (.long (v_p5 vv ln os fi)), .second, .val (.long (v_p6 vv ln os fi)), .second, .val (.long (v_p7 vv ln os fi)), .second, .unset, .unset, .unset, .unset] [(.int (8 : Int32)), (.int (v_len ln)), (.int (v_off os)), (.ref b1)])) rfl (by rw [hml]; rfl) (argsL := [(.ref b1), (.int (v_off os)), (.int (v_len ln)), (.int (8 : Int32))]) (rest := []) (lenOf pd_2 rfl) rfl (by show 2 * 0 + _ ≤ _; exact Nat.le_of_eq rfl) (hb hby at_459) (fun _ _ => ⟨rfl, e37, (by decide : 1 + 0 ≤ _), (by decide : 13 + 0 ≤ _)⟩)
  dsimp only [Pt.U, Pt.locs, Pt.cells, Pt.slots] at X38 l38 y38 z38 st38 hQ38
  subst y38 z38
  obtain ⟨rfl, N38q, e38⟩ := hQ38
  have N38 : Fr n0 L38 := by rw [l38]; exact Fr.app N37 N38q
  have pre39 : ∀ t, Steps p.tables e below (T38.setTop (mkF m 562 #[.val (.long vv), .second, .val (.int ln), .val (.int os), .val (.int fi), .val (.int (v_len ln)), .val (.long (v_val vv ln)), .second, .val (.int (v_off os)), .val (.int (fi.toInt8.toInt32)), .val (.ref b1), .val (.int (Fpv (v_off os) (v_len ln))), .val (.int (1 : Int32)), .val (.long (v_p0 vv ln os fi)), .second, .val (.long (v_p1 vv ln os fi)), .second, .val (.long (v_p2 vv ln os fi)), .second, .val (.long (v_p3 vv ln os fi)), .second, .val (.long (v_p4 vv ln os fi)), .second, .val (.long (v_p5 vv ln os fi)), .second, .val (.long (v_p6 vv ln os fi)), .second, .val (.long (v_p7 vv ln os fi)), .second, .val (.long (v_p8 vv ln os fi)), .second, .val (.long (v_sum vv ln os fi)), .second] [(.int (lcmpW (v_sum vv ln os fi) (v_val vv ln)))])) t → Steps p.tables e below (s₁.setTop (entryFrame m #[(.long vv), (.int ln), (.int os), (.int fi)] maxLocals)) t := by
    intro t k
    refine pre0 t ?_
    show Steps p.tables e below (s₁.setTop (mkF m 0 #[.val (.long vv), .second, .val (.int ln), .val (.int os), .val (.int fi), .unset, .unset, .unset, .unset, .unset, .unset, .unset, .unset, .unset, .unset, .unset, .unset, .unset, .unset, .unset, .unset, .unset, .unset, .unset, .unset, .unset, .unset, .unset, .unset, .unset, .unset, .unset, .unset] [])) _
    refine XS.iloadN X0.here hx rfl (hb hby at_0) rfl ?_
    show Steps p.tables e below (s₁.setTop (mkF m 1 #[.val (.long vv), .second, .val (.int ln), .val (.int os), .val (.int fi), .unset, .unset, .unset, .unset, .unset, .unset, .unset, .unset, .unset, .unset, .unset, .unset, .unset, .unset, .unset, .unset, .unset, .unset, .unset, .unset, .unset, .unset, .unset, .unset, .unset, .unset, .unset, .unset] [(.int ln)])) _
    refine X0.ldcInt hx hown (mvT hZ (hw _ (List.mem_of_getElem? (i := 0) rfl))) (g := (mkF m 1 #[.val (.long vv), .second, .val (.int ln), .val (.int os), .val (.int fi), .unset, .unset, .unset, .unset, .unset, .unset, .unset, .unset, .unset, .unset, .unset, .unset, .unset, .unset, .unset, .unset, .unset, .unset, .unset, .unset, .unset, .unset, .unset, .unset, .unset, .unset, .unset, .unset] [(.int ln)])) rfl (hb hby at_1) _ ?_
    show Steps p.tables e below (s₁.setTop (mkF m 3 #[.val (.long vv), .second, .val (.int ln), .val (.int os), .val (.int fi), .unset, .unset, .unset, .unset, .unset, .unset, .unset, .unset, .unset, .unset, .unset, .unset, .unset, .unset, .unset, .unset, .unset, .unset, .unset, .unset, .unset, .unset, .unset, .unset, .unset, .unset, .unset, .unset] [(.int (2147483647 : Int32)), (.int ln)])) _
    refine XS.iand X0.here hx rfl (hb hby at_3) rfl ?_
    show Steps p.tables e below (s₁.setTop (mkF m 4 #[.val (.long vv), .second, .val (.int ln), .val (.int os), .val (.int fi), .unset, .unset, .unset, .unset, .unset, .unset, .unset, .unset, .unset, .unset, .unset, .unset, .unset, .unset, .unset, .unset, .unset, .unset, .unset, .unset, .unset, .unset, .unset, .unset, .unset, .unset, .unset, .unset] [(.int (ln &&& (2147483647 : Int32)))])) _
    refine XS.bipush X0.here hx rfl (hb hby at_4) ?_
    show Steps p.tables e below (s₁.setTop (mkF m 6 #[.val (.long vv), .second, .val (.int ln), .val (.int os), .val (.int fi), .unset, .unset, .unset, .unset, .unset, .unset, .unset, .unset, .unset, .unset, .unset, .unset, .unset, .unset, .unset, .unset, .unset, .unset, .unset, .unset, .unset, .unset, .unset, .unset, .unset, .unset, .unset, .unset] [(.int (9 : Int32)), (.int (ln &&& (2147483647 : Int32)))])) _
    refine iremM X0 hx rfl (hb hby at_6) rfl (by decide) ?_
    show Steps p.tables e below (s₁.setTop (mkF m 7 #[.val (.long vv), .second, .val (.int ln), .val (.int os), .val (.int fi), .unset, .unset, .unset, .unset, .unset, .unset, .unset, .unset, .unset, .unset, .unset, .unset, .unset, .unset, .unset, .unset, .unset, .unset, .unset, .unset, .unset, .unset, .unset, .unset, .unset, .unset, .unset, .unset] [(.int ((ln &&& (2147483647 : Int32)) % (9 : Int32)))])) _
    refine XS.iconst X0.here hx rfl (hb hby at_7) ?_
    show Steps p.tables e below (s₁.setTop (mkF m 8 #[.val (.long vv), .second, .val (.int ln), .val (.int os), .val (.int fi), .unset, .unset, .unset, .unset, .unset, .unset, .unset, .unset, .unset, .unset, .unset, .unset, .unset, .unset, .unset, .unset, .unset, .unset, .unset, .unset, .unset, .unset, .unset, .unset, .unset, .unset, .unset, .unset] [(.int (1 : Int32)), (.int ((ln &&& (2147483647 : Int32)) % (9 : Int32)))])) _
    refine XS.iadd X0.here hx rfl (hb hby at_8) rfl ?_
    show Steps p.tables e below (s₁.setTop (mkF m 9 #[.val (.long vv), .second, .val (.int ln), .val (.int os), .val (.int fi), .unset, .unset, .unset, .unset, .unset, .unset, .unset, .unset, .unset, .unset, .unset, .unset, .unset, .unset, .unset, .unset, .unset, .unset, .unset, .unset, .unset, .unset, .unset, .unset, .unset, .unset, .unset, .unset] [(.int (((ln &&& (2147483647 : Int32)) % (9 : Int32)) + (1 : Int32)))])) _
    refine XS.istore X0.here hx rfl (hb hby at_9) rfl (l' := #[.val (.long vv), .second, .val (.int ln), .val (.int os), .val (.int fi), .val (.int (v_len ln)), .unset, .unset, .unset, .unset, .unset, .unset, .unset, .unset, .unset, .unset, .unset, .unset, .unset, .unset, .unset, .unset, .unset, .unset, .unset, .unset, .unset, .unset, .unset, .unset, .unset, .unset, .unset]) rfl ?_
    show Steps p.tables e below (s₁.setTop (mkF m 11 #[.val (.long vv), .second, .val (.int ln), .val (.int os), .val (.int fi), .val (.int (v_len ln)), .unset, .unset, .unset, .unset, .unset, .unset, .unset, .unset, .unset, .unset, .unset, .unset, .unset, .unset, .unset, .unset, .unset, .unset, .unset, .unset, .unset, .unset, .unset, .unset, .unset, .unset, .unset] [])) _
    refine XS.lloadN X0.here hx rfl (hb hby at_11) rfl ?_
    show Steps p.tables e below (s₁.setTop (mkF m 12 #[.val (.long vv), .second, .val (.int ln), .val (.int os), .val (.int fi), .val (.int (v_len ln)), .unset, .unset, .unset, .unset, .unset, .unset, .unset, .unset, .unset, .unset, .unset, .unset, .unset, .unset, .unset, .unset, .unset, .unset, .unset, .unset, .unset, .unset, .unset, .unset, .unset, .unset, .unset] [(.long vv)])) _
    refine XS.lconst X0.here hx rfl (hb hby at_12) ?_
    show Steps p.tables e below (s₁.setTop (mkF m 13 #[.val (.long vv), .second, .val (.int ln), .val (.int os), .val (.int fi), .val (.int (v_len ln)), .unset, .unset, .unset, .unset, .unset, .unset, .unset, .unset, .unset, .unset, .unset, .unset, .unset, .unset, .unset, .unset, .unset, .unset, .unset, .unset, .unset, .unset, .unset, .unset, .unset, .unset, .unset] [(.long (1 : Int64)), (.long vv)])) _
    refine XS.bipush X0.here hx rfl (hb hby at_13) ?_
    show Steps p.tables e below (s₁.setTop (mkF m 15 #[.val (.long vv), .second, .val (.int ln), .val (.int os), .val (.int fi), .val (.int (v_len ln)), .unset, .unset, .unset, .unset, .unset, .unset, .unset, .unset, .unset, .unset, .unset, .unset, .unset, .unset, .unset, .unset, .unset, .unset, .unset, .unset, .unset, .unset, .unset, .unset, .unset, .unset, .unset] [(.int (7 : Int32)), (.long (1 : Int64)), (.long vv)])) _
    refine XS.iload X0.here hx rfl (hb hby at_15) rfl ?_
    show Steps p.tables e below (s₁.setTop (mkF m 17 #[.val (.long vv), .second, .val (.int ln), .val (.int os), .val (.int fi), .val (.int (v_len ln)), .unset, .unset, .unset, .unset, .unset, .unset, .unset, .unset, .unset, .unset, .unset, .unset, .unset, .unset, .unset, .unset, .unset, .unset, .unset, .unset, .unset, .unset, .unset, .unset, .unset, .unset, .unset] [(.int (v_len ln)), (.int (7 : Int32)), (.long (1 : Int64)), (.long vv)])) _
    refine XS.imul X0.here hx rfl (hb hby at_17) rfl ?_
    show Steps p.tables e below (s₁.setTop (mkF m 18 #[.val (.long vv), .second, .val (.int ln), .val (.int os), .val (.int fi), .val (.int (v_len ln)), .unset, .unset, .unset, .unset, .unset, .unset, .unset, .unset, .unset, .unset, .unset, .unset, .unset, .unset, .unset, .unset, .unset, .unset, .unset, .unset, .unset, .unset, .unset, .unset, .unset, .unset, .unset] [(.int ((7 : Int32) * (v_len ln))), (.long (1 : Int64)), (.long vv)])) _
    refine XS.lshl X0.here hx rfl (hb hby at_18) rfl ?_
    show Steps p.tables e below (s₁.setTop (mkF m 19 #[.val (.long vv), .second, .val (.int ln), .val (.int os), .val (.int fi), .val (.int (v_len ln)), .unset, .unset, .unset, .unset, .unset, .unset, .unset, .unset, .unset, .unset, .unset, .unset, .unset, .unset, .unset, .unset, .unset, .unset, .unset, .unset, .unset, .unset, .unset, .unset, .unset, .unset, .unset] [(.long ((1 : Int64) <<< (((7 : Int32) * (v_len ln)) &&& 0x3f).toInt64)), (.long vv)])) _
    refine XS.lconst X0.here hx rfl (hb hby at_19) ?_
    show Steps p.tables e below (s₁.setTop (mkF m 20 #[.val (.long vv), .second, .val (.int ln), .val (.int os), .val (.int fi), .val (.int (v_len ln)), .unset, .unset, .unset, .unset, .unset, .unset, .unset, .unset, .unset, .unset, .unset, .unset, .unset, .unset, .unset, .unset, .unset, .unset, .unset, .unset, .unset, .unset, .unset, .unset, .unset, .unset, .unset] [(.long (1 : Int64)), (.long ((1 : Int64) <<< (((7 : Int32) * (v_len ln)) &&& 0x3f).toInt64)), (.long vv)])) _
    refine XS.lsub X0.here hx rfl (hb hby at_20) rfl ?_
    show Steps p.tables e below (s₁.setTop (mkF m 21 #[.val (.long vv), .second, .val (.int ln), .val (.int os), .val (.int fi), .val (.int (v_len ln)), .unset, .unset, .unset, .unset, .unset, .unset, .unset, .unset, .unset, .unset, .unset, .unset, .unset, .unset, .unset, .unset, .unset, .unset, .unset, .unset, .unset, .unset, .unset, .unset, .unset, .unset, .unset] [(.long (((1 : Int64) <<< (((7 : Int32) * (v_len ln)) &&& 0x3f).toInt64) - (1 : Int64))), (.long vv)])) _
    refine XS.land X0.here hx rfl (hb hby at_21) rfl ?_
    show Steps p.tables e below (s₁.setTop (mkF m 22 #[.val (.long vv), .second, .val (.int ln), .val (.int os), .val (.int fi), .val (.int (v_len ln)), .unset, .unset, .unset, .unset, .unset, .unset, .unset, .unset, .unset, .unset, .unset, .unset, .unset, .unset, .unset, .unset, .unset, .unset, .unset, .unset, .unset, .unset, .unset, .unset, .unset, .unset, .unset] [(.long (vv &&& (((1 : Int64) <<< (((7 : Int32) * (v_len ln)) &&& 0x3f).toInt64) - (1 : Int64))))])) _
    refine XS.lstore X0.here hx rfl (hb hby at_22) rfl (l' := #[.val (.long vv), .second, .val (.int ln), .val (.int os), .val (.int fi), .val (.int (v_len ln)), .val (.long (v_val vv ln)), .second, .unset, .unset, .unset, .unset, .unset, .unset, .unset, .unset, .unset, .unset, .unset, .unset, .unset, .unset, .unset, .unset, .unset, .unset, .unset, .unset, .unset, .unset, .unset, .unset, .unset]) rfl ?_
    show Steps p.tables e below (s₁.setTop (mkF m 24 #[.val (.long vv), .second, .val (.int ln), .val (.int os), .val (.int fi), .val (.int (v_len ln)), .val (.long (v_val vv ln)), .second, .unset, .unset, .unset, .unset, .unset, .unset, .unset, .unset, .unset, .unset, .unset, .unset, .unset, .unset, .unset, .unset, .unset, .unset, .unset, .unset, .unset, .unset, .unset, .unset, .unset] [])) _
    refine XS.iloadN X0.here hx rfl (hb hby at_24) rfl ?_
    show Steps p.tables e below (s₁.setTop (mkF m 25 #[.val (.long vv), .second, .val (.int ln), .val (.int os), .val (.int fi), .val (.int (v_len ln)), .val (.long (v_val vv ln)), .second, .unset, .unset, .unset, .unset, .unset, .unset, .unset, .unset, .unset, .unset, .unset, .unset, .unset, .unset, .unset, .unset, .unset, .unset, .unset, .unset, .unset, .unset, .unset, .unset, .unset] [(.int os)])) _
    refine XS.iconst X0.here hx rfl (hb hby at_25) ?_
    show Steps p.tables e below (s₁.setTop (mkF m 26 #[.val (.long vv), .second, .val (.int ln), .val (.int os), .val (.int fi), .val (.int (v_len ln)), .val (.long (v_val vv ln)), .second, .unset, .unset, .unset, .unset, .unset, .unset, .unset, .unset, .unset, .unset, .unset, .unset, .unset, .unset, .unset, .unset, .unset, .unset, .unset, .unset, .unset, .unset, .unset, .unset, .unset] [(.int (3 : Int32)), (.int os)])) _
    refine XS.iand X0.here hx rfl (hb hby at_26) rfl ?_
    show Steps p.tables e below (s₁.setTop (mkF m 27 #[.val (.long vv), .second, .val (.int ln), .val (.int os), .val (.int fi), .val (.int (v_len ln)), .val (.long (v_val vv ln)), .second, .unset, .unset, .unset, .unset, .unset, .unset, .unset, .unset, .unset, .unset, .unset, .unset, .unset, .unset, .unset, .unset, .unset, .unset, .unset, .unset, .unset, .unset, .unset, .unset, .unset] [(.int (os &&& (3 : Int32)))])) _
    refine XS.istore X0.here hx rfl (hb hby at_27) rfl (l' := #[.val (.long vv), .second, .val (.int ln), .val (.int os), .val (.int fi), .val (.int (v_len ln)), .val (.long (v_val vv ln)), .second, .val (.int (v_off os)), .unset, .unset, .unset, .unset, .unset, .unset, .unset, .unset, .unset, .unset, .unset, .unset, .unset, .unset, .unset, .unset, .unset, .unset, .unset, .unset, .unset, .unset, .unset, .unset]) rfl ?_
    show Steps p.tables e below (s₁.setTop (mkF m 29 #[.val (.long vv), .second, .val (.int ln), .val (.int os), .val (.int fi), .val (.int (v_len ln)), .val (.long (v_val vv ln)), .second, .val (.int (v_off os)), .unset, .unset, .unset, .unset, .unset, .unset, .unset, .unset, .unset, .unset, .unset, .unset, .unset, .unset, .unset, .unset, .unset, .unset, .unset, .unset, .unset, .unset, .unset, .unset] [])) _
    refine XS.iload X0.here hx rfl (hb hby at_29) rfl ?_
    show Steps p.tables e below (s₁.setTop (mkF m 31 #[.val (.long vv), .second, .val (.int ln), .val (.int os), .val (.int fi), .val (.int (v_len ln)), .val (.long (v_val vv ln)), .second, .val (.int (v_off os)), .unset, .unset, .unset, .unset, .unset, .unset, .unset, .unset, .unset, .unset, .unset, .unset, .unset, .unset, .unset, .unset, .unset, .unset, .unset, .unset, .unset, .unset, .unset, .unset] [(.int fi)])) _
    refine XS.i2b X0.here hx rfl (hb hby at_31) rfl ?_
    show Steps p.tables e below (s₁.setTop (mkF m 32 #[.val (.long vv), .second, .val (.int ln), .val (.int os), .val (.int fi), .val (.int (v_len ln)), .val (.long (v_val vv ln)), .second, .val (.int (v_off os)), .unset, .unset, .unset, .unset, .unset, .unset, .unset, .unset, .unset, .unset, .unset, .unset, .unset, .unset, .unset, .unset, .unset, .unset, .unset, .unset, .unset, .unset, .unset, .unset] [(.int (fi.toInt8.toInt32))])) _
    refine XS.istore X0.here hx rfl (hb hby at_32) rfl (l' := #[.val (.long vv), .second, .val (.int ln), .val (.int os), .val (.int fi), .val (.int (v_len ln)), .val (.long (v_val vv ln)), .second, .val (.int (v_off os)), .val (.int (fi.toInt8.toInt32)), .unset, .unset, .unset, .unset, .unset, .unset, .unset, .unset, .unset, .unset, .unset, .unset, .unset, .unset, .unset, .unset, .unset, .unset, .unset, .unset, .unset, .unset, .unset]) rfl ?_
    show Steps p.tables e below (s₁.setTop (mkF m 34 #[.val (.long vv), .second, .val (.int ln), .val (.int os), .val (.int fi), .val (.int (v_len ln)), .val (.long (v_val vv ln)), .second, .val (.int (v_off os)), .val (.int (fi.toInt8.toInt32)), .unset, .unset, .unset, .unset, .unset, .unset, .unset, .unset, .unset, .unset, .unset, .unset, .unset, .unset, .unset, .unset, .unset, .unset, .unset, .unset, .unset, .unset, .unset] [])) _
    refine XS.bipush X0.here hx rfl (hb hby at_34) ?_
    show Steps p.tables e below (s₁.setTop (mkF m 36 #[.val (.long vv), .second, .val (.int ln), .val (.int os), .val (.int fi), .val (.int (v_len ln)), .val (.long (v_val vv ln)), .second, .val (.int (v_off os)), .val (.int (fi.toInt8.toInt32)), .unset, .unset, .unset, .unset, .unset, .unset, .unset, .unset, .unset, .unset, .unset, .unset, .unset, .unset, .unset, .unset, .unset, .unset, .unset, .unset, .unset, .unset, .unset] [(.int (13 : Int32))])) _
    refine st1 _ ?_
    show Steps p.tables e below (T1.setTop (mkF m 38 #[.val (.long vv), .second, .val (.int ln), .val (.int os), .val (.int fi), .val (.int (v_len ln)), .val (.long (v_val vv ln)), .second, .val (.int (v_off os)), .val (.int (fi.toInt8.toInt32)), .unset, .unset, .unset, .unset, .unset, .unset, .unset, .unset, .unset, .unset, .unset, .unset, .unset, .unset, .unset, .unset, .unset, .unset, .unset, .unset, .unset, .unset, .unset] [(.ref b1)])) _
    refine XS.dup X1.here hx rfl (hb hby at_38) rfl rfl ?_
    show Steps p.tables e below (T1.setTop (mkF m 39 #[.val (.long vv), .second, .val (.int ln), .val (.int os), .val (.int fi), .val (.int (v_len ln)), .val (.long (v_val vv ln)), .second, .val (.int (v_off os)), .val (.int (fi.toInt8.toInt32)), .unset, .unset, .unset, .unset, .unset, .unset, .unset, .unset, .unset, .unset, .unset, .unset, .unset, .unset, .unset, .unset, .unset, .unset, .unset, .unset, .unset, .unset, .unset] [(.ref b1), (.ref b1)])) _
    refine XS.iconst X1.here hx rfl (hb hby at_39) ?_
    show Steps p.tables e below (T1.setTop (mkF m 40 #[.val (.long vv), .second, .val (.int ln), .val (.int os), .val (.int fi), .val (.int (v_len ln)), .val (.long (v_val vv ln)), .second, .val (.int (v_off os)), .val (.int (fi.toInt8.toInt32)), .unset, .unset, .unset, .unset, .unset, .unset, .unset, .unset, .unset, .unset, .unset, .unset, .unset, .unset, .unset, .unset, .unset, .unset, .unset, .unset, .unset, .unset, .unset] [(.int (0 : Int32)), (.ref b1), (.ref b1)])) _
    refine XS.iload X1.here hx rfl (hb hby at_40) rfl ?_
    show Steps p.tables e below (T1.setTop (mkF m 42 #[.val (.long vv), .second, .val (.int ln), .val (.int os), .val (.int fi), .val (.int (v_len ln)), .val (.long (v_val vv ln)), .second, .val (.int (v_off os)), .val (.int (fi.toInt8.toInt32)), .unset, .unset, .unset, .unset, .unset, .unset, .unset, .unset, .unset, .unset, .unset, .unset, .unset, .unset, .unset, .unset, .unset, .unset, .unset, .unset, .unset, .unset, .unset] [(.int (fi.toInt8.toInt32)), (.int (0 : Int32)), (.ref b1), (.ref b1)])) _
    refine st2 _ ?_
    show Steps p.tables e below (T2.setTop (mkF m 43 #[.val (.long vv), .second, .val (.int ln), .val (.int os), .val (.int fi), .val (.int (v_len ln)), .val (.long (v_val vv ln)), .second, .val (.int (v_off os)), .val (.int (fi.toInt8.toInt32)), .unset, .unset, .unset, .unset, .unset, .unset, .unset, .unset, .unset, .unset, .unset, .unset, .unset, .unset, .unset, .unset, .unset, .unset, .unset, .unset, .unset, .unset, .unset] [(.ref b1)])) _
    refine XS.dup X2.here hx rfl (hb hby at_43) rfl rfl ?_
    show Steps p.tables e below (T2.setTop (mkF m 44 #[.val (.long vv), .second, .val (.int ln), .val (.int os), .val (.int fi), .val (.int (v_len ln)), .val (.long (v_val vv ln)), .second, .val (.int (v_off os)), .val (.int (fi.toInt8.toInt32)), .unset, .unset, .unset, .unset, .unset, .unset, .unset, .unset, .unset, .unset, .unset, .unset, .unset, .unset, .unset, .unset, .unset, .unset, .unset, .unset, .unset, .unset, .unset] [(.ref b1), (.ref b1)])) _
    refine XS.iconst X2.here hx rfl (hb hby at_44) ?_
    show Steps p.tables e below (T2.setTop (mkF m 45 #[.val (.long vv), .second, .val (.int ln), .val (.int os), .val (.int fi), .val (.int (v_len ln)), .val (.long (v_val vv ln)), .second, .val (.int (v_off os)), .val (.int (fi.toInt8.toInt32)), .unset, .unset, .unset, .unset, .unset, .unset, .unset, .unset, .unset, .unset, .unset, .unset, .unset, .unset, .unset, .unset, .unset, .unset, .unset, .unset, .unset, .unset, .unset] [(.int (1 : Int32)), (.ref b1), (.ref b1)])) _
    refine XS.iload X2.here hx rfl (hb hby at_45) rfl ?_
    show Steps p.tables e below (T2.setTop (mkF m 47 #[.val (.long vv), .second, .val (.int ln), .val (.int os), .val (.int fi), .val (.int (v_len ln)), .val (.long (v_val vv ln)), .second, .val (.int (v_off os)), .val (.int (fi.toInt8.toInt32)), .unset, .unset, .unset, .unset, .unset, .unset, .unset, .unset, .unset, .unset, .unset, .unset, .unset, .unset, .unset, .unset, .unset, .unset, .unset, .unset, .unset, .unset, .unset] [(.int (fi.toInt8.toInt32)), (.int (1 : Int32)), (.ref b1), (.ref b1)])) _
    refine st3 _ ?_
    show Steps p.tables e below (T3.setTop (mkF m 48 #[.val (.long vv), .second, .val (.int ln), .val (.int os), .val (.int fi), .val (.int (v_len ln)), .val (.long (v_val vv ln)), .second, .val (.int (v_off os)), .val (.int (fi.toInt8.toInt32)), .unset, .unset, .unset, .unset, .unset, .unset, .unset, .unset, .unset, .unset, .unset, .unset, .unset, .unset, .unset, .unset, .unset, .unset, .unset, .unset, .unset, .unset, .unset] [(.ref b1)])) _
    refine XS.dup X3.here hx rfl (hb hby at_48) rfl rfl ?_
    show Steps p.tables e below (T3.setTop (mkF m 49 #[.val (.long vv), .second, .val (.int ln), .val (.int os), .val (.int fi), .val (.int (v_len ln)), .val (.long (v_val vv ln)), .second, .val (.int (v_off os)), .val (.int (fi.toInt8.toInt32)), .unset, .unset, .unset, .unset, .unset, .unset, .unset, .unset, .unset, .unset, .unset, .unset, .unset, .unset, .unset, .unset, .unset, .unset, .unset, .unset, .unset, .unset, .unset] [(.ref b1), (.ref b1)])) _
    refine XS.iconst X3.here hx rfl (hb hby at_49) ?_
    show Steps p.tables e below (T3.setTop (mkF m 50 #[.val (.long vv), .second, .val (.int ln), .val (.int os), .val (.int fi), .val (.int (v_len ln)), .val (.long (v_val vv ln)), .second, .val (.int (v_off os)), .val (.int (fi.toInt8.toInt32)), .unset, .unset, .unset, .unset, .unset, .unset, .unset, .unset, .unset, .unset, .unset, .unset, .unset, .unset, .unset, .unset, .unset, .unset, .unset, .unset, .unset, .unset, .unset] [(.int (2 : Int32)), (.ref b1), (.ref b1)])) _
    refine XS.iload X3.here hx rfl (hb hby at_50) rfl ?_
    show Steps p.tables e below (T3.setTop (mkF m 52 #[.val (.long vv), .second, .val (.int ln), .val (.int os), .val (.int fi), .val (.int (v_len ln)), .val (.long (v_val vv ln)), .second, .val (.int (v_off os)), .val (.int (fi.toInt8.toInt32)), .unset, .unset, .unset, .unset, .unset, .unset, .unset, .unset, .unset, .unset, .unset, .unset, .unset, .unset, .unset, .unset, .unset, .unset, .unset, .unset, .unset, .unset, .unset] [(.int (fi.toInt8.toInt32)), (.int (2 : Int32)), (.ref b1), (.ref b1)])) _
    refine st4 _ ?_
    show Steps p.tables e below (T4.setTop (mkF m 53 #[.val (.long vv), .second, .val (.int ln), .val (.int os), .val (.int fi), .val (.int (v_len ln)), .val (.long (v_val vv ln)), .second, .val (.int (v_off os)), .val (.int (fi.toInt8.toInt32)), .unset, .unset, .unset, .unset, .unset, .unset, .unset, .unset, .unset, .unset, .unset, .unset, .unset, .unset, .unset, .unset, .unset, .unset, .unset, .unset, .unset, .unset, .unset] [(.ref b1)])) _
    refine XS.dup X4.here hx rfl (hb hby at_53) rfl rfl ?_
    show Steps p.tables e below (T4.setTop (mkF m 54 #[.val (.long vv), .second, .val (.int ln), .val (.int os), .val (.int fi), .val (.int (v_len ln)), .val (.long (v_val vv ln)), .second, .val (.int (v_off os)), .val (.int (fi.toInt8.toInt32)), .unset, .unset, .unset, .unset, .unset, .unset, .unset, .unset, .unset, .unset, .unset, .unset, .unset, .unset, .unset, .unset, .unset, .unset, .unset, .unset, .unset, .unset, .unset] [(.ref b1), (.ref b1)])) _
    refine XS.iconst X4.here hx rfl (hb hby at_54) ?_
    show Steps p.tables e below (T4.setTop (mkF m 55 #[.val (.long vv), .second, .val (.int ln), .val (.int os), .val (.int fi), .val (.int (v_len ln)), .val (.long (v_val vv ln)), .second, .val (.int (v_off os)), .val (.int (fi.toInt8.toInt32)), .unset, .unset, .unset, .unset, .unset, .unset, .unset, .unset, .unset, .unset, .unset, .unset, .unset, .unset, .unset, .unset, .unset, .unset, .unset, .unset, .unset, .unset, .unset] [(.int (3 : Int32)), (.ref b1), (.ref b1)])) _
    refine XS.iload X4.here hx rfl (hb hby at_55) rfl ?_
    show Steps p.tables e below (T4.setTop (mkF m 57 #[.val (.long vv), .second, .val (.int ln), .val (.int os), .val (.int fi), .val (.int (v_len ln)), .val (.long (v_val vv ln)), .second, .val (.int (v_off os)), .val (.int (fi.toInt8.toInt32)), .unset, .unset, .unset, .unset, .unset, .unset, .unset, .unset, .unset, .unset, .unset, .unset, .unset, .unset, .unset, .unset, .unset, .unset, .unset, .unset, .unset, .unset, .unset] [(.int (fi.toInt8.toInt32)), (.int (3 : Int32)), (.ref b1), (.ref b1)])) _
    refine st5 _ ?_
    show Steps p.tables e below (T5.setTop (mkF m 58 #[.val (.long vv), .second, .val (.int ln), .val (.int os), .val (.int fi), .val (.int (v_len ln)), .val (.long (v_val vv ln)), .second, .val (.int (v_off os)), .val (.int (fi.toInt8.toInt32)), .unset, .unset, .unset, .unset, .unset, .unset, .unset, .unset, .unset, .unset, .unset, .unset, .unset, .unset, .unset, .unset, .unset, .unset, .unset, .unset, .unset, .unset, .unset] [(.ref b1)])) _
    refine XS.dup X5.here hx rfl (hb hby at_58) rfl rfl ?_
    show Steps p.tables e below (T5.setTop (mkF m 59 #[.val (.long vv), .second, .val (.int ln), .val (.int os), .val (.int fi), .val (.int (v_len ln)), .val (.long (v_val vv ln)), .second, .val (.int (v_off os)), .val (.int (fi.toInt8.toInt32)), .unset, .unset, .unset, .unset, .unset, .unset, .unset, .unset, .unset, .unset, .unset, .unset, .unset, .unset, .unset, .unset, .unset, .unset, .unset, .unset, .unset, .unset, .unset] [(.ref b1), (.ref b1)])) _
    refine XS.iconst X5.here hx rfl (hb hby at_59) ?_
    show Steps p.tables e below (T5.setTop (mkF m 60 #[.val (.long vv), .second, .val (.int ln), .val (.int os), .val (.int fi), .val (.int (v_len ln)), .val (.long (v_val vv ln)), .second, .val (.int (v_off os)), .val (.int (fi.toInt8.toInt32)), .unset, .unset, .unset, .unset, .unset, .unset, .unset, .unset, .unset, .unset, .unset, .unset, .unset, .unset, .unset, .unset, .unset, .unset, .unset, .unset, .unset, .unset, .unset] [(.int (4 : Int32)), (.ref b1), (.ref b1)])) _
    refine XS.iload X5.here hx rfl (hb hby at_60) rfl ?_
    show Steps p.tables e below (T5.setTop (mkF m 62 #[.val (.long vv), .second, .val (.int ln), .val (.int os), .val (.int fi), .val (.int (v_len ln)), .val (.long (v_val vv ln)), .second, .val (.int (v_off os)), .val (.int (fi.toInt8.toInt32)), .unset, .unset, .unset, .unset, .unset, .unset, .unset, .unset, .unset, .unset, .unset, .unset, .unset, .unset, .unset, .unset, .unset, .unset, .unset, .unset, .unset, .unset, .unset] [(.int (fi.toInt8.toInt32)), (.int (4 : Int32)), (.ref b1), (.ref b1)])) _
    refine st6 _ ?_
    show Steps p.tables e below (T6.setTop (mkF m 63 #[.val (.long vv), .second, .val (.int ln), .val (.int os), .val (.int fi), .val (.int (v_len ln)), .val (.long (v_val vv ln)), .second, .val (.int (v_off os)), .val (.int (fi.toInt8.toInt32)), .unset, .unset, .unset, .unset, .unset, .unset, .unset, .unset, .unset, .unset, .unset, .unset, .unset, .unset, .unset, .unset, .unset, .unset, .unset, .unset, .unset, .unset, .unset] [(.ref b1)])) _
    refine XS.dup X6.here hx rfl (hb hby at_63) rfl rfl ?_
    show Steps p.tables e below (T6.setTop (mkF m 64 #[.val (.long vv), .second, .val (.int ln), .val (.int os), .val (.int fi), .val (.int (v_len ln)), .val (.long (v_val vv ln)), .second, .val (.int (v_off os)), .val (.int (fi.toInt8.toInt32)), .unset, .unset, .unset, .unset, .unset, .unset, .unset, .unset, .unset, .unset, .unset, .unset, .unset, .unset, .unset, .unset, .unset, .unset, .unset, .unset, .unset, .unset, .unset] [(.ref b1), (.ref b1)])) _
    refine XS.iconst X6.here hx rfl (hb hby at_64) ?_
    show Steps p.tables e below (T6.setTop (mkF m 65 #[.val (.long vv), .second, .val (.int ln), .val (.int os), .val (.int fi), .val (.int (v_len ln)), .val (.long (v_val vv ln)), .second, .val (.int (v_off os)), .val (.int (fi.toInt8.toInt32)), .unset, .unset, .unset, .unset, .unset, .unset, .unset, .unset, .unset, .unset, .unset, .unset, .unset, .unset, .unset, .unset, .unset, .unset, .unset, .unset, .unset, .unset, .unset] [(.int (5 : Int32)), (.ref b1), (.ref b1)])) _
    refine XS.iload X6.here hx rfl (hb hby at_65) rfl ?_
    show Steps p.tables e below (T6.setTop (mkF m 67 #[.val (.long vv), .second, .val (.int ln), .val (.int os), .val (.int fi), .val (.int (v_len ln)), .val (.long (v_val vv ln)), .second, .val (.int (v_off os)), .val (.int (fi.toInt8.toInt32)), .unset, .unset, .unset, .unset, .unset, .unset, .unset, .unset, .unset, .unset, .unset, .unset, .unset, .unset, .unset, .unset, .unset, .unset, .unset, .unset, .unset, .unset, .unset] [(.int (fi.toInt8.toInt32)), (.int (5 : Int32)), (.ref b1), (.ref b1)])) _
    refine st7 _ ?_
    show Steps p.tables e below (T7.setTop (mkF m 68 #[.val (.long vv), .second, .val (.int ln), .val (.int os), .val (.int fi), .val (.int (v_len ln)), .val (.long (v_val vv ln)), .second, .val (.int (v_off os)), .val (.int (fi.toInt8.toInt32)), .unset, .unset, .unset, .unset, .unset, .unset, .unset, .unset, .unset, .unset, .unset, .unset, .unset, .unset, .unset, .unset, .unset, .unset, .unset, .unset, .unset, .unset, .unset] [(.ref b1)])) _
    refine XS.dup X7.here hx rfl (hb hby at_68) rfl rfl ?_
    show Steps p.tables e below (T7.setTop (mkF m 69 #[.val (.long vv), .second, .val (.int ln), .val (.int os), .val (.int fi), .val (.int (v_len ln)), .val (.long (v_val vv ln)), .second, .val (.int (v_off os)), .val (.int (fi.toInt8.toInt32)), .unset, .unset, .unset, .unset, .unset, .unset, .unset, .unset, .unset, .unset, .unset, .unset, .unset, .unset, .unset, .unset, .unset, .unset, .unset, .unset, .unset, .unset, .unset] [(.ref b1), (.ref b1)])) _
    refine XS.bipush X7.here hx rfl (hb hby at_69) ?_
    show Steps p.tables e below (T7.setTop (mkF m 71 #[.val (.long vv), .second, .val (.int ln), .val (.int os), .val (.int fi), .val (.int (v_len ln)), .val (.long (v_val vv ln)), .second, .val (.int (v_off os)), .val (.int (fi.toInt8.toInt32)), .unset, .unset, .unset, .unset, .unset, .unset, .unset, .unset, .unset, .unset, .unset, .unset, .unset, .unset, .unset, .unset, .unset, .unset, .unset, .unset, .unset, .unset, .unset] [(.int (6 : Int32)), (.ref b1), (.ref b1)])) _
    refine XS.iload X7.here hx rfl (hb hby at_71) rfl ?_
    show Steps p.tables e below (T7.setTop (mkF m 73 #[.val (.long vv), .second, .val (.int ln), .val (.int os), .val (.int fi), .val (.int (v_len ln)), .val (.long (v_val vv ln)), .second, .val (.int (v_off os)), .val (.int (fi.toInt8.toInt32)), .unset, .unset, .unset, .unset, .unset, .unset, .unset, .unset, .unset, .unset, .unset, .unset, .unset, .unset, .unset, .unset, .unset, .unset, .unset, .unset, .unset, .unset, .unset] [(.int (fi.toInt8.toInt32)), (.int (6 : Int32)), (.ref b1), (.ref b1)])) _
    refine st8 _ ?_
    show Steps p.tables e below (T8.setTop (mkF m 74 #[.val (.long vv), .second, .val (.int ln), .val (.int os), .val (.int fi), .val (.int (v_len ln)), .val (.long (v_val vv ln)), .second, .val (.int (v_off os)), .val (.int (fi.toInt8.toInt32)), .unset, .unset, .unset, .unset, .unset, .unset, .unset, .unset, .unset, .unset, .unset, .unset, .unset, .unset, .unset, .unset, .unset, .unset, .unset, .unset, .unset, .unset, .unset] [(.ref b1)])) _
    refine XS.dup X8.here hx rfl (hb hby at_74) rfl rfl ?_
    show Steps p.tables e below (T8.setTop (mkF m 75 #[.val (.long vv), .second, .val (.int ln), .val (.int os), .val (.int fi), .val (.int (v_len ln)), .val (.long (v_val vv ln)), .second, .val (.int (v_off os)), .val (.int (fi.toInt8.toInt32)), .unset, .unset, .unset, .unset, .unset, .unset, .unset, .unset, .unset, .unset, .unset, .unset, .unset, .unset, .unset, .unset, .unset, .unset, .unset, .unset, .unset, .unset, .unset] [(.ref b1), (.ref b1)])) _
    refine XS.bipush X8.here hx rfl (hb hby at_75) ?_
    show Steps p.tables e below (T8.setTop (mkF m 77 #[.val (.long vv), .second, .val (.int ln), .val (.int os), .val (.int fi), .val (.int (v_len ln)), .val (.long (v_val vv ln)), .second, .val (.int (v_off os)), .val (.int (fi.toInt8.toInt32)), .unset, .unset, .unset, .unset, .unset, .unset, .unset, .unset, .unset, .unset, .unset, .unset, .unset, .unset, .unset, .unset, .unset, .unset, .unset, .unset, .unset, .unset, .unset] [(.int (7 : Int32)), (.ref b1), (.ref b1)])) _
    refine XS.iload X8.here hx rfl (hb hby at_77) rfl ?_
    show Steps p.tables e below (T8.setTop (mkF m 79 #[.val (.long vv), .second, .val (.int ln), .val (.int os), .val (.int fi), .val (.int (v_len ln)), .val (.long (v_val vv ln)), .second, .val (.int (v_off os)), .val (.int (fi.toInt8.toInt32)), .unset, .unset, .unset, .unset, .unset, .unset, .unset, .unset, .unset, .unset, .unset, .unset, .unset, .unset, .unset, .unset, .unset, .unset, .unset, .unset, .unset, .unset, .unset] [(.int (fi.toInt8.toInt32)), (.int (7 : Int32)), (.ref b1), (.ref b1)])) _
    refine st9 _ ?_
    show Steps p.tables e below (T9.setTop (mkF m 80 #[.val (.long vv), .second, .val (.int ln), .val (.int os), .val (.int fi), .val (.int (v_len ln)), .val (.long (v_val vv ln)), .second, .val (.int (v_off os)), .val (.int (fi.toInt8.toInt32)), .unset, .unset, .unset, .unset, .unset, .unset, .unset, .unset, .unset, .unset, .unset, .unset, .unset, .unset, .unset, .unset, .unset, .unset, .unset, .unset, .unset, .unset, .unset] [(.ref b1)])) _
    refine XS.dup X9.here hx rfl (hb hby at_80) rfl rfl ?_
    show Steps p.tables e below (T9.setTop (mkF m 81 #[.val (.long vv), .second, .val (.int ln), .val (.int os), .val (.int fi), .val (.int (v_len ln)), .val (.long (v_val vv ln)), .second, .val (.int (v_off os)), .val (.int (fi.toInt8.toInt32)), .unset, .unset, .unset, .unset, .unset, .unset, .unset, .unset, .unset, .unset, .unset, .unset, .unset, .unset, .unset, .unset, .unset, .unset, .unset, .unset, .unset, .unset, .unset] [(.ref b1), (.ref b1)])) _
    refine XS.bipush X9.here hx rfl (hb hby at_81) ?_
    show Steps p.tables e below (T9.setTop (mkF m 83 #[.val (.long vv), .second, .val (.int ln), .val (.int os), .val (.int fi), .val (.int (v_len ln)), .val (.long (v_val vv ln)), .second, .val (.int (v_off os)), .val (.int (fi.toInt8.toInt32)), .unset, .unset, .unset, .unset, .unset, .unset, .unset, .unset, .unset, .unset, .unset, .unset, .unset, .unset, .unset, .unset, .unset, .unset, .unset, .unset, .unset, .unset, .unset] [(.int (8 : Int32)), (.ref b1), (.ref b1)])) _
    refine XS.iload X9.here hx rfl (hb hby at_83) rfl ?_
    show Steps p.tables e below (T9.setTop (mkF m 85 #[.val (.long vv), .second, .val (.int ln), .val (.int os), .val (.int fi), .val (.int (v_len ln)), .val (.long (v_val vv ln)), .second, .val (.int (v_off os)), .val (.int (fi.toInt8.toInt32)), .unset, .unset, .unset, .unset, .unset, .unset, .unset, .unset, .unset, .unset, .unset, .unset, .unset, .unset, .unset, .unset, .unset, .unset, .unset, .unset, .unset, .unset, .unset] [(.int (fi.toInt8.toInt32)), (.int (8 : Int32)), (.ref b1), (.ref b1)])) _
    refine st10 _ ?_
    show Steps p.tables e below (T10.setTop (mkF m 86 #[.val (.long vv), .second, .val (.int ln), .val (.int os), .val (.int fi), .val (.int (v_len ln)), .val (.long (v_val vv ln)), .second, .val (.int (v_off os)), .val (.int (fi.toInt8.toInt32)), .unset, .unset, .unset, .unset, .unset, .unset, .unset, .unset, .unset, .unset, .unset, .unset, .unset, .unset, .unset, .unset, .unset, .unset, .unset, .unset, .unset, .unset, .unset] [(.ref b1)])) _
    refine XS.dup X10.here hx rfl (hb hby at_86) rfl rfl ?_
    show Steps p.tables e below (T10.setTop (mkF m 87 #[.val (.long vv), .second, .val (.int ln), .val (.int os), .val (.int fi), .val (.int (v_len ln)), .val (.long (v_val vv ln)), .second, .val (.int (v_off os)), .val (.int (fi.toInt8.toInt32)), .unset, .unset, .unset, .unset, .unset, .unset, .unset, .unset, .unset, .unset, .unset, .unset, .unset, .unset, .unset, .unset, .unset, .unset, .unset, .unset, .unset, .unset, .unset] [(.ref b1), (.ref b1)])) _
    refine XS.bipush X10.here hx rfl (hb hby at_87) ?_
    show Steps p.tables e below (T10.setTop (mkF m 89 #[.val (.long vv), .second, .val (.int ln), .val (.int os), .val (.int fi), .val (.int (v_len ln)), .val (.long (v_val vv ln)), .second, .val (.int (v_off os)), .val (.int (fi.toInt8.toInt32)), .unset, .unset, .unset, .unset, .unset, .unset, .unset, .unset, .unset, .unset, .unset, .unset, .unset, .unset, .unset, .unset, .unset, .unset, .unset, .unset, .unset, .unset, .unset] [(.int (9 : Int32)), (.ref b1), (.ref b1)])) _
    refine XS.iload X10.here hx rfl (hb hby at_89) rfl ?_
    show Steps p.tables e below (T10.setTop (mkF m 91 #[.val (.long vv), .second, .val (.int ln), .val (.int os), .val (.int fi), .val (.int (v_len ln)), .val (.long (v_val vv ln)), .second, .val (.int (v_off os)), .val (.int (fi.toInt8.toInt32)), .unset, .unset, .unset, .unset, .unset, .unset, .unset, .unset, .unset, .unset, .unset, .unset, .unset, .unset, .unset, .unset, .unset, .unset, .unset, .unset, .unset, .unset, .unset] [(.int (fi.toInt8.toInt32)), (.int (9 : Int32)), (.ref b1), (.ref b1)])) _
    refine st11 _ ?_
    show Steps p.tables e below (T11.setTop (mkF m 92 #[.val (.long vv), .second, .val (.int ln), .val (.int os), .val (.int fi), .val (.int (v_len ln)), .val (.long (v_val vv ln)), .second, .val (.int (v_off os)), .val (.int (fi.toInt8.toInt32)), .unset, .unset, .unset, .unset, .unset, .unset, .unset, .unset, .unset, .unset, .unset, .unset, .unset, .unset, .unset, .unset, .unset, .unset, .unset, .unset, .unset, .unset, .unset] [(.ref b1)])) _
    refine XS.dup X11.here hx rfl (hb hby at_92) rfl rfl ?_
    show Steps p.tables e below (T11.setTop (mkF m 93 #[.val (.long vv), .second, .val (.int ln), .val (.int os), .val (.int fi), .val (.int (v_len ln)), .val (.long (v_val vv ln)), .second, .val (.int (v_off os)), .val (.int (fi.toInt8.toInt32)), .unset, .unset, .unset, .unset, .unset, .unset, .unset, .unset, .unset, .unset, .unset, .unset, .unset, .unset, .unset, .unset, .unset, .unset, .unset, .unset, .unset, .unset, .unset] [(.ref b1), (.ref b1)])) _
    refine XS.bipush X11.here hx rfl (hb hby at_93) ?_
    show Steps p.tables e below (T11.setTop (mkF m 95 #[.val (.long vv), .second, .val (.int ln), .val (.int os), .val (.int fi), .val (.int (v_len ln)), .val (.long (v_val vv ln)), .second, .val (.int (v_off os)), .val (.int (fi.toInt8.toInt32)), .unset, .unset, .unset, .unset, .unset, .unset, .unset, .unset, .unset, .unset, .unset, .unset, .unset, .unset, .unset, .unset, .unset, .unset, .unset, .unset, .unset, .unset, .unset] [(.int (10 : Int32)), (.ref b1), (.ref b1)])) _
    refine XS.iload X11.here hx rfl (hb hby at_95) rfl ?_
    show Steps p.tables e below (T11.setTop (mkF m 97 #[.val (.long vv), .second, .val (.int ln), .val (.int os), .val (.int fi), .val (.int (v_len ln)), .val (.long (v_val vv ln)), .second, .val (.int (v_off os)), .val (.int (fi.toInt8.toInt32)), .unset, .unset, .unset, .unset, .unset, .unset, .unset, .unset, .unset, .unset, .unset, .unset, .unset, .unset, .unset, .unset, .unset, .unset, .unset, .unset, .unset, .unset, .unset] [(.int (fi.toInt8.toInt32)), (.int (10 : Int32)), (.ref b1), (.ref b1)])) _
    refine st12 _ ?_
    show Steps p.tables e below (T12.setTop (mkF m 98 #[.val (.long vv), .second, .val (.int ln), .val (.int os), .val (.int fi), .val (.int (v_len ln)), .val (.long (v_val vv ln)), .second, .val (.int (v_off os)), .val (.int (fi.toInt8.toInt32)), .unset, .unset, .unset, .unset, .unset, .unset, .unset, .unset, .unset, .unset, .unset, .unset, .unset, .unset, .unset, .unset, .unset, .unset, .unset, .unset, .unset, .unset, .unset] [(.ref b1)])) _
    refine XS.dup X12.here hx rfl (hb hby at_98) rfl rfl ?_
    show Steps p.tables e below (T12.setTop (mkF m 99 #[.val (.long vv), .second, .val (.int ln), .val (.int os), .val (.int fi), .val (.int (v_len ln)), .val (.long (v_val vv ln)), .second, .val (.int (v_off os)), .val (.int (fi.toInt8.toInt32)), .unset, .unset, .unset, .unset, .unset, .unset, .unset, .unset, .unset, .unset, .unset, .unset, .unset, .unset, .unset, .unset, .unset, .unset, .unset, .unset, .unset, .unset, .unset] [(.ref b1), (.ref b1)])) _
    refine XS.bipush X12.here hx rfl (hb hby at_99) ?_
    show Steps p.tables e below (T12.setTop (mkF m 101 #[.val (.long vv), .second, .val (.int ln), .val (.int os), .val (.int fi), .val (.int (v_len ln)), .val (.long (v_val vv ln)), .second, .val (.int (v_off os)), .val (.int (fi.toInt8.toInt32)), .unset, .unset, .unset, .unset, .unset, .unset, .unset, .unset, .unset, .unset, .unset, .unset, .unset, .unset, .unset, .unset, .unset, .unset, .unset, .unset, .unset, .unset, .unset] [(.int (11 : Int32)), (.ref b1), (.ref b1)])) _
    refine XS.iload X12.here hx rfl (hb hby at_101) rfl ?_
    show Steps p.tables e below (T12.setTop (mkF m 103 #[.val (.long vv), .second, .val (.int ln), .val (.int os), .val (.int fi), .val (.int (v_len ln)), .val (.long (v_val vv ln)), .second, .val (.int (v_off os)), .val (.int (fi.toInt8.toInt32)), .unset, .unset, .unset, .unset, .unset, .unset, .unset, .unset, .unset, .unset, .unset, .unset, .unset, .unset, .unset, .unset, .unset, .unset, .unset, .unset, .unset, .unset, .unset] [(.int (fi.toInt8.toInt32)), (.int (11 : Int32)), (.ref b1), (.ref b1)])) _
    refine st13 _ ?_
    show Steps p.tables e below (T13.setTop (mkF m 104 #[.val (.long vv), .second, .val (.int ln), .val (.int os), .val (.int fi), .val (.int (v_len ln)), .val (.long (v_val vv ln)), .second, .val (.int (v_off os)), .val (.int (fi.toInt8.toInt32)), .unset, .unset, .unset, .unset, .unset, .unset, .unset, .unset, .unset, .unset, .unset, .unset, .unset, .unset, .unset, .unset, .unset, .unset, .unset, .unset, .unset, .unset, .unset] [(.ref b1)])) _
    refine XS.dup X13.here hx rfl (hb hby at_104) rfl rfl ?_
    show Steps p.tables e below (T13.setTop (mkF m 105 #[.val (.long vv), .second, .val (.int ln), .val (.int os), .val (.int fi), .val (.int (v_len ln)), .val (.long (v_val vv ln)), .second, .val (.int (v_off os)), .val (.int (fi.toInt8.toInt32)), .unset, .unset, .unset, .unset, .unset, .unset, .unset, .unset, .unset, .unset, .unset, .unset, .unset, .unset, .unset, .unset, .unset, .unset, .unset, .unset, .unset, .unset, .unset] [(.ref b1), (.ref b1)])) _
    refine XS.bipush X13.here hx rfl (hb hby at_105) ?_
    show Steps p.tables e below (T13.setTop (mkF m 107 #[.val (.long vv), .second, .val (.int ln), .val (.int os), .val (.int fi), .val (.int (v_len ln)), .val (.long (v_val vv ln)), .second, .val (.int (v_off os)), .val (.int (fi.toInt8.toInt32)), .unset, .unset, .unset, .unset, .unset, .unset, .unset, .unset, .unset, .unset, .unset, .unset, .unset, .unset, .unset, .unset, .unset, .unset, .unset, .unset, .unset, .unset, .unset] [(.int (12 : Int32)), (.ref b1), (.ref b1)])) _
    refine XS.iload X13.here hx rfl (hb hby at_107) rfl ?_
    show Steps p.tables e below (T13.setTop (mkF m 109 #[.val (.long vv), .second, .val (.int ln), .val (.int os), .val (.int fi), .val (.int (v_len ln)), .val (.long (v_val vv ln)), .second, .val (.int (v_off os)), .val (.int (fi.toInt8.toInt32)), .unset, .unset, .unset, .unset, .unset, .unset, .unset, .unset, .unset, .unset, .unset, .unset, .unset, .unset, .unset, .unset, .unset, .unset, .unset, .unset, .unset, .unset, .unset] [(.int (fi.toInt8.toInt32)), (.int (12 : Int32)), (.ref b1), (.ref b1)])) _
    refine st14 _ ?_
    show Steps p.tables e below (T14.setTop (mkF m 110 #[.val (.long vv), .second, .val (.int ln), .val (.int os), .val (.int fi), .val (.int (v_len ln)), .val (.long (v_val vv ln)), .second, .val (.int (v_off os)), .val (.int (fi.toInt8.toInt32)), .unset, .unset, .unset, .unset, .unset, .unset, .unset, .unset, .unset, .unset, .unset, .unset, .unset, .unset, .unset, .unset, .unset, .unset, .unset, .unset, .unset, .unset, .unset] [(.ref b1)])) _
    refine XS.astore X14.here hx rfl (hb hby at_110) rfl rfl (l' := #[.val (.long vv), .second, .val (.int ln), .val (.int os), .val (.int fi), .val (.int (v_len ln)), .val (.long (v_val vv ln)), .second, .val (.int (v_off os)), .val (.int (fi.toInt8.toInt32)), .val (.ref b1), .unset, .unset, .unset, .unset, .unset, .unset, .unset, .unset, .unset, .unset, .unset, .unset, .unset, .unset, .unset, .unset, .unset, .unset, .unset, .unset, .unset, .unset]) rfl ?_
    show Steps p.tables e below (T14.setTop (mkF m 112 #[.val (.long vv), .second, .val (.int ln), .val (.int os), .val (.int fi), .val (.int (v_len ln)), .val (.long (v_val vv ln)), .second, .val (.int (v_off os)), .val (.int (fi.toInt8.toInt32)), .val (.ref b1), .unset, .unset, .unset, .unset, .unset, .unset, .unset, .unset, .unset, .unset, .unset, .unset, .unset, .unset, .unset, .unset, .unset, .unset, .unset, .unset, .unset, .unset] [])) _
    refine XS.aload X14.here hx rfl (hb hby at_112) rfl rfl ?_
    show Steps p.tables e below (T14.setTop (mkF m 114 #[.val (.long vv), .second, .val (.int ln), .val (.int os), .val (.int fi), .val (.int (v_len ln)), .val (.long (v_val vv ln)), .second, .val (.int (v_off os)), .val (.int (fi.toInt8.toInt32)), .val (.ref b1), .unset, .unset, .unset, .unset, .unset, .unset, .unset, .unset, .unset, .unset, .unset, .unset, .unset, .unset, .unset, .unset, .unset, .unset, .unset, .unset, .unset, .unset] [(.ref b1)])) _
    refine XS.iload X14.here hx rfl (hb hby at_114) rfl ?_
    show Steps p.tables e below (T14.setTop (mkF m 116 #[.val (.long vv), .second, .val (.int ln), .val (.int os), .val (.int fi), .val (.int (v_len ln)), .val (.long (v_val vv ln)), .second, .val (.int (v_off os)), .val (.int (fi.toInt8.toInt32)), .val (.ref b1), .unset, .unset, .unset, .unset, .unset, .unset, .unset, .unset, .unset, .unset, .unset, .unset, .unset, .unset, .unset, .unset, .unset, .unset, .unset, .unset, .unset, .unset] [(.int (v_off os)), (.ref b1)])) _
    refine XS.lload X14.here hx rfl (hb hby at_116) rfl ?_
    show Steps p.tables e below (T14.setTop (mkF m 118 #[.val (.long vv), .second, .val (.int ln), .val (.int os), .val (.int fi), .val (.int (v_len ln)), .val (.long (v_val vv ln)), .second, .val (.int (v_off os)), .val (.int (fi.toInt8.toInt32)), .val (.ref b1), .unset, .unset, .unset, .unset, .unset, .unset, .unset, .unset, .unset, .unset, .unset, .unset, .unset, .unset, .unset, .unset, .unset, .unset, .unset, .unset, .unset, .unset] [(.long (v_val vv ln)), (.int (v_off os)), (.ref b1)])) _
    refine XS.iload X14.here hx rfl (hb hby at_118) rfl ?_
    show Steps p.tables e below (T14.setTop (mkF m 120 #[.val (.long vv), .second, .val (.int ln), .val (.int os), .val (.int fi), .val (.int (v_len ln)), .val (.long (v_val vv ln)), .second, .val (.int (v_off os)), .val (.int (fi.toInt8.toInt32)), .val (.ref b1), .unset, .unset, .unset, .unset, .unset, .unset, .unset, .unset, .unset, .unset, .unset, .unset, .unset, .unset, .unset, .unset, .unset, .unset, .unset, .unset, .unset, .unset] [(.int (v_len ln)), (.long (v_val vv ln)), (.int (v_off os)), (.ref b1)])) _
    refine st15 _ ?_
    show Steps p.tables e below (T15.setTop (mkF m 123 #[.val (.long vv), .second, .val (.int ln), .val (.int os), .val (.int fi), .val (.int (v_len ln)), .val (.long (v_val vv ln)), .second, .val (.int (v_off os)), .val (.int (fi.toInt8.toInt32)), .val (.ref b1), .unset, .unset, .unset, .unset, .unset, .unset, .unset, .unset, .unset, .unset, .unset, .unset, .unset, .unset, .unset, .unset, .unset, .unset, .unset, .unset, .unset, .unset] [(.int (Fpv (v_off os) (v_len ln)))])) _
    refine XS.istore X15.here hx rfl (hb hby at_123) rfl (l' := #[.val (.long vv), .second, .val (.int ln), .val (.int os), .val (.int fi), .val (.int (v_len ln)), .val (.long (v_val vv ln)), .second, .val (.int (v_off os)), .val (.int (fi.toInt8.toInt32)), .val (.ref b1), .val (.int (Fpv (v_off os) (v_len ln))), .unset, .unset, .unset, .unset, .unset, .unset, .unset, .unset, .unset, .unset, .unset, .unset, .unset, .unset, .unset, .unset, .unset, .unset, .unset, .unset, .unset]) rfl ?_
    show Steps p.tables e below (T15.setTop (mkF m 125 #[.val (.long vv), .second, .val (.int ln), .val (.int os), .val (.int fi), .val (.int (v_len ln)), .val (.long (v_val vv ln)), .second, .val (.int (v_off os)), .val (.int (fi.toInt8.toInt32)), .val (.ref b1), .val (.int (Fpv (v_off os) (v_len ln))), .unset, .unset, .unset, .unset, .unset, .unset, .unset, .unset, .unset, .unset, .unset, .unset, .unset, .unset, .unset, .unset, .unset, .unset, .unset, .unset, .unset] [])) _
    refine XS.iload X15.here hx rfl (hb hby at_125) rfl ?_
    show Steps p.tables e below (T15.setTop (mkF m 127 #[.val (.long vv), .second, .val (.int ln), .val (.int os), .val (.int fi), .val (.int (v_len ln)), .val (.long (v_val vv ln)), .second, .val (.int (v_off os)), .val (.int (fi.toInt8.toInt32)), .val (.ref b1), .val (.int (Fpv (v_off os) (v_len ln))), .unset, .unset, .unset, .unset, .unset, .unset, .unset, .unset, .unset, .unset, .unset, .unset, .unset, .unset, .unset, .unset, .unset, .unset, .unset, .unset, .unset] [(.int (Fpv (v_off os) (v_len ln)))])) _
    refine XS.iload X15.here hx rfl (hb hby at_127) rfl ?_
    show Steps p.tables e below (T15.setTop (mkF m 129 #[.val (.long vv), .second, .val (.int ln), .val (.int os), .val (.int fi), .val (.int (v_len ln)), .val (.long (v_val vv ln)), .second, .val (.int (v_off os)), .val (.int (fi.toInt8.toInt32)), .val (.ref b1), .val (.int (Fpv (v_off os) (v_len ln))), .unset, .unset, .unset, .unset, .unset, .unset, .unset, .unset, .unset, .unset, .unset, .unset, .unset, .unset, .unset, .unset, .unset, .unset, .unset, .unset, .unset] [(.int (v_off os)), (.int (Fpv (v_off os) (v_len ln)))])) _
    refine XS.iload X15.here hx rfl (hb hby at_129) rfl ?_
    show Steps p.tables e below (T15.setTop (mkF m 131 #[.val (.long vv), .second, .val (.int ln), .val (.int os), .val (.int fi), .val (.int (v_len ln)), .val (.long (v_val vv ln)), .second, .val (.int (v_off os)), .val (.int (fi.toInt8.toInt32)), .val (.ref b1), .val (.int (Fpv (v_off os) (v_len ln))), .unset, .unset, .unset, .unset, .unset, .unset, .unset, .unset, .unset, .unset, .unset, .unset, .unset, .unset, .unset, .unset, .unset, .unset, .unset, .unset, .unset] [(.int (v_len ln)), (.int (v_off os)), (.int (Fpv (v_off os) (v_len ln)))])) _
    refine XS.iadd X15.here hx rfl (hb hby at_131) rfl ?_
    show Steps p.tables e below (T15.setTop (mkF m 132 #[.val (.long vv), .second, .val (.int ln), .val (.int os), .val (.int fi), .val (.int (v_len ln)), .val (.long (v_val vv ln)), .second, .val (.int (v_off os)), .val (.int (fi.toInt8.toInt32)), .val (.ref b1), .val (.int (Fpv (v_off os) (v_len ln))), .unset, .unset, .unset, .unset, .unset, .unset, .unset, .unset, .unset, .unset, .unset, .unset, .unset, .unset, .unset, .unset, .unset, .unset, .unset, .unset, .unset] [(.int ((v_off os) + (v_len ln))), (.int (Fpv (v_off os) (v_len ln)))])) _
    refine XS.icmpYes X15.here hx rfl (pc0 := 132) (pc' := 137) rfl (hb hby at_132) rfl (teq rfl).1 (by decide) (by decide) ?_
    show Steps p.tables e below (T15.setTop (mkF m 137 #[.val (.long vv), .second, .val (.int ln), .val (.int os), .val (.int fi), .val (.int (v_len ln)), .val (.long (v_val vv ln)), .second, .val (.int (v_off os)), .val (.int (fi.toInt8.toInt32)), .val (.ref b1), .val (.int (Fpv (v_off os) (v_len ln))), .unset, .unset, .unset, .unset, .unset, .unset, .unset, .unset, .unset, .unset, .unset, .unset, .unset, .unset, .unset, .unset, .unset, .unset, .unset, .unset, .unset] [])) _
    refine XS.aload X15.here hx rfl (hb hby at_137) rfl rfl ?_
    show Steps p.tables e below (T15.setTop (mkF m 139 #[.val (.long vv), .second, .val (.int ln), .val (.int os), .val (.int fi), .val (.int (v_len ln)), .val (.long (v_val vv ln)), .second, .val (.int (v_off os)), .val (.int (fi.toInt8.toInt32)), .val (.ref b1), .val (.int (Fpv (v_off os) (v_len ln))), .unset, .unset, .unset, .unset, .unset, .unset, .unset, .unset, .unset, .unset, .unset, .unset, .unset, .unset, .unset, .unset, .unset, .unset, .unset, .unset, .unset] [(.ref b1)])) _
    refine XS.iload X15.here hx rfl (hb hby at_139) rfl ?_
    show Steps p.tables e below (T15.setTop (mkF m 141 #[.val (.long vv), .second, .val (.int ln), .val (.int os), .val (.int fi), .val (.int (v_len ln)), .val (.long (v_val vv ln)), .second, .val (.int (v_off os)), .val (.int (fi.toInt8.toInt32)), .val (.ref b1), .val (.int (Fpv (v_off os) (v_len ln))), .unset, .unset, .unset, .unset, .unset, .unset, .unset, .unset, .unset, .unset, .unset, .unset, .unset, .unset, .unset, .unset, .unset, .unset, .unset, .unset, .unset] [(.int (v_off os)), (.ref b1)])) _
    refine XS.iload X15.here hx rfl (hb hby at_141) rfl ?_
    show Steps p.tables e below (T15.setTop (mkF m 143 #[.val (.long vv), .second, .val (.int ln), .val (.int os), .val (.int fi), .val (.int (v_len ln)), .val (.long (v_val vv ln)), .second, .val (.int (v_off os)), .val (.int (fi.toInt8.toInt32)), .val (.ref b1), .val (.int (Fpv (v_off os) (v_len ln))), .unset, .unset, .unset, .unset, .unset, .unset, .unset, .unset, .unset, .unset, .unset, .unset, .unset, .unset, .unset, .unset, .unset, .unset, .unset, .unset, .unset] [(.int (v_len ln)), (.int (v_off os)), (.ref b1)])) _
    refine XS.iload X15.here hx rfl (hb hby at_143) rfl ?_
    show Steps p.tables e below (T15.setTop (mkF m 145 #[.val (.long vv), .second, .val (.int ln), .val (.int os), .val (.int fi), .val (.int (v_len ln)), .val (.long (v_val vv ln)), .second, .val (.int (v_off os)), .val (.int (fi.toInt8.toInt32)), .val (.ref b1), .val (.int (Fpv (v_off os) (v_len ln))), .unset, .unset, .unset, .unset, .unset, .unset, .unset, .unset, .unset, .unset, .unset, .unset, .unset, .unset, .unset, .unset, .unset, .unset, .unset, .unset, .unset] [(.int (fi.toInt8.toInt32)), (.int (v_len ln)), (.int (v_off os)), (.ref b1)])) _
    refine XS.iconst X15.here hx rfl (hb hby at_145) ?_
    show Steps p.tables e below (T15.setTop (mkF m 146 #[.val (.long vv), .second, .val (.int ln), .val (.int os), .val (.int fi), .val (.int (v_len ln)), .val (.long (v_val vv ln)), .second, .val (.int (v_off os)), .val (.int (fi.toInt8.toInt32)), .val (.ref b1), .val (.int (Fpv (v_off os) (v_len ln))), .unset, .unset, .unset, .unset, .unset, .unset, .unset, .unset, .unset, .unset, .unset, .unset, .unset, .unset, .unset, .unset, .unset, .unset, .unset, .unset, .unset] [(.int (0 : Int32)), (.int (fi.toInt8.toInt32)), (.int (v_len ln)), (.int (v_off os)), (.ref b1)])) _
    refine st17 _ ?_
    show Steps p.tables e below (T17.setTop (mkF m 149 #[.val (.long vv), .second, .val (.int ln), .val (.int os), .val (.int fi), .val (.int (v_len ln)), .val (.long (v_val vv ln)), .second, .val (.int (v_off os)), .val (.int (fi.toInt8.toInt32)), .val (.ref b1), .val (.int (Fpv (v_off os) (v_len ln))), .unset, .unset, .unset, .unset, .unset, .unset, .unset, .unset, .unset, .unset, .unset, .unset, .unset, .unset, .unset, .unset, .unset, .unset, .unset, .unset, .unset] [(.int (b2i (Fun (v_off os) (v_len ln) (fi.toInt8.toInt32) (0 : Int32) (v_g vv ln os fi))))])) _
    refine XS.ifNo X17.here hx rfl (hb hby at_149) rfl ((if0 _ _).trans (feq (b2i_ne (own_unt vv ln os fi 0 (by decide) (by decide)))).1) ?_
    show Steps p.tables e below (T17.setTop (mkF m 152 #[.val (.long vv), .second, .val (.int ln), .val (.int os), .val (.int fi), .val (.int (v_len ln)), .val (.long (v_val vv ln)), .second, .val (.int (v_off os)), .val (.int (fi.toInt8.toInt32)), .val (.ref b1), .val (.int (Fpv (v_off os) (v_len ln))), .unset, .unset, .unset, .unset, .unset, .unset, .unset, .unset, .unset, .unset, .unset, .unset, .unset, .unset, .unset, .unset, .unset, .unset, .unset, .unset, .unset] [])) _
    refine XS.aload X17.here hx rfl (hb hby at_152) rfl rfl ?_
    show Steps p.tables e below (T17.setTop (mkF m 154 #[.val (.long vv), .second, .val (.int ln), .val (.int os), .val (.int fi), .val (.int (v_len ln)), .val (.long (v_val vv ln)), .second, .val (.int (v_off os)), .val (.int (fi.toInt8.toInt32)), .val (.ref b1), .val (.int (Fpv (v_off os) (v_len ln))), .unset, .unset, .unset, .unset, .unset, .unset, .unset, .unset, .unset, .unset, .unset, .unset, .unset, .unset, .unset, .unset, .unset, .unset, .unset, .unset, .unset] [(.ref b1)])) _
    refine XS.iload X17.here hx rfl (hb hby at_154) rfl ?_
    show Steps p.tables e below (T17.setTop (mkF m 156 #[.val (.long vv), .second, .val (.int ln), .val (.int os), .val (.int fi), .val (.int (v_len ln)), .val (.long (v_val vv ln)), .second, .val (.int (v_off os)), .val (.int (fi.toInt8.toInt32)), .val (.ref b1), .val (.int (Fpv (v_off os) (v_len ln))), .unset, .unset, .unset, .unset, .unset, .unset, .unset, .unset, .unset, .unset, .unset, .unset, .unset, .unset, .unset, .unset, .unset, .unset, .unset, .unset, .unset] [(.int (v_off os)), (.ref b1)])) _
    refine XS.iload X17.here hx rfl (hb hby at_156) rfl ?_
    show Steps p.tables e below (T17.setTop (mkF m 158 #[.val (.long vv), .second, .val (.int ln), .val (.int os), .val (.int fi), .val (.int (v_len ln)), .val (.long (v_val vv ln)), .second, .val (.int (v_off os)), .val (.int (fi.toInt8.toInt32)), .val (.ref b1), .val (.int (Fpv (v_off os) (v_len ln))), .unset, .unset, .unset, .unset, .unset, .unset, .unset, .unset, .unset, .unset, .unset, .unset, .unset, .unset, .unset, .unset, .unset, .unset, .unset, .unset, .unset] [(.int (v_len ln)), (.int (v_off os)), (.ref b1)])) _
    refine XS.iload X17.here hx rfl (hb hby at_158) rfl ?_
    show Steps p.tables e below (T17.setTop (mkF m 160 #[.val (.long vv), .second, .val (.int ln), .val (.int os), .val (.int fi), .val (.int (v_len ln)), .val (.long (v_val vv ln)), .second, .val (.int (v_off os)), .val (.int (fi.toInt8.toInt32)), .val (.ref b1), .val (.int (Fpv (v_off os) (v_len ln))), .unset, .unset, .unset, .unset, .unset, .unset, .unset, .unset, .unset, .unset, .unset, .unset, .unset, .unset, .unset, .unset, .unset, .unset, .unset, .unset, .unset] [(.int (fi.toInt8.toInt32)), (.int (v_len ln)), (.int (v_off os)), (.ref b1)])) _
    refine XS.iconst X17.here hx rfl (hb hby at_160) ?_
    show Steps p.tables e below (T17.setTop (mkF m 161 #[.val (.long vv), .second, .val (.int ln), .val (.int os), .val (.int fi), .val (.int (v_len ln)), .val (.long (v_val vv ln)), .second, .val (.int (v_off os)), .val (.int (fi.toInt8.toInt32)), .val (.ref b1), .val (.int (Fpv (v_off os) (v_len ln))), .unset, .unset, .unset, .unset, .unset, .unset, .unset, .unset, .unset, .unset, .unset, .unset, .unset, .unset, .unset, .unset, .unset, .unset, .unset, .unset, .unset] [(.int (1 : Int32)), (.int (fi.toInt8.toInt32)), (.int (v_len ln)), (.int (v_off os)), (.ref b1)])) _
    refine st18 _ ?_
    show Steps p.tables e below (T18.setTop (mkF m 164 #[.val (.long vv), .second, .val (.int ln), .val (.int os), .val (.int fi), .val (.int (v_len ln)), .val (.long (v_val vv ln)), .second, .val (.int (v_off os)), .val (.int (fi.toInt8.toInt32)), .val (.ref b1), .val (.int (Fpv (v_off os) (v_len ln))), .unset, .unset, .unset, .unset, .unset, .unset, .unset, .unset, .unset, .unset, .unset, .unset, .unset, .unset, .unset, .unset, .unset, .unset, .unset, .unset, .unset] [(.int (b2i (Fun (v_off os) (v_len ln) (fi.toInt8.toInt32) (1 : Int32) (v_g vv ln os fi))))])) _
    refine XS.ifNo X18.here hx rfl (hb hby at_164) rfl ((if0 _ _).trans (feq (b2i_ne (own_unt vv ln os fi 1 (by decide) (by decide)))).1) ?_
    show Steps p.tables e below (T18.setTop (mkF m 167 #[.val (.long vv), .second, .val (.int ln), .val (.int os), .val (.int fi), .val (.int (v_len ln)), .val (.long (v_val vv ln)), .second, .val (.int (v_off os)), .val (.int (fi.toInt8.toInt32)), .val (.ref b1), .val (.int (Fpv (v_off os) (v_len ln))), .unset, .unset, .unset, .unset, .unset, .unset, .unset, .unset, .unset, .unset, .unset, .unset, .unset, .unset, .unset, .unset, .unset, .unset, .unset, .unset, .unset] [])) _
    refine XS.aload X18.here hx rfl (hb hby at_167) rfl rfl ?_
    show Steps p.tables e below (T18.setTop (mkF m 169 #[.val (.long vv), .second, .val (.int ln), .val (.int os), .val (.int fi), .val (.int (v_len ln)), .val (.long (v_val vv ln)), .second, .val (.int (v_off os)), .val (.int (fi.toInt8.toInt32)), .val (.ref b1), .val (.int (Fpv (v_off os) (v_len ln))), .unset, .unset, .unset, .unset, .unset, .unset, .unset, .unset, .unset, .unset, .unset, .unset, .unset, .unset, .unset, .unset, .unset, .unset, .unset, .unset, .unset] [(.ref b1)])) _
    refine XS.iload X18.here hx rfl (hb hby at_169) rfl ?_
    show Steps p.tables e below (T18.setTop (mkF m 171 #[.val (.long vv), .second, .val (.int ln), .val (.int os), .val (.int fi), .val (.int (v_len ln)), .val (.long (v_val vv ln)), .second, .val (.int (v_off os)), .val (.int (fi.toInt8.toInt32)), .val (.ref b1), .val (.int (Fpv (v_off os) (v_len ln))), .unset, .unset, .unset, .unset, .unset, .unset, .unset, .unset, .unset, .unset, .unset, .unset, .unset, .unset, .unset, .unset, .unset, .unset, .unset, .unset, .unset] [(.int (v_off os)), (.ref b1)])) _
    refine XS.iload X18.here hx rfl (hb hby at_171) rfl ?_
    show Steps p.tables e below (T18.setTop (mkF m 173 #[.val (.long vv), .second, .val (.int ln), .val (.int os), .val (.int fi), .val (.int (v_len ln)), .val (.long (v_val vv ln)), .second, .val (.int (v_off os)), .val (.int (fi.toInt8.toInt32)), .val (.ref b1), .val (.int (Fpv (v_off os) (v_len ln))), .unset, .unset, .unset, .unset, .unset, .unset, .unset, .unset, .unset, .unset, .unset, .unset, .unset, .unset, .unset, .unset, .unset, .unset, .unset, .unset, .unset] [(.int (v_len ln)), (.int (v_off os)), (.ref b1)])) _
    refine XS.iload X18.here hx rfl (hb hby at_173) rfl ?_
    show Steps p.tables e below (T18.setTop (mkF m 175 #[.val (.long vv), .second, .val (.int ln), .val (.int os), .val (.int fi), .val (.int (v_len ln)), .val (.long (v_val vv ln)), .second, .val (.int (v_off os)), .val (.int (fi.toInt8.toInt32)), .val (.ref b1), .val (.int (Fpv (v_off os) (v_len ln))), .unset, .unset, .unset, .unset, .unset, .unset, .unset, .unset, .unset, .unset, .unset, .unset, .unset, .unset, .unset, .unset, .unset, .unset, .unset, .unset, .unset] [(.int (fi.toInt8.toInt32)), (.int (v_len ln)), (.int (v_off os)), (.ref b1)])) _
    refine XS.iconst X18.here hx rfl (hb hby at_175) ?_
    show Steps p.tables e below (T18.setTop (mkF m 176 #[.val (.long vv), .second, .val (.int ln), .val (.int os), .val (.int fi), .val (.int (v_len ln)), .val (.long (v_val vv ln)), .second, .val (.int (v_off os)), .val (.int (fi.toInt8.toInt32)), .val (.ref b1), .val (.int (Fpv (v_off os) (v_len ln))), .unset, .unset, .unset, .unset, .unset, .unset, .unset, .unset, .unset, .unset, .unset, .unset, .unset, .unset, .unset, .unset, .unset, .unset, .unset, .unset, .unset] [(.int (2 : Int32)), (.int (fi.toInt8.toInt32)), (.int (v_len ln)), (.int (v_off os)), (.ref b1)])) _
    refine st19 _ ?_
    show Steps p.tables e below (T19.setTop (mkF m 179 #[.val (.long vv), .second, .val (.int ln), .val (.int os), .val (.int fi), .val (.int (v_len ln)), .val (.long (v_val vv ln)), .second, .val (.int (v_off os)), .val (.int (fi.toInt8.toInt32)), .val (.ref b1), .val (.int (Fpv (v_off os) (v_len ln))), .unset, .unset, .unset, .unset, .unset, .unset, .unset, .unset, .unset, .unset, .unset, .unset, .unset, .unset, .unset, .unset, .unset, .unset, .unset, .unset, .unset] [(.int (b2i (Fun (v_off os) (v_len ln) (fi.toInt8.toInt32) (2 : Int32) (v_g vv ln os fi))))])) _
    refine XS.ifNo X19.here hx rfl (hb hby at_179) rfl ((if0 _ _).trans (feq (b2i_ne (own_unt vv ln os fi 2 (by decide) (by decide)))).1) ?_
    show Steps p.tables e below (T19.setTop (mkF m 182 #[.val (.long vv), .second, .val (.int ln), .val (.int os), .val (.int fi), .val (.int (v_len ln)), .val (.long (v_val vv ln)), .second, .val (.int (v_off os)), .val (.int (fi.toInt8.toInt32)), .val (.ref b1), .val (.int (Fpv (v_off os) (v_len ln))), .unset, .unset, .unset, .unset, .unset, .unset, .unset, .unset, .unset, .unset, .unset, .unset, .unset, .unset, .unset, .unset, .unset, .unset, .unset, .unset, .unset] [])) _
    refine XS.aload X19.here hx rfl (hb hby at_182) rfl rfl ?_
    show Steps p.tables e below (T19.setTop (mkF m 184 #[.val (.long vv), .second, .val (.int ln), .val (.int os), .val (.int fi), .val (.int (v_len ln)), .val (.long (v_val vv ln)), .second, .val (.int (v_off os)), .val (.int (fi.toInt8.toInt32)), .val (.ref b1), .val (.int (Fpv (v_off os) (v_len ln))), .unset, .unset, .unset, .unset, .unset, .unset, .unset, .unset, .unset, .unset, .unset, .unset, .unset, .unset, .unset, .unset, .unset, .unset, .unset, .unset, .unset] [(.ref b1)])) _
    refine XS.iload X19.here hx rfl (hb hby at_184) rfl ?_
    show Steps p.tables e below (T19.setTop (mkF m 186 #[.val (.long vv), .second, .val (.int ln), .val (.int os), .val (.int fi), .val (.int (v_len ln)), .val (.long (v_val vv ln)), .second, .val (.int (v_off os)), .val (.int (fi.toInt8.toInt32)), .val (.ref b1), .val (.int (Fpv (v_off os) (v_len ln))), .unset, .unset, .unset, .unset, .unset, .unset, .unset, .unset, .unset, .unset, .unset, .unset, .unset, .unset, .unset, .unset, .unset, .unset, .unset, .unset, .unset] [(.int (v_off os)), (.ref b1)])) _
    refine XS.iload X19.here hx rfl (hb hby at_186) rfl ?_
    show Steps p.tables e below (T19.setTop (mkF m 188 #[.val (.long vv), .second, .val (.int ln), .val (.int os), .val (.int fi), .val (.int (v_len ln)), .val (.long (v_val vv ln)), .second, .val (.int (v_off os)), .val (.int (fi.toInt8.toInt32)), .val (.ref b1), .val (.int (Fpv (v_off os) (v_len ln))), .unset, .unset, .unset, .unset, .unset, .unset, .unset, .unset, .unset, .unset, .unset, .unset, .unset, .unset, .unset, .unset, .unset, .unset, .unset, .unset, .unset] [(.int (v_len ln)), (.int (v_off os)), (.ref b1)])) _
    refine XS.iload X19.here hx rfl (hb hby at_188) rfl ?_
    show Steps p.tables e below (T19.setTop (mkF m 190 #[.val (.long vv), .second, .val (.int ln), .val (.int os), .val (.int fi), .val (.int (v_len ln)), .val (.long (v_val vv ln)), .second, .val (.int (v_off os)), .val (.int (fi.toInt8.toInt32)), .val (.ref b1), .val (.int (Fpv (v_off os) (v_len ln))), .unset, .unset, .unset, .unset, .unset, .unset, .unset, .unset, .unset, .unset, .unset, .unset, .unset, .unset, .unset, .unset, .unset, .unset, .unset, .unset, .unset] [(.int (fi.toInt8.toInt32)), (.int (v_len ln)), (.int (v_off os)), (.ref b1)])) _
    refine XS.iconst X19.here hx rfl (hb hby at_190) ?_
    show Steps p.tables e below (T19.setTop (mkF m 191 #[.val (.long vv), .second, .val (.int ln), .val (.int os), .val (.int fi), .val (.int (v_len ln)), .val (.long (v_val vv ln)), .second, .val (.int (v_off os)), .val (.int (fi.toInt8.toInt32)), .val (.ref b1), .val (.int (Fpv (v_off os) (v_len ln))), .unset, .unset, .unset, .unset, .unset, .unset, .unset, .unset, .unset, .unset, .unset, .unset, .unset, .unset, .unset, .unset, .unset, .unset, .unset, .unset, .unset] [(.int (3 : Int32)), (.int (fi.toInt8.toInt32)), (.int (v_len ln)), (.int (v_off os)), (.ref b1)])) _
    refine st20 _ ?_
    show Steps p.tables e below (T20.setTop (mkF m 194 #[.val (.long vv), .second, .val (.int ln), .val (.int os), .val (.int fi), .val (.int (v_len ln)), .val (.long (v_val vv ln)), .second, .val (.int (v_off os)), .val (.int (fi.toInt8.toInt32)), .val (.ref b1), .val (.int (Fpv (v_off os) (v_len ln))), .unset, .unset, .unset, .unset, .unset, .unset, .unset, .unset, .unset, .unset, .unset, .unset, .unset, .unset, .unset, .unset, .unset, .unset, .unset, .unset, .unset] [(.int (b2i (Fun (v_off os) (v_len ln) (fi.toInt8.toInt32) (3 : Int32) (v_g vv ln os fi))))])) _
    refine XS.ifNo X20.here hx rfl (hb hby at_194) rfl ((if0 _ _).trans (feq (b2i_ne (own_unt vv ln os fi 3 (by decide) (by decide)))).1) ?_
    show Steps p.tables e below (T20.setTop (mkF m 197 #[.val (.long vv), .second, .val (.int ln), .val (.int os), .val (.int fi), .val (.int (v_len ln)), .val (.long (v_val vv ln)), .second, .val (.int (v_off os)), .val (.int (fi.toInt8.toInt32)), .val (.ref b1), .val (.int (Fpv (v_off os) (v_len ln))), .unset, .unset, .unset, .unset, .unset, .unset, .unset, .unset, .unset, .unset, .unset, .unset, .unset, .unset, .unset, .unset, .unset, .unset, .unset, .unset, .unset] [])) _
    refine XS.aload X20.here hx rfl (hb hby at_197) rfl rfl ?_
    show Steps p.tables e below (T20.setTop (mkF m 199 #[.val (.long vv), .second, .val (.int ln), .val (.int os), .val (.int fi), .val (.int (v_len ln)), .val (.long (v_val vv ln)), .second, .val (.int (v_off os)), .val (.int (fi.toInt8.toInt32)), .val (.ref b1), .val (.int (Fpv (v_off os) (v_len ln))), .unset, .unset, .unset, .unset, .unset, .unset, .unset, .unset, .unset, .unset, .unset, .unset, .unset, .unset, .unset, .unset, .unset, .unset, .unset, .unset, .unset] [(.ref b1)])) _
    refine XS.iload X20.here hx rfl (hb hby at_199) rfl ?_
    show Steps p.tables e below (T20.setTop (mkF m 201 #[.val (.long vv), .second, .val (.int ln), .val (.int os), .val (.int fi), .val (.int (v_len ln)), .val (.long (v_val vv ln)), .second, .val (.int (v_off os)), .val (.int (fi.toInt8.toInt32)), .val (.ref b1), .val (.int (Fpv (v_off os) (v_len ln))), .unset, .unset, .unset, .unset, .unset, .unset, .unset, .unset, .unset, .unset, .unset, .unset, .unset, .unset, .unset, .unset, .unset, .unset, .unset, .unset, .unset] [(.int (v_off os)), (.ref b1)])) _
    refine XS.iload X20.here hx rfl (hb hby at_201) rfl ?_
    show Steps p.tables e below (T20.setTop (mkF m 203 #[.val (.long vv), .second, .val (.int ln), .val (.int os), .val (.int fi), .val (.int (v_len ln)), .val (.long (v_val vv ln)), .second, .val (.int (v_off os)), .val (.int (fi.toInt8.toInt32)), .val (.ref b1), .val (.int (Fpv (v_off os) (v_len ln))), .unset, .unset, .unset, .unset, .unset, .unset, .unset, .unset, .unset, .unset, .unset, .unset, .unset, .unset, .unset, .unset, .unset, .unset, .unset, .unset, .unset] [(.int (v_len ln)), (.int (v_off os)), (.ref b1)])) _
    refine XS.iload X20.here hx rfl (hb hby at_203) rfl ?_
    show Steps p.tables e below (T20.setTop (mkF m 205 #[.val (.long vv), .second, .val (.int ln), .val (.int os), .val (.int fi), .val (.int (v_len ln)), .val (.long (v_val vv ln)), .second, .val (.int (v_off os)), .val (.int (fi.toInt8.toInt32)), .val (.ref b1), .val (.int (Fpv (v_off os) (v_len ln))), .unset, .unset, .unset, .unset, .unset, .unset, .unset, .unset, .unset, .unset, .unset, .unset, .unset, .unset, .unset, .unset, .unset, .unset, .unset, .unset, .unset] [(.int (fi.toInt8.toInt32)), (.int (v_len ln)), (.int (v_off os)), (.ref b1)])) _
    refine XS.iconst X20.here hx rfl (hb hby at_205) ?_
    show Steps p.tables e below (T20.setTop (mkF m 206 #[.val (.long vv), .second, .val (.int ln), .val (.int os), .val (.int fi), .val (.int (v_len ln)), .val (.long (v_val vv ln)), .second, .val (.int (v_off os)), .val (.int (fi.toInt8.toInt32)), .val (.ref b1), .val (.int (Fpv (v_off os) (v_len ln))), .unset, .unset, .unset, .unset, .unset, .unset, .unset, .unset, .unset, .unset, .unset, .unset, .unset, .unset, .unset, .unset, .unset, .unset, .unset, .unset, .unset] [(.int (4 : Int32)), (.int (fi.toInt8.toInt32)), (.int (v_len ln)), (.int (v_off os)), (.ref b1)])) _
    refine st21 _ ?_
    show Steps p.tables e below (T21.setTop (mkF m 209 #[.val (.long vv), .second, .val (.int ln), .val (.int os), .val (.int fi), .val (.int (v_len ln)), .val (.long (v_val vv ln)), .second, .val (.int (v_off os)), .val (.int (fi.toInt8.toInt32)), .val (.ref b1), .val (.int (Fpv (v_off os) (v_len ln))), .unset, .unset, .unset, .unset, .unset, .unset, .unset, .unset, .unset, .unset, .unset, .unset, .unset, .unset, .unset, .unset, .unset, .unset, .unset, .unset, .unset] [(.int (b2i (Fun (v_off os) (v_len ln) (fi.toInt8.toInt32) (4 : Int32) (v_g vv ln os fi))))])) _
    refine XS.ifNo X21.here hx rfl (hb hby at_209) rfl ((if0 _ _).trans (feq (b2i_ne (own_unt vv ln os fi 4 (by decide) (by decide)))).1) ?_
    show Steps p.tables e below (T21.setTop (mkF m 212 #[.val (.long vv), .second, .val (.int ln), .val (.int os), .val (.int fi), .val (.int (v_len ln)), .val (.long (v_val vv ln)), .second, .val (.int (v_off os)), .val (.int (fi.toInt8.toInt32)), .val (.ref b1), .val (.int (Fpv (v_off os) (v_len ln))), .unset, .unset, .unset, .unset, .unset, .unset, .unset, .unset, .unset, .unset, .unset, .unset, .unset, .unset, .unset, .unset, .unset, .unset, .unset, .unset, .unset] [])) _
    refine XS.aload X21.here hx rfl (hb hby at_212) rfl rfl ?_
    show Steps p.tables e below (T21.setTop (mkF m 214 #[.val (.long vv), .second, .val (.int ln), .val (.int os), .val (.int fi), .val (.int (v_len ln)), .val (.long (v_val vv ln)), .second, .val (.int (v_off os)), .val (.int (fi.toInt8.toInt32)), .val (.ref b1), .val (.int (Fpv (v_off os) (v_len ln))), .unset, .unset, .unset, .unset, .unset, .unset, .unset, .unset, .unset, .unset, .unset, .unset, .unset, .unset, .unset, .unset, .unset, .unset, .unset, .unset, .unset] [(.ref b1)])) _
    refine XS.iload X21.here hx rfl (hb hby at_214) rfl ?_
    show Steps p.tables e below (T21.setTop (mkF m 216 #[.val (.long vv), .second, .val (.int ln), .val (.int os), .val (.int fi), .val (.int (v_len ln)), .val (.long (v_val vv ln)), .second, .val (.int (v_off os)), .val (.int (fi.toInt8.toInt32)), .val (.ref b1), .val (.int (Fpv (v_off os) (v_len ln))), .unset, .unset, .unset, .unset, .unset, .unset, .unset, .unset, .unset, .unset, .unset, .unset, .unset, .unset, .unset, .unset, .unset, .unset, .unset, .unset, .unset] [(.int (v_off os)), (.ref b1)])) _
    refine XS.iload X21.here hx rfl (hb hby at_216) rfl ?_
    show Steps p.tables e below (T21.setTop (mkF m 218 #[.val (.long vv), .second, .val (.int ln), .val (.int os), .val (.int fi), .val (.int (v_len ln)), .val (.long (v_val vv ln)), .second, .val (.int (v_off os)), .val (.int (fi.toInt8.toInt32)), .val (.ref b1), .val (.int (Fpv (v_off os) (v_len ln))), .unset, .unset, .unset, .unset, .unset, .unset, .unset, .unset, .unset, .unset, .unset, .unset, .unset, .unset, .unset, .unset, .unset, .unset, .unset, .unset, .unset] [(.int (v_len ln)), (.int (v_off os)), (.ref b1)])) _
    refine XS.iload X21.here hx rfl (hb hby at_218) rfl ?_
    show Steps p.tables e below (T21.setTop (mkF m 220 #[.val (.long vv), .second, .val (.int ln), .val (.int os), .val (.int fi), .val (.int (v_len ln)), .val (.long (v_val vv ln)), .second, .val (.int (v_off os)), .val (.int (fi.toInt8.toInt32)), .val (.ref b1), .val (.int (Fpv (v_off os) (v_len ln))), .unset, .unset, .unset, .unset, .unset, .unset, .unset, .unset, .unset, .unset, .unset, .unset, .unset, .unset, .unset, .unset, .unset, .unset, .unset, .unset, .unset] [(.int (fi.toInt8.toInt32)), (.int (v_len ln)), (.int (v_off os)), (.ref b1)])) _
    refine XS.iconst X21.here hx rfl (hb hby at_220) ?_
    show Steps p.tables e below (T21.setTop (mkF m 221 #[.val (.long vv), .second, .val (.int ln), .val (.int os), .val (.int fi), .val (.int (v_len ln)), .val (.long (v_val vv ln)), .second, .val (.int (v_off os)), .val (.int (fi.toInt8.toInt32)), .val (.ref b1), .val (.int (Fpv (v_off os) (v_len ln))), .unset, .unset, .unset, .unset, .unset, .unset, .unset, .unset, .unset, .unset, .unset, .unset, .unset, .unset, .unset, .unset, .unset, .unset, .unset, .unset, .unset] [(.int (5 : Int32)), (.int (fi.toInt8.toInt32)), (.int (v_len ln)), (.int (v_off os)), (.ref b1)])) _
    refine st22 _ ?_
    show Steps p.tables e below (T22.setTop (mkF m 224 #[.val (.long vv), .second, .val (.int ln), .val (.int os), .val (.int fi), .val (.int (v_len ln)), .val (.long (v_val vv ln)), .second, .val (.int (v_off os)), .val (.int (fi.toInt8.toInt32)), .val (.ref b1), .val (.int (Fpv (v_off os) (v_len ln))), .unset, .unset, .unset, .unset, .unset, .unset, .unset, .unset, .unset, .unset, .unset, .unset, .unset, .unset, .unset, .unset, .unset, .unset, .unset, .unset, .unset] [(.int (b2i (Fun (v_off os) (v_len ln) (fi.toInt8.toInt32) (5 : Int32) (v_g vv ln os fi))))])) _
    refine XS.ifNo X22.here hx rfl (hb hby at_224) rfl ((if0 _ _).trans (feq (b2i_ne (own_unt vv ln os fi 5 (by decide) (by decide)))).1) ?_
    show Steps p.tables e below (T22.setTop (mkF m 227 #[.val (.long vv), .second, .val (.int ln), .val (.int os), .val (.int fi), .val (.int (v_len ln)), .val (.long (v_val vv ln)), .second, .val (.int (v_off os)), .val (.int (fi.toInt8.toInt32)), .val (.ref b1), .val (.int (Fpv (v_off os) (v_len ln))), .unset, .unset, .unset, .unset, .unset, .unset, .unset, .unset, .unset, .unset, .unset, .unset, .unset, .unset, .unset, .unset, .unset, .unset, .unset, .unset, .unset] [])) _
    refine XS.aload X22.here hx rfl (hb hby at_227) rfl rfl ?_
    show Steps p.tables e below (T22.setTop (mkF m 229 #[.val (.long vv), .second, .val (.int ln), .val (.int os), .val (.int fi), .val (.int (v_len ln)), .val (.long (v_val vv ln)), .second, .val (.int (v_off os)), .val (.int (fi.toInt8.toInt32)), .val (.ref b1), .val (.int (Fpv (v_off os) (v_len ln))), .unset, .unset, .unset, .unset, .unset, .unset, .unset, .unset, .unset, .unset, .unset, .unset, .unset, .unset, .unset, .unset, .unset, .unset, .unset, .unset, .unset] [(.ref b1)])) _
    refine XS.iload X22.here hx rfl (hb hby at_229) rfl ?_
    show Steps p.tables e below (T22.setTop (mkF m 231 #[.val (.long vv), .second, .val (.int ln), .val (.int os), .val (.int fi), .val (.int (v_len ln)), .val (.long (v_val vv ln)), .second, .val (.int (v_off os)), .val (.int (fi.toInt8.toInt32)), .val (.ref b1), .val (.int (Fpv (v_off os) (v_len ln))), .unset, .unset, .unset, .unset, .unset, .unset, .unset, .unset, .unset, .unset, .unset, .unset, .unset, .unset, .unset, .unset, .unset, .unset, .unset, .unset, .unset] [(.int (v_off os)), (.ref b1)])) _
    refine XS.iload X22.here hx rfl (hb hby at_231) rfl ?_
    show Steps p.tables e below (T22.setTop (mkF m 233 #[.val (.long vv), .second, .val (.int ln), .val (.int os), .val (.int fi), .val (.int (v_len ln)), .val (.long (v_val vv ln)), .second, .val (.int (v_off os)), .val (.int (fi.toInt8.toInt32)), .val (.ref b1), .val (.int (Fpv (v_off os) (v_len ln))), .unset, .unset, .unset, .unset, .unset, .unset, .unset, .unset, .unset, .unset, .unset, .unset, .unset, .unset, .unset, .unset, .unset, .unset, .unset, .unset, .unset] [(.int (v_len ln)), (.int (v_off os)), (.ref b1)])) _
    refine XS.iload X22.here hx rfl (hb hby at_233) rfl ?_
    show Steps p.tables e below (T22.setTop (mkF m 235 #[.val (.long vv), .second, .val (.int ln), .val (.int os), .val (.int fi), .val (.int (v_len ln)), .val (.long (v_val vv ln)), .second, .val (.int (v_off os)), .val (.int (fi.toInt8.toInt32)), .val (.ref b1), .val (.int (Fpv (v_off os) (v_len ln))), .unset, .unset, .unset, .unset, .unset, .unset, .unset, .unset, .unset, .unset, .unset, .unset, .unset, .unset, .unset, .unset, .unset, .unset, .unset, .unset, .unset] [(.int (fi.toInt8.toInt32)), (.int (v_len ln)), (.int (v_off os)), (.ref b1)])) _
    refine XS.bipush X22.here hx rfl (hb hby at_235) ?_
    show Steps p.tables e below (T22.setTop (mkF m 237 #[.val (.long vv), .second, .val (.int ln), .val (.int os), .val (.int fi), .val (.int (v_len ln)), .val (.long (v_val vv ln)), .second, .val (.int (v_off os)), .val (.int (fi.toInt8.toInt32)), .val (.ref b1), .val (.int (Fpv (v_off os) (v_len ln))), .unset, .unset, .unset, .unset, .unset, .unset, .unset, .unset, .unset, .unset, .unset, .unset, .unset, .unset, .unset, .unset, .unset, .unset, .unset, .unset, .unset] [(.int (6 : Int32)), (.int (fi.toInt8.toInt32)), (.int (v_len ln)), (.int (v_off os)), (.ref b1)])) _
    refine st23 _ ?_
    show Steps p.tables e below (T23.setTop (mkF m 240 #[.val (.long vv), .second, .val (.int ln), .val (.int os), .val (.int fi), .val (.int (v_len ln)), .val (.long (v_val vv ln)), .second, .val (.int (v_off os)), .val (.int (fi.toInt8.toInt32)), .val (.ref b1), .val (.int (Fpv (v_off os) (v_len ln))), .unset, .unset, .unset, .unset, .unset, .unset, .unset, .unset, .unset, .unset, .unset, .unset, .unset, .unset, .unset, .unset, .unset, .unset, .unset, .unset, .unset] [(.int (b2i (Fun (v_off os) (v_len ln) (fi.toInt8.toInt32) (6 : Int32) (v_g vv ln os fi))))])) _
    refine XS.ifNo X23.here hx rfl (hb hby at_240) rfl ((if0 _ _).trans (feq (b2i_ne (own_unt vv ln os fi 6 (by decide) (by decide)))).1) ?_
    show Steps p.tables e below (T23.setTop (mkF m 243 #[.val (.long vv), .second, .val (.int ln), .val (.int os), .val (.int fi), .val (.int (v_len ln)), .val (.long (v_val vv ln)), .second, .val (.int (v_off os)), .val (.int (fi.toInt8.toInt32)), .val (.ref b1), .val (.int (Fpv (v_off os) (v_len ln))), .unset, .unset, .unset, .unset, .unset, .unset, .unset, .unset, .unset, .unset, .unset, .unset, .unset, .unset, .unset, .unset, .unset, .unset, .unset, .unset, .unset] [])) _
    refine XS.aload X23.here hx rfl (hb hby at_243) rfl rfl ?_
    show Steps p.tables e below (T23.setTop (mkF m 245 #[.val (.long vv), .second, .val (.int ln), .val (.int os), .val (.int fi), .val (.int (v_len ln)), .val (.long (v_val vv ln)), .second, .val (.int (v_off os)), .val (.int (fi.toInt8.toInt32)), .val (.ref b1), .val (.int (Fpv (v_off os) (v_len ln))), .unset, .unset, .unset, .unset, .unset, .unset, .unset, .unset, .unset, .unset, .unset, .unset, .unset, .unset, .unset, .unset, .unset, .unset, .unset, .unset, .unset] [(.ref b1)])) _
    refine XS.iload X23.here hx rfl (hb hby at_245) rfl ?_
    show Steps p.tables e below (T23.setTop (mkF m 247 #[.val (.long vv), .second, .val (.int ln), .val (.int os), .val (.int fi), .val (.int (v_len ln)), .val (.long (v_val vv ln)), .second, .val (.int (v_off os)), .val (.int (fi.toInt8.toInt32)), .val (.ref b1), .val (.int (Fpv (v_off os) (v_len ln))), .unset, .unset, .unset, .unset, .unset, .unset, .unset, .unset, .unset, .unset, .unset, .unset, .unset, .unset, .unset, .unset, .unset, .unset, .unset, .unset, .unset] [(.int (v_off os)), (.ref b1)])) _
    refine XS.iload X23.here hx rfl (hb hby at_247) rfl ?_
    show Steps p.tables e below (T23.setTop (mkF m 249 #[.val (.long vv), .second, .val (.int ln), .val (.int os), .val (.int fi), .val (.int (v_len ln)), .val (.long (v_val vv ln)), .second, .val (.int (v_off os)), .val (.int (fi.toInt8.toInt32)), .val (.ref b1), .val (.int (Fpv (v_off os) (v_len ln))), .unset, .unset, .unset, .unset, .unset, .unset, .unset, .unset, .unset, .unset, .unset, .unset, .unset, .unset, .unset, .unset, .unset, .unset, .unset, .unset, .unset] [(.int (v_len ln)), (.int (v_off os)), (.ref b1)])) _
    refine XS.iload X23.here hx rfl (hb hby at_249) rfl ?_
    show Steps p.tables e below (T23.setTop (mkF m 251 #[.val (.long vv), .second, .val (.int ln), .val (.int os), .val (.int fi), .val (.int (v_len ln)), .val (.long (v_val vv ln)), .second, .val (.int (v_off os)), .val (.int (fi.toInt8.toInt32)), .val (.ref b1), .val (.int (Fpv (v_off os) (v_len ln))), .unset, .unset, .unset, .unset, .unset, .unset, .unset, .unset, .unset, .unset, .unset, .unset, .unset, .unset, .unset, .unset, .unset, .unset, .unset, .unset, .unset] [(.int (fi.toInt8.toInt32)), (.int (v_len ln)), (.int (v_off os)), (.ref b1)])) _
    refine XS.bipush X23.here hx rfl (hb hby at_251) ?_
    show Steps p.tables e below (T23.setTop (mkF m 253 #[.val (.long vv), .second, .val (.int ln), .val (.int os), .val (.int fi), .val (.int (v_len ln)), .val (.long (v_val vv ln)), .second, .val (.int (v_off os)), .val (.int (fi.toInt8.toInt32)), .val (.ref b1), .val (.int (Fpv (v_off os) (v_len ln))), .unset, .unset, .unset, .unset, .unset, .unset, .unset, .unset, .unset, .unset, .unset, .unset, .unset, .unset, .unset, .unset, .unset, .unset, .unset, .unset, .unset] [(.int (7 : Int32)), (.int (fi.toInt8.toInt32)), (.int (v_len ln)), (.int (v_off os)), (.ref b1)])) _
    refine st24 _ ?_
    show Steps p.tables e below (T24.setTop (mkF m 256 #[.val (.long vv), .second, .val (.int ln), .val (.int os), .val (.int fi), .val (.int (v_len ln)), .val (.long (v_val vv ln)), .second, .val (.int (v_off os)), .val (.int (fi.toInt8.toInt32)), .val (.ref b1), .val (.int (Fpv (v_off os) (v_len ln))), .unset, .unset, .unset, .unset, .unset, .unset, .unset, .unset, .unset, .unset, .unset, .unset, .unset, .unset, .unset, .unset, .unset, .unset, .unset, .unset, .unset] [(.int (b2i (Fun (v_off os) (v_len ln) (fi.toInt8.toInt32) (7 : Int32) (v_g vv ln os fi))))])) _
    refine XS.ifNo X24.here hx rfl (hb hby at_256) rfl ((if0 _ _).trans (feq (b2i_ne (own_unt vv ln os fi 7 (by decide) (by decide)))).1) ?_
    show Steps p.tables e below (T24.setTop (mkF m 259 #[.val (.long vv), .second, .val (.int ln), .val (.int os), .val (.int fi), .val (.int (v_len ln)), .val (.long (v_val vv ln)), .second, .val (.int (v_off os)), .val (.int (fi.toInt8.toInt32)), .val (.ref b1), .val (.int (Fpv (v_off os) (v_len ln))), .unset, .unset, .unset, .unset, .unset, .unset, .unset, .unset, .unset, .unset, .unset, .unset, .unset, .unset, .unset, .unset, .unset, .unset, .unset, .unset, .unset] [])) _
    refine XS.aload X24.here hx rfl (hb hby at_259) rfl rfl ?_
    show Steps p.tables e below (T24.setTop (mkF m 261 #[.val (.long vv), .second, .val (.int ln), .val (.int os), .val (.int fi), .val (.int (v_len ln)), .val (.long (v_val vv ln)), .second, .val (.int (v_off os)), .val (.int (fi.toInt8.toInt32)), .val (.ref b1), .val (.int (Fpv (v_off os) (v_len ln))), .unset, .unset, .unset, .unset, .unset, .unset, .unset, .unset, .unset, .unset, .unset, .unset, .unset, .unset, .unset, .unset, .unset, .unset, .unset, .unset, .unset] [(.ref b1)])) _
    refine XS.iload X24.here hx rfl (hb hby at_261) rfl ?_
    show Steps p.tables e below (T24.setTop (mkF m 263 #[.val (.long vv), .second, .val (.int ln), .val (.int os), .val (.int fi), .val (.int (v_len ln)), .val (.long (v_val vv ln)), .second, .val (.int (v_off os)), .val (.int (fi.toInt8.toInt32)), .val (.ref b1), .val (.int (Fpv (v_off os) (v_len ln))), .unset, .unset, .unset, .unset, .unset, .unset, .unset, .unset, .unset, .unset, .unset, .unset, .unset, .unset, .unset, .unset, .unset, .unset, .unset, .unset, .unset] [(.int (v_off os)), (.ref b1)])) _
    refine XS.iload X24.here hx rfl (hb hby at_263) rfl ?_
    show Steps p.tables e below (T24.setTop (mkF m 265 #[.val (.long vv), .second, .val (.int ln), .val (.int os), .val (.int fi), .val (.int (v_len ln)), .val (.long (v_val vv ln)), .second, .val (.int (v_off os)), .val (.int (fi.toInt8.toInt32)), .val (.ref b1), .val (.int (Fpv (v_off os) (v_len ln))), .unset, .unset, .unset, .unset, .unset, .unset, .unset, .unset, .unset, .unset, .unset, .unset, .unset, .unset, .unset, .unset, .unset, .unset, .unset, .unset, .unset] [(.int (v_len ln)), (.int (v_off os)), (.ref b1)])) _
    refine XS.iload X24.here hx rfl (hb hby at_265) rfl ?_
    show Steps p.tables e below (T24.setTop (mkF m 267 #[.val (.long vv), .second, .val (.int ln), .val (.int os), .val (.int fi), .val (.int (v_len ln)), .val (.long (v_val vv ln)), .second, .val (.int (v_off os)), .val (.int (fi.toInt8.toInt32)), .val (.ref b1), .val (.int (Fpv (v_off os) (v_len ln))), .unset, .unset, .unset, .unset, .unset, .unset, .unset, .unset, .unset, .unset, .unset, .unset, .unset, .unset, .unset, .unset, .unset, .unset, .unset, .unset, .unset] [(.int (fi.toInt8.toInt32)), (.int (v_len ln)), (.int (v_off os)), (.ref b1)])) _
    refine XS.bipush X24.here hx rfl (hb hby at_267) ?_
    show Steps p.tables e below (T24.setTop (mkF m 269 #[.val (.long vv), .second, .val (.int ln), .val (.int os), .val (.int fi), .val (.int (v_len ln)), .val (.long (v_val vv ln)), .second, .val (.int (v_off os)), .val (.int (fi.toInt8.toInt32)), .val (.ref b1), .val (.int (Fpv (v_off os) (v_len ln))), .unset, .unset, .unset, .unset, .unset, .unset, .unset, .unset, .unset, .unset, .unset, .unset, .unset, .unset, .unset, .unset, .unset, .unset, .unset, .unset, .unset] [(.int (8 : Int32)), (.int (fi.toInt8.toInt32)), (.int (v_len ln)), (.int (v_off os)), (.ref b1)])) _
    refine st25 _ ?_
    show Steps p.tables e below (T25.setTop (mkF m 272 #[.val (.long vv), .second, .val (.int ln), .val (.int os), .val (.int fi), .val (.int (v_len ln)), .val (.long (v_val vv ln)), .second, .val (.int (v_off os)), .val (.int (fi.toInt8.toInt32)), .val (.ref b1), .val (.int (Fpv (v_off os) (v_len ln))), .unset, .unset, .unset, .unset, .unset, .unset, .unset, .unset, .unset, .unset, .unset, .unset, .unset, .unset, .unset, .unset, .unset, .unset, .unset, .unset, .unset] [(.int (b2i (Fun (v_off os) (v_len ln) (fi.toInt8.toInt32) (8 : Int32) (v_g vv ln os fi))))])) _
    refine XS.ifNo X25.here hx rfl (hb hby at_272) rfl ((if0 _ _).trans (feq (b2i_ne (own_unt vv ln os fi 8 (by decide) (by decide)))).1) ?_
    show Steps p.tables e below (T25.setTop (mkF m 275 #[.val (.long vv), .second, .val (.int ln), .val (.int os), .val (.int fi), .val (.int (v_len ln)), .val (.long (v_val vv ln)), .second, .val (.int (v_off os)), .val (.int (fi.toInt8.toInt32)), .val (.ref b1), .val (.int (Fpv (v_off os) (v_len ln))), .unset, .unset, .unset, .unset, .unset, .unset, .unset, .unset, .unset, .unset, .unset, .unset, .unset, .unset, .unset, .unset, .unset, .unset, .unset, .unset, .unset] [])) _
    refine XS.aload X25.here hx rfl (hb hby at_275) rfl rfl ?_
    show Steps p.tables e below (T25.setTop (mkF m 277 #[.val (.long vv), .second, .val (.int ln), .val (.int os), .val (.int fi), .val (.int (v_len ln)), .val (.long (v_val vv ln)), .second, .val (.int (v_off os)), .val (.int (fi.toInt8.toInt32)), .val (.ref b1), .val (.int (Fpv (v_off os) (v_len ln))), .unset, .unset, .unset, .unset, .unset, .unset, .unset, .unset, .unset, .unset, .unset, .unset, .unset, .unset, .unset, .unset, .unset, .unset, .unset, .unset, .unset] [(.ref b1)])) _
    refine XS.iload X25.here hx rfl (hb hby at_277) rfl ?_
    show Steps p.tables e below (T25.setTop (mkF m 279 #[.val (.long vv), .second, .val (.int ln), .val (.int os), .val (.int fi), .val (.int (v_len ln)), .val (.long (v_val vv ln)), .second, .val (.int (v_off os)), .val (.int (fi.toInt8.toInt32)), .val (.ref b1), .val (.int (Fpv (v_off os) (v_len ln))), .unset, .unset, .unset, .unset, .unset, .unset, .unset, .unset, .unset, .unset, .unset, .unset, .unset, .unset, .unset, .unset, .unset, .unset, .unset, .unset, .unset] [(.int (v_off os)), (.ref b1)])) _
    refine XS.iload X25.here hx rfl (hb hby at_279) rfl ?_
    show Steps p.tables e below (T25.setTop (mkF m 281 #[.val (.long vv), .second, .val (.int ln), .val (.int os), .val (.int fi), .val (.int (v_len ln)), .val (.long (v_val vv ln)), .second, .val (.int (v_off os)), .val (.int (fi.toInt8.toInt32)), .val (.ref b1), .val (.int (Fpv (v_off os) (v_len ln))), .unset, .unset, .unset, .unset, .unset, .unset, .unset, .unset, .unset, .unset, .unset, .unset, .unset, .unset, .unset, .unset, .unset, .unset, .unset, .unset, .unset] [(.int (v_len ln)), (.int (v_off os)), (.ref b1)])) _
    refine XS.iload X25.here hx rfl (hb hby at_281) rfl ?_
    show Steps p.tables e below (T25.setTop (mkF m 283 #[.val (.long vv), .second, .val (.int ln), .val (.int os), .val (.int fi), .val (.int (v_len ln)), .val (.long (v_val vv ln)), .second, .val (.int (v_off os)), .val (.int (fi.toInt8.toInt32)), .val (.ref b1), .val (.int (Fpv (v_off os) (v_len ln))), .unset, .unset, .unset, .unset, .unset, .unset, .unset, .unset, .unset, .unset, .unset, .unset, .unset, .unset, .unset, .unset, .unset, .unset, .unset, .unset, .unset] [(.int (fi.toInt8.toInt32)), (.int (v_len ln)), (.int (v_off os)), (.ref b1)])) _
    refine XS.bipush X25.here hx rfl (hb hby at_283) ?_
    show Steps p.tables e below (T25.setTop (mkF m 285 #[.val (.long vv), .second, .val (.int ln), .val (.int os), .val (.int fi), .val (.int (v_len ln)), .val (.long (v_val vv ln)), .second, .val (.int (v_off os)), .val (.int (fi.toInt8.toInt32)), .val (.ref b1), .val (.int (Fpv (v_off os) (v_len ln))), .unset, .unset, .unset, .unset, .unset, .unset, .unset, .unset, .unset, .unset, .unset, .unset, .unset, .unset, .unset, .unset, .unset, .unset, .unset, .unset, .unset] [(.int (9 : Int32)), (.int (fi.toInt8.toInt32)), (.int (v_len ln)), (.int (v_off os)), (.ref b1)])) _
    refine st26 _ ?_
    show Steps p.tables e below (T26.setTop (mkF m 288 #[.val (.long vv), .second, .val (.int ln), .val (.int os), .val (.int fi), .val (.int (v_len ln)), .val (.long (v_val vv ln)), .second, .val (.int (v_off os)), .val (.int (fi.toInt8.toInt32)), .val (.ref b1), .val (.int (Fpv (v_off os) (v_len ln))), .unset, .unset, .unset, .unset, .unset, .unset, .unset, .unset, .unset, .unset, .unset, .unset, .unset, .unset, .unset, .unset, .unset, .unset, .unset, .unset, .unset] [(.int (b2i (Fun (v_off os) (v_len ln) (fi.toInt8.toInt32) (9 : Int32) (v_g vv ln os fi))))])) _
    refine XS.ifNo X26.here hx rfl (hb hby at_288) rfl ((if0 _ _).trans (feq (b2i_ne (own_unt vv ln os fi 9 (by decide) (by decide)))).1) ?_
    show Steps p.tables e below (T26.setTop (mkF m 291 #[.val (.long vv), .second, .val (.int ln), .val (.int os), .val (.int fi), .val (.int (v_len ln)), .val (.long (v_val vv ln)), .second, .val (.int (v_off os)), .val (.int (fi.toInt8.toInt32)), .val (.ref b1), .val (.int (Fpv (v_off os) (v_len ln))), .unset, .unset, .unset, .unset, .unset, .unset, .unset, .unset, .unset, .unset, .unset, .unset, .unset, .unset, .unset, .unset, .unset, .unset, .unset, .unset, .unset] [])) _
    refine XS.aload X26.here hx rfl (hb hby at_291) rfl rfl ?_
    show Steps p.tables e below (T26.setTop (mkF m 293 #[.val (.long vv), .second, .val (.int ln), .val (.int os), .val (.int fi), .val (.int (v_len ln)), .val (.long (v_val vv ln)), .second, .val (.int (v_off os)), .val (.int (fi.toInt8.toInt32)), .val (.ref b1), .val (.int (Fpv (v_off os) (v_len ln))), .unset, .unset, .unset, .unset, .unset, .unset, .unset, .unset, .unset, .unset, .unset, .unset, .unset, .unset, .unset, .unset, .unset, .unset, .unset, .unset, .unset] [(.ref b1)])) _
    refine XS.iload X26.here hx rfl (hb hby at_293) rfl ?_
    show Steps p.tables e below (T26.setTop (mkF m 295 #[.val (.long vv), .second, .val (.int ln), .val (.int os), .val (.int fi), .val (.int (v_len ln)), .val (.long (v_val vv ln)), .second, .val (.int (v_off os)), .val (.int (fi.toInt8.toInt32)), .val (.ref b1), .val (.int (Fpv (v_off os) (v_len ln))), .unset, .unset, .unset, .unset, .unset, .unset, .unset, .unset, .unset, .unset, .unset, .unset, .unset, .unset, .unset, .unset, .unset, .unset, .unset, .unset, .unset] [(.int (v_off os)), (.ref b1)])) _
    refine XS.iload X26.here hx rfl (hb hby at_295) rfl ?_
    show Steps p.tables e below (T26.setTop (mkF m 297 #[.val (.long vv), .second, .val (.int ln), .val (.int os), .val (.int fi), .val (.int (v_len ln)), .val (.long (v_val vv ln)), .second, .val (.int (v_off os)), .val (.int (fi.toInt8.toInt32)), .val (.ref b1), .val (.int (Fpv (v_off os) (v_len ln))), .unset, .unset, .unset, .unset, .unset, .unset, .unset, .unset, .unset, .unset, .unset, .unset, .unset, .unset, .unset, .unset, .unset, .unset, .unset, .unset, .unset] [(.int (v_len ln)), (.int (v_off os)), (.ref b1)])) _
    refine XS.iload X26.here hx rfl (hb hby at_297) rfl ?_
    show Steps p.tables e below (T26.setTop (mkF m 299 #[.val (.long vv), .second, .val (.int ln), .val (.int os), .val (.int fi), .val (.int (v_len ln)), .val (.long (v_val vv ln)), .second, .val (.int (v_off os)), .val (.int (fi.toInt8.toInt32)), .val (.ref b1), .val (.int (Fpv (v_off os) (v_len ln))), .unset, .unset, .unset, .unset, .unset, .unset, .unset, .unset, .unset, .unset, .unset, .unset, .unset, .unset, .unset, .unset, .unset, .unset, .unset, .unset, .unset] [(.int (fi.toInt8.toInt32)), (.int (v_len ln)), (.int (v_off os)), (.ref b1)])) _
    refine XS.bipush X26.here hx rfl (hb hby at_299) ?_
    show Steps p.tables e below (T26.setTop (mkF m 301 #[.val (.long vv), .second, .val (.int ln), .val (.int os), .val (.int fi), .val (.int (v_len ln)), .val (.long (v_val vv ln)), .second, .val (.int (v_off os)), .val (.int (fi.toInt8.toInt32)), .val (.ref b1), .val (.int (Fpv (v_off os) (v_len ln))), .unset, .unset, .unset, .unset, .unset, .unset, .unset, .unset, .unset, .unset, .unset, .unset, .unset, .unset, .unset, .unset, .unset, .unset, .unset, .unset, .unset] [(.int (10 : Int32)), (.int (fi.toInt8.toInt32)), (.int (v_len ln)), (.int (v_off os)), (.ref b1)])) _
    refine st27 _ ?_
    show Steps p.tables e below (T27.setTop (mkF m 304 #[.val (.long vv), .second, .val (.int ln), .val (.int os), .val (.int fi), .val (.int (v_len ln)), .val (.long (v_val vv ln)), .second, .val (.int (v_off os)), .val (.int (fi.toInt8.toInt32)), .val (.ref b1), .val (.int (Fpv (v_off os) (v_len ln))), .unset, .unset, .unset, .unset, .unset, .unset, .unset, .unset, .unset, .unset, .unset, .unset, .unset, .unset, .unset, .unset, .unset, .unset, .unset, .unset, .unset] [(.int (b2i (Fun (v_off os) (v_len ln) (fi.toInt8.toInt32) (10 : Int32) (v_g vv ln os fi))))])) _
    refine XS.ifNo X27.here hx rfl (hb hby at_304) rfl ((if0 _ _).trans (feq (b2i_ne (own_unt vv ln os fi 10 (by decide) (by decide)))).1) ?_
    show Steps p.tables e below (T27.setTop (mkF m 307 #[.val (.long vv), .second, .val (.int ln), .val (.int os), .val (.int fi), .val (.int (v_len ln)), .val (.long (v_val vv ln)), .second, .val (.int (v_off os)), .val (.int (fi.toInt8.toInt32)), .val (.ref b1), .val (.int (Fpv (v_off os) (v_len ln))), .unset, .unset, .unset, .unset, .unset, .unset, .unset, .unset, .unset, .unset, .unset, .unset, .unset, .unset, .unset, .unset, .unset, .unset, .unset, .unset, .unset] [])) _
    refine XS.aload X27.here hx rfl (hb hby at_307) rfl rfl ?_
    show Steps p.tables e below (T27.setTop (mkF m 309 #[.val (.long vv), .second, .val (.int ln), .val (.int os), .val (.int fi), .val (.int (v_len ln)), .val (.long (v_val vv ln)), .second, .val (.int (v_off os)), .val (.int (fi.toInt8.toInt32)), .val (.ref b1), .val (.int (Fpv (v_off os) (v_len ln))), .unset, .unset, .unset, .unset, .unset, .unset, .unset, .unset, .unset, .unset, .unset, .unset, .unset, .unset, .unset, .unset, .unset, .unset, .unset, .unset, .unset] [(.ref b1)])) _
    refine XS.iload X27.here hx rfl (hb hby at_309) rfl ?_
    show Steps p.tables e below (T27.setTop (mkF m 311 #[.val (.long vv), .second, .val (.int ln), .val (.int os), .val (.int fi), .val (.int (v_len ln)), .val (.long (v_val vv ln)), .second, .val (.int (v_off os)), .val (.int (fi.toInt8.toInt32)), .val (.ref b1), .val (.int (Fpv (v_off os) (v_len ln))), .unset, .unset, .unset, .unset, .unset, .unset, .unset, .unset, .unset, .unset, .unset, .unset, .unset, .unset, .unset, .unset, .unset, .unset, .unset, .unset, .unset] [(.int (v_off os)), (.ref b1)])) _
    refine XS.iload X27.here hx rfl (hb hby at_311) rfl ?_
    show Steps p.tables e below (T27.setTop (mkF m 313 #[.val (.long vv), .second, .val (.int ln), .val (.int os), .val (.int fi), .val (.int (v_len ln)), .val (.long (v_val vv ln)), .second, .val (.int (v_off os)), .val (.int (fi.toInt8.toInt32)), .val (.ref b1), .val (.int (Fpv (v_off os) (v_len ln))), .unset, .unset, .unset, .unset, .unset, .unset, .unset, .unset, .unset, .unset, .unset, .unset, .unset, .unset, .unset, .unset, .unset, .unset, .unset, .unset, .unset] [(.int (v_len ln)), (.int (v_off os)), (.ref b1)])) _
    refine XS.iload X27.here hx rfl (hb hby at_313) rfl ?_
    show Steps p.tables e below (T27.setTop (mkF m 315 #[.val (.long vv), .second, .val (.int ln), .val (.int os), .val (.int fi), .val (.int (v_len ln)), .val (.long (v_val vv ln)), .second, .val (.int (v_off os)), .val (.int (fi.toInt8.toInt32)), .val (.ref b1), .val (.int (Fpv (v_off os) (v_len ln))), .unset, .unset, .unset, .unset, .unset, .unset, .unset, .unset, .unset, .unset, .unset, .unset, .unset, .unset, .unset, .unset, .unset, .unset, .unset, .unset, .unset] [(.int (fi.toInt8.toInt32)), (.int (v_len ln)), (.int (v_off os)), (.ref b1)])) _
    refine XS.bipush X27.here hx rfl (hb hby at_315) ?_
    show Steps p.tables e below (T27.setTop (mkF m 317 #[.val (.long vv), .second, .val (.int ln), .val (.int os), .val (.int fi), .val (.int (v_len ln)), .val (.long (v_val vv ln)), .second, .val (.int (v_off os)), .val (.int (fi.toInt8.toInt32)), .val (.ref b1), .val (.int (Fpv (v_off os) (v_len ln))), .unset, .unset, .unset, .unset, .unset, .unset, .unset, .unset, .unset, .unset, .unset, .unset, .unset, .unset, .unset, .unset, .unset, .unset, .unset, .unset, .unset] [(.int (11 : Int32)), (.int (fi.toInt8.toInt32)), (.int (v_len ln)), (.int (v_off os)), (.ref b1)])) _
    refine st28 _ ?_
    show Steps p.tables e below (T28.setTop (mkF m 320 #[.val (.long vv), .second, .val (.int ln), .val (.int os), .val (.int fi), .val (.int (v_len ln)), .val (.long (v_val vv ln)), .second, .val (.int (v_off os)), .val (.int (fi.toInt8.toInt32)), .val (.ref b1), .val (.int (Fpv (v_off os) (v_len ln))), .unset, .unset, .unset, .unset, .unset, .unset, .unset, .unset, .unset, .unset, .unset, .unset, .unset, .unset, .unset, .unset, .unset, .unset, .unset, .unset, .unset] [(.int (b2i (Fun (v_off os) (v_len ln) (fi.toInt8.toInt32) (11 : Int32) (v_g vv ln os fi))))])) _
    refine XS.ifNo X28.here hx rfl (hb hby at_320) rfl ((if0 _ _).trans (feq (b2i_ne (own_unt vv ln os fi 11 (by decide) (by decide)))).1) ?_
    show Steps p.tables e below (T28.setTop (mkF m 323 #[.val (.long vv), .second, .val (.int ln), .val (.int os), .val (.int fi), .val (.int (v_len ln)), .val (.long (v_val vv ln)), .second, .val (.int (v_off os)), .val (.int (fi.toInt8.toInt32)), .val (.ref b1), .val (.int (Fpv (v_off os) (v_len ln))), .unset, .unset, .unset, .unset, .unset, .unset, .unset, .unset, .unset, .unset, .unset, .unset, .unset, .unset, .unset, .unset, .unset, .unset, .unset, .unset, .unset] [])) _
    refine XS.aload X28.here hx rfl (hb hby at_323) rfl rfl ?_
    show Steps p.tables e below (T28.setTop (mkF m 325 #[.val (.long vv), .second, .val (.int ln), .val (.int os), .val (.int fi), .val (.int (v_len ln)), .val (.long (v_val vv ln)), .second, .val (.int (v_off os)), .val (.int (fi.toInt8.toInt32)), .val (.ref b1), .val (.int (Fpv (v_off os) (v_len ln))), .unset, .unset, .unset, .unset, .unset, .unset, .unset, .unset, .unset, .unset, .unset, .unset, .unset, .unset, .unset, .unset, .unset, .unset, .unset, .unset, .unset] [(.ref b1)])) _
    refine XS.iload X28.here hx rfl (hb hby at_325) rfl ?_
    show Steps p.tables e below (T28.setTop (mkF m 327 #[.val (.long vv), .second, .val (.int ln), .val (.int os), .val (.int fi), .val (.int (v_len ln)), .val (.long (v_val vv ln)), .second, .val (.int (v_off os)), .val (.int (fi.toInt8.toInt32)), .val (.ref b1), .val (.int (Fpv (v_off os) (v_len ln))), .unset, .unset, .unset, .unset, .unset, .unset, .unset, .unset, .unset, .unset, .unset, .unset, .unset, .unset, .unset, .unset, .unset, .unset, .unset, .unset, .unset] [(.int (v_off os)), (.ref b1)])) _
    refine XS.iload X28.here hx rfl (hb hby at_327) rfl ?_
    show Steps p.tables e below (T28.setTop (mkF m 329 #[.val (.long vv), .second, .val (.int ln), .val (.int os), .val (.int fi), .val (.int (v_len ln)), .val (.long (v_val vv ln)), .second, .val (.int (v_off os)), .val (.int (fi.toInt8.toInt32)), .val (.ref b1), .val (.int (Fpv (v_off os) (v_len ln))), .unset, .unset, .unset, .unset, .unset, .unset, .unset, .unset, .unset, .unset, .unset, .unset, .unset, .unset, .unset, .unset, .unset, .unset, .unset, .unset, .unset] [(.int (v_len ln)), (.int (v_off os)), (.ref b1)])) _
    refine XS.iload X28.here hx rfl (hb hby at_329) rfl ?_
    show Steps p.tables e below (T28.setTop (mkF m 331 #[.val (.long vv), .second, .val (.int ln), .val (.int os), .val (.int fi), .val (.int (v_len ln)), .val (.long (v_val vv ln)), .second, .val (.int (v_off os)), .val (.int (fi.toInt8.toInt32)), .val (.ref b1), .val (.int (Fpv (v_off os) (v_len ln))), .unset, .unset, .unset, .unset, .unset, .unset, .unset, .unset, .unset, .unset, .unset, .unset, .unset, .unset, .unset, .unset, .unset, .unset, .unset, .unset, .unset] [(.int (fi.toInt8.toInt32)), (.int (v_len ln)), (.int (v_off os)), (.ref b1)])) _
    refine XS.bipush X28.here hx rfl (hb hby at_331) ?_
    show Steps p.tables e below (T28.setTop (mkF m 333 #[.val (.long vv), .second, .val (.int ln), .val (.int os), .val (.int fi), .val (.int (v_len ln)), .val (.long (v_val vv ln)), .second, .val (.int (v_off os)), .val (.int (fi.toInt8.toInt32)), .val (.ref b1), .val (.int (Fpv (v_off os) (v_len ln))), .unset, .unset, .unset, .unset, .unset, .unset, .unset, .unset, .unset, .unset, .unset, .unset, .unset, .unset, .unset, .unset, .unset, .unset, .unset, .unset, .unset] [(.int (12 : Int32)), (.int (fi.toInt8.toInt32)), (.int (v_len ln)), (.int (v_off os)), (.ref b1)])) _
    refine st29 _ ?_
    show Steps p.tables e below (T29.setTop (mkF m 336 #[.val (.long vv), .second, .val (.int ln), .val (.int os), .val (.int fi), .val (.int (v_len ln)), .val (.long (v_val vv ln)), .second, .val (.int (v_off os)), .val (.int (fi.toInt8.toInt32)), .val (.ref b1), .val (.int (Fpv (v_off os) (v_len ln))), .unset, .unset, .unset, .unset, .unset, .unset, .unset, .unset, .unset, .unset, .unset, .unset, .unset, .unset, .unset, .unset, .unset, .unset, .unset, .unset, .unset] [(.int (b2i (Fun (v_off os) (v_len ln) (fi.toInt8.toInt32) (12 : Int32) (v_g vv ln os fi))))])) _
    refine XS.ifNo X29.here hx rfl (hb hby at_336) rfl ((if0 _ _).trans (feq (b2i_ne (own_unt vv ln os fi 12 (by decide) (by decide)))).1) ?_
    show Steps p.tables e below (T29.setTop (mkF m 339 #[.val (.long vv), .second, .val (.int ln), .val (.int os), .val (.int fi), .val (.int (v_len ln)), .val (.long (v_val vv ln)), .second, .val (.int (v_off os)), .val (.int (fi.toInt8.toInt32)), .val (.ref b1), .val (.int (Fpv (v_off os) (v_len ln))), .unset, .unset, .unset, .unset, .unset, .unset, .unset, .unset, .unset, .unset, .unset, .unset, .unset, .unset, .unset, .unset, .unset, .unset, .unset, .unset, .unset] [])) _
    refine XS.iconst X29.here hx rfl (hb hby at_339) ?_
    show Steps p.tables e below (T29.setTop (mkF m 340 #[.val (.long vv), .second, .val (.int ln), .val (.int os), .val (.int fi), .val (.int (v_len ln)), .val (.long (v_val vv ln)), .second, .val (.int (v_off os)), .val (.int (fi.toInt8.toInt32)), .val (.ref b1), .val (.int (Fpv (v_off os) (v_len ln))), .unset, .unset, .unset, .unset, .unset, .unset, .unset, .unset, .unset, .unset, .unset, .unset, .unset, .unset, .unset, .unset, .unset, .unset, .unset, .unset, .unset] [(.int (1 : Int32))])) _
    refine XS.goto X29.here hx rfl (pc0 := 340) (pc' := 344) rfl (hb hby at_340) (by decide) (by decide) ?_
    show Steps p.tables e below (T29.setTop (mkF m 344 #[.val (.long vv), .second, .val (.int ln), .val (.int os), .val (.int fi), .val (.int (v_len ln)), .val (.long (v_val vv ln)), .second, .val (.int (v_off os)), .val (.int (fi.toInt8.toInt32)), .val (.ref b1), .val (.int (Fpv (v_off os) (v_len ln))), .unset, .unset, .unset, .unset, .unset, .unset, .unset, .unset, .unset, .unset, .unset, .unset, .unset, .unset, .unset, .unset, .unset, .unset, .unset, .unset, .unset] [(.int (1 : Int32))])) _
    refine XS.istore X29.here hx rfl (hb hby at_344) rfl (l' := #[.val (.long vv), .second, .val (.int ln), .val (.int os), .val (.int fi), .val (.int (v_len ln)), .val (.long (v_val vv ln)), .second, .val (.int (v_off os)), .val (.int (fi.toInt8.toInt32)), .val (.ref b1), .val (.int (Fpv (v_off os) (v_len ln))), .val (.int (1 : Int32)), .unset, .unset, .unset, .unset, .unset, .unset, .unset, .unset, .unset, .unset, .unset, .unset, .unset, .unset, .unset, .unset, .unset, .unset, .unset, .unset]) rfl ?_
    show Steps p.tables e below (T29.setTop (mkF m 346 #[.val (.long vv), .second, .val (.int ln), .val (.int os), .val (.int fi), .val (.int (v_len ln)), .val (.long (v_val vv ln)), .second, .val (.int (v_off os)), .val (.int (fi.toInt8.toInt32)), .val (.ref b1), .val (.int (Fpv (v_off os) (v_len ln))), .val (.int (1 : Int32)), .unset, .unset, .unset, .unset, .unset, .unset, .unset, .unset, .unset, .unset, .unset, .unset, .unset, .unset, .unset, .unset, .unset, .unset, .unset, .unset] [])) _
    refine XS.iload X29.here hx rfl (hb hby at_346) rfl ?_
    show Steps p.tables e below (T29.setTop (mkF m 348 #[.val (.long vv), .second, .val (.int ln), .val (.int os), .val (.int fi), .val (.int (v_len ln)), .val (.long (v_val vv ln)), .second, .val (.int (v_off os)), .val (.int (fi.toInt8.toInt32)), .val (.ref b1), .val (.int (Fpv (v_off os) (v_len ln))), .val (.int (1 : Int32)), .unset, .unset, .unset, .unset, .unset, .unset, .unset, .unset, .unset, .unset, .unset, .unset, .unset, .unset, .unset, .unset, .unset, .unset, .unset, .unset] [(.int (1 : Int32))])) _
    refine XS.ifYes X29.here hx rfl (pc0 := 348) (pc' := 353) rfl (hb hby at_348) rfl ((if0 _ _).trans (feq (by decide)).2) (by decide) (by decide) ?_
    show Steps p.tables e below (T29.setTop (mkF m 353 #[.val (.long vv), .second, .val (.int ln), .val (.int os), .val (.int fi), .val (.int (v_len ln)), .val (.long (v_val vv ln)), .second, .val (.int (v_off os)), .val (.int (fi.toInt8.toInt32)), .val (.ref b1), .val (.int (Fpv (v_off os) (v_len ln))), .val (.int (1 : Int32)), .unset, .unset, .unset, .unset, .unset, .unset, .unset, .unset, .unset, .unset, .unset, .unset, .unset, .unset, .unset, .unset, .unset, .unset, .unset, .unset] [])) _
    refine XS.aload X29.here hx rfl (hb hby at_353) rfl rfl ?_
    show Steps p.tables e below (T29.setTop (mkF m 355 #[.val (.long vv), .second, .val (.int ln), .val (.int os), .val (.int fi), .val (.int (v_len ln)), .val (.long (v_val vv ln)), .second, .val (.int (v_off os)), .val (.int (fi.toInt8.toInt32)), .val (.ref b1), .val (.int (Fpv (v_off os) (v_len ln))), .val (.int (1 : Int32)), .unset, .unset, .unset, .unset, .unset, .unset, .unset, .unset, .unset, .unset, .unset, .unset, .unset, .unset, .unset, .unset, .unset, .unset, .unset, .unset] [(.ref b1)])) _
    refine XS.iload X29.here hx rfl (hb hby at_355) rfl ?_
    show Steps p.tables e below (T29.setTop (mkF m 357 #[.val (.long vv), .second, .val (.int ln), .val (.int os), .val (.int fi), .val (.int (v_len ln)), .val (.long (v_val vv ln)), .second, .val (.int (v_off os)), .val (.int (fi.toInt8.toInt32)), .val (.ref b1), .val (.int (Fpv (v_off os) (v_len ln))), .val (.int (1 : Int32)), .unset, .unset, .unset, .unset, .unset, .unset, .unset, .unset, .unset, .unset, .unset, .unset, .unset, .unset, .unset, .unset, .unset, .unset, .unset, .unset] [(.int (v_off os)), (.ref b1)])) _
    refine XS.iload X29.here hx rfl (hb hby at_357) rfl ?_
    show Steps p.tables e below (T29.setTop (mkF m 359 #[.val (.long vv), .second, .val (.int ln), .val (.int os), .val (.int fi), .val (.int (v_len ln)), .val (.long (v_val vv ln)), .second, .val (.int (v_off os)), .val (.int (fi.toInt8.toInt32)), .val (.ref b1), .val (.int (Fpv (v_off os) (v_len ln))), .val (.int (1 : Int32)), .unset, .unset, .unset, .unset, .unset, .unset, .unset, .unset, .unset, .unset, .unset, .unset, .unset, .unset, .unset, .unset, .unset, .unset, .unset, .unset] [(.int (v_len ln)), (.int (v_off os)), (.ref b1)])) _
    refine XS.iconst X29.here hx rfl (hb hby at_359) ?_
    show Steps p.tables e below (T29.setTop (mkF m 360 #[.val (.long vv), .second, .val (.int ln), .val (.int os), .val (.int fi), .val (.int (v_len ln)), .val (.long (v_val vv ln)), .second, .val (.int (v_off os)), .val (.int (fi.toInt8.toInt32)), .val (.ref b1), .val (.int (Fpv (v_off os) (v_len ln))), .val (.int (1 : Int32)), .unset, .unset, .unset, .unset, .unset, .unset, .unset, .unset, .unset, .unset, .unset, .unset, .unset, .unset, .unset, .unset, .unset, .unset, .unset, .unset] [(.int (0 : Int32)), (.int (v_len ln)), (.int (v_off os)), (.ref b1)])) _
    refine st30 _ ?_
    show Steps p.tables e below (T30.setTop (mkF m 363 #[.val (.long vv), .second, .val (.int ln), .val (.int os), .val (.int fi), .val (.int (v_len ln)), .val (.long (v_val vv ln)), .second, .val (.int (v_off os)), .val (.int (fi.toInt8.toInt32)), .val (.ref b1), .val (.int (Fpv (v_off os) (v_len ln))), .val (.int (1 : Int32)), .unset, .unset, .unset, .unset, .unset, .unset, .unset, .unset, .unset, .unset, .unset, .unset, .unset, .unset, .unset, .unset, .unset, .unset, .unset, .unset] [(.long (Fpart (v_off os) (v_len ln) (0 : Int32) (v_g vv ln os fi)))])) _
    refine XS.lstore X30.here hx rfl (hb hby at_363) rfl (l' := #[.val (.long vv), .second, .val (.int ln), .val (.int os), .val (.int fi), .val (.int (v_len ln)), .val (.long (v_val vv ln)), .second, .val (.int (v_off os)), .val (.int (fi.toInt8.toInt32)), .val (.ref b1), .val (.int (Fpv (v_off os) (v_len ln))), .val (.int (1 : Int32)), .val (.long (v_p0 vv ln os fi)), .second, .unset, .unset, .unset, .unset, .unset, .unset, .unset, .unset, .unset, .unset, .unset, .unset, .unset, .unset, .unset, .unset, .unset, .unset]) rfl ?_
    show Steps p.tables e below (T30.setTop (mkF m 365 #[.val (.long vv), .second, .val (.int ln), .val (.int os), .val (.int fi), .val (.int (v_len ln)), .val (.long (v_val vv ln)), .second, .val (.int (v_off os)), .val (.int (fi.toInt8.toInt32)), .val (.ref b1), .val (.int (Fpv (v_off os) (v_len ln))), .val (.int (1 : Int32)), .val (.long (v_p0 vv ln os fi)), .second, .unset, .unset, .unset, .unset, .unset, .unset, .unset, .unset, .unset, .unset, .unset, .unset, .unset, .unset, .unset, .unset, .unset, .unset] [])) _
    refine XS.aload X30.here hx rfl (hb hby at_365) rfl rfl ?_
    show Steps p.tables e below (T30.setTop (mkF m 367 #[.val (.long vv), .second, .val (.int ln), .val (.int os), .val (.int fi), .val (.int (v_len ln)), .val (.long (v_val vv ln)), .second, .val (.int (v_off os)), .val (.int (fi.toInt8.toInt32)), .val (.ref b1), .val (.int (Fpv (v_off os) (v_len ln))), .val (.int (1 : Int32)), .val (.long (v_p0 vv ln os fi)), .second, .unset, .unset, .unset, .unset, .unset, .unset, .unset, .unset, .unset, .unset, .unset, .unset, .unset, .unset, .unset, .unset, .unset, .unset] [(.ref b1)])) _
    refine XS.iload X30.here hx rfl (hb hby at_367) rfl ?_
    show Steps p.tables e below (T30.setTop (mkF m 369 #[.val (.long vv), .second, .val (.int ln), .val (.int os), .val (.int fi), .val (.int (v_len ln)), .val (.long (v_val vv ln)), .second, .val (.int (v_off os)), .val (.int (fi.toInt8.toInt32)), .val (.ref b1), .val (.int (Fpv (v_off os) (v_len ln))), .val (.int (1 : Int32)), .val (.long (v_p0 vv ln os fi)), .second, .unset, .unset, .unset, .unset, .unset, .unset, .unset, .unset, .unset, .unset, .unset, .unset, .unset, .unset, .unset, .unset, .unset, .unset] [(.int (v_off os)), (.ref b1)])) _
    refine XS.iload X30.here hx rfl (hb hby at_369) rfl ?_
    show Steps p.tables e below (T30.setTop (mkF m 371 #[.val (.long vv), .second, .val (.int ln), .val (.int os), .val (.int fi), .val (.int (v_len ln)), .val (.long (v_val vv ln)), .second, .val (.int (v_off os)), .val (.int (fi.toInt8.toInt32)), .val (.ref b1), .val (.int (Fpv (v_off os) (v_len ln))), .val (.int (1 : Int32)), .val (.long (v_p0 vv ln os fi)), .second, .unset, .unset, .unset, .unset, .unset, .unset, .unset, .unset, .unset, .unset, .unset, .unset, .unset, .unset, .unset, .unset, .unset, .unset] [(.int (v_len ln)), (.int (v_off os)), (.ref b1)])) _
    refine XS.iconst X30.here hx rfl (hb hby at_371) ?_
    show Steps p.tables e below (T30.setTop (mkF m 372 #[.val (.long vv), .second, .val (.int ln), .val (.int os), .val (.int fi), .val (.int (v_len ln)), .val (.long (v_val vv ln)), .second, .val (.int (v_off os)), .val (.int (fi.toInt8.toInt32)), .val (.ref b1), .val (.int (Fpv (v_off os) (v_len ln))), .val (.int (1 : Int32)), .val (.long (v_p0 vv ln os fi)), .second, .unset, .unset, .unset, .unset, .unset, .unset, .unset, .unset, .unset, .unset, .unset, .unset, .unset, .unset, .unset, .unset, .unset, .unset] [(.int (1 : Int32)), (.int (v_len ln)), (.int (v_off os)), (.ref b1)])) _
    refine st31 _ ?_
    show Steps p.tables e below (T31.setTop (mkF m 375 #[.val (.long vv), .second, .val (.int ln), .val (.int os), .val (.int fi), .val (.int (v_len ln)), .val (.long (v_val vv ln)), .second, .val (.int (v_off os)), .val (.int (fi.toInt8.toInt32)), .val (.ref b1), .val (.int (Fpv (v_off os) (v_len ln))), .val (.int (1 : Int32)), .val (.long (v_p0 vv ln os fi)), .second, .unset, .unset, .unset, .unset, .unset, .unset, .unset, .unset, .unset, .unset, .unset, .unset, .unset, .unset, .unset, .unset, .unset, .unset] [(.long (Fpart (v_off os) (v_len ln) (1 : Int32) (v_g vv ln os fi)))])) _
    refine XS.lstore X31.here hx rfl (hb hby at_375) rfl (l' := #[.val (.long vv), .second, .val (.int ln), .val (.int os), .val (.int fi), .val (.int (v_len ln)), .val (.long (v_val vv ln)), .second, .val (.int (v_off os)), .val (.int (fi.toInt8.toInt32)), .val (.ref b1), .val (.int (Fpv (v_off os) (v_len ln))), .val (.int (1 : Int32)), .val (.long (v_p0 vv ln os fi)), .second, .val (.long (v_p1 vv ln os fi)), .second, .unset, .unset, .unset, .unset, .unset, .unset, .unset, .unset, .unset, .unset, .unset, .unset, .unset, .unset, .unset, .unset]) rfl ?_
    show Steps p.tables e below (T31.setTop (mkF m 377 #[.val (.long vv), .second, .val (.int ln), .val (.int os), .val (.int fi), .val (.int (v_len ln)), .val (.long (v_val vv ln)), .second, .val (.int (v_off os)), .val (.int (fi.toInt8.toInt32)), .val (.ref b1), .val (.int (Fpv (v_off os) (v_len ln))), .val (.int (1 : Int32)), .val (.long (v_p0 vv ln os fi)), .second, .val (.long (v_p1 vv ln os fi)), .second, .unset, .unset, .unset, .unset, .unset, .unset, .unset, .unset, .unset, .unset, .unset, .unset, .unset, .unset, .unset, .unset] [])) _
    refine XS.aload X31.here hx rfl (hb hby at_377) rfl rfl ?_
    show Steps p.tables e below (T31.setTop (mkF m 379 #[.val (.long vv), .second, .val (.int ln), .val (.int os), .val (.int fi), .val (.int (v_len ln)), .val (.long (v_val vv ln)), .second, .val (.int (v_off os)), .val (.int (fi.toInt8.toInt32)), .val (.ref b1), .val (.int (Fpv (v_off os) (v_len ln))), .val (.int (1 : Int32)), .val (.long (v_p0 vv ln os fi)), .second, .val (.long (v_p1 vv ln os fi)), .second, .unset, .unset, .unset, .unset, .unset, .unset, .unset, .unset, .unset, .unset, .unset, .unset, .unset, .unset, .unset, .unset] [(.ref b1)])) _
    refine XS.iload X31.here hx rfl (hb hby at_379) rfl ?_
    show Steps p.tables e below (T31.setTop (mkF m 381 #[.val (.long vv), .second, .val (.int ln), .val (.int os), .val (.int fi), .val (.int (v_len ln)), .val (.long (v_val vv ln)), .second, .val (.int (v_off os)), .val (.int (fi.toInt8.toInt32)), .val (.ref b1), .val (.int (Fpv (v_off os) (v_len ln))), .val (.int (1 : Int32)), .val (.long (v_p0 vv ln os fi)), .second, .val (.long (v_p1 vv ln os fi)), .second, .unset, .unset, .unset, .unset, .unset, .unset, .unset, .unset, .unset, .unset, .unset, .unset, .unset, .unset, .unset, .unset] [(.int (v_off os)), (.ref b1)])) _
    refine XS.iload X31.here hx rfl (hb hby at_381) rfl ?_
    show Steps p.tables e below (T31.setTop (mkF m 383 #[.val (.long vv), .second, .val (.int ln), .val (.int os), .val (.int fi), .val (.int (v_len ln)), .val (.long (v_val vv ln)), .second, .val (.int (v_off os)), .val (.int (fi.toInt8.toInt32)), .val (.ref b1), .val (.int (Fpv (v_off os) (v_len ln))), .val (.int (1 : Int32)), .val (.long (v_p0 vv ln os fi)), .second, .val (.long (v_p1 vv ln os fi)), .second, .unset, .unset, .unset, .unset, .unset, .unset, .unset, .unset, .unset, .unset, .unset, .unset, .unset, .unset, .unset, .unset] [(.int (v_len ln)), (.int (v_off os)), (.ref b1)])) _
    refine XS.iconst X31.here hx rfl (hb hby at_383) ?_
    show Steps p.tables e below (T31.setTop (mkF m 384 #[.val (.long vv), .second, .val (.int ln), .val (.int os), .val (.int fi), .val (.int (v_len ln)), .val (.long (v_val vv ln)), .second, .val (.int (v_off os)), .val (.int (fi.toInt8.toInt32)), .val (.ref b1), .val (.int (Fpv (v_off os) (v_len ln))), .val (.int (1 : Int32)), .val (.long (v_p0 vv ln os fi)), .second, .val (.long (v_p1 vv ln os fi)), .second, .unset, .unset, .unset, .unset, .unset, .unset, .unset, .unset, .unset, .unset, .unset, .unset, .unset, .unset, .unset, .unset] [(.int (2 : Int32)), (.int (v_len ln)), (.int (v_off os)), (.ref b1)])) _
    refine st32 _ ?_
    show Steps p.tables e below (T32.setTop (mkF m 387 #[.val (.long vv), .second, .val (.int ln), .val (.int os), .val (.int fi), .val (.int (v_len ln)), .val (.long (v_val vv ln)), .second, .val (.int (v_off os)), .val (.int (fi.toInt8.toInt32)), .val (.ref b1), .val (.int (Fpv (v_off os) (v_len ln))), .val (.int (1 : Int32)), .val (.long (v_p0 vv ln os fi)), .second, .val (.long (v_p1 vv ln os fi)), .second, .unset, .unset, .unset, .unset, .unset, .unset, .unset, .unset, .unset, .unset, .unset, .unset, .unset, .unset, .unset, .unset] [(.long (Fpart (v_off os) (v_len ln) (2 : Int32) (v_g vv ln os fi)))])) _
    refine XS.lstore X32.here hx rfl (hb hby at_387) rfl (l' := #[.val (.long vv), .second, .val (.int ln), .val (.int os), .val (.int fi), .val (.int (v_len ln)), .val (.long (v_val vv ln)), .second, .val (.int (v_off os)), .val (.int (fi.toInt8.toInt32)), .val (.ref b1), .val (.int (Fpv (v_off os) (v_len ln))), .val (.int (1 : Int32)), .val (.long (v_p0 vv ln os fi)), .second, .val (.long (v_p1 vv ln os fi)), .second, .val (.long (v_p2 vv ln os fi)), .second, .unset, .unset, .unset, .unset, .unset, .unset, .unset, .unset, .unset, .unset, .unset, .unset, .unset, .unset]) rfl ?_
    show Steps p.tables e below (T32.setTop (mkF m 389 #[.val (.long vv), .second, .val (.int ln), .val (.int os), .val (.int fi), .val (.int (v_len ln)), .val (.long (v_val vv ln)), .second, .val (.int (v_off os)), .val (.int (fi.toInt8.toInt32)), .val (.ref b1), .val (.int (Fpv (v_off os) (v_len ln))), .val (.int (1 : Int32)), .val (.long (v_p0 vv ln os fi)), .second, .val (.long (v_p1 vv ln os fi)), .second, .val (.long (v_p2 vv ln os fi)), .second, .unset, .unset, .unset, .unset, .unset, .unset, .unset, .unset, .unset, .unset, .unset, .unset, .unset, .unset] [])) _
    refine XS.aload X32.here hx rfl (hb hby at_389) rfl rfl ?_
    show Steps p.tables e below (T32.setTop (mkF m 391 #[.val (.long vv), .second, .val (.int ln), .val (.int os), .val (.int fi), .val (.int (v_len ln)), .val (.long (v_val vv ln)), .second, .val (.int (v_off os)), .val (.int (fi.toInt8.toInt32)), .val (.ref b1), .val (.int (Fpv (v_off os) (v_len ln))), .val (.int (1 : Int32)), .val (.long (v_p0 vv ln os fi)), .second, .val (.long (v_p1 vv ln os fi)), .second, .val (.long (v_p2 vv ln os fi)), .second, .unset, .unset, .unset, .unset, .unset, .unset, .unset, .unset, .unset, .unset, .unset, .unset, .unset, .unset] [(.ref b1)])) _
    refine XS.iload X32.here hx rfl (hb hby at_391) rfl ?_
    show Steps p.tables e below (T32.setTop (mkF m 393 #[.val (.long vv), .second, .val (.int ln), .val (.int os), .val (.int fi), .val (.int (v_len ln)), .val (.long (v_val vv ln)), .second, .val (.int (v_off os)), .val (.int (fi.toInt8.toInt32)), .val (.ref b1), .val (.int (Fpv (v_off os) (v_len ln))), .val (.int (1 : Int32)), .val (.long (v_p0 vv ln os fi)), .second, .val (.long (v_p1 vv ln os fi)), .second, .val (.long (v_p2 vv ln os fi)), .second, .unset, .unset, .unset, .unset, .unset, .unset, .unset, .unset, .unset, .unset, .unset, .unset, .unset, .unset] [(.int (v_off os)), (.ref b1)])) _
    refine XS.iload X32.here hx rfl (hb hby at_393) rfl ?_
    show Steps p.tables e below (T32.setTop (mkF m 395 #[.val (.long vv), .second, .val (.int ln), .val (.int os), .val (.int fi), .val (.int (v_len ln)), .val (.long (v_val vv ln)), .second, .val (.int (v_off os)), .val (.int (fi.toInt8.toInt32)), .val (.ref b1), .val (.int (Fpv (v_off os) (v_len ln))), .val (.int (1 : Int32)), .val (.long (v_p0 vv ln os fi)), .second, .val (.long (v_p1 vv ln os fi)), .second, .val (.long (v_p2 vv ln os fi)), .second, .unset, .unset, .unset, .unset, .unset, .unset, .unset, .unset, .unset, .unset, .unset, .unset, .unset, .unset] [(.int (v_len ln)), (.int (v_off os)), (.ref b1)])) _
    refine XS.iconst X32.here hx rfl (hb hby at_395) ?_
    show Steps p.tables e below (T32.setTop (mkF m 396 #[.val (.long vv), .second, .val (.int ln), .val (.int os), .val (.int fi), .val (.int (v_len ln)), .val (.long (v_val vv ln)), .second, .val (.int (v_off os)), .val (.int (fi.toInt8.toInt32)), .val (.ref b1), .val (.int (Fpv (v_off os) (v_len ln))), .val (.int (1 : Int32)), .val (.long (v_p0 vv ln os fi)), .second, .val (.long (v_p1 vv ln os fi)), .second, .val (.long (v_p2 vv ln os fi)), .second, .unset, .unset, .unset, .unset, .unset, .unset, .unset, .unset, .unset, .unset, .unset, .unset, .unset, .unset] [(.int (3 : Int32)), (.int (v_len ln)), (.int (v_off os)), (.ref b1)])) _
    refine st33 _ ?_
    show Steps p.tables e below (T33.setTop (mkF m 399 #[.val (.long vv), .second, .val (.int ln), .val (.int os), .val (.int fi), .val (.int (v_len ln)), .val (.long (v_val vv ln)), .second, .val (.int (v_off os)), .val (.int (fi.toInt8.toInt32)), .val (.ref b1), .val (.int (Fpv (v_off os) (v_len ln))), .val (.int (1 : Int32)), .val (.long (v_p0 vv ln os fi)), .second, .val (.long (v_p1 vv ln os fi)), .second, .val (.long (v_p2 vv ln os fi)), .second, .unset, .unset, .unset, .unset, .unset, .unset, .unset, .unset, .unset, .unset, .unset, .unset, .unset, .unset] [(.long (Fpart (v_off os) (v_len ln) (3 : Int32) (v_g vv ln os fi)))])) _
    refine XS.lstore X33.here hx rfl (hb hby at_399) rfl (l' := #[.val (.long vv), .second, .val (.int ln), .val (.int os), .val (.int fi), .val (.int (v_len ln)), .val (.long (v_val vv ln)), .second, .val (.int (v_off os)), .val (.int (fi.toInt8.toInt32)), .val (.ref b1), .val (.int (Fpv (v_off os) (v_len ln))), .val (.int (1 : Int32)), .val (.long (v_p0 vv ln os fi)), .second, .val (.long (v_p1 vv ln os fi)), .second, .val (.long (v_p2 vv ln os fi)), .second, .val (.long (v_p3 vv ln os fi)), .second, .unset, .unset, .unset, .unset, .unset, .unset, .unset, .unset, .unset, .unset, .unset, .unset]) rfl ?_
    show Steps p.tables e below (T33.setTop (mkF m 401 #[.val (.long vv), .second, .val (.int ln), .val (.int os), .val (.int fi), .val (.int (v_len ln)), .val (.long (v_val vv ln)), .second, .val (.int (v_off os)), .val (.int (fi.toInt8.toInt32)), .val (.ref b1), .val (.int (Fpv (v_off os) (v_len ln))), .val (.int (1 : Int32)), .val (.long (v_p0 vv ln os fi)), .second, .val (.long (v_p1 vv ln os fi)), .second, .val (.long (v_p2 vv ln os fi)), .second, .val (.long (v_p3 vv ln os fi)), .second, .unset, .unset, .unset, .unset, .unset, .unset, .unset, .unset, .unset, .unset, .unset, .unset] [])) _
    refine XS.aload X33.here hx rfl (hb hby at_401) rfl rfl ?_
    show Steps p.tables e below (T33.setTop (mkF m 403 #[.val (.long vv), .second, .val (.int ln), .val (.int os), .val (.int fi), .val (.int (v_len ln)), .val (.long (v_val vv ln)), .second, .val (.int (v_off os)), .val (.int (fi.toInt8.toInt32)), .val (.ref b1), .val (.int (Fpv (v_off os) (v_len ln))), .val (.int (1 : Int32)), .val (.long (v_p0 vv ln os fi)), .second, .val (.long (v_p1 vv ln os fi)), .second, .val (.long (v_p2 vv ln os fi)), .second, .val (.long (v_p3 vv ln os fi)), .second, .unset, .unset, .unset, .unset, .unset, .unset, .unset, .unset, .unset, .unset, .unset, .unset] [(.ref b1)])) _
    refine XS.iload X33.here hx rfl (hb hby at_403) rfl ?_
    show Steps p.tables e below (T33.setTop (mkF m 405 #[.val (.long vv), .second, .val (.int ln), .val (.int os), .val (.int fi), .val (.int (v_len ln)), .val (.long (v_val vv ln)), .second, .val (.int (v_off os)), .val (.int (fi.toInt8.toInt32)), .val (.ref b1), .val (.int (Fpv (v_off os) (v_len ln))), .val (.int (1 : Int32)), .val (.long (v_p0 vv ln os fi)), .second, .val (.long (v_p1 vv ln os fi)), .second, .val (.long (v_p2 vv ln os fi)), .second, .val (.long (v_p3 vv ln os fi)), .second, .unset, .unset, .unset, .unset, .unset, .unset, .unset, .unset, .unset, .unset, .unset, .unset] [(.int (v_off os)), (.ref b1)])) _
    refine XS.iload X33.here hx rfl (hb hby at_405) rfl ?_
    show Steps p.tables e below (T33.setTop (mkF m 407 #[.val (.long vv), .second, .val (.int ln), .val (.int os), .val (.int fi), .val (.int (v_len ln)), .val (.long (v_val vv ln)), .second, .val (.int (v_off os)), .val (.int (fi.toInt8.toInt32)), .val (.ref b1), .val (.int (Fpv (v_off os) (v_len ln))), .val (.int (1 : Int32)), .val (.long (v_p0 vv ln os fi)), .second, .val (.long (v_p1 vv ln os fi)), .second, .val (.long (v_p2 vv ln os fi)), .second, .val (.long (v_p3 vv ln os fi)), .second, .unset, .unset, .unset, .unset, .unset, .unset, .unset, .unset, .unset, .unset, .unset, .unset] [(.int (v_len ln)), (.int (v_off os)), (.ref b1)])) _
    refine XS.iconst X33.here hx rfl (hb hby at_407) ?_
    show Steps p.tables e below (T33.setTop (mkF m 408 #[.val (.long vv), .second, .val (.int ln), .val (.int os), .val (.int fi), .val (.int (v_len ln)), .val (.long (v_val vv ln)), .second, .val (.int (v_off os)), .val (.int (fi.toInt8.toInt32)), .val (.ref b1), .val (.int (Fpv (v_off os) (v_len ln))), .val (.int (1 : Int32)), .val (.long (v_p0 vv ln os fi)), .second, .val (.long (v_p1 vv ln os fi)), .second, .val (.long (v_p2 vv ln os fi)), .second, .val (.long (v_p3 vv ln os fi)), .second, .unset, .unset, .unset, .unset, .unset, .unset, .unset, .unset, .unset, .unset, .unset, .unset] [(.int (4 : Int32)), (.int (v_len ln)), (.int (v_off os)), (.ref b1)])) _
    refine st34 _ ?_
    show Steps p.tables e below (T34.setTop (mkF m 411 #[.val (.long vv), .second, .val (.int ln), .val (.int os), .val (.int fi), .val (.int (v_len ln)), .val (.long (v_val vv ln)), .second, .val (.int (v_off os)), .val (.int (fi.toInt8.toInt32)), .val (.ref b1), .val (.int (Fpv (v_off os) (v_len ln))), .val (.int (1 : Int32)), .val (.long (v_p0 vv ln os fi)), .second, .val (.long (v_p1 vv ln os fi)), .second, .val (.long (v_p2 vv ln os fi)), .second, .val (.long (v_p3 vv ln os fi)), .second, .unset, .unset, .unset, .unset, .unset, .unset, .unset, .unset, .unset, .unset, .unset, .unset] [(.long (Fpart (v_off os) (v_len ln) (4 : Int32) (v_g vv ln os fi)))])) _
    refine XS.lstore X34.here hx rfl (hb hby at_411) rfl (l' := #[.val (.long vv), .second, .val (.int ln), .val (.int os), .val (.int fi), .val (.int (v_len ln)), .val (.long (v_val vv ln)), .second, .val (.int (v_off os)), .val (.int (fi.toInt8.toInt32)), .val (.ref b1), .val (.int (Fpv (v_off os) (v_len ln))), .val (.int (1 : Int32)), .val (.long (v_p0 vv ln os fi)), .second, .val (.long (v_p1 vv ln os fi)), .second, .val (.long (v_p2 vv ln os fi)), .second, .val (.long (v_p3 vv ln os fi)), .second, .val (.long (v_p4 vv ln os fi)), .second, .unset, .unset, .unset, .unset, .unset, .unset, .unset, .unset, .unset, .unset]) rfl ?_
    show Steps p.tables e below (T34.setTop (mkF m 413 #[.val (.long vv), .second, .val (.int ln), .val (.int os), .val (.int fi), .val (.int (v_len ln)), .val (.long (v_val vv ln)), .second, .val (.int (v_off os)), .val (.int (fi.toInt8.toInt32)), .val (.ref b1), .val (.int (Fpv (v_off os) (v_len ln))), .val (.int (1 : Int32)), .val (.long (v_p0 vv ln os fi)), .second, .val (.long (v_p1 vv ln os fi)), .second, .val (.long (v_p2 vv ln os fi)), .second, .val (.long (v_p3 vv ln os fi)), .second, .val (.long (v_p4 vv ln os fi)), .second, .unset, .unset, .unset, .unset, .unset, .unset, .unset, .unset, .unset, .unset] [])) _
    refine XS.aload X34.here hx rfl (hb hby at_413) rfl rfl ?_
    show Steps p.tables e below (T34.setTop (mkF m 415 #[.val (.long vv), .second, .val (.int ln), .val (.int os), .val (.int fi), .val (.int (v_len ln)), .val (.long (v_val vv ln)), .second, .val (.int (v_off os)), .val (.int (fi.toInt8.toInt32)), .val (.ref b1), .val (.int (Fpv (v_off os) (v_len ln))), .val (.int (1 : Int32)), .val (.long (v_p0 vv ln os fi)), .second, .val (.long (v_p1 vv ln os fi)), .second, .val (.long (v_p2 vv ln os fi)), .second, .val (.long (v_p3 vv ln os fi)), .second, .val (.long (v_p4 vv ln os fi)), .second, .unset, .unset, .unset, .unset, .unset, .unset, .unset, .unset, .unset, .unset] [(.ref b1)])) _
    refine XS.iload X34.here hx rfl (hb hby at_415) rfl ?_
    show Steps p.tables e below (T34.setTop (mkF m 417 #[.val (.long vv), .second, .val (.int ln), .val (.int os), .val (.int fi), .val (.int (v_len ln)), .val (.long (v_val vv ln)), .second, .val (.int (v_off os)), .val (.int (fi.toInt8.toInt32)), .val (.ref b1), .val (.int (Fpv (v_off os) (v_len ln))), .val (.int (1 : Int32)), .val (.long (v_p0 vv ln os fi)), .second, .val (.long (v_p1 vv ln os fi)), .second, .val (.long (v_p2 vv ln os fi)), .second, .val (.long (v_p3 vv ln os fi)), .second, .val (.long (v_p4 vv ln os fi)), .second, .unset, .unset, .unset, .unset, .unset, .unset, .unset, .unset, .unset, .unset] [(.int (v_off os)), (.ref b1)])) _
    refine XS.iload X34.here hx rfl (hb hby at_417) rfl ?_
    show Steps p.tables e below (T34.setTop (mkF m 419 #[.val (.long vv), .second, .val (.int ln), .val (.int os), .val (.int fi), .val (.int (v_len ln)), .val (.long (v_val vv ln)), .second, .val (.int (v_off os)), .val (.int (fi.toInt8.toInt32)), .val (.ref b1), .val (.int (Fpv (v_off os) (v_len ln))), .val (.int (1 : Int32)), .val (.long (v_p0 vv ln os fi)), .second, .val (.long (v_p1 vv ln os fi)), .second, .val (.long (v_p2 vv ln os fi)), .second, .val (.long (v_p3 vv ln os fi)), .second, .val (.long (v_p4 vv ln os fi)), .second, .unset, .unset, .unset, .unset, .unset, .unset, .unset, .unset, .unset, .unset] [(.int (v_len ln)), (.int (v_off os)), (.ref b1)])) _
    refine XS.iconst X34.here hx rfl (hb hby at_419) ?_
    show Steps p.tables e below (T34.setTop (mkF m 420 #[.val (.long vv), .second, .val (.int ln), .val (.int os), .val (.int fi), .val (.int (v_len ln)), .val (.long (v_val vv ln)), .second, .val (.int (v_off os)), .val (.int (fi.toInt8.toInt32)), .val (.ref b1), .val (.int (Fpv (v_off os) (v_len ln))), .val (.int (1 : Int32)), .val (.long (v_p0 vv ln os fi)), .second, .val (.long (v_p1 vv ln os fi)), .second, .val (.long (v_p2 vv ln os fi)), .second, .val (.long (v_p3 vv ln os fi)), .second, .val (.long (v_p4 vv ln os fi)), .second, .unset, .unset, .unset, .unset, .unset, .unset, .unset, .unset, .unset, .unset] [(.int (5 : Int32)), (.int (v_len ln)), (.int (v_off os)), (.ref b1)])) _
    refine st35 _ ?_
    show Steps p.tables e below (T35.setTop (mkF m 423 #[.val (.long vv), .second, .val (.int ln), .val (.int os), .val (.int fi), .val (.int (v_len ln)), .val (.long (v_val vv ln)), .second, .val (.int (v_off os)), .val (.int (fi.toInt8.toInt32)), .val (.ref b1), .val (.int (Fpv (v_off os) (v_len ln))), .val (.int (1 : Int32)), .val (.long (v_p0 vv ln os fi)), .second, .val (.long (v_p1 vv ln os fi)), .second, .val (.long (v_p2 vv ln os fi)), .second, .val (.long (v_p3 vv ln os fi)), .second, .val (.long (v_p4 vv ln os fi)), .second, .unset, .unset, .unset, .unset, .unset, .unset, .unset, .unset, .unset, .unset] [(.long (Fpart (v_off os) (v_len ln) (5 : Int32) (v_g vv ln os fi)))])) _
    refine XS.lstore X35.here hx rfl (hb hby at_423) rfl (l' := #[.val (.long vv), .second, .val (.int ln), .val (.int os), .val (.int fi), .val (.int (v_len ln)), .val (.long (v_val vv ln)), .second, .val (.int (v_off os)), .val (.int (fi.toInt8.toInt32)), .val (.ref b1), .val (.int (Fpv (v_off os) (v_len ln))), .val (.int (1 : Int32)), .val (.long (v_p0 vv ln os fi)), .second, .val (.long (v_p1 vv ln os fi)), .second, .val (.long (v_p2 vv ln os fi)), .second, .val (.long (v_p3 vv ln os fi)), .second, .val (.long (v_p4 vv ln os fi)), .second, .val (.long (v_p5 vv ln os fi)), .second, .unset, .unset, .unset, .unset, .unset, .unset, .unset, .unset]) rfl ?_
    show Steps p.tables e below (T35.setTop (mkF m 425 #[.val (.long vv), .second, .val (.int ln), .val (.int os), .val (.int fi), .val (.int (v_len ln)), .val (.long (v_val vv ln)), .second, .val (.int (v_off os)), .val (.int (fi.toInt8.toInt32)), .val (.ref b1), .val (.int (Fpv (v_off os) (v_len ln))), .val (.int (1 : Int32)), .val (.long (v_p0 vv ln os fi)), .second, .val (.long (v_p1 vv ln os fi)), .second, .val (.long (v_p2 vv ln os fi)), .second, .val (.long (v_p3 vv ln os fi)), .second, .val (.long (v_p4 vv ln os fi)), .second, .val (.long (v_p5 vv ln os fi)), .second, .unset, .unset, .unset, .unset, .unset, .unset, .unset, .unset] [])) _
    refine XS.aload X35.here hx rfl (hb hby at_425) rfl rfl ?_
    show Steps p.tables e below (T35.setTop (mkF m 427 #[.val (.long vv), .second, .val (.int ln), .val (.int os), .val (.int fi), .val (.int (v_len ln)), .val (.long (v_val vv ln)), .second, .val (.int (v_off os)), .val (.int (fi.toInt8.toInt32)), .val (.ref b1), .val (.int (Fpv (v_off os) (v_len ln))), .val (.int (1 : Int32)), .val (.long (v_p0 vv ln os fi)), .second, .val (.long (v_p1 vv ln os fi)), .second, .val (.long (v_p2 vv ln os fi)), .second, .val (.long (v_p3 vv ln os fi)), .second, .val (.long (v_p4 vv ln os fi)), .second, .val (.long (v_p5 vv ln os fi)), .second, .unset, .unset, .unset, .unset, .unset, .unset, .unset, .unset] [(.ref b1)])) _
    refine XS.iload X35.here hx rfl (hb hby at_427) rfl ?_
    show Steps p.tables e below (T35.setTop (mkF m 429 #[.val (.long vv), .second, .val (.int ln), .val (.int os), .val (.int fi), .val (.int (v_len ln)), .val (.long (v_val vv ln)), .second, .val (.int (v_off os)), .val (.int (fi.toInt8.toInt32)), .val (.ref b1), .val (.int (Fpv (v_off os) (v_len ln))), .val (.int (1 : Int32)), .val (.long (v_p0 vv ln os fi)), .second, .val (.long (v_p1 vv ln os fi)), .second, .val (.long (v_p2 vv ln os fi)), .second, .val (.long (v_p3 vv ln os fi)), .second, .val (.long (v_p4 vv ln os fi)), .second, .val (.long (v_p5 vv ln os fi)), .second, .unset, .unset, .unset, .unset, .unset, .unset, .unset, .unset] [(.int (v_off os)), (.ref b1)])) _
    refine XS.iload X35.here hx rfl (hb hby at_429) rfl ?_
    show Steps p.tables e below (T35.setTop (mkF m 431 #[.val (.long vv), .second, .val (.int ln), .val (.int os), .val (.int fi), .val (.int (v_len ln)), .val (.long (v_val vv ln)), .second, .val (.int (v_off os)), .val (.int (fi.toInt8.toInt32)), .val (.ref b1), .val (.int (Fpv (v_off os) (v_len ln))), .val (.int (1 : Int32)), .val (.long (v_p0 vv ln os fi)), .second, .val (.long (v_p1 vv ln os fi)), .second, .val (.long (v_p2 vv ln os fi)), .second, .val (.long (v_p3 vv ln os fi)), .second, .val (.long (v_p4 vv ln os fi)), .second, .val (.long (v_p5 vv ln os fi)), .second, .unset, .unset, .unset, .unset, .unset, .unset, .unset, .unset] [(.int (v_len ln)), (.int (v_off os)), (.ref b1)])) _
    refine XS.bipush X35.here hx rfl (hb hby at_431) ?_
    show Steps p.tables e below (T35.setTop (mkF m 433 #[.val (.long vv), .second, .val (.int ln), .val (.int os), .val (.int fi), .val (.int (v_len ln)), .val (.long (v_val vv ln)), .second, .val (.int (v_off os)), .val (.int (fi.toInt8.toInt32)), .val (.ref b1), .val (.int (Fpv (v_off os) (v_len ln))), .val (.int (1 : Int32)), .val (.long (v_p0 vv ln os fi)), .second, .val (.long (v_p1 vv ln os fi)), .second, .val (.long (v_p2 vv ln os fi)), .second, .val (.long (v_p3 vv ln os fi)), .second, .val (.long (v_p4 vv ln os fi)), .second, .val (.long (v_p5 vv ln os fi)), .second, .unset, .unset, .unset, .unset, .unset, .unset, .unset, .unset] [(.int (6 : Int32)), (.int (v_len ln)), (.int (v_off os)), (.ref b1)])) _
    refine st36 _ ?_
    show Steps p.tables e below (T36.setTop (mkF m 436 #[.val (.long vv), .second, .val (.int ln), .val (.int os), .val (.int fi), .val (.int (v_len ln)), .val (.long (v_val vv ln)), .second, .val (.int (v_off os)), .val (.int (fi.toInt8.toInt32)), .val (.ref b1), .val (.int (Fpv (v_off os) (v_len ln))), .val (.int (1 : Int32)), .val (.long (v_p0 vv ln os fi)), .second, .val (.long (v_p1 vv ln os fi)), .second, .val (.long (v_p2 vv ln os fi)), .second, .val (.long (v_p3 vv ln os fi)), .second, .val (.long (v_p4 vv ln os fi)), .second, .val (.long (v_p5 vv ln os fi)), .second, .unset, .unset, .unset, .unset, .unset, .unset, .unset, .unset] [(.long (Fpart (v_off os) (v_len ln) (6 : Int32) (v_g vv ln os fi)))])) _
    refine XS.lstore X36.here hx rfl (hb hby at_436) rfl (l' := #[.val (.long vv), .second, .val (.int ln), .val (.int os), .val (.int fi), .val (.int (v_len ln)), .val (.long (v_val vv ln)), .second, .val (.int (v_off os)), .val (.int (fi.toInt8.toInt32)), .val (.ref b1), .val (.int (Fpv (v_off os) (v_len ln))), .val (.int (1 : Int32)), .val (.long (v_p0 vv ln os fi)), .second, .val (.long (v_p1 vv ln os fi)), .second, .val (.long (v_p2 vv ln os fi)), .second, .val (.long (v_p3 vv ln os fi)), .second, .val (.long (v_p4 vv ln os fi)), .second, .val (.long (v_p5 vv ln os fi)), .second, .val (.long (v_p6 vv ln os fi)), .second, .unset, .unset, .unset, .unset, .unset, .unset]) rfl ?_
    show Steps p.tables e below (T36.setTop (mkF m 438 #[.val (.long vv), .second, .val (.int ln), .val (.int os), .val (.int fi), .val (.int (v_len ln)), .val (.long (v_val vv ln)), .second, .val (.int (v_off os)), .val (.int (fi.toInt8.toInt32)), .val (.ref b1), .val (.int (Fpv (v_off os) (v_len ln))), .val (.int (1 : Int32)), .val (.long (v_p0 vv ln os fi)), .second, .val (.long (v_p1 vv ln os fi)), .second, .val (.long (v_p2 vv ln os fi)), .second, .val (.long (v_p3 vv ln os fi)), .second, .val (.long (v_p4 vv ln os fi)), .second, .val (.long (v_p5 vv ln os fi)), .second, .val (.long (v_p6 vv ln os fi)), .second, .unset, .unset, .unset, .unset, .unset, .unset] [])) _
    refine XS.aload X36.here hx rfl (hb hby at_438) rfl rfl ?_
    show Steps p.tables e below (T36.setTop (mkF m 440 #[.val (.long vv), .second, .val (.int ln), .val (.int os), .val (.int fi), .val (.int (v_len ln)), .val (.long (v_val vv ln)), .second, .val (.int (v_off os)), .val (.int (fi.toInt8.toInt32)), .val (.ref b1), .val (.int (Fpv (v_off os) (v_len ln))), .val (.int (1 : Int32)), .val (.long (v_p0 vv ln os fi)), .second, .val (.long (v_p1 vv ln os fi)), .second, .val (.long (v_p2 vv ln os fi)), .second, .val (.long (v_p3 vv ln os fi)), .second, .val (.long (v_p4 vv ln os fi)), .second, .val (.long (v_p5 vv ln os fi)), .second, .val (.long (v_p6 vv ln os fi)), .second, .unset, .unset, .unset, .unset, .unset, .unset] [(.ref b1)])) _
    refine XS.iload X36.here hx rfl (hb hby at_440) rfl ?_
    show Steps p.tables e below (T36.setTop (mkF m 442 #[.val (.long vv), .second, .val (.int ln), .val (.int os), .val (.int fi), .val (.int (v_len ln)), .val (.long (v_val vv ln)), .second, .val (.int (v_off os)), .val (.int (fi.toInt8.toInt32)), .val (.ref b1), .val (.int (Fpv (v_off os) (v_len ln))), .val (.int (1 : Int32)), .val (.long (v_p0 vv ln os fi)), .second, .val (.long (v_p1 vv ln os fi)), .second, .val (.long (v_p2 vv ln os fi)), .second, .val (.long (v_p3 vv ln os fi)), .second, .val (.long (v_p4 vv ln os fi)), .second, .val (.long (v_p5 vv ln os fi)), .second, .val (.long (v_p6 vv ln os fi)), .second, .unset, .unset, .unset, .unset, .unset, .unset] [(.int (v_off os)), (.ref b1)])) _
    refine XS.iload X36.here hx rfl (hb hby at_442) rfl ?_
    show Steps p.tables e below (T36.setTop (mkF m 444 #[.val (.long vv), .second, .val (.int ln), .val (.int os), .val (.int fi), .val (.int (v_len ln)), .val (.long (v_val vv ln)), .second, .val (.int (v_off os)), .val (.int (fi.toInt8.toInt32)), .val (.ref b1), .val (.int (Fpv (v_off os) (v_len ln))), .val (.int (1 : Int32)), .val (.long (v_p0 vv ln os fi)), .second, .val (.long (v_p1 vv ln os fi)), .second, .val (.long (v_p2 vv ln os fi)), .second, .val (.long (v_p3 vv ln os fi)), .second, .val (.long (v_p4 vv ln os fi)), .second, .val (.long (v_p5 vv ln os fi)), .second, .val (.long (v_p6 vv ln os fi)), .second, .unset, .unset, .unset, .unset, .unset, .unset] [(.int (v_len ln)), (.int (v_off os)), (.ref b1)])) _
    refine XS.bipush X36.here hx rfl (hb hby at_444) ?_
    show Steps p.tables e below (T36.setTop (mkF m 446 #[.val (.long vv), .second, .val (.int ln), .val (.int os), .val (.int fi), .val (.int (v_len ln)), .val (.long (v_val vv ln)), .second, .val (.int (v_off os)), .val (.int (fi.toInt8.toInt32)), .val (.ref b1), .val (.int (Fpv (v_off os) (v_len ln))), .val (.int (1 : Int32)), .val (.long (v_p0 vv ln os fi)), .second, .val (.long (v_p1 vv ln os fi)), .second, .val (.long (v_p2 vv ln os fi)), .second, .val (.long (v_p3 vv ln os fi)), .second, .val (.long (v_p4 vv ln os fi)), .second, .val (.long (v_p5 vv ln os fi)), .second, .val (.long (v_p6 vv ln os fi)), .second, .unset, .unset, .unset, .unset, .unset, .unset] [(.int (7 : Int32)), (.int (v_len ln)), (.int (v_off os)), (.ref b1)])) _
    refine st37 _ ?_
    show Steps p.tables e below (T37.setTop (mkF m 449 #[.val (.long vv), .second, .val (.int ln), .val (.int os), .val (.int fi), .val (.int (v_len ln)), .val (.long (v_val vv ln)), .second, .val (.int (v_off os)), .val (.int (fi.toInt8.toInt32)), .val (.ref b1), .val (.int (Fpv (v_off os) (v_len ln))), .val (.int (1 : Int32)), .val (.long (v_p0 vv ln os fi)), .second, .val (.long (v_p1 vv ln os fi)), .second, .val (.long (v_p2 vv ln os fi)), .second, .val (.long (v_p3 vv ln os fi)), .second, .val (.long (v_p4 vv ln os fi)), .second, .val (.long (v_p5 vv ln os fi)), .second, .val (.long (v_p6 vv ln os fi)), .second, .unset, .unset, .unset, .unset, .unset, .unset] [(.long (Fpart (v_off os) (v_len ln) (7 : Int32) (v_g vv ln os fi)))])) _
    refine XS.lstore X37.here hx rfl (hb hby at_449) rfl (l' := #[.val (.long vv), .second, .val (.int ln), .val (.int os), .val (.int fi), .val (.int (v_len ln)), .val (.long (v_val vv ln)), .second, .val (.int (v_off os)), .val (.int (fi.toInt8.toInt32)), .val (.ref b1), .val (.int (Fpv (v_off os) (v_len ln))), .val (.int (1 : Int32)), .val (.long (v_p0 vv ln os fi)), .second, .val (.long (v_p1 vv ln os fi)), .second, .val (.long (v_p2 vv ln os fi)), .second, .val (.long (v_p3 vv ln os fi)), .second, .val (.long (v_p4 vv ln os fi)), .second, .val (.long (v_p5 vv ln os fi)), .second, .val (.long (v_p6 vv ln os fi)), .second, .val (.long (v_p7 vv ln os fi)), .second, .unset, .unset, .unset, .unset]) rfl ?_
    show Steps p.tables e below (T37.setTop (mkF m 451 #[.val (.long vv), .second, .val (.int ln), .val (.int os), .val (.int fi), .val (.int (v_len ln)), .val (.long (v_val vv ln)), .second, .val (.int (v_off os)), .val (.int (fi.toInt8.toInt32)), .val (.ref b1), .val (.int (Fpv (v_off os) (v_len ln))), .val (.int (1 : Int32)), .val (.long (v_p0 vv ln os fi)), .second, .val (.long (v_p1 vv ln os fi)), .second, .val (.long (v_p2 vv ln os fi)), .second, .val (.long (v_p3 vv ln os fi)), .second, .val (.long (v_p4 vv ln os fi)), .second, .val (.long (v_p5 vv ln os fi)), .second, .val (.long (v_p6 vv ln os fi)), .second, .val (.long (v_p7 vv ln os fi)), .second, .unset, .unset, .unset, .unset] [])) _
    refine XS.aload X37.here hx rfl (hb hby at_451) rfl rfl ?_
    show Steps p.tables e below (T37.setTop (mkF m 453 #[.val (.long vv), .second, .val (.int ln), .val (.int os), .val (.int fi), .val (.int (v_len ln)), .val (.long (v_val vv ln)), .second, .val (.int (v_off os)), .val (.int (fi.toInt8.toInt32)), .val (.ref b1), .val (.int (Fpv (v_off os) (v_len ln))), .val (.int (1 : Int32)), .val (.long (v_p0 vv ln os fi)), .second, .val (.long (v_p1 vv ln os fi)), .second, .val (.long (v_p2 vv ln os fi)), .second, .val (.long (v_p3 vv ln os fi)), .second, .val (.long (v_p4 vv ln os fi)), .second, .val (.long (v_p5 vv ln os fi)), .second, .val (.long (v_p6 vv ln os fi)), .second, .val (.long (v_p7 vv ln os fi)), .second, .unset, .unset, .unset, .unset] [(.ref b1)])) _
    refine XS.iload X37.here hx rfl (hb hby at_453) rfl ?_
    show Steps p.tables e below (T37.setTop (mkF m 455 #[.val (.long vv), .second, .val (.int ln), .val (.int os), .val (.int fi), .val (.int (v_len ln)), .val (.long (v_val vv ln)), .second, .val (.int (v_off os)), .val (.int (fi.toInt8.toInt32)), .val (.ref b1), .val (.int (Fpv (v_off os) (v_len ln))), .val (.int (1 : Int32)), .val (.long (v_p0 vv ln os fi)), .second, .val (.long (v_p1 vv ln os fi)), .second, .val (.long (v_p2 vv ln os fi)), .second, .val (.long (v_p3 vv ln os fi)), .second, .val (.long (v_p4 vv ln os fi)), .second, .val (.long (v_p5 vv ln os fi)), .second, .val (.long (v_p6 vv ln os fi)), .second, .val (.long (v_p7 vv ln os fi)), .second, .unset, .unset, .unset, .unset] [(.int (v_off os)), (.ref b1)])) _
    refine XS.iload X37.here hx rfl (hb hby at_455) rfl ?_
    show Steps p.tables e below (T37.setTop (mkF m 457 #[.val (.long vv), .second, .val (.int ln), .val (.int os), .val (.int fi), .val (.int (v_len ln)), .val (.long (v_val vv ln)), .second, .val (.int (v_off os)), .val (.int (fi.toInt8.toInt32)), .val (.ref b1), .val (.int (Fpv (v_off os) (v_len ln))), .val (.int (1 : Int32)), .val (.long (v_p0 vv ln os fi)), .second, .val (.long (v_p1 vv ln os fi)), .second, .val (.long (v_p2 vv ln os fi)), .second, .val (.long (v_p3 vv ln os fi)), .second, .val (.long (v_p4 vv ln os fi)), .second, .val (.long (v_p5 vv ln os fi)), .second, .val (.long (v_p6 vv ln os fi)), .second, .val (.long (v_p7 vv ln os fi)), .second, .unset, .unset, .unset, .unset] [(.int (v_len ln)), (.int (v_off os)), (.ref b1)])) _
    refine XS.bipush X37.here hx rfl (hb hby at_457) ?_
    show Steps p.tables e below (T37.setTop (mkF m 459 #[.val (.long vv), .second, .val (.int ln), .val (.int os), .val (.int fi), .val (.int (v_len ln)), .val (.long (v_val vv ln)), .second, .val (.int (v_off os)), .val (.int (fi.toInt8.toInt32)), .val (.ref b1), .val (.int (Fpv (v_off os) (v_len ln))), .val (.int (1 : Int32)), .val (.long (v_p0 vv ln os fi)), .second, .val (.long (v_p1 vv ln os fi)), .second, .val (.long (v_p2 vv ln os fi)), .second, .val (.long (v_p3 vv ln os fi)), .second, .val (.long (v_p4 vv ln os fi)), .second, .val (.long (v_p5 vv ln os fi)), .second, .val (.long (v_p6 vv ln os fi)), .second, .val (.long (v_p7 vv ln os fi)), .second, .unset, .unset, .unset, .unset] [(.int (8 : Int32)), (.int (v_len ln)), (.int (v_off os)), (.ref b1)])) _
    refine st38 _ ?_
    show Steps p.tables e below (T38.setTop (mkF m 462 #[.val (.long vv), .second, .val (.int ln), .val (.int os), .val (.int fi), .val (.int (v_len ln)), .val (.long (v_val vv ln)), .second, .val (.int (v_off os)), .val (.int (fi.toInt8.toInt32)), .val (.ref b1), .val (.int (Fpv (v_off os) (v_len ln))), .val (.int (1 : Int32)), .val (.long (v_p0 vv ln os fi)), .second, .val (.long (v_p1 vv ln os fi)), .second, .val (.long (v_p2 vv ln os fi)), .second, .val (.long (v_p3 vv ln os fi)), .second, .val (.long (v_p4 vv ln os fi)), .second, .val (.long (v_p5 vv ln os fi)), .second, .val (.long (v_p6 vv ln os fi)), .second, .val (.long (v_p7 vv ln os fi)), .second, .unset, .unset, .unset, .unset] [(.long (Fpart (v_off os) (v_len ln) (8 : Int32) (v_g vv ln os fi)))])) _
    refine XS.lstore X38.here hx rfl (hb hby at_462) rfl (l' := #[.val (.long vv), .second, .val (.int ln), .val (.int os), .val (.int fi), .val (.int (v_len ln)), .val (.long (v_val vv ln)), .second, .val (.int (v_off os)), .val (.int (fi.toInt8.toInt32)), .val (.ref b1), .val (.int (Fpv (v_off os) (v_len ln))), .val (.int (1 : Int32)), .val (.long (v_p0 vv ln os fi)), .second, .val (.long (v_p1 vv ln os fi)), .second, .val (.long (v_p2 vv ln os fi)), .second, .val (.long (v_p3 vv ln os fi)), .second, .val (.long (v_p4 vv ln os fi)), .second, .val (.long (v_p5 vv ln os fi)), .second, .val (.long (v_p6 vv ln os fi)), .second, .val (.long (v_p7 vv ln os fi)), .second, .val (.long (v_p8 vv ln os fi)), .second, .unset, .unset]) rfl ?_
    show Steps p.tables e below (T38.setTop (mkF m 464 #[.val (.long vv), .second, .val (.int ln), .val (.int os), .val (.int fi), .val (.int (v_len ln)), .val (.long (v_val vv ln)), .second, .val (.int (v_off os)), .val (.int (fi.toInt8.toInt32)), .val (.ref b1), .val (.int (Fpv (v_off os) (v_len ln))), .val (.int (1 : Int32)), .val (.long (v_p0 vv ln os fi)), .second, .val (.long (v_p1 vv ln os fi)), .second, .val (.long (v_p2 vv ln os fi)), .second, .val (.long (v_p3 vv ln os fi)), .second, .val (.long (v_p4 vv ln os fi)), .second, .val (.long (v_p5 vv ln os fi)), .second, .val (.long (v_p6 vv ln os fi)), .second, .val (.long (v_p7 vv ln os fi)), .second, .val (.long (v_p8 vv ln os fi)), .second, .unset, .unset] [])) _
    refine XS.lload X38.here hx rfl (hb hby at_464) rfl ?_
    show Steps p.tables e below (T38.setTop (mkF m 466 #[.val (.long vv), .second, .val (.int ln), .val (.int os), .val (.int fi), .val (.int (v_len ln)), .val (.long (v_val vv ln)), .second, .val (.int (v_off os)), .val (.int (fi.toInt8.toInt32)), .val (.ref b1), .val (.int (Fpv (v_off os) (v_len ln))), .val (.int (1 : Int32)), .val (.long (v_p0 vv ln os fi)), .second, .val (.long (v_p1 vv ln os fi)), .second, .val (.long (v_p2 vv ln os fi)), .second, .val (.long (v_p3 vv ln os fi)), .second, .val (.long (v_p4 vv ln os fi)), .second, .val (.long (v_p5 vv ln os fi)), .second, .val (.long (v_p6 vv ln os fi)), .second, .val (.long (v_p7 vv ln os fi)), .second, .val (.long (v_p8 vv ln os fi)), .second, .unset, .unset] [(.long (v_p0 vv ln os fi))])) _
    refine XS.lconst X38.here hx rfl (hb hby at_466) ?_
    show Steps p.tables e below (T38.setTop (mkF m 467 #[.val (.long vv), .second, .val (.int ln), .val (.int os), .val (.int fi), .val (.int (v_len ln)), .val (.long (v_val vv ln)), .second, .val (.int (v_off os)), .val (.int (fi.toInt8.toInt32)), .val (.ref b1), .val (.int (Fpv (v_off os) (v_len ln))), .val (.int (1 : Int32)), .val (.long (v_p0 vv ln os fi)), .second, .val (.long (v_p1 vv ln os fi)), .second, .val (.long (v_p2 vv ln os fi)), .second, .val (.long (v_p3 vv ln os fi)), .second, .val (.long (v_p4 vv ln os fi)), .second, .val (.long (v_p5 vv ln os fi)), .second, .val (.long (v_p6 vv ln os fi)), .second, .val (.long (v_p7 vv ln os fi)), .second, .val (.long (v_p8 vv ln os fi)), .second, .unset, .unset] [(.long (0 : Int64)), (.long (v_p0 vv ln os fi))])) _
    refine XS.lcmp X38.here hx rfl (hb hby at_467) rfl ?_
    show Steps p.tables e below (T38.setTop (mkF m 468 #[.val (.long vv), .second, .val (.int ln), .val (.int os), .val (.int fi), .val (.int (v_len ln)), .val (.long (v_val vv ln)), .second, .val (.int (v_off os)), .val (.int (fi.toInt8.toInt32)), .val (.ref b1), .val (.int (Fpv (v_off os) (v_len ln))), .val (.int (1 : Int32)), .val (.long (v_p0 vv ln os fi)), .second, .val (.long (v_p1 vv ln os fi)), .second, .val (.long (v_p2 vv ln os fi)), .second, .val (.long (v_p3 vv ln os fi)), .second, .val (.long (v_p4 vv ln os fi)), .second, .val (.long (v_p5 vv ln os fi)), .second, .val (.long (v_p6 vv ln os fi)), .second, .val (.long (v_p7 vv ln os fi)), .second, .val (.long (v_p8 vv ln os fi)), .second, .unset, .unset] [(.int (lcmpW (v_p0 vv ln os fi) (0 : Int64)))])) _
    refine XS.ifNo X38.here hx rfl (hb hby at_468) rfl ((if0 _ _).trans (flt (fun q => (own_pos9 vv ln os fi _ _ _ (own_p0 vv ln os fi) (by decide)) ((lw_lt _ _).mp q))).1) ?_
    show Steps p.tables e below (T38.setTop (mkF m 471 #[.val (.long vv), .second, .val (.int ln), .val (.int os), .val (.int fi), .val (.int (v_len ln)), .val (.long (v_val vv ln)), .second, .val (.int (v_off os)), .val (.int (fi.toInt8.toInt32)), .val (.ref b1), .val (.int (Fpv (v_off os) (v_len ln))), .val (.int (1 : Int32)), .val (.long (v_p0 vv ln os fi)), .second, .val (.long (v_p1 vv ln os fi)), .second, .val (.long (v_p2 vv ln os fi)), .second, .val (.long (v_p3 vv ln os fi)), .second, .val (.long (v_p4 vv ln os fi)), .second, .val (.long (v_p5 vv ln os fi)), .second, .val (.long (v_p6 vv ln os fi)), .second, .val (.long (v_p7 vv ln os fi)), .second, .val (.long (v_p8 vv ln os fi)), .second, .unset, .unset] [])) _
    refine XS.lload X38.here hx rfl (hb hby at_471) rfl ?_
    show Steps p.tables e below (T38.setTop (mkF m 473 #[.val (.long vv), .second, .val (.int ln), .val (.int os), .val (.int fi), .val (.int (v_len ln)), .val (.long (v_val vv ln)), .second, .val (.int (v_off os)), .val (.int (fi.toInt8.toInt32)), .val (.ref b1), .val (.int (Fpv (v_off os) (v_len ln))), .val (.int (1 : Int32)), .val (.long (v_p0 vv ln os fi)), .second, .val (.long (v_p1 vv ln os fi)), .second, .val (.long (v_p2 vv ln os fi)), .second, .val (.long (v_p3 vv ln os fi)), .second, .val (.long (v_p4 vv ln os fi)), .second, .val (.long (v_p5 vv ln os fi)), .second, .val (.long (v_p6 vv ln os fi)), .second, .val (.long (v_p7 vv ln os fi)), .second, .val (.long (v_p8 vv ln os fi)), .second, .unset, .unset] [(.long (v_p1 vv ln os fi))])) _
    refine XS.lconst X38.here hx rfl (hb hby at_473) ?_
    show Steps p.tables e below (T38.setTop (mkF m 474 #[.val (.long vv), .second, .val (.int ln), .val (.int os), .val (.int fi), .val (.int (v_len ln)), .val (.long (v_val vv ln)), .second, .val (.int (v_off os)), .val (.int (fi.toInt8.toInt32)), .val (.ref b1), .val (.int (Fpv (v_off os) (v_len ln))), .val (.int (1 : Int32)), .val (.long (v_p0 vv ln os fi)), .second, .val (.long (v_p1 vv ln os fi)), .second, .val (.long (v_p2 vv ln os fi)), .second, .val (.long (v_p3 vv ln os fi)), .second, .val (.long (v_p4 vv ln os fi)), .second, .val (.long (v_p5 vv ln os fi)), .second, .val (.long (v_p6 vv ln os fi)), .second, .val (.long (v_p7 vv ln os fi)), .second, .val (.long (v_p8 vv ln os fi)), .second, .unset, .unset] [(.long (0 : Int64)), (.long (v_p1 vv ln os fi))])) _
    refine XS.lcmp X38.here hx rfl (hb hby at_474) rfl ?_
    show Steps p.tables e below (T38.setTop (mkF m 475 #[.val (.long vv), .second, .val (.int ln), .val (.int os), .val (.int fi), .val (.int (v_len ln)), .val (.long (v_val vv ln)), .second, .val (.int (v_off os)), .val (.int (fi.toInt8.toInt32)), .val (.ref b1), .val (.int (Fpv (v_off os) (v_len ln))), .val (.int (1 : Int32)), .val (.long (v_p0 vv ln os fi)), .second, .val (.long (v_p1 vv ln os fi)), .second, .val (.long (v_p2 vv ln os fi)), .second, .val (.long (v_p3 vv ln os fi)), .second, .val (.long (v_p4 vv ln os fi)), .second, .val (.long (v_p5 vv ln os fi)), .second, .val (.long (v_p6 vv ln os fi)), .second, .val (.long (v_p7 vv ln os fi)), .second, .val (.long (v_p8 vv ln os fi)), .second, .unset, .unset] [(.int (lcmpW (v_p1 vv ln os fi) (0 : Int64)))])) _
    refine XS.ifNo X38.here hx rfl (hb hby at_475) rfl ((if0 _ _).trans (flt (fun q => (own_pos9 vv ln os fi _ _ _ (own_p1 vv ln os fi) (by decide)) ((lw_lt _ _).mp q))).1) ?_
    show Steps p.tables e below (T38.setTop (mkF m 478 #[.val (.long vv), .second, .val (.int ln), .val (.int os), .val (.int fi), .val (.int (v_len ln)), .val (.long (v_val vv ln)), .second, .val (.int (v_off os)), .val (.int (fi.toInt8.toInt32)), .val (.ref b1), .val (.int (Fpv (v_off os) (v_len ln))), .val (.int (1 : Int32)), .val (.long (v_p0 vv ln os fi)), .second, .val (.long (v_p1 vv ln os fi)), .second, .val (.long (v_p2 vv ln os fi)), .second, .val (.long (v_p3 vv ln os fi)), .second, .val (.long (v_p4 vv ln os fi)), .second, .val (.long (v_p5 vv ln os fi)), .second, .val (.long (v_p6 vv ln os fi)), .second, .val (.long (v_p7 vv ln os fi)), .second, .val (.long (v_p8 vv ln os fi)), .second, .unset, .unset] [])) _
    refine XS.lload X38.here hx rfl (hb hby at_478) rfl ?_
    show Steps p.tables e below (T38.setTop (mkF m 480 #[.val (.long vv), .second, .val (.int ln), .val (.int os), .val (.int fi), .val (.int (v_len ln)), .val (.long (v_val vv ln)), .second, .val (.int (v_off os)), .val (.int (fi.toInt8.toInt32)), .val (.ref b1), .val (.int (Fpv (v_off os) (v_len ln))), .val (.int (1 : Int32)), .val (.long (v_p0 vv ln os fi)), .second, .val (.long (v_p1 vv ln os fi)), .second, .val (.long (v_p2 vv ln os fi)), .second, .val (.long (v_p3 vv ln os fi)), .second, .val (.long (v_p4 vv ln os fi)), .second, .val (.long (v_p5 vv ln os fi)), .second, .val (.long (v_p6 vv ln os fi)), .second, .val (.long (v_p7 vv ln os fi)), .second, .val (.long (v_p8 vv ln os fi)), .second, .unset, .unset] [(.long (v_p2 vv ln os fi))])) _
    refine XS.lconst X38.here hx rfl (hb hby at_480) ?_
    show Steps p.tables e below (T38.setTop (mkF m 481 #[.val (.long vv), .second, .val (.int ln), .val (.int os), .val (.int fi), .val (.int (v_len ln)), .val (.long (v_val vv ln)), .second, .val (.int (v_off os)), .val (.int (fi.toInt8.toInt32)), .val (.ref b1), .val (.int (Fpv (v_off os) (v_len ln))), .val (.int (1 : Int32)), .val (.long (v_p0 vv ln os fi)), .second, .val (.long (v_p1 vv ln os fi)), .second, .val (.long (v_p2 vv ln os fi)), .second, .val (.long (v_p3 vv ln os fi)), .second, .val (.long (v_p4 vv ln os fi)), .second, .val (.long (v_p5 vv ln os fi)), .second, .val (.long (v_p6 vv ln os fi)), .second, .val (.long (v_p7 vv ln os fi)), .second, .val (.long (v_p8 vv ln os fi)), .second, .unset, .unset] [(.long (0 : Int64)), (.long (v_p2 vv ln os fi))])) _
    refine XS.lcmp X38.here hx rfl (hb hby at_481) rfl ?_
    show Steps p.tables e below (T38.setTop (mkF m 482 #[.val (.long vv), .second, .val (.int ln), .val (.int os), .val (.int fi), .val (.int (v_len ln)), .val (.long (v_val vv ln)), .second, .val (.int (v_off os)), .val (.int (fi.toInt8.toInt32)), .val (.ref b1), .val (.int (Fpv (v_off os) (v_len ln))), .val (.int (1 : Int32)), .val (.long (v_p0 vv ln os fi)), .second, .val (.long (v_p1 vv ln os fi)), .second, .val (.long (v_p2 vv ln os fi)), .second, .val (.long (v_p3 vv ln os fi)), .second, .val (.long (v_p4 vv ln os fi)), .second, .val (.long (v_p5 vv ln os fi)), .second, .val (.long (v_p6 vv ln os fi)), .second, .val (.long (v_p7 vv ln os fi)), .second, .val (.long (v_p8 vv ln os fi)), .second, .unset, .unset] [(.int (lcmpW (v_p2 vv ln os fi) (0 : Int64)))])) _
    refine XS.ifNo X38.here hx rfl (hb hby at_482) rfl ((if0 _ _).trans (flt (fun q => (own_pos9 vv ln os fi _ _ _ (own_p2 vv ln os fi) (by decide)) ((lw_lt _ _).mp q))).1) ?_
    show Steps p.tables e below (T38.setTop (mkF m 485 #[.val (.long vv), .second, .val (.int ln), .val (.int os), .val (.int fi), .val (.int (v_len ln)), .val (.long (v_val vv ln)), .second, .val (.int (v_off os)), .val (.int (fi.toInt8.toInt32)), .val (.ref b1), .val (.int (Fpv (v_off os) (v_len ln))), .val (.int (1 : Int32)), .val (.long (v_p0 vv ln os fi)), .second, .val (.long (v_p1 vv ln os fi)), .second, .val (.long (v_p2 vv ln os fi)), .second, .val (.long (v_p3 vv ln os fi)), .second, .val (.long (v_p4 vv ln os fi)), .second, .val (.long (v_p5 vv ln os fi)), .second, .val (.long (v_p6 vv ln os fi)), .second, .val (.long (v_p7 vv ln os fi)), .second, .val (.long (v_p8 vv ln os fi)), .second, .unset, .unset] [])) _
    refine XS.lload X38.here hx rfl (hb hby at_485) rfl ?_
    show Steps p.tables e below (T38.setTop (mkF m 487 #[.val (.long vv), .second, .val (.int ln), .val (.int os), .val (.int fi), .val (.int (v_len ln)), .val (.long (v_val vv ln)), .second, .val (.int (v_off os)), .val (.int (fi.toInt8.toInt32)), .val (.ref b1), .val (.int (Fpv (v_off os) (v_len ln))), .val (.int (1 : Int32)), .val (.long (v_p0 vv ln os fi)), .second, .val (.long (v_p1 vv ln os fi)), .second, .val (.long (v_p2 vv ln os fi)), .second, .val (.long (v_p3 vv ln os fi)), .second, .val (.long (v_p4 vv ln os fi)), .second, .val (.long (v_p5 vv ln os fi)), .second, .val (.long (v_p6 vv ln os fi)), .second, .val (.long (v_p7 vv ln os fi)), .second, .val (.long (v_p8 vv ln os fi)), .second, .unset, .unset] [(.long (v_p3 vv ln os fi))])) _
    refine XS.lconst X38.here hx rfl (hb hby at_487) ?_
    show Steps p.tables e below (T38.setTop (mkF m 488 #[.val (.long vv), .second, .val (.int ln), .val (.int os), .val (.int fi), .val (.int (v_len ln)), .val (.long (v_val vv ln)), .second, .val (.int (v_off os)), .val (.int (fi.toInt8.toInt32)), .val (.ref b1), .val (.int (Fpv (v_off os) (v_len ln))), .val (.int (1 : Int32)), .val (.long (v_p0 vv ln os fi)), .second, .val (.long (v_p1 vv ln os fi)), .second, .val (.long (v_p2 vv ln os fi)), .second, .val (.long (v_p3 vv ln os fi)), .second, .val (.long (v_p4 vv ln os fi)), .second, .val (.long (v_p5 vv ln os fi)), .second, .val (.long (v_p6 vv ln os fi)), .second, .val (.long (v_p7 vv ln os fi)), .second, .val (.long (v_p8 vv ln os fi)), .second, .unset, .unset] [(.long (0 : Int64)), (.long (v_p3 vv ln os fi))])) _
    refine XS.lcmp X38.here hx rfl (hb hby at_488) rfl ?_
    show Steps p.tables e below (T38.setTop (mkF m 489 #[.val (.long vv), .second, .val (.int ln), .val (.int os), .val (.int fi), .val (.int (v_len ln)), .val (.long (v_val vv ln)), .second, .val (.int (v_off os)), .val (.int (fi.toInt8.toInt32)), .val (.ref b1), .val (.int (Fpv (v_off os) (v_len ln))), .val (.int (1 : Int32)), .val (.long (v_p0 vv ln os fi)), .second, .val (.long (v_p1 vv ln os fi)), .second, .val (.long (v_p2 vv ln os fi)), .second, .val (.long (v_p3 vv ln os fi)), .second, .val (.long (v_p4 vv ln os fi)), .second, .val (.long (v_p5 vv ln os fi)), .second, .val (.long (v_p6 vv ln os fi)), .second, .val (.long (v_p7 vv ln os fi)), .second, .val (.long (v_p8 vv ln os fi)), .second, .unset, .unset] [(.int (lcmpW (v_p3 vv ln os fi) (0 : Int64)))])) _
    refine XS.ifNo X38.here hx rfl (hb hby at_489) rfl ((if0 _ _).trans (flt (fun q => (own_pos9 vv ln os fi _ _ _ (own_p3 vv ln os fi) (by decide)) ((lw_lt _ _).mp q))).1) ?_
    show Steps p.tables e below (T38.setTop (mkF m 492 #[.val (.long vv), .second, .val (.int ln), .val (.int os), .val (.int fi), .val (.int (v_len ln)), .val (.long (v_val vv ln)), .second, .val (.int (v_off os)), .val (.int (fi.toInt8.toInt32)), .val (.ref b1), .val (.int (Fpv (v_off os) (v_len ln))), .val (.int (1 : Int32)), .val (.long (v_p0 vv ln os fi)), .second, .val (.long (v_p1 vv ln os fi)), .second, .val (.long (v_p2 vv ln os fi)), .second, .val (.long (v_p3 vv ln os fi)), .second, .val (.long (v_p4 vv ln os fi)), .second, .val (.long (v_p5 vv ln os fi)), .second, .val (.long (v_p6 vv ln os fi)), .second, .val (.long (v_p7 vv ln os fi)), .second, .val (.long (v_p8 vv ln os fi)), .second, .unset, .unset] [])) _
    refine XS.lload X38.here hx rfl (hb hby at_492) rfl ?_
    show Steps p.tables e below (T38.setTop (mkF m 494 #[.val (.long vv), .second, .val (.int ln), .val (.int os), .val (.int fi), .val (.int (v_len ln)), .val (.long (v_val vv ln)), .second, .val (.int (v_off os)), .val (.int (fi.toInt8.toInt32)), .val (.ref b1), .val (.int (Fpv (v_off os) (v_len ln))), .val (.int (1 : Int32)), .val (.long (v_p0 vv ln os fi)), .second, .val (.long (v_p1 vv ln os fi)), .second, .val (.long (v_p2 vv ln os fi)), .second, .val (.long (v_p3 vv ln os fi)), .second, .val (.long (v_p4 vv ln os fi)), .second, .val (.long (v_p5 vv ln os fi)), .second, .val (.long (v_p6 vv ln os fi)), .second, .val (.long (v_p7 vv ln os fi)), .second, .val (.long (v_p8 vv ln os fi)), .second, .unset, .unset] [(.long (v_p4 vv ln os fi))])) _
    refine XS.lconst X38.here hx rfl (hb hby at_494) ?_
    show Steps p.tables e below (T38.setTop (mkF m 495 #[.val (.long vv), .second, .val (.int ln), .val (.int os), .val (.int fi), .val (.int (v_len ln)), .val (.long (v_val vv ln)), .second, .val (.int (v_off os)), .val (.int (fi.toInt8.toInt32)), .val (.ref b1), .val (.int (Fpv (v_off os) (v_len ln))), .val (.int (1 : Int32)), .val (.long (v_p0 vv ln os fi)), .second, .val (.long (v_p1 vv ln os fi)), .second, .val (.long (v_p2 vv ln os fi)), .second, .val (.long (v_p3 vv ln os fi)), .second, .val (.long (v_p4 vv ln os fi)), .second, .val (.long (v_p5 vv ln os fi)), .second, .val (.long (v_p6 vv ln os fi)), .second, .val (.long (v_p7 vv ln os fi)), .second, .val (.long (v_p8 vv ln os fi)), .second, .unset, .unset] [(.long (0 : Int64)), (.long (v_p4 vv ln os fi))])) _
    refine XS.lcmp X38.here hx rfl (hb hby at_495) rfl ?_
    show Steps p.tables e below (T38.setTop (mkF m 496 #[.val (.long vv), .second, .val (.int ln), .val (.int os), .val (.int fi), .val (.int (v_len ln)), .val (.long (v_val vv ln)), .second, .val (.int (v_off os)), .val (.int (fi.toInt8.toInt32)), .val (.ref b1), .val (.int (Fpv (v_off os) (v_len ln))), .val (.int (1 : Int32)), .val (.long (v_p0 vv ln os fi)), .second, .val (.long (v_p1 vv ln os fi)), .second, .val (.long (v_p2 vv ln os fi)), .second, .val (.long (v_p3 vv ln os fi)), .second, .val (.long (v_p4 vv ln os fi)), .second, .val (.long (v_p5 vv ln os fi)), .second, .val (.long (v_p6 vv ln os fi)), .second, .val (.long (v_p7 vv ln os fi)), .second, .val (.long (v_p8 vv ln os fi)), .second, .unset, .unset] [(.int (lcmpW (v_p4 vv ln os fi) (0 : Int64)))])) _
    refine XS.ifNo X38.here hx rfl (hb hby at_496) rfl ((if0 _ _).trans (flt (fun q => (own_pos9 vv ln os fi _ _ _ (own_p4 vv ln os fi) (by decide)) ((lw_lt _ _).mp q))).1) ?_
    show Steps p.tables e below (T38.setTop (mkF m 499 #[.val (.long vv), .second, .val (.int ln), .val (.int os), .val (.int fi), .val (.int (v_len ln)), .val (.long (v_val vv ln)), .second, .val (.int (v_off os)), .val (.int (fi.toInt8.toInt32)), .val (.ref b1), .val (.int (Fpv (v_off os) (v_len ln))), .val (.int (1 : Int32)), .val (.long (v_p0 vv ln os fi)), .second, .val (.long (v_p1 vv ln os fi)), .second, .val (.long (v_p2 vv ln os fi)), .second, .val (.long (v_p3 vv ln os fi)), .second, .val (.long (v_p4 vv ln os fi)), .second, .val (.long (v_p5 vv ln os fi)), .second, .val (.long (v_p6 vv ln os fi)), .second, .val (.long (v_p7 vv ln os fi)), .second, .val (.long (v_p8 vv ln os fi)), .second, .unset, .unset] [])) _
    refine XS.lload X38.here hx rfl (hb hby at_499) rfl ?_
    show Steps p.tables e below (T38.setTop (mkF m 501 #[.val (.long vv), .second, .val (.int ln), .val (.int os), .val (.int fi), .val (.int (v_len ln)), .val (.long (v_val vv ln)), .second, .val (.int (v_off os)), .val (.int (fi.toInt8.toInt32)), .val (.ref b1), .val (.int (Fpv (v_off os) (v_len ln))), .val (.int (1 : Int32)), .val (.long (v_p0 vv ln os fi)), .second, .val (.long (v_p1 vv ln os fi)), .second, .val (.long (v_p2 vv ln os fi)), .second, .val (.long (v_p3 vv ln os fi)), .second, .val (.long (v_p4 vv ln os fi)), .second, .val (.long (v_p5 vv ln os fi)), .second, .val (.long (v_p6 vv ln os fi)), .second, .val (.long (v_p7 vv ln os fi)), .second, .val (.long (v_p8 vv ln os fi)), .second, .unset, .unset] [(.long (v_p5 vv ln os fi))])) _
    refine XS.lconst X38.here hx rfl (hb hby at_501) ?_
    show Steps p.tables e below (T38.setTop (mkF m 502 #[.val (.long vv), .second, .val (.int ln), .val (.int os), .val (.int fi), .val (.int (v_len ln)), .val (.long (v_val vv ln)), .second, .val (.int (v_off os)), .val (.int (fi.toInt8.toInt32)), .val (.ref b1), .val (.int (Fpv (v_off os) (v_len ln))), .val (.int (1 : Int32)), .val (.long (v_p0 vv ln os fi)), .second, .val (.long (v_p1 vv ln os fi)), .second, .val (.long (v_p2 vv ln os fi)), .second, .val (.long (v_p3 vv ln os fi)), .second, .val (.long (v_p4 vv ln os fi)), .second, .val (.long (v_p5 vv ln os fi)), .second, .val (.long (v_p6 vv ln os fi)), .second, .val (.long (v_p7 vv ln os fi)), .second, .val (.long (v_p8 vv ln os fi)), .second, .unset, .unset] [(.long (0 : Int64)), (.long (v_p5 vv ln os fi))])) _
    refine XS.lcmp X38.here hx rfl (hb hby at_502) rfl ?_
    show Steps p.tables e below (T38.setTop (mkF m 503 #[.val (.long vv), .second, .val (.int ln), .val (.int os), .val (.int fi), .val (.int (v_len ln)), .val (.long (v_val vv ln)), .second, .val (.int (v_off os)), .val (.int (fi.toInt8.toInt32)), .val (.ref b1), .val (.int (Fpv (v_off os) (v_len ln))), .val (.int (1 : Int32)), .val (.long (v_p0 vv ln os fi)), .second, .val (.long (v_p1 vv ln os fi)), .second, .val (.long (v_p2 vv ln os fi)), .second, .val (.long (v_p3 vv ln os fi)), .second, .val (.long (v_p4 vv ln os fi)), .second, .val (.long (v_p5 vv ln os fi)), .second, .val (.long (v_p6 vv ln os fi)), .second, .val (.long (v_p7 vv ln os fi)), .second, .val (.long (v_p8 vv ln os fi)), .second, .unset, .unset] [(.int (lcmpW (v_p5 vv ln os fi) (0 : Int64)))])) _
    refine XS.ifNo X38.here hx rfl (hb hby at_503) rfl ((if0 _ _).trans (flt (fun q => (own_pos9 vv ln os fi _ _ _ (own_p5 vv ln os fi) (by decide)) ((lw_lt _ _).mp q))).1) ?_
    show Steps p.tables e below (T38.setTop (mkF m 506 #[.val (.long vv), .second, .val (.int ln), .val (.int os), .val (.int fi), .val (.int (v_len ln)), .val (.long (v_val vv ln)), .second, .val (.int (v_off os)), .val (.int (fi.toInt8.toInt32)), .val (.ref b1), .val (.int (Fpv (v_off os) (v_len ln))), .val (.int (1 : Int32)), .val (.long (v_p0 vv ln os fi)), .second, .val (.long (v_p1 vv ln os fi)), .second, .val (.long (v_p2 vv ln os fi)), .second, .val (.long (v_p3 vv ln os fi)), .second, .val (.long (v_p4 vv ln os fi)), .second, .val (.long (v_p5 vv ln os fi)), .second, .val (.long (v_p6 vv ln os fi)), .second, .val (.long (v_p7 vv ln os fi)), .second, .val (.long (v_p8 vv ln os fi)), .second, .unset, .unset] [])) _
    refine XS.lload X38.here hx rfl (hb hby at_506) rfl ?_
    show Steps p.tables e below (T38.setTop (mkF m 508 #[.val (.long vv), .second, .val (.int ln), .val (.int os), .val (.int fi), .val (.int (v_len ln)), .val (.long (v_val vv ln)), .second, .val (.int (v_off os)), .val (.int (fi.toInt8.toInt32)), .val (.ref b1), .val (.int (Fpv (v_off os) (v_len ln))), .val (.int (1 : Int32)), .val (.long (v_p0 vv ln os fi)), .second, .val (.long (v_p1 vv ln os fi)), .second, .val (.long (v_p2 vv ln os fi)), .second, .val (.long (v_p3 vv ln os fi)), .second, .val (.long (v_p4 vv ln os fi)), .second, .val (.long (v_p5 vv ln os fi)), .second, .val (.long (v_p6 vv ln os fi)), .second, .val (.long (v_p7 vv ln os fi)), .second, .val (.long (v_p8 vv ln os fi)), .second, .unset, .unset] [(.long (v_p6 vv ln os fi))])) _
    refine XS.lconst X38.here hx rfl (hb hby at_508) ?_
    show Steps p.tables e below (T38.setTop (mkF m 509 #[.val (.long vv), .second, .val (.int ln), .val (.int os), .val (.int fi), .val (.int (v_len ln)), .val (.long (v_val vv ln)), .second, .val (.int (v_off os)), .val (.int (fi.toInt8.toInt32)), .val (.ref b1), .val (.int (Fpv (v_off os) (v_len ln))), .val (.int (1 : Int32)), .val (.long (v_p0 vv ln os fi)), .second, .val (.long (v_p1 vv ln os fi)), .second, .val (.long (v_p2 vv ln os fi)), .second, .val (.long (v_p3 vv ln os fi)), .second, .val (.long (v_p4 vv ln os fi)), .second, .val (.long (v_p5 vv ln os fi)), .second, .val (.long (v_p6 vv ln os fi)), .second, .val (.long (v_p7 vv ln os fi)), .second, .val (.long (v_p8 vv ln os fi)), .second, .unset, .unset] [(.long (0 : Int64)), (.long (v_p6 vv ln os fi))])) _
    refine XS.lcmp X38.here hx rfl (hb hby at_509) rfl ?_
    show Steps p.tables e below (T38.setTop (mkF m 510 #[.val (.long vv), .second, .val (.int ln), .val (.int os), .val (.int fi), .val (.int (v_len ln)), .val (.long (v_val vv ln)), .second, .val (.int (v_off os)), .val (.int (fi.toInt8.toInt32)), .val (.ref b1), .val (.int (Fpv (v_off os) (v_len ln))), .val (.int (1 : Int32)), .val (.long (v_p0 vv ln os fi)), .second, .val (.long (v_p1 vv ln os fi)), .second, .val (.long (v_p2 vv ln os fi)), .second, .val (.long (v_p3 vv ln os fi)), .second, .val (.long (v_p4 vv ln os fi)), .second, .val (.long (v_p5 vv ln os fi)), .second, .val (.long (v_p6 vv ln os fi)), .second, .val (.long (v_p7 vv ln os fi)), .second, .val (.long (v_p8 vv ln os fi)), .second, .unset, .unset] [(.int (lcmpW (v_p6 vv ln os fi) (0 : Int64)))])) _
    refine XS.ifNo X38.here hx rfl (hb hby at_510) rfl ((if0 _ _).trans (flt (fun q => (own_pos9 vv ln os fi _ _ _ (own_p6 vv ln os fi) (by decide)) ((lw_lt _ _).mp q))).1) ?_
    show Steps p.tables e below (T38.setTop (mkF m 513 #[.val (.long vv), .second, .val (.int ln), .val (.int os), .val (.int fi), .val (.int (v_len ln)), .val (.long (v_val vv ln)), .second, .val (.int (v_off os)), .val (.int (fi.toInt8.toInt32)), .val (.ref b1), .val (.int (Fpv (v_off os) (v_len ln))), .val (.int (1 : Int32)), .val (.long (v_p0 vv ln os fi)), .second, .val (.long (v_p1 vv ln os fi)), .second, .val (.long (v_p2 vv ln os fi)), .second, .val (.long (v_p3 vv ln os fi)), .second, .val (.long (v_p4 vv ln os fi)), .second, .val (.long (v_p5 vv ln os fi)), .second, .val (.long (v_p6 vv ln os fi)), .second, .val (.long (v_p7 vv ln os fi)), .second, .val (.long (v_p8 vv ln os fi)), .second, .unset, .unset] [])) _
    refine XS.lload X38.here hx rfl (hb hby at_513) rfl ?_
    show Steps p.tables e below (T38.setTop (mkF m 515 #[.val (.long vv), .second, .val (.int ln), .val (.int os), .val (.int fi), .val (.int (v_len ln)), .val (.long (v_val vv ln)), .second, .val (.int (v_off os)), .val (.int (fi.toInt8.toInt32)), .val (.ref b1), .val (.int (Fpv (v_off os) (v_len ln))), .val (.int (1 : Int32)), .val (.long (v_p0 vv ln os fi)), .second, .val (.long (v_p1 vv ln os fi)), .second, .val (.long (v_p2 vv ln os fi)), .second, .val (.long (v_p3 vv ln os fi)), .second, .val (.long (v_p4 vv ln os fi)), .second, .val (.long (v_p5 vv ln os fi)), .second, .val (.long (v_p6 vv ln os fi)), .second, .val (.long (v_p7 vv ln os fi)), .second, .val (.long (v_p8 vv ln os fi)), .second, .unset, .unset] [(.long (v_p7 vv ln os fi))])) _
    refine XS.lconst X38.here hx rfl (hb hby at_515) ?_
    show Steps p.tables e below (T38.setTop (mkF m 516 #[.val (.long vv), .second, .val (.int ln), .val (.int os), .val (.int fi), .val (.int (v_len ln)), .val (.long (v_val vv ln)), .second, .val (.int (v_off os)), .val (.int (fi.toInt8.toInt32)), .val (.ref b1), .val (.int (Fpv (v_off os) (v_len ln))), .val (.int (1 : Int32)), .val (.long (v_p0 vv ln os fi)), .second, .val (.long (v_p1 vv ln os fi)), .second, .val (.long (v_p2 vv ln os fi)), .second, .val (.long (v_p3 vv ln os fi)), .second, .val (.long (v_p4 vv ln os fi)), .second, .val (.long (v_p5 vv ln os fi)), .second, .val (.long (v_p6 vv ln os fi)), .second, .val (.long (v_p7 vv ln os fi)), .second, .val (.long (v_p8 vv ln os fi)), .second, .unset, .unset] [(.long (0 : Int64)), (.long (v_p7 vv ln os fi))])) _
    refine XS.lcmp X38.here hx rfl (hb hby at_516) rfl ?_
    show Steps p.tables e below (T38.setTop (mkF m 517 #[.val (.long vv), .second, .val (.int ln), .val (.int os), .val (.int fi), .val (.int (v_len ln)), .val (.long (v_val vv ln)), .second, .val (.int (v_off os)), .val (.int (fi.toInt8.toInt32)), .val (.ref b1), .val (.int (Fpv (v_off os) (v_len ln))), .val (.int (1 : Int32)), .val (.long (v_p0 vv ln os fi)), .second, .val (.long (v_p1 vv ln os fi)), .second, .val (.long (v_p2 vv ln os fi)), .second, .val (.long (v_p3 vv ln os fi)), .second, .val (.long (v_p4 vv ln os fi)), .second, .val (.long (v_p5 vv ln os fi)), .second, .val (.long (v_p6 vv ln os fi)), .second, .val (.long (v_p7 vv ln os fi)), .second, .val (.long (v_p8 vv ln os fi)), .second, .unset, .unset] [(.int (lcmpW (v_p7 vv ln os fi) (0 : Int64)))])) _
    refine XS.ifNo X38.here hx rfl (hb hby at_517) rfl ((if0 _ _).trans (flt (fun q => (own_pos9 vv ln os fi _ _ _ (own_p7 vv ln os fi) (by decide)) ((lw_lt _ _).mp q))).1) ?_
    show Steps p.tables e below (T38.setTop (mkF m 520 #[.val (.long vv), .second, .val (.int ln), .val (.int os), .val (.int fi), .val (.int (v_len ln)), .val (.long (v_val vv ln)), .second, .val (.int (v_off os)), .val (.int (fi.toInt8.toInt32)), .val (.ref b1), .val (.int (Fpv (v_off os) (v_len ln))), .val (.int (1 : Int32)), .val (.long (v_p0 vv ln os fi)), .second, .val (.long (v_p1 vv ln os fi)), .second, .val (.long (v_p2 vv ln os fi)), .second, .val (.long (v_p3 vv ln os fi)), .second, .val (.long (v_p4 vv ln os fi)), .second, .val (.long (v_p5 vv ln os fi)), .second, .val (.long (v_p6 vv ln os fi)), .second, .val (.long (v_p7 vv ln os fi)), .second, .val (.long (v_p8 vv ln os fi)), .second, .unset, .unset] [])) _
    refine XS.lload X38.here hx rfl (hb hby at_520) rfl ?_
    show Steps p.tables e below (T38.setTop (mkF m 522 #[.val (.long vv), .second, .val (.int ln), .val (.int os), .val (.int fi), .val (.int (v_len ln)), .val (.long (v_val vv ln)), .second, .val (.int (v_off os)), .val (.int (fi.toInt8.toInt32)), .val (.ref b1), .val (.int (Fpv (v_off os) (v_len ln))), .val (.int (1 : Int32)), .val (.long (v_p0 vv ln os fi)), .second, .val (.long (v_p1 vv ln os fi)), .second, .val (.long (v_p2 vv ln os fi)), .second, .val (.long (v_p3 vv ln os fi)), .second, .val (.long (v_p4 vv ln os fi)), .second, .val (.long (v_p5 vv ln os fi)), .second, .val (.long (v_p6 vv ln os fi)), .second, .val (.long (v_p7 vv ln os fi)), .second, .val (.long (v_p8 vv ln os fi)), .second, .unset, .unset] [(.long (v_p8 vv ln os fi))])) _
    refine XS.lconst X38.here hx rfl (hb hby at_522) ?_
    show Steps p.tables e below (T38.setTop (mkF m 523 #[.val (.long vv), .second, .val (.int ln), .val (.int os), .val (.int fi), .val (.int (v_len ln)), .val (.long (v_val vv ln)), .second, .val (.int (v_off os)), .val (.int (fi.toInt8.toInt32)), .val (.ref b1), .val (.int (Fpv (v_off os) (v_len ln))), .val (.int (1 : Int32)), .val (.long (v_p0 vv ln os fi)), .second, .val (.long (v_p1 vv ln os fi)), .second, .val (.long (v_p2 vv ln os fi)), .second, .val (.long (v_p3 vv ln os fi)), .second, .val (.long (v_p4 vv ln os fi)), .second, .val (.long (v_p5 vv ln os fi)), .second, .val (.long (v_p6 vv ln os fi)), .second, .val (.long (v_p7 vv ln os fi)), .second, .val (.long (v_p8 vv ln os fi)), .second, .unset, .unset] [(.long (0 : Int64)), (.long (v_p8 vv ln os fi))])) _
    refine XS.lcmp X38.here hx rfl (hb hby at_523) rfl ?_
    show Steps p.tables e below (T38.setTop (mkF m 524 #[.val (.long vv), .second, .val (.int ln), .val (.int os), .val (.int fi), .val (.int (v_len ln)), .val (.long (v_val vv ln)), .second, .val (.int (v_off os)), .val (.int (fi.toInt8.toInt32)), .val (.ref b1), .val (.int (Fpv (v_off os) (v_len ln))), .val (.int (1 : Int32)), .val (.long (v_p0 vv ln os fi)), .second, .val (.long (v_p1 vv ln os fi)), .second, .val (.long (v_p2 vv ln os fi)), .second, .val (.long (v_p3 vv ln os fi)), .second, .val (.long (v_p4 vv ln os fi)), .second, .val (.long (v_p5 vv ln os fi)), .second, .val (.long (v_p6 vv ln os fi)), .second, .val (.long (v_p7 vv ln os fi)), .second, .val (.long (v_p8 vv ln os fi)), .second, .unset, .unset] [(.int (lcmpW (v_p8 vv ln os fi) (0 : Int64)))])) _
    refine XS.ifYes X38.here hx rfl (pc0 := 524) (pc' := 529) rfl (hb hby at_524) rfl ((if0 _ _).trans (flt (fun q => (own_pos9 vv ln os fi _ _ _ (own_p8 vv ln os fi) (by decide)) ((lw_lt _ _).mp q))).2.1) (by decide) (by decide) ?_
    show Steps p.tables e below (T38.setTop (mkF m 529 #[.val (.long vv), .second, .val (.int ln), .val (.int os), .val (.int fi), .val (.int (v_len ln)), .val (.long (v_val vv ln)), .second, .val (.int (v_off os)), .val (.int (fi.toInt8.toInt32)), .val (.ref b1), .val (.int (Fpv (v_off os) (v_len ln))), .val (.int (1 : Int32)), .val (.long (v_p0 vv ln os fi)), .second, .val (.long (v_p1 vv ln os fi)), .second, .val (.long (v_p2 vv ln os fi)), .second, .val (.long (v_p3 vv ln os fi)), .second, .val (.long (v_p4 vv ln os fi)), .second, .val (.long (v_p5 vv ln os fi)), .second, .val (.long (v_p6 vv ln os fi)), .second, .val (.long (v_p7 vv ln os fi)), .second, .val (.long (v_p8 vv ln os fi)), .second, .unset, .unset] [])) _
    refine XS.lload X38.here hx rfl (hb hby at_529) rfl ?_
    show Steps p.tables e below (T38.setTop (mkF m 531 #[.val (.long vv), .second, .val (.int ln), .val (.int os), .val (.int fi), .val (.int (v_len ln)), .val (.long (v_val vv ln)), .second, .val (.int (v_off os)), .val (.int (fi.toInt8.toInt32)), .val (.ref b1), .val (.int (Fpv (v_off os) (v_len ln))), .val (.int (1 : Int32)), .val (.long (v_p0 vv ln os fi)), .second, .val (.long (v_p1 vv ln os fi)), .second, .val (.long (v_p2 vv ln os fi)), .second, .val (.long (v_p3 vv ln os fi)), .second, .val (.long (v_p4 vv ln os fi)), .second, .val (.long (v_p5 vv ln os fi)), .second, .val (.long (v_p6 vv ln os fi)), .second, .val (.long (v_p7 vv ln os fi)), .second, .val (.long (v_p8 vv ln os fi)), .second, .unset, .unset] [(.long (v_p0 vv ln os fi))])) _
    refine XS.lload X38.here hx rfl (hb hby at_531) rfl ?_
    show Steps p.tables e below (T38.setTop (mkF m 533 #[.val (.long vv), .second, .val (.int ln), .val (.int os), .val (.int fi), .val (.int (v_len ln)), .val (.long (v_val vv ln)), .second, .val (.int (v_off os)), .val (.int (fi.toInt8.toInt32)), .val (.ref b1), .val (.int (Fpv (v_off os) (v_len ln))), .val (.int (1 : Int32)), .val (.long (v_p0 vv ln os fi)), .second, .val (.long (v_p1 vv ln os fi)), .second, .val (.long (v_p2 vv ln os fi)), .second, .val (.long (v_p3 vv ln os fi)), .second, .val (.long (v_p4 vv ln os fi)), .second, .val (.long (v_p5 vv ln os fi)), .second, .val (.long (v_p6 vv ln os fi)), .second, .val (.long (v_p7 vv ln os fi)), .second, .val (.long (v_p8 vv ln os fi)), .second, .unset, .unset] [(.long (v_p1 vv ln os fi)), (.long (v_p0 vv ln os fi))])) _
    refine XS.ladd X38.here hx rfl (hb hby at_533) rfl ?_
    show Steps p.tables e below (T38.setTop (mkF m 534 #[.val (.long vv), .second, .val (.int ln), .val (.int os), .val (.int fi), .val (.int (v_len ln)), .val (.long (v_val vv ln)), .second, .val (.int (v_off os)), .val (.int (fi.toInt8.toInt32)), .val (.ref b1), .val (.int (Fpv (v_off os) (v_len ln))), .val (.int (1 : Int32)), .val (.long (v_p0 vv ln os fi)), .second, .val (.long (v_p1 vv ln os fi)), .second, .val (.long (v_p2 vv ln os fi)), .second, .val (.long (v_p3 vv ln os fi)), .second, .val (.long (v_p4 vv ln os fi)), .second, .val (.long (v_p5 vv ln os fi)), .second, .val (.long (v_p6 vv ln os fi)), .second, .val (.long (v_p7 vv ln os fi)), .second, .val (.long (v_p8 vv ln os fi)), .second, .unset, .unset] [(.long ((v_p0 vv ln os fi) + (v_p1 vv ln os fi)))])) _
    refine XS.lload X38.here hx rfl (hb hby at_534) rfl ?_
    show Steps p.tables e below (T38.setTop (mkF m 536 #[.val (.long vv), .second, .val (.int ln), .val (.int os), .val (.int fi), .val (.int (v_len ln)), .val (.long (v_val vv ln)), .second, .val (.int (v_off os)), .val (.int (fi.toInt8.toInt32)), .val (.ref b1), .val (.int (Fpv (v_off os) (v_len ln))), .val (.int (1 : Int32)), .val (.long (v_p0 vv ln os fi)), .second, .val (.long (v_p1 vv ln os fi)), .second, .val (.long (v_p2 vv ln os fi)), .second, .val (.long (v_p3 vv ln os fi)), .second, .val (.long (v_p4 vv ln os fi)), .second, .val (.long (v_p5 vv ln os fi)), .second, .val (.long (v_p6 vv ln os fi)), .second, .val (.long (v_p7 vv ln os fi)), .second, .val (.long (v_p8 vv ln os fi)), .second, .unset, .unset] [(.long (v_p2 vv ln os fi)), (.long ((v_p0 vv ln os fi) + (v_p1 vv ln os fi)))])) _
    refine XS.ladd X38.here hx rfl (hb hby at_536) rfl ?_
    show Steps p.tables e below (T38.setTop (mkF m 537 #[.val (.long vv), .second, .val (.int ln), .val (.int os), .val (.int fi), .val (.int (v_len ln)), .val (.long (v_val vv ln)), .second, .val (.int (v_off os)), .val (.int (fi.toInt8.toInt32)), .val (.ref b1), .val (.int (Fpv (v_off os) (v_len ln))), .val (.int (1 : Int32)), .val (.long (v_p0 vv ln os fi)), .second, .val (.long (v_p1 vv ln os fi)), .second, .val (.long (v_p2 vv ln os fi)), .second, .val (.long (v_p3 vv ln os fi)), .second, .val (.long (v_p4 vv ln os fi)), .second, .val (.long (v_p5 vv ln os fi)), .second, .val (.long (v_p6 vv ln os fi)), .second, .val (.long (v_p7 vv ln os fi)), .second, .val (.long (v_p8 vv ln os fi)), .second, .unset, .unset] [(.long (((v_p0 vv ln os fi) + (v_p1 vv ln os fi)) + (v_p2 vv ln os fi)))])) _
    refine XS.lload X38.here hx rfl (hb hby at_537) rfl ?_
    show Steps p.tables e below (T38.setTop (mkF m 539 #[.val (.long vv), .second, .val (.int ln), .val (.int os), .val (.int fi), .val (.int (v_len ln)), .val (.long (v_val vv ln)), .second, .val (.int (v_off os)), .val (.int (fi.toInt8.toInt32)), .val (.ref b1), .val (.int (Fpv (v_off os) (v_len ln))), .val (.int (1 : Int32)), .val (.long (v_p0 vv ln os fi)), .second, .val (.long (v_p1 vv ln os fi)), .second, .val (.long (v_p2 vv ln os fi)), .second, .val (.long (v_p3 vv ln os fi)), .second, .val (.long (v_p4 vv ln os fi)), .second, .val (.long (v_p5 vv ln os fi)), .second, .val (.long (v_p6 vv ln os fi)), .second, .val (.long (v_p7 vv ln os fi)), .second, .val (.long (v_p8 vv ln os fi)), .second, .unset, .unset] [(.long (v_p3 vv ln os fi)), (.long (((v_p0 vv ln os fi) + (v_p1 vv ln os fi)) + (v_p2 vv ln os fi)))])) _
    refine XS.ladd X38.here hx rfl (hb hby at_539) rfl ?_
    show Steps p.tables e below (T38.setTop (mkF m 540 #[.val (.long vv), .second, .val (.int ln), .val (.int os), .val (.int fi), .val (.int (v_len ln)), .val (.long (v_val vv ln)), .second, .val (.int (v_off os)), .val (.int (fi.toInt8.toInt32)), .val (.ref b1), .val (.int (Fpv (v_off os) (v_len ln))), .val (.int (1 : Int32)), .val (.long (v_p0 vv ln os fi)), .second, .val (.long (v_p1 vv ln os fi)), .second, .val (.long (v_p2 vv ln os fi)), .second, .val (.long (v_p3 vv ln os fi)), .second, .val (.long (v_p4 vv ln os fi)), .second, .val (.long (v_p5 vv ln os fi)), .second, .val (.long (v_p6 vv ln os fi)), .second, .val (.long (v_p7 vv ln os fi)), .second, .val (.long (v_p8 vv ln os fi)), .second, .unset, .unset] [(.long ((((v_p0 vv ln os fi) + (v_p1 vv ln os fi)) + (v_p2 vv ln os fi)) + (v_p3 vv ln os fi)))])) _
    refine XS.lload X38.here hx rfl (hb hby at_540) rfl ?_
    show Steps p.tables e below (T38.setTop (mkF m 542 #[.val (.long vv), .second, .val (.int ln), .val (.int os), .val (.int fi), .val (.int (v_len ln)), .val (.long (v_val vv ln)), .second, .val (.int (v_off os)), .val (.int (fi.toInt8.toInt32)), .val (.ref b1), .val (.int (Fpv (v_off os) (v_len ln))), .val (.int (1 : Int32)), .val (.long (v_p0 vv ln os fi)), .second, .val (.long (v_p1 vv ln os fi)), .second, .val (.long (v_p2 vv ln os fi)), .second, .val (.long (v_p3 vv ln os fi)), .second, .val (.long (v_p4 vv ln os fi)), .second, .val (.long (v_p5 vv ln os fi)), .second, .val (.long (v_p6 vv ln os fi)), .second, .val (.long (v_p7 vv ln os fi)), .second, .val (.long (v_p8 vv ln os fi)), .second, .unset, .unset] [(.long (v_p4 vv ln os fi)), (.long ((((v_p0 vv ln os fi) + (v_p1 vv ln os fi)) + (v_p2 vv ln os fi)) + (v_p3 vv ln os fi)))])) _
    refine XS.ladd X38.here hx rfl (hb hby at_542) rfl ?_
    show Steps p.tables e below (T38.setTop (mkF m 543 #[.val (.long vv), .second, .val (.int ln), .val (.int os), .val (.int fi), .val (.int (v_len ln)), .val (.long (v_val vv ln)), .second, .val (.int (v_off os)), .val (.int (fi.toInt8.toInt32)), .val (.ref b1), .val (.int (Fpv (v_off os) (v_len ln))), .val (.int (1 : Int32)), .val (.long (v_p0 vv ln os fi)), .second, .val (.long (v_p1 vv ln os fi)), .second, .val (.long (v_p2 vv ln os fi)), .second, .val (.long (v_p3 vv ln os fi)), .second, .val (.long (v_p4 vv ln os fi)), .second, .val (.long (v_p5 vv ln os fi)), .second, .val (.long (v_p6 vv ln os fi)), .second, .val (.long (v_p7 vv ln os fi)), .second, .val (.long (v_p8 vv ln os fi)), .second, .unset, .unset] [(.long (((((v_p0 vv ln os fi) + (v_p1 vv ln os fi)) + (v_p2 vv ln os fi)) + (v_p3 vv ln os fi)) + (v_p4 vv ln os fi)))])) _
    refine XS.lload X38.here hx rfl (hb hby at_543) rfl ?_
    show Steps p.tables e below (T38.setTop (mkF m 545 #[.val (.long vv), .second, .val (.int ln), .val (.int os), .val (.int fi), .val (.int (v_len ln)), .val (.long (v_val vv ln)), .second, .val (.int (v_off os)), .val (.int (fi.toInt8.toInt32)), .val (.ref b1), .val (.int (Fpv (v_off os) (v_len ln))), .val (.int (1 : Int32)), .val (.long (v_p0 vv ln os fi)), .second, .val (.long (v_p1 vv ln os fi)), .second, .val (.long (v_p2 vv ln os fi)), .second, .val (.long (v_p3 vv ln os fi)), .second, .val (.long (v_p4 vv ln os fi)), .second, .val (.long (v_p5 vv ln os fi)), .second, .val (.long (v_p6 vv ln os fi)), .second, .val (.long (v_p7 vv ln os fi)), .second, .val (.long (v_p8 vv ln os fi)), .second, .unset, .unset] [(.long (v_p5 vv ln os fi)), (.long (((((v_p0 vv ln os fi) + (v_p1 vv ln os fi)) + (v_p2 vv ln os fi)) + (v_p3 vv ln os fi)) + (v_p4 vv ln os fi)))])) _
    refine XS.ladd X38.here hx rfl (hb hby at_545) rfl ?_
    show Steps p.tables e below (T38.setTop (mkF m 546 #[.val (.long vv), .second, .val (.int ln), .val (.int os), .val (.int fi), .val (.int (v_len ln)), .val (.long (v_val vv ln)), .second, .val (.int (v_off os)), .val (.int (fi.toInt8.toInt32)), .val (.ref b1), .val (.int (Fpv (v_off os) (v_len ln))), .val (.int (1 : Int32)), .val (.long (v_p0 vv ln os fi)), .second, .val (.long (v_p1 vv ln os fi)), .second, .val (.long (v_p2 vv ln os fi)), .second, .val (.long (v_p3 vv ln os fi)), .second, .val (.long (v_p4 vv ln os fi)), .second, .val (.long (v_p5 vv ln os fi)), .second, .val (.long (v_p6 vv ln os fi)), .second, .val (.long (v_p7 vv ln os fi)), .second, .val (.long (v_p8 vv ln os fi)), .second, .unset, .unset] [(.long ((((((v_p0 vv ln os fi) + (v_p1 vv ln os fi)) + (v_p2 vv ln os fi)) + (v_p3 vv ln os fi)) + (v_p4 vv ln os fi)) + (v_p5 vv ln os fi)))])) _
    refine XS.lload X38.here hx rfl (hb hby at_546) rfl ?_
    show Steps p.tables e below (T38.setTop (mkF m 548 #[.val (.long vv), .second, .val (.int ln), .val (.int os), .val (.int fi), .val (.int (v_len ln)), .val (.long (v_val vv ln)), .second, .val (.int (v_off os)), .val (.int (fi.toInt8.toInt32)), .val (.ref b1), .val (.int (Fpv (v_off os) (v_len ln))), .val (.int (1 : Int32)), .val (.long (v_p0 vv ln os fi)), .second, .val (.long (v_p1 vv ln os fi)), .second, .val (.long (v_p2 vv ln os fi)), .second, .val (.long (v_p3 vv ln os fi)), .second, .val (.long (v_p4 vv ln os fi)), .second, .val (.long (v_p5 vv ln os fi)), .second, .val (.long (v_p6 vv ln os fi)), .second, .val (.long (v_p7 vv ln os fi)), .second, .val (.long (v_p8 vv ln os fi)), .second, .unset, .unset] [(.long (v_p6 vv ln os fi)), (.long ((((((v_p0 vv ln os fi) + (v_p1 vv ln os fi)) + (v_p2 vv ln os fi)) + (v_p3 vv ln os fi)) + (v_p4 vv ln os fi)) + (v_p5 vv ln os fi)))])) _
    refine XS.ladd X38.here hx rfl (hb hby at_548) rfl ?_
    show Steps p.tables e below (T38.setTop (mkF m 549 #[.val (.long vv), .second, .val (.int ln), .val (.int os), .val (.int fi), .val (.int (v_len ln)), .val (.long (v_val vv ln)), .second, .val (.int (v_off os)), .val (.int (fi.toInt8.toInt32)), .val (.ref b1), .val (.int (Fpv (v_off os) (v_len ln))), .val (.int (1 : Int32)), .val (.long (v_p0 vv ln os fi)), .second, .val (.long (v_p1 vv ln os fi)), .second, .val (.long (v_p2 vv ln os fi)), .second, .val (.long (v_p3 vv ln os fi)), .second, .val (.long (v_p4 vv ln os fi)), .second, .val (.long (v_p5 vv ln os fi)), .second, .val (.long (v_p6 vv ln os fi)), .second, .val (.long (v_p7 vv ln os fi)), .second, .val (.long (v_p8 vv ln os fi)), .second, .unset, .unset] [(.long (((((((v_p0 vv ln os fi) + (v_p1 vv ln os fi)) + (v_p2 vv ln os fi)) + (v_p3 vv ln os fi)) + (v_p4 vv ln os fi)) + (v_p5 vv ln os fi)) + (v_p6 vv ln os fi)))])) _
    refine XS.lload X38.here hx rfl (hb hby at_549) rfl ?_
    show Steps p.tables e below (T38.setTop (mkF m 551 #[.val (.long vv), .second, .val (.int ln), .val (.int os), .val (.int fi), .val (.int (v_len ln)), .val (.long (v_val vv ln)), .second, .val (.int (v_off os)), .val (.int (fi.toInt8.toInt32)), .val (.ref b1), .val (.int (Fpv (v_off os) (v_len ln))), .val (.int (1 : Int32)), .val (.long (v_p0 vv ln os fi)), .second, .val (.long (v_p1 vv ln os fi)), .second, .val (.long (v_p2 vv ln os fi)), .second, .val (.long (v_p3 vv ln os fi)), .second, .val (.long (v_p4 vv ln os fi)), .second, .val (.long (v_p5 vv ln os fi)), .second, .val (.long (v_p6 vv ln os fi)), .second, .val (.long (v_p7 vv ln os fi)), .second, .val (.long (v_p8 vv ln os fi)), .second, .unset, .unset] [(.long (v_p7 vv ln os fi)), (.long (((((((v_p0 vv ln os fi) + (v_p1 vv ln os fi)) + (v_p2 vv ln os fi)) + (v_p3 vv ln os fi)) + (v_p4 vv ln os fi)) + (v_p5 vv ln os fi)) + (v_p6 vv ln os fi)))])) _
    refine XS.ladd X38.here hx rfl (hb hby at_551) rfl ?_
    show Steps p.tables e below (T38.setTop (mkF m 552 #[.val (.long vv), .second, .val (.int ln), .val (.int os), .val (.int fi), .val (.int (v_len ln)), .val (.long (v_val vv ln)), .second, .val (.int (v_off os)), .val (.int (fi.toInt8.toInt32)), .val (.ref b1), .val (.int (Fpv (v_off os) (v_len ln))), .val (.int (1 : Int32)), .val (.long (v_p0 vv ln os fi)), .second, .val (.long (v_p1 vv ln os fi)), .second, .val (.long (v_p2 vv ln os fi)), .second, .val (.long (v_p3 vv ln os fi)), .second, .val (.long (v_p4 vv ln os fi)), .second, .val (.long (v_p5 vv ln os fi)), .second, .val (.long (v_p6 vv ln os fi)), .second, .val (.long (v_p7 vv ln os fi)), .second, .val (.long (v_p8 vv ln os fi)), .second, .unset, .unset] [(.long ((((((((v_p0 vv ln os fi) + (v_p1 vv ln os fi)) + (v_p2 vv ln os fi)) + (v_p3 vv ln os fi)) + (v_p4 vv ln os fi)) + (v_p5 vv ln os fi)) + (v_p6 vv ln os fi)) + (v_p7 vv ln os fi)))])) _
    refine XS.lload X38.here hx rfl (hb hby at_552) rfl ?_
    show Steps p.tables e below (T38.setTop (mkF m 554 #[.val (.long vv), .second, .val (.int ln), .val (.int os), .val (.int fi), .val (.int (v_len ln)), .val (.long (v_val vv ln)), .second, .val (.int (v_off os)), .val (.int (fi.toInt8.toInt32)), .val (.ref b1), .val (.int (Fpv (v_off os) (v_len ln))), .val (.int (1 : Int32)), .val (.long (v_p0 vv ln os fi)), .second, .val (.long (v_p1 vv ln os fi)), .second, .val (.long (v_p2 vv ln os fi)), .second, .val (.long (v_p3 vv ln os fi)), .second, .val (.long (v_p4 vv ln os fi)), .second, .val (.long (v_p5 vv ln os fi)), .second, .val (.long (v_p6 vv ln os fi)), .second, .val (.long (v_p7 vv ln os fi)), .second, .val (.long (v_p8 vv ln os fi)), .second, .unset, .unset] [(.long (v_p8 vv ln os fi)), (.long ((((((((v_p0 vv ln os fi) + (v_p1 vv ln os fi)) + (v_p2 vv ln os fi)) + (v_p3 vv ln os fi)) + (v_p4 vv ln os fi)) + (v_p5 vv ln os fi)) + (v_p6 vv ln os fi)) + (v_p7 vv ln os fi)))])) _
    refine XS.ladd X38.here hx rfl (hb hby at_554) rfl ?_
    show Steps p.tables e below (T38.setTop (mkF m 555 #[.val (.long vv), .second, .val (.int ln), .val (.int os), .val (.int fi), .val (.int (v_len ln)), .val (.long (v_val vv ln)), .second, .val (.int (v_off os)), .val (.int (fi.toInt8.toInt32)), .val (.ref b1), .val (.int (Fpv (v_off os) (v_len ln))), .val (.int (1 : Int32)), .val (.long (v_p0 vv ln os fi)), .second, .val (.long (v_p1 vv ln os fi)), .second, .val (.long (v_p2 vv ln os fi)), .second, .val (.long (v_p3 vv ln os fi)), .second, .val (.long (v_p4 vv ln os fi)), .second, .val (.long (v_p5 vv ln os fi)), .second, .val (.long (v_p6 vv ln os fi)), .second, .val (.long (v_p7 vv ln os fi)), .second, .val (.long (v_p8 vv ln os fi)), .second, .unset, .unset] [(.long (((((((((v_p0 vv ln os fi) + (v_p1 vv ln os fi)) + (v_p2 vv ln os fi)) + (v_p3 vv ln os fi)) + (v_p4 vv ln os fi)) + (v_p5 vv ln os fi)) + (v_p6 vv ln os fi)) + (v_p7 vv ln os fi)) + (v_p8 vv ln os fi)))])) _
    refine XS.lstore X38.here hx rfl (hb hby at_555) rfl (l' := #[.val (.long vv), .second, .val (.int ln), .val (.int os), .val (.int fi), .val (.int (v_len ln)), .val (.long (v_val vv ln)), .second, .val (.int (v_off os)), .val (.int (fi.toInt8.toInt32)), .val (.ref b1), .val (.int (Fpv (v_off os) (v_len ln))), .val (.int (1 : Int32)), .val (.long (v_p0 vv ln os fi)), .second, .val (.long (v_p1 vv ln os fi)), .second, .val (.long (v_p2 vv ln os fi)), .second, .val (.long (v_p3 vv ln os fi)), .second, .val (.long (v_p4 vv ln os fi)), .second, .val (.long (v_p5 vv ln os fi)), .second, .val (.long (v_p6 vv ln os fi)), .second, .val (.long (v_p7 vv ln os fi)), .second, .val (.long (v_p8 vv ln os fi)), .second, .val (.long (v_sum vv ln os fi)), .second]) rfl ?_
    show Steps p.tables e below (T38.setTop (mkF m 557 #[.val (.long vv), .second, .val (.int ln), .val (.int os), .val (.int fi), .val (.int (v_len ln)), .val (.long (v_val vv ln)), .second, .val (.int (v_off os)), .val (.int (fi.toInt8.toInt32)), .val (.ref b1), .val (.int (Fpv (v_off os) (v_len ln))), .val (.int (1 : Int32)), .val (.long (v_p0 vv ln os fi)), .second, .val (.long (v_p1 vv ln os fi)), .second, .val (.long (v_p2 vv ln os fi)), .second, .val (.long (v_p3 vv ln os fi)), .second, .val (.long (v_p4 vv ln os fi)), .second, .val (.long (v_p5 vv ln os fi)), .second, .val (.long (v_p6 vv ln os fi)), .second, .val (.long (v_p7 vv ln os fi)), .second, .val (.long (v_p8 vv ln os fi)), .second, .val (.long (v_sum vv ln os fi)), .second] [])) _
    refine XS.lload X38.here hx rfl (hb hby at_557) rfl ?_
    show Steps p.tables e below (T38.setTop (mkF m 559 #[.val (.long vv), .second, .val (.int ln), .val (.int os), .val (.int fi), .val (.int (v_len ln)), .val (.long (v_val vv ln)), .second, .val (.int (v_off os)), .val (.int (fi.toInt8.toInt32)), .val (.ref b1), .val (.int (Fpv (v_off os) (v_len ln))), .val (.int (1 : Int32)), .val (.long (v_p0 vv ln os fi)), .second, .val (.long (v_p1 vv ln os fi)), .second, .val (.long (v_p2 vv ln os fi)), .second, .val (.long (v_p3 vv ln os fi)), .second, .val (.long (v_p4 vv ln os fi)), .second, .val (.long (v_p5 vv ln os fi)), .second, .val (.long (v_p6 vv ln os fi)), .second, .val (.long (v_p7 vv ln os fi)), .second, .val (.long (v_p8 vv ln os fi)), .second, .val (.long (v_sum vv ln os fi)), .second] [(.long (v_sum vv ln os fi))])) _
    refine XS.lload X38.here hx rfl (hb hby at_559) rfl ?_
    show Steps p.tables e below (T38.setTop (mkF m 561 #[.val (.long vv), .second, .val (.int ln), .val (.int os), .val (.int fi), .val (.int (v_len ln)), .val (.long (v_val vv ln)), .second, .val (.int (v_off os)), .val (.int (fi.toInt8.toInt32)), .val (.ref b1), .val (.int (Fpv (v_off os) (v_len ln))), .val (.int (1 : Int32)), .val (.long (v_p0 vv ln os fi)), .second, .val (.long (v_p1 vv ln os fi)), .second, .val (.long (v_p2 vv ln os fi)), .second, .val (.long (v_p3 vv ln os fi)), .second, .val (.long (v_p4 vv ln os fi)), .second, .val (.long (v_p5 vv ln os fi)), .second, .val (.long (v_p6 vv ln os fi)), .second, .val (.long (v_p7 vv ln os fi)), .second, .val (.long (v_p8 vv ln os fi)), .second, .val (.long (v_sum vv ln os fi)), .second] [(.long (v_val vv ln)), (.long (v_sum vv ln os fi))])) _
    refine XS.lcmp X38.here hx rfl (hb hby at_561) rfl ?_
    exact k
  have pre40 : ∀ t, Steps p.tables e below (T38.setTop (mkF m 570 #[.val (.long vv), .second, .val (.int ln), .val (.int os), .val (.int fi), .val (.int (v_len ln)), .val (.long (v_val vv ln)), .second, .val (.int (v_off os)), .val (.int (fi.toInt8.toInt32)), .val (.ref b1), .val (.int (Fpv (v_off os) (v_len ln))), .val (.int (1 : Int32)), .val (.long (v_p0 vv ln os fi)), .second, .val (.long (v_p1 vv ln os fi)), .second, .val (.long (v_p2 vv ln os fi)), .second, .val (.long (v_p3 vv ln os fi)), .second, .val (.long (v_p4 vv ln os fi)), .second, .val (.long (v_p5 vv ln os fi)), .second, .val (.long (v_p6 vv ln os fi)), .second, .val (.long (v_p7 vv ln os fi)), .second, .val (.long (v_p8 vv ln os fi)), .second, .val (.long (v_sum vv ln os fi)), .second] [(.int (b2i (if (v_sum vv ln os fi) = (v_val vv ln) then true else false)))])) t → Steps p.tables e below (s₁.setTop (entryFrame m #[(.long vv), (.int ln), (.int os), (.int fi)] maxLocals)) t := by
    intro t k
    refine pre39 t ?_
    have k : ∀ (v1 : Bool), v1 = (if (v_sum vv ln os fi) = (v_val vv ln) then true else false) → Steps p.tables e below (T38.setTop (mkF m 570 #[.val (.long vv), .second, .val (.int ln), .val (.int os), .val (.int fi), .val (.int (v_len ln)), .val (.long (v_val vv ln)), .second, .val (.int (v_off os)), .val (.int (fi.toInt8.toInt32)), .val (.ref b1), .val (.int (Fpv (v_off os) (v_len ln))), .val (.int (1 : Int32)), .val (.long (v_p0 vv ln os fi)), .second, .val (.long (v_p1 vv ln os fi)), .second, .val (.long (v_p2 vv ln os fi)), .second, .val (.long (v_p3 vv ln os fi)), .second, .val (.long (v_p4 vv ln os fi)), .second, .val (.long (v_p5 vv ln os fi)), .second, .val (.long (v_p6 vv ln os fi)), .second, .val (.long (v_p7 vv ln os fi)), .second, .val (.long (v_p8 vv ln os fi)), .second, .val (.long (v_sum vv ln os fi)), .second] [(.int (b2i v1))])) t := fun v1 hv1 => by subst hv1; exact k
    show Steps p.tables e below (T38.setTop (mkF m 562 #[.val (.long vv), .second, .val (.int ln), .val (.int os), .val (.int fi), .val (.int (v_len ln)), .val (.long (v_val vv ln)), .second, .val (.int (v_off os)), .val (.int (fi.toInt8.toInt32)), .val (.ref b1), .val (.int (Fpv (v_off os) (v_len ln))), .val (.int (1 : Int32)), .val (.long (v_p0 vv ln os fi)), .second, .val (.long (v_p1 vv ln os fi)), .second, .val (.long (v_p2 vv ln os fi)), .second, .val (.long (v_p3 vv ln os fi)), .second, .val (.long (v_p4 vv ln os fi)), .second, .val (.long (v_p5 vv ln os fi)), .second, .val (.long (v_p6 vv ln os fi)), .second, .val (.long (v_p7 vv ln os fi)), .second, .val (.long (v_p8 vv ln os fi)), .second, .val (.long (v_sum vv ln os fi)), .second] [(.int (lcmpW (v_sum vv ln os fi) (v_val vv ln)))])) _
    by_cases hc41 : (v_sum vv ln os fi) = (v_val vv ln)
    · refine XS.ifNo X38.here hx rfl (hb hby at_562) rfl ((if0 _ _).trans (teq ((lw_eq _ _).mpr hc41)).2) ?_
      have k : ∀ (v1 : Bool), v1 = true → Steps p.tables e below (T38.setTop (mkF m 570 #[.val (.long vv), .second, .val (.int ln), .val (.int os), .val (.int fi), .val (.int (v_len ln)), .val (.long (v_val vv ln)), .second, .val (.int (v_off os)), .val (.int (fi.toInt8.toInt32)), .val (.ref b1), .val (.int (Fpv (v_off os) (v_len ln))), .val (.int (1 : Int32)), .val (.long (v_p0 vv ln os fi)), .second, .val (.long (v_p1 vv ln os fi)), .second, .val (.long (v_p2 vv ln os fi)), .second, .val (.long (v_p3 vv ln os fi)), .second, .val (.long (v_p4 vv ln os fi)), .second, .val (.long (v_p5 vv ln os fi)), .second, .val (.long (v_p6 vv ln os fi)), .second, .val (.long (v_p7 vv ln os fi)), .second, .val (.long (v_p8 vv ln os fi)), .second, .val (.long (v_sum vv ln os fi)), .second] [(.int (b2i v1))])) t := fun v1 hv1 => k v1 (hv1.trans (if_pos hc41).symm)
      show Steps p.tables e below (T38.setTop (mkF m 565 #[.val (.long vv), .second, .val (.int ln), .val (.int os), .val (.int fi), .val (.int (v_len ln)), .val (.long (v_val vv ln)), .second, .val (.int (v_off os)), .val (.int (fi.toInt8.toInt32)), .val (.ref b1), .val (.int (Fpv (v_off os) (v_len ln))), .val (.int (1 : Int32)), .val (.long (v_p0 vv ln os fi)), .second, .val (.long (v_p1 vv ln os fi)), .second, .val (.long (v_p2 vv ln os fi)), .second, .val (.long (v_p3 vv ln os fi)), .second, .val (.long (v_p4 vv ln os fi)), .second, .val (.long (v_p5 vv ln os fi)), .second, .val (.long (v_p6 vv ln os fi)), .second, .val (.long (v_p7 vv ln os fi)), .second, .val (.long (v_p8 vv ln os fi)), .second, .val (.long (v_sum vv ln os fi)), .second] [])) _
      refine XS.iconst X38.here hx rfl (hb hby at_565) ?_
      show Steps p.tables e below (T38.setTop (mkF m 566 #[.val (.long vv), .second, .val (.int ln), .val (.int os), .val (.int fi), .val (.int (v_len ln)), .val (.long (v_val vv ln)), .second, .val (.int (v_off os)), .val (.int (fi.toInt8.toInt32)), .val (.ref b1), .val (.int (Fpv (v_off os) (v_len ln))), .val (.int (1 : Int32)), .val (.long (v_p0 vv ln os fi)), .second, .val (.long (v_p1 vv ln os fi)), .second, .val (.long (v_p2 vv ln os fi)), .second, .val (.long (v_p3 vv ln os fi)), .second, .val (.long (v_p4 vv ln os fi)), .second, .val (.long (v_p5 vv ln os fi)), .second, .val (.long (v_p6 vv ln os fi)), .second, .val (.long (v_p7 vv ln os fi)), .second, .val (.long (v_p8 vv ln os fi)), .second, .val (.long (v_sum vv ln os fi)), .second] [(.int (1 : Int32))])) _
      refine XS.goto X38.here hx rfl (pc0 := 566) (pc' := 570) rfl (hb hby at_566) (by decide) (by decide) ?_
      exact k true rfl
    · refine XS.ifYes X38.here hx rfl (pc0 := 562) (pc' := 569) rfl (hb hby at_562) rfl ((if0 _ _).trans (feq (fun q => hc41 ((lw_eq _ _).mp q))).2) (by decide) (by decide) ?_
      have k : ∀ (v1 : Bool), v1 = false → Steps p.tables e below (T38.setTop (mkF m 570 #[.val (.long vv), .second, .val (.int ln), .val (.int os), .val (.int fi), .val (.int (v_len ln)), .val (.long (v_val vv ln)), .second, .val (.int (v_off os)), .val (.int (fi.toInt8.toInt32)), .val (.ref b1), .val (.int (Fpv (v_off os) (v_len ln))), .val (.int (1 : Int32)), .val (.long (v_p0 vv ln os fi)), .second, .val (.long (v_p1 vv ln os fi)), .second, .val (.long (v_p2 vv ln os fi)), .second, .val (.long (v_p3 vv ln os fi)), .second, .val (.long (v_p4 vv ln os fi)), .second, .val (.long (v_p5 vv ln os fi)), .second, .val (.long (v_p6 vv ln os fi)), .second, .val (.long (v_p7 vv ln os fi)), .second, .val (.long (v_p8 vv ln os fi)), .second, .val (.long (v_sum vv ln os fi)), .second] [(.int (b2i v1))])) t := fun v1 hv1 => k v1 (hv1.trans (if_neg hc41).symm)
      show Steps p.tables e below (T38.setTop (mkF m 569 #[.val (.long vv), .second, .val (.int ln), .val (.int os), .val (.int fi), .val (.int (v_len ln)), .val (.long (v_val vv ln)), .second, .val (.int (v_off os)), .val (.int (fi.toInt8.toInt32)), .val (.ref b1), .val (.int (Fpv (v_off os) (v_len ln))), .val (.int (1 : Int32)), .val (.long (v_p0 vv ln os fi)), .second, .val (.long (v_p1 vv ln os fi)), .second, .val (.long (v_p2 vv ln os fi)), .second, .val (.long (v_p3 vv ln os fi)), .second, .val (.long (v_p4 vv ln os fi)), .second, .val (.long (v_p5 vv ln os fi)), .second, .val (.long (v_p6 vv ln os fi)), .second, .val (.long (v_p7 vv ln os fi)), .second, .val (.long (v_p8 vv ln os fi)), .second, .val (.long (v_sum vv ln os fi)), .second] [])) _
      refine XS.iconst X38.here hx rfl (hb hby at_569) ?_
      exact k false rfl
  have hlaw : (if (v_sum vv ln os fi) = (v_val vv ln) then true else false) = true := own_law1 vv ln os fi
  obtain ⟨fs, hr, hrun, hended, hW, hsame⟩ := X38.leave (v := some (.int (1 : Int32))) (fun h => by rw [Bd.returns] at h; cases h) (BodyLoose.notSynchronized Bd)
  refine ⟨_, _, pre40 _ ?_, hrun, hended, _, _, rfl, ?_, ⟨_, rfl⟩, hW, hsame.mono (by decide) (by decide)⟩
  · show Steps p.tables e below (T38.setTop (mkF m 570 #[.val (.long vv), .second, .val (.int ln), .val (.int os), .val (.int fi), .val (.int (v_len ln)), .val (.long (v_val vv ln)), .second, .val (.int (v_off os)), .val (.int (fi.toInt8.toInt32)), .val (.ref b1), .val (.int (Fpv (v_off os) (v_len ln))), .val (.int (1 : Int32)), .val (.long (v_p0 vv ln os fi)), .second, .val (.long (v_p1 vv ln os fi)), .second, .val (.long (v_p2 vv ln os fi)), .second, .val (.long (v_p3 vv ln os fi)), .second, .val (.long (v_p4 vv ln os fi)), .second, .val (.long (v_p5 vv ln os fi)), .second, .val (.long (v_p6 vv ln os fi)), .second, .val (.long (v_p7 vv ln os fi)), .second, .val (.long (v_p8 vv ln os fi)), .second, .val (.long (v_sum vv ln os fi)), .second] [(.int (b2i (if (v_sum vv ln os fi) = (v_val vv ln) then true else false)))])) _
    exact retN X38 hx (t := .boolean) Bd.returns (by simp) (hb hby at_570) (by rw [b2i_one hlaw]; exact hr)
  · show Q0 Z vv ln os fi h0 n0 _ T38.heap _
    rw [e38]
    exact ⟨rfl, N38⟩
set_option maxRecDepth 65536 in
set_option maxHeartbeats 40000000 in
theorem comes_1 {Post : Tables → Env → Array Value → State → Outcome → State → Prop} (hpost : ∀ tb e args s v u, (limb_1_1.after args s (.returned v) u = true ∧ limb_1_2.after args s (.returned v) u = true ∧ True) → FrameEnd s (.returned v) u (Jvm.fieldLocs frame_1_writes args s ++ Jvm.arrayLocs frame_1_arrays args s ++ Jvm.staticLocs frame_1_statics s) 16 128 → Post tb e args s (.returned v) u) :
    ArmFor flags0 classFile x code maxLocals ret World_1 tables_1 room_1 Calls_1 rest_1 Pre_1 Post := by
  intro l hfl _ _ p e ha hc hk s m args below hf hA hF happ hP
  obtain ⟨hcalls, hrest, hpre⟩ := hP
  obtain ⟨-, -, -, hnamed, -, -, -, hat⟩ := (Spec.applies_iff hf).mp happ
  obtain ⟨hg, hn⟩ := and_e (Cond.before_iff.mp (show (Jvm.Cond.and given_1 narrow_1).before args s = true from hpre))
  obtain ⟨g1, g2⟩ := and_e hg
  obtain ⟨g3, g4⟩ := and_e g2
  obtain ⟨g5, g6⟩ := and_e g4
  obtain ⟨g7, g8⟩ := and_e g6
  obtain ⟨w0, w1, w2, w3, rfl⟩ : ∃ w0 w1 w2 w3 : Value, args = #[w0, w1, w2, w3] := by
    have hs : args.size = 4 := by simpa [Cond.value, given_1] using g1
    obtain ⟨L⟩ := args
    match L, hs with
    | [w0, w1, w2, w3], _ => exact ⟨w0, w1, w2, w3, rfl⟩
  have hw := fun d (hd : d ∈ tables_1) => atoms_spec (ws := Jvm.Cond.code x code maxLocals ret :: tables_1) hat d (List.mem_cons_of_mem _ hd)
  obtain ⟨i0, ei0⟩ := isL_v g3
  obtain rfl : w0 = (.long i0) := Option.some.inj ei0
  obtain ⟨i1, ei1⟩ := is_v g5
  obtain rfl : w1 = (.int i1) := Option.some.inj ei1
  obtain ⟨i2, ei2⟩ := is_v g7
  obtain rfl : w2 = (.int i2) := Option.some.inj ei2
  obtain ⟨i3, ei3⟩ := is_v g8
  obtain rfl : w3 = (.int i3) := Option.some.inj ei3
  obtain ⟨n, o, h1, h2, h3, _, L, rfl, ⟨rfl, N⟩, hq⟩ := rm0 l s _ hw tables_1 i0 i1 i2 i3 s.heap s.heap.size (Nat.le_refl _) p e ha hc hk s m _ below hf ((Spec.applies_iff_loose hf).mp happ).1 ⟨rfl, State.Warmed39.refl s, rfl⟩ trivial
  refine ⟨n, _, h1, h2, h3, hpost _ _ _ _ _ _ ⟨Cond.after_iff.mpr rfl, Cond.after_iff.mpr (eq_i res_at (Term.int_eval (1)) rfl), trivial⟩ ⟨hq.1, hq.2.1, (hq.2.2.sift fun y hy => Or.inr (N y hy)).mono (by decide) (by decide)⟩⟩
theorem main_1_1 : Claimed_1_1 := comes_1 fun _ _ _ _ _ _ h hF => ⟨h.1, hF⟩
theorem main_1_2 : Claimed_1_2 := comes_1 fun _ _ _ _ _ _ h hF => ⟨h.2.1, hF⟩
end Jvm.Pilot.@@N@@
namespace Jvm.Pilot.@@N@@
open Jvm Jvm.ClassFile Sem Op Lib Jvm.Free Jvm.Stand Jvm.Pilot.@@N@@.Jvm.D
/-! MADE BY PROGRAM (witnessworld.py) out of the Statement's table words and the real class files: 9 classes; the members and pool entries that the words name. The judged class is class 1, her method 1. -/
namespace start1
open Jvm.ClassFile
def u (s : String) : CpInfo := .utf8 (stringToUtf16 s)
/-- a pool by its gaps: so many unusable entries, then the entry; so many at the end -/
def gap : Nat → List CpInfo → List CpInfo
  | 0, r => r
  | n + 1, r => .unusable :: gap n r
def poolList (es : List (Nat × CpInfo)) (last : Nat) : List CpInfo := es.foldr (fun e r => gap e.1 (e.2 :: r)) (gap last [])
def pool (es : List (Nat × CpInfo)) (last : Nat) : Array CpInfo := ⟨poolList es last⟩
def fileOf (pool : Array CpInfo) (this : Nat) (attrs : Array Attribute := #[]) (ms : Array MethodInfo := #[]) (fl : Nat := 33) (sup : Nat := 0) (ifs : Array Nat := #[]) (fds : Array FieldInfo := #[]) : ClassFile where
  minorVersion := 0
  majorVersion := 65
  constantPool := pool
  accessFlags := fl
  thisClass := this
  superClass := sup
  interfaces := ifs
  fields := fds
  methods := ms
  attributes := attrs
def plain (name : String) (sup : Option ClassId) : Class where
  name := name
  kind := .ordinary
  loader := none
  accessFlags := 33
  super := sup
  interfaces := #[]
  cf := none
  fields := #[]
  methods := #[]
  instanceTypes := #[]
  staticTypes := #[]
  resolved := #[]
  callSites := []
  init := .initialized
  statics := none
  mirror := none

def pool0 : Array CpInfo := pool [(5, u "<init>"), (0, u "()V"), (1, .class_ 10), (1, u "java/lang/Object")] 113

def k0m0 : Method := { name := "<init>", desc := "()V", sig := { parameters := [], returnType := none }, accessFlags := 1, code := none }
/-- java/lang/Object -/
def k0 : Class := { plain "java/lang/Object" none with
  accessFlags := 33
  interfaces := #[]
  cf := some (fileOf pool0 8 #[] #[{ accessFlags := 1, nameIndex := 5, descriptorIndex := 6, attributes := #[] }] 33 0 #[] #[])
  fields := #[]
  methods := #[k0m0]
  instanceTypes := #[]
  staticTypes := #[]
  resolved := Array.replicate 124 none
  statics := none }

def pool1 : Array CpInfo := pool [(2, .class_ 4), (1, u "java/lang/Object"), (0, u "<init>"), (0, u "()V"), (0, .integer 2147483647), (0, .methodref 9 10), (0, .class_ 11), (0, .nameAndType 12 13), (0, u "com/example/tamsui/tamsui/encoded/EncodedForm"), (0, u "putVarint"), (0, u "([BIJI)I"), (0, .methodref 15 16), (0, .class_ 17), (0, .nameAndType 18 19), (0, u "com/example/tamsui/tamsui/encoded/EncodedFormPutVarintPinLaw"), (0, u "untouched"), (0, u "([BIIBI)Z"), (0, .methodref 15 21), (0, .nameAndType 22 23), (0, u "part"), (0, u "([BIII)J"), (0, .long 18446744073709551615), (3, u "law"), (0, u "(JIII)Z")] 5

def k1m0 : Method := { name := "<init>", desc := "()V", sig := { parameters := [], returnType := none }, accessFlags := 1, code := none }
def k1c1 : Code := { maxStack := 6, maxLocals := 33, code := code, exceptionTable := #[], attributes := #[] }
def k1m1 : Method := { name := "law", desc := "(JIII)Z", sig := { parameters := [.long, .int, .int, .int], returnType := some .boolean }, accessFlags := 9, code := some k1c1 }
def k1c2 : Code := { maxStack := 3, maxLocals := 5, code := method_3_code, exceptionTable := #[], attributes := #[] }
def k1m2 : Method := { name := "untouched", desc := "([BIIBI)Z", sig := { parameters := [(.array .byte), .int, .int, .byte, .int], returnType := some .boolean }, accessFlags := 10, code := some k1c2 }
def k1c3 : Code := { maxStack := 4, maxLocals := 5, code := method_4_code, exceptionTable := #[], attributes := #[] }
def k1m3 : Method := { name := "part", desc := "([BIII)J", sig := { parameters := [(.array .byte), .int, .int, .int], returnType := some .long }, accessFlags := 10, code := some k1c3 }
/-- com/example/tamsui/tamsui/encoded/EncodedFormPutVarintPinLaw -/
def k1 : Class := { plain "com/example/tamsui/tamsui/encoded/EncodedFormPutVarintPinLaw" (some 0) with
  accessFlags := 49
  interfaces := #[]
  cf := some (fileOf pool1 15 #[] #[{ accessFlags := 1, nameIndex := 5, descriptorIndex := 6, attributes := #[] }, { accessFlags := 9, nameIndex := 28, descriptorIndex := 29, attributes := #[] }, { accessFlags := 10, nameIndex := 18, descriptorIndex := 19, attributes := #[] }, { accessFlags := 10, nameIndex := 22, descriptorIndex := 23, attributes := #[] }] 49 2 #[] #[])
  fields := #[]
  methods := #[k1m0, k1m1, k1m2, k1m3]
  instanceTypes := #[]
  staticTypes := #[]
  resolved := Array.replicate 35 none
  statics := none }

def pool2 : Array CpInfo := pool [(2, .class_ 4), (1, u "java/lang/Object"), (0, u "<init>"), (0, u "()V"), (1, .class_ 10), (1, u "com/example/tamsui/tamsui/encoded/EncodedForm"), (0, u "SIGNATURE"), (0, u "[B"), (39, .long 127), (1, .long 128), (1, u "VERSION"), (0, u "I"), (2, u "VERSION_AT"), (1, u "BLOCK_SHIFT_AT"), (1, u "RESERVED_AT"), (1, u "BODY_LENGTH_AT"), (1, u "DICTIONARY_LENGTH_AT"), (1, u "INDEX_LENGTH_AT"), (1, u "TABLE_CHECKSUM_AT"), (1, u "HEADER_CHECKSUM_AT"), (1, u "HEADER_LENGTH"), (1, u "BLOCK_SHIFT"), (1, u "MIN_BLOCK_SHIFT"), (0, u "MAX_BLOCK_SHIFT"), (0, u "END"), (1, u "TEXT"), (1, u "COMMENT"), (1, u "INSTRUCTION"), (1, u "ELEMENT"), (0, u "DECLARES"), (0, u "ATTRIBUTES"), (0, u "NAME"), (0, u "BINDING"), (0, u "PLACE"), (0, u "NOT_FOLLOWED"), (0, u "J"), (2, u "DOCUMENT_ELEMENT"), (2, u "PARENT_PLACE"), (2, u "MAX_FOLLOWED"), (1, u "MOST_HEADS"), (1, u "MAX_VARINT"), (13, u "putVarint"), (0, u "([BIJI)I")] 3

def k2m0 : Method := { name := "<init>", desc := "()V", sig := { parameters := [], returnType := none }, accessFlags := 2, code := none }
def k2c1 : Code := { maxStack := 6, maxLocals := 8, code := prog_10_method_6_code, exceptionTable := #[], attributes := #[] }
def k2m1 : Method := { name := "putVarint", desc := "([BIJI)I", sig := { parameters := [(.array .byte), .int, .long, .int], returnType := some .int }, accessFlags := 8, code := some k2c1 }
/-- com/example/tamsui/tamsui/encoded/EncodedForm -/
def k2 : Class := { plain "com/example/tamsui/tamsui/encoded/EncodedForm" (some 0) with
  accessFlags := 48
  interfaces := #[]
  cf := some (fileOf pool2 8 #[] #[{ accessFlags := 2, nameIndex := 5, descriptorIndex := 6, attributes := #[] }, { accessFlags := 8, nameIndex := 124, descriptorIndex := 125, attributes := #[] }] 48 2 #[] #[{ accessFlags := 24, nameIndex := 11, descriptorIndex := 12, attributes := #[] }, { accessFlags := 24, nameIndex := 56, descriptorIndex := 57, attributes := #[] }, { accessFlags := 24, nameIndex := 60, descriptorIndex := 57, attributes := #[] }, { accessFlags := 24, nameIndex := 62, descriptorIndex := 57, attributes := #[] }, { accessFlags := 24, nameIndex := 64, descriptorIndex := 57, attributes := #[] }, { accessFlags := 24, nameIndex := 66, descriptorIndex := 57, attributes := #[] }, { accessFlags := 24, nameIndex := 68, descriptorIndex := 57, attributes := #[] }, { accessFlags := 24, nameIndex := 70, descriptorIndex := 57, attributes := #[] }, { accessFlags := 24, nameIndex := 72, descriptorIndex := 57, attributes := #[] }, { accessFlags := 24, nameIndex := 74, descriptorIndex := 57, attributes := #[] }, { accessFlags := 24, nameIndex := 76, descriptorIndex := 57, attributes := #[] }, { accessFlags := 24, nameIndex := 78, descriptorIndex := 57, attributes := #[] }, { accessFlags := 24, nameIndex := 80, descriptorIndex := 57, attributes := #[] }, { accessFlags := 24, nameIndex := 81, descriptorIndex := 57, attributes := #[] }, { accessFlags := 24, nameIndex := 82, descriptorIndex := 57, attributes := #[] }, { accessFlags := 24, nameIndex := 84, descriptorIndex := 57, attributes := #[] }, { accessFlags := 24, nameIndex := 86, descriptorIndex := 57, attributes := #[] }, { accessFlags := 24, nameIndex := 88, descriptorIndex := 57, attributes := #[] }, { accessFlags := 24, nameIndex := 90, descriptorIndex := 57, attributes := #[] }, { accessFlags := 24, nameIndex := 91, descriptorIndex := 57, attributes := #[] }, { accessFlags := 24, nameIndex := 92, descriptorIndex := 57, attributes := #[] }, { accessFlags := 24, nameIndex := 93, descriptorIndex := 57, attributes := #[] }, { accessFlags := 24, nameIndex := 94, descriptorIndex := 57, attributes := #[] }, { accessFlags := 24, nameIndex := 95, descriptorIndex := 57, attributes := #[] }, { accessFlags := 24, nameIndex := 96, descriptorIndex := 97, attributes := #[] }, { accessFlags := 24, nameIndex := 100, descriptorIndex := 97, attributes := #[] }, { accessFlags := 24, nameIndex := 103, descriptorIndex := 97, attributes := #[] }, { accessFlags := 24, nameIndex := 106, descriptorIndex := 57, attributes := #[] }, { accessFlags := 24, nameIndex := 108, descriptorIndex := 57, attributes := #[] }, { accessFlags := 24, nameIndex := 110, descriptorIndex := 57, attributes := #[] }])
  fields := #[{ name := "SIGNATURE", type := (.array .byte), accessFlags := 24, slot := 0, constantValue := 0 }, { name := "VERSION", type := .int, accessFlags := 24, slot := 1, constantValue := 0 }, { name := "VERSION_AT", type := .int, accessFlags := 24, slot := 2, constantValue := 0 }, { name := "BLOCK_SHIFT_AT", type := .int, accessFlags := 24, slot := 3, constantValue := 0 }, { name := "RESERVED_AT", type := .int, accessFlags := 24, slot := 4, constantValue := 0 }, { name := "BODY_LENGTH_AT", type := .int, accessFlags := 24, slot := 5, constantValue := 0 }, { name := "DICTIONARY_LENGTH_AT", type := .int, accessFlags := 24, slot := 6, constantValue := 0 }, { name := "INDEX_LENGTH_AT", type := .int, accessFlags := 24, slot := 7, constantValue := 0 }, { name := "TABLE_CHECKSUM_AT", type := .int, accessFlags := 24, slot := 8, constantValue := 0 }, { name := "HEADER_CHECKSUM_AT", type := .int, accessFlags := 24, slot := 9, constantValue := 0 }, { name := "HEADER_LENGTH", type := .int, accessFlags := 24, slot := 10, constantValue := 0 }, { name := "BLOCK_SHIFT", type := .int, accessFlags := 24, slot := 11, constantValue := 0 }, { name := "MIN_BLOCK_SHIFT", type := .int, accessFlags := 24, slot := 12, constantValue := 0 }, { name := "MAX_BLOCK_SHIFT", type := .int, accessFlags := 24, slot := 13, constantValue := 0 }, { name := "END", type := .int, accessFlags := 24, slot := 14, constantValue := 0 }, { name := "TEXT", type := .int, accessFlags := 24, slot := 15, constantValue := 0 }, { name := "COMMENT", type := .int, accessFlags := 24, slot := 16, constantValue := 0 }, { name := "INSTRUCTION", type := .int, accessFlags := 24, slot := 17, constantValue := 0 }, { name := "ELEMENT", type := .int, accessFlags := 24, slot := 18, constantValue := 0 }, { name := "DECLARES", type := .int, accessFlags := 24, slot := 19, constantValue := 0 }, { name := "ATTRIBUTES", type := .int, accessFlags := 24, slot := 20, constantValue := 0 }, { name := "NAME", type := .int, accessFlags := 24, slot := 21, constantValue := 0 }, { name := "BINDING", type := .int, accessFlags := 24, slot := 22, constantValue := 0 }, { name := "PLACE", type := .int, accessFlags := 24, slot := 23, constantValue := 0 }, { name := "NOT_FOLLOWED", type := .long, accessFlags := 24, slot := 24, constantValue := 0 }, { name := "DOCUMENT_ELEMENT", type := .long, accessFlags := 24, slot := 25, constantValue := 0 }, { name := "PARENT_PLACE", type := .long, accessFlags := 24, slot := 26, constantValue := 0 }, { name := "MAX_FOLLOWED", type := .int, accessFlags := 24, slot := 27, constantValue := 0 }, { name := "MOST_HEADS", type := .int, accessFlags := 24, slot := 28, constantValue := 0 }, { name := "MAX_VARINT", type := .int, accessFlags := 24, slot := 29, constantValue := 0 }]
  methods := #[k2m0, k2m1]
  instanceTypes := #[]
  staticTypes := #[(.array .byte), .int, .int, .int, .int, .int, .int, .int, .int, .int, .int, .int, .int, .int, .int, .int, .int, .int, .int, .int, .int, .int, .int, .int, .long, .long, .long, .int, .int, .int]
  resolved := Array.replicate 129 none
  statics := none }

def pool3 : Array CpInfo := pool [(1, u "java/lang/Cloneable"), (0, .class_ 1), (0, u "java/lang/Object"), (0, .class_ 3)] 3

/-- java/lang/Cloneable -/
def k3 : Class := { plain "java/lang/Cloneable" (some 0) with
  accessFlags := 1537
  interfaces := #[]
  cf := some (fileOf pool3 2 #[] #[] 1537 4 #[] #[])
  fields := #[]
  methods := #[]
  instanceTypes := #[]
  staticTypes := #[]
  resolved := Array.replicate 8 none
  statics := none }

def pool4 : Array CpInfo := pool [(1, u "java/io/Serializable"), (0, .class_ 1), (0, u "java/lang/Object"), (0, .class_ 3)] 3

/-- java/io/Serializable -/
def k4 : Class := { plain "java/io/Serializable" (some 0) with
  accessFlags := 1537
  interfaces := #[]
  cf := some (fileOf pool4 2 #[] #[] 1537 4 #[] #[])
  fields := #[]
  methods := #[]
  instanceTypes := #[]
  staticTypes := #[]
  resolved := Array.replicate 8 none
  statics := none }

/-- the primitive byte -/
def k5 : Class := { plain "byte" none with kind := .primitive 'B', accessFlags := 0x411 }
/-- [B -/
def k6 : Class := { plain "[B" (some 0) with kind := .array 5 .byte, interfaces := #[3, 4], accessFlags := 1041 }

/-- the primitive int -/
def k7 : Class := { plain "int" none with kind := .primitive 'I', accessFlags := 0x411 }
/-- [I -/
def k8 : Class := { plain "[I" (some 0) with kind := .array 7 .int, interfaces := #[3, 4], accessFlags := 1041 }

def heap : Heap := #[]
def classes : Array Class := #[k0, k1, k2, k3, k4, k5, k6, k7, k8]
def interned : List (Array UInt16 × Addr) := []
def slotsUsed : Nat := 0
def theMethod : MethodId := ⟨1, 1⟩
def args0 : Array Value := #[.long 5, .int 3, .int 7, .int 4]
def aboutOver (below : List Frame) : State where
  vm := { classes := classes, interned := interned.toArray }
  heap := heap
  slotsUsed := slotsUsed
  threads := #[{ frames := .invoking theMethod args0 :: below }]
def below0 : List Frame := [.native { method := ⟨0, 0⟩, args := #[] }]
def about1 : State := aboutOver below0
def p0 : Program := .bare "" "" ""
def e0 : Env := launch0.env 0 0 0
theorem w_frames : about1.frames = Frame.invoking theMethod args0 :: below0 := rfl
set_option maxRecDepth 65536 in
theorem w_args : argsFit about1.vm theMethod args0 = true := by decide +kernel
set_option maxRecDepth 65536 in
theorem w_heap : heapFits about1 = true := by decide +kernel
set_option maxRecDepth 65536 in
theorem w_runnable : about1.curStatus? = some .runnable := by decide +kernel
set_option maxRecDepth 65536 in
theorem w_alone : about1.alone = true := by decide +kernel
set_option maxRecDepth 65536 in
theorem w_named : about1.methodNamed? x = some theMethod := by decide +kernel
set_option maxRecDepth 65536 in
theorem w_hears : about1.hears theMethod below0 = true := by decide +kernel
set_option maxRecDepth 65536 in
theorem w_ripe : about1.ripe theMethod args0 below0 = true := by decide +kernel
theorem w_running : about1.status = .running := rfl
set_option maxRecDepth 65536 in
theorem w_room : about1.hasRoom e0.platform room_1 = true :=
  launch0.hasRoom_least _ room_1 (by decide +kernel) (by decide +kernel) (by decide +kernel) (by decide +kernel) (by decide +kernel) (by decide +kernel)
theorem allAtoms_all (ts : List Jvm.Cond) (a : Array Jvm.Value) (st : Jvm.State) : (allAtoms ts).before a st = ts.all (fun c => c.before a st) := by
  induction ts with
  | nil => rfl
  | cons c t ih =>
    show (Jvm.Cond.and c (allAtoms t)).before a st = _
    rw [Jvm.Cond.before_and, ih, List.all_cons]
def words1 : List Jvm.Cond := Jvm.Cond.code x code maxLocals ret :: tables_1
/-- a 'code' word, met by the world's own term for the bytes: nothing is compared byte by byte -/
theorem code_word {y : MethodName} {bytes : ByteArray} {mx : Nat} {rt : Option FieldType} {a : Array Value} {s : State} {m : MethodId} {meth : Method} {c : Code} (h1 : s.methodNamed? y = some m) (h2 : s.vm.method? m = some meth) (h3 : meth.code = some c) (h4 : c.code = bytes)
    (h5 : (c.maxLocals == mx && c.exceptionTable.isEmpty && decide (c.maxStack ≤ mostOperands) && decide (meth.sig.returnType = rt) && !meth.locks && decide (parseMethodDescriptor y.desc = some meth.sig)) = true) : (Jvm.Cond.code y bytes mx rt).before a s = true := by
  simp only [Bool.and_eq_true, beq_iff_eq, Bool.not_eq_true', decide_eq_true_eq] at h5
  obtain ⟨⟨⟨⟨⟨g1, g2⟩, g3⟩, g4⟩, g5⟩, g6⟩ := h5
  simp [Cond.before, Cond.holds, Cond.value, h1, h2, h3, h4, g1, g2, g3, g4, g5, g6]
def isCode : Jvm.Cond → Bool
  | .code _ _ _ _ => true
  | _ => false
theorem all_split {L : List Jvm.Cond} {P : Jvm.Cond → Bool} (h1 : L.all (fun c => isCode c || P c) = true) (h2 : ∀ c ∈ L.filter isCode, P c = true) : L.all P = true := by
  refine List.all_eq_true.mpr fun c hc => ?_
  have h := List.all_eq_true.mp h1 c hc
  rcases Bool.eq_false_or_eq_true (isCode c) with hi | hi
  · exact h2 c (List.mem_filter.mpr ⟨hc, hi⟩)
  · simpa [hi] using h
set_option maxRecDepth 65536 in
theorem w_c0 : (Jvm.Cond.code x code maxLocals ret).before args0 about1 = true := code_word (m := ⟨1, 1⟩) (meth := k1m1) (c := k1c1) (by decide +kernel) rfl rfl rfl (by decide +kernel)
set_option maxRecDepth 65536 in
theorem w_c1 : (Jvm.Cond.code ({ cls := "com/example/tamsui/tamsui/encoded/EncodedForm", name := "putVarint", desc := "([BIJI)I" } : Jvm.MethodName) prog_10_method_6_code (8 : Nat) (Option.some Jvm.ClassFile.FieldType.int)).before args0 about1 = true := code_word (m := ⟨2, 1⟩) (meth := k2m1) (c := k2c1) (by decide +kernel) rfl rfl rfl (by decide +kernel)
set_option maxRecDepth 65536 in
theorem w_c2 : (Jvm.Cond.code ({ cls := "com/example/tamsui/tamsui/encoded/EncodedFormPutVarintPinLaw", name := "untouched", desc := "([BIIBI)Z" } : Jvm.MethodName) method_3_code (5 : Nat) (Option.some Jvm.ClassFile.FieldType.boolean)).before args0 about1 = true := code_word (m := ⟨1, 2⟩) (meth := k1m2) (c := k1c2) (by decide +kernel) rfl rfl rfl (by decide +kernel)
set_option maxRecDepth 65536 in
theorem w_c3 : (Jvm.Cond.code ({ cls := "com/example/tamsui/tamsui/encoded/EncodedFormPutVarintPinLaw", name := "part", desc := "([BIII)J" } : Jvm.MethodName) method_4_code (5 : Nat) (Option.some Jvm.ClassFile.FieldType.long)).before args0 about1 = true := code_word (m := ⟨1, 3⟩) (meth := k1m3) (c := k1c3) (by decide +kernel) rfl rfl rfl (by decide +kernel)
def codes1 : List Jvm.Cond := [Jvm.Cond.code x code maxLocals ret, Jvm.Cond.code ({ cls := "com/example/tamsui/tamsui/encoded/EncodedForm", name := "putVarint", desc := "([BIJI)I" } : Jvm.MethodName) prog_10_method_6_code (8 : Nat) (Option.some Jvm.ClassFile.FieldType.int), Jvm.Cond.code ({ cls := "com/example/tamsui/tamsui/encoded/EncodedFormPutVarintPinLaw", name := "untouched", desc := "([BIIBI)Z" } : Jvm.MethodName) method_3_code (5 : Nat) (Option.some Jvm.ClassFile.FieldType.boolean), Jvm.Cond.code ({ cls := "com/example/tamsui/tamsui/encoded/EncodedFormPutVarintPinLaw", name := "part", desc := "([BIII)J" } : Jvm.MethodName) method_4_code (5 : Nat) (Option.some Jvm.ClassFile.FieldType.long)]
set_option maxRecDepth 65536 in
theorem codes_eq : words1.filter isCode = codes1 := rfl
theorem w_codes : ∀ c ∈ words1.filter isCode, c.before args0 about1 = true := by
  rw [codes_eq]
  intro c hc
  simp only [codes1, List.mem_cons, List.not_mem_nil, or_false] at hc
  rcases hc with rfl | rfl | rfl | rfl
  · exact w_c0
  · exact w_c1
  · exact w_c2
  · exact w_c3
set_option maxRecDepth 65536 in
theorem w_t1 : words1.all (fun c => isCode c || c.before args0 about1) = true := by decide +kernel
theorem w_tables : (allAtoms (Jvm.Cond.code x code maxLocals ret :: tables_1)).before args0 about1 = true := by
  rw [allAtoms_all]
  show words1.all (fun c => c.before args0 about1) = true
  refine all_split ?_ w_codes
  rw [w_t1]
set_option maxRecDepth 65536 in
theorem w_case : (Jvm.Cond.and given_1 narrow_1).before args0 about1 = true := by decide +kernel
theorem w_applies : (headSpec (Jvm.Cond.code x code maxLocals ret :: tables_1) room_1).applies x e0.platform about1 = true :=
  (Spec.applies_iff w_frames).mpr ⟨w_running, w_runnable, w_alone, w_named, w_hears, w_ripe, w_room, w_tables⟩
theorem atStart : AtStart classFile x code maxLocals ret World_1 tables_1 room_1 Calls_1 rest_1 Pre_1 launch0 p0 e0 about1 theMethod args0 below0 :=
  ⟨lists_1, trivial, launch0.admits_env _ _ _, launch0.least_env, fairChoices_fair.cas, fairChoices_fair.clock, w_frames, w_args, w_heap, w_applies, trivial, trivial, w_case⟩
end start1
theorem witness_1 : WitnessClaimed_1 := ⟨start1.p0, start1.e0, start1.about1, start1.theMethod, start1.args0, start1.below0, start1.atStart⟩
end Jvm.Pilot.@@N@@
