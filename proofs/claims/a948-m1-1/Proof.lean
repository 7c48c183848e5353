import JvmDerived
import JvmDerived.Pilot.@@N@@Statement
import JvmDerived.Pilot.@@N@@Code
set_option linter.unusedVariables false
set_option linter.unusedSimpArgs false
namespace Jvm.RoadKit
open Sem ClassFile Op Lib Jvm.Stand Jvm.Free Jvm.LawKit
section New
variable {p : Program} {l : Launch} {e : Env} {R : Room} {s : State} {m : MethodId} {args : Array Value} {below : List Frame} {meth : Method} {c : Code} {T : State} {locs : List Loc} {cells slots : Nat}
theorem retI (X : Stand p l e R s m args below meth c T locs cells slots) (hx : p.tables.exec = Jvm.exec) {pc : Nat} {Ls : Array Slot} {z : Int32} {rest : List Value} (hret : meth.sig.returnType = some .int) (hd : decode c.code pc = .ok (.ireturn, 1)) {fs : List Frame}
    (hl : ∀ (f : JFrame) (acts : List Action), f.method = m → f.locked = none → f.entered = [] → (doReturn e (T.setTop f) acts (some (.int z))).1 = T.setFrames fs) : Steps p.tables e below (T.setTop (mkF m pc Ls (.int z :: rest))) (T.setFrames fs) := by
  have hm' : T.vm.method? m = some meth := X.method'
  have hn : narrow .int (.int z) = .int z := rfl
  show Steps p.tables e below (T.setTop { method := m, pc := pc, locals := Ls, stack := _ :: rest, locked := none }) _
  jvm_step X.here [X.here.top, hx, hd, hm', hret, hn]
  first | (intro acts; rw [hl _ acts rfl rfl rfl]) | rw [hl _ _ rfl rfl rfl]
  exact Steps.refl _
end New
end Jvm.RoadKit
namespace Jvm.OwnKit
open Sem ClassFile Op Lib Jvm.Stand Jvm.Free Jvm.LawKit Jvm.RoadKit
def b2i (b : Bool) : Int32 := if b = true then 1 else 0
theorem b2i_eq {b : Bool} (h : ¬ b = true) : b2i b = 0 := if_neg h
theorem b2i_ne {b : Bool} (h : b = true) : ¬ b2i b = 0 := by rw [b2i, if_pos h]; decide
theorem nar_b2i (b : Bool) : nar .boolean (b2i b) = b2i b := by cases b <;> decide
theorem b2i_one {b : Bool} (h : b = true) : nar .boolean (b2i b) = 1 := by rw [h]; decide
end Jvm.OwnKit
namespace Jvm.OwnKit
open Sem ClassFile Op Lib Jvm.Stand Jvm.Free Jvm.LawKit Jvm.RoadKit
section Arrays
variable {Z : State} {h h' : Heap} {a b : Addr} {ty : FieldType} {z : Int32} {G : Int32 → Value}
def AG (Z : State) (h : Heap) (a : Addr) (ty : FieldType) (z : Int32) (G : Int32 → Value) : Prop := ∃ c : Cell, Arr Z h a c ty ∧ c.slots.size = z.toNatClampNeg ∧ ¬ z < 0 ∧ ∀ j : Int32, ¬ j < 0 → j < z → c.slots[j.toNatClampNeg]? = some (G j)
def AJ (Z : State) (h : Heap) (a : Addr) (z : Int32) (f : Int32 → Int64) : Prop := AG Z h a .long z (fun i => .long (f i))
def AI (Z : State) (h : Heap) (a : Addr) (ty : FieldType) (z : Int32) (f : Int32 → Int32) : Prop := AG Z h a ty z (fun i => .int (f i))
def upA {α : Type} (f : Int32 → α) (j : Int32) (v : α) : Int32 → α := fun i => if i = j then v else f i
theorem upA_hit {α : Type} {f : Int32 → α} {j : Int32} {v : α} : upA f j v j = v := if_pos rfl
theorem upA_miss {α : Type} {f : Int32 → α} {i j : Int32} {v : α} (q : ¬ i = j) : upA f j v i = f i := if_neg q
theorem AG.lt (F : AG Z h a ty z G) : a < h.size := by obtain ⟨c, A, -⟩ := F; exact A.lt
theorem AG.ext (F : AG Z h a ty z G) (E : Ext h h') : AG Z h' a ty z G := by obtain ⟨c, A, r⟩ := F; exact ⟨c, A.ext E, r⟩
theorem AG.other (F : AG Z h b ty z G) {sl : Nat} {v : Value} (W : Wr h h' a sl v) (q : b ≠ a) : AG Z h' b ty z G := by obtain ⟨c, A, r⟩ := F; exact ⟨c, A.other W q, r⟩
theorem AG.new {k : ClassId} (A : Arr Z h a (newA k ty z) ty) (q : ¬ z < 0) : AG Z h a ty z (fun _ => defaultValue ty) :=
  ⟨_, A, sz_new _ _ _, q, fun j h1 h2 => get_new (by have w := inb_of (sz_new k ty z) ⟨h1, h2⟩; rwa [sz_new] at w)⟩
theorem AG.set (F : AG Z h a ty z G) {j : Int32} {v : Value} (W : Wr h h' a j.toNatClampNeg v) (q : ¬ j < 0 ∧ j < z) : AG Z h' a ty z (upA G j v) := by
  obtain ⟨c, A, S, M, H⟩ := F
  refine ⟨_, A.same W, by rw [sz_set]; exact S, M, fun i h1 h2 => ?_⟩
  by_cases e : i = j
  · rw [upA, if_pos e]; exact get_hit (inb_of S q) e
  · rw [upA, if_neg e, get_miss q.1 h1 e]; exact H i h1 h2
theorem AG.keep (F : AG Z h a ty z G) {ws : List Addr} (K : Keep h h' ws) (q : a ∉ ws) : AG Z h' a ty z G := by obtain ⟨c, A, r⟩ := F; exact ⟨c, ⟨K.2.1 a c A.1 q, A.2⟩, r⟩
theorem AJ.keep {f : Int32 → Int64} (F : AJ Z h a z f) {ws : List Addr} (K : Keep h h' ws) (q : a ∉ ws) : AJ Z h' a z f := AG.keep F K q
theorem AI.keep {f : Int32 → Int32} (F : AI Z h a ty z f) {ws : List Addr} (K : Keep h h' ws) (q : a ∉ ws) : AI Z h' a ty z f := AG.keep F K q
theorem AJ.lt {f : Int32 → Int64} (F : AJ Z h a z f) : a < h.size := AG.lt F
theorem AI.lt {f : Int32 → Int32} (F : AI Z h a ty z f) : a < h.size := AG.lt F
theorem AJ.ext {f : Int32 → Int64} (F : AJ Z h a z f) (E : Ext h h') : AJ Z h' a z f := AG.ext F E
theorem AI.ext {f : Int32 → Int32} (F : AI Z h a ty z f) (E : Ext h h') : AI Z h' a ty z f := AG.ext F E
theorem AJ.other {f : Int32 → Int64} (F : AJ Z h b z f) {sl : Nat} {v : Value} (W : Wr h h' a sl v) (q : b ≠ a) : AJ Z h' b z f := AG.other F W q
theorem AI.other {f : Int32 → Int32} (F : AI Z h b ty z f) {sl : Nat} {v : Value} (W : Wr h h' a sl v) (q : b ≠ a) : AI Z h' b ty z f := AG.other F W q
theorem AJ.set {f : Int32 → Int64} (F : AJ Z h a z f) {j : Int32} {v : Int64} (W : Wr h h' a j.toNatClampNeg (.long v)) (q : ¬ j < 0 ∧ j < z) : AJ Z h' a z (upA f j v) := by
  have e : (fun i => Value.long (upA f j v i)) = upA (fun i => Value.long (f i)) j (.long v) := funext fun i => by unfold upA; split <;> rfl
  unfold AJ; rw [e]; exact AG.set F W q
theorem AI.set {f : Int32 → Int32} (F : AI Z h a ty z f) {j v : Int32} (W : Wr h h' a j.toNatClampNeg (.int v)) (q : ¬ j < 0 ∧ j < z) : AI Z h' a ty z (upA f j v) := by
  have e : (fun i => Value.int (upA f j v i)) = upA (fun i => Value.int (f i)) j (.int v) := funext fun i => by unfold upA; split <;> rfl
  unfold AI; rw [e]; exact AG.set F W q
theorem AJ.congr {f g : Int32 → Int64} (F : AJ Z h a z f) (q : ∀ j : Int32, ¬ j < 0 → j < z → f j = g j) : AJ Z h a z g := by
  obtain ⟨c, A, S, M, H⟩ := F; exact ⟨c, A, S, M, fun j h1 h2 => (H j h1 h2).trans (congrArg (fun v => some (Value.long v)) (q j h1 h2))⟩
theorem AI.congr {f g : Int32 → Int32} (F : AI Z h a ty z f) (q : ∀ j : Int32, ¬ j < 0 → j < z → f j = g j) : AI Z h a ty z g := by
  obtain ⟨c, A, S, M, H⟩ := F; exact ⟨c, A, S, M, fun j h1 h2 => (H j h1 h2).trans (congrArg (fun v => some (Value.int v)) (q j h1 h2))⟩
theorem AJ.new {k : ClassId} (A : Arr Z h a (newA k .long z) .long) (q : ¬ z < 0) : AJ Z h a z (fun _ => 0) := AG.new A q
theorem AI.new {k : ClassId} (A : Arr Z h a (newA k .int z) .int) (q : ¬ z < 0) : AI Z h a .int z (fun _ => 0) := AG.new A q
theorem AI.newB {k : ClassId} (A : Arr Z h a (newA k .byte z) .byte) (q : ¬ z < 0) : AI Z h a .byte z (fun _ => 0) := AG.new A q
theorem AI.newZ {k : ClassId} (A : Arr Z h a (newA k .boolean z) .boolean) (q : ¬ z < 0) : AI Z h a .boolean z (fun _ => 0) := AG.new A q
variable {p : Program} {l : Launch} {e : Env} {R : Room} {s : State} {m : MethodId} {args : Array Value} {below : List Frame} {meth : Method} {c : Code} {T : State} {locs : List Loc} {cells slots : Nat} {g : JFrame} {rest : List Value} {j : Int32}
theorem rdJ {f : Int32 → Int64} {y : Int64} (X : Stand p l e R s m args below meth c T locs cells slots) (hx : p.tables.exec = Jvm.exec) (hZ : Z.Warmed39 s.vm) (eT : T.heap = h) (F : AJ Z h a z f) (q : ¬ j < 0 ∧ j < z) (hv : f j = y) (hg : g.method = m) (hs : g.stack = .int j :: .ref a :: rest) (hd : decode c.code g.pc = .ok (.laload, 1)) (target : State)
    (hr : Steps p.tables e below (T.setTop { g with pc := g.pc + 1, stack := .long y :: rest }) target) : Steps p.tables e below (T.setTop g) target := by
  subst hv
  obtain ⟨cl, A, S, M, H⟩ := F
  exact X.laload hx (by rw [eT]; exact A.1) (State.isArrayOf_alike hZ.alike A.2.1) A.2.2 (inb_of S q) (H j q.1 q.2) hg hs hd target hr
theorem rdI {f : Int32 → Int32} {y : Int32} (X : Stand p l e R s m args below meth c T locs cells slots) (hx : p.tables.exec = Jvm.exec) (hZ : Z.Warmed39 s.vm) (eT : T.heap = h) (F : AI Z h a .int z f) (q : ¬ j < 0 ∧ j < z) (hv : f j = y) (hg : g.method = m) (hs : g.stack = .int j :: .ref a :: rest) (hd : decode c.code g.pc = .ok (.iaload, 1)) (target : State)
    (hr : Steps p.tables e below (T.setTop { g with pc := g.pc + 1, stack := .int y :: rest }) target) : Steps p.tables e below (T.setTop g) target := by
  subst hv
  obtain ⟨cl, A, S, M, H⟩ := F
  exact X.iaload hx (by rw [eT]; exact A.1) (State.isArrayOf_alike hZ.alike A.2.1) A.2.2 (inb_of S q) (H j q.1 q.2) hg hs hd target hr
theorem rdB {f : Int32 → Int32} {y : Int32} (X : Stand p l e R s m args below meth c T locs cells slots) (hx : p.tables.exec = Jvm.exec) (hZ : Z.Warmed39 s.vm) (eT : T.heap = h) (F : AI Z h a .byte z f) (q : ¬ j < 0 ∧ j < z) (hv : f j = y) (hg : g.method = m) (hs : g.stack = .int j :: .ref a :: rest) (hd : decode c.code g.pc = .ok (.baload, 1)) (target : State)
    (hr : Steps p.tables e below (T.setTop { g with pc := g.pc + 1, stack := .int y :: rest }) target) : Steps p.tables e below (T.setTop g) target := by
  subst hv
  obtain ⟨cl, A, S, M, H⟩ := F
  exact X.baloadBytes hx (by rw [eT]; exact A.1) (State.isArrayOf_alike hZ.alike A.2.1) A.2.2 (inb_of S q) (H j q.1 q.2) hg hs hd target hr
theorem rdZ {f : Int32 → Int32} {y : Int32} (X : Stand p l e R s m args below meth c T locs cells slots) (hx : p.tables.exec = Jvm.exec) (hZ : Z.Warmed39 s.vm) (eT : T.heap = h) (F : AI Z h a .boolean z f) (q : ¬ j < 0 ∧ j < z) (hv : f j = y) (hg : g.method = m) (hs : g.stack = .int j :: .ref a :: rest) (hd : decode c.code g.pc = .ok (.baload, 1)) (target : State)
    (hr : Steps p.tables e below (T.setTop { g with pc := g.pc + 1, stack := .int y :: rest }) target) : Steps p.tables e below (T.setTop g) target := by
  subst hv
  obtain ⟨cl, A, S, M, H⟩ := F
  exact X.baloadBooleans hx (by rw [eT]; exact A.1) (State.isArrayOf_alike hZ.alike A.2.1) A.2.2 (inb_of S q) (H j q.1 q.2) hg hs hd target hr
theorem lnG (X : Stand p l e R s m args below meth c T locs cells slots) (hx : p.tables.exec = Jvm.exec) (hZ : Z.Warmed39 s.vm) (eT : T.heap = h) (F : AG Z h a ty z G) (hg : g.method = m) (hs : g.stack = .ref a :: rest) (hd : decode c.code g.pc = .ok (.arraylength, 1)) (target : State)
    (hr : Steps p.tables e below (T.setTop { g with pc := g.pc + 1, stack := .int z :: rest }) target) : Steps p.tables e below (T.setTop g) target := by
  obtain ⟨cl, A, S, M, H⟩ := F
  refine X.arraylength hx (by rw [eT]; exact A.1) (State.isArrayOf_alike hZ.alike A.2.1) hg hs hd target ?_
  rw [len_of S M]; exact hr
theorem wrJ {f : Int32 → Int64} {x : Int64} (X : Stand p l e R s m args below meth c T locs cells slots) (hx : p.tables.exec = Jvm.exec) (hZ : Z.Warmed39 s.vm) (eT : T.heap = h) (F : AJ Z h a z f) (q : ¬ j < 0 ∧ j < z) (hg : g.method = m) (hs : g.stack = .long x :: .int j :: .ref a :: rest) (hd : decode c.code g.pc = .ok (.lastore, 1)) :
    ∃ T' h', Stand p l e R s m args below meth c T' (locs ++ [⟨a, j.toNatClampNeg⟩]) cells slots ∧ T'.heap = h' ∧ Wr h h' a j.toNatClampNeg (.long x) ∧ AJ Z h' a z (upA f j x) ∧ ∀ target, Steps p.tables e below (T'.setTop { g with pc := g.pc + 1, stack := rest }) target → Steps p.tables e below (T.setTop g) target := by
  have F' := F
  obtain ⟨cl, A, S, M, H⟩ := F
  obtain ⟨T', h', X', e', W, st⟩ := stJ X hx hZ eT A (inb_of S q) hg hs hd
  exact ⟨T', h', X', e', W, AJ.set F' W q, st⟩
theorem wrI {f : Int32 → Int32} {x : Int32} (X : Stand p l e R s m args below meth c T locs cells slots) (hx : p.tables.exec = Jvm.exec) (hZ : Z.Warmed39 s.vm) (eT : T.heap = h) (F : AI Z h a .int z f) (q : ¬ j < 0 ∧ j < z) (hg : g.method = m) (hs : g.stack = .int x :: .int j :: .ref a :: rest) (hd : decode c.code g.pc = .ok (.iastore, 1)) :
    ∃ T' h', Stand p l e R s m args below meth c T' (locs ++ [⟨a, j.toNatClampNeg⟩]) cells slots ∧ T'.heap = h' ∧ Wr h h' a j.toNatClampNeg (.int x) ∧ AI Z h' a .int z (upA f j x) ∧ ∀ target, Steps p.tables e below (T'.setTop { g with pc := g.pc + 1, stack := rest }) target → Steps p.tables e below (T.setTop g) target := by
  have F' := F
  obtain ⟨cl, A, S, M, H⟩ := F
  obtain ⟨T', h', X', e', W, st⟩ := stI X hx hZ eT A (inb_of S q) hg hs hd
  exact ⟨T', h', X', e', W, AI.set F' W q, st⟩
theorem wrB {f : Int32 → Int32} {x y : Int32} (X : Stand p l e R s m args below meth c T locs cells slots) (hx : p.tables.exec = Jvm.exec) (hZ : Z.Warmed39 s.vm) (eT : T.heap = h) (F : AI Z h a .byte z f) (q : ¬ j < 0 ∧ j < z) (hn : nar .byte x = y) (hg : g.method = m) (hs : g.stack = .int x :: .int j :: .ref a :: rest) (hd : decode c.code g.pc = .ok (.bastore, 1)) :
    ∃ T' h', Stand p l e R s m args below meth c T' (locs ++ [⟨a, j.toNatClampNeg⟩]) cells slots ∧ T'.heap = h' ∧ Wr h h' a j.toNatClampNeg (.int y) ∧ AI Z h' a .byte z (upA f j y) ∧ ∀ target, Steps p.tables e below (T'.setTop { g with pc := g.pc + 1, stack := rest }) target → Steps p.tables e below (T.setTop g) target := by
  have F' := F
  obtain ⟨cl, A, S, M, H⟩ := F
  obtain ⟨T', h', X', e', W, st⟩ := stB X hx hZ eT A (inb_of S q) hg hs hd
  rw [hn] at W
  exact ⟨T', h', X', e', W, AI.set F' W q, st⟩
theorem wrZ {f : Int32 → Int32} {x y : Int32} (X : Stand p l e R s m args below meth c T locs cells slots) (hx : p.tables.exec = Jvm.exec) (hZ : Z.Warmed39 s.vm) (eT : T.heap = h) (F : AI Z h a .boolean z f) (q : ¬ j < 0 ∧ j < z) (hn : nar .boolean x = y) (hg : g.method = m) (hs : g.stack = .int x :: .int j :: .ref a :: rest) (hd : decode c.code g.pc = .ok (.bastore, 1)) :
    ∃ T' h', Stand p l e R s m args below meth c T' (locs ++ [⟨a, j.toNatClampNeg⟩]) cells slots ∧ T'.heap = h' ∧ Wr h h' a j.toNatClampNeg (.int y) ∧ AI Z h' a .boolean z (upA f j y) ∧ ∀ target, Steps p.tables e below (T'.setTop { g with pc := g.pc + 1, stack := rest }) target → Steps p.tables e below (T.setTop g) target := by
  have F' := F
  obtain ⟨cl, A, S, M, H⟩ := F
  obtain ⟨T', h', X', e', W, st⟩ := stZ X hx hZ eT A (inb_of S q) hg hs hd
  rw [hn] at W
  exact ⟨T', h', X', e', W, AI.set F' W q, st⟩
theorem nar_byte (x : Int32) : nar .byte x.toInt8.toInt32 = x.toInt8.toInt32 := by
  show x.toInt8.toInt32.toInt8.toInt32 = x.toInt8.toInt32
  rw [Int8.toInt8_toInt32]
end Arrays
end Jvm.OwnKit
namespace Jvm.Pilot.@@N@@
open Jvm Jvm.ClassFile Sem Op Lib Jvm.Free Jvm.Stand Jvm.LawKit Jvm.RoadKit Jvm.OwnKit Bundle Jvm.Pilot.@@N@@.Jvm.D
theorem d1_0 : decode prog_157_method_4_code 0 = .ok (.iload_n 0, 1) := by decide +kernel
theorem d1_1 : decode prog_157_method_4_code 1 = .ok (.sipush 128, 3) := by decide +kernel
theorem d1_4 : decode prog_157_method_4_code 4 = .ok (.if_icmp .ge 48, 3) := by decide +kernel
theorem d1_7 : decode prog_157_method_4_code 7 = .ok (.iload_n 0, 1) := by decide +kernel
theorem d1_8 : decode prog_157_method_4_code 8 = .ok (.bipush 97, 2) := by decide +kernel
theorem d1_10 : decode prog_157_method_4_code 10 = .ok (.if_icmp .lt 9, 3) := by decide +kernel
theorem d1_13 : decode prog_157_method_4_code 13 = .ok (.iload_n 0, 1) := by decide +kernel
theorem d1_14 : decode prog_157_method_4_code 14 = .ok (.bipush 122, 2) := by decide +kernel
theorem d1_16 : decode prog_157_method_4_code 16 = .ok (.if_icmp .le 27, 3) := by decide +kernel
theorem d1_19 : decode prog_157_method_4_code 19 = .ok (.iload_n 0, 1) := by decide +kernel
theorem d1_20 : decode prog_157_method_4_code 20 = .ok (.bipush 65, 2) := by decide +kernel
theorem d1_22 : decode prog_157_method_4_code 22 = .ok (.if_icmp .lt 9, 3) := by decide +kernel
theorem d1_25 : decode prog_157_method_4_code 25 = .ok (.iload_n 0, 1) := by decide +kernel
theorem d1_26 : decode prog_157_method_4_code 26 = .ok (.bipush 90, 2) := by decide +kernel
theorem d1_28 : decode prog_157_method_4_code 28 = .ok (.if_icmp .le 15, 3) := by decide +kernel
theorem d1_31 : decode prog_157_method_4_code 31 = .ok (.iload_n 0, 1) := by decide +kernel
theorem d1_32 : decode prog_157_method_4_code 32 = .ok (.bipush 95, 2) := by decide +kernel
theorem d1_34 : decode prog_157_method_4_code 34 = .ok (.if_icmp .eq 9, 3) := by decide +kernel
theorem d1_37 : decode prog_157_method_4_code 37 = .ok (.iload_n 0, 1) := by decide +kernel
theorem d1_38 : decode prog_157_method_4_code 38 = .ok (.bipush 58, 2) := by decide +kernel
theorem d1_40 : decode prog_157_method_4_code 40 = .ok (.if_icmp .ne 7, 3) := by decide +kernel
theorem d1_43 : decode prog_157_method_4_code 43 = .ok (.iconst 1, 1) := by decide +kernel
theorem d1_44 : decode prog_157_method_4_code 44 = .ok (.goto 4, 3) := by decide +kernel
theorem d1_47 : decode prog_157_method_4_code 47 = .ok (.iconst 0, 1) := by decide +kernel
theorem d1_48 : decode prog_157_method_4_code 48 = .ok (.istore_n 1, 1) := by decide +kernel
theorem d1_49 : decode prog_157_method_4_code 49 = .ok (.goto 170, 3) := by decide +kernel
theorem d1_52 : decode prog_157_method_4_code 52 = .ok (.iload_n 0, 1) := by decide +kernel
theorem d1_53 : decode prog_157_method_4_code 53 = .ok (.sipush 192, 3) := by decide +kernel
theorem d1_56 : decode prog_157_method_4_code 56 = .ok (.if_icmp .lt 10, 3) := by decide +kernel
theorem d1_59 : decode prog_157_method_4_code 59 = .ok (.iload_n 0, 1) := by decide +kernel
theorem d1_60 : decode prog_157_method_4_code 60 = .ok (.sipush 214, 3) := by decide +kernel
theorem d1_63 : decode prog_157_method_4_code 63 = .ok (.if_icmp .le 150, 3) := by decide +kernel
theorem d1_66 : decode prog_157_method_4_code 66 = .ok (.iload_n 0, 1) := by decide +kernel
theorem d1_67 : decode prog_157_method_4_code 67 = .ok (.sipush 216, 3) := by decide +kernel
theorem d1_70 : decode prog_157_method_4_code 70 = .ok (.if_icmp .lt 10, 3) := by decide +kernel
theorem d1_73 : decode prog_157_method_4_code 73 = .ok (.iload_n 0, 1) := by decide +kernel
theorem d1_74 : decode prog_157_method_4_code 74 = .ok (.sipush 246, 3) := by decide +kernel
theorem d1_77 : decode prog_157_method_4_code 77 = .ok (.if_icmp .le 136, 3) := by decide +kernel
theorem d1_80 : decode prog_157_method_4_code 80 = .ok (.iload_n 0, 1) := by decide +kernel
theorem d1_81 : decode prog_157_method_4_code 81 = .ok (.sipush 248, 3) := by decide +kernel
theorem d1_84 : decode prog_157_method_4_code 84 = .ok (.if_icmp .lt 10, 3) := by decide +kernel
theorem d1_87 : decode prog_157_method_4_code 87 = .ok (.iload_n 0, 1) := by decide +kernel
theorem d1_88 : decode prog_157_method_4_code 88 = .ok (.sipush 767, 3) := by decide +kernel
theorem d1_91 : decode prog_157_method_4_code 91 = .ok (.if_icmp .le 122, 3) := by decide +kernel
theorem d1_94 : decode prog_157_method_4_code 94 = .ok (.iload_n 0, 1) := by decide +kernel
theorem d1_95 : decode prog_157_method_4_code 95 = .ok (.sipush 880, 3) := by decide +kernel
theorem d1_98 : decode prog_157_method_4_code 98 = .ok (.if_icmp .lt 10, 3) := by decide +kernel
theorem d1_101 : decode prog_157_method_4_code 101 = .ok (.iload_n 0, 1) := by decide +kernel
theorem d1_102 : decode prog_157_method_4_code 102 = .ok (.sipush 893, 3) := by decide +kernel
theorem d1_105 : decode prog_157_method_4_code 105 = .ok (.if_icmp .le 108, 3) := by decide +kernel
theorem d1_108 : decode prog_157_method_4_code 108 = .ok (.iload_n 0, 1) := by decide +kernel
theorem d1_109 : decode prog_157_method_4_code 109 = .ok (.sipush 895, 3) := by decide +kernel
theorem d1_112 : decode prog_157_method_4_code 112 = .ok (.if_icmp .lt 10, 3) := by decide +kernel
theorem d1_115 : decode prog_157_method_4_code 115 = .ok (.iload_n 0, 1) := by decide +kernel
theorem d1_116 : decode prog_157_method_4_code 116 = .ok (.sipush 8191, 3) := by decide +kernel
theorem d1_119 : decode prog_157_method_4_code 119 = .ok (.if_icmp .le 94, 3) := by decide +kernel
theorem d1_122 : decode prog_157_method_4_code 122 = .ok (.iload_n 0, 1) := by decide +kernel
theorem d1_123 : decode prog_157_method_4_code 123 = .ok (.sipush 8204, 3) := by decide +kernel
theorem d1_126 : decode prog_157_method_4_code 126 = .ok (.if_icmp .lt 10, 3) := by decide +kernel
theorem d1_129 : decode prog_157_method_4_code 129 = .ok (.iload_n 0, 1) := by decide +kernel
theorem d1_130 : decode prog_157_method_4_code 130 = .ok (.sipush 8205, 3) := by decide +kernel
theorem d1_133 : decode prog_157_method_4_code 133 = .ok (.if_icmp .le 80, 3) := by decide +kernel
theorem d1_136 : decode prog_157_method_4_code 136 = .ok (.iload_n 0, 1) := by decide +kernel
theorem d1_137 : decode prog_157_method_4_code 137 = .ok (.sipush 8304, 3) := by decide +kernel
theorem d1_140 : decode prog_157_method_4_code 140 = .ok (.if_icmp .lt 10, 3) := by decide +kernel
theorem d1_143 : decode prog_157_method_4_code 143 = .ok (.iload_n 0, 1) := by decide +kernel
theorem d1_144 : decode prog_157_method_4_code 144 = .ok (.sipush 8591, 3) := by decide +kernel
theorem d1_147 : decode prog_157_method_4_code 147 = .ok (.if_icmp .le 66, 3) := by decide +kernel
theorem d1_150 : decode prog_157_method_4_code 150 = .ok (.iload_n 0, 1) := by decide +kernel
theorem d1_151 : decode prog_157_method_4_code 151 = .ok (.sipush 11264, 3) := by decide +kernel
theorem d1_154 : decode prog_157_method_4_code 154 = .ok (.if_icmp .lt 10, 3) := by decide +kernel
theorem d1_157 : decode prog_157_method_4_code 157 = .ok (.iload_n 0, 1) := by decide +kernel
theorem d1_158 : decode prog_157_method_4_code 158 = .ok (.sipush 12271, 3) := by decide +kernel
theorem d1_161 : decode prog_157_method_4_code 161 = .ok (.if_icmp .le 52, 3) := by decide +kernel
theorem d1_164 : decode prog_157_method_4_code 164 = .ok (.iload_n 0, 1) := by decide +kernel
theorem d1_165 : decode prog_157_method_4_code 165 = .ok (.sipush 12289, 3) := by decide +kernel
theorem d1_168 : decode prog_157_method_4_code 168 = .ok (.if_icmp .lt 9, 3) := by decide +kernel
theorem d1_171 : decode prog_157_method_4_code 171 = .ok (.iload_n 0, 1) := by decide +kernel
theorem d1_172 : decode prog_157_method_4_code 172 = .ok (.ldc 7, 2) := by decide +kernel
theorem d1_174 : decode prog_157_method_4_code 174 = .ok (.if_icmp .le 39, 3) := by decide +kernel
theorem d1_177 : decode prog_157_method_4_code 177 = .ok (.iload_n 0, 1) := by decide +kernel
theorem d1_178 : decode prog_157_method_4_code 178 = .ok (.ldc 12, 2) := by decide +kernel
theorem d1_180 : decode prog_157_method_4_code 180 = .ok (.if_icmp .lt 9, 3) := by decide +kernel
theorem d1_183 : decode prog_157_method_4_code 183 = .ok (.iload_n 0, 1) := by decide +kernel
theorem d1_184 : decode prog_157_method_4_code 184 = .ok (.ldc 13, 2) := by decide +kernel
theorem d1_186 : decode prog_157_method_4_code 186 = .ok (.if_icmp .le 27, 3) := by decide +kernel
theorem d1_189 : decode prog_157_method_4_code 189 = .ok (.iload_n 0, 1) := by decide +kernel
theorem d1_190 : decode prog_157_method_4_code 190 = .ok (.ldc 14, 2) := by decide +kernel
theorem d1_192 : decode prog_157_method_4_code 192 = .ok (.if_icmp .lt 9, 3) := by decide +kernel
theorem d1_195 : decode prog_157_method_4_code 195 = .ok (.iload_n 0, 1) := by decide +kernel
theorem d1_196 : decode prog_157_method_4_code 196 = .ok (.ldc 9, 2) := by decide +kernel
theorem d1_198 : decode prog_157_method_4_code 198 = .ok (.if_icmp .le 15, 3) := by decide +kernel
theorem d1_201 : decode prog_157_method_4_code 201 = .ok (.iload_n 0, 1) := by decide +kernel
theorem d1_202 : decode prog_157_method_4_code 202 = .ok (.ldc 10, 2) := by decide +kernel
theorem d1_204 : decode prog_157_method_4_code 204 = .ok (.if_icmp .lt 13, 3) := by decide +kernel
theorem d1_207 : decode prog_157_method_4_code 207 = .ok (.iload_n 0, 1) := by decide +kernel
theorem d1_208 : decode prog_157_method_4_code 208 = .ok (.ldc 15, 2) := by decide +kernel
theorem d1_210 : decode prog_157_method_4_code 210 = .ok (.if_icmp .gt 7, 3) := by decide +kernel
theorem d1_213 : decode prog_157_method_4_code 213 = .ok (.iconst 1, 1) := by decide +kernel
theorem d1_214 : decode prog_157_method_4_code 214 = .ok (.goto 4, 3) := by decide +kernel
theorem d1_217 : decode prog_157_method_4_code 217 = .ok (.iconst 0, 1) := by decide +kernel
theorem d1_218 : decode prog_157_method_4_code 218 = .ok (.istore_n 1, 1) := by decide +kernel
theorem d1_219 : decode prog_157_method_4_code 219 = .ok (.iload_n 1, 1) := by decide +kernel
theorem d1_220 : decode prog_157_method_4_code 220 = .ok (.ireturn, 1) := by decide +kernel
theorem pn_1 : plainName "com/example/tamsui/tamsui/xml/XmlChars" = true := by first | (simp [plainName, overriddenIn]; done) | decide +kernel
theorem ef_1 (m : MethodId) (x0 : Int32) : entryFrame m #[(.int x0)] 2 = mkF m 0 #[.val (.int x0), .unset] [] := by first | (simp [entryFrame, mkF, argsToLocals, Value.category]; done) | rfl
def nd1_31_2 (p0 : Int32) : Bool := (if p0 = (95 : Int32) then true else (if p0 = (58 : Int32) then true else false))
def nd1_19_3 (p0 : Int32) : Bool := (if p0 < (65 : Int32) then (nd1_31_2 p0) else (if (90 : Int32) < p0 then (nd1_31_2 p0) else true))
def nd1_201_4 (p0 : Int32) : Bool := (if p0 < (65536 : Int32) then false else (if (983039 : Int32) < p0 then false else true))
def nd1_189_5 (p0 : Int32) : Bool := (if p0 < (65008 : Int32) then (nd1_201_4 p0) else (if (65533 : Int32) < p0 then (nd1_201_4 p0) else true))
def nd1_177_6 (p0 : Int32) : Bool := (if p0 < (63744 : Int32) then (nd1_189_5 p0) else (if (64975 : Int32) < p0 then (nd1_189_5 p0) else true))
def nd1_164_7 (p0 : Int32) : Bool := (if p0 < (12289 : Int32) then (nd1_177_6 p0) else (if (55295 : Int32) < p0 then (nd1_177_6 p0) else true))
def nd1_150_8 (p0 : Int32) : Bool := (if p0 < (11264 : Int32) then (nd1_164_7 p0) else (if (12271 : Int32) < p0 then (nd1_164_7 p0) else true))
def nd1_136_9 (p0 : Int32) : Bool := (if p0 < (8304 : Int32) then (nd1_150_8 p0) else (if (8591 : Int32) < p0 then (nd1_150_8 p0) else true))
def nd1_122_10 (p0 : Int32) : Bool := (if p0 < (8204 : Int32) then (nd1_136_9 p0) else (if (8205 : Int32) < p0 then (nd1_136_9 p0) else true))
def nd1_108_11 (p0 : Int32) : Bool := (if p0 < (895 : Int32) then (nd1_122_10 p0) else (if (8191 : Int32) < p0 then (nd1_122_10 p0) else true))
def nd1_94_12 (p0 : Int32) : Bool := (if p0 < (880 : Int32) then (nd1_108_11 p0) else (if (893 : Int32) < p0 then (nd1_108_11 p0) else true))
def nd1_80_13 (p0 : Int32) : Bool := (if p0 < (248 : Int32) then (nd1_94_12 p0) else (if (767 : Int32) < p0 then (nd1_94_12 p0) else true))
def nd1_66_14 (p0 : Int32) : Bool := (if p0 < (216 : Int32) then (nd1_80_13 p0) else (if (246 : Int32) < p0 then (nd1_80_13 p0) else true))
def F1 (p0 : Int32) : Bool := (if p0 < (128 : Int32) then (if p0 < (97 : Int32) then (nd1_19_3 p0) else (if (122 : Int32) < p0 then (nd1_19_3 p0) else true)) else (if p0 < (192 : Int32) then (nd1_66_14 p0) else (if (214 : Int32) < p0 then (nd1_66_14 p0) else true)))
def Q1 (Z : State) (p0 : Int32) (h0 : Heap) (n0 : Nat) (v : Option Value) (h : Heap) (L : List Loc) : Prop := v = some (.int (b2i (F1 p0))) ∧ Fr n0 L ∧ h = h0
set_option maxRecDepth 65536 in
set_option maxHeartbeats 40000000 in
theorem rm1 (l : Launch) (Z : State) (a0 : Array Value) (hw : ∀ d ∈ tables_1, d.before a0 Z = true) (ws : List Jvm.Cond) (p0 : Int32) (h0 : Heap) (n0 : Nat) (Z0 : n0 ≤ h0.size) :
    MetFree l (⟨"com/example/tamsui/tamsui/xml/XmlChars", "isNameStart", "(I)Z"⟩ : MethodName) (head1 (Jvm.Cond.code (⟨"com/example/tamsui/tamsui/xml/XmlChars", "isNameStart", "(I)Z"⟩ : MethodName) prog_157_method_4_code 2 (some .boolean) :: ws) ({ frames := 0, cells := 0, slots := 0, locals := 0 } : Room)) (fun a U => a = #[(.int p0)] ∧ Z.Warmed39 U.vm ∧ U.heap = h0) (fun _ _ _ _ _ => True) (fun _ U o U' => ∃ v L, o = .returned v ∧ Q1 Z p0 h0 n0 v U'.heap L ∧ FrameEnd U o U' L ({ frames := 0, cells := 0, slots := 0, locals := 0 } : Room).cells ({ frames := 0, cells := 0, slots := 0, locals := 0 } : Room).slots) := by
  refine MetFree.of_bodySF (plainFor_of_name pn_1) hisR ?_
  intro p e s m args below meth c s₁ Bd hml0 hP hK
  obtain ⟨rfl, hZ, hh⟩ := hP
  have hx := Bd.exec
  have hby := Bd.bytes
  have hml : c.maxLocals = 2 := hml0
  have hown : s.vm.findClass "com/example/tamsui/tamsui/xml/XmlChars" = some m.cls := findClass_of_methodNamed Bd.named
  have hnm := (name_of_methodNamed Bd.named Bd.method).1
  have X0 : Stand p l e ({ frames := 0, cells := 0, slots := 0, locals := 0 } : Room) s m #[(.int p0)] below meth c s₁ [] 0 0 := Stand.of_body Bd
  have e0 : s₁.heap = h0 := by rw [← hh, Bd.state]; rfl
  have N0 := Fr.nil n0
  have pre0 : ∀ t, Steps p.tables e below (s₁.setTop (mkF m 0 #[.val (.int p0), .unset] [])) t → Steps p.tables e below (s₁.setTop (entryFrame m #[(.int p0)] 2)) t := fun t k => castTop (ef_1 m p0) k
  have pre1 : ∀ t, Steps p.tables e below (s₁.setTop (mkF m 4 #[.val (.int p0), .unset] [(.int (128 : Int32)), (.int p0)])) t → Steps p.tables e below (s₁.setTop (entryFrame m #[(.int p0)] 2)) t := by
    intro t k
    refine pre0 t ?_
    show Steps p.tables e below (s₁.setTop (mkF m 0 #[.val (.int p0), .unset] [])) _
    refine XS.iloadN X0.here hx rfl (hb hby d1_0) rfl ?_
    show Steps p.tables e below (s₁.setTop (mkF m 1 #[.val (.int p0), .unset] [(.int p0)])) _
    refine XS.sipush X0.here hx rfl (hb hby d1_1) ?_
    exact k
  have pre15 : ∀ t, Steps p.tables e below (s₁.setTop (mkF m 219 #[.val (.int p0), .val (.int (b2i (if p0 < (128 : Int32) then (if p0 < (97 : Int32) then (nd1_19_3 p0) else (if (122 : Int32) < p0 then (nd1_19_3 p0) else true)) else (if p0 < (192 : Int32) then (nd1_66_14 p0) else (if (214 : Int32) < p0 then (nd1_66_14 p0) else true)))))] [])) t → Steps p.tables e below (s₁.setTop (entryFrame m #[(.int p0)] 2)) t := by
    intro t k
    refine pre1 t ?_
    have k : ∀ (v1 : Bool), v1 = (if p0 < (128 : Int32) then (if p0 < (97 : Int32) then (nd1_19_3 p0) else (if (122 : Int32) < p0 then (nd1_19_3 p0) else true)) else (if p0 < (192 : Int32) then (nd1_66_14 p0) else (if (214 : Int32) < p0 then (nd1_66_14 p0) else true))) → Steps p.tables e below (s₁.setTop (mkF m 219 #[.val (.int p0), .val (.int (b2i v1))] [])) t := fun v1 hv1 => by subst hv1; exact k
    have nd16 : (∀ (v1 : Bool), v1 = true → Steps p.tables e below (s₁.setTop (mkF m 219 #[.val (.int p0), .val (.int (b2i v1))] [])) t) → Steps p.tables e below (s₁.setTop (mkF m 43 #[.val (.int p0), .unset] [])) t := by
      intro k
      show Steps p.tables e below (s₁.setTop (mkF m 43 #[.val (.int p0), .unset] [])) _
      refine XS.iconst X0.here hx rfl (hb hby d1_43) ?_
      show Steps p.tables e below (s₁.setTop (mkF m 44 #[.val (.int p0), .unset] [(.int (1 : Int32))])) _
      refine XS.goto X0.here hx rfl (pc0 := 44) (pc' := 48) rfl (hb hby d1_44) (by decide) (by decide) ?_
      show Steps p.tables e below (s₁.setTop (mkF m 48 #[.val (.int p0), .unset] [(.int (1 : Int32))])) _
      refine XS.istoreN X0.here hx rfl (hb hby d1_48) rfl (l' := #[.val (.int p0), .val (.int (1 : Int32))]) rfl ?_
      show Steps p.tables e below (s₁.setTop (mkF m 49 #[.val (.int p0), .val (.int (1 : Int32))] [])) _
      refine XS.goto X0.here hx rfl (pc0 := 49) (pc' := 219) rfl (hb hby d1_49) (by decide) (by decide) ?_
      exact k true rfl
    have nd17 : (∀ (v1 : Bool), v1 = (nd1_31_2 p0) → Steps p.tables e below (s₁.setTop (mkF m 219 #[.val (.int p0), .val (.int (b2i v1))] [])) t) → Steps p.tables e below (s₁.setTop (mkF m 31 #[.val (.int p0), .unset] [])) t := by
      intro k
      have k : ∀ (v1 : Bool), v1 = (if p0 = (95 : Int32) then true else (if p0 = (58 : Int32) then true else false)) → Steps p.tables e below (s₁.setTop (mkF m 219 #[.val (.int p0), .val (.int (b2i v1))] [])) t := k
      show Steps p.tables e below (s₁.setTop (mkF m 31 #[.val (.int p0), .unset] [])) _
      refine XS.iloadN X0.here hx rfl (hb hby d1_31) rfl ?_
      show Steps p.tables e below (s₁.setTop (mkF m 32 #[.val (.int p0), .unset] [(.int p0)])) _
      refine XS.bipush X0.here hx rfl (hb hby d1_32) ?_
      show Steps p.tables e below (s₁.setTop (mkF m 34 #[.val (.int p0), .unset] [(.int (95 : Int32)), (.int p0)])) _
      by_cases hc18 : p0 = (95 : Int32)
      · refine XS.icmpYes X0.here hx rfl (pc0 := 34) (pc' := 43) rfl (hb hby d1_34) rfl (teq hc18).1 (by decide) (by decide) ?_
        have k : ∀ (v1 : Bool), v1 = true → Steps p.tables e below (s₁.setTop (mkF m 219 #[.val (.int p0), .val (.int (b2i v1))] [])) t := fun v1 hv1 => k v1 (hv1.trans (if_pos hc18).symm)
        exact nd16 k
      · refine XS.icmpNo X0.here hx rfl (hb hby d1_34) rfl (feq hc18).1 ?_
        have k : ∀ (v1 : Bool), v1 = (if p0 = (58 : Int32) then true else false) → Steps p.tables e below (s₁.setTop (mkF m 219 #[.val (.int p0), .val (.int (b2i v1))] [])) t := fun v1 hv1 => k v1 (hv1.trans (if_neg hc18).symm)
        show Steps p.tables e below (s₁.setTop (mkF m 37 #[.val (.int p0), .unset] [])) _
        refine XS.iloadN X0.here hx rfl (hb hby d1_37) rfl ?_
        show Steps p.tables e below (s₁.setTop (mkF m 38 #[.val (.int p0), .unset] [(.int p0)])) _
        refine XS.bipush X0.here hx rfl (hb hby d1_38) ?_
        show Steps p.tables e below (s₁.setTop (mkF m 40 #[.val (.int p0), .unset] [(.int (58 : Int32)), (.int p0)])) _
        by_cases hc19 : p0 = (58 : Int32)
        · refine XS.icmpNo X0.here hx rfl (hb hby d1_40) rfl (teq hc19).2 ?_
          have k : ∀ (v1 : Bool), v1 = true → Steps p.tables e below (s₁.setTop (mkF m 219 #[.val (.int p0), .val (.int (b2i v1))] [])) t := fun v1 hv1 => k v1 (hv1.trans (if_pos hc19).symm)
          exact nd16 k
        · refine XS.icmpYes X0.here hx rfl (pc0 := 40) (pc' := 47) rfl (hb hby d1_40) rfl (feq hc19).2 (by decide) (by decide) ?_
          have k : ∀ (v1 : Bool), v1 = false → Steps p.tables e below (s₁.setTop (mkF m 219 #[.val (.int p0), .val (.int (b2i v1))] [])) t := fun v1 hv1 => k v1 (hv1.trans (if_neg hc19).symm)
          show Steps p.tables e below (s₁.setTop (mkF m 47 #[.val (.int p0), .unset] [])) _
          refine XS.iconst X0.here hx rfl (hb hby d1_47) ?_
          show Steps p.tables e below (s₁.setTop (mkF m 48 #[.val (.int p0), .unset] [(.int (0 : Int32))])) _
          refine XS.istoreN X0.here hx rfl (hb hby d1_48) rfl (l' := #[.val (.int p0), .val (.int (0 : Int32))]) rfl ?_
          show Steps p.tables e below (s₁.setTop (mkF m 49 #[.val (.int p0), .val (.int (0 : Int32))] [])) _
          refine XS.goto X0.here hx rfl (pc0 := 49) (pc' := 219) rfl (hb hby d1_49) (by decide) (by decide) ?_
          exact k false rfl
    have nd20 : (∀ (v1 : Bool), v1 = (nd1_19_3 p0) → Steps p.tables e below (s₁.setTop (mkF m 219 #[.val (.int p0), .val (.int (b2i v1))] [])) t) → Steps p.tables e below (s₁.setTop (mkF m 19 #[.val (.int p0), .unset] [])) t := by
      intro k
      have k : ∀ (v1 : Bool), v1 = (if p0 < (65 : Int32) then (nd1_31_2 p0) else (if (90 : Int32) < p0 then (nd1_31_2 p0) else true)) → Steps p.tables e below (s₁.setTop (mkF m 219 #[.val (.int p0), .val (.int (b2i v1))] [])) t := k
      show Steps p.tables e below (s₁.setTop (mkF m 19 #[.val (.int p0), .unset] [])) _
      refine XS.iloadN X0.here hx rfl (hb hby d1_19) rfl ?_
      show Steps p.tables e below (s₁.setTop (mkF m 20 #[.val (.int p0), .unset] [(.int p0)])) _
      refine XS.bipush X0.here hx rfl (hb hby d1_20) ?_
      show Steps p.tables e below (s₁.setTop (mkF m 22 #[.val (.int p0), .unset] [(.int (65 : Int32)), (.int p0)])) _
      by_cases hc21 : p0 < (65 : Int32)
      · refine XS.icmpYes X0.here hx rfl (pc0 := 22) (pc' := 31) rfl (hb hby d1_22) rfl (tlt hc21).1 (by decide) (by decide) ?_
        have k : ∀ (v1 : Bool), v1 = (nd1_31_2 p0) → Steps p.tables e below (s₁.setTop (mkF m 219 #[.val (.int p0), .val (.int (b2i v1))] [])) t := fun v1 hv1 => k v1 (hv1.trans (if_pos hc21).symm)
        exact nd17 k
      · refine XS.icmpNo X0.here hx rfl (hb hby d1_22) rfl (flt hc21).1 ?_
        have k : ∀ (v1 : Bool), v1 = (if (90 : Int32) < p0 then (nd1_31_2 p0) else true) → Steps p.tables e below (s₁.setTop (mkF m 219 #[.val (.int p0), .val (.int (b2i v1))] [])) t := fun v1 hv1 => k v1 (hv1.trans (if_neg hc21).symm)
        show Steps p.tables e below (s₁.setTop (mkF m 25 #[.val (.int p0), .unset] [])) _
        refine XS.iloadN X0.here hx rfl (hb hby d1_25) rfl ?_
        show Steps p.tables e below (s₁.setTop (mkF m 26 #[.val (.int p0), .unset] [(.int p0)])) _
        refine XS.bipush X0.here hx rfl (hb hby d1_26) ?_
        show Steps p.tables e below (s₁.setTop (mkF m 28 #[.val (.int p0), .unset] [(.int (90 : Int32)), (.int p0)])) _
        by_cases hc22 : (90 : Int32) < p0
        · refine XS.icmpNo X0.here hx rfl (hb hby d1_28) rfl (tlt hc22).2.2.2 ?_
          have k : ∀ (v1 : Bool), v1 = (nd1_31_2 p0) → Steps p.tables e below (s₁.setTop (mkF m 219 #[.val (.int p0), .val (.int (b2i v1))] [])) t := fun v1 hv1 => k v1 (hv1.trans (if_pos hc22).symm)
          exact nd17 k
        · refine XS.icmpYes X0.here hx rfl (pc0 := 28) (pc' := 43) rfl (hb hby d1_28) rfl (flt hc22).2.2.2 (by decide) (by decide) ?_
          have k : ∀ (v1 : Bool), v1 = true → Steps p.tables e below (s₁.setTop (mkF m 219 #[.val (.int p0), .val (.int (b2i v1))] [])) t := fun v1 hv1 => k v1 (hv1.trans (if_neg hc22).symm)
          exact nd16 k
    have nd23 : (∀ (v1 : Bool), v1 = false → Steps p.tables e below (s₁.setTop (mkF m 219 #[.val (.int p0), .val (.int (b2i v1))] [])) t) → Steps p.tables e below (s₁.setTop (mkF m 217 #[.val (.int p0), .unset] [])) t := by
      intro k
      show Steps p.tables e below (s₁.setTop (mkF m 217 #[.val (.int p0), .unset] [])) _
      refine XS.iconst X0.here hx rfl (hb hby d1_217) ?_
      show Steps p.tables e below (s₁.setTop (mkF m 218 #[.val (.int p0), .unset] [(.int (0 : Int32))])) _
      refine XS.istoreN X0.here hx rfl (hb hby d1_218) rfl (l' := #[.val (.int p0), .val (.int (0 : Int32))]) rfl ?_
      exact k false rfl
    have nd24 : (∀ (v1 : Bool), v1 = true → Steps p.tables e below (s₁.setTop (mkF m 219 #[.val (.int p0), .val (.int (b2i v1))] [])) t) → Steps p.tables e below (s₁.setTop (mkF m 213 #[.val (.int p0), .unset] [])) t := by
      intro k
      show Steps p.tables e below (s₁.setTop (mkF m 213 #[.val (.int p0), .unset] [])) _
      refine XS.iconst X0.here hx rfl (hb hby d1_213) ?_
      show Steps p.tables e below (s₁.setTop (mkF m 214 #[.val (.int p0), .unset] [(.int (1 : Int32))])) _
      refine XS.goto X0.here hx rfl (pc0 := 214) (pc' := 218) rfl (hb hby d1_214) (by decide) (by decide) ?_
      show Steps p.tables e below (s₁.setTop (mkF m 218 #[.val (.int p0), .unset] [(.int (1 : Int32))])) _
      refine XS.istoreN X0.here hx rfl (hb hby d1_218) rfl (l' := #[.val (.int p0), .val (.int (1 : Int32))]) rfl ?_
      exact k true rfl
    have nd25 : (∀ (v1 : Bool), v1 = (nd1_201_4 p0) → Steps p.tables e below (s₁.setTop (mkF m 219 #[.val (.int p0), .val (.int (b2i v1))] [])) t) → Steps p.tables e below (s₁.setTop (mkF m 201 #[.val (.int p0), .unset] [])) t := by
      intro k
      have k : ∀ (v1 : Bool), v1 = (if p0 < (65536 : Int32) then false else (if (983039 : Int32) < p0 then false else true)) → Steps p.tables e below (s₁.setTop (mkF m 219 #[.val (.int p0), .val (.int (b2i v1))] [])) t := k
      show Steps p.tables e below (s₁.setTop (mkF m 201 #[.val (.int p0), .unset] [])) _
      refine XS.iloadN X0.here hx rfl (hb hby d1_201) rfl ?_
      show Steps p.tables e below (s₁.setTop (mkF m 202 #[.val (.int p0), .unset] [(.int p0)])) _
      refine X0.ldcInt hx hown (mvT hZ (hw _ (List.mem_of_getElem? (i := 19) rfl))) (g := (mkF m 202 #[.val (.int p0), .unset] [(.int p0)])) rfl (hb hby d1_202) _ ?_
      show Steps p.tables e below (s₁.setTop (mkF m 204 #[.val (.int p0), .unset] [(.int (65536 : Int32)), (.int p0)])) _
      by_cases hc26 : p0 < (65536 : Int32)
      · refine XS.icmpYes X0.here hx rfl (pc0 := 204) (pc' := 217) rfl (hb hby d1_204) rfl (tlt hc26).1 (by decide) (by decide) ?_
        have k : ∀ (v1 : Bool), v1 = false → Steps p.tables e below (s₁.setTop (mkF m 219 #[.val (.int p0), .val (.int (b2i v1))] [])) t := fun v1 hv1 => k v1 (hv1.trans (if_pos hc26).symm)
        exact nd23 k
      · refine XS.icmpNo X0.here hx rfl (hb hby d1_204) rfl (flt hc26).1 ?_
        have k : ∀ (v1 : Bool), v1 = (if (983039 : Int32) < p0 then false else true) → Steps p.tables e below (s₁.setTop (mkF m 219 #[.val (.int p0), .val (.int (b2i v1))] [])) t := fun v1 hv1 => k v1 (hv1.trans (if_neg hc26).symm)
        show Steps p.tables e below (s₁.setTop (mkF m 207 #[.val (.int p0), .unset] [])) _
        refine XS.iloadN X0.here hx rfl (hb hby d1_207) rfl ?_
        show Steps p.tables e below (s₁.setTop (mkF m 208 #[.val (.int p0), .unset] [(.int p0)])) _
        refine X0.ldcInt hx hown (mvT hZ (hw _ (List.mem_of_getElem? (i := 27) rfl))) (g := (mkF m 208 #[.val (.int p0), .unset] [(.int p0)])) rfl (hb hby d1_208) _ ?_
        show Steps p.tables e below (s₁.setTop (mkF m 210 #[.val (.int p0), .unset] [(.int (983039 : Int32)), (.int p0)])) _
        by_cases hc27 : (983039 : Int32) < p0
        · refine XS.icmpYes X0.here hx rfl (pc0 := 210) (pc' := 217) rfl (hb hby d1_210) rfl (tlt hc27).2.2.1 (by decide) (by decide) ?_
          have k : ∀ (v1 : Bool), v1 = false → Steps p.tables e below (s₁.setTop (mkF m 219 #[.val (.int p0), .val (.int (b2i v1))] [])) t := fun v1 hv1 => k v1 (hv1.trans (if_pos hc27).symm)
          exact nd23 k
        · refine XS.icmpNo X0.here hx rfl (hb hby d1_210) rfl (flt hc27).2.2.1 ?_
          have k : ∀ (v1 : Bool), v1 = true → Steps p.tables e below (s₁.setTop (mkF m 219 #[.val (.int p0), .val (.int (b2i v1))] [])) t := fun v1 hv1 => k v1 (hv1.trans (if_neg hc27).symm)
          exact nd24 k
    have nd28 : (∀ (v1 : Bool), v1 = (nd1_189_5 p0) → Steps p.tables e below (s₁.setTop (mkF m 219 #[.val (.int p0), .val (.int (b2i v1))] [])) t) → Steps p.tables e below (s₁.setTop (mkF m 189 #[.val (.int p0), .unset] [])) t := by
      intro k
      have k : ∀ (v1 : Bool), v1 = (if p0 < (65008 : Int32) then (nd1_201_4 p0) else (if (65533 : Int32) < p0 then (nd1_201_4 p0) else true)) → Steps p.tables e below (s₁.setTop (mkF m 219 #[.val (.int p0), .val (.int (b2i v1))] [])) t := k
      show Steps p.tables e below (s₁.setTop (mkF m 189 #[.val (.int p0), .unset] [])) _
      refine XS.iloadN X0.here hx rfl (hb hby d1_189) rfl ?_
      show Steps p.tables e below (s₁.setTop (mkF m 190 #[.val (.int p0), .unset] [(.int p0)])) _
      refine X0.ldcInt hx hown (mvT hZ (hw _ (List.mem_of_getElem? (i := 18) rfl))) (g := (mkF m 190 #[.val (.int p0), .unset] [(.int p0)])) rfl (hb hby d1_190) _ ?_
      show Steps p.tables e below (s₁.setTop (mkF m 192 #[.val (.int p0), .unset] [(.int (65008 : Int32)), (.int p0)])) _
      by_cases hc29 : p0 < (65008 : Int32)
      · refine XS.icmpYes X0.here hx rfl (pc0 := 192) (pc' := 201) rfl (hb hby d1_192) rfl (tlt hc29).1 (by decide) (by decide) ?_
        have k : ∀ (v1 : Bool), v1 = (nd1_201_4 p0) → Steps p.tables e below (s₁.setTop (mkF m 219 #[.val (.int p0), .val (.int (b2i v1))] [])) t := fun v1 hv1 => k v1 (hv1.trans (if_pos hc29).symm)
        exact nd25 k
      · refine XS.icmpNo X0.here hx rfl (hb hby d1_192) rfl (flt hc29).1 ?_
        have k : ∀ (v1 : Bool), v1 = (if (65533 : Int32) < p0 then (nd1_201_4 p0) else true) → Steps p.tables e below (s₁.setTop (mkF m 219 #[.val (.int p0), .val (.int (b2i v1))] [])) t := fun v1 hv1 => k v1 (hv1.trans (if_neg hc29).symm)
        show Steps p.tables e below (s₁.setTop (mkF m 195 #[.val (.int p0), .unset] [])) _
        refine XS.iloadN X0.here hx rfl (hb hby d1_195) rfl ?_
        show Steps p.tables e below (s₁.setTop (mkF m 196 #[.val (.int p0), .unset] [(.int p0)])) _
        refine X0.ldcInt hx hown (mvT hZ (hw _ (List.mem_of_getElem? (i := 26) rfl))) (g := (mkF m 196 #[.val (.int p0), .unset] [(.int p0)])) rfl (hb hby d1_196) _ ?_
        show Steps p.tables e below (s₁.setTop (mkF m 198 #[.val (.int p0), .unset] [(.int (65533 : Int32)), (.int p0)])) _
        by_cases hc30 : (65533 : Int32) < p0
        · refine XS.icmpNo X0.here hx rfl (hb hby d1_198) rfl (tlt hc30).2.2.2 ?_
          have k : ∀ (v1 : Bool), v1 = (nd1_201_4 p0) → Steps p.tables e below (s₁.setTop (mkF m 219 #[.val (.int p0), .val (.int (b2i v1))] [])) t := fun v1 hv1 => k v1 (hv1.trans (if_pos hc30).symm)
          exact nd25 k
        · refine XS.icmpYes X0.here hx rfl (pc0 := 198) (pc' := 213) rfl (hb hby d1_198) rfl (flt hc30).2.2.2 (by decide) (by decide) ?_
          have k : ∀ (v1 : Bool), v1 = true → Steps p.tables e below (s₁.setTop (mkF m 219 #[.val (.int p0), .val (.int (b2i v1))] [])) t := fun v1 hv1 => k v1 (hv1.trans (if_neg hc30).symm)
          exact nd24 k
    have nd31 : (∀ (v1 : Bool), v1 = (nd1_177_6 p0) → Steps p.tables e below (s₁.setTop (mkF m 219 #[.val (.int p0), .val (.int (b2i v1))] [])) t) → Steps p.tables e below (s₁.setTop (mkF m 177 #[.val (.int p0), .unset] [])) t := by
      intro k
      have k : ∀ (v1 : Bool), v1 = (if p0 < (63744 : Int32) then (nd1_189_5 p0) else (if (64975 : Int32) < p0 then (nd1_189_5 p0) else true)) → Steps p.tables e below (s₁.setTop (mkF m 219 #[.val (.int p0), .val (.int (b2i v1))] [])) t := k
      show Steps p.tables e below (s₁.setTop (mkF m 177 #[.val (.int p0), .unset] [])) _
      refine XS.iloadN X0.here hx rfl (hb hby d1_177) rfl ?_
      show Steps p.tables e below (s₁.setTop (mkF m 178 #[.val (.int p0), .unset] [(.int p0)])) _
      refine X0.ldcInt hx hown (mvT hZ (hw _ (List.mem_of_getElem? (i := 17) rfl))) (g := (mkF m 178 #[.val (.int p0), .unset] [(.int p0)])) rfl (hb hby d1_178) _ ?_
      show Steps p.tables e below (s₁.setTop (mkF m 180 #[.val (.int p0), .unset] [(.int (63744 : Int32)), (.int p0)])) _
      by_cases hc32 : p0 < (63744 : Int32)
      · refine XS.icmpYes X0.here hx rfl (pc0 := 180) (pc' := 189) rfl (hb hby d1_180) rfl (tlt hc32).1 (by decide) (by decide) ?_
        have k : ∀ (v1 : Bool), v1 = (nd1_189_5 p0) → Steps p.tables e below (s₁.setTop (mkF m 219 #[.val (.int p0), .val (.int (b2i v1))] [])) t := fun v1 hv1 => k v1 (hv1.trans (if_pos hc32).symm)
        exact nd28 k
      · refine XS.icmpNo X0.here hx rfl (hb hby d1_180) rfl (flt hc32).1 ?_
        have k : ∀ (v1 : Bool), v1 = (if (64975 : Int32) < p0 then (nd1_189_5 p0) else true) → Steps p.tables e below (s₁.setTop (mkF m 219 #[.val (.int p0), .val (.int (b2i v1))] [])) t := fun v1 hv1 => k v1 (hv1.trans (if_neg hc32).symm)
        show Steps p.tables e below (s₁.setTop (mkF m 183 #[.val (.int p0), .unset] [])) _
        refine XS.iloadN X0.here hx rfl (hb hby d1_183) rfl ?_
        show Steps p.tables e below (s₁.setTop (mkF m 184 #[.val (.int p0), .unset] [(.int p0)])) _
        refine X0.ldcInt hx hown (mvT hZ (hw _ (List.mem_of_getElem? (i := 25) rfl))) (g := (mkF m 184 #[.val (.int p0), .unset] [(.int p0)])) rfl (hb hby d1_184) _ ?_
        show Steps p.tables e below (s₁.setTop (mkF m 186 #[.val (.int p0), .unset] [(.int (64975 : Int32)), (.int p0)])) _
        by_cases hc33 : (64975 : Int32) < p0
        · refine XS.icmpNo X0.here hx rfl (hb hby d1_186) rfl (tlt hc33).2.2.2 ?_
          have k : ∀ (v1 : Bool), v1 = (nd1_189_5 p0) → Steps p.tables e below (s₁.setTop (mkF m 219 #[.val (.int p0), .val (.int (b2i v1))] [])) t := fun v1 hv1 => k v1 (hv1.trans (if_pos hc33).symm)
          exact nd28 k
        · refine XS.icmpYes X0.here hx rfl (pc0 := 186) (pc' := 213) rfl (hb hby d1_186) rfl (flt hc33).2.2.2 (by decide) (by decide) ?_
          have k : ∀ (v1 : Bool), v1 = true → Steps p.tables e below (s₁.setTop (mkF m 219 #[.val (.int p0), .val (.int (b2i v1))] [])) t := fun v1 hv1 => k v1 (hv1.trans (if_neg hc33).symm)
          exact nd24 k
    have nd34 : (∀ (v1 : Bool), v1 = (nd1_164_7 p0) → Steps p.tables e below (s₁.setTop (mkF m 219 #[.val (.int p0), .val (.int (b2i v1))] [])) t) → Steps p.tables e below (s₁.setTop (mkF m 164 #[.val (.int p0), .unset] [])) t := by
      intro k
      have k : ∀ (v1 : Bool), v1 = (if p0 < (12289 : Int32) then (nd1_177_6 p0) else (if (55295 : Int32) < p0 then (nd1_177_6 p0) else true)) → Steps p.tables e below (s₁.setTop (mkF m 219 #[.val (.int p0), .val (.int (b2i v1))] [])) t := k
      show Steps p.tables e below (s₁.setTop (mkF m 164 #[.val (.int p0), .unset] [])) _
      refine XS.iloadN X0.here hx rfl (hb hby d1_164) rfl ?_
      show Steps p.tables e below (s₁.setTop (mkF m 165 #[.val (.int p0), .unset] [(.int p0)])) _
      refine XS.sipush X0.here hx rfl (hb hby d1_165) ?_
      show Steps p.tables e below (s₁.setTop (mkF m 168 #[.val (.int p0), .unset] [(.int (12289 : Int32)), (.int p0)])) _
      by_cases hc35 : p0 < (12289 : Int32)
      · refine XS.icmpYes X0.here hx rfl (pc0 := 168) (pc' := 177) rfl (hb hby d1_168) rfl (tlt hc35).1 (by decide) (by decide) ?_
        have k : ∀ (v1 : Bool), v1 = (nd1_177_6 p0) → Steps p.tables e below (s₁.setTop (mkF m 219 #[.val (.int p0), .val (.int (b2i v1))] [])) t := fun v1 hv1 => k v1 (hv1.trans (if_pos hc35).symm)
        exact nd31 k
      · refine XS.icmpNo X0.here hx rfl (hb hby d1_168) rfl (flt hc35).1 ?_
        have k : ∀ (v1 : Bool), v1 = (if (55295 : Int32) < p0 then (nd1_177_6 p0) else true) → Steps p.tables e below (s₁.setTop (mkF m 219 #[.val (.int p0), .val (.int (b2i v1))] [])) t := fun v1 hv1 => k v1 (hv1.trans (if_neg hc35).symm)
        show Steps p.tables e below (s₁.setTop (mkF m 171 #[.val (.int p0), .unset] [])) _
        refine XS.iloadN X0.here hx rfl (hb hby d1_171) rfl ?_
        show Steps p.tables e below (s₁.setTop (mkF m 172 #[.val (.int p0), .unset] [(.int p0)])) _
        refine X0.ldcInt hx hown (mvT hZ (hw _ (List.mem_of_getElem? (i := 24) rfl))) (g := (mkF m 172 #[.val (.int p0), .unset] [(.int p0)])) rfl (hb hby d1_172) _ ?_
        show Steps p.tables e below (s₁.setTop (mkF m 174 #[.val (.int p0), .unset] [(.int (55295 : Int32)), (.int p0)])) _
        by_cases hc36 : (55295 : Int32) < p0
        · refine XS.icmpNo X0.here hx rfl (hb hby d1_174) rfl (tlt hc36).2.2.2 ?_
          have k : ∀ (v1 : Bool), v1 = (nd1_177_6 p0) → Steps p.tables e below (s₁.setTop (mkF m 219 #[.val (.int p0), .val (.int (b2i v1))] [])) t := fun v1 hv1 => k v1 (hv1.trans (if_pos hc36).symm)
          exact nd31 k
        · refine XS.icmpYes X0.here hx rfl (pc0 := 174) (pc' := 213) rfl (hb hby d1_174) rfl (flt hc36).2.2.2 (by decide) (by decide) ?_
          have k : ∀ (v1 : Bool), v1 = true → Steps p.tables e below (s₁.setTop (mkF m 219 #[.val (.int p0), .val (.int (b2i v1))] [])) t := fun v1 hv1 => k v1 (hv1.trans (if_neg hc36).symm)
          exact nd24 k
    have nd37 : (∀ (v1 : Bool), v1 = (nd1_150_8 p0) → Steps p.tables e below (s₁.setTop (mkF m 219 #[.val (.int p0), .val (.int (b2i v1))] [])) t) → Steps p.tables e below (s₁.setTop (mkF m 150 #[.val (.int p0), .unset] [])) t := by
      intro k
      have k : ∀ (v1 : Bool), v1 = (if p0 < (11264 : Int32) then (nd1_164_7 p0) else (if (12271 : Int32) < p0 then (nd1_164_7 p0) else true)) → Steps p.tables e below (s₁.setTop (mkF m 219 #[.val (.int p0), .val (.int (b2i v1))] [])) t := k
      show Steps p.tables e below (s₁.setTop (mkF m 150 #[.val (.int p0), .unset] [])) _
      refine XS.iloadN X0.here hx rfl (hb hby d1_150) rfl ?_
      show Steps p.tables e below (s₁.setTop (mkF m 151 #[.val (.int p0), .unset] [(.int p0)])) _
      refine XS.sipush X0.here hx rfl (hb hby d1_151) ?_
      show Steps p.tables e below (s₁.setTop (mkF m 154 #[.val (.int p0), .unset] [(.int (11264 : Int32)), (.int p0)])) _
      by_cases hc38 : p0 < (11264 : Int32)
      · refine XS.icmpYes X0.here hx rfl (pc0 := 154) (pc' := 164) rfl (hb hby d1_154) rfl (tlt hc38).1 (by decide) (by decide) ?_
        have k : ∀ (v1 : Bool), v1 = (nd1_164_7 p0) → Steps p.tables e below (s₁.setTop (mkF m 219 #[.val (.int p0), .val (.int (b2i v1))] [])) t := fun v1 hv1 => k v1 (hv1.trans (if_pos hc38).symm)
        exact nd34 k
      · refine XS.icmpNo X0.here hx rfl (hb hby d1_154) rfl (flt hc38).1 ?_
        have k : ∀ (v1 : Bool), v1 = (if (12271 : Int32) < p0 then (nd1_164_7 p0) else true) → Steps p.tables e below (s₁.setTop (mkF m 219 #[.val (.int p0), .val (.int (b2i v1))] [])) t := fun v1 hv1 => k v1 (hv1.trans (if_neg hc38).symm)
        show Steps p.tables e below (s₁.setTop (mkF m 157 #[.val (.int p0), .unset] [])) _
        refine XS.iloadN X0.here hx rfl (hb hby d1_157) rfl ?_
        show Steps p.tables e below (s₁.setTop (mkF m 158 #[.val (.int p0), .unset] [(.int p0)])) _
        refine XS.sipush X0.here hx rfl (hb hby d1_158) ?_
        show Steps p.tables e below (s₁.setTop (mkF m 161 #[.val (.int p0), .unset] [(.int (12271 : Int32)), (.int p0)])) _
        by_cases hc39 : (12271 : Int32) < p0
        · refine XS.icmpNo X0.here hx rfl (hb hby d1_161) rfl (tlt hc39).2.2.2 ?_
          have k : ∀ (v1 : Bool), v1 = (nd1_164_7 p0) → Steps p.tables e below (s₁.setTop (mkF m 219 #[.val (.int p0), .val (.int (b2i v1))] [])) t := fun v1 hv1 => k v1 (hv1.trans (if_pos hc39).symm)
          exact nd34 k
        · refine XS.icmpYes X0.here hx rfl (pc0 := 161) (pc' := 213) rfl (hb hby d1_161) rfl (flt hc39).2.2.2 (by decide) (by decide) ?_
          have k : ∀ (v1 : Bool), v1 = true → Steps p.tables e below (s₁.setTop (mkF m 219 #[.val (.int p0), .val (.int (b2i v1))] [])) t := fun v1 hv1 => k v1 (hv1.trans (if_neg hc39).symm)
          exact nd24 k
    have nd40 : (∀ (v1 : Bool), v1 = (nd1_136_9 p0) → Steps p.tables e below (s₁.setTop (mkF m 219 #[.val (.int p0), .val (.int (b2i v1))] [])) t) → Steps p.tables e below (s₁.setTop (mkF m 136 #[.val (.int p0), .unset] [])) t := by
      intro k
      have k : ∀ (v1 : Bool), v1 = (if p0 < (8304 : Int32) then (nd1_150_8 p0) else (if (8591 : Int32) < p0 then (nd1_150_8 p0) else true)) → Steps p.tables e below (s₁.setTop (mkF m 219 #[.val (.int p0), .val (.int (b2i v1))] [])) t := k
      show Steps p.tables e below (s₁.setTop (mkF m 136 #[.val (.int p0), .unset] [])) _
      refine XS.iloadN X0.here hx rfl (hb hby d1_136) rfl ?_
      show Steps p.tables e below (s₁.setTop (mkF m 137 #[.val (.int p0), .unset] [(.int p0)])) _
      refine XS.sipush X0.here hx rfl (hb hby d1_137) ?_
      show Steps p.tables e below (s₁.setTop (mkF m 140 #[.val (.int p0), .unset] [(.int (8304 : Int32)), (.int p0)])) _
      by_cases hc41 : p0 < (8304 : Int32)
      · refine XS.icmpYes X0.here hx rfl (pc0 := 140) (pc' := 150) rfl (hb hby d1_140) rfl (tlt hc41).1 (by decide) (by decide) ?_
        have k : ∀ (v1 : Bool), v1 = (nd1_150_8 p0) → Steps p.tables e below (s₁.setTop (mkF m 219 #[.val (.int p0), .val (.int (b2i v1))] [])) t := fun v1 hv1 => k v1 (hv1.trans (if_pos hc41).symm)
        exact nd37 k
      · refine XS.icmpNo X0.here hx rfl (hb hby d1_140) rfl (flt hc41).1 ?_
        have k : ∀ (v1 : Bool), v1 = (if (8591 : Int32) < p0 then (nd1_150_8 p0) else true) → Steps p.tables e below (s₁.setTop (mkF m 219 #[.val (.int p0), .val (.int (b2i v1))] [])) t := fun v1 hv1 => k v1 (hv1.trans (if_neg hc41).symm)
        show Steps p.tables e below (s₁.setTop (mkF m 143 #[.val (.int p0), .unset] [])) _
        refine XS.iloadN X0.here hx rfl (hb hby d1_143) rfl ?_
        show Steps p.tables e below (s₁.setTop (mkF m 144 #[.val (.int p0), .unset] [(.int p0)])) _
        refine XS.sipush X0.here hx rfl (hb hby d1_144) ?_
        show Steps p.tables e below (s₁.setTop (mkF m 147 #[.val (.int p0), .unset] [(.int (8591 : Int32)), (.int p0)])) _
        by_cases hc42 : (8591 : Int32) < p0
        · refine XS.icmpNo X0.here hx rfl (hb hby d1_147) rfl (tlt hc42).2.2.2 ?_
          have k : ∀ (v1 : Bool), v1 = (nd1_150_8 p0) → Steps p.tables e below (s₁.setTop (mkF m 219 #[.val (.int p0), .val (.int (b2i v1))] [])) t := fun v1 hv1 => k v1 (hv1.trans (if_pos hc42).symm)
          exact nd37 k
        · refine XS.icmpYes X0.here hx rfl (pc0 := 147) (pc' := 213) rfl (hb hby d1_147) rfl (flt hc42).2.2.2 (by decide) (by decide) ?_
          have k : ∀ (v1 : Bool), v1 = true → Steps p.tables e below (s₁.setTop (mkF m 219 #[.val (.int p0), .val (.int (b2i v1))] [])) t := fun v1 hv1 => k v1 (hv1.trans (if_neg hc42).symm)
          exact nd24 k
    have nd43 : (∀ (v1 : Bool), v1 = (nd1_122_10 p0) → Steps p.tables e below (s₁.setTop (mkF m 219 #[.val (.int p0), .val (.int (b2i v1))] [])) t) → Steps p.tables e below (s₁.setTop (mkF m 122 #[.val (.int p0), .unset] [])) t := by
      intro k
      have k : ∀ (v1 : Bool), v1 = (if p0 < (8204 : Int32) then (nd1_136_9 p0) else (if (8205 : Int32) < p0 then (nd1_136_9 p0) else true)) → Steps p.tables e below (s₁.setTop (mkF m 219 #[.val (.int p0), .val (.int (b2i v1))] [])) t := k
      show Steps p.tables e below (s₁.setTop (mkF m 122 #[.val (.int p0), .unset] [])) _
      refine XS.iloadN X0.here hx rfl (hb hby d1_122) rfl ?_
      show Steps p.tables e below (s₁.setTop (mkF m 123 #[.val (.int p0), .unset] [(.int p0)])) _
      refine XS.sipush X0.here hx rfl (hb hby d1_123) ?_
      show Steps p.tables e below (s₁.setTop (mkF m 126 #[.val (.int p0), .unset] [(.int (8204 : Int32)), (.int p0)])) _
      by_cases hc44 : p0 < (8204 : Int32)
      · refine XS.icmpYes X0.here hx rfl (pc0 := 126) (pc' := 136) rfl (hb hby d1_126) rfl (tlt hc44).1 (by decide) (by decide) ?_
        have k : ∀ (v1 : Bool), v1 = (nd1_136_9 p0) → Steps p.tables e below (s₁.setTop (mkF m 219 #[.val (.int p0), .val (.int (b2i v1))] [])) t := fun v1 hv1 => k v1 (hv1.trans (if_pos hc44).symm)
        exact nd40 k
      · refine XS.icmpNo X0.here hx rfl (hb hby d1_126) rfl (flt hc44).1 ?_
        have k : ∀ (v1 : Bool), v1 = (if (8205 : Int32) < p0 then (nd1_136_9 p0) else true) → Steps p.tables e below (s₁.setTop (mkF m 219 #[.val (.int p0), .val (.int (b2i v1))] [])) t := fun v1 hv1 => k v1 (hv1.trans (if_neg hc44).symm)
        show Steps p.tables e below (s₁.setTop (mkF m 129 #[.val (.int p0), .unset] [])) _
        refine XS.iloadN X0.here hx rfl (hb hby d1_129) rfl ?_
        show Steps p.tables e below (s₁.setTop (mkF m 130 #[.val (.int p0), .unset] [(.int p0)])) _
        refine XS.sipush X0.here hx rfl (hb hby d1_130) ?_
        show Steps p.tables e below (s₁.setTop (mkF m 133 #[.val (.int p0), .unset] [(.int (8205 : Int32)), (.int p0)])) _
        by_cases hc45 : (8205 : Int32) < p0
        · refine XS.icmpNo X0.here hx rfl (hb hby d1_133) rfl (tlt hc45).2.2.2 ?_
          have k : ∀ (v1 : Bool), v1 = (nd1_136_9 p0) → Steps p.tables e below (s₁.setTop (mkF m 219 #[.val (.int p0), .val (.int (b2i v1))] [])) t := fun v1 hv1 => k v1 (hv1.trans (if_pos hc45).symm)
          exact nd40 k
        · refine XS.icmpYes X0.here hx rfl (pc0 := 133) (pc' := 213) rfl (hb hby d1_133) rfl (flt hc45).2.2.2 (by decide) (by decide) ?_
          have k : ∀ (v1 : Bool), v1 = true → Steps p.tables e below (s₁.setTop (mkF m 219 #[.val (.int p0), .val (.int (b2i v1))] [])) t := fun v1 hv1 => k v1 (hv1.trans (if_neg hc45).symm)
          exact nd24 k
    have nd46 : (∀ (v1 : Bool), v1 = (nd1_108_11 p0) → Steps p.tables e below (s₁.setTop (mkF m 219 #[.val (.int p0), .val (.int (b2i v1))] [])) t) → Steps p.tables e below (s₁.setTop (mkF m 108 #[.val (.int p0), .unset] [])) t := by
      intro k
      have k : ∀ (v1 : Bool), v1 = (if p0 < (895 : Int32) then (nd1_122_10 p0) else (if (8191 : Int32) < p0 then (nd1_122_10 p0) else true)) → Steps p.tables e below (s₁.setTop (mkF m 219 #[.val (.int p0), .val (.int (b2i v1))] [])) t := k
      show Steps p.tables e below (s₁.setTop (mkF m 108 #[.val (.int p0), .unset] [])) _
      refine XS.iloadN X0.here hx rfl (hb hby d1_108) rfl ?_
      show Steps p.tables e below (s₁.setTop (mkF m 109 #[.val (.int p0), .unset] [(.int p0)])) _
      refine XS.sipush X0.here hx rfl (hb hby d1_109) ?_
      show Steps p.tables e below (s₁.setTop (mkF m 112 #[.val (.int p0), .unset] [(.int (895 : Int32)), (.int p0)])) _
      by_cases hc47 : p0 < (895 : Int32)
      · refine XS.icmpYes X0.here hx rfl (pc0 := 112) (pc' := 122) rfl (hb hby d1_112) rfl (tlt hc47).1 (by decide) (by decide) ?_
        have k : ∀ (v1 : Bool), v1 = (nd1_122_10 p0) → Steps p.tables e below (s₁.setTop (mkF m 219 #[.val (.int p0), .val (.int (b2i v1))] [])) t := fun v1 hv1 => k v1 (hv1.trans (if_pos hc47).symm)
        exact nd43 k
      · refine XS.icmpNo X0.here hx rfl (hb hby d1_112) rfl (flt hc47).1 ?_
        have k : ∀ (v1 : Bool), v1 = (if (8191 : Int32) < p0 then (nd1_122_10 p0) else true) → Steps p.tables e below (s₁.setTop (mkF m 219 #[.val (.int p0), .val (.int (b2i v1))] [])) t := fun v1 hv1 => k v1 (hv1.trans (if_neg hc47).symm)
        show Steps p.tables e below (s₁.setTop (mkF m 115 #[.val (.int p0), .unset] [])) _
        refine XS.iloadN X0.here hx rfl (hb hby d1_115) rfl ?_
        show Steps p.tables e below (s₁.setTop (mkF m 116 #[.val (.int p0), .unset] [(.int p0)])) _
        refine XS.sipush X0.here hx rfl (hb hby d1_116) ?_
        show Steps p.tables e below (s₁.setTop (mkF m 119 #[.val (.int p0), .unset] [(.int (8191 : Int32)), (.int p0)])) _
        by_cases hc48 : (8191 : Int32) < p0
        · refine XS.icmpNo X0.here hx rfl (hb hby d1_119) rfl (tlt hc48).2.2.2 ?_
          have k : ∀ (v1 : Bool), v1 = (nd1_122_10 p0) → Steps p.tables e below (s₁.setTop (mkF m 219 #[.val (.int p0), .val (.int (b2i v1))] [])) t := fun v1 hv1 => k v1 (hv1.trans (if_pos hc48).symm)
          exact nd43 k
        · refine XS.icmpYes X0.here hx rfl (pc0 := 119) (pc' := 213) rfl (hb hby d1_119) rfl (flt hc48).2.2.2 (by decide) (by decide) ?_
          have k : ∀ (v1 : Bool), v1 = true → Steps p.tables e below (s₁.setTop (mkF m 219 #[.val (.int p0), .val (.int (b2i v1))] [])) t := fun v1 hv1 => k v1 (hv1.trans (if_neg hc48).symm)
          exact nd24 k
    have nd49 : (∀ (v1 : Bool), v1 = (nd1_94_12 p0) → Steps p.tables e below (s₁.setTop (mkF m 219 #[.val (.int p0), .val (.int (b2i v1))] [])) t) → Steps p.tables e below (s₁.setTop (mkF m 94 #[.val (.int p0), .unset] [])) t := by
      intro k
      have k : ∀ (v1 : Bool), v1 = (if p0 < (880 : Int32) then (nd1_108_11 p0) else (if (893 : Int32) < p0 then (nd1_108_11 p0) else true)) → Steps p.tables e below (s₁.setTop (mkF m 219 #[.val (.int p0), .val (.int (b2i v1))] [])) t := k
      show Steps p.tables e below (s₁.setTop (mkF m 94 #[.val (.int p0), .unset] [])) _
      refine XS.iloadN X0.here hx rfl (hb hby d1_94) rfl ?_
      show Steps p.tables e below (s₁.setTop (mkF m 95 #[.val (.int p0), .unset] [(.int p0)])) _
      refine XS.sipush X0.here hx rfl (hb hby d1_95) ?_
      show Steps p.tables e below (s₁.setTop (mkF m 98 #[.val (.int p0), .unset] [(.int (880 : Int32)), (.int p0)])) _
      by_cases hc50 : p0 < (880 : Int32)
      · refine XS.icmpYes X0.here hx rfl (pc0 := 98) (pc' := 108) rfl (hb hby d1_98) rfl (tlt hc50).1 (by decide) (by decide) ?_
        have k : ∀ (v1 : Bool), v1 = (nd1_108_11 p0) → Steps p.tables e below (s₁.setTop (mkF m 219 #[.val (.int p0), .val (.int (b2i v1))] [])) t := fun v1 hv1 => k v1 (hv1.trans (if_pos hc50).symm)
        exact nd46 k
      · refine XS.icmpNo X0.here hx rfl (hb hby d1_98) rfl (flt hc50).1 ?_
        have k : ∀ (v1 : Bool), v1 = (if (893 : Int32) < p0 then (nd1_108_11 p0) else true) → Steps p.tables e below (s₁.setTop (mkF m 219 #[.val (.int p0), .val (.int (b2i v1))] [])) t := fun v1 hv1 => k v1 (hv1.trans (if_neg hc50).symm)
        show Steps p.tables e below (s₁.setTop (mkF m 101 #[.val (.int p0), .unset] [])) _
        refine XS.iloadN X0.here hx rfl (hb hby d1_101) rfl ?_
        show Steps p.tables e below (s₁.setTop (mkF m 102 #[.val (.int p0), .unset] [(.int p0)])) _
        refine XS.sipush X0.here hx rfl (hb hby d1_102) ?_
        show Steps p.tables e below (s₁.setTop (mkF m 105 #[.val (.int p0), .unset] [(.int (893 : Int32)), (.int p0)])) _
        by_cases hc51 : (893 : Int32) < p0
        · refine XS.icmpNo X0.here hx rfl (hb hby d1_105) rfl (tlt hc51).2.2.2 ?_
          have k : ∀ (v1 : Bool), v1 = (nd1_108_11 p0) → Steps p.tables e below (s₁.setTop (mkF m 219 #[.val (.int p0), .val (.int (b2i v1))] [])) t := fun v1 hv1 => k v1 (hv1.trans (if_pos hc51).symm)
          exact nd46 k
        · refine XS.icmpYes X0.here hx rfl (pc0 := 105) (pc' := 213) rfl (hb hby d1_105) rfl (flt hc51).2.2.2 (by decide) (by decide) ?_
          have k : ∀ (v1 : Bool), v1 = true → Steps p.tables e below (s₁.setTop (mkF m 219 #[.val (.int p0), .val (.int (b2i v1))] [])) t := fun v1 hv1 => k v1 (hv1.trans (if_neg hc51).symm)
          exact nd24 k
    have nd52 : (∀ (v1 : Bool), v1 = (nd1_80_13 p0) → Steps p.tables e below (s₁.setTop (mkF m 219 #[.val (.int p0), .val (.int (b2i v1))] [])) t) → Steps p.tables e below (s₁.setTop (mkF m 80 #[.val (.int p0), .unset] [])) t := by
      intro k
      have k : ∀ (v1 : Bool), v1 = (if p0 < (248 : Int32) then (nd1_94_12 p0) else (if (767 : Int32) < p0 then (nd1_94_12 p0) else true)) → Steps p.tables e below (s₁.setTop (mkF m 219 #[.val (.int p0), .val (.int (b2i v1))] [])) t := k
      show Steps p.tables e below (s₁.setTop (mkF m 80 #[.val (.int p0), .unset] [])) _
      refine XS.iloadN X0.here hx rfl (hb hby d1_80) rfl ?_
      show Steps p.tables e below (s₁.setTop (mkF m 81 #[.val (.int p0), .unset] [(.int p0)])) _
      refine XS.sipush X0.here hx rfl (hb hby d1_81) ?_
      show Steps p.tables e below (s₁.setTop (mkF m 84 #[.val (.int p0), .unset] [(.int (248 : Int32)), (.int p0)])) _
      by_cases hc53 : p0 < (248 : Int32)
      · refine XS.icmpYes X0.here hx rfl (pc0 := 84) (pc' := 94) rfl (hb hby d1_84) rfl (tlt hc53).1 (by decide) (by decide) ?_
        have k : ∀ (v1 : Bool), v1 = (nd1_94_12 p0) → Steps p.tables e below (s₁.setTop (mkF m 219 #[.val (.int p0), .val (.int (b2i v1))] [])) t := fun v1 hv1 => k v1 (hv1.trans (if_pos hc53).symm)
        exact nd49 k
      · refine XS.icmpNo X0.here hx rfl (hb hby d1_84) rfl (flt hc53).1 ?_
        have k : ∀ (v1 : Bool), v1 = (if (767 : Int32) < p0 then (nd1_94_12 p0) else true) → Steps p.tables e below (s₁.setTop (mkF m 219 #[.val (.int p0), .val (.int (b2i v1))] [])) t := fun v1 hv1 => k v1 (hv1.trans (if_neg hc53).symm)
        show Steps p.tables e below (s₁.setTop (mkF m 87 #[.val (.int p0), .unset] [])) _
        refine XS.iloadN X0.here hx rfl (hb hby d1_87) rfl ?_
        show Steps p.tables e below (s₁.setTop (mkF m 88 #[.val (.int p0), .unset] [(.int p0)])) _
        refine XS.sipush X0.here hx rfl (hb hby d1_88) ?_
        show Steps p.tables e below (s₁.setTop (mkF m 91 #[.val (.int p0), .unset] [(.int (767 : Int32)), (.int p0)])) _
        by_cases hc54 : (767 : Int32) < p0
        · refine XS.icmpNo X0.here hx rfl (hb hby d1_91) rfl (tlt hc54).2.2.2 ?_
          have k : ∀ (v1 : Bool), v1 = (nd1_94_12 p0) → Steps p.tables e below (s₁.setTop (mkF m 219 #[.val (.int p0), .val (.int (b2i v1))] [])) t := fun v1 hv1 => k v1 (hv1.trans (if_pos hc54).symm)
          exact nd49 k
        · refine XS.icmpYes X0.here hx rfl (pc0 := 91) (pc' := 213) rfl (hb hby d1_91) rfl (flt hc54).2.2.2 (by decide) (by decide) ?_
          have k : ∀ (v1 : Bool), v1 = true → Steps p.tables e below (s₁.setTop (mkF m 219 #[.val (.int p0), .val (.int (b2i v1))] [])) t := fun v1 hv1 => k v1 (hv1.trans (if_neg hc54).symm)
          exact nd24 k
    have nd55 : (∀ (v1 : Bool), v1 = (nd1_66_14 p0) → Steps p.tables e below (s₁.setTop (mkF m 219 #[.val (.int p0), .val (.int (b2i v1))] [])) t) → Steps p.tables e below (s₁.setTop (mkF m 66 #[.val (.int p0), .unset] [])) t := by
      intro k
      have k : ∀ (v1 : Bool), v1 = (if p0 < (216 : Int32) then (nd1_80_13 p0) else (if (246 : Int32) < p0 then (nd1_80_13 p0) else true)) → Steps p.tables e below (s₁.setTop (mkF m 219 #[.val (.int p0), .val (.int (b2i v1))] [])) t := k
      show Steps p.tables e below (s₁.setTop (mkF m 66 #[.val (.int p0), .unset] [])) _
      refine XS.iloadN X0.here hx rfl (hb hby d1_66) rfl ?_
      show Steps p.tables e below (s₁.setTop (mkF m 67 #[.val (.int p0), .unset] [(.int p0)])) _
      refine XS.sipush X0.here hx rfl (hb hby d1_67) ?_
      show Steps p.tables e below (s₁.setTop (mkF m 70 #[.val (.int p0), .unset] [(.int (216 : Int32)), (.int p0)])) _
      by_cases hc56 : p0 < (216 : Int32)
      · refine XS.icmpYes X0.here hx rfl (pc0 := 70) (pc' := 80) rfl (hb hby d1_70) rfl (tlt hc56).1 (by decide) (by decide) ?_
        have k : ∀ (v1 : Bool), v1 = (nd1_80_13 p0) → Steps p.tables e below (s₁.setTop (mkF m 219 #[.val (.int p0), .val (.int (b2i v1))] [])) t := fun v1 hv1 => k v1 (hv1.trans (if_pos hc56).symm)
        exact nd52 k
      · refine XS.icmpNo X0.here hx rfl (hb hby d1_70) rfl (flt hc56).1 ?_
        have k : ∀ (v1 : Bool), v1 = (if (246 : Int32) < p0 then (nd1_80_13 p0) else true) → Steps p.tables e below (s₁.setTop (mkF m 219 #[.val (.int p0), .val (.int (b2i v1))] [])) t := fun v1 hv1 => k v1 (hv1.trans (if_neg hc56).symm)
        show Steps p.tables e below (s₁.setTop (mkF m 73 #[.val (.int p0), .unset] [])) _
        refine XS.iloadN X0.here hx rfl (hb hby d1_73) rfl ?_
        show Steps p.tables e below (s₁.setTop (mkF m 74 #[.val (.int p0), .unset] [(.int p0)])) _
        refine XS.sipush X0.here hx rfl (hb hby d1_74) ?_
        show Steps p.tables e below (s₁.setTop (mkF m 77 #[.val (.int p0), .unset] [(.int (246 : Int32)), (.int p0)])) _
        by_cases hc57 : (246 : Int32) < p0
        · refine XS.icmpNo X0.here hx rfl (hb hby d1_77) rfl (tlt hc57).2.2.2 ?_
          have k : ∀ (v1 : Bool), v1 = (nd1_80_13 p0) → Steps p.tables e below (s₁.setTop (mkF m 219 #[.val (.int p0), .val (.int (b2i v1))] [])) t := fun v1 hv1 => k v1 (hv1.trans (if_pos hc57).symm)
          exact nd52 k
        · refine XS.icmpYes X0.here hx rfl (pc0 := 77) (pc' := 213) rfl (hb hby d1_77) rfl (flt hc57).2.2.2 (by decide) (by decide) ?_
          have k : ∀ (v1 : Bool), v1 = true → Steps p.tables e below (s₁.setTop (mkF m 219 #[.val (.int p0), .val (.int (b2i v1))] [])) t := fun v1 hv1 => k v1 (hv1.trans (if_neg hc57).symm)
          exact nd24 k
    show Steps p.tables e below (s₁.setTop (mkF m 4 #[.val (.int p0), .unset] [(.int (128 : Int32)), (.int p0)])) _
    by_cases hc58 : p0 < (128 : Int32)
    · refine XS.icmpNo X0.here hx rfl (hb hby d1_4) rfl (tlt hc58).2.1 ?_
      have k : ∀ (v1 : Bool), v1 = (if p0 < (97 : Int32) then (nd1_19_3 p0) else (if (122 : Int32) < p0 then (nd1_19_3 p0) else true)) → Steps p.tables e below (s₁.setTop (mkF m 219 #[.val (.int p0), .val (.int (b2i v1))] [])) t := fun v1 hv1 => k v1 (hv1.trans (if_pos hc58).symm)
      show Steps p.tables e below (s₁.setTop (mkF m 7 #[.val (.int p0), .unset] [])) _
      refine XS.iloadN X0.here hx rfl (hb hby d1_7) rfl ?_
      show Steps p.tables e below (s₁.setTop (mkF m 8 #[.val (.int p0), .unset] [(.int p0)])) _
      refine XS.bipush X0.here hx rfl (hb hby d1_8) ?_
      show Steps p.tables e below (s₁.setTop (mkF m 10 #[.val (.int p0), .unset] [(.int (97 : Int32)), (.int p0)])) _
      by_cases hc59 : p0 < (97 : Int32)
      · refine XS.icmpYes X0.here hx rfl (pc0 := 10) (pc' := 19) rfl (hb hby d1_10) rfl (tlt hc59).1 (by decide) (by decide) ?_
        have k : ∀ (v1 : Bool), v1 = (nd1_19_3 p0) → Steps p.tables e below (s₁.setTop (mkF m 219 #[.val (.int p0), .val (.int (b2i v1))] [])) t := fun v1 hv1 => k v1 (hv1.trans (if_pos hc59).symm)
        exact nd20 k
      · refine XS.icmpNo X0.here hx rfl (hb hby d1_10) rfl (flt hc59).1 ?_
        have k : ∀ (v1 : Bool), v1 = (if (122 : Int32) < p0 then (nd1_19_3 p0) else true) → Steps p.tables e below (s₁.setTop (mkF m 219 #[.val (.int p0), .val (.int (b2i v1))] [])) t := fun v1 hv1 => k v1 (hv1.trans (if_neg hc59).symm)
        show Steps p.tables e below (s₁.setTop (mkF m 13 #[.val (.int p0), .unset] [])) _
        refine XS.iloadN X0.here hx rfl (hb hby d1_13) rfl ?_
        show Steps p.tables e below (s₁.setTop (mkF m 14 #[.val (.int p0), .unset] [(.int p0)])) _
        refine XS.bipush X0.here hx rfl (hb hby d1_14) ?_
        show Steps p.tables e below (s₁.setTop (mkF m 16 #[.val (.int p0), .unset] [(.int (122 : Int32)), (.int p0)])) _
        by_cases hc60 : (122 : Int32) < p0
        · refine XS.icmpNo X0.here hx rfl (hb hby d1_16) rfl (tlt hc60).2.2.2 ?_
          have k : ∀ (v1 : Bool), v1 = (nd1_19_3 p0) → Steps p.tables e below (s₁.setTop (mkF m 219 #[.val (.int p0), .val (.int (b2i v1))] [])) t := fun v1 hv1 => k v1 (hv1.trans (if_pos hc60).symm)
          exact nd20 k
        · refine XS.icmpYes X0.here hx rfl (pc0 := 16) (pc' := 43) rfl (hb hby d1_16) rfl (flt hc60).2.2.2 (by decide) (by decide) ?_
          have k : ∀ (v1 : Bool), v1 = true → Steps p.tables e below (s₁.setTop (mkF m 219 #[.val (.int p0), .val (.int (b2i v1))] [])) t := fun v1 hv1 => k v1 (hv1.trans (if_neg hc60).symm)
          exact nd16 k
    · refine XS.icmpYes X0.here hx rfl (pc0 := 4) (pc' := 52) rfl (hb hby d1_4) rfl (flt hc58).2.1 (by decide) (by decide) ?_
      have k : ∀ (v1 : Bool), v1 = (if p0 < (192 : Int32) then (nd1_66_14 p0) else (if (214 : Int32) < p0 then (nd1_66_14 p0) else true)) → Steps p.tables e below (s₁.setTop (mkF m 219 #[.val (.int p0), .val (.int (b2i v1))] [])) t := fun v1 hv1 => k v1 (hv1.trans (if_neg hc58).symm)
      show Steps p.tables e below (s₁.setTop (mkF m 52 #[.val (.int p0), .unset] [])) _
      refine XS.iloadN X0.here hx rfl (hb hby d1_52) rfl ?_
      show Steps p.tables e below (s₁.setTop (mkF m 53 #[.val (.int p0), .unset] [(.int p0)])) _
      refine XS.sipush X0.here hx rfl (hb hby d1_53) ?_
      show Steps p.tables e below (s₁.setTop (mkF m 56 #[.val (.int p0), .unset] [(.int (192 : Int32)), (.int p0)])) _
      by_cases hc61 : p0 < (192 : Int32)
      · refine XS.icmpYes X0.here hx rfl (pc0 := 56) (pc' := 66) rfl (hb hby d1_56) rfl (tlt hc61).1 (by decide) (by decide) ?_
        have k : ∀ (v1 : Bool), v1 = (nd1_66_14 p0) → Steps p.tables e below (s₁.setTop (mkF m 219 #[.val (.int p0), .val (.int (b2i v1))] [])) t := fun v1 hv1 => k v1 (hv1.trans (if_pos hc61).symm)
        exact nd55 k
      · refine XS.icmpNo X0.here hx rfl (hb hby d1_56) rfl (flt hc61).1 ?_
        have k : ∀ (v1 : Bool), v1 = (if (214 : Int32) < p0 then (nd1_66_14 p0) else true) → Steps p.tables e below (s₁.setTop (mkF m 219 #[.val (.int p0), .val (.int (b2i v1))] [])) t := fun v1 hv1 => k v1 (hv1.trans (if_neg hc61).symm)
        show Steps p.tables e below (s₁.setTop (mkF m 59 #[.val (.int p0), .unset] [])) _
        refine XS.iloadN X0.here hx rfl (hb hby d1_59) rfl ?_
        show Steps p.tables e below (s₁.setTop (mkF m 60 #[.val (.int p0), .unset] [(.int p0)])) _
        refine XS.sipush X0.here hx rfl (hb hby d1_60) ?_
        show Steps p.tables e below (s₁.setTop (mkF m 63 #[.val (.int p0), .unset] [(.int (214 : Int32)), (.int p0)])) _
        by_cases hc62 : (214 : Int32) < p0
        · refine XS.icmpNo X0.here hx rfl (hb hby d1_63) rfl (tlt hc62).2.2.2 ?_
          have k : ∀ (v1 : Bool), v1 = (nd1_66_14 p0) → Steps p.tables e below (s₁.setTop (mkF m 219 #[.val (.int p0), .val (.int (b2i v1))] [])) t := fun v1 hv1 => k v1 (hv1.trans (if_pos hc62).symm)
          exact nd55 k
        · refine XS.icmpYes X0.here hx rfl (pc0 := 63) (pc' := 213) rfl (hb hby d1_63) rfl (flt hc62).2.2.2 (by decide) (by decide) ?_
          have k : ∀ (v1 : Bool), v1 = true → Steps p.tables e below (s₁.setTop (mkF m 219 #[.val (.int p0), .val (.int (b2i v1))] [])) t := fun v1 hv1 => k v1 (hv1.trans (if_neg hc62).symm)
          exact nd24 k
  have pre63 : ∀ t, Steps p.tables e below (s₁.setTop (mkF m 220 #[.val (.int p0), .val (.int (b2i (if p0 < (128 : Int32) then (if p0 < (97 : Int32) then (nd1_19_3 p0) else (if (122 : Int32) < p0 then (nd1_19_3 p0) else true)) else (if p0 < (192 : Int32) then (nd1_66_14 p0) else (if (214 : Int32) < p0 then (nd1_66_14 p0) else true)))))] [(.int (b2i (if p0 < (128 : Int32) then (if p0 < (97 : Int32) then (nd1_19_3 p0) else (if (122 : Int32) < p0 then (nd1_19_3 p0) else true)) else (if p0 < (192 : Int32) then (nd1_66_14 p0) else (if (214 : Int32) < p0 then (nd1_66_14 p0) else true)))))])) t → Steps p.tables e below (s₁.setTop (entryFrame m #[(.int p0)] 2)) t := by
    intro t k
    refine pre15 t ?_
    show Steps p.tables e below (s₁.setTop (mkF m 219 #[.val (.int p0), .val (.int (b2i (if p0 < (128 : Int32) then (if p0 < (97 : Int32) then (nd1_19_3 p0) else (if (122 : Int32) < p0 then (nd1_19_3 p0) else true)) else (if p0 < (192 : Int32) then (nd1_66_14 p0) else (if (214 : Int32) < p0 then (nd1_66_14 p0) else true)))))] [])) _
    refine XS.iloadN X0.here hx rfl (hb hby d1_219) rfl ?_
    exact k
  obtain ⟨fs, hr, hrun, hended, hW, hsame⟩ := X0.leave (v := some (.int (b2i (F1 p0)))) (fun h => by rw [Bd.returns] at h; cases h) (BodyLoose.notSynchronized Bd)
  refine ⟨_, _, pre63 _ ?_, hrun, hended, _, _, rfl, ?_, ⟨_, rfl⟩, hW, hsame.mono (by decide) (by decide)⟩
  · show Steps p.tables e below (s₁.setTop (mkF m 220 #[.val (.int p0), .val (.int (b2i (if p0 < (128 : Int32) then (if p0 < (97 : Int32) then (nd1_19_3 p0) else (if (122 : Int32) < p0 then (nd1_19_3 p0) else true)) else (if p0 < (192 : Int32) then (nd1_66_14 p0) else (if (214 : Int32) < p0 then (nd1_66_14 p0) else true)))))] [(.int (b2i (if p0 < (128 : Int32) then (if p0 < (97 : Int32) then (nd1_19_3 p0) else (if (122 : Int32) < p0 then (nd1_19_3 p0) else true)) else (if p0 < (192 : Int32) then (nd1_66_14 p0) else (if (214 : Int32) < p0 then (nd1_66_14 p0) else true)))))])) _
    exact retN X0 hx (t := .boolean) Bd.returns (by simp) (hb hby d1_220) (by rw [nar_b2i]; exact hr)
  · show Q1 Z p0 h0 n0 _ s₁.heap _
    rw [e0]
    exact ⟨rfl, N0, rfl⟩
theorem d2_0 : decode method_2_code 0 = .ok (.iload_n 0, 1) := by decide +kernel
theorem d2_1 : decode method_2_code 1 = .ok (.ifCond .lt 9, 3) := by decide +kernel
theorem d2_4 : decode method_2_code 4 = .ok (.iload_n 0, 1) := by decide +kernel
theorem d2_5 : decode method_2_code 5 = .ok (.ldc 7, 2) := by decide +kernel
theorem d2_7 : decode method_2_code 7 = .ok (.if_icmp .le 5, 3) := by decide +kernel
theorem d2_10 : decode method_2_code 10 = .ok (.iconst 0, 1) := by decide +kernel
theorem d2_11 : decode method_2_code 11 = .ok (.ireturn, 1) := by decide +kernel
theorem d2_12 : decode method_2_code 12 = .ok (.iload_n 0, 1) := by decide +kernel
theorem d2_13 : decode method_2_code 13 = .ok (.bipush 57, 2) := by decide +kernel
theorem d2_15 : decode method_2_code 15 = .ok (.if_icmp .gt 5, 3) := by decide +kernel
theorem d2_18 : decode method_2_code 18 = .ok (.iconst 0, 1) := by decide +kernel
theorem d2_19 : decode method_2_code 19 = .ok (.ireturn, 1) := by decide +kernel
theorem d2_20 : decode method_2_code 20 = .ok (.iload_n 0, 1) := by decide +kernel
theorem d2_21 : decode method_2_code 21 = .ok (.bipush 59, 2) := by decide +kernel
theorem d2_23 : decode method_2_code 23 = .ok (.if_icmp .lt 11, 3) := by decide +kernel
theorem d2_26 : decode method_2_code 26 = .ok (.iload_n 0, 1) := by decide +kernel
theorem d2_27 : decode method_2_code 27 = .ok (.bipush 64, 2) := by decide +kernel
theorem d2_29 : decode method_2_code 29 = .ok (.if_icmp .gt 5, 3) := by decide +kernel
theorem d2_32 : decode method_2_code 32 = .ok (.iconst 0, 1) := by decide +kernel
theorem d2_33 : decode method_2_code 33 = .ok (.ireturn, 1) := by decide +kernel
theorem d2_34 : decode method_2_code 34 = .ok (.iload_n 0, 1) := by decide +kernel
theorem d2_35 : decode method_2_code 35 = .ok (.bipush 91, 2) := by decide +kernel
theorem d2_37 : decode method_2_code 37 = .ok (.if_icmp .lt 11, 3) := by decide +kernel
theorem d2_40 : decode method_2_code 40 = .ok (.iload_n 0, 1) := by decide +kernel
theorem d2_41 : decode method_2_code 41 = .ok (.bipush 94, 2) := by decide +kernel
theorem d2_43 : decode method_2_code 43 = .ok (.if_icmp .gt 5, 3) := by decide +kernel
theorem d2_46 : decode method_2_code 46 = .ok (.iconst 0, 1) := by decide +kernel
theorem d2_47 : decode method_2_code 47 = .ok (.ireturn, 1) := by decide +kernel
theorem d2_48 : decode method_2_code 48 = .ok (.iload_n 0, 1) := by decide +kernel
theorem d2_49 : decode method_2_code 49 = .ok (.bipush 96, 2) := by decide +kernel
theorem d2_51 : decode method_2_code 51 = .ok (.if_icmp .ne 5, 3) := by decide +kernel
theorem d2_54 : decode method_2_code 54 = .ok (.iconst 0, 1) := by decide +kernel
theorem d2_55 : decode method_2_code 55 = .ok (.ireturn, 1) := by decide +kernel
theorem d2_56 : decode method_2_code 56 = .ok (.iload_n 0, 1) := by decide +kernel
theorem d2_57 : decode method_2_code 57 = .ok (.bipush 123, 2) := by decide +kernel
theorem d2_59 : decode method_2_code 59 = .ok (.if_icmp .lt 12, 3) := by decide +kernel
theorem d2_62 : decode method_2_code 62 = .ok (.iload_n 0, 1) := by decide +kernel
theorem d2_63 : decode method_2_code 63 = .ok (.sipush 191, 3) := by decide +kernel
theorem d2_66 : decode method_2_code 66 = .ok (.if_icmp .gt 5, 3) := by decide +kernel
theorem d2_69 : decode method_2_code 69 = .ok (.iconst 0, 1) := by decide +kernel
theorem d2_70 : decode method_2_code 70 = .ok (.ireturn, 1) := by decide +kernel
theorem d2_71 : decode method_2_code 71 = .ok (.iload_n 0, 1) := by decide +kernel
theorem d2_72 : decode method_2_code 72 = .ok (.sipush 215, 3) := by decide +kernel
theorem d2_75 : decode method_2_code 75 = .ok (.if_icmp .eq 10, 3) := by decide +kernel
theorem d2_78 : decode method_2_code 78 = .ok (.iload_n 0, 1) := by decide +kernel
theorem d2_79 : decode method_2_code 79 = .ok (.sipush 247, 3) := by decide +kernel
theorem d2_82 : decode method_2_code 82 = .ok (.if_icmp .ne 5, 3) := by decide +kernel
theorem d2_85 : decode method_2_code 85 = .ok (.iconst 0, 1) := by decide +kernel
theorem d2_86 : decode method_2_code 86 = .ok (.ireturn, 1) := by decide +kernel
theorem d2_87 : decode method_2_code 87 = .ok (.iload_n 0, 1) := by decide +kernel
theorem d2_88 : decode method_2_code 88 = .ok (.sipush 768, 3) := by decide +kernel
theorem d2_91 : decode method_2_code 91 = .ok (.if_icmp .lt 12, 3) := by decide +kernel
theorem d2_94 : decode method_2_code 94 = .ok (.iload_n 0, 1) := by decide +kernel
theorem d2_95 : decode method_2_code 95 = .ok (.sipush 879, 3) := by decide +kernel
theorem d2_98 : decode method_2_code 98 = .ok (.if_icmp .gt 5, 3) := by decide +kernel
theorem d2_101 : decode method_2_code 101 = .ok (.iconst 0, 1) := by decide +kernel
theorem d2_102 : decode method_2_code 102 = .ok (.ireturn, 1) := by decide +kernel
theorem d2_103 : decode method_2_code 103 = .ok (.iload_n 0, 1) := by decide +kernel
theorem d2_104 : decode method_2_code 104 = .ok (.sipush 894, 3) := by decide +kernel
theorem d2_107 : decode method_2_code 107 = .ok (.if_icmp .ne 5, 3) := by decide +kernel
theorem d2_110 : decode method_2_code 110 = .ok (.iconst 0, 1) := by decide +kernel
theorem d2_111 : decode method_2_code 111 = .ok (.ireturn, 1) := by decide +kernel
theorem d2_112 : decode method_2_code 112 = .ok (.iload_n 0, 1) := by decide +kernel
theorem d2_113 : decode method_2_code 113 = .ok (.sipush 8192, 3) := by decide +kernel
theorem d2_116 : decode method_2_code 116 = .ok (.if_icmp .lt 12, 3) := by decide +kernel
theorem d2_119 : decode method_2_code 119 = .ok (.iload_n 0, 1) := by decide +kernel
theorem d2_120 : decode method_2_code 120 = .ok (.sipush 8203, 3) := by decide +kernel
theorem d2_123 : decode method_2_code 123 = .ok (.if_icmp .gt 5, 3) := by decide +kernel
theorem d2_126 : decode method_2_code 126 = .ok (.iconst 0, 1) := by decide +kernel
theorem d2_127 : decode method_2_code 127 = .ok (.ireturn, 1) := by decide +kernel
theorem d2_128 : decode method_2_code 128 = .ok (.iload_n 0, 1) := by decide +kernel
theorem d2_129 : decode method_2_code 129 = .ok (.sipush 8206, 3) := by decide +kernel
theorem d2_132 : decode method_2_code 132 = .ok (.if_icmp .lt 12, 3) := by decide +kernel
theorem d2_135 : decode method_2_code 135 = .ok (.iload_n 0, 1) := by decide +kernel
theorem d2_136 : decode method_2_code 136 = .ok (.sipush 8303, 3) := by decide +kernel
theorem d2_139 : decode method_2_code 139 = .ok (.if_icmp .gt 5, 3) := by decide +kernel
theorem d2_142 : decode method_2_code 142 = .ok (.iconst 0, 1) := by decide +kernel
theorem d2_143 : decode method_2_code 143 = .ok (.ireturn, 1) := by decide +kernel
theorem d2_144 : decode method_2_code 144 = .ok (.iload_n 0, 1) := by decide +kernel
theorem d2_145 : decode method_2_code 145 = .ok (.sipush 8592, 3) := by decide +kernel
theorem d2_148 : decode method_2_code 148 = .ok (.if_icmp .lt 12, 3) := by decide +kernel
theorem d2_151 : decode method_2_code 151 = .ok (.iload_n 0, 1) := by decide +kernel
theorem d2_152 : decode method_2_code 152 = .ok (.sipush 11263, 3) := by decide +kernel
theorem d2_155 : decode method_2_code 155 = .ok (.if_icmp .gt 5, 3) := by decide +kernel
theorem d2_158 : decode method_2_code 158 = .ok (.iconst 0, 1) := by decide +kernel
theorem d2_159 : decode method_2_code 159 = .ok (.ireturn, 1) := by decide +kernel
theorem d2_160 : decode method_2_code 160 = .ok (.iload_n 0, 1) := by decide +kernel
theorem d2_161 : decode method_2_code 161 = .ok (.sipush 12272, 3) := by decide +kernel
theorem d2_164 : decode method_2_code 164 = .ok (.if_icmp .lt 12, 3) := by decide +kernel
theorem d2_167 : decode method_2_code 167 = .ok (.iload_n 0, 1) := by decide +kernel
theorem d2_168 : decode method_2_code 168 = .ok (.sipush 12288, 3) := by decide +kernel
theorem d2_171 : decode method_2_code 171 = .ok (.if_icmp .gt 5, 3) := by decide +kernel
theorem d2_174 : decode method_2_code 174 = .ok (.iconst 0, 1) := by decide +kernel
theorem d2_175 : decode method_2_code 175 = .ok (.ireturn, 1) := by decide +kernel
theorem d2_176 : decode method_2_code 176 = .ok (.iload_n 0, 1) := by decide +kernel
theorem d2_177 : decode method_2_code 177 = .ok (.ldc 8, 2) := by decide +kernel
theorem d2_179 : decode method_2_code 179 = .ok (.if_icmp .lt 11, 3) := by decide +kernel
theorem d2_182 : decode method_2_code 182 = .ok (.iload_n 0, 1) := by decide +kernel
theorem d2_183 : decode method_2_code 183 = .ok (.ldc 9, 2) := by decide +kernel
theorem d2_185 : decode method_2_code 185 = .ok (.if_icmp .gt 5, 3) := by decide +kernel
theorem d2_188 : decode method_2_code 188 = .ok (.iconst 0, 1) := by decide +kernel
theorem d2_189 : decode method_2_code 189 = .ok (.ireturn, 1) := by decide +kernel
theorem d2_190 : decode method_2_code 190 = .ok (.iload_n 0, 1) := by decide +kernel
theorem d2_191 : decode method_2_code 191 = .ok (.ldc 10, 2) := by decide +kernel
theorem d2_193 : decode method_2_code 193 = .ok (.if_icmp .lt 11, 3) := by decide +kernel
theorem d2_196 : decode method_2_code 196 = .ok (.iload_n 0, 1) := by decide +kernel
theorem d2_197 : decode method_2_code 197 = .ok (.ldc 11, 2) := by decide +kernel
theorem d2_199 : decode method_2_code 199 = .ok (.if_icmp .gt 5, 3) := by decide +kernel
theorem d2_202 : decode method_2_code 202 = .ok (.iconst 0, 1) := by decide +kernel
theorem d2_203 : decode method_2_code 203 = .ok (.ireturn, 1) := by decide +kernel
theorem d2_204 : decode method_2_code 204 = .ok (.iload_n 0, 1) := by decide +kernel
theorem d2_205 : decode method_2_code 205 = .ok (.ldc 12, 2) := by decide +kernel
theorem d2_207 : decode method_2_code 207 = .ok (.if_icmp .eq 9, 3) := by decide +kernel
theorem d2_210 : decode method_2_code 210 = .ok (.iload_n 0, 1) := by decide +kernel
theorem d2_211 : decode method_2_code 211 = .ok (.ldc 13, 2) := by decide +kernel
theorem d2_213 : decode method_2_code 213 = .ok (.if_icmp .ne 5, 3) := by decide +kernel
theorem d2_216 : decode method_2_code 216 = .ok (.iconst 0, 1) := by decide +kernel
theorem d2_217 : decode method_2_code 217 = .ok (.ireturn, 1) := by decide +kernel
theorem d2_218 : decode method_2_code 218 = .ok (.iconst 1, 1) := by decide +kernel
theorem d2_219 : decode method_2_code 219 = .ok (.ireturn, 1) := by decide +kernel
theorem pn_2 : plainName "com/example/tamsui/tamsui/xml/XmlCharsIsNameStartPinLaw" = true := by first | (simp [plainName, overriddenIn]; done) | decide +kernel
theorem ef_2 (m : MethodId) (x0 : Int32) : entryFrame m #[(.int x0)] 1 = mkF m 0 #[.val (.int x0)] [] := by first | (simp [entryFrame, mkF, argsToLocals, Value.category]; done) | rfl
def nd2_204_2 (p0 : Int32) : Bool := (if p0 = (65534 : Int32) then false else (if p0 = (65535 : Int32) then false else true))
def nd2_190_3 (p0 : Int32) : Bool := (if p0 < (64976 : Int32) then (nd2_204_2 p0) else (if (65007 : Int32) < p0 then (nd2_204_2 p0) else false))
def nd2_176_4 (p0 : Int32) : Bool := (if p0 < (55296 : Int32) then (nd2_190_3 p0) else (if (63743 : Int32) < p0 then (nd2_190_3 p0) else false))
def nd2_160_5 (p0 : Int32) : Bool := (if p0 < (12272 : Int32) then (nd2_176_4 p0) else (if (12288 : Int32) < p0 then (nd2_176_4 p0) else false))
def nd2_144_6 (p0 : Int32) : Bool := (if p0 < (8592 : Int32) then (nd2_160_5 p0) else (if (11263 : Int32) < p0 then (nd2_160_5 p0) else false))
def nd2_128_7 (p0 : Int32) : Bool := (if p0 < (8206 : Int32) then (nd2_144_6 p0) else (if (8303 : Int32) < p0 then (nd2_144_6 p0) else false))
def nd2_103_8 (p0 : Int32) : Bool := (if p0 = (894 : Int32) then false else (if p0 < (8192 : Int32) then (nd2_128_7 p0) else (if (8203 : Int32) < p0 then (nd2_128_7 p0) else false)))
def nd2_71_9 (p0 : Int32) : Bool := (if p0 = (215 : Int32) then false else (if p0 = (247 : Int32) then false else (if p0 < (768 : Int32) then (nd2_103_8 p0) else (if (879 : Int32) < p0 then (nd2_103_8 p0) else false))))
def nd2_48_10 (p0 : Int32) : Bool := (if p0 = (96 : Int32) then false else (if p0 < (123 : Int32) then (nd2_71_9 p0) else (if (191 : Int32) < p0 then (nd2_71_9 p0) else false)))
def nd2_34_11 (p0 : Int32) : Bool := (if p0 < (91 : Int32) then (nd2_48_10 p0) else (if (94 : Int32) < p0 then (nd2_48_10 p0) else false))
def F2 (p0 : Int32) : Bool := (if p0 < (0 : Int32) then false else (if (983039 : Int32) < p0 then false else (if (57 : Int32) < p0 then (if p0 < (59 : Int32) then (nd2_34_11 p0) else (if (64 : Int32) < p0 then (nd2_34_11 p0) else false)) else false)))
def Q2 (Z : State) (p0 : Int32) (h0 : Heap) (n0 : Nat) (v : Option Value) (h : Heap) (L : List Loc) : Prop := v = some (.int (b2i (F2 p0))) ∧ Fr n0 L ∧ h = h0
set_option maxRecDepth 65536 in
set_option maxHeartbeats 40000000 in
theorem rm2 (l : Launch) (Z : State) (a0 : Array Value) (hw : ∀ d ∈ tables_1, d.before a0 Z = true) (ws : List Jvm.Cond) (p0 : Int32) (h0 : Heap) (n0 : Nat) (Z0 : n0 ≤ h0.size) :
    MetFree l (⟨"com/example/tamsui/tamsui/xml/XmlCharsIsNameStartPinLaw", "ref", "(I)Z"⟩ : MethodName) (head1 (Jvm.Cond.code (⟨"com/example/tamsui/tamsui/xml/XmlCharsIsNameStartPinLaw", "ref", "(I)Z"⟩ : MethodName) method_2_code 1 (some .boolean) :: ws) ({ frames := 0, cells := 0, slots := 0, locals := 0 } : Room)) (fun a U => a = #[(.int p0)] ∧ Z.Warmed39 U.vm ∧ U.heap = h0) (fun _ _ _ _ _ => True) (fun _ U o U' => ∃ v L, o = .returned v ∧ Q2 Z p0 h0 n0 v U'.heap L ∧ FrameEnd U o U' L ({ frames := 0, cells := 0, slots := 0, locals := 0 } : Room).cells ({ frames := 0, cells := 0, slots := 0, locals := 0 } : Room).slots) := by
  refine MetFree.of_bodySF (plainFor_of_name pn_2) hisR ?_
  intro p e s m args below meth c s₁ Bd hml0 hP hK
  obtain ⟨rfl, hZ, hh⟩ := hP
  have hx := Bd.exec
  have hby := Bd.bytes
  have hml : c.maxLocals = 1 := hml0
  have hown : s.vm.findClass "com/example/tamsui/tamsui/xml/XmlCharsIsNameStartPinLaw" = some m.cls := findClass_of_methodNamed Bd.named
  have hnm := (name_of_methodNamed Bd.named Bd.method).1
  have X0 : Stand p l e ({ frames := 0, cells := 0, slots := 0, locals := 0 } : Room) s m #[(.int p0)] below meth c s₁ [] 0 0 := Stand.of_body Bd
  have e0 : s₁.heap = h0 := by rw [← hh, Bd.state]; rfl
  have N0 := Fr.nil n0
  have pre0 : ∀ t, Steps p.tables e below (s₁.setTop (mkF m 0 #[.val (.int p0)] [])) t → Steps p.tables e below (s₁.setTop (entryFrame m #[(.int p0)] 1)) t := fun t k => castTop (ef_2 m p0) k
  have pre1 : ∀ t, Steps p.tables e below (s₁.setTop (mkF m 1 #[.val (.int p0)] [(.int p0)])) t → Steps p.tables e below (s₁.setTop (entryFrame m #[(.int p0)] 1)) t := by
    intro t k
    refine pre0 t ?_
    show Steps p.tables e below (s₁.setTop (mkF m 0 #[.val (.int p0)] [])) _
    refine XS.iloadN X0.here hx rfl (hb hby d2_0) rfl ?_
    exact k
  obtain ⟨fs, hr, hrun, hended, hW, hsame⟩ := X0.leave (v := some (.int (b2i (F2 p0)))) (fun h => by rw [Bd.returns] at h; cases h) (BodyLoose.notSynchronized Bd)
  refine ⟨_, _, pre1 _ ?_, hrun, hended, _, _, rfl, ?_, ⟨_, rfl⟩, hW, hsame.mono (by decide) (by decide)⟩
  · have k : ∀ (v1 : Bool), v1 = (if p0 < (0 : Int32) then false else (if (983039 : Int32) < p0 then false else (if (57 : Int32) < p0 then (if p0 < (59 : Int32) then (nd2_34_11 p0) else (if (64 : Int32) < p0 then (nd2_34_11 p0) else false)) else false))) → ∀ (f : JFrame) (acts : List Action), f.method = m → f.locked = none → f.entered = [] → (doReturn e (s₁.setTop f) acts (some (.int (b2i v1)))).1 = s₁.setFrames fs := fun v1 hv1 => by subst hv1; exact hr
    have nd12 : (∀ (v1 : Bool), v1 = false → ∀ (f : JFrame) (acts : List Action), f.method = m → f.locked = none → f.entered = [] → (doReturn e (s₁.setTop f) acts (some (.int (b2i v1)))).1 = s₁.setFrames fs) → Steps p.tables e below (s₁.setTop (mkF m 10 #[.val (.int p0)] [])) (s₁.setFrames fs) := by
      intro k
      show Steps p.tables e below (s₁.setTop (mkF m 10 #[.val (.int p0)] [])) _
      refine XS.iconst X0.here hx rfl (hb hby d2_10) ?_
      show Steps p.tables e below (s₁.setTop (mkF m 11 #[.val (.int p0)] [(.int (0 : Int32))])) _
      exact retN X0 hx (t := .boolean) Bd.returns (by simp) (hb hby d2_11) (k false rfl)
    have nd13 : (∀ (v1 : Bool), v1 = false → ∀ (f : JFrame) (acts : List Action), f.method = m → f.locked = none → f.entered = [] → (doReturn e (s₁.setTop f) acts (some (.int (b2i v1)))).1 = s₁.setFrames fs) → Steps p.tables e below (s₁.setTop (mkF m 85 #[.val (.int p0)] [])) (s₁.setFrames fs) := by
      intro k
      show Steps p.tables e below (s₁.setTop (mkF m 85 #[.val (.int p0)] [])) _
      refine XS.iconst X0.here hx rfl (hb hby d2_85) ?_
      show Steps p.tables e below (s₁.setTop (mkF m 86 #[.val (.int p0)] [(.int (0 : Int32))])) _
      exact retN X0 hx (t := .boolean) Bd.returns (by simp) (hb hby d2_86) (k false rfl)
    have nd14 : (∀ (v1 : Bool), v1 = false → ∀ (f : JFrame) (acts : List Action), f.method = m → f.locked = none → f.entered = [] → (doReturn e (s₁.setTop f) acts (some (.int (b2i v1)))).1 = s₁.setFrames fs) → Steps p.tables e below (s₁.setTop (mkF m 216 #[.val (.int p0)] [])) (s₁.setFrames fs) := by
      intro k
      show Steps p.tables e below (s₁.setTop (mkF m 216 #[.val (.int p0)] [])) _
      refine XS.iconst X0.here hx rfl (hb hby d2_216) ?_
      show Steps p.tables e below (s₁.setTop (mkF m 217 #[.val (.int p0)] [(.int (0 : Int32))])) _
      exact retN X0 hx (t := .boolean) Bd.returns (by simp) (hb hby d2_217) (k false rfl)
    have nd15 : (∀ (v1 : Bool), v1 = (nd2_204_2 p0) → ∀ (f : JFrame) (acts : List Action), f.method = m → f.locked = none → f.entered = [] → (doReturn e (s₁.setTop f) acts (some (.int (b2i v1)))).1 = s₁.setFrames fs) → Steps p.tables e below (s₁.setTop (mkF m 204 #[.val (.int p0)] [])) (s₁.setFrames fs) := by
      intro k
      have k : ∀ (v1 : Bool), v1 = (if p0 = (65534 : Int32) then false else (if p0 = (65535 : Int32) then false else true)) → ∀ (f : JFrame) (acts : List Action), f.method = m → f.locked = none → f.entered = [] → (doReturn e (s₁.setTop f) acts (some (.int (b2i v1)))).1 = s₁.setFrames fs := k
      show Steps p.tables e below (s₁.setTop (mkF m 204 #[.val (.int p0)] [])) _
      refine XS.iloadN X0.here hx rfl (hb hby d2_204) rfl ?_
      show Steps p.tables e below (s₁.setTop (mkF m 205 #[.val (.int p0)] [(.int p0)])) _
      refine X0.ldcInt hx hown (mvT hZ (hw _ (List.mem_of_getElem? (i := 22) rfl))) (g := (mkF m 205 #[.val (.int p0)] [(.int p0)])) rfl (hb hby d2_205) _ ?_
      show Steps p.tables e below (s₁.setTop (mkF m 207 #[.val (.int p0)] [(.int (65534 : Int32)), (.int p0)])) _
      by_cases hc16 : p0 = (65534 : Int32)
      · refine XS.icmpYes X0.here hx rfl (pc0 := 207) (pc' := 216) rfl (hb hby d2_207) rfl (teq hc16).1 (by decide) (by decide) ?_
        have k : ∀ (v1 : Bool), v1 = false → ∀ (f : JFrame) (acts : List Action), f.method = m → f.locked = none → f.entered = [] → (doReturn e (s₁.setTop f) acts (some (.int (b2i v1)))).1 = s₁.setFrames fs := fun v1 hv1 => k v1 (hv1.trans (if_pos hc16).symm)
        exact nd14 k
      · refine XS.icmpNo X0.here hx rfl (hb hby d2_207) rfl (feq hc16).1 ?_
        have k : ∀ (v1 : Bool), v1 = (if p0 = (65535 : Int32) then false else true) → ∀ (f : JFrame) (acts : List Action), f.method = m → f.locked = none → f.entered = [] → (doReturn e (s₁.setTop f) acts (some (.int (b2i v1)))).1 = s₁.setFrames fs := fun v1 hv1 => k v1 (hv1.trans (if_neg hc16).symm)
        show Steps p.tables e below (s₁.setTop (mkF m 210 #[.val (.int p0)] [])) _
        refine XS.iloadN X0.here hx rfl (hb hby d2_210) rfl ?_
        show Steps p.tables e below (s₁.setTop (mkF m 211 #[.val (.int p0)] [(.int p0)])) _
        refine X0.ldcInt hx hown (mvT hZ (hw _ (List.mem_of_getElem? (i := 23) rfl))) (g := (mkF m 211 #[.val (.int p0)] [(.int p0)])) rfl (hb hby d2_211) _ ?_
        show Steps p.tables e below (s₁.setTop (mkF m 213 #[.val (.int p0)] [(.int (65535 : Int32)), (.int p0)])) _
        by_cases hc17 : p0 = (65535 : Int32)
        · refine XS.icmpNo X0.here hx rfl (hb hby d2_213) rfl (teq hc17).2 ?_
          have k : ∀ (v1 : Bool), v1 = false → ∀ (f : JFrame) (acts : List Action), f.method = m → f.locked = none → f.entered = [] → (doReturn e (s₁.setTop f) acts (some (.int (b2i v1)))).1 = s₁.setFrames fs := fun v1 hv1 => k v1 (hv1.trans (if_pos hc17).symm)
          exact nd14 k
        · refine XS.icmpYes X0.here hx rfl (pc0 := 213) (pc' := 218) rfl (hb hby d2_213) rfl (feq hc17).2 (by decide) (by decide) ?_
          have k : ∀ (v1 : Bool), v1 = true → ∀ (f : JFrame) (acts : List Action), f.method = m → f.locked = none → f.entered = [] → (doReturn e (s₁.setTop f) acts (some (.int (b2i v1)))).1 = s₁.setFrames fs := fun v1 hv1 => k v1 (hv1.trans (if_neg hc17).symm)
          show Steps p.tables e below (s₁.setTop (mkF m 218 #[.val (.int p0)] [])) _
          refine XS.iconst X0.here hx rfl (hb hby d2_218) ?_
          show Steps p.tables e below (s₁.setTop (mkF m 219 #[.val (.int p0)] [(.int (1 : Int32))])) _
          exact retN X0 hx (t := .boolean) Bd.returns (by simp) (hb hby d2_219) (k true rfl)
    have nd18 : (∀ (v1 : Bool), v1 = (nd2_190_3 p0) → ∀ (f : JFrame) (acts : List Action), f.method = m → f.locked = none → f.entered = [] → (doReturn e (s₁.setTop f) acts (some (.int (b2i v1)))).1 = s₁.setFrames fs) → Steps p.tables e below (s₁.setTop (mkF m 190 #[.val (.int p0)] [])) (s₁.setFrames fs) := by
      intro k
      have k : ∀ (v1 : Bool), v1 = (if p0 < (64976 : Int32) then (nd2_204_2 p0) else (if (65007 : Int32) < p0 then (nd2_204_2 p0) else false)) → ∀ (f : JFrame) (acts : List Action), f.method = m → f.locked = none → f.entered = [] → (doReturn e (s₁.setTop f) acts (some (.int (b2i v1)))).1 = s₁.setFrames fs := k
      show Steps p.tables e below (s₁.setTop (mkF m 190 #[.val (.int p0)] [])) _
      refine XS.iloadN X0.here hx rfl (hb hby d2_190) rfl ?_
      show Steps p.tables e below (s₁.setTop (mkF m 191 #[.val (.int p0)] [(.int p0)])) _
      refine X0.ldcInt hx hown (mvT hZ (hw _ (List.mem_of_getElem? (i := 21) rfl))) (g := (mkF m 191 #[.val (.int p0)] [(.int p0)])) rfl (hb hby d2_191) _ ?_
      show Steps p.tables e below (s₁.setTop (mkF m 193 #[.val (.int p0)] [(.int (64976 : Int32)), (.int p0)])) _
      by_cases hc19 : p0 < (64976 : Int32)
      · refine XS.icmpYes X0.here hx rfl (pc0 := 193) (pc' := 204) rfl (hb hby d2_193) rfl (tlt hc19).1 (by decide) (by decide) ?_
        have k : ∀ (v1 : Bool), v1 = (nd2_204_2 p0) → ∀ (f : JFrame) (acts : List Action), f.method = m → f.locked = none → f.entered = [] → (doReturn e (s₁.setTop f) acts (some (.int (b2i v1)))).1 = s₁.setFrames fs := fun v1 hv1 => k v1 (hv1.trans (if_pos hc19).symm)
        exact nd15 k
      · refine XS.icmpNo X0.here hx rfl (hb hby d2_193) rfl (flt hc19).1 ?_
        have k : ∀ (v1 : Bool), v1 = (if (65007 : Int32) < p0 then (nd2_204_2 p0) else false) → ∀ (f : JFrame) (acts : List Action), f.method = m → f.locked = none → f.entered = [] → (doReturn e (s₁.setTop f) acts (some (.int (b2i v1)))).1 = s₁.setFrames fs := fun v1 hv1 => k v1 (hv1.trans (if_neg hc19).symm)
        show Steps p.tables e below (s₁.setTop (mkF m 196 #[.val (.int p0)] [])) _
        refine XS.iloadN X0.here hx rfl (hb hby d2_196) rfl ?_
        show Steps p.tables e below (s₁.setTop (mkF m 197 #[.val (.int p0)] [(.int p0)])) _
        refine X0.ldcInt hx hown (mvT hZ (hw _ (List.mem_of_getElem? (i := 29) rfl))) (g := (mkF m 197 #[.val (.int p0)] [(.int p0)])) rfl (hb hby d2_197) _ ?_
        show Steps p.tables e below (s₁.setTop (mkF m 199 #[.val (.int p0)] [(.int (65007 : Int32)), (.int p0)])) _
        by_cases hc20 : (65007 : Int32) < p0
        · refine XS.icmpYes X0.here hx rfl (pc0 := 199) (pc' := 204) rfl (hb hby d2_199) rfl (tlt hc20).2.2.1 (by decide) (by decide) ?_
          have k : ∀ (v1 : Bool), v1 = (nd2_204_2 p0) → ∀ (f : JFrame) (acts : List Action), f.method = m → f.locked = none → f.entered = [] → (doReturn e (s₁.setTop f) acts (some (.int (b2i v1)))).1 = s₁.setFrames fs := fun v1 hv1 => k v1 (hv1.trans (if_pos hc20).symm)
          exact nd15 k
        · refine XS.icmpNo X0.here hx rfl (hb hby d2_199) rfl (flt hc20).2.2.1 ?_
          have k : ∀ (v1 : Bool), v1 = false → ∀ (f : JFrame) (acts : List Action), f.method = m → f.locked = none → f.entered = [] → (doReturn e (s₁.setTop f) acts (some (.int (b2i v1)))).1 = s₁.setFrames fs := fun v1 hv1 => k v1 (hv1.trans (if_neg hc20).symm)
          show Steps p.tables e below (s₁.setTop (mkF m 202 #[.val (.int p0)] [])) _
          refine XS.iconst X0.here hx rfl (hb hby d2_202) ?_
          show Steps p.tables e below (s₁.setTop (mkF m 203 #[.val (.int p0)] [(.int (0 : Int32))])) _
          exact retN X0 hx (t := .boolean) Bd.returns (by simp) (hb hby d2_203) (k false rfl)
    have nd21 : (∀ (v1 : Bool), v1 = (nd2_176_4 p0) → ∀ (f : JFrame) (acts : List Action), f.method = m → f.locked = none → f.entered = [] → (doReturn e (s₁.setTop f) acts (some (.int (b2i v1)))).1 = s₁.setFrames fs) → Steps p.tables e below (s₁.setTop (mkF m 176 #[.val (.int p0)] [])) (s₁.setFrames fs) := by
      intro k
      have k : ∀ (v1 : Bool), v1 = (if p0 < (55296 : Int32) then (nd2_190_3 p0) else (if (63743 : Int32) < p0 then (nd2_190_3 p0) else false)) → ∀ (f : JFrame) (acts : List Action), f.method = m → f.locked = none → f.entered = [] → (doReturn e (s₁.setTop f) acts (some (.int (b2i v1)))).1 = s₁.setFrames fs := k
      show Steps p.tables e below (s₁.setTop (mkF m 176 #[.val (.int p0)] [])) _
      refine XS.iloadN X0.here hx rfl (hb hby d2_176) rfl ?_
      show Steps p.tables e below (s₁.setTop (mkF m 177 #[.val (.int p0)] [(.int p0)])) _
      refine X0.ldcInt hx hown (mvT hZ (hw _ (List.mem_of_getElem? (i := 20) rfl))) (g := (mkF m 177 #[.val (.int p0)] [(.int p0)])) rfl (hb hby d2_177) _ ?_
      show Steps p.tables e below (s₁.setTop (mkF m 179 #[.val (.int p0)] [(.int (55296 : Int32)), (.int p0)])) _
      by_cases hc22 : p0 < (55296 : Int32)
      · refine XS.icmpYes X0.here hx rfl (pc0 := 179) (pc' := 190) rfl (hb hby d2_179) rfl (tlt hc22).1 (by decide) (by decide) ?_
        have k : ∀ (v1 : Bool), v1 = (nd2_190_3 p0) → ∀ (f : JFrame) (acts : List Action), f.method = m → f.locked = none → f.entered = [] → (doReturn e (s₁.setTop f) acts (some (.int (b2i v1)))).1 = s₁.setFrames fs := fun v1 hv1 => k v1 (hv1.trans (if_pos hc22).symm)
        exact nd18 k
      · refine XS.icmpNo X0.here hx rfl (hb hby d2_179) rfl (flt hc22).1 ?_
        have k : ∀ (v1 : Bool), v1 = (if (63743 : Int32) < p0 then (nd2_190_3 p0) else false) → ∀ (f : JFrame) (acts : List Action), f.method = m → f.locked = none → f.entered = [] → (doReturn e (s₁.setTop f) acts (some (.int (b2i v1)))).1 = s₁.setFrames fs := fun v1 hv1 => k v1 (hv1.trans (if_neg hc22).symm)
        show Steps p.tables e below (s₁.setTop (mkF m 182 #[.val (.int p0)] [])) _
        refine XS.iloadN X0.here hx rfl (hb hby d2_182) rfl ?_
        show Steps p.tables e below (s₁.setTop (mkF m 183 #[.val (.int p0)] [(.int p0)])) _
        refine X0.ldcInt hx hown (mvT hZ (hw _ (List.mem_of_getElem? (i := 28) rfl))) (g := (mkF m 183 #[.val (.int p0)] [(.int p0)])) rfl (hb hby d2_183) _ ?_
        show Steps p.tables e below (s₁.setTop (mkF m 185 #[.val (.int p0)] [(.int (63743 : Int32)), (.int p0)])) _
        by_cases hc23 : (63743 : Int32) < p0
        · refine XS.icmpYes X0.here hx rfl (pc0 := 185) (pc' := 190) rfl (hb hby d2_185) rfl (tlt hc23).2.2.1 (by decide) (by decide) ?_
          have k : ∀ (v1 : Bool), v1 = (nd2_190_3 p0) → ∀ (f : JFrame) (acts : List Action), f.method = m → f.locked = none → f.entered = [] → (doReturn e (s₁.setTop f) acts (some (.int (b2i v1)))).1 = s₁.setFrames fs := fun v1 hv1 => k v1 (hv1.trans (if_pos hc23).symm)
          exact nd18 k
        · refine XS.icmpNo X0.here hx rfl (hb hby d2_185) rfl (flt hc23).2.2.1 ?_
          have k : ∀ (v1 : Bool), v1 = false → ∀ (f : JFrame) (acts : List Action), f.method = m → f.locked = none → f.entered = [] → (doReturn e (s₁.setTop f) acts (some (.int (b2i v1)))).1 = s₁.setFrames fs := fun v1 hv1 => k v1 (hv1.trans (if_neg hc23).symm)
          show Steps p.tables e below (s₁.setTop (mkF m 188 #[.val (.int p0)] [])) _
          refine XS.iconst X0.here hx rfl (hb hby d2_188) ?_
          show Steps p.tables e below (s₁.setTop (mkF m 189 #[.val (.int p0)] [(.int (0 : Int32))])) _
          exact retN X0 hx (t := .boolean) Bd.returns (by simp) (hb hby d2_189) (k false rfl)
    have nd24 : (∀ (v1 : Bool), v1 = (nd2_160_5 p0) → ∀ (f : JFrame) (acts : List Action), f.method = m → f.locked = none → f.entered = [] → (doReturn e (s₁.setTop f) acts (some (.int (b2i v1)))).1 = s₁.setFrames fs) → Steps p.tables e below (s₁.setTop (mkF m 160 #[.val (.int p0)] [])) (s₁.setFrames fs) := by
      intro k
      have k : ∀ (v1 : Bool), v1 = (if p0 < (12272 : Int32) then (nd2_176_4 p0) else (if (12288 : Int32) < p0 then (nd2_176_4 p0) else false)) → ∀ (f : JFrame) (acts : List Action), f.method = m → f.locked = none → f.entered = [] → (doReturn e (s₁.setTop f) acts (some (.int (b2i v1)))).1 = s₁.setFrames fs := k
      show Steps p.tables e below (s₁.setTop (mkF m 160 #[.val (.int p0)] [])) _
      refine XS.iloadN X0.here hx rfl (hb hby d2_160) rfl ?_
      show Steps p.tables e below (s₁.setTop (mkF m 161 #[.val (.int p0)] [(.int p0)])) _
      refine XS.sipush X0.here hx rfl (hb hby d2_161) ?_
      show Steps p.tables e below (s₁.setTop (mkF m 164 #[.val (.int p0)] [(.int (12272 : Int32)), (.int p0)])) _
      by_cases hc25 : p0 < (12272 : Int32)
      · refine XS.icmpYes X0.here hx rfl (pc0 := 164) (pc' := 176) rfl (hb hby d2_164) rfl (tlt hc25).1 (by decide) (by decide) ?_
        have k : ∀ (v1 : Bool), v1 = (nd2_176_4 p0) → ∀ (f : JFrame) (acts : List Action), f.method = m → f.locked = none → f.entered = [] → (doReturn e (s₁.setTop f) acts (some (.int (b2i v1)))).1 = s₁.setFrames fs := fun v1 hv1 => k v1 (hv1.trans (if_pos hc25).symm)
        exact nd21 k
      · refine XS.icmpNo X0.here hx rfl (hb hby d2_164) rfl (flt hc25).1 ?_
        have k : ∀ (v1 : Bool), v1 = (if (12288 : Int32) < p0 then (nd2_176_4 p0) else false) → ∀ (f : JFrame) (acts : List Action), f.method = m → f.locked = none → f.entered = [] → (doReturn e (s₁.setTop f) acts (some (.int (b2i v1)))).1 = s₁.setFrames fs := fun v1 hv1 => k v1 (hv1.trans (if_neg hc25).symm)
        show Steps p.tables e below (s₁.setTop (mkF m 167 #[.val (.int p0)] [])) _
        refine XS.iloadN X0.here hx rfl (hb hby d2_167) rfl ?_
        show Steps p.tables e below (s₁.setTop (mkF m 168 #[.val (.int p0)] [(.int p0)])) _
        refine XS.sipush X0.here hx rfl (hb hby d2_168) ?_
        show Steps p.tables e below (s₁.setTop (mkF m 171 #[.val (.int p0)] [(.int (12288 : Int32)), (.int p0)])) _
        by_cases hc26 : (12288 : Int32) < p0
        · refine XS.icmpYes X0.here hx rfl (pc0 := 171) (pc' := 176) rfl (hb hby d2_171) rfl (tlt hc26).2.2.1 (by decide) (by decide) ?_
          have k : ∀ (v1 : Bool), v1 = (nd2_176_4 p0) → ∀ (f : JFrame) (acts : List Action), f.method = m → f.locked = none → f.entered = [] → (doReturn e (s₁.setTop f) acts (some (.int (b2i v1)))).1 = s₁.setFrames fs := fun v1 hv1 => k v1 (hv1.trans (if_pos hc26).symm)
          exact nd21 k
        · refine XS.icmpNo X0.here hx rfl (hb hby d2_171) rfl (flt hc26).2.2.1 ?_
          have k : ∀ (v1 : Bool), v1 = false → ∀ (f : JFrame) (acts : List Action), f.method = m → f.locked = none → f.entered = [] → (doReturn e (s₁.setTop f) acts (some (.int (b2i v1)))).1 = s₁.setFrames fs := fun v1 hv1 => k v1 (hv1.trans (if_neg hc26).symm)
          show Steps p.tables e below (s₁.setTop (mkF m 174 #[.val (.int p0)] [])) _
          refine XS.iconst X0.here hx rfl (hb hby d2_174) ?_
          show Steps p.tables e below (s₁.setTop (mkF m 175 #[.val (.int p0)] [(.int (0 : Int32))])) _
          exact retN X0 hx (t := .boolean) Bd.returns (by simp) (hb hby d2_175) (k false rfl)
    have nd27 : (∀ (v1 : Bool), v1 = (nd2_144_6 p0) → ∀ (f : JFrame) (acts : List Action), f.method = m → f.locked = none → f.entered = [] → (doReturn e (s₁.setTop f) acts (some (.int (b2i v1)))).1 = s₁.setFrames fs) → Steps p.tables e below (s₁.setTop (mkF m 144 #[.val (.int p0)] [])) (s₁.setFrames fs) := by
      intro k
      have k : ∀ (v1 : Bool), v1 = (if p0 < (8592 : Int32) then (nd2_160_5 p0) else (if (11263 : Int32) < p0 then (nd2_160_5 p0) else false)) → ∀ (f : JFrame) (acts : List Action), f.method = m → f.locked = none → f.entered = [] → (doReturn e (s₁.setTop f) acts (some (.int (b2i v1)))).1 = s₁.setFrames fs := k
      show Steps p.tables e below (s₁.setTop (mkF m 144 #[.val (.int p0)] [])) _
      refine XS.iloadN X0.here hx rfl (hb hby d2_144) rfl ?_
      show Steps p.tables e below (s₁.setTop (mkF m 145 #[.val (.int p0)] [(.int p0)])) _
      refine XS.sipush X0.here hx rfl (hb hby d2_145) ?_
      show Steps p.tables e below (s₁.setTop (mkF m 148 #[.val (.int p0)] [(.int (8592 : Int32)), (.int p0)])) _
      by_cases hc28 : p0 < (8592 : Int32)
      · refine XS.icmpYes X0.here hx rfl (pc0 := 148) (pc' := 160) rfl (hb hby d2_148) rfl (tlt hc28).1 (by decide) (by decide) ?_
        have k : ∀ (v1 : Bool), v1 = (nd2_160_5 p0) → ∀ (f : JFrame) (acts : List Action), f.method = m → f.locked = none → f.entered = [] → (doReturn e (s₁.setTop f) acts (some (.int (b2i v1)))).1 = s₁.setFrames fs := fun v1 hv1 => k v1 (hv1.trans (if_pos hc28).symm)
        exact nd24 k
      · refine XS.icmpNo X0.here hx rfl (hb hby d2_148) rfl (flt hc28).1 ?_
        have k : ∀ (v1 : Bool), v1 = (if (11263 : Int32) < p0 then (nd2_160_5 p0) else false) → ∀ (f : JFrame) (acts : List Action), f.method = m → f.locked = none → f.entered = [] → (doReturn e (s₁.setTop f) acts (some (.int (b2i v1)))).1 = s₁.setFrames fs := fun v1 hv1 => k v1 (hv1.trans (if_neg hc28).symm)
        show Steps p.tables e below (s₁.setTop (mkF m 151 #[.val (.int p0)] [])) _
        refine XS.iloadN X0.here hx rfl (hb hby d2_151) rfl ?_
        show Steps p.tables e below (s₁.setTop (mkF m 152 #[.val (.int p0)] [(.int p0)])) _
        refine XS.sipush X0.here hx rfl (hb hby d2_152) ?_
        show Steps p.tables e below (s₁.setTop (mkF m 155 #[.val (.int p0)] [(.int (11263 : Int32)), (.int p0)])) _
        by_cases hc29 : (11263 : Int32) < p0
        · refine XS.icmpYes X0.here hx rfl (pc0 := 155) (pc' := 160) rfl (hb hby d2_155) rfl (tlt hc29).2.2.1 (by decide) (by decide) ?_
          have k : ∀ (v1 : Bool), v1 = (nd2_160_5 p0) → ∀ (f : JFrame) (acts : List Action), f.method = m → f.locked = none → f.entered = [] → (doReturn e (s₁.setTop f) acts (some (.int (b2i v1)))).1 = s₁.setFrames fs := fun v1 hv1 => k v1 (hv1.trans (if_pos hc29).symm)
          exact nd24 k
        · refine XS.icmpNo X0.here hx rfl (hb hby d2_155) rfl (flt hc29).2.2.1 ?_
          have k : ∀ (v1 : Bool), v1 = false → ∀ (f : JFrame) (acts : List Action), f.method = m → f.locked = none → f.entered = [] → (doReturn e (s₁.setTop f) acts (some (.int (b2i v1)))).1 = s₁.setFrames fs := fun v1 hv1 => k v1 (hv1.trans (if_neg hc29).symm)
          show Steps p.tables e below (s₁.setTop (mkF m 158 #[.val (.int p0)] [])) _
          refine XS.iconst X0.here hx rfl (hb hby d2_158) ?_
          show Steps p.tables e below (s₁.setTop (mkF m 159 #[.val (.int p0)] [(.int (0 : Int32))])) _
          exact retN X0 hx (t := .boolean) Bd.returns (by simp) (hb hby d2_159) (k false rfl)
    have nd30 : (∀ (v1 : Bool), v1 = (nd2_128_7 p0) → ∀ (f : JFrame) (acts : List Action), f.method = m → f.locked = none → f.entered = [] → (doReturn e (s₁.setTop f) acts (some (.int (b2i v1)))).1 = s₁.setFrames fs) → Steps p.tables e below (s₁.setTop (mkF m 128 #[.val (.int p0)] [])) (s₁.setFrames fs) := by
      intro k
      have k : ∀ (v1 : Bool), v1 = (if p0 < (8206 : Int32) then (nd2_144_6 p0) else (if (8303 : Int32) < p0 then (nd2_144_6 p0) else false)) → ∀ (f : JFrame) (acts : List Action), f.method = m → f.locked = none → f.entered = [] → (doReturn e (s₁.setTop f) acts (some (.int (b2i v1)))).1 = s₁.setFrames fs := k
      show Steps p.tables e below (s₁.setTop (mkF m 128 #[.val (.int p0)] [])) _
      refine XS.iloadN X0.here hx rfl (hb hby d2_128) rfl ?_
      show Steps p.tables e below (s₁.setTop (mkF m 129 #[.val (.int p0)] [(.int p0)])) _
      refine XS.sipush X0.here hx rfl (hb hby d2_129) ?_
      show Steps p.tables e below (s₁.setTop (mkF m 132 #[.val (.int p0)] [(.int (8206 : Int32)), (.int p0)])) _
      by_cases hc31 : p0 < (8206 : Int32)
      · refine XS.icmpYes X0.here hx rfl (pc0 := 132) (pc' := 144) rfl (hb hby d2_132) rfl (tlt hc31).1 (by decide) (by decide) ?_
        have k : ∀ (v1 : Bool), v1 = (nd2_144_6 p0) → ∀ (f : JFrame) (acts : List Action), f.method = m → f.locked = none → f.entered = [] → (doReturn e (s₁.setTop f) acts (some (.int (b2i v1)))).1 = s₁.setFrames fs := fun v1 hv1 => k v1 (hv1.trans (if_pos hc31).symm)
        exact nd27 k
      · refine XS.icmpNo X0.here hx rfl (hb hby d2_132) rfl (flt hc31).1 ?_
        have k : ∀ (v1 : Bool), v1 = (if (8303 : Int32) < p0 then (nd2_144_6 p0) else false) → ∀ (f : JFrame) (acts : List Action), f.method = m → f.locked = none → f.entered = [] → (doReturn e (s₁.setTop f) acts (some (.int (b2i v1)))).1 = s₁.setFrames fs := fun v1 hv1 => k v1 (hv1.trans (if_neg hc31).symm)
        show Steps p.tables e below (s₁.setTop (mkF m 135 #[.val (.int p0)] [])) _
        refine XS.iloadN X0.here hx rfl (hb hby d2_135) rfl ?_
        show Steps p.tables e below (s₁.setTop (mkF m 136 #[.val (.int p0)] [(.int p0)])) _
        refine XS.sipush X0.here hx rfl (hb hby d2_136) ?_
        show Steps p.tables e below (s₁.setTop (mkF m 139 #[.val (.int p0)] [(.int (8303 : Int32)), (.int p0)])) _
        by_cases hc32 : (8303 : Int32) < p0
        · refine XS.icmpYes X0.here hx rfl (pc0 := 139) (pc' := 144) rfl (hb hby d2_139) rfl (tlt hc32).2.2.1 (by decide) (by decide) ?_
          have k : ∀ (v1 : Bool), v1 = (nd2_144_6 p0) → ∀ (f : JFrame) (acts : List Action), f.method = m → f.locked = none → f.entered = [] → (doReturn e (s₁.setTop f) acts (some (.int (b2i v1)))).1 = s₁.setFrames fs := fun v1 hv1 => k v1 (hv1.trans (if_pos hc32).symm)
          exact nd27 k
        · refine XS.icmpNo X0.here hx rfl (hb hby d2_139) rfl (flt hc32).2.2.1 ?_
          have k : ∀ (v1 : Bool), v1 = false → ∀ (f : JFrame) (acts : List Action), f.method = m → f.locked = none → f.entered = [] → (doReturn e (s₁.setTop f) acts (some (.int (b2i v1)))).1 = s₁.setFrames fs := fun v1 hv1 => k v1 (hv1.trans (if_neg hc32).symm)
          show Steps p.tables e below (s₁.setTop (mkF m 142 #[.val (.int p0)] [])) _
          refine XS.iconst X0.here hx rfl (hb hby d2_142) ?_
          show Steps p.tables e below (s₁.setTop (mkF m 143 #[.val (.int p0)] [(.int (0 : Int32))])) _
          exact retN X0 hx (t := .boolean) Bd.returns (by simp) (hb hby d2_143) (k false rfl)
    have nd33 : (∀ (v1 : Bool), v1 = (nd2_103_8 p0) → ∀ (f : JFrame) (acts : List Action), f.method = m → f.locked = none → f.entered = [] → (doReturn e (s₁.setTop f) acts (some (.int (b2i v1)))).1 = s₁.setFrames fs) → Steps p.tables e below (s₁.setTop (mkF m 103 #[.val (.int p0)] [])) (s₁.setFrames fs) := by
      intro k
      have k : ∀ (v1 : Bool), v1 = (if p0 = (894 : Int32) then false else (if p0 < (8192 : Int32) then (nd2_128_7 p0) else (if (8203 : Int32) < p0 then (nd2_128_7 p0) else false))) → ∀ (f : JFrame) (acts : List Action), f.method = m → f.locked = none → f.entered = [] → (doReturn e (s₁.setTop f) acts (some (.int (b2i v1)))).1 = s₁.setFrames fs := k
      show Steps p.tables e below (s₁.setTop (mkF m 103 #[.val (.int p0)] [])) _
      refine XS.iloadN X0.here hx rfl (hb hby d2_103) rfl ?_
      show Steps p.tables e below (s₁.setTop (mkF m 104 #[.val (.int p0)] [(.int p0)])) _
      refine XS.sipush X0.here hx rfl (hb hby d2_104) ?_
      show Steps p.tables e below (s₁.setTop (mkF m 107 #[.val (.int p0)] [(.int (894 : Int32)), (.int p0)])) _
      by_cases hc34 : p0 = (894 : Int32)
      · refine XS.icmpNo X0.here hx rfl (hb hby d2_107) rfl (teq hc34).2 ?_
        have k : ∀ (v1 : Bool), v1 = false → ∀ (f : JFrame) (acts : List Action), f.method = m → f.locked = none → f.entered = [] → (doReturn e (s₁.setTop f) acts (some (.int (b2i v1)))).1 = s₁.setFrames fs := fun v1 hv1 => k v1 (hv1.trans (if_pos hc34).symm)
        show Steps p.tables e below (s₁.setTop (mkF m 110 #[.val (.int p0)] [])) _
        refine XS.iconst X0.here hx rfl (hb hby d2_110) ?_
        show Steps p.tables e below (s₁.setTop (mkF m 111 #[.val (.int p0)] [(.int (0 : Int32))])) _
        exact retN X0 hx (t := .boolean) Bd.returns (by simp) (hb hby d2_111) (k false rfl)
      · refine XS.icmpYes X0.here hx rfl (pc0 := 107) (pc' := 112) rfl (hb hby d2_107) rfl (feq hc34).2 (by decide) (by decide) ?_
        have k : ∀ (v1 : Bool), v1 = (if p0 < (8192 : Int32) then (nd2_128_7 p0) else (if (8203 : Int32) < p0 then (nd2_128_7 p0) else false)) → ∀ (f : JFrame) (acts : List Action), f.method = m → f.locked = none → f.entered = [] → (doReturn e (s₁.setTop f) acts (some (.int (b2i v1)))).1 = s₁.setFrames fs := fun v1 hv1 => k v1 (hv1.trans (if_neg hc34).symm)
        show Steps p.tables e below (s₁.setTop (mkF m 112 #[.val (.int p0)] [])) _
        refine XS.iloadN X0.here hx rfl (hb hby d2_112) rfl ?_
        show Steps p.tables e below (s₁.setTop (mkF m 113 #[.val (.int p0)] [(.int p0)])) _
        refine XS.sipush X0.here hx rfl (hb hby d2_113) ?_
        show Steps p.tables e below (s₁.setTop (mkF m 116 #[.val (.int p0)] [(.int (8192 : Int32)), (.int p0)])) _
        by_cases hc35 : p0 < (8192 : Int32)
        · refine XS.icmpYes X0.here hx rfl (pc0 := 116) (pc' := 128) rfl (hb hby d2_116) rfl (tlt hc35).1 (by decide) (by decide) ?_
          have k : ∀ (v1 : Bool), v1 = (nd2_128_7 p0) → ∀ (f : JFrame) (acts : List Action), f.method = m → f.locked = none → f.entered = [] → (doReturn e (s₁.setTop f) acts (some (.int (b2i v1)))).1 = s₁.setFrames fs := fun v1 hv1 => k v1 (hv1.trans (if_pos hc35).symm)
          exact nd30 k
        · refine XS.icmpNo X0.here hx rfl (hb hby d2_116) rfl (flt hc35).1 ?_
          have k : ∀ (v1 : Bool), v1 = (if (8203 : Int32) < p0 then (nd2_128_7 p0) else false) → ∀ (f : JFrame) (acts : List Action), f.method = m → f.locked = none → f.entered = [] → (doReturn e (s₁.setTop f) acts (some (.int (b2i v1)))).1 = s₁.setFrames fs := fun v1 hv1 => k v1 (hv1.trans (if_neg hc35).symm)
          show Steps p.tables e below (s₁.setTop (mkF m 119 #[.val (.int p0)] [])) _
          refine XS.iloadN X0.here hx rfl (hb hby d2_119) rfl ?_
          show Steps p.tables e below (s₁.setTop (mkF m 120 #[.val (.int p0)] [(.int p0)])) _
          refine XS.sipush X0.here hx rfl (hb hby d2_120) ?_
          show Steps p.tables e below (s₁.setTop (mkF m 123 #[.val (.int p0)] [(.int (8203 : Int32)), (.int p0)])) _
          by_cases hc36 : (8203 : Int32) < p0
          · refine XS.icmpYes X0.here hx rfl (pc0 := 123) (pc' := 128) rfl (hb hby d2_123) rfl (tlt hc36).2.2.1 (by decide) (by decide) ?_
            have k : ∀ (v1 : Bool), v1 = (nd2_128_7 p0) → ∀ (f : JFrame) (acts : List Action), f.method = m → f.locked = none → f.entered = [] → (doReturn e (s₁.setTop f) acts (some (.int (b2i v1)))).1 = s₁.setFrames fs := fun v1 hv1 => k v1 (hv1.trans (if_pos hc36).symm)
            exact nd30 k
          · refine XS.icmpNo X0.here hx rfl (hb hby d2_123) rfl (flt hc36).2.2.1 ?_
            have k : ∀ (v1 : Bool), v1 = false → ∀ (f : JFrame) (acts : List Action), f.method = m → f.locked = none → f.entered = [] → (doReturn e (s₁.setTop f) acts (some (.int (b2i v1)))).1 = s₁.setFrames fs := fun v1 hv1 => k v1 (hv1.trans (if_neg hc36).symm)
            show Steps p.tables e below (s₁.setTop (mkF m 126 #[.val (.int p0)] [])) _
            refine XS.iconst X0.here hx rfl (hb hby d2_126) ?_
            show Steps p.tables e below (s₁.setTop (mkF m 127 #[.val (.int p0)] [(.int (0 : Int32))])) _
            exact retN X0 hx (t := .boolean) Bd.returns (by simp) (hb hby d2_127) (k false rfl)
    have nd37 : (∀ (v1 : Bool), v1 = (nd2_71_9 p0) → ∀ (f : JFrame) (acts : List Action), f.method = m → f.locked = none → f.entered = [] → (doReturn e (s₁.setTop f) acts (some (.int (b2i v1)))).1 = s₁.setFrames fs) → Steps p.tables e below (s₁.setTop (mkF m 71 #[.val (.int p0)] [])) (s₁.setFrames fs) := by
      intro k
      have k : ∀ (v1 : Bool), v1 = (if p0 = (215 : Int32) then false else (if p0 = (247 : Int32) then false else (if p0 < (768 : Int32) then (nd2_103_8 p0) else (if (879 : Int32) < p0 then (nd2_103_8 p0) else false)))) → ∀ (f : JFrame) (acts : List Action), f.method = m → f.locked = none → f.entered = [] → (doReturn e (s₁.setTop f) acts (some (.int (b2i v1)))).1 = s₁.setFrames fs := k
      show Steps p.tables e below (s₁.setTop (mkF m 71 #[.val (.int p0)] [])) _
      refine XS.iloadN X0.here hx rfl (hb hby d2_71) rfl ?_
      show Steps p.tables e below (s₁.setTop (mkF m 72 #[.val (.int p0)] [(.int p0)])) _
      refine XS.sipush X0.here hx rfl (hb hby d2_72) ?_
      show Steps p.tables e below (s₁.setTop (mkF m 75 #[.val (.int p0)] [(.int (215 : Int32)), (.int p0)])) _
      by_cases hc38 : p0 = (215 : Int32)
      · refine XS.icmpYes X0.here hx rfl (pc0 := 75) (pc' := 85) rfl (hb hby d2_75) rfl (teq hc38).1 (by decide) (by decide) ?_
        have k : ∀ (v1 : Bool), v1 = false → ∀ (f : JFrame) (acts : List Action), f.method = m → f.locked = none → f.entered = [] → (doReturn e (s₁.setTop f) acts (some (.int (b2i v1)))).1 = s₁.setFrames fs := fun v1 hv1 => k v1 (hv1.trans (if_pos hc38).symm)
        exact nd13 k
      · refine XS.icmpNo X0.here hx rfl (hb hby d2_75) rfl (feq hc38).1 ?_
        have k : ∀ (v1 : Bool), v1 = (if p0 = (247 : Int32) then false else (if p0 < (768 : Int32) then (nd2_103_8 p0) else (if (879 : Int32) < p0 then (nd2_103_8 p0) else false))) → ∀ (f : JFrame) (acts : List Action), f.method = m → f.locked = none → f.entered = [] → (doReturn e (s₁.setTop f) acts (some (.int (b2i v1)))).1 = s₁.setFrames fs := fun v1 hv1 => k v1 (hv1.trans (if_neg hc38).symm)
        show Steps p.tables e below (s₁.setTop (mkF m 78 #[.val (.int p0)] [])) _
        refine XS.iloadN X0.here hx rfl (hb hby d2_78) rfl ?_
        show Steps p.tables e below (s₁.setTop (mkF m 79 #[.val (.int p0)] [(.int p0)])) _
        refine XS.sipush X0.here hx rfl (hb hby d2_79) ?_
        show Steps p.tables e below (s₁.setTop (mkF m 82 #[.val (.int p0)] [(.int (247 : Int32)), (.int p0)])) _
        by_cases hc39 : p0 = (247 : Int32)
        · refine XS.icmpNo X0.here hx rfl (hb hby d2_82) rfl (teq hc39).2 ?_
          have k : ∀ (v1 : Bool), v1 = false → ∀ (f : JFrame) (acts : List Action), f.method = m → f.locked = none → f.entered = [] → (doReturn e (s₁.setTop f) acts (some (.int (b2i v1)))).1 = s₁.setFrames fs := fun v1 hv1 => k v1 (hv1.trans (if_pos hc39).symm)
          exact nd13 k
        · refine XS.icmpYes X0.here hx rfl (pc0 := 82) (pc' := 87) rfl (hb hby d2_82) rfl (feq hc39).2 (by decide) (by decide) ?_
          have k : ∀ (v1 : Bool), v1 = (if p0 < (768 : Int32) then (nd2_103_8 p0) else (if (879 : Int32) < p0 then (nd2_103_8 p0) else false)) → ∀ (f : JFrame) (acts : List Action), f.method = m → f.locked = none → f.entered = [] → (doReturn e (s₁.setTop f) acts (some (.int (b2i v1)))).1 = s₁.setFrames fs := fun v1 hv1 => k v1 (hv1.trans (if_neg hc39).symm)
          show Steps p.tables e below (s₁.setTop (mkF m 87 #[.val (.int p0)] [])) _
          refine XS.iloadN X0.here hx rfl (hb hby d2_87) rfl ?_
          show Steps p.tables e below (s₁.setTop (mkF m 88 #[.val (.int p0)] [(.int p0)])) _
          refine XS.sipush X0.here hx rfl (hb hby d2_88) ?_
          show Steps p.tables e below (s₁.setTop (mkF m 91 #[.val (.int p0)] [(.int (768 : Int32)), (.int p0)])) _
          by_cases hc40 : p0 < (768 : Int32)
          · refine XS.icmpYes X0.here hx rfl (pc0 := 91) (pc' := 103) rfl (hb hby d2_91) rfl (tlt hc40).1 (by decide) (by decide) ?_
            have k : ∀ (v1 : Bool), v1 = (nd2_103_8 p0) → ∀ (f : JFrame) (acts : List Action), f.method = m → f.locked = none → f.entered = [] → (doReturn e (s₁.setTop f) acts (some (.int (b2i v1)))).1 = s₁.setFrames fs := fun v1 hv1 => k v1 (hv1.trans (if_pos hc40).symm)
            exact nd33 k
          · refine XS.icmpNo X0.here hx rfl (hb hby d2_91) rfl (flt hc40).1 ?_
            have k : ∀ (v1 : Bool), v1 = (if (879 : Int32) < p0 then (nd2_103_8 p0) else false) → ∀ (f : JFrame) (acts : List Action), f.method = m → f.locked = none → f.entered = [] → (doReturn e (s₁.setTop f) acts (some (.int (b2i v1)))).1 = s₁.setFrames fs := fun v1 hv1 => k v1 (hv1.trans (if_neg hc40).symm)
            show Steps p.tables e below (s₁.setTop (mkF m 94 #[.val (.int p0)] [])) _
            refine XS.iloadN X0.here hx rfl (hb hby d2_94) rfl ?_
            show Steps p.tables e below (s₁.setTop (mkF m 95 #[.val (.int p0)] [(.int p0)])) _
            refine XS.sipush X0.here hx rfl (hb hby d2_95) ?_
            show Steps p.tables e below (s₁.setTop (mkF m 98 #[.val (.int p0)] [(.int (879 : Int32)), (.int p0)])) _
            by_cases hc41 : (879 : Int32) < p0
            · refine XS.icmpYes X0.here hx rfl (pc0 := 98) (pc' := 103) rfl (hb hby d2_98) rfl (tlt hc41).2.2.1 (by decide) (by decide) ?_
              have k : ∀ (v1 : Bool), v1 = (nd2_103_8 p0) → ∀ (f : JFrame) (acts : List Action), f.method = m → f.locked = none → f.entered = [] → (doReturn e (s₁.setTop f) acts (some (.int (b2i v1)))).1 = s₁.setFrames fs := fun v1 hv1 => k v1 (hv1.trans (if_pos hc41).symm)
              exact nd33 k
            · refine XS.icmpNo X0.here hx rfl (hb hby d2_98) rfl (flt hc41).2.2.1 ?_
              have k : ∀ (v1 : Bool), v1 = false → ∀ (f : JFrame) (acts : List Action), f.method = m → f.locked = none → f.entered = [] → (doReturn e (s₁.setTop f) acts (some (.int (b2i v1)))).1 = s₁.setFrames fs := fun v1 hv1 => k v1 (hv1.trans (if_neg hc41).symm)
              show Steps p.tables e below (s₁.setTop (mkF m 101 #[.val (.int p0)] [])) _
              refine XS.iconst X0.here hx rfl (hb hby d2_101) ?_
              show Steps p.tables e below (s₁.setTop (mkF m 102 #[.val (.int p0)] [(.int (0 : Int32))])) _
              exact retN X0 hx (t := .boolean) Bd.returns (by simp) (hb hby d2_102) (k false rfl)
    have nd42 : (∀ (v1 : Bool), v1 = (nd2_48_10 p0) → ∀ (f : JFrame) (acts : List Action), f.method = m → f.locked = none → f.entered = [] → (doReturn e (s₁.setTop f) acts (some (.int (b2i v1)))).1 = s₁.setFrames fs) → Steps p.tables e below (s₁.setTop (mkF m 48 #[.val (.int p0)] [])) (s₁.setFrames fs) := by
      intro k
      have k : ∀ (v1 : Bool), v1 = (if p0 = (96 : Int32) then false else (if p0 < (123 : Int32) then (nd2_71_9 p0) else (if (191 : Int32) < p0 then (nd2_71_9 p0) else false))) → ∀ (f : JFrame) (acts : List Action), f.method = m → f.locked = none → f.entered = [] → (doReturn e (s₁.setTop f) acts (some (.int (b2i v1)))).1 = s₁.setFrames fs := k
      show Steps p.tables e below (s₁.setTop (mkF m 48 #[.val (.int p0)] [])) _
      refine XS.iloadN X0.here hx rfl (hb hby d2_48) rfl ?_
      show Steps p.tables e below (s₁.setTop (mkF m 49 #[.val (.int p0)] [(.int p0)])) _
      refine XS.bipush X0.here hx rfl (hb hby d2_49) ?_
      show Steps p.tables e below (s₁.setTop (mkF m 51 #[.val (.int p0)] [(.int (96 : Int32)), (.int p0)])) _
      by_cases hc43 : p0 = (96 : Int32)
      · refine XS.icmpNo X0.here hx rfl (hb hby d2_51) rfl (teq hc43).2 ?_
        have k : ∀ (v1 : Bool), v1 = false → ∀ (f : JFrame) (acts : List Action), f.method = m → f.locked = none → f.entered = [] → (doReturn e (s₁.setTop f) acts (some (.int (b2i v1)))).1 = s₁.setFrames fs := fun v1 hv1 => k v1 (hv1.trans (if_pos hc43).symm)
        show Steps p.tables e below (s₁.setTop (mkF m 54 #[.val (.int p0)] [])) _
        refine XS.iconst X0.here hx rfl (hb hby d2_54) ?_
        show Steps p.tables e below (s₁.setTop (mkF m 55 #[.val (.int p0)] [(.int (0 : Int32))])) _
        exact retN X0 hx (t := .boolean) Bd.returns (by simp) (hb hby d2_55) (k false rfl)
      · refine XS.icmpYes X0.here hx rfl (pc0 := 51) (pc' := 56) rfl (hb hby d2_51) rfl (feq hc43).2 (by decide) (by decide) ?_
        have k : ∀ (v1 : Bool), v1 = (if p0 < (123 : Int32) then (nd2_71_9 p0) else (if (191 : Int32) < p0 then (nd2_71_9 p0) else false)) → ∀ (f : JFrame) (acts : List Action), f.method = m → f.locked = none → f.entered = [] → (doReturn e (s₁.setTop f) acts (some (.int (b2i v1)))).1 = s₁.setFrames fs := fun v1 hv1 => k v1 (hv1.trans (if_neg hc43).symm)
        show Steps p.tables e below (s₁.setTop (mkF m 56 #[.val (.int p0)] [])) _
        refine XS.iloadN X0.here hx rfl (hb hby d2_56) rfl ?_
        show Steps p.tables e below (s₁.setTop (mkF m 57 #[.val (.int p0)] [(.int p0)])) _
        refine XS.bipush X0.here hx rfl (hb hby d2_57) ?_
        show Steps p.tables e below (s₁.setTop (mkF m 59 #[.val (.int p0)] [(.int (123 : Int32)), (.int p0)])) _
        by_cases hc44 : p0 < (123 : Int32)
        · refine XS.icmpYes X0.here hx rfl (pc0 := 59) (pc' := 71) rfl (hb hby d2_59) rfl (tlt hc44).1 (by decide) (by decide) ?_
          have k : ∀ (v1 : Bool), v1 = (nd2_71_9 p0) → ∀ (f : JFrame) (acts : List Action), f.method = m → f.locked = none → f.entered = [] → (doReturn e (s₁.setTop f) acts (some (.int (b2i v1)))).1 = s₁.setFrames fs := fun v1 hv1 => k v1 (hv1.trans (if_pos hc44).symm)
          exact nd37 k
        · refine XS.icmpNo X0.here hx rfl (hb hby d2_59) rfl (flt hc44).1 ?_
          have k : ∀ (v1 : Bool), v1 = (if (191 : Int32) < p0 then (nd2_71_9 p0) else false) → ∀ (f : JFrame) (acts : List Action), f.method = m → f.locked = none → f.entered = [] → (doReturn e (s₁.setTop f) acts (some (.int (b2i v1)))).1 = s₁.setFrames fs := fun v1 hv1 => k v1 (hv1.trans (if_neg hc44).symm)
          show Steps p.tables e below (s₁.setTop (mkF m 62 #[.val (.int p0)] [])) _
          refine XS.iloadN X0.here hx rfl (hb hby d2_62) rfl ?_
          show Steps p.tables e below (s₁.setTop (mkF m 63 #[.val (.int p0)] [(.int p0)])) _
          refine XS.sipush X0.here hx rfl (hb hby d2_63) ?_
          show Steps p.tables e below (s₁.setTop (mkF m 66 #[.val (.int p0)] [(.int (191 : Int32)), (.int p0)])) _
          by_cases hc45 : (191 : Int32) < p0
          · refine XS.icmpYes X0.here hx rfl (pc0 := 66) (pc' := 71) rfl (hb hby d2_66) rfl (tlt hc45).2.2.1 (by decide) (by decide) ?_
            have k : ∀ (v1 : Bool), v1 = (nd2_71_9 p0) → ∀ (f : JFrame) (acts : List Action), f.method = m → f.locked = none → f.entered = [] → (doReturn e (s₁.setTop f) acts (some (.int (b2i v1)))).1 = s₁.setFrames fs := fun v1 hv1 => k v1 (hv1.trans (if_pos hc45).symm)
            exact nd37 k
          · refine XS.icmpNo X0.here hx rfl (hb hby d2_66) rfl (flt hc45).2.2.1 ?_
            have k : ∀ (v1 : Bool), v1 = false → ∀ (f : JFrame) (acts : List Action), f.method = m → f.locked = none → f.entered = [] → (doReturn e (s₁.setTop f) acts (some (.int (b2i v1)))).1 = s₁.setFrames fs := fun v1 hv1 => k v1 (hv1.trans (if_neg hc45).symm)
            show Steps p.tables e below (s₁.setTop (mkF m 69 #[.val (.int p0)] [])) _
            refine XS.iconst X0.here hx rfl (hb hby d2_69) ?_
            show Steps p.tables e below (s₁.setTop (mkF m 70 #[.val (.int p0)] [(.int (0 : Int32))])) _
            exact retN X0 hx (t := .boolean) Bd.returns (by simp) (hb hby d2_70) (k false rfl)
    have nd46 : (∀ (v1 : Bool), v1 = (nd2_34_11 p0) → ∀ (f : JFrame) (acts : List Action), f.method = m → f.locked = none → f.entered = [] → (doReturn e (s₁.setTop f) acts (some (.int (b2i v1)))).1 = s₁.setFrames fs) → Steps p.tables e below (s₁.setTop (mkF m 34 #[.val (.int p0)] [])) (s₁.setFrames fs) := by
      intro k
      have k : ∀ (v1 : Bool), v1 = (if p0 < (91 : Int32) then (nd2_48_10 p0) else (if (94 : Int32) < p0 then (nd2_48_10 p0) else false)) → ∀ (f : JFrame) (acts : List Action), f.method = m → f.locked = none → f.entered = [] → (doReturn e (s₁.setTop f) acts (some (.int (b2i v1)))).1 = s₁.setFrames fs := k
      show Steps p.tables e below (s₁.setTop (mkF m 34 #[.val (.int p0)] [])) _
      refine XS.iloadN X0.here hx rfl (hb hby d2_34) rfl ?_
      show Steps p.tables e below (s₁.setTop (mkF m 35 #[.val (.int p0)] [(.int p0)])) _
      refine XS.bipush X0.here hx rfl (hb hby d2_35) ?_
      show Steps p.tables e below (s₁.setTop (mkF m 37 #[.val (.int p0)] [(.int (91 : Int32)), (.int p0)])) _
      by_cases hc47 : p0 < (91 : Int32)
      · refine XS.icmpYes X0.here hx rfl (pc0 := 37) (pc' := 48) rfl (hb hby d2_37) rfl (tlt hc47).1 (by decide) (by decide) ?_
        have k : ∀ (v1 : Bool), v1 = (nd2_48_10 p0) → ∀ (f : JFrame) (acts : List Action), f.method = m → f.locked = none → f.entered = [] → (doReturn e (s₁.setTop f) acts (some (.int (b2i v1)))).1 = s₁.setFrames fs := fun v1 hv1 => k v1 (hv1.trans (if_pos hc47).symm)
        exact nd42 k
      · refine XS.icmpNo X0.here hx rfl (hb hby d2_37) rfl (flt hc47).1 ?_
        have k : ∀ (v1 : Bool), v1 = (if (94 : Int32) < p0 then (nd2_48_10 p0) else false) → ∀ (f : JFrame) (acts : List Action), f.method = m → f.locked = none → f.entered = [] → (doReturn e (s₁.setTop f) acts (some (.int (b2i v1)))).1 = s₁.setFrames fs := fun v1 hv1 => k v1 (hv1.trans (if_neg hc47).symm)
        show Steps p.tables e below (s₁.setTop (mkF m 40 #[.val (.int p0)] [])) _
        refine XS.iloadN X0.here hx rfl (hb hby d2_40) rfl ?_
        show Steps p.tables e below (s₁.setTop (mkF m 41 #[.val (.int p0)] [(.int p0)])) _
        refine XS.bipush X0.here hx rfl (hb hby d2_41) ?_
        show Steps p.tables e below (s₁.setTop (mkF m 43 #[.val (.int p0)] [(.int (94 : Int32)), (.int p0)])) _
        by_cases hc48 : (94 : Int32) < p0
        · refine XS.icmpYes X0.here hx rfl (pc0 := 43) (pc' := 48) rfl (hb hby d2_43) rfl (tlt hc48).2.2.1 (by decide) (by decide) ?_
          have k : ∀ (v1 : Bool), v1 = (nd2_48_10 p0) → ∀ (f : JFrame) (acts : List Action), f.method = m → f.locked = none → f.entered = [] → (doReturn e (s₁.setTop f) acts (some (.int (b2i v1)))).1 = s₁.setFrames fs := fun v1 hv1 => k v1 (hv1.trans (if_pos hc48).symm)
          exact nd42 k
        · refine XS.icmpNo X0.here hx rfl (hb hby d2_43) rfl (flt hc48).2.2.1 ?_
          have k : ∀ (v1 : Bool), v1 = false → ∀ (f : JFrame) (acts : List Action), f.method = m → f.locked = none → f.entered = [] → (doReturn e (s₁.setTop f) acts (some (.int (b2i v1)))).1 = s₁.setFrames fs := fun v1 hv1 => k v1 (hv1.trans (if_neg hc48).symm)
          show Steps p.tables e below (s₁.setTop (mkF m 46 #[.val (.int p0)] [])) _
          refine XS.iconst X0.here hx rfl (hb hby d2_46) ?_
          show Steps p.tables e below (s₁.setTop (mkF m 47 #[.val (.int p0)] [(.int (0 : Int32))])) _
          exact retN X0 hx (t := .boolean) Bd.returns (by simp) (hb hby d2_47) (k false rfl)
    show Steps p.tables e below (s₁.setTop (mkF m 1 #[.val (.int p0)] [(.int p0)])) _
    by_cases hc49 : p0 < (0 : Int32)
    · refine XS.ifYes X0.here hx rfl (pc0 := 1) (pc' := 10) rfl (hb hby d2_1) rfl ((if0 _ _).trans (tlt hc49).1) (by decide) (by decide) ?_
      have k : ∀ (v1 : Bool), v1 = false → ∀ (f : JFrame) (acts : List Action), f.method = m → f.locked = none → f.entered = [] → (doReturn e (s₁.setTop f) acts (some (.int (b2i v1)))).1 = s₁.setFrames fs := fun v1 hv1 => k v1 (hv1.trans (if_pos hc49).symm)
      exact nd12 k
    · refine XS.ifNo X0.here hx rfl (hb hby d2_1) rfl ((if0 _ _).trans (flt hc49).1) ?_
      have k : ∀ (v1 : Bool), v1 = (if (983039 : Int32) < p0 then false else (if (57 : Int32) < p0 then (if p0 < (59 : Int32) then (nd2_34_11 p0) else (if (64 : Int32) < p0 then (nd2_34_11 p0) else false)) else false)) → ∀ (f : JFrame) (acts : List Action), f.method = m → f.locked = none → f.entered = [] → (doReturn e (s₁.setTop f) acts (some (.int (b2i v1)))).1 = s₁.setFrames fs := fun v1 hv1 => k v1 (hv1.trans (if_neg hc49).symm)
      show Steps p.tables e below (s₁.setTop (mkF m 4 #[.val (.int p0)] [])) _
      refine XS.iloadN X0.here hx rfl (hb hby d2_4) rfl ?_
      show Steps p.tables e below (s₁.setTop (mkF m 5 #[.val (.int p0)] [(.int p0)])) _
      refine X0.ldcInt hx hown (mvT hZ (hw _ (List.mem_of_getElem? (i := 7) rfl))) (g := (mkF m 5 #[.val (.int p0)] [(.int p0)])) rfl (hb hby d2_5) _ ?_
      show Steps p.tables e below (s₁.setTop (mkF m 7 #[.val (.int p0)] [(.int (983039 : Int32)), (.int p0)])) _
      by_cases hc50 : (983039 : Int32) < p0
      · refine XS.icmpNo X0.here hx rfl (hb hby d2_7) rfl (tlt hc50).2.2.2 ?_
        have k : ∀ (v1 : Bool), v1 = false → ∀ (f : JFrame) (acts : List Action), f.method = m → f.locked = none → f.entered = [] → (doReturn e (s₁.setTop f) acts (some (.int (b2i v1)))).1 = s₁.setFrames fs := fun v1 hv1 => k v1 (hv1.trans (if_pos hc50).symm)
        exact nd12 k
      · refine XS.icmpYes X0.here hx rfl (pc0 := 7) (pc' := 12) rfl (hb hby d2_7) rfl (flt hc50).2.2.2 (by decide) (by decide) ?_
        have k : ∀ (v1 : Bool), v1 = (if (57 : Int32) < p0 then (if p0 < (59 : Int32) then (nd2_34_11 p0) else (if (64 : Int32) < p0 then (nd2_34_11 p0) else false)) else false) → ∀ (f : JFrame) (acts : List Action), f.method = m → f.locked = none → f.entered = [] → (doReturn e (s₁.setTop f) acts (some (.int (b2i v1)))).1 = s₁.setFrames fs := fun v1 hv1 => k v1 (hv1.trans (if_neg hc50).symm)
        show Steps p.tables e below (s₁.setTop (mkF m 12 #[.val (.int p0)] [])) _
        refine XS.iloadN X0.here hx rfl (hb hby d2_12) rfl ?_
        show Steps p.tables e below (s₁.setTop (mkF m 13 #[.val (.int p0)] [(.int p0)])) _
        refine XS.bipush X0.here hx rfl (hb hby d2_13) ?_
        show Steps p.tables e below (s₁.setTop (mkF m 15 #[.val (.int p0)] [(.int (57 : Int32)), (.int p0)])) _
        by_cases hc51 : (57 : Int32) < p0
        · refine XS.icmpYes X0.here hx rfl (pc0 := 15) (pc' := 20) rfl (hb hby d2_15) rfl (tlt hc51).2.2.1 (by decide) (by decide) ?_
          have k : ∀ (v1 : Bool), v1 = (if p0 < (59 : Int32) then (nd2_34_11 p0) else (if (64 : Int32) < p0 then (nd2_34_11 p0) else false)) → ∀ (f : JFrame) (acts : List Action), f.method = m → f.locked = none → f.entered = [] → (doReturn e (s₁.setTop f) acts (some (.int (b2i v1)))).1 = s₁.setFrames fs := fun v1 hv1 => k v1 (hv1.trans (if_pos hc51).symm)
          show Steps p.tables e below (s₁.setTop (mkF m 20 #[.val (.int p0)] [])) _
          refine XS.iloadN X0.here hx rfl (hb hby d2_20) rfl ?_
          show Steps p.tables e below (s₁.setTop (mkF m 21 #[.val (.int p0)] [(.int p0)])) _
          refine XS.bipush X0.here hx rfl (hb hby d2_21) ?_
          show Steps p.tables e below (s₁.setTop (mkF m 23 #[.val (.int p0)] [(.int (59 : Int32)), (.int p0)])) _
          by_cases hc52 : p0 < (59 : Int32)
          · refine XS.icmpYes X0.here hx rfl (pc0 := 23) (pc' := 34) rfl (hb hby d2_23) rfl (tlt hc52).1 (by decide) (by decide) ?_
            have k : ∀ (v1 : Bool), v1 = (nd2_34_11 p0) → ∀ (f : JFrame) (acts : List Action), f.method = m → f.locked = none → f.entered = [] → (doReturn e (s₁.setTop f) acts (some (.int (b2i v1)))).1 = s₁.setFrames fs := fun v1 hv1 => k v1 (hv1.trans (if_pos hc52).symm)
            exact nd46 k
          · refine XS.icmpNo X0.here hx rfl (hb hby d2_23) rfl (flt hc52).1 ?_
            have k : ∀ (v1 : Bool), v1 = (if (64 : Int32) < p0 then (nd2_34_11 p0) else false) → ∀ (f : JFrame) (acts : List Action), f.method = m → f.locked = none → f.entered = [] → (doReturn e (s₁.setTop f) acts (some (.int (b2i v1)))).1 = s₁.setFrames fs := fun v1 hv1 => k v1 (hv1.trans (if_neg hc52).symm)
            show Steps p.tables e below (s₁.setTop (mkF m 26 #[.val (.int p0)] [])) _
            refine XS.iloadN X0.here hx rfl (hb hby d2_26) rfl ?_
            show Steps p.tables e below (s₁.setTop (mkF m 27 #[.val (.int p0)] [(.int p0)])) _
            refine XS.bipush X0.here hx rfl (hb hby d2_27) ?_
            show Steps p.tables e below (s₁.setTop (mkF m 29 #[.val (.int p0)] [(.int (64 : Int32)), (.int p0)])) _
            by_cases hc53 : (64 : Int32) < p0
            · refine XS.icmpYes X0.here hx rfl (pc0 := 29) (pc' := 34) rfl (hb hby d2_29) rfl (tlt hc53).2.2.1 (by decide) (by decide) ?_
              have k : ∀ (v1 : Bool), v1 = (nd2_34_11 p0) → ∀ (f : JFrame) (acts : List Action), f.method = m → f.locked = none → f.entered = [] → (doReturn e (s₁.setTop f) acts (some (.int (b2i v1)))).1 = s₁.setFrames fs := fun v1 hv1 => k v1 (hv1.trans (if_pos hc53).symm)
              exact nd46 k
            · refine XS.icmpNo X0.here hx rfl (hb hby d2_29) rfl (flt hc53).2.2.1 ?_
              have k : ∀ (v1 : Bool), v1 = false → ∀ (f : JFrame) (acts : List Action), f.method = m → f.locked = none → f.entered = [] → (doReturn e (s₁.setTop f) acts (some (.int (b2i v1)))).1 = s₁.setFrames fs := fun v1 hv1 => k v1 (hv1.trans (if_neg hc53).symm)
              show Steps p.tables e below (s₁.setTop (mkF m 32 #[.val (.int p0)] [])) _
              refine XS.iconst X0.here hx rfl (hb hby d2_32) ?_
              show Steps p.tables e below (s₁.setTop (mkF m 33 #[.val (.int p0)] [(.int (0 : Int32))])) _
              exact retN X0 hx (t := .boolean) Bd.returns (by simp) (hb hby d2_33) (k false rfl)
        · refine XS.icmpNo X0.here hx rfl (hb hby d2_15) rfl (flt hc51).2.2.1 ?_
          have k : ∀ (v1 : Bool), v1 = false → ∀ (f : JFrame) (acts : List Action), f.method = m → f.locked = none → f.entered = [] → (doReturn e (s₁.setTop f) acts (some (.int (b2i v1)))).1 = s₁.setFrames fs := fun v1 hv1 => k v1 (hv1.trans (if_neg hc51).symm)
          show Steps p.tables e below (s₁.setTop (mkF m 18 #[.val (.int p0)] [])) _
          refine XS.iconst X0.here hx rfl (hb hby d2_18) ?_
          show Steps p.tables e below (s₁.setTop (mkF m 19 #[.val (.int p0)] [(.int (0 : Int32))])) _
          exact retN X0 hx (t := .boolean) Bd.returns (by simp) (hb hby d2_19) (k false rfl)
  · show Q2 Z p0 h0 n0 _ s₁.heap _
    rw [e0]
    exact ⟨rfl, N0, rfl⟩
theorem pd_0 : parseMethodDescriptor "(I)Z" = some ⟨[.int], some .boolean⟩ := by decide +kernel
theorem ef_0 (m : MethodId) (x0 : Int32) (x1 : Int32) (x2 : Int32) : entryFrame m #[(.int x0), (.int x1), (.int x2)] maxLocals = mkF m 0 #[.val (.int x0), .val (.int x1), .val (.int x2), .unset, .unset, .unset, .unset] [] := by first | (simp [entryFrame, mkF, argsToLocals, Value.category, maxLocals]; done) | rfl
def v_tab  : Int32 → Int32 := (@upA Int32 (@upA Int32 (@upA Int32 (@upA Int32 (@upA Int32 (@upA Int32 (@upA Int32 (@upA Int32 (@upA Int32 (@upA Int32 (@upA Int32 (@upA Int32 (@upA Int32 (@upA Int32 (@upA Int32 (@upA Int32 (@upA Int32 (@upA Int32 (@upA Int32 (@upA Int32 (@upA Int32 (@upA Int32 (@upA Int32 (@upA Int32 (@upA Int32 (@upA Int32 (@upA Int32 (@upA Int32 (@upA Int32 (@upA Int32 (@upA Int32 (@upA Int32 (fun _ => 0) (0 : Int32) (0 : Int32)) (1 : Int32) (58 : Int32)) (2 : Int32) (65 : Int32)) (3 : Int32) (90 : Int32)) (4 : Int32) (95 : Int32)) (5 : Int32) (97 : Int32)) (6 : Int32) (122 : Int32)) (7 : Int32) (128 : Int32)) (8 : Int32) (192 : Int32)) (9 : Int32) (214 : Int32)) (10 : Int32) (216 : Int32)) (11 : Int32) (246 : Int32)) (12 : Int32) (248 : Int32)) (13 : Int32) (767 : Int32)) (14 : Int32) (880 : Int32)) (15 : Int32) (893 : Int32)) (16 : Int32) (895 : Int32)) (17 : Int32) (8191 : Int32)) (18 : Int32) (8204 : Int32)) (19 : Int32) (8205 : Int32)) (20 : Int32) (8304 : Int32)) (21 : Int32) (8591 : Int32)) (22 : Int32) (11264 : Int32)) (23 : Int32) (12271 : Int32)) (24 : Int32) (12289 : Int32)) (25 : Int32) (55295 : Int32)) (26 : Int32) (63744 : Int32)) (27 : Int32) (64975 : Int32)) (28 : Int32) (65008 : Int32)) (29 : Int32) (65533 : Int32)) (30 : Int32) (65536 : Int32)) (31 : Int32) (983039 : Int32))
def v_ix (kk : Int32) : Int32 := ((kk &&& (2147483647 : Int32)) % (32 : Int32))
def v_b (kk : Int32) (dd : Int32) : Int32 := (((v_tab (v_ix kk)) + ((dd &&& (2147483647 : Int32)) % (3 : Int32))) - (1 : Int32))
theorem own_lt (x k : Int32) (n : Int) (h : k.toInt = n) : x < k ↔ x.toInt < n := by rw [Int32.lt_iff_toInt_lt, h]
theorem own_gt (x k : Int32) (n : Int) (h : k.toInt = n) : k < x ↔ n < x.toInt := by rw [Int32.lt_iff_toInt_lt, h]
theorem own_eqi (x k : Int32) (n : Int) (h : k.toInt = n) : x = k ↔ x.toInt = n := by rw [← Int32.toInt_inj, h]
theorem own_iv0 (p0 : Int32) (h2 : p0.toInt ≤ (-1)) : F1 p0 = F2 p0 :=
  (((if_pos ((own_lt p0 128 128 (by decide)).mpr (by omega))).trans ((if_pos ((own_lt p0 97 97 (by decide)).mpr (by omega))).trans ((if_pos ((own_lt p0 65 65 (by decide)).mpr (by omega))).trans ((if_neg (fun q => absurd ((own_eqi p0 95 95 (by decide)).mp q) (by omega))).trans ((if_neg (fun q => absurd ((own_eqi p0 58 58 (by decide)).mp q) (by omega))).trans rfl))))) : F1 p0 = false).trans (((if_pos ((own_lt p0 0 0 (by decide)).mpr (by omega))).trans rfl) : F2 p0 = false).symm
theorem own_iv1 (p0 : Int32) (h1 : 0 ≤ p0.toInt) (h2 : p0.toInt ≤ 57) : F1 p0 = F2 p0 :=
  (((if_pos ((own_lt p0 128 128 (by decide)).mpr (by omega))).trans ((if_pos ((own_lt p0 97 97 (by decide)).mpr (by omega))).trans ((if_pos ((own_lt p0 65 65 (by decide)).mpr (by omega))).trans ((if_neg (fun q => absurd ((own_eqi p0 95 95 (by decide)).mp q) (by omega))).trans ((if_neg (fun q => absurd ((own_eqi p0 58 58 (by decide)).mp q) (by omega))).trans rfl))))) : F1 p0 = false).trans (((if_neg (fun q => absurd ((own_lt p0 0 0 (by decide)).mp q) (by omega))).trans ((if_neg (fun q => absurd ((own_gt p0 983039 983039 (by decide)).mp q) (by omega))).trans ((if_neg (fun q => absurd ((own_gt p0 57 57 (by decide)).mp q) (by omega))).trans rfl))) : F2 p0 = false).symm
theorem own_iv2 (p0 : Int32) (h1 : 58 ≤ p0.toInt) (h2 : p0.toInt ≤ 58) : F1 p0 = F2 p0 :=
  (((if_pos ((own_lt p0 128 128 (by decide)).mpr (by omega))).trans ((if_pos ((own_lt p0 97 97 (by decide)).mpr (by omega))).trans ((if_pos ((own_lt p0 65 65 (by decide)).mpr (by omega))).trans ((if_neg (fun q => absurd ((own_eqi p0 95 95 (by decide)).mp q) (by omega))).trans ((if_pos ((own_eqi p0 58 58 (by decide)).mpr (by omega))).trans rfl))))) : F1 p0 = true).trans (((if_neg (fun q => absurd ((own_lt p0 0 0 (by decide)).mp q) (by omega))).trans ((if_neg (fun q => absurd ((own_gt p0 983039 983039 (by decide)).mp q) (by omega))).trans ((if_pos ((own_gt p0 57 57 (by decide)).mpr (by omega))).trans ((if_pos ((own_lt p0 59 59 (by decide)).mpr (by omega))).trans ((if_pos ((own_lt p0 91 91 (by decide)).mpr (by omega))).trans ((if_neg (fun q => absurd ((own_eqi p0 96 96 (by decide)).mp q) (by omega))).trans ((if_pos ((own_lt p0 123 123 (by decide)).mpr (by omega))).trans ((if_neg (fun q => absurd ((own_eqi p0 215 215 (by decide)).mp q) (by omega))).trans ((if_neg (fun q => absurd ((own_eqi p0 247 247 (by decide)).mp q) (by omega))).trans ((if_pos ((own_lt p0 768 768 (by decide)).mpr (by omega))).trans ((if_neg (fun q => absurd ((own_eqi p0 894 894 (by decide)).mp q) (by omega))).trans ((if_pos ((own_lt p0 8192 8192 (by decide)).mpr (by omega))).trans ((if_pos ((own_lt p0 8206 8206 (by decide)).mpr (by omega))).trans ((if_pos ((own_lt p0 8592 8592 (by decide)).mpr (by omega))).trans ((if_pos ((own_lt p0 12272 12272 (by decide)).mpr (by omega))).trans ((if_pos ((own_lt p0 55296 55296 (by decide)).mpr (by omega))).trans ((if_pos ((own_lt p0 64976 64976 (by decide)).mpr (by omega))).trans ((if_neg (fun q => absurd ((own_eqi p0 65534 65534 (by decide)).mp q) (by omega))).trans ((if_neg (fun q => absurd ((own_eqi p0 65535 65535 (by decide)).mp q) (by omega))).trans rfl))))))))))))))))))) : F2 p0 = true).symm
theorem own_iv3 (p0 : Int32) (h1 : 59 ≤ p0.toInt) (h2 : p0.toInt ≤ 64) : F1 p0 = F2 p0 :=
  (((if_pos ((own_lt p0 128 128 (by decide)).mpr (by omega))).trans ((if_pos ((own_lt p0 97 97 (by decide)).mpr (by omega))).trans ((if_pos ((own_lt p0 65 65 (by decide)).mpr (by omega))).trans ((if_neg (fun q => absurd ((own_eqi p0 95 95 (by decide)).mp q) (by omega))).trans ((if_neg (fun q => absurd ((own_eqi p0 58 58 (by decide)).mp q) (by omega))).trans rfl))))) : F1 p0 = false).trans (((if_neg (fun q => absurd ((own_lt p0 0 0 (by decide)).mp q) (by omega))).trans ((if_neg (fun q => absurd ((own_gt p0 983039 983039 (by decide)).mp q) (by omega))).trans ((if_pos ((own_gt p0 57 57 (by decide)).mpr (by omega))).trans ((if_neg (fun q => absurd ((own_lt p0 59 59 (by decide)).mp q) (by omega))).trans ((if_neg (fun q => absurd ((own_gt p0 64 64 (by decide)).mp q) (by omega))).trans rfl))))) : F2 p0 = false).symm
theorem own_iv4 (p0 : Int32) (h1 : 65 ≤ p0.toInt) (h2 : p0.toInt ≤ 90) : F1 p0 = F2 p0 :=
  (((if_pos ((own_lt p0 128 128 (by decide)).mpr (by omega))).trans ((if_pos ((own_lt p0 97 97 (by decide)).mpr (by omega))).trans ((if_neg (fun q => absurd ((own_lt p0 65 65 (by decide)).mp q) (by omega))).trans ((if_neg (fun q => absurd ((own_gt p0 90 90 (by decide)).mp q) (by omega))).trans rfl)))) : F1 p0 = true).trans (((if_neg (fun q => absurd ((own_lt p0 0 0 (by decide)).mp q) (by omega))).trans ((if_neg (fun q => absurd ((own_gt p0 983039 983039 (by decide)).mp q) (by omega))).trans ((if_pos ((own_gt p0 57 57 (by decide)).mpr (by omega))).trans ((if_neg (fun q => absurd ((own_lt p0 59 59 (by decide)).mp q) (by omega))).trans ((if_pos ((own_gt p0 64 64 (by decide)).mpr (by omega))).trans ((if_pos ((own_lt p0 91 91 (by decide)).mpr (by omega))).trans ((if_neg (fun q => absurd ((own_eqi p0 96 96 (by decide)).mp q) (by omega))).trans ((if_pos ((own_lt p0 123 123 (by decide)).mpr (by omega))).trans ((if_neg (fun q => absurd ((own_eqi p0 215 215 (by decide)).mp q) (by omega))).trans ((if_neg (fun q => absurd ((own_eqi p0 247 247 (by decide)).mp q) (by omega))).trans ((if_pos ((own_lt p0 768 768 (by decide)).mpr (by omega))).trans ((if_neg (fun q => absurd ((own_eqi p0 894 894 (by decide)).mp q) (by omega))).trans ((if_pos ((own_lt p0 8192 8192 (by decide)).mpr (by omega))).trans ((if_pos ((own_lt p0 8206 8206 (by decide)).mpr (by omega))).trans ((if_pos ((own_lt p0 8592 8592 (by decide)).mpr (by omega))).trans ((if_pos ((own_lt p0 12272 12272 (by decide)).mpr (by omega))).trans ((if_pos ((own_lt p0 55296 55296 (by decide)).mpr (by omega))).trans ((if_pos ((own_lt p0 64976 64976 (by decide)).mpr (by omega))).trans ((if_neg (fun q => absurd ((own_eqi p0 65534 65534 (by decide)).mp q) (by omega))).trans ((if_neg (fun q => absurd ((own_eqi p0 65535 65535 (by decide)).mp q) (by omega))).trans rfl)))))))))))))))))))) : F2 p0 = true).symm
theorem own_iv5 (p0 : Int32) (h1 : 91 ≤ p0.toInt) (h2 : p0.toInt ≤ 94) : F1 p0 = F2 p0 :=
  (((if_pos ((own_lt p0 128 128 (by decide)).mpr (by omega))).trans ((if_pos ((own_lt p0 97 97 (by decide)).mpr (by omega))).trans ((if_neg (fun q => absurd ((own_lt p0 65 65 (by decide)).mp q) (by omega))).trans ((if_pos ((own_gt p0 90 90 (by decide)).mpr (by omega))).trans ((if_neg (fun q => absurd ((own_eqi p0 95 95 (by decide)).mp q) (by omega))).trans ((if_neg (fun q => absurd ((own_eqi p0 58 58 (by decide)).mp q) (by omega))).trans rfl)))))) : F1 p0 = false).trans (((if_neg (fun q => absurd ((own_lt p0 0 0 (by decide)).mp q) (by omega))).trans ((if_neg (fun q => absurd ((own_gt p0 983039 983039 (by decide)).mp q) (by omega))).trans ((if_pos ((own_gt p0 57 57 (by decide)).mpr (by omega))).trans ((if_neg (fun q => absurd ((own_lt p0 59 59 (by decide)).mp q) (by omega))).trans ((if_pos ((own_gt p0 64 64 (by decide)).mpr (by omega))).trans ((if_neg (fun q => absurd ((own_lt p0 91 91 (by decide)).mp q) (by omega))).trans ((if_neg (fun q => absurd ((own_gt p0 94 94 (by decide)).mp q) (by omega))).trans rfl))))))) : F2 p0 = false).symm
theorem own_iv6 (p0 : Int32) (h1 : 95 ≤ p0.toInt) (h2 : p0.toInt ≤ 95) : F1 p0 = F2 p0 :=
  (((if_pos ((own_lt p0 128 128 (by decide)).mpr (by omega))).trans ((if_pos ((own_lt p0 97 97 (by decide)).mpr (by omega))).trans ((if_neg (fun q => absurd ((own_lt p0 65 65 (by decide)).mp q) (by omega))).trans ((if_pos ((own_gt p0 90 90 (by decide)).mpr (by omega))).trans ((if_pos ((own_eqi p0 95 95 (by decide)).mpr (by omega))).trans rfl))))) : F1 p0 = true).trans (((if_neg (fun q => absurd ((own_lt p0 0 0 (by decide)).mp q) (by omega))).trans ((if_neg (fun q => absurd ((own_gt p0 983039 983039 (by decide)).mp q) (by omega))).trans ((if_pos ((own_gt p0 57 57 (by decide)).mpr (by omega))).trans ((if_neg (fun q => absurd ((own_lt p0 59 59 (by decide)).mp q) (by omega))).trans ((if_pos ((own_gt p0 64 64 (by decide)).mpr (by omega))).trans ((if_neg (fun q => absurd ((own_lt p0 91 91 (by decide)).mp q) (by omega))).trans ((if_pos ((own_gt p0 94 94 (by decide)).mpr (by omega))).trans ((if_neg (fun q => absurd ((own_eqi p0 96 96 (by decide)).mp q) (by omega))).trans ((if_pos ((own_lt p0 123 123 (by decide)).mpr (by omega))).trans ((if_neg (fun q => absurd ((own_eqi p0 215 215 (by decide)).mp q) (by omega))).trans ((if_neg (fun q => absurd ((own_eqi p0 247 247 (by decide)).mp q) (by omega))).trans ((if_pos ((own_lt p0 768 768 (by decide)).mpr (by omega))).trans ((if_neg (fun q => absurd ((own_eqi p0 894 894 (by decide)).mp q) (by omega))).trans ((if_pos ((own_lt p0 8192 8192 (by decide)).mpr (by omega))).trans ((if_pos ((own_lt p0 8206 8206 (by decide)).mpr (by omega))).trans ((if_pos ((own_lt p0 8592 8592 (by decide)).mpr (by omega))).trans ((if_pos ((own_lt p0 12272 12272 (by decide)).mpr (by omega))).trans ((if_pos ((own_lt p0 55296 55296 (by decide)).mpr (by omega))).trans ((if_pos ((own_lt p0 64976 64976 (by decide)).mpr (by omega))).trans ((if_neg (fun q => absurd ((own_eqi p0 65534 65534 (by decide)).mp q) (by omega))).trans ((if_neg (fun q => absurd ((own_eqi p0 65535 65535 (by decide)).mp q) (by omega))).trans rfl))))))))))))))))))))) : F2 p0 = true).symm
theorem own_iv7 (p0 : Int32) (h1 : 96 ≤ p0.toInt) (h2 : p0.toInt ≤ 96) : F1 p0 = F2 p0 :=
  (((if_pos ((own_lt p0 128 128 (by decide)).mpr (by omega))).trans ((if_pos ((own_lt p0 97 97 (by decide)).mpr (by omega))).trans ((if_neg (fun q => absurd ((own_lt p0 65 65 (by decide)).mp q) (by omega))).trans ((if_pos ((own_gt p0 90 90 (by decide)).mpr (by omega))).trans ((if_neg (fun q => absurd ((own_eqi p0 95 95 (by decide)).mp q) (by omega))).trans ((if_neg (fun q => absurd ((own_eqi p0 58 58 (by decide)).mp q) (by omega))).trans rfl)))))) : F1 p0 = false).trans (((if_neg (fun q => absurd ((own_lt p0 0 0 (by decide)).mp q) (by omega))).trans ((if_neg (fun q => absurd ((own_gt p0 983039 983039 (by decide)).mp q) (by omega))).trans ((if_pos ((own_gt p0 57 57 (by decide)).mpr (by omega))).trans ((if_neg (fun q => absurd ((own_lt p0 59 59 (by decide)).mp q) (by omega))).trans ((if_pos ((own_gt p0 64 64 (by decide)).mpr (by omega))).trans ((if_neg (fun q => absurd ((own_lt p0 91 91 (by decide)).mp q) (by omega))).trans ((if_pos ((own_gt p0 94 94 (by decide)).mpr (by omega))).trans ((if_pos ((own_eqi p0 96 96 (by decide)).mpr (by omega))).trans rfl)))))))) : F2 p0 = false).symm
theorem own_iv8 (p0 : Int32) (h1 : 97 ≤ p0.toInt) (h2 : p0.toInt ≤ 122) : F1 p0 = F2 p0 :=
  (((if_pos ((own_lt p0 128 128 (by decide)).mpr (by omega))).trans ((if_neg (fun q => absurd ((own_lt p0 97 97 (by decide)).mp q) (by omega))).trans ((if_neg (fun q => absurd ((own_gt p0 122 122 (by decide)).mp q) (by omega))).trans rfl))) : F1 p0 = true).trans (((if_neg (fun q => absurd ((own_lt p0 0 0 (by decide)).mp q) (by omega))).trans ((if_neg (fun q => absurd ((own_gt p0 983039 983039 (by decide)).mp q) (by omega))).trans ((if_pos ((own_gt p0 57 57 (by decide)).mpr (by omega))).trans ((if_neg (fun q => absurd ((own_lt p0 59 59 (by decide)).mp q) (by omega))).trans ((if_pos ((own_gt p0 64 64 (by decide)).mpr (by omega))).trans ((if_neg (fun q => absurd ((own_lt p0 91 91 (by decide)).mp q) (by omega))).trans ((if_pos ((own_gt p0 94 94 (by decide)).mpr (by omega))).trans ((if_neg (fun q => absurd ((own_eqi p0 96 96 (by decide)).mp q) (by omega))).trans ((if_pos ((own_lt p0 123 123 (by decide)).mpr (by omega))).trans ((if_neg (fun q => absurd ((own_eqi p0 215 215 (by decide)).mp q) (by omega))).trans ((if_neg (fun q => absurd ((own_eqi p0 247 247 (by decide)).mp q) (by omega))).trans ((if_pos ((own_lt p0 768 768 (by decide)).mpr (by omega))).trans ((if_neg (fun q => absurd ((own_eqi p0 894 894 (by decide)).mp q) (by omega))).trans ((if_pos ((own_lt p0 8192 8192 (by decide)).mpr (by omega))).trans ((if_pos ((own_lt p0 8206 8206 (by decide)).mpr (by omega))).trans ((if_pos ((own_lt p0 8592 8592 (by decide)).mpr (by omega))).trans ((if_pos ((own_lt p0 12272 12272 (by decide)).mpr (by omega))).trans ((if_pos ((own_lt p0 55296 55296 (by decide)).mpr (by omega))).trans ((if_pos ((own_lt p0 64976 64976 (by decide)).mpr (by omega))).trans ((if_neg (fun q => absurd ((own_eqi p0 65534 65534 (by decide)).mp q) (by omega))).trans ((if_neg (fun q => absurd ((own_eqi p0 65535 65535 (by decide)).mp q) (by omega))).trans rfl))))))))))))))))))))) : F2 p0 = true).symm
theorem own_iv9 (p0 : Int32) (h1 : 123 ≤ p0.toInt) (h2 : p0.toInt ≤ 127) : F1 p0 = F2 p0 :=
  (((if_pos ((own_lt p0 128 128 (by decide)).mpr (by omega))).trans ((if_neg (fun q => absurd ((own_lt p0 97 97 (by decide)).mp q) (by omega))).trans ((if_pos ((own_gt p0 122 122 (by decide)).mpr (by omega))).trans ((if_neg (fun q => absurd ((own_lt p0 65 65 (by decide)).mp q) (by omega))).trans ((if_pos ((own_gt p0 90 90 (by decide)).mpr (by omega))).trans ((if_neg (fun q => absurd ((own_eqi p0 95 95 (by decide)).mp q) (by omega))).trans ((if_neg (fun q => absurd ((own_eqi p0 58 58 (by decide)).mp q) (by omega))).trans rfl))))))) : F1 p0 = false).trans (((if_neg (fun q => absurd ((own_lt p0 0 0 (by decide)).mp q) (by omega))).trans ((if_neg (fun q => absurd ((own_gt p0 983039 983039 (by decide)).mp q) (by omega))).trans ((if_pos ((own_gt p0 57 57 (by decide)).mpr (by omega))).trans ((if_neg (fun q => absurd ((own_lt p0 59 59 (by decide)).mp q) (by omega))).trans ((if_pos ((own_gt p0 64 64 (by decide)).mpr (by omega))).trans ((if_neg (fun q => absurd ((own_lt p0 91 91 (by decide)).mp q) (by omega))).trans ((if_pos ((own_gt p0 94 94 (by decide)).mpr (by omega))).trans ((if_neg (fun q => absurd ((own_eqi p0 96 96 (by decide)).mp q) (by omega))).trans ((if_neg (fun q => absurd ((own_lt p0 123 123 (by decide)).mp q) (by omega))).trans ((if_neg (fun q => absurd ((own_gt p0 191 191 (by decide)).mp q) (by omega))).trans rfl)))))))))) : F2 p0 = false).symm
theorem own_iv10 (p0 : Int32) (h1 : 128 ≤ p0.toInt) (h2 : p0.toInt ≤ 191) : F1 p0 = F2 p0 :=
  (((if_neg (fun q => absurd ((own_lt p0 128 128 (by decide)).mp q) (by omega))).trans ((if_pos ((own_lt p0 192 192 (by decide)).mpr (by omega))).trans ((if_pos ((own_lt p0 216 216 (by decide)).mpr (by omega))).trans ((if_pos ((own_lt p0 248 248 (by decide)).mpr (by omega))).trans ((if_pos ((own_lt p0 880 880 (by decide)).mpr (by omega))).trans ((if_pos ((own_lt p0 895 895 (by decide)).mpr (by omega))).trans ((if_pos ((own_lt p0 8204 8204 (by decide)).mpr (by omega))).trans ((if_pos ((own_lt p0 8304 8304 (by decide)).mpr (by omega))).trans ((if_pos ((own_lt p0 11264 11264 (by decide)).mpr (by omega))).trans ((if_pos ((own_lt p0 12289 12289 (by decide)).mpr (by omega))).trans ((if_pos ((own_lt p0 63744 63744 (by decide)).mpr (by omega))).trans ((if_pos ((own_lt p0 65008 65008 (by decide)).mpr (by omega))).trans ((if_pos ((own_lt p0 65536 65536 (by decide)).mpr (by omega))).trans rfl))))))))))))) : F1 p0 = false).trans (((if_neg (fun q => absurd ((own_lt p0 0 0 (by decide)).mp q) (by omega))).trans ((if_neg (fun q => absurd ((own_gt p0 983039 983039 (by decide)).mp q) (by omega))).trans ((if_pos ((own_gt p0 57 57 (by decide)).mpr (by omega))).trans ((if_neg (fun q => absurd ((own_lt p0 59 59 (by decide)).mp q) (by omega))).trans ((if_pos ((own_gt p0 64 64 (by decide)).mpr (by omega))).trans ((if_neg (fun q => absurd ((own_lt p0 91 91 (by decide)).mp q) (by omega))).trans ((if_pos ((own_gt p0 94 94 (by decide)).mpr (by omega))).trans ((if_neg (fun q => absurd ((own_eqi p0 96 96 (by decide)).mp q) (by omega))).trans ((if_neg (fun q => absurd ((own_lt p0 123 123 (by decide)).mp q) (by omega))).trans ((if_neg (fun q => absurd ((own_gt p0 191 191 (by decide)).mp q) (by omega))).trans rfl)))))))))) : F2 p0 = false).symm
theorem own_iv11 (p0 : Int32) (h1 : 192 ≤ p0.toInt) (h2 : p0.toInt ≤ 214) : F1 p0 = F2 p0 :=
  (((if_neg (fun q => absurd ((own_lt p0 128 128 (by decide)).mp q) (by omega))).trans ((if_neg (fun q => absurd ((own_lt p0 192 192 (by decide)).mp q) (by omega))).trans ((if_neg (fun q => absurd ((own_gt p0 214 214 (by decide)).mp q) (by omega))).trans rfl))) : F1 p0 = true).trans (((if_neg (fun q => absurd ((own_lt p0 0 0 (by decide)).mp q) (by omega))).trans ((if_neg (fun q => absurd ((own_gt p0 983039 983039 (by decide)).mp q) (by omega))).trans ((if_pos ((own_gt p0 57 57 (by decide)).mpr (by omega))).trans ((if_neg (fun q => absurd ((own_lt p0 59 59 (by decide)).mp q) (by omega))).trans ((if_pos ((own_gt p0 64 64 (by decide)).mpr (by omega))).trans ((if_neg (fun q => absurd ((own_lt p0 91 91 (by decide)).mp q) (by omega))).trans ((if_pos ((own_gt p0 94 94 (by decide)).mpr (by omega))).trans ((if_neg (fun q => absurd ((own_eqi p0 96 96 (by decide)).mp q) (by omega))).trans ((if_neg (fun q => absurd ((own_lt p0 123 123 (by decide)).mp q) (by omega))).trans ((if_pos ((own_gt p0 191 191 (by decide)).mpr (by omega))).trans ((if_neg (fun q => absurd ((own_eqi p0 215 215 (by decide)).mp q) (by omega))).trans ((if_neg (fun q => absurd ((own_eqi p0 247 247 (by decide)).mp q) (by omega))).trans ((if_pos ((own_lt p0 768 768 (by decide)).mpr (by omega))).trans ((if_neg (fun q => absurd ((own_eqi p0 894 894 (by decide)).mp q) (by omega))).trans ((if_pos ((own_lt p0 8192 8192 (by decide)).mpr (by omega))).trans ((if_pos ((own_lt p0 8206 8206 (by decide)).mpr (by omega))).trans ((if_pos ((own_lt p0 8592 8592 (by decide)).mpr (by omega))).trans ((if_pos ((own_lt p0 12272 12272 (by decide)).mpr (by omega))).trans ((if_pos ((own_lt p0 55296 55296 (by decide)).mpr (by omega))).trans ((if_pos ((own_lt p0 64976 64976 (by decide)).mpr (by omega))).trans ((if_neg (fun q => absurd ((own_eqi p0 65534 65534 (by decide)).mp q) (by omega))).trans ((if_neg (fun q => absurd ((own_eqi p0 65535 65535 (by decide)).mp q) (by omega))).trans rfl)))))))))))))))))))))) : F2 p0 = true).symm
theorem own_iv12 (p0 : Int32) (h1 : 215 ≤ p0.toInt) (h2 : p0.toInt ≤ 215) : F1 p0 = F2 p0 :=
  (((if_neg (fun q => absurd ((own_lt p0 128 128 (by decide)).mp q) (by omega))).trans ((if_neg (fun q => absurd ((own_lt p0 192 192 (by decide)).mp q) (by omega))).trans ((if_pos ((own_gt p0 214 214 (by decide)).mpr (by omega))).trans ((if_pos ((own_lt p0 216 216 (by decide)).mpr (by omega))).trans ((if_pos ((own_lt p0 248 248 (by decide)).mpr (by omega))).trans ((if_pos ((own_lt p0 880 880 (by decide)).mpr (by omega))).trans ((if_pos ((own_lt p0 895 895 (by decide)).mpr (by omega))).trans ((if_pos ((own_lt p0 8204 8204 (by decide)).mpr (by omega))).trans ((if_pos ((own_lt p0 8304 8304 (by decide)).mpr (by omega))).trans ((if_pos ((own_lt p0 11264 11264 (by decide)).mpr (by omega))).trans ((if_pos ((own_lt p0 12289 12289 (by decide)).mpr (by omega))).trans ((if_pos ((own_lt p0 63744 63744 (by decide)).mpr (by omega))).trans ((if_pos ((own_lt p0 65008 65008 (by decide)).mpr (by omega))).trans ((if_pos ((own_lt p0 65536 65536 (by decide)).mpr (by omega))).trans rfl)))))))))))))) : F1 p0 = false).trans (((if_neg (fun q => absurd ((own_lt p0 0 0 (by decide)).mp q) (by omega))).trans ((if_neg (fun q => absurd ((own_gt p0 983039 983039 (by decide)).mp q) (by omega))).trans ((if_pos ((own_gt p0 57 57 (by decide)).mpr (by omega))).trans ((if_neg (fun q => absurd ((own_lt p0 59 59 (by decide)).mp q) (by omega))).trans ((if_pos ((own_gt p0 64 64 (by decide)).mpr (by omega))).trans ((if_neg (fun q => absurd ((own_lt p0 91 91 (by decide)).mp q) (by omega))).trans ((if_pos ((own_gt p0 94 94 (by decide)).mpr (by omega))).trans ((if_neg (fun q => absurd ((own_eqi p0 96 96 (by decide)).mp q) (by omega))).trans ((if_neg (fun q => absurd ((own_lt p0 123 123 (by decide)).mp q) (by omega))).trans ((if_pos ((own_gt p0 191 191 (by decide)).mpr (by omega))).trans ((if_pos ((own_eqi p0 215 215 (by decide)).mpr (by omega))).trans rfl))))))))))) : F2 p0 = false).symm
theorem own_iv13 (p0 : Int32) (h1 : 216 ≤ p0.toInt) (h2 : p0.toInt ≤ 246) : F1 p0 = F2 p0 :=
  (((if_neg (fun q => absurd ((own_lt p0 128 128 (by decide)).mp q) (by omega))).trans ((if_neg (fun q => absurd ((own_lt p0 192 192 (by decide)).mp q) (by omega))).trans ((if_pos ((own_gt p0 214 214 (by decide)).mpr (by omega))).trans ((if_neg (fun q => absurd ((own_lt p0 216 216 (by decide)).mp q) (by omega))).trans ((if_neg (fun q => absurd ((own_gt p0 246 246 (by decide)).mp q) (by omega))).trans rfl))))) : F1 p0 = true).trans (((if_neg (fun q => absurd ((own_lt p0 0 0 (by decide)).mp q) (by omega))).trans ((if_neg (fun q => absurd ((own_gt p0 983039 983039 (by decide)).mp q) (by omega))).trans ((if_pos ((own_gt p0 57 57 (by decide)).mpr (by omega))).trans ((if_neg (fun q => absurd ((own_lt p0 59 59 (by decide)).mp q) (by omega))).trans ((if_pos ((own_gt p0 64 64 (by decide)).mpr (by omega))).trans ((if_neg (fun q => absurd ((own_lt p0 91 91 (by decide)).mp q) (by omega))).trans ((if_pos ((own_gt p0 94 94 (by decide)).mpr (by omega))).trans ((if_neg (fun q => absurd ((own_eqi p0 96 96 (by decide)).mp q) (by omega))).trans ((if_neg (fun q => absurd ((own_lt p0 123 123 (by decide)).mp q) (by omega))).trans ((if_pos ((own_gt p0 191 191 (by decide)).mpr (by omega))).trans ((if_neg (fun q => absurd ((own_eqi p0 215 215 (by decide)).mp q) (by omega))).trans ((if_neg (fun q => absurd ((own_eqi p0 247 247 (by decide)).mp q) (by omega))).trans ((if_pos ((own_lt p0 768 768 (by decide)).mpr (by omega))).trans ((if_neg (fun q => absurd ((own_eqi p0 894 894 (by decide)).mp q) (by omega))).trans ((if_pos ((own_lt p0 8192 8192 (by decide)).mpr (by omega))).trans ((if_pos ((own_lt p0 8206 8206 (by decide)).mpr (by omega))).trans ((if_pos ((own_lt p0 8592 8592 (by decide)).mpr (by omega))).trans ((if_pos ((own_lt p0 12272 12272 (by decide)).mpr (by omega))).trans ((if_pos ((own_lt p0 55296 55296 (by decide)).mpr (by omega))).trans ((if_pos ((own_lt p0 64976 64976 (by decide)).mpr (by omega))).trans ((if_neg (fun q => absurd ((own_eqi p0 65534 65534 (by decide)).mp q) (by omega))).trans ((if_neg (fun q => absurd ((own_eqi p0 65535 65535 (by decide)).mp q) (by omega))).trans rfl)))))))))))))))))))))) : F2 p0 = true).symm
theorem own_iv14 (p0 : Int32) (h1 : 247 ≤ p0.toInt) (h2 : p0.toInt ≤ 247) : F1 p0 = F2 p0 :=
  (((if_neg (fun q => absurd ((own_lt p0 128 128 (by decide)).mp q) (by omega))).trans ((if_neg (fun q => absurd ((own_lt p0 192 192 (by decide)).mp q) (by omega))).trans ((if_pos ((own_gt p0 214 214 (by decide)).mpr (by omega))).trans ((if_neg (fun q => absurd ((own_lt p0 216 216 (by decide)).mp q) (by omega))).trans ((if_pos ((own_gt p0 246 246 (by decide)).mpr (by omega))).trans ((if_pos ((own_lt p0 248 248 (by decide)).mpr (by omega))).trans ((if_pos ((own_lt p0 880 880 (by decide)).mpr (by omega))).trans ((if_pos ((own_lt p0 895 895 (by decide)).mpr (by omega))).trans ((if_pos ((own_lt p0 8204 8204 (by decide)).mpr (by omega))).trans ((if_pos ((own_lt p0 8304 8304 (by decide)).mpr (by omega))).trans ((if_pos ((own_lt p0 11264 11264 (by decide)).mpr (by omega))).trans ((if_pos ((own_lt p0 12289 12289 (by decide)).mpr (by omega))).trans ((if_pos ((own_lt p0 63744 63744 (by decide)).mpr (by omega))).trans ((if_pos ((own_lt p0 65008 65008 (by decide)).mpr (by omega))).trans ((if_pos ((own_lt p0 65536 65536 (by decide)).mpr (by omega))).trans rfl))))))))))))))) : F1 p0 = false).trans (((if_neg (fun q => absurd ((own_lt p0 0 0 (by decide)).mp q) (by omega))).trans ((if_neg (fun q => absurd ((own_gt p0 983039 983039 (by decide)).mp q) (by omega))).trans ((if_pos ((own_gt p0 57 57 (by decide)).mpr (by omega))).trans ((if_neg (fun q => absurd ((own_lt p0 59 59 (by decide)).mp q) (by omega))).trans ((if_pos ((own_gt p0 64 64 (by decide)).mpr (by omega))).trans ((if_neg (fun q => absurd ((own_lt p0 91 91 (by decide)).mp q) (by omega))).trans ((if_pos ((own_gt p0 94 94 (by decide)).mpr (by omega))).trans ((if_neg (fun q => absurd ((own_eqi p0 96 96 (by decide)).mp q) (by omega))).trans ((if_neg (fun q => absurd ((own_lt p0 123 123 (by decide)).mp q) (by omega))).trans ((if_pos ((own_gt p0 191 191 (by decide)).mpr (by omega))).trans ((if_neg (fun q => absurd ((own_eqi p0 215 215 (by decide)).mp q) (by omega))).trans ((if_pos ((own_eqi p0 247 247 (by decide)).mpr (by omega))).trans rfl)))))))))))) : F2 p0 = false).symm
theorem own_iv15 (p0 : Int32) (h1 : 248 ≤ p0.toInt) (h2 : p0.toInt ≤ 767) : F1 p0 = F2 p0 :=
  (((if_neg (fun q => absurd ((own_lt p0 128 128 (by decide)).mp q) (by omega))).trans ((if_neg (fun q => absurd ((own_lt p0 192 192 (by decide)).mp q) (by omega))).trans ((if_pos ((own_gt p0 214 214 (by decide)).mpr (by omega))).trans ((if_neg (fun q => absurd ((own_lt p0 216 216 (by decide)).mp q) (by omega))).trans ((if_pos ((own_gt p0 246 246 (by decide)).mpr (by omega))).trans ((if_neg (fun q => absurd ((own_lt p0 248 248 (by decide)).mp q) (by omega))).trans ((if_neg (fun q => absurd ((own_gt p0 767 767 (by decide)).mp q) (by omega))).trans rfl))))))) : F1 p0 = true).trans (((if_neg (fun q => absurd ((own_lt p0 0 0 (by decide)).mp q) (by omega))).trans ((if_neg (fun q => absurd ((own_gt p0 983039 983039 (by decide)).mp q) (by omega))).trans ((if_pos ((own_gt p0 57 57 (by decide)).mpr (by omega))).trans ((if_neg (fun q => absurd ((own_lt p0 59 59 (by decide)).mp q) (by omega))).trans ((if_pos ((own_gt p0 64 64 (by decide)).mpr (by omega))).trans ((if_neg (fun q => absurd ((own_lt p0 91 91 (by decide)).mp q) (by omega))).trans ((if_pos ((own_gt p0 94 94 (by decide)).mpr (by omega))).trans ((if_neg (fun q => absurd ((own_eqi p0 96 96 (by decide)).mp q) (by omega))).trans ((if_neg (fun q => absurd ((own_lt p0 123 123 (by decide)).mp q) (by omega))).trans ((if_pos ((own_gt p0 191 191 (by decide)).mpr (by omega))).trans ((if_neg (fun q => absurd ((own_eqi p0 215 215 (by decide)).mp q) (by omega))).trans ((if_neg (fun q => absurd ((own_eqi p0 247 247 (by decide)).mp q) (by omega))).trans ((if_pos ((own_lt p0 768 768 (by decide)).mpr (by omega))).trans ((if_neg (fun q => absurd ((own_eqi p0 894 894 (by decide)).mp q) (by omega))).trans ((if_pos ((own_lt p0 8192 8192 (by decide)).mpr (by omega))).trans ((if_pos ((own_lt p0 8206 8206 (by decide)).mpr (by omega))).trans ((if_pos ((own_lt p0 8592 8592 (by decide)).mpr (by omega))).trans ((if_pos ((own_lt p0 12272 12272 (by decide)).mpr (by omega))).trans ((if_pos ((own_lt p0 55296 55296 (by decide)).mpr (by omega))).trans ((if_pos ((own_lt p0 64976 64976 (by decide)).mpr (by omega))).trans ((if_neg (fun q => absurd ((own_eqi p0 65534 65534 (by decide)).mp q) (by omega))).trans ((if_neg (fun q => absurd ((own_eqi p0 65535 65535 (by decide)).mp q) (by omega))).trans rfl)))))))))))))))))))))) : F2 p0 = true).symm
theorem own_iv16 (p0 : Int32) (h1 : 768 ≤ p0.toInt) (h2 : p0.toInt ≤ 879) : F1 p0 = F2 p0 :=
  (((if_neg (fun q => absurd ((own_lt p0 128 128 (by decide)).mp q) (by omega))).trans ((if_neg (fun q => absurd ((own_lt p0 192 192 (by decide)).mp q) (by omega))).trans ((if_pos ((own_gt p0 214 214 (by decide)).mpr (by omega))).trans ((if_neg (fun q => absurd ((own_lt p0 216 216 (by decide)).mp q) (by omega))).trans ((if_pos ((own_gt p0 246 246 (by decide)).mpr (by omega))).trans ((if_neg (fun q => absurd ((own_lt p0 248 248 (by decide)).mp q) (by omega))).trans ((if_pos ((own_gt p0 767 767 (by decide)).mpr (by omega))).trans ((if_pos ((own_lt p0 880 880 (by decide)).mpr (by omega))).trans ((if_pos ((own_lt p0 895 895 (by decide)).mpr (by omega))).trans ((if_pos ((own_lt p0 8204 8204 (by decide)).mpr (by omega))).trans ((if_pos ((own_lt p0 8304 8304 (by decide)).mpr (by omega))).trans ((if_pos ((own_lt p0 11264 11264 (by decide)).mpr (by omega))).trans ((if_pos ((own_lt p0 12289 12289 (by decide)).mpr (by omega))).trans ((if_pos ((own_lt p0 63744 63744 (by decide)).mpr (by omega))).trans ((if_pos ((own_lt p0 65008 65008 (by decide)).mpr (by omega))).trans ((if_pos ((own_lt p0 65536 65536 (by decide)).mpr (by omega))).trans rfl)))))))))))))))) : F1 p0 = false).trans (((if_neg (fun q => absurd ((own_lt p0 0 0 (by decide)).mp q) (by omega))).trans ((if_neg (fun q => absurd ((own_gt p0 983039 983039 (by decide)).mp q) (by omega))).trans ((if_pos ((own_gt p0 57 57 (by decide)).mpr (by omega))).trans ((if_neg (fun q => absurd ((own_lt p0 59 59 (by decide)).mp q) (by omega))).trans ((if_pos ((own_gt p0 64 64 (by decide)).mpr (by omega))).trans ((if_neg (fun q => absurd ((own_lt p0 91 91 (by decide)).mp q) (by omega))).trans ((if_pos ((own_gt p0 94 94 (by decide)).mpr (by omega))).trans ((if_neg (fun q => absurd ((own_eqi p0 96 96 (by decide)).mp q) (by omega))).trans ((if_neg (fun q => absurd ((own_lt p0 123 123 (by decide)).mp q) (by omega))).trans ((if_pos ((own_gt p0 191 191 (by decide)).mpr (by omega))).trans ((if_neg (fun q => absurd ((own_eqi p0 215 215 (by decide)).mp q) (by omega))).trans ((if_neg (fun q => absurd ((own_eqi p0 247 247 (by decide)).mp q) (by omega))).trans ((if_neg (fun q => absurd ((own_lt p0 768 768 (by decide)).mp q) (by omega))).trans ((if_neg (fun q => absurd ((own_gt p0 879 879 (by decide)).mp q) (by omega))).trans rfl)))))))))))))) : F2 p0 = false).symm
theorem own_iv17 (p0 : Int32) (h1 : 880 ≤ p0.toInt) (h2 : p0.toInt ≤ 893) : F1 p0 = F2 p0 :=
  (((if_neg (fun q => absurd ((own_lt p0 128 128 (by decide)).mp q) (by omega))).trans ((if_neg (fun q => absurd ((own_lt p0 192 192 (by decide)).mp q) (by omega))).trans ((if_pos ((own_gt p0 214 214 (by decide)).mpr (by omega))).trans ((if_neg (fun q => absurd ((own_lt p0 216 216 (by decide)).mp q) (by omega))).trans ((if_pos ((own_gt p0 246 246 (by decide)).mpr (by omega))).trans ((if_neg (fun q => absurd ((own_lt p0 248 248 (by decide)).mp q) (by omega))).trans ((if_pos ((own_gt p0 767 767 (by decide)).mpr (by omega))).trans ((if_neg (fun q => absurd ((own_lt p0 880 880 (by decide)).mp q) (by omega))).trans ((if_neg (fun q => absurd ((own_gt p0 893 893 (by decide)).mp q) (by omega))).trans rfl))))))))) : F1 p0 = true).trans (((if_neg (fun q => absurd ((own_lt p0 0 0 (by decide)).mp q) (by omega))).trans ((if_neg (fun q => absurd ((own_gt p0 983039 983039 (by decide)).mp q) (by omega))).trans ((if_pos ((own_gt p0 57 57 (by decide)).mpr (by omega))).trans ((if_neg (fun q => absurd ((own_lt p0 59 59 (by decide)).mp q) (by omega))).trans ((if_pos ((own_gt p0 64 64 (by decide)).mpr (by omega))).trans ((if_neg (fun q => absurd ((own_lt p0 91 91 (by decide)).mp q) (by omega))).trans ((if_pos ((own_gt p0 94 94 (by decide)).mpr (by omega))).trans ((if_neg (fun q => absurd ((own_eqi p0 96 96 (by decide)).mp q) (by omega))).trans ((if_neg (fun q => absurd ((own_lt p0 123 123 (by decide)).mp q) (by omega))).trans ((if_pos ((own_gt p0 191 191 (by decide)).mpr (by omega))).trans ((if_neg (fun q => absurd ((own_eqi p0 215 215 (by decide)).mp q) (by omega))).trans ((if_neg (fun q => absurd ((own_eqi p0 247 247 (by decide)).mp q) (by omega))).trans ((if_neg (fun q => absurd ((own_lt p0 768 768 (by decide)).mp q) (by omega))).trans ((if_pos ((own_gt p0 879 879 (by decide)).mpr (by omega))).trans ((if_neg (fun q => absurd ((own_eqi p0 894 894 (by decide)).mp q) (by omega))).trans ((if_pos ((own_lt p0 8192 8192 (by decide)).mpr (by omega))).trans ((if_pos ((own_lt p0 8206 8206 (by decide)).mpr (by omega))).trans ((if_pos ((own_lt p0 8592 8592 (by decide)).mpr (by omega))).trans ((if_pos ((own_lt p0 12272 12272 (by decide)).mpr (by omega))).trans ((if_pos ((own_lt p0 55296 55296 (by decide)).mpr (by omega))).trans ((if_pos ((own_lt p0 64976 64976 (by decide)).mpr (by omega))).trans ((if_neg (fun q => absurd ((own_eqi p0 65534 65534 (by decide)).mp q) (by omega))).trans ((if_neg (fun q => absurd ((own_eqi p0 65535 65535 (by decide)).mp q) (by omega))).trans rfl))))))))))))))))))))))) : F2 p0 = true).symm
theorem own_iv18 (p0 : Int32) (h1 : 894 ≤ p0.toInt) (h2 : p0.toInt ≤ 894) : F1 p0 = F2 p0 :=
  (((if_neg (fun q => absurd ((own_lt p0 128 128 (by decide)).mp q) (by omega))).trans ((if_neg (fun q => absurd ((own_lt p0 192 192 (by decide)).mp q) (by omega))).trans ((if_pos ((own_gt p0 214 214 (by decide)).mpr (by omega))).trans ((if_neg (fun q => absurd ((own_lt p0 216 216 (by decide)).mp q) (by omega))).trans ((if_pos ((own_gt p0 246 246 (by decide)).mpr (by omega))).trans ((if_neg (fun q => absurd ((own_lt p0 248 248 (by decide)).mp q) (by omega))).trans ((if_pos ((own_gt p0 767 767 (by decide)).mpr (by omega))).trans ((if_neg (fun q => absurd ((own_lt p0 880 880 (by decide)).mp q) (by omega))).trans ((if_pos ((own_gt p0 893 893 (by decide)).mpr (by omega))).trans ((if_pos ((own_lt p0 895 895 (by decide)).mpr (by omega))).trans ((if_pos ((own_lt p0 8204 8204 (by decide)).mpr (by omega))).trans ((if_pos ((own_lt p0 8304 8304 (by decide)).mpr (by omega))).trans ((if_pos ((own_lt p0 11264 11264 (by decide)).mpr (by omega))).trans ((if_pos ((own_lt p0 12289 12289 (by decide)).mpr (by omega))).trans ((if_pos ((own_lt p0 63744 63744 (by decide)).mpr (by omega))).trans ((if_pos ((own_lt p0 65008 65008 (by decide)).mpr (by omega))).trans ((if_pos ((own_lt p0 65536 65536 (by decide)).mpr (by omega))).trans rfl))))))))))))))))) : F1 p0 = false).trans (((if_neg (fun q => absurd ((own_lt p0 0 0 (by decide)).mp q) (by omega))).trans ((if_neg (fun q => absurd ((own_gt p0 983039 983039 (by decide)).mp q) (by omega))).trans ((if_pos ((own_gt p0 57 57 (by decide)).mpr (by omega))).trans ((if_neg (fun q => absurd ((own_lt p0 59 59 (by decide)).mp q) (by omega))).trans ((if_pos ((own_gt p0 64 64 (by decide)).mpr (by omega))).trans ((if_neg (fun q => absurd ((own_lt p0 91 91 (by decide)).mp q) (by omega))).trans ((if_pos ((own_gt p0 94 94 (by decide)).mpr (by omega))).trans ((if_neg (fun q => absurd ((own_eqi p0 96 96 (by decide)).mp q) (by omega))).trans ((if_neg (fun q => absurd ((own_lt p0 123 123 (by decide)).mp q) (by omega))).trans ((if_pos ((own_gt p0 191 191 (by decide)).mpr (by omega))).trans ((if_neg (fun q => absurd ((own_eqi p0 215 215 (by decide)).mp q) (by omega))).trans ((if_neg (fun q => absurd ((own_eqi p0 247 247 (by decide)).mp q) (by omega))).trans ((if_neg (fun q => absurd ((own_lt p0 768 768 (by decide)).mp q) (by omega))).trans ((if_pos ((own_gt p0 879 879 (by decide)).mpr (by omega))).trans ((if_pos ((own_eqi p0 894 894 (by decide)).mpr (by omega))).trans rfl))))))))))))))) : F2 p0 = false).symm
theorem own_iv19 (p0 : Int32) (h1 : 895 ≤ p0.toInt) (h2 : p0.toInt ≤ 8191) : F1 p0 = F2 p0 :=
  (((if_neg (fun q => absurd ((own_lt p0 128 128 (by decide)).mp q) (by omega))).trans ((if_neg (fun q => absurd ((own_lt p0 192 192 (by decide)).mp q) (by omega))).trans ((if_pos ((own_gt p0 214 214 (by decide)).mpr (by omega))).trans ((if_neg (fun q => absurd ((own_lt p0 216 216 (by decide)).mp q) (by omega))).trans ((if_pos ((own_gt p0 246 246 (by decide)).mpr (by omega))).trans ((if_neg (fun q => absurd ((own_lt p0 248 248 (by decide)).mp q) (by omega))).trans ((if_pos ((own_gt p0 767 767 (by decide)).mpr (by omega))).trans ((if_neg (fun q => absurd ((own_lt p0 880 880 (by decide)).mp q) (by omega))).trans ((if_pos ((own_gt p0 893 893 (by decide)).mpr (by omega))).trans ((if_neg (fun q => absurd ((own_lt p0 895 895 (by decide)).mp q) (by omega))).trans ((if_neg (fun q => absurd ((own_gt p0 8191 8191 (by decide)).mp q) (by omega))).trans rfl))))))))))) : F1 p0 = true).trans (((if_neg (fun q => absurd ((own_lt p0 0 0 (by decide)).mp q) (by omega))).trans ((if_neg (fun q => absurd ((own_gt p0 983039 983039 (by decide)).mp q) (by omega))).trans ((if_pos ((own_gt p0 57 57 (by decide)).mpr (by omega))).trans ((if_neg (fun q => absurd ((own_lt p0 59 59 (by decide)).mp q) (by omega))).trans ((if_pos ((own_gt p0 64 64 (by decide)).mpr (by omega))).trans ((if_neg (fun q => absurd ((own_lt p0 91 91 (by decide)).mp q) (by omega))).trans ((if_pos ((own_gt p0 94 94 (by decide)).mpr (by omega))).trans ((if_neg (fun q => absurd ((own_eqi p0 96 96 (by decide)).mp q) (by omega))).trans ((if_neg (fun q => absurd ((own_lt p0 123 123 (by decide)).mp q) (by omega))).trans ((if_pos ((own_gt p0 191 191 (by decide)).mpr (by omega))).trans ((if_neg (fun q => absurd ((own_eqi p0 215 215 (by decide)).mp q) (by omega))).trans ((if_neg (fun q => absurd ((own_eqi p0 247 247 (by decide)).mp q) (by omega))).trans ((if_neg (fun q => absurd ((own_lt p0 768 768 (by decide)).mp q) (by omega))).trans ((if_pos ((own_gt p0 879 879 (by decide)).mpr (by omega))).trans ((if_neg (fun q => absurd ((own_eqi p0 894 894 (by decide)).mp q) (by omega))).trans ((if_pos ((own_lt p0 8192 8192 (by decide)).mpr (by omega))).trans ((if_pos ((own_lt p0 8206 8206 (by decide)).mpr (by omega))).trans ((if_pos ((own_lt p0 8592 8592 (by decide)).mpr (by omega))).trans ((if_pos ((own_lt p0 12272 12272 (by decide)).mpr (by omega))).trans ((if_pos ((own_lt p0 55296 55296 (by decide)).mpr (by omega))).trans ((if_pos ((own_lt p0 64976 64976 (by decide)).mpr (by omega))).trans ((if_neg (fun q => absurd ((own_eqi p0 65534 65534 (by decide)).mp q) (by omega))).trans ((if_neg (fun q => absurd ((own_eqi p0 65535 65535 (by decide)).mp q) (by omega))).trans rfl))))))))))))))))))))))) : F2 p0 = true).symm
theorem own_iv20 (p0 : Int32) (h1 : 8192 ≤ p0.toInt) (h2 : p0.toInt ≤ 8203) : F1 p0 = F2 p0 :=
  (((if_neg (fun q => absurd ((own_lt p0 128 128 (by decide)).mp q) (by omega))).trans ((if_neg (fun q => absurd ((own_lt p0 192 192 (by decide)).mp q) (by omega))).trans ((if_pos ((own_gt p0 214 214 (by decide)).mpr (by omega))).trans ((if_neg (fun q => absurd ((own_lt p0 216 216 (by decide)).mp q) (by omega))).trans ((if_pos ((own_gt p0 246 246 (by decide)).mpr (by omega))).trans ((if_neg (fun q => absurd ((own_lt p0 248 248 (by decide)).mp q) (by omega))).trans ((if_pos ((own_gt p0 767 767 (by decide)).mpr (by omega))).trans ((if_neg (fun q => absurd ((own_lt p0 880 880 (by decide)).mp q) (by omega))).trans ((if_pos ((own_gt p0 893 893 (by decide)).mpr (by omega))).trans ((if_neg (fun q => absurd ((own_lt p0 895 895 (by decide)).mp q) (by omega))).trans ((if_pos ((own_gt p0 8191 8191 (by decide)).mpr (by omega))).trans ((if_pos ((own_lt p0 8204 8204 (by decide)).mpr (by omega))).trans ((if_pos ((own_lt p0 8304 8304 (by decide)).mpr (by omega))).trans ((if_pos ((own_lt p0 11264 11264 (by decide)).mpr (by omega))).trans ((if_pos ((own_lt p0 12289 12289 (by decide)).mpr (by omega))).trans ((if_pos ((own_lt p0 63744 63744 (by decide)).mpr (by omega))).trans ((if_pos ((own_lt p0 65008 65008 (by decide)).mpr (by omega))).trans ((if_pos ((own_lt p0 65536 65536 (by decide)).mpr (by omega))).trans rfl)))))))))))))))))) : F1 p0 = false).trans (((if_neg (fun q => absurd ((own_lt p0 0 0 (by decide)).mp q) (by omega))).trans ((if_neg (fun q => absurd ((own_gt p0 983039 983039 (by decide)).mp q) (by omega))).trans ((if_pos ((own_gt p0 57 57 (by decide)).mpr (by omega))).trans ((if_neg (fun q => absurd ((own_lt p0 59 59 (by decide)).mp q) (by omega))).trans ((if_pos ((own_gt p0 64 64 (by decide)).mpr (by omega))).trans ((if_neg (fun q => absurd ((own_lt p0 91 91 (by decide)).mp q) (by omega))).trans ((if_pos ((own_gt p0 94 94 (by decide)).mpr (by omega))).trans ((if_neg (fun q => absurd ((own_eqi p0 96 96 (by decide)).mp q) (by omega))).trans ((if_neg (fun q => absurd ((own_lt p0 123 123 (by decide)).mp q) (by omega))).trans ((if_pos ((own_gt p0 191 191 (by decide)).mpr (by omega))).trans ((if_neg (fun q => absurd ((own_eqi p0 215 215 (by decide)).mp q) (by omega))).trans ((if_neg (fun q => absurd ((own_eqi p0 247 247 (by decide)).mp q) (by omega))).trans ((if_neg (fun q => absurd ((own_lt p0 768 768 (by decide)).mp q) (by omega))).trans ((if_pos ((own_gt p0 879 879 (by decide)).mpr (by omega))).trans ((if_neg (fun q => absurd ((own_eqi p0 894 894 (by decide)).mp q) (by omega))).trans ((if_neg (fun q => absurd ((own_lt p0 8192 8192 (by decide)).mp q) (by omega))).trans ((if_neg (fun q => absurd ((own_gt p0 8203 8203 (by decide)).mp q) (by omega))).trans rfl))))))))))))))))) : F2 p0 = false).symm
theorem own_iv21 (p0 : Int32) (h1 : 8204 ≤ p0.toInt) (h2 : p0.toInt ≤ 8205) : F1 p0 = F2 p0 :=
  (((if_neg (fun q => absurd ((own_lt p0 128 128 (by decide)).mp q) (by omega))).trans ((if_neg (fun q => absurd ((own_lt p0 192 192 (by decide)).mp q) (by omega))).trans ((if_pos ((own_gt p0 214 214 (by decide)).mpr (by omega))).trans ((if_neg (fun q => absurd ((own_lt p0 216 216 (by decide)).mp q) (by omega))).trans ((if_pos ((own_gt p0 246 246 (by decide)).mpr (by omega))).trans ((if_neg (fun q => absurd ((own_lt p0 248 248 (by decide)).mp q) (by omega))).trans ((if_pos ((own_gt p0 767 767 (by decide)).mpr (by omega))).trans ((if_neg (fun q => absurd ((own_lt p0 880 880 (by decide)).mp q) (by omega))).trans ((if_pos ((own_gt p0 893 893 (by decide)).mpr (by omega))).trans ((if_neg (fun q => absurd ((own_lt p0 895 895 (by decide)).mp q) (by omega))).trans ((if_pos ((own_gt p0 8191 8191 (by decide)).mpr (by omega))).trans ((if_neg (fun q => absurd ((own_lt p0 8204 8204 (by decide)).mp q) (by omega))).trans ((if_neg (fun q => absurd ((own_gt p0 8205 8205 (by decide)).mp q) (by omega))).trans rfl))))))))))))) : F1 p0 = true).trans (((if_neg (fun q => absurd ((own_lt p0 0 0 (by decide)).mp q) (by omega))).trans ((if_neg (fun q => absurd ((own_gt p0 983039 983039 (by decide)).mp q) (by omega))).trans ((if_pos ((own_gt p0 57 57 (by decide)).mpr (by omega))).trans ((if_neg (fun q => absurd ((own_lt p0 59 59 (by decide)).mp q) (by omega))).trans ((if_pos ((own_gt p0 64 64 (by decide)).mpr (by omega))).trans ((if_neg (fun q => absurd ((own_lt p0 91 91 (by decide)).mp q) (by omega))).trans ((if_pos ((own_gt p0 94 94 (by decide)).mpr (by omega))).trans ((if_neg (fun q => absurd ((own_eqi p0 96 96 (by decide)).mp q) (by omega))).trans ((if_neg (fun q => absurd ((own_lt p0 123 123 (by decide)).mp q) (by omega))).trans ((if_pos ((own_gt p0 191 191 (by decide)).mpr (by omega))).trans ((if_neg (fun q => absurd ((own_eqi p0 215 215 (by decide)).mp q) (by omega))).trans ((if_neg (fun q => absurd ((own_eqi p0 247 247 (by decide)).mp q) (by omega))).trans ((if_neg (fun q => absurd ((own_lt p0 768 768 (by decide)).mp q) (by omega))).trans ((if_pos ((own_gt p0 879 879 (by decide)).mpr (by omega))).trans ((if_neg (fun q => absurd ((own_eqi p0 894 894 (by decide)).mp q) (by omega))).trans ((if_neg (fun q => absurd ((own_lt p0 8192 8192 (by decide)).mp q) (by omega))).trans ((if_pos ((own_gt p0 8203 8203 (by decide)).mpr (by omega))).trans ((if_pos ((own_lt p0 8206 8206 (by decide)).mpr (by omega))).trans ((if_pos ((own_lt p0 8592 8592 (by decide)).mpr (by omega))).trans ((if_pos ((own_lt p0 12272 12272 (by decide)).mpr (by omega))).trans ((if_pos ((own_lt p0 55296 55296 (by decide)).mpr (by omega))).trans ((if_pos ((own_lt p0 64976 64976 (by decide)).mpr (by omega))).trans ((if_neg (fun q => absurd ((own_eqi p0 65534 65534 (by decide)).mp q) (by omega))).trans ((if_neg (fun q => absurd ((own_eqi p0 65535 65535 (by decide)).mp q) (by omega))).trans rfl)))))))))))))))))))))))) : F2 p0 = true).symm
theorem own_iv22 (p0 : Int32) (h1 : 8206 ≤ p0.toInt) (h2 : p0.toInt ≤ 8303) : F1 p0 = F2 p0 :=
  (((if_neg (fun q => absurd ((own_lt p0 128 128 (by decide)).mp q) (by omega))).trans ((if_neg (fun q => absurd ((own_lt p0 192 192 (by decide)).mp q) (by omega))).trans ((if_pos ((own_gt p0 214 214 (by decide)).mpr (by omega))).trans ((if_neg (fun q => absurd ((own_lt p0 216 216 (by decide)).mp q) (by omega))).trans ((if_pos ((own_gt p0 246 246 (by decide)).mpr (by omega))).trans ((if_neg (fun q => absurd ((own_lt p0 248 248 (by decide)).mp q) (by omega))).trans ((if_pos ((own_gt p0 767 767 (by decide)).mpr (by omega))).trans ((if_neg (fun q => absurd ((own_lt p0 880 880 (by decide)).mp q) (by omega))).trans ((if_pos ((own_gt p0 893 893 (by decide)).mpr (by omega))).trans ((if_neg (fun q => absurd ((own_lt p0 895 895 (by decide)).mp q) (by omega))).trans ((if_pos ((own_gt p0 8191 8191 (by decide)).mpr (by omega))).trans ((if_neg (fun q => absurd ((own_lt p0 8204 8204 (by decide)).mp q) (by omega))).trans ((if_pos ((own_gt p0 8205 8205 (by decide)).mpr (by omega))).trans ((if_pos ((own_lt p0 8304 8304 (by decide)).mpr (by omega))).trans ((if_pos ((own_lt p0 11264 11264 (by decide)).mpr (by omega))).trans ((if_pos ((own_lt p0 12289 12289 (by decide)).mpr (by omega))).trans ((if_pos ((own_lt p0 63744 63744 (by decide)).mpr (by omega))).trans ((if_pos ((own_lt p0 65008 65008 (by decide)).mpr (by omega))).trans ((if_pos ((own_lt p0 65536 65536 (by decide)).mpr (by omega))).trans rfl))))))))))))))))))) : F1 p0 = false).trans (((if_neg (fun q => absurd ((own_lt p0 0 0 (by decide)).mp q) (by omega))).trans ((if_neg (fun q => absurd ((own_gt p0 983039 983039 (by decide)).mp q) (by omega))).trans ((if_pos ((own_gt p0 57 57 (by decide)).mpr (by omega))).trans ((if_neg (fun q => absurd ((own_lt p0 59 59 (by decide)).mp q) (by omega))).trans ((if_pos ((own_gt p0 64 64 (by decide)).mpr (by omega))).trans ((if_neg (fun q => absurd ((own_lt p0 91 91 (by decide)).mp q) (by omega))).trans ((if_pos ((own_gt p0 94 94 (by decide)).mpr (by omega))).trans ((if_neg (fun q => absurd ((own_eqi p0 96 96 (by decide)).mp q) (by omega))).trans ((if_neg (fun q => absurd ((own_lt p0 123 123 (by decide)).mp q) (by omega))).trans ((if_pos ((own_gt p0 191 191 (by decide)).mpr (by omega))).trans ((if_neg (fun q => absurd ((own_eqi p0 215 215 (by decide)).mp q) (by omega))).trans ((if_neg (fun q => absurd ((own_eqi p0 247 247 (by decide)).mp q) (by omega))).trans ((if_neg (fun q => absurd ((own_lt p0 768 768 (by decide)).mp q) (by omega))).trans ((if_pos ((own_gt p0 879 879 (by decide)).mpr (by omega))).trans ((if_neg (fun q => absurd ((own_eqi p0 894 894 (by decide)).mp q) (by omega))).trans ((if_neg (fun q => absurd ((own_lt p0 8192 8192 (by decide)).mp q) (by omega))).trans ((if_pos ((own_gt p0 8203 8203 (by decide)).mpr (by omega))).trans ((if_neg (fun q => absurd ((own_lt p0 8206 8206 (by decide)).mp q) (by omega))).trans ((if_neg (fun q => absurd ((own_gt p0 8303 8303 (by decide)).mp q) (by omega))).trans rfl))))))))))))))))))) : F2 p0 = false).symm
theorem own_iv23 (p0 : Int32) (h1 : 8304 ≤ p0.toInt) (h2 : p0.toInt ≤ 8591) : F1 p0 = F2 p0 :=
  (((if_neg (fun q => absurd ((own_lt p0 128 128 (by decide)).mp q) (by omega))).trans ((if_neg (fun q => absurd ((own_lt p0 192 192 (by decide)).mp q) (by omega))).trans ((if_pos ((own_gt p0 214 214 (by decide)).mpr (by omega))).trans ((if_neg (fun q => absurd ((own_lt p0 216 216 (by decide)).mp q) (by omega))).trans ((if_pos ((own_gt p0 246 246 (by decide)).mpr (by omega))).trans ((if_neg (fun q => absurd ((own_lt p0 248 248 (by decide)).mp q) (by omega))).trans ((if_pos ((own_gt p0 767 767 (by decide)).mpr (by omega))).trans ((if_neg (fun q => absurd ((own_lt p0 880 880 (by decide)).mp q) (by omega))).trans ((if_pos ((own_gt p0 893 893 (by decide)).mpr (by omega))).trans ((if_neg (fun q => absurd ((own_lt p0 895 895 (by decide)).mp q) (by omega))).trans ((if_pos ((own_gt p0 8191 8191 (by decide)).mpr (by omega))).trans ((if_neg (fun q => absurd ((own_lt p0 8204 8204 (by decide)).mp q) (by omega))).trans ((if_pos ((own_gt p0 8205 8205 (by decide)).mpr (by omega))).trans ((if_neg (fun q => absurd ((own_lt p0 8304 8304 (by decide)).mp q) (by omega))).trans ((if_neg (fun q => absurd ((own_gt p0 8591 8591 (by decide)).mp q) (by omega))).trans rfl))))))))))))))) : F1 p0 = true).trans (((if_neg (fun q => absurd ((own_lt p0 0 0 (by decide)).mp q) (by omega))).trans ((if_neg (fun q => absurd ((own_gt p0 983039 983039 (by decide)).mp q) (by omega))).trans ((if_pos ((own_gt p0 57 57 (by decide)).mpr (by omega))).trans ((if_neg (fun q => absurd ((own_lt p0 59 59 (by decide)).mp q) (by omega))).trans ((if_pos ((own_gt p0 64 64 (by decide)).mpr (by omega))).trans ((if_neg (fun q => absurd ((own_lt p0 91 91 (by decide)).mp q) (by omega))).trans ((if_pos ((own_gt p0 94 94 (by decide)).mpr (by omega))).trans ((if_neg (fun q => absurd ((own_eqi p0 96 96 (by decide)).mp q) (by omega))).trans ((if_neg (fun q => absurd ((own_lt p0 123 123 (by decide)).mp q) (by omega))).trans ((if_pos ((own_gt p0 191 191 (by decide)).mpr (by omega))).trans ((if_neg (fun q => absurd ((own_eqi p0 215 215 (by decide)).mp q) (by omega))).trans ((if_neg (fun q => absurd ((own_eqi p0 247 247 (by decide)).mp q) (by omega))).trans ((if_neg (fun q => absurd ((own_lt p0 768 768 (by decide)).mp q) (by omega))).trans ((if_pos ((own_gt p0 879 879 (by decide)).mpr (by omega))).trans ((if_neg (fun q => absurd ((own_eqi p0 894 894 (by decide)).mp q) (by omega))).trans ((if_neg (fun q => absurd ((own_lt p0 8192 8192 (by decide)).mp q) (by omega))).trans ((if_pos ((own_gt p0 8203 8203 (by decide)).mpr (by omega))).trans ((if_neg (fun q => absurd ((own_lt p0 8206 8206 (by decide)).mp q) (by omega))).trans ((if_pos ((own_gt p0 8303 8303 (by decide)).mpr (by omega))).trans ((if_pos ((own_lt p0 8592 8592 (by decide)).mpr (by omega))).trans ((if_pos ((own_lt p0 12272 12272 (by decide)).mpr (by omega))).trans ((if_pos ((own_lt p0 55296 55296 (by decide)).mpr (by omega))).trans ((if_pos ((own_lt p0 64976 64976 (by decide)).mpr (by omega))).trans ((if_neg (fun q => absurd ((own_eqi p0 65534 65534 (by decide)).mp q) (by omega))).trans ((if_neg (fun q => absurd ((own_eqi p0 65535 65535 (by decide)).mp q) (by omega))).trans rfl))))))))))))))))))))))))) : F2 p0 = true).symm
theorem own_iv24 (p0 : Int32) (h1 : 8592 ≤ p0.toInt) (h2 : p0.toInt ≤ 11263) : F1 p0 = F2 p0 :=
  (((if_neg (fun q => absurd ((own_lt p0 128 128 (by decide)).mp q) (by omega))).trans ((if_neg (fun q => absurd ((own_lt p0 192 192 (by decide)).mp q) (by omega))).trans ((if_pos ((own_gt p0 214 214 (by decide)).mpr (by omega))).trans ((if_neg (fun q => absurd ((own_lt p0 216 216 (by decide)).mp q) (by omega))).trans ((if_pos ((own_gt p0 246 246 (by decide)).mpr (by omega))).trans ((if_neg (fun q => absurd ((own_lt p0 248 248 (by decide)).mp q) (by omega))).trans ((if_pos ((own_gt p0 767 767 (by decide)).mpr (by omega))).trans ((if_neg (fun q => absurd ((own_lt p0 880 880 (by decide)).mp q) (by omega))).trans ((if_pos ((own_gt p0 893 893 (by decide)).mpr (by omega))).trans ((if_neg (fun q => absurd ((own_lt p0 895 895 (by decide)).mp q) (by omega))).trans ((if_pos ((own_gt p0 8191 8191 (by decide)).mpr (by omega))).trans ((if_neg (fun q => absurd ((own_lt p0 8204 8204 (by decide)).mp q) (by omega))).trans ((if_pos ((own_gt p0 8205 8205 (by decide)).mpr (by omega))).trans ((if_neg (fun q => absurd ((own_lt p0 8304 8304 (by decide)).mp q) (by omega))).trans ((if_pos ((own_gt p0 8591 8591 (by decide)).mpr (by omega))).trans ((if_pos ((own_lt p0 11264 11264 (by decide)).mpr (by omega))).trans ((if_pos ((own_lt p0 12289 12289 (by decide)).mpr (by omega))).trans ((if_pos ((own_lt p0 63744 63744 (by decide)).mpr (by omega))).trans ((if_pos ((own_lt p0 65008 65008 (by decide)).mpr (by omega))).trans ((if_pos ((own_lt p0 65536 65536 (by decide)).mpr (by omega))).trans rfl)))))))))))))))))))) : F1 p0 = false).trans (((if_neg (fun q => absurd ((own_lt p0 0 0 (by decide)).mp q) (by omega))).trans ((if_neg (fun q => absurd ((own_gt p0 983039 983039 (by decide)).mp q) (by omega))).trans ((if_pos ((own_gt p0 57 57 (by decide)).mpr (by omega))).trans ((if_neg (fun q => absurd ((own_lt p0 59 59 (by decide)).mp q) (by omega))).trans ((if_pos ((own_gt p0 64 64 (by decide)).mpr (by omega))).trans ((if_neg (fun q => absurd ((own_lt p0 91 91 (by decide)).mp q) (by omega))).trans ((if_pos ((own_gt p0 94 94 (by decide)).mpr (by omega))).trans ((if_neg (fun q => absurd ((own_eqi p0 96 96 (by decide)).mp q) (by omega))).trans ((if_neg (fun q => absurd ((own_lt p0 123 123 (by decide)).mp q) (by omega))).trans ((if_pos ((own_gt p0 191 191 (by decide)).mpr (by omega))).trans ((if_neg (fun q => absurd ((own_eqi p0 215 215 (by decide)).mp q) (by omega))).trans ((if_neg (fun q => absurd ((own_eqi p0 247 247 (by decide)).mp q) (by omega))).trans ((if_neg (fun q => absurd ((own_lt p0 768 768 (by decide)).mp q) (by omega))).trans ((if_pos ((own_gt p0 879 879 (by decide)).mpr (by omega))).trans ((if_neg (fun q => absurd ((own_eqi p0 894 894 (by decide)).mp q) (by omega))).trans ((if_neg (fun q => absurd ((own_lt p0 8192 8192 (by decide)).mp q) (by omega))).trans ((if_pos ((own_gt p0 8203 8203 (by decide)).mpr (by omega))).trans ((if_neg (fun q => absurd ((own_lt p0 8206 8206 (by decide)).mp q) (by omega))).trans ((if_pos ((own_gt p0 8303 8303 (by decide)).mpr (by omega))).trans ((if_neg (fun q => absurd ((own_lt p0 8592 8592 (by decide)).mp q) (by omega))).trans ((if_neg (fun q => absurd ((own_gt p0 11263 11263 (by decide)).mp q) (by omega))).trans rfl))))))))))))))))))))) : F2 p0 = false).symm
theorem own_iv25 (p0 : Int32) (h1 : 11264 ≤ p0.toInt) (h2 : p0.toInt ≤ 12271) : F1 p0 = F2 p0 :=
  (((if_neg (fun q => absurd ((own_lt p0 128 128 (by decide)).mp q) (by omega))).trans ((if_neg (fun q => absurd ((own_lt p0 192 192 (by decide)).mp q) (by omega))).trans ((if_pos ((own_gt p0 214 214 (by decide)).mpr (by omega))).trans ((if_neg (fun q => absurd ((own_lt p0 216 216 (by decide)).mp q) (by omega))).trans ((if_pos ((own_gt p0 246 246 (by decide)).mpr (by omega))).trans ((if_neg (fun q => absurd ((own_lt p0 248 248 (by decide)).mp q) (by omega))).trans ((if_pos ((own_gt p0 767 767 (by decide)).mpr (by omega))).trans ((if_neg (fun q => absurd ((own_lt p0 880 880 (by decide)).mp q) (by omega))).trans ((if_pos ((own_gt p0 893 893 (by decide)).mpr (by omega))).trans ((if_neg (fun q => absurd ((own_lt p0 895 895 (by decide)).mp q) (by omega))).trans ((if_pos ((own_gt p0 8191 8191 (by decide)).mpr (by omega))).trans ((if_neg (fun q => absurd ((own_lt p0 8204 8204 (by decide)).mp q) (by omega))).trans ((if_pos ((own_gt p0 8205 8205 (by decide)).mpr (by omega))).trans ((if_neg (fun q => absurd ((own_lt p0 8304 8304 (by decide)).mp q) (by omega))).trans ((if_pos ((own_gt p0 8591 8591 (by decide)).mpr (by omega))).trans ((if_neg (fun q => absurd ((own_lt p0 11264 11264 (by decide)).mp q) (by omega))).trans ((if_neg (fun q => absurd ((own_gt p0 12271 12271 (by decide)).mp q) (by omega))).trans rfl))))))))))))))))) : F1 p0 = true).trans (((if_neg (fun q => absurd ((own_lt p0 0 0 (by decide)).mp q) (by omega))).trans ((if_neg (fun q => absurd ((own_gt p0 983039 983039 (by decide)).mp q) (by omega))).trans ((if_pos ((own_gt p0 57 57 (by decide)).mpr (by omega))).trans ((if_neg (fun q => absurd ((own_lt p0 59 59 (by decide)).mp q) (by omega))).trans ((if_pos ((own_gt p0 64 64 (by decide)).mpr (by omega))).trans ((if_neg (fun q => absurd ((own_lt p0 91 91 (by decide)).mp q) (by omega))).trans ((if_pos ((own_gt p0 94 94 (by decide)).mpr (by omega))).trans ((if_neg (fun q => absurd ((own_eqi p0 96 96 (by decide)).mp q) (by omega))).trans ((if_neg (fun q => absurd ((own_lt p0 123 123 (by decide)).mp q) (by omega))).trans ((if_pos ((own_gt p0 191 191 (by decide)).mpr (by omega))).trans ((if_neg (fun q => absurd ((own_eqi p0 215 215 (by decide)).mp q) (by omega))).trans ((if_neg (fun q => absurd ((own_eqi p0 247 247 (by decide)).mp q) (by omega))).trans ((if_neg (fun q => absurd ((own_lt p0 768 768 (by decide)).mp q) (by omega))).trans ((if_pos ((own_gt p0 879 879 (by decide)).mpr (by omega))).trans ((if_neg (fun q => absurd ((own_eqi p0 894 894 (by decide)).mp q) (by omega))).trans ((if_neg (fun q => absurd ((own_lt p0 8192 8192 (by decide)).mp q) (by omega))).trans ((if_pos ((own_gt p0 8203 8203 (by decide)).mpr (by omega))).trans ((if_neg (fun q => absurd ((own_lt p0 8206 8206 (by decide)).mp q) (by omega))).trans ((if_pos ((own_gt p0 8303 8303 (by decide)).mpr (by omega))).trans ((if_neg (fun q => absurd ((own_lt p0 8592 8592 (by decide)).mp q) (by omega))).trans ((if_pos ((own_gt p0 11263 11263 (by decide)).mpr (by omega))).trans ((if_pos ((own_lt p0 12272 12272 (by decide)).mpr (by omega))).trans ((if_pos ((own_lt p0 55296 55296 (by decide)).mpr (by omega))).trans ((if_pos ((own_lt p0 64976 64976 (by decide)).mpr (by omega))).trans ((if_neg (fun q => absurd ((own_eqi p0 65534 65534 (by decide)).mp q) (by omega))).trans ((if_neg (fun q => absurd ((own_eqi p0 65535 65535 (by decide)).mp q) (by omega))).trans rfl)))))))))))))))))))))))))) : F2 p0 = true).symm
theorem own_iv26 (p0 : Int32) (h1 : 12272 ≤ p0.toInt) (h2 : p0.toInt ≤ 12288) : F1 p0 = F2 p0 :=
  (((if_neg (fun q => absurd ((own_lt p0 128 128 (by decide)).mp q) (by omega))).trans ((if_neg (fun q => absurd ((own_lt p0 192 192 (by decide)).mp q) (by omega))).trans ((if_pos ((own_gt p0 214 214 (by decide)).mpr (by omega))).trans ((if_neg (fun q => absurd ((own_lt p0 216 216 (by decide)).mp q) (by omega))).trans ((if_pos ((own_gt p0 246 246 (by decide)).mpr (by omega))).trans ((if_neg (fun q => absurd ((own_lt p0 248 248 (by decide)).mp q) (by omega))).trans ((if_pos ((own_gt p0 767 767 (by decide)).mpr (by omega))).trans ((if_neg (fun q => absurd ((own_lt p0 880 880 (by decide)).mp q) (by omega))).trans ((if_pos ((own_gt p0 893 893 (by decide)).mpr (by omega))).trans ((if_neg (fun q => absurd ((own_lt p0 895 895 (by decide)).mp q) (by omega))).trans ((if_pos ((own_gt p0 8191 8191 (by decide)).mpr (by omega))).trans ((if_neg (fun q => absurd ((own_lt p0 8204 8204 (by decide)).mp q) (by omega))).trans ((if_pos ((own_gt p0 8205 8205 (by decide)).mpr (by omega))).trans ((if_neg (fun q => absurd ((own_lt p0 8304 8304 (by decide)).mp q) (by omega))).trans ((if_pos ((own_gt p0 8591 8591 (by decide)).mpr (by omega))).trans ((if_neg (fun q => absurd ((own_lt p0 11264 11264 (by decide)).mp q) (by omega))).trans ((if_pos ((own_gt p0 12271 12271 (by decide)).mpr (by omega))).trans ((if_pos ((own_lt p0 12289 12289 (by decide)).mpr (by omega))).trans ((if_pos ((own_lt p0 63744 63744 (by decide)).mpr (by omega))).trans ((if_pos ((own_lt p0 65008 65008 (by decide)).mpr (by omega))).trans ((if_pos ((own_lt p0 65536 65536 (by decide)).mpr (by omega))).trans rfl))))))))))))))))))))) : F1 p0 = false).trans (((if_neg (fun q => absurd ((own_lt p0 0 0 (by decide)).mp q) (by omega))).trans ((if_neg (fun q => absurd ((own_gt p0 983039 983039 (by decide)).mp q) (by omega))).trans ((if_pos ((own_gt p0 57 57 (by decide)).mpr (by omega))).trans ((if_neg (fun q => absurd ((own_lt p0 59 59 (by decide)).mp q) (by omega))).trans ((if_pos ((own_gt p0 64 64 (by decide)).mpr (by omega))).trans ((if_neg (fun q => absurd ((own_lt p0 91 91 (by decide)).mp q) (by omega))).trans ((if_pos ((own_gt p0 94 94 (by decide)).mpr (by omega))).trans ((if_neg (fun q => absurd ((own_eqi p0 96 96 (by decide)).mp q) (by omega))).trans ((if_neg (fun q => absurd ((own_lt p0 123 123 (by decide)).mp q) (by omega))).trans ((if_pos ((own_gt p0 191 191 (by decide)).mpr (by omega))).trans ((if_neg (fun q => absurd ((own_eqi p0 215 215 (by decide)).mp q) (by omega))).trans ((if_neg (fun q => absurd ((own_eqi p0 247 247 (by decide)).mp q) (by omega))).trans ((if_neg (fun q => absurd ((own_lt p0 768 768 (by decide)).mp q) (by omega))).trans ((if_pos ((own_gt p0 879 879 (by decide)).mpr (by omega))).trans ((if_neg (fun q => absurd ((own_eqi p0 894 894 (by decide)).mp q) (by omega))).trans ((if_neg (fun q => absurd ((own_lt p0 8192 8192 (by decide)).mp q) (by omega))).trans ((if_pos ((own_gt p0 8203 8203 (by decide)).mpr (by omega))).trans ((if_neg (fun q => absurd ((own_lt p0 8206 8206 (by decide)).mp q) (by omega))).trans ((if_pos ((own_gt p0 8303 8303 (by decide)).mpr (by omega))).trans ((if_neg (fun q => absurd ((own_lt p0 8592 8592 (by decide)).mp q) (by omega))).trans ((if_pos ((own_gt p0 11263 11263 (by decide)).mpr (by omega))).trans ((if_neg (fun q => absurd ((own_lt p0 12272 12272 (by decide)).mp q) (by omega))).trans ((if_neg (fun q => absurd ((own_gt p0 12288 12288 (by decide)).mp q) (by omega))).trans rfl))))))))))))))))))))))) : F2 p0 = false).symm
theorem own_iv27 (p0 : Int32) (h1 : 12289 ≤ p0.toInt) (h2 : p0.toInt ≤ 55295) : F1 p0 = F2 p0 :=
  (((if_neg (fun q => absurd ((own_lt p0 128 128 (by decide)).mp q) (by omega))).trans ((if_neg (fun q => absurd ((own_lt p0 192 192 (by decide)).mp q) (by omega))).trans ((if_pos ((own_gt p0 214 214 (by decide)).mpr (by omega))).trans ((if_neg (fun q => absurd ((own_lt p0 216 216 (by decide)).mp q) (by omega))).trans ((if_pos ((own_gt p0 246 246 (by decide)).mpr (by omega))).trans ((if_neg (fun q => absurd ((own_lt p0 248 248 (by decide)).mp q) (by omega))).trans ((if_pos ((own_gt p0 767 767 (by decide)).mpr (by omega))).trans ((if_neg (fun q => absurd ((own_lt p0 880 880 (by decide)).mp q) (by omega))).trans ((if_pos ((own_gt p0 893 893 (by decide)).mpr (by omega))).trans ((if_neg (fun q => absurd ((own_lt p0 895 895 (by decide)).mp q) (by omega))).trans ((if_pos ((own_gt p0 8191 8191 (by decide)).mpr (by omega))).trans ((if_neg (fun q => absurd ((own_lt p0 8204 8204 (by decide)).mp q) (by omega))).trans ((if_pos ((own_gt p0 8205 8205 (by decide)).mpr (by omega))).trans ((if_neg (fun q => absurd ((own_lt p0 8304 8304 (by decide)).mp q) (by omega))).trans ((if_pos ((own_gt p0 8591 8591 (by decide)).mpr (by omega))).trans ((if_neg (fun q => absurd ((own_lt p0 11264 11264 (by decide)).mp q) (by omega))).trans ((if_pos ((own_gt p0 12271 12271 (by decide)).mpr (by omega))).trans ((if_neg (fun q => absurd ((own_lt p0 12289 12289 (by decide)).mp q) (by omega))).trans ((if_neg (fun q => absurd ((own_gt p0 55295 55295 (by decide)).mp q) (by omega))).trans rfl))))))))))))))))))) : F1 p0 = true).trans (((if_neg (fun q => absurd ((own_lt p0 0 0 (by decide)).mp q) (by omega))).trans ((if_neg (fun q => absurd ((own_gt p0 983039 983039 (by decide)).mp q) (by omega))).trans ((if_pos ((own_gt p0 57 57 (by decide)).mpr (by omega))).trans ((if_neg (fun q => absurd ((own_lt p0 59 59 (by decide)).mp q) (by omega))).trans ((if_pos ((own_gt p0 64 64 (by decide)).mpr (by omega))).trans ((if_neg (fun q => absurd ((own_lt p0 91 91 (by decide)).mp q) (by omega))).trans ((if_pos ((own_gt p0 94 94 (by decide)).mpr (by omega))).trans ((if_neg (fun q => absurd ((own_eqi p0 96 96 (by decide)).mp q) (by omega))).trans ((if_neg (fun q => absurd ((own_lt p0 123 123 (by decide)).mp q) (by omega))).trans ((if_pos ((own_gt p0 191 191 (by decide)).mpr (by omega))).trans ((if_neg (fun q => absurd ((own_eqi p0 215 215 (by decide)).mp q) (by omega))).trans ((if_neg (fun q => absurd ((own_eqi p0 247 247 (by decide)).mp q) (by omega))).trans ((if_neg (fun q => absurd ((own_lt p0 768 768 (by decide)).mp q) (by omega))).trans ((if_pos ((own_gt p0 879 879 (by decide)).mpr (by omega))).trans ((if_neg (fun q => absurd ((own_eqi p0 894 894 (by decide)).mp q) (by omega))).trans ((if_neg (fun q => absurd ((own_lt p0 8192 8192 (by decide)).mp q) (by omega))).trans ((if_pos ((own_gt p0 8203 8203 (by decide)).mpr (by omega))).trans ((if_neg (fun q => absurd ((own_lt p0 8206 8206 (by decide)).mp q) (by omega))).trans ((if_pos ((own_gt p0 8303 8303 (by decide)).mpr (by omega))).trans ((if_neg (fun q => absurd ((own_lt p0 8592 8592 (by decide)).mp q) (by omega))).trans ((if_pos ((own_gt p0 11263 11263 (by decide)).mpr (by omega))).trans ((if_neg (fun q => absurd ((own_lt p0 12272 12272 (by decide)).mp q) (by omega))).trans ((if_pos ((own_gt p0 12288 12288 (by decide)).mpr (by omega))).trans ((if_pos ((own_lt p0 55296 55296 (by decide)).mpr (by omega))).trans ((if_pos ((own_lt p0 64976 64976 (by decide)).mpr (by omega))).trans ((if_neg (fun q => absurd ((own_eqi p0 65534 65534 (by decide)).mp q) (by omega))).trans ((if_neg (fun q => absurd ((own_eqi p0 65535 65535 (by decide)).mp q) (by omega))).trans rfl))))))))))))))))))))))))))) : F2 p0 = true).symm
theorem own_iv28 (p0 : Int32) (h1 : 55296 ≤ p0.toInt) (h2 : p0.toInt ≤ 63743) : F1 p0 = F2 p0 :=
  (((if_neg (fun q => absurd ((own_lt p0 128 128 (by decide)).mp q) (by omega))).trans ((if_neg (fun q => absurd ((own_lt p0 192 192 (by decide)).mp q) (by omega))).trans ((if_pos ((own_gt p0 214 214 (by decide)).mpr (by omega))).trans ((if_neg (fun q => absurd ((own_lt p0 216 216 (by decide)).mp q) (by omega))).trans ((if_pos ((own_gt p0 246 246 (by decide)).mpr (by omega))).trans ((if_neg (fun q => absurd ((own_lt p0 248 248 (by decide)).mp q) (by omega))).trans ((if_pos ((own_gt p0 767 767 (by decide)).mpr (by omega))).trans ((if_neg (fun q => absurd ((own_lt p0 880 880 (by decide)).mp q) (by omega))).trans ((if_pos ((own_gt p0 893 893 (by decide)).mpr (by omega))).trans ((if_neg (fun q => absurd ((own_lt p0 895 895 (by decide)).mp q) (by omega))).trans ((if_pos ((own_gt p0 8191 8191 (by decide)).mpr (by omega))).trans ((if_neg (fun q => absurd ((own_lt p0 8204 8204 (by decide)).mp q) (by omega))).trans ((if_pos ((own_gt p0 8205 8205 (by decide)).mpr (by omega))).trans ((if_neg (fun q => absurd ((own_lt p0 8304 8304 (by decide)).mp q) (by omega))).trans ((if_pos ((own_gt p0 8591 8591 (by decide)).mpr (by omega))).trans ((if_neg (fun q => absurd ((own_lt p0 11264 11264 (by decide)).mp q) (by omega))).trans ((if_pos ((own_gt p0 12271 12271 (by decide)).mpr (by omega))).trans ((if_neg (fun q => absurd ((own_lt p0 12289 12289 (by decide)).mp q) (by omega))).trans ((if_pos ((own_gt p0 55295 55295 (by decide)).mpr (by omega))).trans ((if_pos ((own_lt p0 63744 63744 (by decide)).mpr (by omega))).trans ((if_pos ((own_lt p0 65008 65008 (by decide)).mpr (by omega))).trans ((if_pos ((own_lt p0 65536 65536 (by decide)).mpr (by omega))).trans rfl)))))))))))))))))))))) : F1 p0 = false).trans (((if_neg (fun q => absurd ((own_lt p0 0 0 (by decide)).mp q) (by omega))).trans ((if_neg (fun q => absurd ((own_gt p0 983039 983039 (by decide)).mp q) (by omega))).trans ((if_pos ((own_gt p0 57 57 (by decide)).mpr (by omega))).trans ((if_neg (fun q => absurd ((own_lt p0 59 59 (by decide)).mp q) (by omega))).trans ((if_pos ((own_gt p0 64 64 (by decide)).mpr (by omega))).trans ((if_neg (fun q => absurd ((own_lt p0 91 91 (by decide)).mp q) (by omega))).trans ((if_pos ((own_gt p0 94 94 (by decide)).mpr (by omega))).trans ((if_neg (fun q => absurd ((own_eqi p0 96 96 (by decide)).mp q) (by omega))).trans ((if_neg (fun q => absurd ((own_lt p0 123 123 (by decide)).mp q) (by omega))).trans ((if_pos ((own_gt p0 191 191 (by decide)).mpr (by omega))).trans ((if_neg (fun q => absurd ((own_eqi p0 215 215 (by decide)).mp q) (by omega))).trans ((if_neg (fun q => absurd ((own_eqi p0 247 247 (by decide)).mp q) (by omega))).trans ((if_neg (fun q => absurd ((own_lt p0 768 768 (by decide)).mp q) (by omega))).trans ((if_pos ((own_gt p0 879 879 (by decide)).mpr (by omega))).trans ((if_neg (fun q => absurd ((own_eqi p0 894 894 (by decide)).mp q) (by omega))).trans ((if_neg (fun q => absurd ((own_lt p0 8192 8192 (by decide)).mp q) (by omega))).trans ((if_pos ((own_gt p0 8203 8203 (by decide)).mpr (by omega))).trans ((if_neg (fun q => absurd ((own_lt p0 8206 8206 (by decide)).mp q) (by omega))).trans ((if_pos ((own_gt p0 8303 8303 (by decide)).mpr (by omega))).trans ((if_neg (fun q => absurd ((own_lt p0 8592 8592 (by decide)).mp q) (by omega))).trans ((if_pos ((own_gt p0 11263 11263 (by decide)).mpr (by omega))).trans ((if_neg (fun q => absurd ((own_lt p0 12272 12272 (by decide)).mp q) (by omega))).trans ((if_pos ((own_gt p0 12288 12288 (by decide)).mpr (by omega))).trans ((if_neg (fun q => absurd ((own_lt p0 55296 55296 (by decide)).mp q) (by omega))).trans ((if_neg (fun q => absurd ((own_gt p0 63743 63743 (by decide)).mp q) (by omega))).trans rfl))))))))))))))))))))))))) : F2 p0 = false).symm
theorem own_iv29 (p0 : Int32) (h1 : 63744 ≤ p0.toInt) (h2 : p0.toInt ≤ 64975) : F1 p0 = F2 p0 :=
  (((if_neg (fun q => absurd ((own_lt p0 128 128 (by decide)).mp q) (by omega))).trans ((if_neg (fun q => absurd ((own_lt p0 192 192 (by decide)).mp q) (by omega))).trans ((if_pos ((own_gt p0 214 214 (by decide)).mpr (by omega))).trans ((if_neg (fun q => absurd ((own_lt p0 216 216 (by decide)).mp q) (by omega))).trans ((if_pos ((own_gt p0 246 246 (by decide)).mpr (by omega))).trans ((if_neg (fun q => absurd ((own_lt p0 248 248 (by decide)).mp q) (by omega))).trans ((if_pos ((own_gt p0 767 767 (by decide)).mpr (by omega))).trans ((if_neg (fun q => absurd ((own_lt p0 880 880 (by decide)).mp q) (by omega))).trans ((if_pos ((own_gt p0 893 893 (by decide)).mpr (by omega))).trans ((if_neg (fun q => absurd ((own_lt p0 895 895 (by decide)).mp q) (by omega))).trans ((if_pos ((own_gt p0 8191 8191 (by decide)).mpr (by omega))).trans ((if_neg (fun q => absurd ((own_lt p0 8204 8204 (by decide)).mp q) (by omega))).trans ((if_pos ((own_gt p0 8205 8205 (by decide)).mpr (by omega))).trans ((if_neg (fun q => absurd ((own_lt p0 8304 8304 (by decide)).mp q) (by omega))).trans ((if_pos ((own_gt p0 8591 8591 (by decide)).mpr (by omega))).trans ((if_neg (fun q => absurd ((own_lt p0 11264 11264 (by decide)).mp q) (by omega))).trans ((if_pos ((own_gt p0 12271 12271 (by decide)).mpr (by omega))).trans ((if_neg (fun q => absurd ((own_lt p0 12289 12289 (by decide)).mp q) (by omega))).trans ((if_pos ((own_gt p0 55295 55295 (by decide)).mpr (by omega))).trans ((if_neg (fun q => absurd ((own_lt p0 63744 63744 (by decide)).mp q) (by omega))).trans ((if_neg (fun q => absurd ((own_gt p0 64975 64975 (by decide)).mp q) (by omega))).trans rfl))))))))))))))))))))) : F1 p0 = true).trans (((if_neg (fun q => absurd ((own_lt p0 0 0 (by decide)).mp q) (by omega))).trans ((if_neg (fun q => absurd ((own_gt p0 983039 983039 (by decide)).mp q) (by omega))).trans ((if_pos ((own_gt p0 57 57 (by decide)).mpr (by omega))).trans ((if_neg (fun q => absurd ((own_lt p0 59 59 (by decide)).mp q) (by omega))).trans ((if_pos ((own_gt p0 64 64 (by decide)).mpr (by omega))).trans ((if_neg (fun q => absurd ((own_lt p0 91 91 (by decide)).mp q) (by omega))).trans ((if_pos ((own_gt p0 94 94 (by decide)).mpr (by omega))).trans ((if_neg (fun q => absurd ((own_eqi p0 96 96 (by decide)).mp q) (by omega))).trans ((if_neg (fun q => absurd ((own_lt p0 123 123 (by decide)).mp q) (by omega))).trans ((if_pos ((own_gt p0 191 191 (by decide)).mpr (by omega))).trans ((if_neg (fun q => absurd ((own_eqi p0 215 215 (by decide)).mp q) (by omega))).trans ((if_neg (fun q => absurd ((own_eqi p0 247 247 (by decide)).mp q) (by omega))).trans ((if_neg (fun q => absurd ((own_lt p0 768 768 (by decide)).mp q) (by omega))).trans ((if_pos ((own_gt p0 879 879 (by decide)).mpr (by omega))).trans ((if_neg (fun q => absurd ((own_eqi p0 894 894 (by decide)).mp q) (by omega))).trans ((if_neg (fun q => absurd ((own_lt p0 8192 8192 (by decide)).mp q) (by omega))).trans ((if_pos ((own_gt p0 8203 8203 (by decide)).mpr (by omega))).trans ((if_neg (fun q => absurd ((own_lt p0 8206 8206 (by decide)).mp q) (by omega))).trans ((if_pos ((own_gt p0 8303 8303 (by decide)).mpr (by omega))).trans ((if_neg (fun q => absurd ((own_lt p0 8592 8592 (by decide)).mp q) (by omega))).trans ((if_pos ((own_gt p0 11263 11263 (by decide)).mpr (by omega))).trans ((if_neg (fun q => absurd ((own_lt p0 12272 12272 (by decide)).mp q) (by omega))).trans ((if_pos ((own_gt p0 12288 12288 (by decide)).mpr (by omega))).trans ((if_neg (fun q => absurd ((own_lt p0 55296 55296 (by decide)).mp q) (by omega))).trans ((if_pos ((own_gt p0 63743 63743 (by decide)).mpr (by omega))).trans ((if_pos ((own_lt p0 64976 64976 (by decide)).mpr (by omega))).trans ((if_neg (fun q => absurd ((own_eqi p0 65534 65534 (by decide)).mp q) (by omega))).trans ((if_neg (fun q => absurd ((own_eqi p0 65535 65535 (by decide)).mp q) (by omega))).trans rfl)))))))))))))))))))))))))))) : F2 p0 = true).symm
theorem own_iv30 (p0 : Int32) (h1 : 64976 ≤ p0.toInt) (h2 : p0.toInt ≤ 65007) : F1 p0 = F2 p0 :=
  (((if_neg (fun q => absurd ((own_lt p0 128 128 (by decide)).mp q) (by omega))).trans ((if_neg (fun q => absurd ((own_lt p0 192 192 (by decide)).mp q) (by omega))).trans ((if_pos ((own_gt p0 214 214 (by decide)).mpr (by omega))).trans ((if_neg (fun q => absurd ((own_lt p0 216 216 (by decide)).mp q) (by omega))).trans ((if_pos ((own_gt p0 246 246 (by decide)).mpr (by omega))).trans ((if_neg (fun q => absurd ((own_lt p0 248 248 (by decide)).mp q) (by omega))).trans ((if_pos ((own_gt p0 767 767 (by decide)).mpr (by omega))).trans ((if_neg (fun q => absurd ((own_lt p0 880 880 (by decide)).mp q) (by omega))).trans ((if_pos ((own_gt p0 893 893 (by decide)).mpr (by omega))).trans ((if_neg (fun q => absurd ((own_lt p0 895 895 (by decide)).mp q) (by omega))).trans ((if_pos ((own_gt p0 8191 8191 (by decide)).mpr (by omega))).trans ((if_neg (fun q => absurd ((own_lt p0 8204 8204 (by decide)).mp q) (by omega))).trans ((if_pos ((own_gt p0 8205 8205 (by decide)).mpr (by omega))).trans ((if_neg (fun q => absurd ((own_lt p0 8304 8304 (by decide)).mp q) (by omega))).trans ((if_pos ((own_gt p0 8591 8591 (by decide)).mpr (by omega))).trans ((if_neg (fun q => absurd ((own_lt p0 11264 11264 (by decide)).mp q) (by omega))).trans ((if_pos ((own_gt p0 12271 12271 (by decide)).mpr (by omega))).trans ((if_neg (fun q => absurd ((own_lt p0 12289 12289 (by decide)).mp q) (by omega))).trans ((if_pos ((own_gt p0 55295 55295 (by decide)).mpr (by omega))).trans ((if_neg (fun q => absurd ((own_lt p0 63744 63744 (by decide)).mp q) (by omega))).trans ((if_pos ((own_gt p0 64975 64975 (by decide)).mpr (by omega))).trans ((if_pos ((own_lt p0 65008 65008 (by decide)).mpr (by omega))).trans ((if_pos ((own_lt p0 65536 65536 (by decide)).mpr (by omega))).trans rfl))))))))))))))))))))))) : F1 p0 = false).trans (((if_neg (fun q => absurd ((own_lt p0 0 0 (by decide)).mp q) (by omega))).trans ((if_neg (fun q => absurd ((own_gt p0 983039 983039 (by decide)).mp q) (by omega))).trans ((if_pos ((own_gt p0 57 57 (by decide)).mpr (by omega))).trans ((if_neg (fun q => absurd ((own_lt p0 59 59 (by decide)).mp q) (by omega))).trans ((if_pos ((own_gt p0 64 64 (by decide)).mpr (by omega))).trans ((if_neg (fun q => absurd ((own_lt p0 91 91 (by decide)).mp q) (by omega))).trans ((if_pos ((own_gt p0 94 94 (by decide)).mpr (by omega))).trans ((if_neg (fun q => absurd ((own_eqi p0 96 96 (by decide)).mp q) (by omega))).trans ((if_neg (fun q => absurd ((own_lt p0 123 123 (by decide)).mp q) (by omega))).trans ((if_pos ((own_gt p0 191 191 (by decide)).mpr (by omega))).trans ((if_neg (fun q => absurd ((own_eqi p0 215 215 (by decide)).mp q) (by omega))).trans ((if_neg (fun q => absurd ((own_eqi p0 247 247 (by decide)).mp q) (by omega))).trans ((if_neg (fun q => absurd ((own_lt p0 768 768 (by decide)).mp q) (by omega))).trans ((if_pos ((own_gt p0 879 879 (by decide)).mpr (by omega))).trans ((if_neg (fun q => absurd ((own_eqi p0 894 894 (by decide)).mp q) (by omega))).trans ((if_neg (fun q => absurd ((own_lt p0 8192 8192 (by decide)).mp q) (by omega))).trans ((if_pos ((own_gt p0 8203 8203 (by decide)).mpr (by omega))).trans ((if_neg (fun q => absurd ((own_lt p0 8206 8206 (by decide)).mp q) (by omega))).trans ((if_pos ((own_gt p0 8303 8303 (by decide)).mpr (by omega))).trans ((if_neg (fun q => absurd ((own_lt p0 8592 8592 (by decide)).mp q) (by omega))).trans ((if_pos ((own_gt p0 11263 11263 (by decide)).mpr (by omega))).trans ((if_neg (fun q => absurd ((own_lt p0 12272 12272 (by decide)).mp q) (by omega))).trans ((if_pos ((own_gt p0 12288 12288 (by decide)).mpr (by omega))).trans ((if_neg (fun q => absurd ((own_lt p0 55296 55296 (by decide)).mp q) (by omega))).trans ((if_pos ((own_gt p0 63743 63743 (by decide)).mpr (by omega))).trans ((if_neg (fun q => absurd ((own_lt p0 64976 64976 (by decide)).mp q) (by omega))).trans ((if_neg (fun q => absurd ((own_gt p0 65007 65007 (by decide)).mp q) (by omega))).trans rfl))))))))))))))))))))))))))) : F2 p0 = false).symm
theorem own_iv31 (p0 : Int32) (h1 : 65008 ≤ p0.toInt) (h2 : p0.toInt ≤ 65533) : F1 p0 = F2 p0 :=
  (((if_neg (fun q => absurd ((own_lt p0 128 128 (by decide)).mp q) (by omega))).trans ((if_neg (fun q => absurd ((own_lt p0 192 192 (by decide)).mp q) (by omega))).trans ((if_pos ((own_gt p0 214 214 (by decide)).mpr (by omega))).trans ((if_neg (fun q => absurd ((own_lt p0 216 216 (by decide)).mp q) (by omega))).trans ((if_pos ((own_gt p0 246 246 (by decide)).mpr (by omega))).trans ((if_neg (fun q => absurd ((own_lt p0 248 248 (by decide)).mp q) (by omega))).trans ((if_pos ((own_gt p0 767 767 (by decide)).mpr (by omega))).trans ((if_neg (fun q => absurd ((own_lt p0 880 880 (by decide)).mp q) (by omega))).trans ((if_pos ((own_gt p0 893 893 (by decide)).mpr (by omega))).trans ((if_neg (fun q => absurd ((own_lt p0 895 895 (by decide)).mp q) (by omega))).trans ((if_pos ((own_gt p0 8191 8191 (by decide)).mpr (by omega))).trans ((if_neg (fun q => absurd ((own_lt p0 8204 8204 (by decide)).mp q) (by omega))).trans ((if_pos ((own_gt p0 8205 8205 (by decide)).mpr (by omega))).trans ((if_neg (fun q => absurd ((own_lt p0 8304 8304 (by decide)).mp q) (by omega))).trans ((if_pos ((own_gt p0 8591 8591 (by decide)).mpr (by omega))).trans ((if_neg (fun q => absurd ((own_lt p0 11264 11264 (by decide)).mp q) (by omega))).trans ((if_pos ((own_gt p0 12271 12271 (by decide)).mpr (by omega))).trans ((if_neg (fun q => absurd ((own_lt p0 12289 12289 (by decide)).mp q) (by omega))).trans ((if_pos ((own_gt p0 55295 55295 (by decide)).mpr (by omega))).trans ((if_neg (fun q => absurd ((own_lt p0 63744 63744 (by decide)).mp q) (by omega))).trans ((if_pos ((own_gt p0 64975 64975 (by decide)).mpr (by omega))).trans ((if_neg (fun q => absurd ((own_lt p0 65008 65008 (by decide)).mp q) (by omega))).trans ((if_neg (fun q => absurd ((own_gt p0 65533 65533 (by decide)).mp q) (by omega))).trans rfl))))))))))))))))))))))) : F1 p0 = true).trans (((if_neg (fun q => absurd ((own_lt p0 0 0 (by decide)).mp q) (by omega))).trans ((if_neg (fun q => absurd ((own_gt p0 983039 983039 (by decide)).mp q) (by omega))).trans ((if_pos ((own_gt p0 57 57 (by decide)).mpr (by omega))).trans ((if_neg (fun q => absurd ((own_lt p0 59 59 (by decide)).mp q) (by omega))).trans ((if_pos ((own_gt p0 64 64 (by decide)).mpr (by omega))).trans ((if_neg (fun q => absurd ((own_lt p0 91 91 (by decide)).mp q) (by omega))).trans ((if_pos ((own_gt p0 94 94 (by decide)).mpr (by omega))).trans ((if_neg (fun q => absurd ((own_eqi p0 96 96 (by decide)).mp q) (by omega))).trans ((if_neg (fun q => absurd ((own_lt p0 123 123 (by decide)).mp q) (by omega))).trans ((if_pos ((own_gt p0 191 191 (by decide)).mpr (by omega))).trans ((if_neg (fun q => absurd ((own_eqi p0 215 215 (by decide)).mp q) (by omega))).trans ((if_neg (fun q => absurd ((own_eqi p0 247 247 (by decide)).mp q) (by omega))).trans ((if_neg (fun q => absurd ((own_lt p0 768 768 (by decide)).mp q) (by omega))).trans ((if_pos ((own_gt p0 879 879 (by decide)).mpr (by omega))).trans ((if_neg (fun q => absurd ((own_eqi p0 894 894 (by decide)).mp q) (by omega))).trans ((if_neg (fun q => absurd ((own_lt p0 8192 8192 (by decide)).mp q) (by omega))).trans ((if_pos ((own_gt p0 8203 8203 (by decide)).mpr (by omega))).trans ((if_neg (fun q => absurd ((own_lt p0 8206 8206 (by decide)).mp q) (by omega))).trans ((if_pos ((own_gt p0 8303 8303 (by decide)).mpr (by omega))).trans ((if_neg (fun q => absurd ((own_lt p0 8592 8592 (by decide)).mp q) (by omega))).trans ((if_pos ((own_gt p0 11263 11263 (by decide)).mpr (by omega))).trans ((if_neg (fun q => absurd ((own_lt p0 12272 12272 (by decide)).mp q) (by omega))).trans ((if_pos ((own_gt p0 12288 12288 (by decide)).mpr (by omega))).trans ((if_neg (fun q => absurd ((own_lt p0 55296 55296 (by decide)).mp q) (by omega))).trans ((if_pos ((own_gt p0 63743 63743 (by decide)).mpr (by omega))).trans ((if_neg (fun q => absurd ((own_lt p0 64976 64976 (by decide)).mp q) (by omega))).trans ((if_pos ((own_gt p0 65007 65007 (by decide)).mpr (by omega))).trans ((if_neg (fun q => absurd ((own_eqi p0 65534 65534 (by decide)).mp q) (by omega))).trans ((if_neg (fun q => absurd ((own_eqi p0 65535 65535 (by decide)).mp q) (by omega))).trans rfl))))))))))))))))))))))))))))) : F2 p0 = true).symm
theorem own_iv32 (p0 : Int32) (h1 : 65534 ≤ p0.toInt) (h2 : p0.toInt ≤ 65534) : F1 p0 = F2 p0 :=
  (((if_neg (fun q => absurd ((own_lt p0 128 128 (by decide)).mp q) (by omega))).trans ((if_neg (fun q => absurd ((own_lt p0 192 192 (by decide)).mp q) (by omega))).trans ((if_pos ((own_gt p0 214 214 (by decide)).mpr (by omega))).trans ((if_neg (fun q => absurd ((own_lt p0 216 216 (by decide)).mp q) (by omega))).trans ((if_pos ((own_gt p0 246 246 (by decide)).mpr (by omega))).trans ((if_neg (fun q => absurd ((own_lt p0 248 248 (by decide)).mp q) (by omega))).trans ((if_pos ((own_gt p0 767 767 (by decide)).mpr (by omega))).trans ((if_neg (fun q => absurd ((own_lt p0 880 880 (by decide)).mp q) (by omega))).trans ((if_pos ((own_gt p0 893 893 (by decide)).mpr (by omega))).trans ((if_neg (fun q => absurd ((own_lt p0 895 895 (by decide)).mp q) (by omega))).trans ((if_pos ((own_gt p0 8191 8191 (by decide)).mpr (by omega))).trans ((if_neg (fun q => absurd ((own_lt p0 8204 8204 (by decide)).mp q) (by omega))).trans ((if_pos ((own_gt p0 8205 8205 (by decide)).mpr (by omega))).trans ((if_neg (fun q => absurd ((own_lt p0 8304 8304 (by decide)).mp q) (by omega))).trans ((if_pos ((own_gt p0 8591 8591 (by decide)).mpr (by omega))).trans ((if_neg (fun q => absurd ((own_lt p0 11264 11264 (by decide)).mp q) (by omega))).trans ((if_pos ((own_gt p0 12271 12271 (by decide)).mpr (by omega))).trans ((if_neg (fun q => absurd ((own_lt p0 12289 12289 (by decide)).mp q) (by omega))).trans ((if_pos ((own_gt p0 55295 55295 (by decide)).mpr (by omega))).trans ((if_neg (fun q => absurd ((own_lt p0 63744 63744 (by decide)).mp q) (by omega))).trans ((if_pos ((own_gt p0 64975 64975 (by decide)).mpr (by omega))).trans ((if_neg (fun q => absurd ((own_lt p0 65008 65008 (by decide)).mp q) (by omega))).trans ((if_pos ((own_gt p0 65533 65533 (by decide)).mpr (by omega))).trans ((if_pos ((own_lt p0 65536 65536 (by decide)).mpr (by omega))).trans rfl)))))))))))))))))))))))) : F1 p0 = false).trans (((if_neg (fun q => absurd ((own_lt p0 0 0 (by decide)).mp q) (by omega))).trans ((if_neg (fun q => absurd ((own_gt p0 983039 983039 (by decide)).mp q) (by omega))).trans ((if_pos ((own_gt p0 57 57 (by decide)).mpr (by omega))).trans ((if_neg (fun q => absurd ((own_lt p0 59 59 (by decide)).mp q) (by omega))).trans ((if_pos ((own_gt p0 64 64 (by decide)).mpr (by omega))).trans ((if_neg (fun q => absurd ((own_lt p0 91 91 (by decide)).mp q) (by omega))).trans ((if_pos ((own_gt p0 94 94 (by decide)).mpr (by omega))).trans ((if_neg (fun q => absurd ((own_eqi p0 96 96 (by decide)).mp q) (by omega))).trans ((if_neg (fun q => absurd ((own_lt p0 123 123 (by decide)).mp q) (by omega))).trans ((if_pos ((own_gt p0 191 191 (by decide)).mpr (by omega))).trans ((if_neg (fun q => absurd ((own_eqi p0 215 215 (by decide)).mp q) (by omega))).trans ((if_neg (fun q => absurd ((own_eqi p0 247 247 (by decide)).mp q) (by omega))).trans ((if_neg (fun q => absurd ((own_lt p0 768 768 (by decide)).mp q) (by omega))).trans ((if_pos ((own_gt p0 879 879 (by decide)).mpr (by omega))).trans ((if_neg (fun q => absurd ((own_eqi p0 894 894 (by decide)).mp q) (by omega))).trans ((if_neg (fun q => absurd ((own_lt p0 8192 8192 (by decide)).mp q) (by omega))).trans ((if_pos ((own_gt p0 8203 8203 (by decide)).mpr (by omega))).trans ((if_neg (fun q => absurd ((own_lt p0 8206 8206 (by decide)).mp q) (by omega))).trans ((if_pos ((own_gt p0 8303 8303 (by decide)).mpr (by omega))).trans ((if_neg (fun q => absurd ((own_lt p0 8592 8592 (by decide)).mp q) (by omega))).trans ((if_pos ((own_gt p0 11263 11263 (by decide)).mpr (by omega))).trans ((if_neg (fun q => absurd ((own_lt p0 12272 12272 (by decide)).mp q) (by omega))).trans ((if_pos ((own_gt p0 12288 12288 (by decide)).mpr (by omega))).trans ((if_neg (fun q => absurd ((own_lt p0 55296 55296 (by decide)).mp q) (by omega))).trans ((if_pos ((own_gt p0 63743 63743 (by decide)).mpr (by omega))).trans ((if_neg (fun q => absurd ((own_lt p0 64976 64976 (by decide)).mp q) (by omega))).trans ((if_pos ((own_gt p0 65007 65007 (by decide)).mpr (by omega))).trans ((if_pos ((own_eqi p0 65534 65534 (by decide)).mpr (by omega))).trans rfl)))))))))))))))))))))))))))) : F2 p0 = false).symm
theorem own_iv33 (p0 : Int32) (h1 : 65535 ≤ p0.toInt) (h2 : p0.toInt ≤ 65535) : F1 p0 = F2 p0 :=
  (((if_neg (fun q => absurd ((own_lt p0 128 128 (by decide)).mp q) (by omega))).trans ((if_neg (fun q => absurd ((own_lt p0 192 192 (by decide)).mp q) (by omega))).trans ((if_pos ((own_gt p0 214 214 (by decide)).mpr (by omega))).trans ((if_neg (fun q => absurd ((own_lt p0 216 216 (by decide)).mp q) (by omega))).trans ((if_pos ((own_gt p0 246 246 (by decide)).mpr (by omega))).trans ((if_neg (fun q => absurd ((own_lt p0 248 248 (by decide)).mp q) (by omega))).trans ((if_pos ((own_gt p0 767 767 (by decide)).mpr (by omega))).trans ((if_neg (fun q => absurd ((own_lt p0 880 880 (by decide)).mp q) (by omega))).trans ((if_pos ((own_gt p0 893 893 (by decide)).mpr (by omega))).trans ((if_neg (fun q => absurd ((own_lt p0 895 895 (by decide)).mp q) (by omega))).trans ((if_pos ((own_gt p0 8191 8191 (by decide)).mpr (by omega))).trans ((if_neg (fun q => absurd ((own_lt p0 8204 8204 (by decide)).mp q) (by omega))).trans ((if_pos ((own_gt p0 8205 8205 (by decide)).mpr (by omega))).trans ((if_neg (fun q => absurd ((own_lt p0 8304 8304 (by decide)).mp q) (by omega))).trans ((if_pos ((own_gt p0 8591 8591 (by decide)).mpr (by omega))).trans ((if_neg (fun q => absurd ((own_lt p0 11264 11264 (by decide)).mp q) (by omega))).trans ((if_pos ((own_gt p0 12271 12271 (by decide)).mpr (by omega))).trans ((if_neg (fun q => absurd ((own_lt p0 12289 12289 (by decide)).mp q) (by omega))).trans ((if_pos ((own_gt p0 55295 55295 (by decide)).mpr (by omega))).trans ((if_neg (fun q => absurd ((own_lt p0 63744 63744 (by decide)).mp q) (by omega))).trans ((if_pos ((own_gt p0 64975 64975 (by decide)).mpr (by omega))).trans ((if_neg (fun q => absurd ((own_lt p0 65008 65008 (by decide)).mp q) (by omega))).trans ((if_pos ((own_gt p0 65533 65533 (by decide)).mpr (by omega))).trans ((if_pos ((own_lt p0 65536 65536 (by decide)).mpr (by omega))).trans rfl)))))))))))))))))))))))) : F1 p0 = false).trans (((if_neg (fun q => absurd ((own_lt p0 0 0 (by decide)).mp q) (by omega))).trans ((if_neg (fun q => absurd ((own_gt p0 983039 983039 (by decide)).mp q) (by omega))).trans ((if_pos ((own_gt p0 57 57 (by decide)).mpr (by omega))).trans ((if_neg (fun q => absurd ((own_lt p0 59 59 (by decide)).mp q) (by omega))).trans ((if_pos ((own_gt p0 64 64 (by decide)).mpr (by omega))).trans ((if_neg (fun q => absurd ((own_lt p0 91 91 (by decide)).mp q) (by omega))).trans ((if_pos ((own_gt p0 94 94 (by decide)).mpr (by omega))).trans ((if_neg (fun q => absurd ((own_eqi p0 96 96 (by decide)).mp q) (by omega))).trans ((if_neg (fun q => absurd ((own_lt p0 123 123 (by decide)).mp q) (by omega))).trans ((if_pos ((own_gt p0 191 191 (by decide)).mpr (by omega))).trans ((if_neg (fun q => absurd ((own_eqi p0 215 215 (by decide)).mp q) (by omega))).trans ((if_neg (fun q => absurd ((own_eqi p0 247 247 (by decide)).mp q) (by omega))).trans ((if_neg (fun q => absurd ((own_lt p0 768 768 (by decide)).mp q) (by omega))).trans ((if_pos ((own_gt p0 879 879 (by decide)).mpr (by omega))).trans ((if_neg (fun q => absurd ((own_eqi p0 894 894 (by decide)).mp q) (by omega))).trans ((if_neg (fun q => absurd ((own_lt p0 8192 8192 (by decide)).mp q) (by omega))).trans ((if_pos ((own_gt p0 8203 8203 (by decide)).mpr (by omega))).trans ((if_neg (fun q => absurd ((own_lt p0 8206 8206 (by decide)).mp q) (by omega))).trans ((if_pos ((own_gt p0 8303 8303 (by decide)).mpr (by omega))).trans ((if_neg (fun q => absurd ((own_lt p0 8592 8592 (by decide)).mp q) (by omega))).trans ((if_pos ((own_gt p0 11263 11263 (by decide)).mpr (by omega))).trans ((if_neg (fun q => absurd ((own_lt p0 12272 12272 (by decide)).mp q) (by omega))).trans ((if_pos ((own_gt p0 12288 12288 (by decide)).mpr (by omega))).trans ((if_neg (fun q => absurd ((own_lt p0 55296 55296 (by decide)).mp q) (by omega))).trans ((if_pos ((own_gt p0 63743 63743 (by decide)).mpr (by omega))).trans ((if_neg (fun q => absurd ((own_lt p0 64976 64976 (by decide)).mp q) (by omega))).trans ((if_pos ((own_gt p0 65007 65007 (by decide)).mpr (by omega))).trans ((if_neg (fun q => absurd ((own_eqi p0 65534 65534 (by decide)).mp q) (by omega))).trans ((if_pos ((own_eqi p0 65535 65535 (by decide)).mpr (by omega))).trans rfl))))))))))))))))))))))))))))) : F2 p0 = false).symm
theorem own_iv34 (p0 : Int32) (h1 : 65536 ≤ p0.toInt) (h2 : p0.toInt ≤ 983039) : F1 p0 = F2 p0 :=
  (((if_neg (fun q => absurd ((own_lt p0 128 128 (by decide)).mp q) (by omega))).trans ((if_neg (fun q => absurd ((own_lt p0 192 192 (by decide)).mp q) (by omega))).trans ((if_pos ((own_gt p0 214 214 (by decide)).mpr (by omega))).trans ((if_neg (fun q => absurd ((own_lt p0 216 216 (by decide)).mp q) (by omega))).trans ((if_pos ((own_gt p0 246 246 (by decide)).mpr (by omega))).trans ((if_neg (fun q => absurd ((own_lt p0 248 248 (by decide)).mp q) (by omega))).trans ((if_pos ((own_gt p0 767 767 (by decide)).mpr (by omega))).trans ((if_neg (fun q => absurd ((own_lt p0 880 880 (by decide)).mp q) (by omega))).trans ((if_pos ((own_gt p0 893 893 (by decide)).mpr (by omega))).trans ((if_neg (fun q => absurd ((own_lt p0 895 895 (by decide)).mp q) (by omega))).trans ((if_pos ((own_gt p0 8191 8191 (by decide)).mpr (by omega))).trans ((if_neg (fun q => absurd ((own_lt p0 8204 8204 (by decide)).mp q) (by omega))).trans ((if_pos ((own_gt p0 8205 8205 (by decide)).mpr (by omega))).trans ((if_neg (fun q => absurd ((own_lt p0 8304 8304 (by decide)).mp q) (by omega))).trans ((if_pos ((own_gt p0 8591 8591 (by decide)).mpr (by omega))).trans ((if_neg (fun q => absurd ((own_lt p0 11264 11264 (by decide)).mp q) (by omega))).trans ((if_pos ((own_gt p0 12271 12271 (by decide)).mpr (by omega))).trans ((if_neg (fun q => absurd ((own_lt p0 12289 12289 (by decide)).mp q) (by omega))).trans ((if_pos ((own_gt p0 55295 55295 (by decide)).mpr (by omega))).trans ((if_neg (fun q => absurd ((own_lt p0 63744 63744 (by decide)).mp q) (by omega))).trans ((if_pos ((own_gt p0 64975 64975 (by decide)).mpr (by omega))).trans ((if_neg (fun q => absurd ((own_lt p0 65008 65008 (by decide)).mp q) (by omega))).trans ((if_pos ((own_gt p0 65533 65533 (by decide)).mpr (by omega))).trans ((if_neg (fun q => absurd ((own_lt p0 65536 65536 (by decide)).mp q) (by omega))).trans ((if_neg (fun q => absurd ((own_gt p0 983039 983039 (by decide)).mp q) (by omega))).trans rfl))))))))))))))))))))))))) : F1 p0 = true).trans (((if_neg (fun q => absurd ((own_lt p0 0 0 (by decide)).mp q) (by omega))).trans ((if_neg (fun q => absurd ((own_gt p0 983039 983039 (by decide)).mp q) (by omega))).trans ((if_pos ((own_gt p0 57 57 (by decide)).mpr (by omega))).trans ((if_neg (fun q => absurd ((own_lt p0 59 59 (by decide)).mp q) (by omega))).trans ((if_pos ((own_gt p0 64 64 (by decide)).mpr (by omega))).trans ((if_neg (fun q => absurd ((own_lt p0 91 91 (by decide)).mp q) (by omega))).trans ((if_pos ((own_gt p0 94 94 (by decide)).mpr (by omega))).trans ((if_neg (fun q => absurd ((own_eqi p0 96 96 (by decide)).mp q) (by omega))).trans ((if_neg (fun q => absurd ((own_lt p0 123 123 (by decide)).mp q) (by omega))).trans ((if_pos ((own_gt p0 191 191 (by decide)).mpr (by omega))).trans ((if_neg (fun q => absurd ((own_eqi p0 215 215 (by decide)).mp q) (by omega))).trans ((if_neg (fun q => absurd ((own_eqi p0 247 247 (by decide)).mp q) (by omega))).trans ((if_neg (fun q => absurd ((own_lt p0 768 768 (by decide)).mp q) (by omega))).trans ((if_pos ((own_gt p0 879 879 (by decide)).mpr (by omega))).trans ((if_neg (fun q => absurd ((own_eqi p0 894 894 (by decide)).mp q) (by omega))).trans ((if_neg (fun q => absurd ((own_lt p0 8192 8192 (by decide)).mp q) (by omega))).trans ((if_pos ((own_gt p0 8203 8203 (by decide)).mpr (by omega))).trans ((if_neg (fun q => absurd ((own_lt p0 8206 8206 (by decide)).mp q) (by omega))).trans ((if_pos ((own_gt p0 8303 8303 (by decide)).mpr (by omega))).trans ((if_neg (fun q => absurd ((own_lt p0 8592 8592 (by decide)).mp q) (by omega))).trans ((if_pos ((own_gt p0 11263 11263 (by decide)).mpr (by omega))).trans ((if_neg (fun q => absurd ((own_lt p0 12272 12272 (by decide)).mp q) (by omega))).trans ((if_pos ((own_gt p0 12288 12288 (by decide)).mpr (by omega))).trans ((if_neg (fun q => absurd ((own_lt p0 55296 55296 (by decide)).mp q) (by omega))).trans ((if_pos ((own_gt p0 63743 63743 (by decide)).mpr (by omega))).trans ((if_neg (fun q => absurd ((own_lt p0 64976 64976 (by decide)).mp q) (by omega))).trans ((if_pos ((own_gt p0 65007 65007 (by decide)).mpr (by omega))).trans ((if_neg (fun q => absurd ((own_eqi p0 65534 65534 (by decide)).mp q) (by omega))).trans ((if_neg (fun q => absurd ((own_eqi p0 65535 65535 (by decide)).mp q) (by omega))).trans rfl))))))))))))))))))))))))))))) : F2 p0 = true).symm
theorem own_iv35 (p0 : Int32) (h1 : 983040 ≤ p0.toInt) : F1 p0 = F2 p0 :=
  (((if_neg (fun q => absurd ((own_lt p0 128 128 (by decide)).mp q) (by omega))).trans ((if_neg (fun q => absurd ((own_lt p0 192 192 (by decide)).mp q) (by omega))).trans ((if_pos ((own_gt p0 214 214 (by decide)).mpr (by omega))).trans ((if_neg (fun q => absurd ((own_lt p0 216 216 (by decide)).mp q) (by omega))).trans ((if_pos ((own_gt p0 246 246 (by decide)).mpr (by omega))).trans ((if_neg (fun q => absurd ((own_lt p0 248 248 (by decide)).mp q) (by omega))).trans ((if_pos ((own_gt p0 767 767 (by decide)).mpr (by omega))).trans ((if_neg (fun q => absurd ((own_lt p0 880 880 (by decide)).mp q) (by omega))).trans ((if_pos ((own_gt p0 893 893 (by decide)).mpr (by omega))).trans ((if_neg (fun q => absurd ((own_lt p0 895 895 (by decide)).mp q) (by omega))).trans ((if_pos ((own_gt p0 8191 8191 (by decide)).mpr (by omega))).trans ((if_neg (fun q => absurd ((own_lt p0 8204 8204 (by decide)).mp q) (by omega))).trans ((if_pos ((own_gt p0 8205 8205 (by decide)).mpr (by omega))).trans ((if_neg (fun q => absurd ((own_lt p0 8304 8304 (by decide)).mp q) (by omega))).trans ((if_pos ((own_gt p0 8591 8591 (by decide)).mpr (by omega))).trans ((if_neg (fun q => absurd ((own_lt p0 11264 11264 (by decide)).mp q) (by omega))).trans ((if_pos ((own_gt p0 12271 12271 (by decide)).mpr (by omega))).trans ((if_neg (fun q => absurd ((own_lt p0 12289 12289 (by decide)).mp q) (by omega))).trans ((if_pos ((own_gt p0 55295 55295 (by decide)).mpr (by omega))).trans ((if_neg (fun q => absurd ((own_lt p0 63744 63744 (by decide)).mp q) (by omega))).trans ((if_pos ((own_gt p0 64975 64975 (by decide)).mpr (by omega))).trans ((if_neg (fun q => absurd ((own_lt p0 65008 65008 (by decide)).mp q) (by omega))).trans ((if_pos ((own_gt p0 65533 65533 (by decide)).mpr (by omega))).trans ((if_neg (fun q => absurd ((own_lt p0 65536 65536 (by decide)).mp q) (by omega))).trans ((if_pos ((own_gt p0 983039 983039 (by decide)).mpr (by omega))).trans rfl))))))))))))))))))))))))) : F1 p0 = false).trans (((if_neg (fun q => absurd ((own_lt p0 0 0 (by decide)).mp q) (by omega))).trans ((if_pos ((own_gt p0 983039 983039 (by decide)).mpr (by omega))).trans rfl)) : F2 p0 = false).symm
theorem own_eq (p0 : Int32) : F1 p0 = F2 p0 := by
  by_cases c0 : p0.toInt ≤ (-1)
  · exact own_iv0 p0 c0
  by_cases c1 : p0.toInt ≤ 57
  · exact own_iv1 p0 (by omega) c1
  by_cases c2 : p0.toInt ≤ 58
  · exact own_iv2 p0 (by omega) c2
  by_cases c3 : p0.toInt ≤ 64
  · exact own_iv3 p0 (by omega) c3
  by_cases c4 : p0.toInt ≤ 90
  · exact own_iv4 p0 (by omega) c4
  by_cases c5 : p0.toInt ≤ 94
  · exact own_iv5 p0 (by omega) c5
  by_cases c6 : p0.toInt ≤ 95
  · exact own_iv6 p0 (by omega) c6
  by_cases c7 : p0.toInt ≤ 96
  · exact own_iv7 p0 (by omega) c7
  by_cases c8 : p0.toInt ≤ 122
  · exact own_iv8 p0 (by omega) c8
  by_cases c9 : p0.toInt ≤ 127
  · exact own_iv9 p0 (by omega) c9
  by_cases c10 : p0.toInt ≤ 191
  · exact own_iv10 p0 (by omega) c10
  by_cases c11 : p0.toInt ≤ 214
  · exact own_iv11 p0 (by omega) c11
  by_cases c12 : p0.toInt ≤ 215
  · exact own_iv12 p0 (by omega) c12
  by_cases c13 : p0.toInt ≤ 246
  · exact own_iv13 p0 (by omega) c13
  by_cases c14 : p0.toInt ≤ 247
  · exact own_iv14 p0 (by omega) c14
  by_cases c15 : p0.toInt ≤ 767
  · exact own_iv15 p0 (by omega) c15
  by_cases c16 : p0.toInt ≤ 879
  · exact own_iv16 p0 (by omega) c16
  by_cases c17 : p0.toInt ≤ 893
  · exact own_iv17 p0 (by omega) c17
  by_cases c18 : p0.toInt ≤ 894
  · exact own_iv18 p0 (by omega) c18
  by_cases c19 : p0.toInt ≤ 8191
  · exact own_iv19 p0 (by omega) c19
  by_cases c20 : p0.toInt ≤ 8203
  · exact own_iv20 p0 (by omega) c20
  by_cases c21 : p0.toInt ≤ 8205
  · exact own_iv21 p0 (by omega) c21
  by_cases c22 : p0.toInt ≤ 8303
  · exact own_iv22 p0 (by omega) c22
  by_cases c23 : p0.toInt ≤ 8591
  · exact own_iv23 p0 (by omega) c23
  by_cases c24 : p0.toInt ≤ 11263
  · exact own_iv24 p0 (by omega) c24
  by_cases c25 : p0.toInt ≤ 12271
  · exact own_iv25 p0 (by omega) c25
  by_cases c26 : p0.toInt ≤ 12288
  · exact own_iv26 p0 (by omega) c26
  by_cases c27 : p0.toInt ≤ 55295
  · exact own_iv27 p0 (by omega) c27
  by_cases c28 : p0.toInt ≤ 63743
  · exact own_iv28 p0 (by omega) c28
  by_cases c29 : p0.toInt ≤ 64975
  · exact own_iv29 p0 (by omega) c29
  by_cases c30 : p0.toInt ≤ 65007
  · exact own_iv30 p0 (by omega) c30
  by_cases c31 : p0.toInt ≤ 65533
  · exact own_iv31 p0 (by omega) c31
  by_cases c32 : p0.toInt ≤ 65534
  · exact own_iv32 p0 (by omega) c32
  by_cases c33 : p0.toInt ≤ 65535
  · exact own_iv33 p0 (by omega) c33
  by_cases c34 : p0.toInt ≤ 983039
  · exact own_iv34 p0 (by omega) c34
  exact own_iv35 p0 (by omega)
theorem own_ixin (kk : Int32) : ¬ (v_ix kk) < 0 ∧ (v_ix kk) < (32 : Int32) := by
  have a := c_mask kk 2147483647 31 (by decide) (by decide)
  have b := (c_irem (kk &&& 2147483647) 32 32 (by decide)).1 (by omega)
  have l0 : (0 : Int32).toInt = 0 := by decide
  have l1 : (32 : Int32).toInt = 32 := by decide
  have e : v_ix kk = (kk &&& 2147483647) % 32 := rfl
  rw [Int32.lt_iff_toInt_lt, Int32.lt_iff_toInt_lt, e, l0, l1]
  omega
def Q0 (Z : State) (cc : Int32) (kk : Int32) (dd : Int32) (h0 : Heap) (n0 : Nat) (v : Option Value) (h : Heap) (L : List Loc) : Prop := v = some (.int (1 : Int32)) ∧ Fr n0 L
set_option maxRecDepth 65536 in
set_option maxHeartbeats 40000000 in
theorem rm0 (l : Launch) (Z : State) (a0 : Array Value) (hw : ∀ d ∈ tables_1, d.before a0 Z = true) (ws : List Jvm.Cond) (cc : Int32) (kk : Int32) (dd : Int32) (h0 : Heap) (n0 : Nat) (Z0 : n0 ≤ h0.size) :
    MetFree l x (head1 (Jvm.Cond.code x code maxLocals ret :: ws) room_1) (fun a U => a = #[(.int cc), (.int kk), (.int dd)] ∧ Z.Warmed39 U.vm ∧ U.heap = h0) (fun _ _ _ _ _ => True) (fun _ U o U' => ∃ v L, o = .returned v ∧ Q0 Z cc kk dd h0 n0 v U'.heap L ∧ FrameEnd U o U' L room_1.cells room_1.slots) := by
  refine MetFree.of_bodySF (plainFor_of_name pn_2) hisR ?_
  intro p e s m args below meth c s₁ Bd hml0 hP hK
  obtain ⟨rfl, hZ, hh⟩ := hP
  have hx := Bd.exec
  have hby := Bd.bytes
  have hml : c.maxLocals = 7 := hml0
  have hown : s.vm.findClass "com/example/tamsui/tamsui/xml/XmlCharsIsNameStartPinLaw" = some m.cls := findClass_of_methodNamed Bd.named
  have hnm := (name_of_methodNamed Bd.named Bd.method).1
  have X0 : Stand p l e room_1 s m #[(.int cc), (.int kk), (.int dd)] below meth c s₁ [] 0 0 := Stand.of_body Bd
  have e0 : s₁.heap = h0 := by rw [← hh, Bd.state]; rfl
  have N0 := Fr.nil n0
  have pre0 : ∀ t, Steps p.tables e below (s₁.setTop (mkF m 0 #[.val (.int cc), .val (.int kk), .val (.int dd), .unset, .unset, .unset, .unset] [])) t → Steps p.tables e below (s₁.setTop (entryFrame m #[(.int cc), (.int kk), (.int dd)] maxLocals)) t := fun t k => castTop (ef_0 m cc kk dd) k
  obtain ⟨T1, h1, k1, X1, e1, E1, A1, st1⟩ := newP X0 hx hZ (hw _ (List.mem_of_getElem? (i := 0) rfl)) e0 (g := (mkF m 2 #[.val (.int cc), .val (.int kk), .val (.int dd), .unset, .unset, .unset, .unset] [(.int (32 : Int32))])) rfl (hb hby at_2) rfl (by decide) (cap := 32) (by decide) (by decide) (by decide) (by decide)
  obtain ⟨b1, g1⟩ : ∃ z, z = h0.size := ⟨_, rfl⟩
  rw [← g1] at A1 st1
  have ge_b1 : n0 ≤ b1 := Nat.le_trans Z0 (Nat.le_of_eq g1.symm)
  have Z1 : n0 ≤ h1.size := Nat.le_trans Z0 E1.1
  have V1 := AI.new A1 (by decide)
  obtain ⟨T2, h2, X2, e2, W2, V2, st2⟩ := wrI X1 hx hZ e1 V1 (j := (0 : Int32)) ⟨by decide, by decide⟩  (g := (mkF m 7 #[.val (.int cc), .val (.int kk), .val (.int dd), .unset, .unset, .unset, .unset] [(.int (0 : Int32)), (.int (0 : Int32)), (.ref b1), (.ref b1)])) rfl rfl (hb hby at_7)
  have Z2 : n0 ≤ h2.size := Nat.le_trans Z1 (Keep.of_wr W2).1
  have N2 := Fr.snoc X2 N0 ge_b1
  obtain ⟨T3, h3, X3, e3, W3, V3, st3⟩ := wrI X2 hx hZ e2 V2 (j := (1 : Int32)) ⟨by decide, by decide⟩  (g := (mkF m 12 #[.val (.int cc), .val (.int kk), .val (.int dd), .unset, .unset, .unset, .unset] [(.int (58 : Int32)), (.int (1 : Int32)), (.ref b1), (.ref b1)])) rfl rfl (hb hby at_12)
  have Z3 : n0 ≤ h3.size := Nat.le_trans Z2 (Keep.of_wr W3).1
  have N3 := Fr.snoc X3 N2 ge_b1
  obtain ⟨T4, h4, X4, e4, W4, V4, st4⟩ := wrI X3 hx hZ e3 V3 (j := (2 : Int32)) ⟨by decide, by decide⟩  (g := (mkF m 17 #[.val (.int cc), .val (.int kk), .val (.int dd), .unset, .unset, .unset, .unset] [(.int (65 : Int32)), (.int (2 : Int32)), (.ref b1), (.ref b1)])) rfl rfl (hb hby at_17)
  have Z4 : n0 ≤ h4.size := Nat.le_trans Z3 (Keep.of_wr W4).1
  have N4 := Fr.snoc X4 N3 ge_b1
  obtain ⟨T5, h5, X5, e5, W5, V5, st5⟩ := wrI X4 hx hZ e4 V4 (j := (3 : Int32)) ⟨by decide, by decide⟩  (g := (mkF m 22 #[.val (.int cc), .val (.int kk), .val (.int dd), .unset, .unset, .unset, .unset] [(.int (90 : Int32)), (.int (3 : Int32)), (.ref b1), (.ref b1)])) rfl rfl (hb hby at_22)
  have Z5 : n0 ≤ h5.size := Nat.le_trans Z4 (Keep.of_wr W5).1
  have N5 := Fr.snoc X5 N4 ge_b1
  obtain ⟨T6, h6, X6, e6, W6, V6, st6⟩ := wrI X5 hx hZ e5 V5 (j := (4 : Int32)) ⟨by decide, by decide⟩  (g := (mkF m 27 #[.val (.int cc), .val (.int kk), .val (.int dd), .unset, .unset, .unset, .unset] [(.int (95 : Int32)), (.int (4 : Int32)), (.ref b1), (.ref b1)])) rfl rfl (hb hby at_27)
  have Z6 : n0 ≤ h6.size := Nat.le_trans Z5 (Keep.of_wr W6).1
  have N6 := Fr.snoc X6 N5 ge_b1
  obtain ⟨T7, h7, X7, e7, W7, V7, st7⟩ := wrI X6 hx hZ e6 V6 (j := (5 : Int32)) ⟨by decide, by decide⟩  (g := (mkF m 32 #[.val (.int cc), .val (.int kk), .val (.int dd), .unset, .unset, .unset, .unset] [(.int (97 : Int32)), (.int (5 : Int32)), (.ref b1), (.ref b1)])) rfl rfl (hb hby at_32)
  have Z7 : n0 ≤ h7.size := Nat.le_trans Z6 (Keep.of_wr W7).1
  have N7 := Fr.snoc X7 N6 ge_b1
  obtain ⟨T8, h8, X8, e8, W8, V8, st8⟩ := wrI X7 hx hZ e7 V7 (j := (6 : Int32)) ⟨by decide, by decide⟩  (g := (mkF m 38 #[.val (.int cc), .val (.int kk), .val (.int dd), .unset, .unset, .unset, .unset] [(.int (122 : Int32)), (.int (6 : Int32)), (.ref b1), (.ref b1)])) rfl rfl (hb hby at_38)
  have Z8 : n0 ≤ h8.size := Nat.le_trans Z7 (Keep.of_wr W8).1
  have N8 := Fr.snoc X8 N7 ge_b1
  obtain ⟨T9, h9, X9, e9, W9, V9, st9⟩ := wrI X8 hx hZ e8 V8 (j := (7 : Int32)) ⟨by decide, by decide⟩  (g := (mkF m 45 #[.val (.int cc), .val (.int kk), .val (.int dd), .unset, .unset, .unset, .unset] [(.int (128 : Int32)), (.int (7 : Int32)), (.ref b1), (.ref b1)])) rfl rfl (hb hby at_45)
  have Z9 : n0 ≤ h9.size := Nat.le_trans Z8 (Keep.of_wr W9).1
  have N9 := Fr.snoc X9 N8 ge_b1
  obtain ⟨T10, h10, X10, e10, W10, V10, st10⟩ := wrI X9 hx hZ e9 V9 (j := (8 : Int32)) ⟨by decide, by decide⟩  (g := (mkF m 52 #[.val (.int cc), .val (.int kk), .val (.int dd), .unset, .unset, .unset, .unset] [(.int (192 : Int32)), (.int (8 : Int32)), (.ref b1), (.ref b1)])) rfl rfl (hb hby at_52)
  have Z10 : n0 ≤ h10.size := Nat.le_trans Z9 (Keep.of_wr W10).1
  have N10 := Fr.snoc X10 N9 ge_b1
  obtain ⟨T11, h11, X11, e11, W11, V11, st11⟩ := wrI X10 hx hZ e10 V10 (j := (9 : Int32)) ⟨by decide, by decide⟩  (g := (mkF m 59 #[.val (.int cc), .val (.int kk), .val (.int dd), .unset, .unset, .unset, .unset] [(.int (214 : Int32)), (.int (9 : Int32)), (.ref b1), (.ref b1)])) rfl rfl (hb hby at_59)
  have Z11 : n0 ≤ h11.size := Nat.le_trans Z10 (Keep.of_wr W11).1
  have N11 := Fr.snoc X11 N10 ge_b1
  obtain ⟨T12, h12, X12, e12, W12, V12, st12⟩ := wrI X11 hx hZ e11 V11 (j := (10 : Int32)) ⟨by decide, by decide⟩  (g := (mkF m 66 #[.val (.int cc), .val (.int kk), .val (.int dd), .unset, .unset, .unset, .unset] [(.int (216 : Int32)), (.int (10 : Int32)), (.ref b1), (.ref b1)])) rfl rfl (hb hby at_66)
  have Z12 : n0 ≤ h12.size := Nat.le_trans Z11 (Keep.of_wr W12).1
  have N12 := Fr.snoc X12 N11 ge_b1
  obtain ⟨T13, h13, X13, e13, W13, V13, st13⟩ := wrI X12 hx hZ e12 V12 (j := (11 : Int32)) ⟨by decide, by decide⟩  (g := (mkF m 73 #[.val (.int cc), .val (.int kk), .val (.int dd), .unset, .unset, .unset, .unset] [(.int (246 : Int32)), (.int (11 : Int32)), (.ref b1), (.ref b1)])) rfl rfl (hb hby at_73)
  have Z13 : n0 ≤ h13.size := Nat.le_trans Z12 (Keep.of_wr W13).1
  have N13 := Fr.snoc X13 N12 ge_b1
  obtain ⟨T14, h14, X14, e14, W14, V14, st14⟩ := wrI X13 hx hZ e13 V13 (j := (12 : Int32)) ⟨by decide, by decide⟩  (g := (mkF m 80 #[.val (.int cc), .val (.int kk), .val (.int dd), .unset, .unset, .unset, .unset] [(.int (248 : Int32)), (.int (12 : Int32)), (.ref b1), (.ref b1)])) rfl rfl (hb hby at_80)
  have Z14 : n0 ≤ h14.size := Nat.le_trans Z13 (Keep.of_wr W14).1
  have N14 := Fr.snoc X14 N13 ge_b1
  obtain ⟨T15, h15, X15, e15, W15, V15, st15⟩ := wrI X14 hx hZ e14 V14 (j := (13 : Int32)) ⟨by decide, by decide⟩  (g := (mkF m 87 #[.val (.int cc), .val (.int kk), .val (.int dd), .unset, .unset, .unset, .unset] [(.int (767 : Int32)), (.int (13 : Int32)), (.ref b1), (.ref b1)])) rfl rfl (hb hby at_87)
  have Z15 : n0 ≤ h15.size := Nat.le_trans Z14 (Keep.of_wr W15).1
  have N15 := Fr.snoc X15 N14 ge_b1
  obtain ⟨T16, h16, X16, e16, W16, V16, st16⟩ := wrI X15 hx hZ e15 V15 (j := (14 : Int32)) ⟨by decide, by decide⟩  (g := (mkF m 94 #[.val (.int cc), .val (.int kk), .val (.int dd), .unset, .unset, .unset, .unset] [(.int (880 : Int32)), (.int (14 : Int32)), (.ref b1), (.ref b1)])) rfl rfl (hb hby at_94)
  have Z16 : n0 ≤ h16.size := Nat.le_trans Z15 (Keep.of_wr W16).1
  have N16 := Fr.snoc X16 N15 ge_b1
  obtain ⟨T17, h17, X17, e17, W17, V17, st17⟩ := wrI X16 hx hZ e16 V16 (j := (15 : Int32)) ⟨by decide, by decide⟩  (g := (mkF m 101 #[.val (.int cc), .val (.int kk), .val (.int dd), .unset, .unset, .unset, .unset] [(.int (893 : Int32)), (.int (15 : Int32)), (.ref b1), (.ref b1)])) rfl rfl (hb hby at_101)
  have Z17 : n0 ≤ h17.size := Nat.le_trans Z16 (Keep.of_wr W17).1
  have N17 := Fr.snoc X17 N16 ge_b1
  obtain ⟨T18, h18, X18, e18, W18, V18, st18⟩ := wrI X17 hx hZ e17 V17 (j := (16 : Int32)) ⟨by decide, by decide⟩  (g := (mkF m 108 #[.val (.int cc), .val (.int kk), .val (.int dd), .unset, .unset, .unset, .unset] [(.int (895 : Int32)), (.int (16 : Int32)), (.ref b1), (.ref b1)])) rfl rfl (hb hby at_108)
  have Z18 : n0 ≤ h18.size := Nat.le_trans Z17 (Keep.of_wr W18).1
  have N18 := Fr.snoc X18 N17 ge_b1
  obtain ⟨T19, h19, X19, e19, W19, V19, st19⟩ := wrI X18 hx hZ e18 V18 (j := (17 : Int32)) ⟨by decide, by decide⟩  (g := (mkF m 115 #[.val (.int cc), .val (.int kk), .val (.int dd), .unset, .unset, .unset, .unset] [(.int (8191 : Int32)), (.int (17 : Int32)), (.ref b1), (.ref b1)])) rfl rfl (hb hby at_115)
  have Z19 : n0 ≤ h19.size := Nat.le_trans Z18 (Keep.of_wr W19).1
  have N19 := Fr.snoc X19 N18 ge_b1
  obtain ⟨T20, h20, X20, e20, W20, V20, st20⟩ := wrI X19 hx hZ e19 V19 (j := (18 : Int32)) ⟨by decide, by decide⟩  (g := (mkF m 122 #[.val (.int cc), .val (.int kk), .val (.int dd), .unset, .unset, .unset, .unset] [(.int (8204 : Int32)), (.int (18 : Int32)), (.ref b1), (.ref b1)])) rfl rfl (hb hby at_122)
  have Z20 : n0 ≤ h20.size := Nat.le_trans Z19 (Keep.of_wr W20).1
  have N20 := Fr.snoc X20 N19 ge_b1
  obtain ⟨T21, h21, X21, e21, W21, V21, st21⟩ := wrI X20 hx hZ e20 V20 (j := (19 : Int32)) ⟨by decide, by decide⟩  (g := (mkF m 129 #[.val (.int cc), .val (.int kk), .val (.int dd), .unset, .unset, .unset, .unset] [(.int (8205 : Int32)), (.int (19 : Int32)), (.ref b1), (.ref b1)])) rfl rfl (hb hby at_129)
  have Z21 : n0 ≤ h21.size := Nat.le_trans Z20 (Keep.of_wr W21).1
  have N21 := Fr.snoc X21 N20 ge_b1
  obtain ⟨T22, h22, X22, e22, W22, V22, st22⟩ := wrI X21 hx hZ e21 V21 (j := (20 : Int32)) ⟨by decide, by decide⟩  (g := (mkF m 136 #[.val (.int cc), .val (.int kk), .val (.int dd), .unset, .unset, .unset, .unset] [(.int (8304 : Int32)), (.int (20 : Int32)), (.ref b1), (.ref b1)])) rfl rfl (hb hby at_136)
  have Z22 : n0 ≤ h22.size := Nat.le_trans Z21 (Keep.of_wr W22).1
  have N22 := Fr.snoc X22 N21 ge_b1
  obtain ⟨T23, h23, X23, e23, W23, V23, st23⟩ := wrI X22 hx hZ e22 V22 (j := (21 : Int32)) ⟨by decide, by decide⟩  (g := (mkF m 143 #[.val (.int cc), .val (.int kk), .val (.int dd), .unset, .unset, .unset, .unset] [(.int (8591 : Int32)), (.int (21 : Int32)), (.ref b1), (.ref b1)])) rfl rfl (hb hby at_143)
  have Z23 : n0 ≤ h23.size := Nat.le_trans Z22 (Keep.of_wr W23).1
  have N23 := Fr.snoc X23 N22 ge_b1
  obtain ⟨T24, h24, X24, e24, W24, V24, st24⟩ := wrI X23 hx hZ e23 V23 (j := (22 : Int32)) ⟨by decide, by decide⟩  (g := (mkF m 150 #[.val (.int cc), .val (.int kk), .val (.int dd), .unset, .unset, .unset, .unset] [(.int (11264 : Int32)), (.int (22 : Int32)), (.ref b1), (.ref b1)])) rfl rfl (hb hby at_150)
  have Z24 : n0 ≤ h24.size := Nat.le_trans Z23 (Keep.of_wr W24).1
  have N24 := Fr.snoc X24 N23 ge_b1
  obtain ⟨T25, h25, X25, e25, W25, V25, st25⟩ := wrI X24 hx hZ e24 V24 (j := (23 : Int32)) ⟨by decide, by decide⟩  (g := (mkF m 157 #[.val (.int cc), .val (.int kk), .val (.int dd), .unset, .unset, .unset, .unset] [(.int (12271 : Int32)), (.int (23 : Int32)), (.ref b1), (.ref b1)])) rfl rfl (hb hby at_157)
  have Z25 : n0 ≤ h25.size := Nat.le_trans Z24 (Keep.of_wr W25).1
  have N25 := Fr.snoc X25 N24 ge_b1
  obtain ⟨T26, h26, X26, e26, W26, V26, st26⟩ := wrI X25 hx hZ e25 V25 (j := (24 : Int32)) ⟨by decide, by decide⟩  (g := (mkF m 164 #[.val (.int cc), .val (.int kk), .val (.int dd), .unset, .unset, .unset, .unset] [(.int (12289 : Int32)), (.int (24 : Int32)), (.ref b1), (.ref b1)])) rfl rfl (hb hby at_164)
  have Z26 : n0 ≤ h26.size := Nat.le_trans Z25 (Keep.of_wr W26).1
  have N26 := Fr.snoc X26 N25 ge_b1
  obtain ⟨T27, h27, X27, e27, W27, V27, st27⟩ := wrI X26 hx hZ e26 V26 (j := (25 : Int32)) ⟨by decide, by decide⟩  (g := (mkF m 170 #[.val (.int cc), .val (.int kk), .val (.int dd), .unset, .unset, .unset, .unset] [(.int (55295 : Int32)), (.int (25 : Int32)), (.ref b1), (.ref b1)])) rfl rfl (hb hby at_170)
  have Z27 : n0 ≤ h27.size := Nat.le_trans Z26 (Keep.of_wr W27).1
  have N27 := Fr.snoc X27 N26 ge_b1
  obtain ⟨T28, h28, X28, e28, W28, V28, st28⟩ := wrI X27 hx hZ e27 V27 (j := (26 : Int32)) ⟨by decide, by decide⟩  (g := (mkF m 176 #[.val (.int cc), .val (.int kk), .val (.int dd), .unset, .unset, .unset, .unset] [(.int (63744 : Int32)), (.int (26 : Int32)), (.ref b1), (.ref b1)])) rfl rfl (hb hby at_176)
  have Z28 : n0 ≤ h28.size := Nat.le_trans Z27 (Keep.of_wr W28).1
  have N28 := Fr.snoc X28 N27 ge_b1
  obtain ⟨T29, h29, X29, e29, W29, V29, st29⟩ := wrI X28 hx hZ e28 V28 (j := (27 : Int32)) ⟨by decide, by decide⟩  (g := (mkF m 182 #[.val (.int cc), .val (.int kk), .val (.int dd), .unset, .unset, .unset, .unset] [(.int (64975 : Int32)), (.int (27 : Int32)), (.ref b1), (.ref b1)])) rfl rfl (hb hby at_182)
  have Z29 : n0 ≤ h29.size := Nat.le_trans Z28 (Keep.of_wr W29).1
  have N29 := Fr.snoc X29 N28 ge_b1
  obtain ⟨T30, h30, X30, e30, W30, V30, st30⟩ := wrI X29 hx hZ e29 V29 (j := (28 : Int32)) ⟨by decide, by decide⟩  (g := (mkF m 188 #[.val (.int cc), .val (.int kk), .val (.int dd), .unset, .unset, .unset, .unset] [(.int (65008 : Int32)), (.int (28 : Int32)), (.ref b1), (.ref b1)])) rfl rfl (hb hby at_188)
  have Z30 : n0 ≤ h30.size := Nat.le_trans Z29 (Keep.of_wr W30).1
  have N30 := Fr.snoc X30 N29 ge_b1
  obtain ⟨T31, h31, X31, e31, W31, V31, st31⟩ := wrI X30 hx hZ e30 V30 (j := (29 : Int32)) ⟨by decide, by decide⟩  (g := (mkF m 194 #[.val (.int cc), .val (.int kk), .val (.int dd), .unset, .unset, .unset, .unset] [(.int (65533 : Int32)), (.int (29 : Int32)), (.ref b1), (.ref b1)])) rfl rfl (hb hby at_194)
  have Z31 : n0 ≤ h31.size := Nat.le_trans Z30 (Keep.of_wr W31).1
  have N31 := Fr.snoc X31 N30 ge_b1
  obtain ⟨T32, h32, X32, e32, W32, V32, st32⟩ := wrI X31 hx hZ e31 V31 (j := (30 : Int32)) ⟨by decide, by decide⟩  (g := (mkF m 200 #[.val (.int cc), .val (.int kk), .val (.int dd), .unset, .unset, .unset, .unset] [(.int (65536 : Int32)), (.int (30 : Int32)), (.ref b1), (.ref b1)])) rfl rfl (hb hby at_200)
  have Z32 : n0 ≤ h32.size := Nat.le_trans Z31 (Keep.of_wr W32).1
  have N32 := Fr.snoc X32 N31 ge_b1
  obtain ⟨T33, h33, X33, e33, W33, V33, st33⟩ := wrI X32 hx hZ e32 V32 (j := (31 : Int32)) ⟨by decide, by decide⟩  (g := (mkF m 206 #[.val (.int cc), .val (.int kk), .val (.int dd), .unset, .unset, .unset, .unset] [(.int (983039 : Int32)), (.int (31 : Int32)), (.ref b1), (.ref b1)])) rfl rfl (hb hby at_206)
  have V33n : AI Z h33 b1 .int (32 : Int32) v_tab := V33
  have Z33 : n0 ≤ h33.size := Nat.le_trans Z32 (Keep.of_wr W33).1
  have N33 := Fr.snoc X33 N32 ge_b1
  obtain ⟨_, _, ⟨T34, L34, k34, n34⟩, -, X34, ⟨Lc34, hQ34, l34, y34, z34⟩, st34⟩ := Jvm.LawKit.callS X33 hx (y := (⟨"com/example/tamsui/tamsui/xml/XmlChars", "isNameStart", "(I)Z"⟩ : MethodName)) hown (mvT hZ (hw _ (List.mem_of_getElem? (i := 9) rfl))) (mvT hZ (hw _ (List.mem_of_getElem? (i := 10) rfl))) (mvT hZ (hw _ (List.mem_of_getElem? (i := 11) rfl))) (mvT hZ (hw _ (List.mem_of_getElem? (i := 12) rfl))) (by decide) (backOf (W := 0) (rm1 l Z a0 hw [] cc h33 n0 Z33) hZ (hw _ (List.mem_of_getElem? (i := 12) rfl)) (hw _ (List.mem_of_getElem? (i := 11) rfl)) (by decide) (by decide)) (g := (mkF m 229 #[.val (.int cc), .val (.int kk), .val (.int dd), .val (.ref b1), .val (.int (v_b kk dd)), .unset, .unset] [(.int cc)])) rfl (by rw [hml]; rfl) (argsL := [(.int cc)]) (rest := []) (lenOf pd_0 rfl) rfl (by show 2 * 0 + _ ≤ _; exact Nat.le_of_eq rfl) (hb hby at_229) (fun _ _ => ⟨rfl, e33, (by decide : 1 + 0 ≤ _), (by decide : 32 + 0 ≤ _)⟩)
  dsimp only [Pt.U, Pt.locs, Pt.cells, Pt.slots] at X34 l34 y34 z34 st34 hQ34
  subst y34 z34
  obtain ⟨rfl, N34q, e34⟩ := hQ34
  have N34 : Fr n0 L34 := by rw [l34]; exact Fr.app N33 N34q
  obtain ⟨_, _, ⟨T35, L35, k35, n35⟩, -, X35, ⟨Lc35, hQ35, l35, y35, z35⟩, st35⟩ := Jvm.LawKit.callS X34 hx (y := (⟨"com/example/tamsui/tamsui/xml/XmlCharsIsNameStartPinLaw", "ref", "(I)Z"⟩ : MethodName)) hown (mvT hZ (hw _ (List.mem_of_getElem? (i := 13) rfl))) (mvT hZ (hw _ (List.mem_of_getElem? (i := 14) rfl))) (mvT hZ (hw _ (List.mem_of_getElem? (i := 15) rfl))) (mvT hZ (hw _ (List.mem_of_getElem? (i := 16) rfl))) (by decide) (backOf (W := 1) (rm2 l Z a0 hw [] cc h33 n0 Z33) hZ (hw _ (List.mem_of_getElem? (i := 16) rfl)) (hw _ (List.mem_of_getElem? (i := 15) rfl)) (by decide) (by decide)) (g := (mkF m 233 #[.val (.int cc), .val (.int kk), .val (.int dd), .val (.ref b1), .val (.int (v_b kk dd)), .unset, .unset] [(.int cc), (.int (b2i (F1 cc)))])) rfl (by rw [hml]; rfl) (argsL := [(.int cc)]) (rest := [(.int (b2i (F1 cc)))]) (lenOf pd_0 rfl) rfl (by show 2 * 0 + _ ≤ _; exact Nat.le_of_eq rfl) (hb hby at_233) (fun _ _ => ⟨rfl, e34, (by decide : 1 + 0 ≤ _), (by decide : 32 + 0 ≤ _)⟩)
  dsimp only [Pt.U, Pt.locs, Pt.cells, Pt.slots] at X35 l35 y35 z35 st35 hQ35
  subst y35 z35
  obtain ⟨rfl, N35q, e35⟩ := hQ35
  have N35 : Fr n0 L35 := by rw [l35]; exact Fr.app N34 N35q
  obtain ⟨_, _, ⟨T36, L36, k36, n36⟩, -, X36, ⟨Lc36, hQ36, l36, y36, z36⟩, st36⟩ := Jvm.LawKit.callS X35 hx (y := (⟨"com/example/tamsui/tamsui/xml/XmlChars", "isNameStart", "(I)Z"⟩ : MethodName)) hown (mvT hZ (hw _ (List.mem_of_getElem? (i := 9) rfl))) (mvT hZ (hw _ (List.mem_of_getElem? (i := 10) rfl))) (mvT hZ (hw _ (List.mem_of_getElem? (i := 11) rfl))) (mvT hZ (hw _ (List.mem_of_getElem? (i := 12) rfl))) (by decide) (backOf (W := 0) (rm1 l Z a0 hw [] (v_b kk dd) h33 n0 Z33) hZ (hw _ (List.mem_of_getElem? (i := 12) rfl)) (hw _ (List.mem_of_getElem? (i := 11) rfl)) (by decide) (by decide)) (g := (mkF m 248 #[.val (.int cc), .val (.int kk), .val (.int dd), .val (.ref b1), .val (.int (v_b kk dd)), .val (.int (1 : Int32)), .unset] [(.int (v_b kk dd))])) rfl (by rw [hml]; rfl) (argsL := [(.int (v_b kk dd))]) (rest := []) (lenOf pd_0 rfl) rfl (by show 2 * 0 + _ ≤ _; exact Nat.le_of_eq rfl) (hb hby at_248) (fun _ _ => ⟨rfl, e35, (by decide : 1 + 0 ≤ _), (by decide : 32 + 0 ≤ _)⟩)
  dsimp only [Pt.U, Pt.locs, Pt.cells, Pt.slots] at X36 l36 y36 z36 st36 hQ36
  subst y36 z36
  obtain ⟨rfl, N36q, e36⟩ := hQ36
  have N36 : Fr n0 L36 := by rw [l36]; exact Fr.app N35 N36q
  obtain ⟨_, _, ⟨T37, L37, k37, n37⟩, -, X37, ⟨Lc37, hQ37, l37, y37, z37⟩, st37⟩ := Jvm.LawKit.callS X36 hx (y := (⟨"com/example/tamsui/tamsui/xml/XmlCharsIsNameStartPinLaw", "ref", "(I)Z"⟩ : MethodName)) hown (mvT hZ (hw _ (List.mem_of_getElem? (i := 13) rfl))) (mvT hZ (hw _ (List.mem_of_getElem? (i := 14) rfl))) (mvT hZ (hw _ (List.mem_of_getElem? (i := 15) rfl))) (mvT hZ (hw _ (List.mem_of_getElem? (i := 16) rfl))) (by decide) (backOf (W := 1) (rm2 l Z a0 hw [] (v_b kk dd) h33 n0 Z33) hZ (hw _ (List.mem_of_getElem? (i := 16) rfl)) (hw _ (List.mem_of_getElem? (i := 15) rfl)) (by decide) (by decide)) (g := (mkF m 253 #[.val (.int cc), .val (.int kk), .val (.int dd), .val (.ref b1), .val (.int (v_b kk dd)), .val (.int (1 : Int32)), .unset] [(.int (v_b kk dd)), (.int (b2i (F1 (v_b kk dd))))])) rfl (by rw [hml]; rfl) (argsL := [(.int (v_b kk dd))]) (rest := [(.int (b2i (F1 (v_b kk dd))))]) (lenOf pd_0 rfl) rfl (by show 2 * 0 + _ ≤ _; exact Nat.le_of_eq rfl) (hb hby at_253) (fun _ _ => ⟨rfl, e36, (by decide : 1 + 0 ≤ _), (by decide : 32 + 0 ≤ _)⟩)
  dsimp only [Pt.U, Pt.locs, Pt.cells, Pt.slots] at X37 l37 y37 z37 st37 hQ37
  subst y37 z37
  obtain ⟨rfl, N37q, e37⟩ := hQ37
  have N37 : Fr n0 L37 := by rw [l37]; exact Fr.app N36 N37q
  have pre38 : ∀ t, Steps p.tables e below (T37.setTop (mkF m 281 #[.val (.int cc), .val (.int kk), .val (.int dd), .val (.ref b1), .val (.int (v_b kk dd)), .val (.int (1 : Int32)), .val (.int (1 : Int32))] [(.int (1 : Int32))])) t → Steps p.tables e below (s₁.setTop (entryFrame m #[(.int cc), (.int kk), (.int dd)] maxLocals)) t := by
    intro t k
    refine pre0 t ?_
    show Steps p.tables e below (s₁.setTop (mkF m 0 #[.val (.int cc), .val (.int kk), .val (.int dd), .unset, .unset, .unset, .unset] [])) _
    refine XS.bipush X0.here hx rfl (hb hby at_0) ?_
    show Steps p.tables e below (s₁.setTop (mkF m 2 #[.val (.int cc), .val (.int kk), .val (.int dd), .unset, .unset, .unset, .unset] [(.int (32 : Int32))])) _
    refine st1 _ ?_
    show Steps p.tables e below (T1.setTop (mkF m 4 #[.val (.int cc), .val (.int kk), .val (.int dd), .unset, .unset, .unset, .unset] [(.ref b1)])) _
    refine XS.dup X1.here hx rfl (hb hby at_4) rfl rfl ?_
    show Steps p.tables e below (T1.setTop (mkF m 5 #[.val (.int cc), .val (.int kk), .val (.int dd), .unset, .unset, .unset, .unset] [(.ref b1), (.ref b1)])) _
    refine XS.iconst X1.here hx rfl (hb hby at_5) ?_
    show Steps p.tables e below (T1.setTop (mkF m 6 #[.val (.int cc), .val (.int kk), .val (.int dd), .unset, .unset, .unset, .unset] [(.int (0 : Int32)), (.ref b1), (.ref b1)])) _
    refine XS.iconst X1.here hx rfl (hb hby at_6) ?_
    show Steps p.tables e below (T1.setTop (mkF m 7 #[.val (.int cc), .val (.int kk), .val (.int dd), .unset, .unset, .unset, .unset] [(.int (0 : Int32)), (.int (0 : Int32)), (.ref b1), (.ref b1)])) _
    refine st2 _ ?_
    show Steps p.tables e below (T2.setTop (mkF m 8 #[.val (.int cc), .val (.int kk), .val (.int dd), .unset, .unset, .unset, .unset] [(.ref b1)])) _
    refine XS.dup X2.here hx rfl (hb hby at_8) rfl rfl ?_
    show Steps p.tables e below (T2.setTop (mkF m 9 #[.val (.int cc), .val (.int kk), .val (.int dd), .unset, .unset, .unset, .unset] [(.ref b1), (.ref b1)])) _
    refine XS.iconst X2.here hx rfl (hb hby at_9) ?_
    show Steps p.tables e below (T2.setTop (mkF m 10 #[.val (.int cc), .val (.int kk), .val (.int dd), .unset, .unset, .unset, .unset] [(.int (1 : Int32)), (.ref b1), (.ref b1)])) _
    refine XS.bipush X2.here hx rfl (hb hby at_10) ?_
    show Steps p.tables e below (T2.setTop (mkF m 12 #[.val (.int cc), .val (.int kk), .val (.int dd), .unset, .unset, .unset, .unset] [(.int (58 : Int32)), (.int (1 : Int32)), (.ref b1), (.ref b1)])) _
    refine st3 _ ?_
    show Steps p.tables e below (T3.setTop (mkF m 13 #[.val (.int cc), .val (.int kk), .val (.int dd), .unset, .unset, .unset, .unset] [(.ref b1)])) _
    refine XS.dup X3.here hx rfl (hb hby at_13) rfl rfl ?_
    show Steps p.tables e below (T3.setTop (mkF m 14 #[.val (.int cc), .val (.int kk), .val (.int dd), .unset, .unset, .unset, .unset] [(.ref b1), (.ref b1)])) _
    refine XS.iconst X3.here hx rfl (hb hby at_14) ?_
    show Steps p.tables e below (T3.setTop (mkF m 15 #[.val (.int cc), .val (.int kk), .val (.int dd), .unset, .unset, .unset, .unset] [(.int (2 : Int32)), (.ref b1), (.ref b1)])) _
    refine XS.bipush X3.here hx rfl (hb hby at_15) ?_
    show Steps p.tables e below (T3.setTop (mkF m 17 #[.val (.int cc), .val (.int kk), .val (.int dd), .unset, .unset, .unset, .unset] [(.int (65 : Int32)), (.int (2 : Int32)), (.ref b1), (.ref b1)])) _
    refine st4 _ ?_
    show Steps p.tables e below (T4.setTop (mkF m 18 #[.val (.int cc), .val (.int kk), .val (.int dd), .unset, .unset, .unset, .unset] [(.ref b1)])) _
    refine XS.dup X4.here hx rfl (hb hby at_18) rfl rfl ?_
    show Steps p.tables e below (T4.setTop (mkF m 19 #[.val (.int cc), .val (.int kk), .val (.int dd), .unset, .unset, .unset, .unset] [(.ref b1), (.ref b1)])) _
    refine XS.iconst X4.here hx rfl (hb hby at_19) ?_
    show Steps p.tables e below (T4.setTop (mkF m 20 #[.val (.int cc), .val (.int kk), .val (.int dd), .unset, .unset, .unset, .unset] [(.int (3 : Int32)), (.ref b1), (.ref b1)])) _
    refine XS.bipush X4.here hx rfl (hb hby at_20) ?_
    show Steps p.tables e below (T4.setTop (mkF m 22 #[.val (.int cc), .val (.int kk), .val (.int dd), .unset, .unset, .unset, .unset] [(.int (90 : Int32)), (.int (3 : Int32)), (.ref b1), (.ref b1)])) _
    refine st5 _ ?_
    show Steps p.tables e below (T5.setTop (mkF m 23 #[.val (.int cc), .val (.int kk), .val (.int dd), .unset, .unset, .unset, .unset] [(.ref b1)])) _
    refine XS.dup X5.here hx rfl (hb hby at_23) rfl rfl ?_
    show Steps p.tables e below (T5.setTop (mkF m 24 #[.val (.int cc), .val (.int kk), .val (.int dd), .unset, .unset, .unset, .unset] [(.ref b1), (.ref b1)])) _
    refine XS.iconst X5.here hx rfl (hb hby at_24) ?_
    show Steps p.tables e below (T5.setTop (mkF m 25 #[.val (.int cc), .val (.int kk), .val (.int dd), .unset, .unset, .unset, .unset] [(.int (4 : Int32)), (.ref b1), (.ref b1)])) _
    refine XS.bipush X5.here hx rfl (hb hby at_25) ?_
    show Steps p.tables e below (T5.setTop (mkF m 27 #[.val (.int cc), .val (.int kk), .val (.int dd), .unset, .unset, .unset, .unset] [(.int (95 : Int32)), (.int (4 : Int32)), (.ref b1), (.ref b1)])) _
    refine st6 _ ?_
    show Steps p.tables e below (T6.setTop (mkF m 28 #[.val (.int cc), .val (.int kk), .val (.int dd), .unset, .unset, .unset, .unset] [(.ref b1)])) _
    refine XS.dup X6.here hx rfl (hb hby at_28) rfl rfl ?_
    show Steps p.tables e below (T6.setTop (mkF m 29 #[.val (.int cc), .val (.int kk), .val (.int dd), .unset, .unset, .unset, .unset] [(.ref b1), (.ref b1)])) _
    refine XS.iconst X6.here hx rfl (hb hby at_29) ?_
    show Steps p.tables e below (T6.setTop (mkF m 30 #[.val (.int cc), .val (.int kk), .val (.int dd), .unset, .unset, .unset, .unset] [(.int (5 : Int32)), (.ref b1), (.ref b1)])) _
    refine XS.bipush X6.here hx rfl (hb hby at_30) ?_
    show Steps p.tables e below (T6.setTop (mkF m 32 #[.val (.int cc), .val (.int kk), .val (.int dd), .unset, .unset, .unset, .unset] [(.int (97 : Int32)), (.int (5 : Int32)), (.ref b1), (.ref b1)])) _
    refine st7 _ ?_
    show Steps p.tables e below (T7.setTop (mkF m 33 #[.val (.int cc), .val (.int kk), .val (.int dd), .unset, .unset, .unset, .unset] [(.ref b1)])) _
    refine XS.dup X7.here hx rfl (hb hby at_33) rfl rfl ?_
    show Steps p.tables e below (T7.setTop (mkF m 34 #[.val (.int cc), .val (.int kk), .val (.int dd), .unset, .unset, .unset, .unset] [(.ref b1), (.ref b1)])) _
    refine XS.bipush X7.here hx rfl (hb hby at_34) ?_
    show Steps p.tables e below (T7.setTop (mkF m 36 #[.val (.int cc), .val (.int kk), .val (.int dd), .unset, .unset, .unset, .unset] [(.int (6 : Int32)), (.ref b1), (.ref b1)])) _
    refine XS.bipush X7.here hx rfl (hb hby at_36) ?_
    show Steps p.tables e below (T7.setTop (mkF m 38 #[.val (.int cc), .val (.int kk), .val (.int dd), .unset, .unset, .unset, .unset] [(.int (122 : Int32)), (.int (6 : Int32)), (.ref b1), (.ref b1)])) _
    refine st8 _ ?_
    show Steps p.tables e below (T8.setTop (mkF m 39 #[.val (.int cc), .val (.int kk), .val (.int dd), .unset, .unset, .unset, .unset] [(.ref b1)])) _
    refine XS.dup X8.here hx rfl (hb hby at_39) rfl rfl ?_
    show Steps p.tables e below (T8.setTop (mkF m 40 #[.val (.int cc), .val (.int kk), .val (.int dd), .unset, .unset, .unset, .unset] [(.ref b1), (.ref b1)])) _
    refine XS.bipush X8.here hx rfl (hb hby at_40) ?_
    show Steps p.tables e below (T8.setTop (mkF m 42 #[.val (.int cc), .val (.int kk), .val (.int dd), .unset, .unset, .unset, .unset] [(.int (7 : Int32)), (.ref b1), (.ref b1)])) _
    refine XS.sipush X8.here hx rfl (hb hby at_42) ?_
    show Steps p.tables e below (T8.setTop (mkF m 45 #[.val (.int cc), .val (.int kk), .val (.int dd), .unset, .unset, .unset, .unset] [(.int (128 : Int32)), (.int (7 : Int32)), (.ref b1), (.ref b1)])) _
    refine st9 _ ?_
    show Steps p.tables e below (T9.setTop (mkF m 46 #[.val (.int cc), .val (.int kk), .val (.int dd), .unset, .unset, .unset, .unset] [(.ref b1)])) _
    refine XS.dup X9.here hx rfl (hb hby at_46) rfl rfl ?_
    show Steps p.tables e below (T9.setTop (mkF m 47 #[.val (.int cc), .val (.int kk), .val (.int dd), .unset, .unset, .unset, .unset] [(.ref b1), (.ref b1)])) _
    refine XS.bipush X9.here hx rfl (hb hby at_47) ?_
    show Steps p.tables e below (T9.setTop (mkF m 49 #[.val (.int cc), .val (.int kk), .val (.int dd), .unset, .unset, .unset, .unset] [(.int (8 : Int32)), (.ref b1), (.ref b1)])) _
    refine XS.sipush X9.here hx rfl (hb hby at_49) ?_
    show Steps p.tables e below (T9.setTop (mkF m 52 #[.val (.int cc), .val (.int kk), .val (.int dd), .unset, .unset, .unset, .unset] [(.int (192 : Int32)), (.int (8 : Int32)), (.ref b1), (.ref b1)])) _
    refine st10 _ ?_
    show Steps p.tables e below (T10.setTop (mkF m 53 #[.val (.int cc), .val (.int kk), .val (.int dd), .unset, .unset, .unset, .unset] [(.ref b1)])) _
    refine XS.dup X10.here hx rfl (hb hby at_53) rfl rfl ?_
    show Steps p.tables e below (T10.setTop (mkF m 54 #[.val (.int cc), .val (.int kk), .val (.int dd), .unset, .unset, .unset, .unset] [(.ref b1), (.ref b1)])) _
    refine XS.bipush X10.here hx rfl (hb hby at_54) ?_
    show Steps p.tables e below (T10.setTop (mkF m 56 #[.val (.int cc), .val (.int kk), .val (.int dd), .unset, .unset, .unset, .unset] [(.int (9 : Int32)), (.ref b1), (.ref b1)])) _
    refine XS.sipush X10.here hx rfl (hb hby at_56) ?_
    show Steps p.tables e below (T10.setTop (mkF m 59 #[.val (.int cc), .val (.int kk), .val (.int dd), .unset, .unset, .unset, .unset] [(.int (214 : Int32)), (.int (9 : Int32)), (.ref b1), (.ref b1)])) _
    refine st11 _ ?_
    show Steps p.tables e below (T11.setTop (mkF m 60 #[.val (.int cc), .val (.int kk), .val (.int dd), .unset, .unset, .unset, .unset] [(.ref b1)])) _
    refine XS.dup X11.here hx rfl (hb hby at_60) rfl rfl ?_
    show Steps p.tables e below (T11.setTop (mkF m 61 #[.val (.int cc), .val (.int kk), .val (.int dd), .unset, .unset, .unset, .unset] [(.ref b1), (.ref b1)])) _
    refine XS.bipush X11.here hx rfl (hb hby at_61) ?_
    show Steps p.tables e below (T11.setTop (mkF m 63 #[.val (.int cc), .val (.int kk), .val (.int dd), .unset, .unset, .unset, .unset] [(.int (10 : Int32)), (.ref b1), (.ref b1)])) _
    refine XS.sipush X11.here hx rfl (hb hby at_63) ?_
    show Steps p.tables e below (T11.setTop (mkF m 66 #[.val (.int cc), .val (.int kk), .val (.int dd), .unset, .unset, .unset, .unset] [(.int (216 : Int32)), (.int (10 : Int32)), (.ref b1), (.ref b1)])) _
    refine st12 _ ?_
    show Steps p.tables e below (T12.setTop (mkF m 67 #[.val (.int cc), .val (.int kk), .val (.int dd), .unset, .unset, .unset, .unset] [(.ref b1)])) _
    refine XS.dup X12.here hx rfl (hb hby at_67) rfl rfl ?_
    show Steps p.tables e below (T12.setTop (mkF m 68 #[.val (.int cc), .val (.int kk), .val (.int dd), .unset, .unset, .unset, .unset] [(.ref b1), (.ref b1)])) _
    refine XS.bipush X12.here hx rfl (hb hby at_68) ?_
    show Steps p.tables e below (T12.setTop (mkF m 70 #[.val (.int cc), .val (.int kk), .val (.int dd), .unset, .unset, .unset, .unset] [(.int (11 : Int32)), (.ref b1), (.ref b1)])) _
    refine XS.sipush X12.here hx rfl (hb hby at_70) ?_
    show Steps p.tables e below (T12.setTop (mkF m 73 #[.val (.int cc), .val (.int kk), .val (.int dd), .unset, .unset, .unset, .unset] [(.int (246 : Int32)), (.int (11 : Int32)), (.ref b1), (.ref b1)])) _
    refine st13 _ ?_
    show Steps p.tables e below (T13.setTop (mkF m 74 #[.val (.int cc), .val (.int kk), .val (.int dd), .unset, .unset, .unset, .unset] [(.ref b1)])) _
    refine XS.dup X13.here hx rfl (hb hby at_74) rfl rfl ?_
    show Steps p.tables e below (T13.setTop (mkF m 75 #[.val (.int cc), .val (.int kk), .val (.int dd), .unset, .unset, .unset, .unset] [(.ref b1), (.ref b1)])) _
    refine XS.bipush X13.here hx rfl (hb hby at_75) ?_
    show Steps p.tables e below (T13.setTop (mkF m 77 #[.val (.int cc), .val (.int kk), .val (.int dd), .unset, .unset, .unset, .unset] [(.int (12 : Int32)), (.ref b1), (.ref b1)])) _
    refine XS.sipush X13.here hx rfl (hb hby at_77) ?_
    show Steps p.tables e below (T13.setTop (mkF m 80 #[.val (.int cc), .val (.int kk), .val (.int dd), .unset, .unset, .unset, .unset] [(.int (248 : Int32)), (.int (12 : Int32)), (.ref b1), (.ref b1)])) _
    refine st14 _ ?_
    show Steps p.tables e below (T14.setTop (mkF m 81 #[.val (.int cc), .val (.int kk), .val (.int dd), .unset, .unset, .unset, .unset] [(.ref b1)])) _
    refine XS.dup X14.here hx rfl (hb hby at_81) rfl rfl ?_
    show Steps p.tables e below (T14.setTop (mkF m 82 #[.val (.int cc), .val (.int kk), .val (.int dd), .unset, .unset, .unset, .unset] [(.ref b1), (.ref b1)])) _
    refine XS.bipush X14.here hx rfl (hb hby at_82) ?_
    show Steps p.tables e below (T14.setTop (mkF m 84 #[.val (.int cc), .val (.int kk), .val (.int dd), .unset, .unset, .unset, .unset] [(.int (13 : Int32)), (.ref b1), (.ref b1)])) _
    refine XS.sipush X14.here hx rfl (hb hby at_84) ?_
    show Steps p.tables e below (T14.setTop (mkF m 87 #[.val (.int cc), .val (.int kk), .val (.int dd), .unset, .unset, .unset, .unset] [(.int (767 : Int32)), (.int (13 : Int32)), (.ref b1), (.ref b1)])) _
    refine st15 _ ?_
    show Steps p.tables e below (T15.setTop (mkF m 88 #[.val (.int cc), .val (.int kk), .val (.int dd), .unset, .unset, .unset, .unset] [(.ref b1)])) _
    refine XS.dup X15.here hx rfl (hb hby at_88) rfl rfl ?_
    show Steps p.tables e below (T15.setTop (mkF m 89 #[.val (.int cc), .val (.int kk), .val (.int dd), .unset, .unset, .unset, .unset] [(.ref b1), (.ref b1)])) _
    refine XS.bipush X15.here hx rfl (hb hby at_89) ?_
    show Steps p.tables e below (T15.setTop (mkF m 91 #[.val (.int cc), .val (.int kk), .val (.int dd), .unset, .unset, .unset, .unset] [(.int (14 : Int32)), (.ref b1), (.ref b1)])) _
    refine XS.sipush X15.here hx rfl (hb hby at_91) ?_
    show Steps p.tables e below (T15.setTop (mkF m 94 #[.val (.int cc), .val (.int kk), .val (.int dd), .unset, .unset, .unset, .unset] [(.int (880 : Int32)), (.int (14 : Int32)), (.ref b1), (.ref b1)])) _
    refine st16 _ ?_
    show Steps p.tables e below (T16.setTop (mkF m 95 #[.val (.int cc), .val (.int kk), .val (.int dd), .unset, .unset, .unset, .unset] [(.ref b1)])) _
    refine XS.dup X16.here hx rfl (hb hby at_95) rfl rfl ?_
    show Steps p.tables e below (T16.setTop (mkF m 96 #[.val (.int cc), .val (.int kk), .val (.int dd), .unset, .unset, .unset, .unset] [(.ref b1), (.ref b1)])) _
    refine XS.bipush X16.here hx rfl (hb hby at_96) ?_
    show Steps p.tables e below (T16.setTop (mkF m 98 #[.val (.int cc), .val (.int kk), .val (.int dd), .unset, .unset, .unset, .unset] [(.int (15 : Int32)), (.ref b1), (.ref b1)])) _
    refine XS.sipush X16.here hx rfl (hb hby at_98) ?_
    show Steps p.tables e below (T16.setTop (mkF m 101 #[.val (.int cc), .val (.int kk), .val (.int dd), .unset, .unset, .unset, .unset] [(.int (893 : Int32)), (.int (15 : Int32)), (.ref b1), (.ref b1)])) _
    refine st17 _ ?_
    show Steps p.tables e below (T17.setTop (mkF m 102 #[.val (.int cc), .val (.int kk), .val (.int dd), .unset, .unset, .unset, .unset] [(.ref b1)])) _
    refine XS.dup X17.here hx rfl (hb hby at_102) rfl rfl ?_
    show Steps p.tables e below (T17.setTop (mkF m 103 #[.val (.int cc), .val (.int kk), .val (.int dd), .unset, .unset, .unset, .unset] [(.ref b1), (.ref b1)])) _
    refine XS.bipush X17.here hx rfl (hb hby at_103) ?_
    show Steps p.tables e below (T17.setTop (mkF m 105 #[.val (.int cc), .val (.int kk), .val (.int dd), .unset, .unset, .unset, .unset] [(.int (16 : Int32)), (.ref b1), (.ref b1)])) _
    refine XS.sipush X17.here hx rfl (hb hby at_105) ?_
    show Steps p.tables e below (T17.setTop (mkF m 108 #[.val (.int cc), .val (.int kk), .val (.int dd), .unset, .unset, .unset, .unset] [(.int (895 : Int32)), (.int (16 : Int32)), (.ref b1), (.ref b1)])) _
    refine st18 _ ?_
    show Steps p.tables e below (T18.setTop (mkF m 109 #[.val (.int cc), .val (.int kk), .val (.int dd), .unset, .unset, .unset, .unset] [(.ref b1)])) _
    refine XS.dup X18.here hx rfl (hb hby at_109) rfl rfl ?_
    show Steps p.tables e below (T18.setTop (mkF m 110 #[.val (.int cc), .val (.int kk), .val (.int dd), .unset, .unset, .unset, .unset] [(.ref b1), (.ref b1)])) _
    refine XS.bipush X18.here hx rfl (hb hby at_110) ?_
    show Steps p.tables e below (T18.setTop (mkF m 112 #[.val (.int cc), .val (.int kk), .val (.int dd), .unset, .unset, .unset, .unset] [(.int (17 : Int32)), (.ref b1), (.ref b1)])) _
    refine XS.sipush X18.here hx rfl (hb hby at_112) ?_
    show Steps p.tables e below (T18.setTop (mkF m 115 #[.val (.int cc), .val (.int kk), .val (.int dd), .unset, .unset, .unset, .unset] [(.int (8191 : Int32)), (.int (17 : Int32)), (.ref b1), (.ref b1)])) _
    refine st19 _ ?_
    show Steps p.tables e below (T19.setTop (mkF m 116 #[.val (.int cc), .val (.int kk), .val (.int dd), .unset, .unset, .unset, .unset] [(.ref b1)])) _
    refine XS.dup X19.here hx rfl (hb hby at_116) rfl rfl ?_
    show Steps p.tables e below (T19.setTop (mkF m 117 #[.val (.int cc), .val (.int kk), .val (.int dd), .unset, .unset, .unset, .unset] [(.ref b1), (.ref b1)])) _
    refine XS.bipush X19.here hx rfl (hb hby at_117) ?_
    show Steps p.tables e below (T19.setTop (mkF m 119 #[.val (.int cc), .val (.int kk), .val (.int dd), .unset, .unset, .unset, .unset] [(.int (18 : Int32)), (.ref b1), (.ref b1)])) _
    refine XS.sipush X19.here hx rfl (hb hby at_119) ?_
    show Steps p.tables e below (T19.setTop (mkF m 122 #[.val (.int cc), .val (.int kk), .val (.int dd), .unset, .unset, .unset, .unset] [(.int (8204 : Int32)), (.int (18 : Int32)), (.ref b1), (.ref b1)])) _
    refine st20 _ ?_
    show Steps p.tables e below (T20.setTop (mkF m 123 #[.val (.int cc), .val (.int kk), .val (.int dd), .unset, .unset, .unset, .unset] [(.ref b1)])) _
    refine XS.dup X20.here hx rfl (hb hby at_123) rfl rfl ?_
    show Steps p.tables e below (T20.setTop (mkF m 124 #[.val (.int cc), .val (.int kk), .val (.int dd), .unset, .unset, .unset, .unset] [(.ref b1), (.ref b1)])) _
    refine XS.bipush X20.here hx rfl (hb hby at_124) ?_
    show Steps p.tables e below (T20.setTop (mkF m 126 #[.val (.int cc), .val (.int kk), .val (.int dd), .unset, .unset, .unset, .unset] [(.int (19 : Int32)), (.ref b1), (.ref b1)])) _
    refine XS.sipush X20.here hx rfl (hb hby at_126) ?_
    show Steps p.tables e below (T20.setTop (mkF m 129 #[.val (.int cc), .val (.int kk), .val (.int dd), .unset, .unset, .unset, .unset] [(.int (8205 : Int32)), (.int (19 : Int32)), (.ref b1), (.ref b1)])) _
    refine st21 _ ?_
    show Steps p.tables e below (T21.setTop (mkF m 130 #[.val (.int cc), .val (.int kk), .val (.int dd), .unset, .unset, .unset, .unset] [(.ref b1)])) _
    refine XS.dup X21.here hx rfl (hb hby at_130) rfl rfl ?_
    show Steps p.tables e below (T21.setTop (mkF m 131 #[.val (.int cc), .val (.int kk), .val (.int dd), .unset, .unset, .unset, .unset] [(.ref b1), (.ref b1)])) _
    refine XS.bipush X21.here hx rfl (hb hby at_131) ?_
    show Steps p.tables e below (T21.setTop (mkF m 133 #[.val (.int cc), .val (.int kk), .val (.int dd), .unset, .unset, .unset, .unset] [(.int (20 : Int32)), (.ref b1), (.ref b1)])) _
    refine XS.sipush X21.here hx rfl (hb hby at_133) ?_
    show Steps p.tables e below (T21.setTop (mkF m 136 #[.val (.int cc), .val (.int kk), .val (.int dd), .unset, .unset, .unset, .unset] [(.int (8304 : Int32)), (.int (20 : Int32)), (.ref b1), (.ref b1)])) _
    refine st22 _ ?_
    show Steps p.tables e below (T22.setTop (mkF m 137 #[.val (.int cc), .val (.int kk), .val (.int dd), .unset, .unset, .unset, .unset] [(.ref b1)])) _
    refine XS.dup X22.here hx rfl (hb hby at_137) rfl rfl ?_
    show Steps p.tables e below (T22.setTop (mkF m 138 #[.val (.int cc), .val (.int kk), .val (.int dd), .unset, .unset, .unset, .unset] [(.ref b1), (.ref b1)])) _
    refine XS.bipush X22.here hx rfl (hb hby at_138) ?_
    show Steps p.tables e below (T22.setTop (mkF m 140 #[.val (.int cc), .val (.int kk), .val (.int dd), .unset, .unset, .unset, .unset] [(.int (21 : Int32)), (.ref b1), (.ref b1)])) _
    refine XS.sipush X22.here hx rfl (hb hby at_140) ?_
    show Steps p.tables e below (T22.setTop (mkF m 143 #[.val (.int cc), .val (.int kk), .val (.int dd), .unset, .unset, .unset, .unset] [(.int (8591 : Int32)), (.int (21 : Int32)), (.ref b1), (.ref b1)])) _
    refine st23 _ ?_
    show Steps p.tables e below (T23.setTop (mkF m 144 #[.val (.int cc), .val (.int kk), .val (.int dd), .unset, .unset, .unset, .unset] [(.ref b1)])) _
    refine XS.dup X23.here hx rfl (hb hby at_144) rfl rfl ?_
    show Steps p.tables e below (T23.setTop (mkF m 145 #[.val (.int cc), .val (.int kk), .val (.int dd), .unset, .unset, .unset, .unset] [(.ref b1), (.ref b1)])) _
    refine XS.bipush X23.here hx rfl (hb hby at_145) ?_
    show Steps p.tables e below (T23.setTop (mkF m 147 #[.val (.int cc), .val (.int kk), .val (.int dd), .unset, .unset, .unset, .unset] [(.int (22 : Int32)), (.ref b1), (.ref b1)])) _
    refine XS.sipush X23.here hx rfl (hb hby at_147) ?_
    show Steps p.tables e below (T23.setTop (mkF m 150 #[.val (.int cc), .val (.int kk), .val (.int dd), .unset, .unset, .unset, .unset] [(.int (11264 : Int32)), (.int (22 : Int32)), (.ref b1), (.ref b1)])) _
    refine st24 _ ?_
    show Steps p.tables e below (T24.setTop (mkF m 151 #[.val (.int cc), .val (.int kk), .val (.int dd), .unset, .unset, .unset, .unset] [(.ref b1)])) _
    refine XS.dup X24.here hx rfl (hb hby at_151) rfl rfl ?_
    show Steps p.tables e below (T24.setTop (mkF m 152 #[.val (.int cc), .val (.int kk), .val (.int dd), .unset, .unset, .unset, .unset] [(.ref b1), (.ref b1)])) _
    refine XS.bipush X24.here hx rfl (hb hby at_152) ?_
    show Steps p.tables e below (T24.setTop (mkF m 154 #[.val (.int cc), .val (.int kk), .val (.int dd), .unset, .unset, .unset, .unset] [(.int (23 : Int32)), (.ref b1), (.ref b1)])) _
    refine XS.sipush X24.here hx rfl (hb hby at_154) ?_
    show Steps p.tables e below (T24.setTop (mkF m 157 #[.val (.int cc), .val (.int kk), .val (.int dd), .unset, .unset, .unset, .unset] [(.int (12271 : Int32)), (.int (23 : Int32)), (.ref b1), (.ref b1)])) _
    refine st25 _ ?_
    show Steps p.tables e below (T25.setTop (mkF m 158 #[.val (.int cc), .val (.int kk), .val (.int dd), .unset, .unset, .unset, .unset] [(.ref b1)])) _
    refine XS.dup X25.here hx rfl (hb hby at_158) rfl rfl ?_
    show Steps p.tables e below (T25.setTop (mkF m 159 #[.val (.int cc), .val (.int kk), .val (.int dd), .unset, .unset, .unset, .unset] [(.ref b1), (.ref b1)])) _
    refine XS.bipush X25.here hx rfl (hb hby at_159) ?_
    show Steps p.tables e below (T25.setTop (mkF m 161 #[.val (.int cc), .val (.int kk), .val (.int dd), .unset, .unset, .unset, .unset] [(.int (24 : Int32)), (.ref b1), (.ref b1)])) _
    refine XS.sipush X25.here hx rfl (hb hby at_161) ?_
    show Steps p.tables e below (T25.setTop (mkF m 164 #[.val (.int cc), .val (.int kk), .val (.int dd), .unset, .unset, .unset, .unset] [(.int (12289 : Int32)), (.int (24 : Int32)), (.ref b1), (.ref b1)])) _
    refine st26 _ ?_
    show Steps p.tables e below (T26.setTop (mkF m 165 #[.val (.int cc), .val (.int kk), .val (.int dd), .unset, .unset, .unset, .unset] [(.ref b1)])) _
    refine XS.dup X26.here hx rfl (hb hby at_165) rfl rfl ?_
    show Steps p.tables e below (T26.setTop (mkF m 166 #[.val (.int cc), .val (.int kk), .val (.int dd), .unset, .unset, .unset, .unset] [(.ref b1), (.ref b1)])) _
    refine XS.bipush X26.here hx rfl (hb hby at_166) ?_
    show Steps p.tables e below (T26.setTop (mkF m 168 #[.val (.int cc), .val (.int kk), .val (.int dd), .unset, .unset, .unset, .unset] [(.int (25 : Int32)), (.ref b1), (.ref b1)])) _
    refine X26.ldcInt hx hown (mvT hZ (hw _ (List.mem_of_getElem? (i := 1) rfl))) (g := (mkF m 168 #[.val (.int cc), .val (.int kk), .val (.int dd), .unset, .unset, .unset, .unset] [(.int (25 : Int32)), (.ref b1), (.ref b1)])) rfl (hb hby at_168) _ ?_
    show Steps p.tables e below (T26.setTop (mkF m 170 #[.val (.int cc), .val (.int kk), .val (.int dd), .unset, .unset, .unset, .unset] [(.int (55295 : Int32)), (.int (25 : Int32)), (.ref b1), (.ref b1)])) _
    refine st27 _ ?_
    show Steps p.tables e below (T27.setTop (mkF m 171 #[.val (.int cc), .val (.int kk), .val (.int dd), .unset, .unset, .unset, .unset] [(.ref b1)])) _
    refine XS.dup X27.here hx rfl (hb hby at_171) rfl rfl ?_
    show Steps p.tables e below (T27.setTop (mkF m 172 #[.val (.int cc), .val (.int kk), .val (.int dd), .unset, .unset, .unset, .unset] [(.ref b1), (.ref b1)])) _
    refine XS.bipush X27.here hx rfl (hb hby at_172) ?_
    show Steps p.tables e below (T27.setTop (mkF m 174 #[.val (.int cc), .val (.int kk), .val (.int dd), .unset, .unset, .unset, .unset] [(.int (26 : Int32)), (.ref b1), (.ref b1)])) _
    refine X27.ldcInt hx hown (mvT hZ (hw _ (List.mem_of_getElem? (i := 2) rfl))) (g := (mkF m 174 #[.val (.int cc), .val (.int kk), .val (.int dd), .unset, .unset, .unset, .unset] [(.int (26 : Int32)), (.ref b1), (.ref b1)])) rfl (hb hby at_174) _ ?_
    show Steps p.tables e below (T27.setTop (mkF m 176 #[.val (.int cc), .val (.int kk), .val (.int dd), .unset, .unset, .unset, .unset] [(.int (63744 : Int32)), (.int (26 : Int32)), (.ref b1), (.ref b1)])) _
    refine st28 _ ?_
    show Steps p.tables e below (T28.setTop (mkF m 177 #[.val (.int cc), .val (.int kk), .val (.int dd), .unset, .unset, .unset, .unset] [(.ref b1)])) _
    refine XS.dup X28.here hx rfl (hb hby at_177) rfl rfl ?_
    show Steps p.tables e below (T28.setTop (mkF m 178 #[.val (.int cc), .val (.int kk), .val (.int dd), .unset, .unset, .unset, .unset] [(.ref b1), (.ref b1)])) _
    refine XS.bipush X28.here hx rfl (hb hby at_178) ?_
    show Steps p.tables e below (T28.setTop (mkF m 180 #[.val (.int cc), .val (.int kk), .val (.int dd), .unset, .unset, .unset, .unset] [(.int (27 : Int32)), (.ref b1), (.ref b1)])) _
    refine X28.ldcInt hx hown (mvT hZ (hw _ (List.mem_of_getElem? (i := 3) rfl))) (g := (mkF m 180 #[.val (.int cc), .val (.int kk), .val (.int dd), .unset, .unset, .unset, .unset] [(.int (27 : Int32)), (.ref b1), (.ref b1)])) rfl (hb hby at_180) _ ?_
    show Steps p.tables e below (T28.setTop (mkF m 182 #[.val (.int cc), .val (.int kk), .val (.int dd), .unset, .unset, .unset, .unset] [(.int (64975 : Int32)), (.int (27 : Int32)), (.ref b1), (.ref b1)])) _
    refine st29 _ ?_
    show Steps p.tables e below (T29.setTop (mkF m 183 #[.val (.int cc), .val (.int kk), .val (.int dd), .unset, .unset, .unset, .unset] [(.ref b1)])) _
    refine XS.dup X29.here hx rfl (hb hby at_183) rfl rfl ?_
    show Steps p.tables e below (T29.setTop (mkF m 184 #[.val (.int cc), .val (.int kk), .val (.int dd), .unset, .unset, .unset, .unset] [(.ref b1), (.ref b1)])) _
    refine XS.bipush X29.here hx rfl (hb hby at_184) ?_
    show Steps p.tables e below (T29.setTop (mkF m 186 #[.val (.int cc), .val (.int kk), .val (.int dd), .unset, .unset, .unset, .unset] [(.int (28 : Int32)), (.ref b1), (.ref b1)])) _
    refine X29.ldcInt hx hown (mvT hZ (hw _ (List.mem_of_getElem? (i := 4) rfl))) (g := (mkF m 186 #[.val (.int cc), .val (.int kk), .val (.int dd), .unset, .unset, .unset, .unset] [(.int (28 : Int32)), (.ref b1), (.ref b1)])) rfl (hb hby at_186) _ ?_
    show Steps p.tables e below (T29.setTop (mkF m 188 #[.val (.int cc), .val (.int kk), .val (.int dd), .unset, .unset, .unset, .unset] [(.int (65008 : Int32)), (.int (28 : Int32)), (.ref b1), (.ref b1)])) _
    refine st30 _ ?_
    show Steps p.tables e below (T30.setTop (mkF m 189 #[.val (.int cc), .val (.int kk), .val (.int dd), .unset, .unset, .unset, .unset] [(.ref b1)])) _
    refine XS.dup X30.here hx rfl (hb hby at_189) rfl rfl ?_
    show Steps p.tables e below (T30.setTop (mkF m 190 #[.val (.int cc), .val (.int kk), .val (.int dd), .unset, .unset, .unset, .unset] [(.ref b1), (.ref b1)])) _
    refine XS.bipush X30.here hx rfl (hb hby at_190) ?_
    show Steps p.tables e below (T30.setTop (mkF m 192 #[.val (.int cc), .val (.int kk), .val (.int dd), .unset, .unset, .unset, .unset] [(.int (29 : Int32)), (.ref b1), (.ref b1)])) _
    refine X30.ldcInt hx hown (mvT hZ (hw _ (List.mem_of_getElem? (i := 5) rfl))) (g := (mkF m 192 #[.val (.int cc), .val (.int kk), .val (.int dd), .unset, .unset, .unset, .unset] [(.int (29 : Int32)), (.ref b1), (.ref b1)])) rfl (hb hby at_192) _ ?_
    show Steps p.tables e below (T30.setTop (mkF m 194 #[.val (.int cc), .val (.int kk), .val (.int dd), .unset, .unset, .unset, .unset] [(.int (65533 : Int32)), (.int (29 : Int32)), (.ref b1), (.ref b1)])) _
    refine st31 _ ?_
    show Steps p.tables e below (T31.setTop (mkF m 195 #[.val (.int cc), .val (.int kk), .val (.int dd), .unset, .unset, .unset, .unset] [(.ref b1)])) _
    refine XS.dup X31.here hx rfl (hb hby at_195) rfl rfl ?_
    show Steps p.tables e below (T31.setTop (mkF m 196 #[.val (.int cc), .val (.int kk), .val (.int dd), .unset, .unset, .unset, .unset] [(.ref b1), (.ref b1)])) _
    refine XS.bipush X31.here hx rfl (hb hby at_196) ?_
    show Steps p.tables e below (T31.setTop (mkF m 198 #[.val (.int cc), .val (.int kk), .val (.int dd), .unset, .unset, .unset, .unset] [(.int (30 : Int32)), (.ref b1), (.ref b1)])) _
    refine X31.ldcInt hx hown (mvT hZ (hw _ (List.mem_of_getElem? (i := 6) rfl))) (g := (mkF m 198 #[.val (.int cc), .val (.int kk), .val (.int dd), .unset, .unset, .unset, .unset] [(.int (30 : Int32)), (.ref b1), (.ref b1)])) rfl (hb hby at_198) _ ?_
    show Steps p.tables e below (T31.setTop (mkF m 200 #[.val (.int cc), .val (.int kk), .val (.int dd), .unset, .unset, .unset, .unset] [(.int (65536 : Int32)), (.int (30 : Int32)), (.ref b1), (.ref b1)])) _
    refine st32 _ ?_
    show Steps p.tables e below (T32.setTop (mkF m 201 #[.val (.int cc), .val (.int kk), .val (.int dd), .unset, .unset, .unset, .unset] [(.ref b1)])) _
    refine XS.dup X32.here hx rfl (hb hby at_201) rfl rfl ?_
    show Steps p.tables e below (T32.setTop (mkF m 202 #[.val (.int cc), .val (.int kk), .val (.int dd), .unset, .unset, .unset, .unset] [(.ref b1), (.ref b1)])) _
    refine XS.bipush X32.here hx rfl (hb hby at_202) ?_
    show Steps p.tables e below (T32.setTop (mkF m 204 #[.val (.int cc), .val (.int kk), .val (.int dd), .unset, .unset, .unset, .unset] [(.int (31 : Int32)), (.ref b1), (.ref b1)])) _
    refine X32.ldcInt hx hown (mvT hZ (hw _ (List.mem_of_getElem? (i := 7) rfl))) (g := (mkF m 204 #[.val (.int cc), .val (.int kk), .val (.int dd), .unset, .unset, .unset, .unset] [(.int (31 : Int32)), (.ref b1), (.ref b1)])) rfl (hb hby at_204) _ ?_
    show Steps p.tables e below (T32.setTop (mkF m 206 #[.val (.int cc), .val (.int kk), .val (.int dd), .unset, .unset, .unset, .unset] [(.int (983039 : Int32)), (.int (31 : Int32)), (.ref b1), (.ref b1)])) _
    refine st33 _ ?_
    show Steps p.tables e below (T33.setTop (mkF m 207 #[.val (.int cc), .val (.int kk), .val (.int dd), .unset, .unset, .unset, .unset] [(.ref b1)])) _
    refine XS.astoreN X33.here hx rfl (hb hby at_207) rfl rfl (l' := #[.val (.int cc), .val (.int kk), .val (.int dd), .val (.ref b1), .unset, .unset, .unset]) rfl ?_
    show Steps p.tables e below (T33.setTop (mkF m 208 #[.val (.int cc), .val (.int kk), .val (.int dd), .val (.ref b1), .unset, .unset, .unset] [])) _
    refine XS.aloadN X33.here hx rfl (hb hby at_208) rfl rfl ?_
    show Steps p.tables e below (T33.setTop (mkF m 209 #[.val (.int cc), .val (.int kk), .val (.int dd), .val (.ref b1), .unset, .unset, .unset] [(.ref b1)])) _
    refine XS.iloadN X33.here hx rfl (hb hby at_209) rfl ?_
    show Steps p.tables e below (T33.setTop (mkF m 210 #[.val (.int cc), .val (.int kk), .val (.int dd), .val (.ref b1), .unset, .unset, .unset] [(.int kk), (.ref b1)])) _
    refine X33.ldcInt hx hown (mvT hZ (hw _ (List.mem_of_getElem? (i := 8) rfl))) (g := (mkF m 210 #[.val (.int cc), .val (.int kk), .val (.int dd), .val (.ref b1), .unset, .unset, .unset] [(.int kk), (.ref b1)])) rfl (hb hby at_210) _ ?_
    show Steps p.tables e below (T33.setTop (mkF m 212 #[.val (.int cc), .val (.int kk), .val (.int dd), .val (.ref b1), .unset, .unset, .unset] [(.int (2147483647 : Int32)), (.int kk), (.ref b1)])) _
    refine XS.iand X33.here hx rfl (hb hby at_212) rfl ?_
    show Steps p.tables e below (T33.setTop (mkF m 213 #[.val (.int cc), .val (.int kk), .val (.int dd), .val (.ref b1), .unset, .unset, .unset] [(.int (kk &&& (2147483647 : Int32))), (.ref b1)])) _
    refine XS.aloadN X33.here hx rfl (hb hby at_213) rfl rfl ?_
    show Steps p.tables e below (T33.setTop (mkF m 214 #[.val (.int cc), .val (.int kk), .val (.int dd), .val (.ref b1), .unset, .unset, .unset] [(.ref b1), (.int (kk &&& (2147483647 : Int32))), (.ref b1)])) _
    refine lnG X33 hx hZ e33 V33n (g := (mkF m 214 #[.val (.int cc), .val (.int kk), .val (.int dd), .val (.ref b1), .unset, .unset, .unset] [(.ref b1), (.int (kk &&& (2147483647 : Int32))), (.ref b1)])) rfl rfl (hb hby at_214) _ ?_
    show Steps p.tables e below (T33.setTop (mkF m 215 #[.val (.int cc), .val (.int kk), .val (.int dd), .val (.ref b1), .unset, .unset, .unset] [(.int (32 : Int32)), (.int (kk &&& (2147483647 : Int32))), (.ref b1)])) _
    refine iremM X33 hx rfl (hb hby at_215) rfl (by decide) ?_
    show Steps p.tables e below (T33.setTop (mkF m 216 #[.val (.int cc), .val (.int kk), .val (.int dd), .val (.ref b1), .unset, .unset, .unset] [(.int (v_ix kk)), (.ref b1)])) _
    refine rdI X33 hx hZ e33 V33n (j := (v_ix kk)) (own_ixin kk) rfl (g := (mkF m 216 #[.val (.int cc), .val (.int kk), .val (.int dd), .val (.ref b1), .unset, .unset, .unset] [(.int (v_ix kk)), (.ref b1)])) rfl rfl (hb hby at_216) _ ?_
    show Steps p.tables e below (T33.setTop (mkF m 217 #[.val (.int cc), .val (.int kk), .val (.int dd), .val (.ref b1), .unset, .unset, .unset] [(.int (v_tab (v_ix kk)))])) _
    refine XS.iloadN X33.here hx rfl (hb hby at_217) rfl ?_
    show Steps p.tables e below (T33.setTop (mkF m 218 #[.val (.int cc), .val (.int kk), .val (.int dd), .val (.ref b1), .unset, .unset, .unset] [(.int dd), (.int (v_tab (v_ix kk)))])) _
    refine X33.ldcInt hx hown (mvT hZ (hw _ (List.mem_of_getElem? (i := 8) rfl))) (g := (mkF m 218 #[.val (.int cc), .val (.int kk), .val (.int dd), .val (.ref b1), .unset, .unset, .unset] [(.int dd), (.int (v_tab (v_ix kk)))])) rfl (hb hby at_218) _ ?_
    show Steps p.tables e below (T33.setTop (mkF m 220 #[.val (.int cc), .val (.int kk), .val (.int dd), .val (.ref b1), .unset, .unset, .unset] [(.int (2147483647 : Int32)), (.int dd), (.int (v_tab (v_ix kk)))])) _
    refine XS.iand X33.here hx rfl (hb hby at_220) rfl ?_
    show Steps p.tables e below (T33.setTop (mkF m 221 #[.val (.int cc), .val (.int kk), .val (.int dd), .val (.ref b1), .unset, .unset, .unset] [(.int (dd &&& (2147483647 : Int32))), (.int (v_tab (v_ix kk)))])) _
    refine XS.iconst X33.here hx rfl (hb hby at_221) ?_
    show Steps p.tables e below (T33.setTop (mkF m 222 #[.val (.int cc), .val (.int kk), .val (.int dd), .val (.ref b1), .unset, .unset, .unset] [(.int (3 : Int32)), (.int (dd &&& (2147483647 : Int32))), (.int (v_tab (v_ix kk)))])) _
    refine iremM X33 hx rfl (hb hby at_222) rfl (by decide) ?_
    show Steps p.tables e below (T33.setTop (mkF m 223 #[.val (.int cc), .val (.int kk), .val (.int dd), .val (.ref b1), .unset, .unset, .unset] [(.int ((dd &&& (2147483647 : Int32)) % (3 : Int32))), (.int (v_tab (v_ix kk)))])) _
    refine XS.iadd X33.here hx rfl (hb hby at_223) rfl ?_
    show Steps p.tables e below (T33.setTop (mkF m 224 #[.val (.int cc), .val (.int kk), .val (.int dd), .val (.ref b1), .unset, .unset, .unset] [(.int ((v_tab (v_ix kk)) + ((dd &&& (2147483647 : Int32)) % (3 : Int32))))])) _
    refine XS.iconst X33.here hx rfl (hb hby at_224) ?_
    show Steps p.tables e below (T33.setTop (mkF m 225 #[.val (.int cc), .val (.int kk), .val (.int dd), .val (.ref b1), .unset, .unset, .unset] [(.int (1 : Int32)), (.int ((v_tab (v_ix kk)) + ((dd &&& (2147483647 : Int32)) % (3 : Int32))))])) _
    refine XS.isub X33.here hx rfl (hb hby at_225) rfl ?_
    show Steps p.tables e below (T33.setTop (mkF m 226 #[.val (.int cc), .val (.int kk), .val (.int dd), .val (.ref b1), .unset, .unset, .unset] [(.int (((v_tab (v_ix kk)) + ((dd &&& (2147483647 : Int32)) % (3 : Int32))) - (1 : Int32)))])) _
    refine XS.istore X33.here hx rfl (hb hby at_226) rfl (l' := #[.val (.int cc), .val (.int kk), .val (.int dd), .val (.ref b1), .val (.int (v_b kk dd)), .unset, .unset]) rfl ?_
    show Steps p.tables e below (T33.setTop (mkF m 228 #[.val (.int cc), .val (.int kk), .val (.int dd), .val (.ref b1), .val (.int (v_b kk dd)), .unset, .unset] [])) _
    refine XS.iloadN X33.here hx rfl (hb hby at_228) rfl ?_
    show Steps p.tables e below (T33.setTop (mkF m 229 #[.val (.int cc), .val (.int kk), .val (.int dd), .val (.ref b1), .val (.int (v_b kk dd)), .unset, .unset] [(.int cc)])) _
    refine st34 _ ?_
    show Steps p.tables e below (T34.setTop (mkF m 232 #[.val (.int cc), .val (.int kk), .val (.int dd), .val (.ref b1), .val (.int (v_b kk dd)), .unset, .unset] [(.int (b2i (F1 cc)))])) _
    refine XS.iloadN X34.here hx rfl (hb hby at_232) rfl ?_
    show Steps p.tables e below (T34.setTop (mkF m 233 #[.val (.int cc), .val (.int kk), .val (.int dd), .val (.ref b1), .val (.int (v_b kk dd)), .unset, .unset] [(.int cc), (.int (b2i (F1 cc)))])) _
    refine st35 _ ?_
    show Steps p.tables e below (T35.setTop (mkF m 236 #[.val (.int cc), .val (.int kk), .val (.int dd), .val (.ref b1), .val (.int (v_b kk dd)), .unset, .unset] [(.int (b2i (F2 cc))), (.int (b2i (F1 cc)))])) _
    refine XS.icmpNo X35.here hx rfl (hb hby at_236) rfl (teq (congrArg b2i (own_eq cc))).2 ?_
    show Steps p.tables e below (T35.setTop (mkF m 239 #[.val (.int cc), .val (.int kk), .val (.int dd), .val (.ref b1), .val (.int (v_b kk dd)), .unset, .unset] [])) _
    refine XS.iconst X35.here hx rfl (hb hby at_239) ?_
    show Steps p.tables e below (T35.setTop (mkF m 240 #[.val (.int cc), .val (.int kk), .val (.int dd), .val (.ref b1), .val (.int (v_b kk dd)), .unset, .unset] [(.int (1 : Int32))])) _
    refine XS.goto X35.here hx rfl (pc0 := 240) (pc' := 244) rfl (hb hby at_240) (by decide) (by decide) ?_
    show Steps p.tables e below (T35.setTop (mkF m 244 #[.val (.int cc), .val (.int kk), .val (.int dd), .val (.ref b1), .val (.int (v_b kk dd)), .unset, .unset] [(.int (1 : Int32))])) _
    refine XS.istore X35.here hx rfl (hb hby at_244) rfl (l' := #[.val (.int cc), .val (.int kk), .val (.int dd), .val (.ref b1), .val (.int (v_b kk dd)), .val (.int (1 : Int32)), .unset]) rfl ?_
    show Steps p.tables e below (T35.setTop (mkF m 246 #[.val (.int cc), .val (.int kk), .val (.int dd), .val (.ref b1), .val (.int (v_b kk dd)), .val (.int (1 : Int32)), .unset] [])) _
    refine XS.iload X35.here hx rfl (hb hby at_246) rfl ?_
    show Steps p.tables e below (T35.setTop (mkF m 248 #[.val (.int cc), .val (.int kk), .val (.int dd), .val (.ref b1), .val (.int (v_b kk dd)), .val (.int (1 : Int32)), .unset] [(.int (v_b kk dd))])) _
    refine st36 _ ?_
    show Steps p.tables e below (T36.setTop (mkF m 251 #[.val (.int cc), .val (.int kk), .val (.int dd), .val (.ref b1), .val (.int (v_b kk dd)), .val (.int (1 : Int32)), .unset] [(.int (b2i (F1 (v_b kk dd))))])) _
    refine XS.iload X36.here hx rfl (hb hby at_251) rfl ?_
    show Steps p.tables e below (T36.setTop (mkF m 253 #[.val (.int cc), .val (.int kk), .val (.int dd), .val (.ref b1), .val (.int (v_b kk dd)), .val (.int (1 : Int32)), .unset] [(.int (v_b kk dd)), (.int (b2i (F1 (v_b kk dd))))])) _
    refine st37 _ ?_
    show Steps p.tables e below (T37.setTop (mkF m 256 #[.val (.int cc), .val (.int kk), .val (.int dd), .val (.ref b1), .val (.int (v_b kk dd)), .val (.int (1 : Int32)), .unset] [(.int (b2i (F2 (v_b kk dd)))), (.int (b2i (F1 (v_b kk dd))))])) _
    refine XS.icmpNo X37.here hx rfl (hb hby at_256) rfl (teq (congrArg b2i (own_eq (v_b kk dd)))).2 ?_
    show Steps p.tables e below (T37.setTop (mkF m 259 #[.val (.int cc), .val (.int kk), .val (.int dd), .val (.ref b1), .val (.int (v_b kk dd)), .val (.int (1 : Int32)), .unset] [])) _
    refine XS.iconst X37.here hx rfl (hb hby at_259) ?_
    show Steps p.tables e below (T37.setTop (mkF m 260 #[.val (.int cc), .val (.int kk), .val (.int dd), .val (.ref b1), .val (.int (v_b kk dd)), .val (.int (1 : Int32)), .unset] [(.int (1 : Int32))])) _
    refine XS.goto X37.here hx rfl (pc0 := 260) (pc' := 264) rfl (hb hby at_260) (by decide) (by decide) ?_
    show Steps p.tables e below (T37.setTop (mkF m 264 #[.val (.int cc), .val (.int kk), .val (.int dd), .val (.ref b1), .val (.int (v_b kk dd)), .val (.int (1 : Int32)), .unset] [(.int (1 : Int32))])) _
    refine XS.istore X37.here hx rfl (hb hby at_264) rfl (l' := #[.val (.int cc), .val (.int kk), .val (.int dd), .val (.ref b1), .val (.int (v_b kk dd)), .val (.int (1 : Int32)), .val (.int (1 : Int32))]) rfl ?_
    show Steps p.tables e below (T37.setTop (mkF m 266 #[.val (.int cc), .val (.int kk), .val (.int dd), .val (.ref b1), .val (.int (v_b kk dd)), .val (.int (1 : Int32)), .val (.int (1 : Int32))] [])) _
    refine XS.iload X37.here hx rfl (hb hby at_266) rfl ?_
    show Steps p.tables e below (T37.setTop (mkF m 268 #[.val (.int cc), .val (.int kk), .val (.int dd), .val (.ref b1), .val (.int (v_b kk dd)), .val (.int (1 : Int32)), .val (.int (1 : Int32))] [(.int (1 : Int32))])) _
    refine XS.ifNo X37.here hx rfl (hb hby at_268) rfl ((if0 _ _).trans (feq (by decide)).1) ?_
    show Steps p.tables e below (T37.setTop (mkF m 271 #[.val (.int cc), .val (.int kk), .val (.int dd), .val (.ref b1), .val (.int (v_b kk dd)), .val (.int (1 : Int32)), .val (.int (1 : Int32))] [])) _
    refine XS.iload X37.here hx rfl (hb hby at_271) rfl ?_
    show Steps p.tables e below (T37.setTop (mkF m 273 #[.val (.int cc), .val (.int kk), .val (.int dd), .val (.ref b1), .val (.int (v_b kk dd)), .val (.int (1 : Int32)), .val (.int (1 : Int32))] [(.int (1 : Int32))])) _
    refine XS.ifNo X37.here hx rfl (hb hby at_273) rfl ((if0 _ _).trans (feq (by decide)).1) ?_
    show Steps p.tables e below (T37.setTop (mkF m 276 #[.val (.int cc), .val (.int kk), .val (.int dd), .val (.ref b1), .val (.int (v_b kk dd)), .val (.int (1 : Int32)), .val (.int (1 : Int32))] [])) _
    refine XS.iconst X37.here hx rfl (hb hby at_276) ?_
    show Steps p.tables e below (T37.setTop (mkF m 277 #[.val (.int cc), .val (.int kk), .val (.int dd), .val (.ref b1), .val (.int (v_b kk dd)), .val (.int (1 : Int32)), .val (.int (1 : Int32))] [(.int (1 : Int32))])) _
    refine XS.goto X37.here hx rfl (pc0 := 277) (pc' := 281) rfl (hb hby at_277) (by decide) (by decide) ?_
    exact k
  obtain ⟨fs, hr, hrun, hended, hW, hsame⟩ := X37.leave (v := some (.int (1 : Int32))) (fun h => by rw [Bd.returns] at h; cases h) (BodyLoose.notSynchronized Bd)
  refine ⟨_, _, pre38 _ ?_, hrun, hended, _, _, rfl, ?_, ⟨_, rfl⟩, hW, hsame.mono (by decide) (by decide)⟩
  · show Steps p.tables e below (T37.setTop (mkF m 281 #[.val (.int cc), .val (.int kk), .val (.int dd), .val (.ref b1), .val (.int (v_b kk dd)), .val (.int (1 : Int32)), .val (.int (1 : Int32))] [(.int (1 : Int32))])) _
    exact retN X37 hx (t := .boolean) Bd.returns (by simp) (hb hby at_281) hr
  · show Q0 Z cc kk dd h0 n0 _ T37.heap _
    rw [e37]
    exact ⟨rfl, N37⟩
set_option maxRecDepth 65536 in
set_option maxHeartbeats 40000000 in
theorem comes_1 {Post : Tables → Env → Array Value → State → Outcome → State → Prop} (hpost : ∀ tb e args s v u, (limb_1_1.after args s (.returned v) u = true ∧ limb_1_2.after args s (.returned v) u = true ∧ True) → FrameEnd s (.returned v) u (Jvm.fieldLocs frame_1_writes args s ++ Jvm.arrayLocs frame_1_arrays args s ++ Jvm.staticLocs frame_1_statics s) 16 128 → Post tb e args s (.returned v) u) :
    ArmFor flags0 classFile x code maxLocals ret World_1 tables_1 room_1 Calls_1 rest_1 Pre_1 Post := by
  intro l hfl _ _ p e ha hc hk s m args below hf hA hF happ hP
  obtain ⟨hcalls, hrest, hpre⟩ := hP
  obtain ⟨-, -, -, hnamed, -, -, -, hat⟩ := (Spec.applies_iff hf).mp happ
  obtain ⟨hg, hn⟩ := and_e (Cond.before_iff.mp (show (Jvm.Cond.and given_1 narrow_1).before args s = true from hpre))
  obtain ⟨g1, g2⟩ := and_e hg
  obtain ⟨g3, g4⟩ := and_e g2
  obtain ⟨g5, g6⟩ := and_e g4
  obtain ⟨w0, w1, w2, rfl⟩ : ∃ w0 w1 w2 : Value, args = #[w0, w1, w2] := by
    have hs : args.size = 3 := by simpa [Cond.value, given_1] using g1
    obtain ⟨L⟩ := args
    match L, hs with
    | [w0, w1, w2], _ => exact ⟨w0, w1, w2, rfl⟩
  have hw := fun d (hd : d ∈ tables_1) => atoms_spec (ws := Jvm.Cond.code x code maxLocals ret :: tables_1) hat d (List.mem_cons_of_mem _ hd)
  obtain ⟨i0, ei0⟩ := is_v g3
  obtain rfl : w0 = (.int i0) := Option.some.inj ei0
  obtain ⟨i1, ei1⟩ := is_v g5
  obtain rfl : w1 = (.int i1) := Option.some.inj ei1
  obtain ⟨i2, ei2⟩ := is_v g6
  obtain rfl : w2 = (.int i2) := Option.some.inj ei2
  obtain ⟨n, o, h1, h2, h3, _, L, rfl, ⟨rfl, N⟩, hq⟩ := rm0 l s _ hw tables_1 i0 i1 i2 s.heap s.heap.size (Nat.le_refl _) p e ha hc hk s m _ below hf ((Spec.applies_iff_loose hf).mp happ).1 ⟨rfl, State.Warmed39.refl s, rfl⟩ trivial
  refine ⟨n, _, h1, h2, h3, hpost _ _ _ _ _ _ ⟨Cond.after_iff.mpr rfl, Cond.after_iff.mpr (eq_i res_at (Term.int_eval (1)) rfl), trivial⟩ ⟨hq.1, hq.2.1, (hq.2.2.sift fun y hy => Or.inr (N y hy)).mono (by decide) (by decide)⟩⟩
theorem main_1_1 : Claimed_1_1 := comes_1 fun _ _ _ _ _ _ h hF => ⟨h.1, hF⟩
theorem main_1_2 : Claimed_1_2 := comes_1 fun _ _ _ _ _ _ h hF => ⟨h.2.1, hF⟩
end Jvm.Pilot.@@N@@
namespace Jvm.Pilot.@@N@@
open Jvm Jvm.ClassFile Sem Op Lib Jvm.Free Jvm.Stand Jvm.Pilot.@@N@@.Jvm.D
/-! MADE BY PROGRAM (witnessworld.py) out of the Statement's table words and the real class files: 9 classes; the members and pool entries that the words name. The judged class is class 1, her method 2. -/
namespace start1
open Jvm.ClassFile
def u (s : String) : CpInfo := .utf8 (stringToUtf16 s)
/-- a pool by its gaps: so many unusable entries, then the entry; so many at the end -/
def gap : Nat → List CpInfo → List CpInfo
  | 0, r => r
  | n + 1, r => .unusable :: gap n r
def poolList (es : List (Nat × CpInfo)) (last : Nat) : List CpInfo := es.foldr (fun e r => gap e.1 (e.2 :: r)) (gap last [])
def pool (es : List (Nat × CpInfo)) (last : Nat) : Array CpInfo := ⟨poolList es last⟩
def fileOf (pool : Array CpInfo) (this : Nat) (attrs : Array Attribute := #[]) (ms : Array MethodInfo := #[]) (fl : Nat := 33) (sup : Nat := 0) (ifs : Array Nat := #[]) (fds : Array FieldInfo := #[]) : ClassFile where
  minorVersion := 0
  majorVersion := 65
  constantPool := pool
  accessFlags := fl
  thisClass := this
  superClass := sup
  interfaces := ifs
  fields := fds
  methods := ms
  attributes := attrs
def plain (name : String) (sup : Option ClassId) : Class where
  name := name
  kind := .ordinary
  loader := none
  accessFlags := 33
  super := sup
  interfaces := #[]
  cf := none
  fields := #[]
  methods := #[]
  instanceTypes := #[]
  staticTypes := #[]
  resolved := #[]
  callSites := []
  init := .initialized
  statics := none
  mirror := none

def pool0 : Array CpInfo := pool [(5, u "<init>"), (0, u "()V"), (1, .class_ 10), (1, u "java/lang/Object")] 113

def k0m0 : Method := { name := "<init>", desc := "()V", sig := { parameters := [], returnType := none }, accessFlags := 1, code := none }
/-- java/lang/Object -/
def k0 : Class := { plain "java/lang/Object" none with
  accessFlags := 33
  interfaces := #[]
  cf := some (fileOf pool0 8 #[] #[{ accessFlags := 1, nameIndex := 5, descriptorIndex := 6, attributes := #[] }] 33 0 #[] #[])
  fields := #[]
  methods := #[k0m0]
  instanceTypes := #[]
  staticTypes := #[]
  resolved := Array.replicate 124 none
  statics := none }

def pool1 : Array CpInfo := pool [(2, .class_ 4), (1, u "java/lang/Object"), (0, u "<init>"), (0, u "()V"), (0, .integer 983039), (0, .integer 55296), (0, .integer 63743), (0, .integer 64976), (0, .integer 65007), (0, .integer 65534), (0, .integer 65535), (0, .integer 55295), (0, .integer 63744), (0, .integer 64975), (0, .integer 65008), (0, .integer 65533), (0, .integer 65536), (0, .integer 2147483647), (0, .methodref 22 23), (0, .class_ 24), (0, .nameAndType 25 26), (0, u "com/example/tamsui/tamsui/xml/XmlChars"), (0, u "isNameStart"), (0, u "(I)Z"), (0, .methodref 28 29), (0, .class_ 30), (0, .nameAndType 31 26), (0, u "com/example/tamsui/tamsui/xml/XmlCharsIsNameStartPinLaw"), (0, u "ref"), (3, u "law"), (0, u "(III)Z")] 4

def k1m0 : Method := { name := "<init>", desc := "()V", sig := { parameters := [], returnType := none }, accessFlags := 2, code := none }
def k1c1 : Code := { maxStack := 2, maxLocals := 1, code := method_2_code, exceptionTable := #[], attributes := #[] }
def k1m1 : Method := { name := "ref", desc := "(I)Z", sig := { parameters := [.int], returnType := some .boolean }, accessFlags := 10, code := some k1c1 }
def k1c2 : Code := { maxStack := 4, maxLocals := 7, code := code, exceptionTable := #[], attributes := #[] }
def k1m2 : Method := { name := "law", desc := "(III)Z", sig := { parameters := [.int, .int, .int], returnType := some .boolean }, accessFlags := 9, code := some k1c2 }
/-- com/example/tamsui/tamsui/xml/XmlCharsIsNameStartPinLaw -/
def k1 : Class := { plain "com/example/tamsui/tamsui/xml/XmlCharsIsNameStartPinLaw" (some 0) with
  accessFlags := 49
  interfaces := #[]
  cf := some (fileOf pool1 28 #[] #[{ accessFlags := 2, nameIndex := 5, descriptorIndex := 6, attributes := #[] }, { accessFlags := 10, nameIndex := 31, descriptorIndex := 26, attributes := #[] }, { accessFlags := 9, nameIndex := 35, descriptorIndex := 36, attributes := #[] }] 49 2 #[] #[])
  fields := #[]
  methods := #[k1m0, k1m1, k1m2]
  instanceTypes := #[]
  staticTypes := #[]
  resolved := Array.replicate 41 none
  statics := none }

def pool2 : Array CpInfo := pool [(2, .class_ 4), (1, u "java/lang/Object"), (0, u "<init>"), (0, u "()V"), (0, .integer 55295), (1, .integer 65533), (0, .integer 65536), (1, .integer 63744), (0, .integer 64975), (0, .integer 65008), (0, .integer 983039), (1, .class_ 19), (1, u "com/example/tamsui/tamsui/xml/XmlChars"), (0, u "isNameStart"), (0, u "(I)Z")] 17

def k2m0 : Method := { name := "<init>", desc := "()V", sig := { parameters := [], returnType := none }, accessFlags := 2, code := none }
def k2c1 : Code := { maxStack := 2, maxLocals := 2, code := prog_157_method_4_code, exceptionTable := #[], attributes := #[] }
def k2m1 : Method := { name := "isNameStart", desc := "(I)Z", sig := { parameters := [.int], returnType := some .boolean }, accessFlags := 8, code := some k2c1 }
/-- com/example/tamsui/tamsui/xml/XmlChars -/
def k2 : Class := { plain "com/example/tamsui/tamsui/xml/XmlChars" (some 0) with
  accessFlags := 48
  interfaces := #[]
  cf := some (fileOf pool2 17 #[] #[{ accessFlags := 2, nameIndex := 5, descriptorIndex := 6, attributes := #[] }, { accessFlags := 8, nameIndex := 20, descriptorIndex := 21, attributes := #[] }] 48 2 #[] #[])
  fields := #[]
  methods := #[k2m0, k2m1]
  instanceTypes := #[]
  staticTypes := #[]
  resolved := Array.replicate 39 none
  statics := none }

def pool3 : Array CpInfo := pool [(1, u "java/lang/Cloneable"), (0, .class_ 1), (0, u "java/lang/Object"), (0, .class_ 3)] 3

/-- java/lang/Cloneable -/
def k3 : Class := { plain "java/lang/Cloneable" (some 0) with
  accessFlags := 1537
  interfaces := #[]
  cf := some (fileOf pool3 2 #[] #[] 1537 4 #[] #[])
  fields := #[]
  methods := #[]
  instanceTypes := #[]
  staticTypes := #[]
  resolved := Array.replicate 8 none
  statics := none }

def pool4 : Array CpInfo := pool [(1, u "java/io/Serializable"), (0, .class_ 1), (0, u "java/lang/Object"), (0, .class_ 3)] 3

/-- java/io/Serializable -/
def k4 : Class := { plain "java/io/Serializable" (some 0) with
  accessFlags := 1537
  interfaces := #[]
  cf := some (fileOf pool4 2 #[] #[] 1537 4 #[] #[])
  fields := #[]
  methods := #[]
  instanceTypes := #[]
  staticTypes := #[]
  resolved := Array.replicate 8 none
  statics := none }

/-- the primitive byte -/
def k5 : Class := { plain "byte" none with kind := .primitive 'B', accessFlags := 0x411 }
/-- [B -/
def k6 : Class := { plain "[B" (some 0) with kind := .array 5 .byte, interfaces := #[3, 4], accessFlags := 1041 }

/-- the primitive int -/
def k7 : Class := { plain "int" none with kind := .primitive 'I', accessFlags := 0x411 }
/-- [I -/
def k8 : Class := { plain "[I" (some 0) with kind := .array 7 .int, interfaces := #[3, 4], accessFlags := 1041 }

def heap : Heap := #[]
def classes : Array Class := #[k0, k1, k2, k3, k4, k5, k6, k7, k8]
def interned : List (Array UInt16 × Addr) := []
def slotsUsed : Nat := 0
def theMethod : MethodId := ⟨1, 2⟩
def args0 : Array Value := #[.int 65, .int 3, .int 2]
def aboutOver (below : List Frame) : State where
  vm := { classes := classes, interned := interned.toArray }
  heap := heap
  slotsUsed := slotsUsed
  threads := #[{ frames := .invoking theMethod args0 :: below }]
def below0 : List Frame := [.native { method := ⟨0, 0⟩, args := #[] }]
def about1 : State := aboutOver below0
def p0 : Program := .bare "" "" ""
def e0 : Env := launch0.env 0 0 0
theorem w_frames : about1.frames = Frame.invoking theMethod args0 :: below0 := rfl
set_option maxRecDepth 65536 in
theorem w_args : argsFit about1.vm theMethod args0 = true := by decide +kernel
set_option maxRecDepth 65536 in
theorem w_heap : heapFits about1 = true := by decide +kernel
set_option maxRecDepth 65536 in
theorem w_runnable : about1.curStatus? = some .runnable := by decide +kernel
set_option maxRecDepth 65536 in
theorem w_alone : about1.alone = true := by decide +kernel
set_option maxRecDepth 65536 in
theorem w_named : about1.methodNamed? x = some theMethod := by decide +kernel
set_option maxRecDepth 65536 in
theorem w_hears : about1.hears theMethod below0 = true := by decide +kernel
set_option maxRecDepth 65536 in
theorem w_ripe : about1.ripe theMethod args0 below0 = true := by decide +kernel
theorem w_running : about1.status = .running := rfl
set_option maxRecDepth 65536 in
theorem w_room : about1.hasRoom e0.platform room_1 = true :=
  launch0.hasRoom_least _ room_1 (by decide +kernel) (by decide +kernel) (by decide +kernel) (by decide +kernel) (by decide +kernel) (by decide +kernel)
theorem allAtoms_all (ts : List Jvm.Cond) (a : Array Jvm.Value) (st : Jvm.State) : (allAtoms ts).before a st = ts.all (fun c => c.before a st) := by
  induction ts with
  | nil => rfl
  | cons c t ih =>
    show (Jvm.Cond.and c (allAtoms t)).before a st = _
    rw [Jvm.Cond.before_and, ih, List.all_cons]
def words1 : List Jvm.Cond := Jvm.Cond.code x code maxLocals ret :: tables_1
/-- a 'code' word, met by the world's own term for the bytes: nothing is compared byte by byte -/
theorem code_word {y : MethodName} {bytes : ByteArray} {mx : Nat} {rt : Option FieldType} {a : Array Value} {s : State} {m : MethodId} {meth : Method} {c : Code} (h1 : s.methodNamed? y = some m) (h2 : s.vm.method? m = some meth) (h3 : meth.code = some c) (h4 : c.code = bytes)
    (h5 : (c.maxLocals == mx && c.exceptionTable.isEmpty && decide (c.maxStack ≤ mostOperands) && decide (meth.sig.returnType = rt) && !meth.locks && decide (parseMethodDescriptor y.desc = some meth.sig)) = true) : (Jvm.Cond.code y bytes mx rt).before a s = true := by
  simp only [Bool.and_eq_true, beq_iff_eq, Bool.not_eq_true', decide_eq_true_eq] at h5
  obtain ⟨⟨⟨⟨⟨g1, g2⟩, g3⟩, g4⟩, g5⟩, g6⟩ := h5
  simp [Cond.before, Cond.holds, Cond.value, h1, h2, h3, h4, g1, g2, g3, g4, g5, g6]
def isCode : Jvm.Cond → Bool
  | .code _ _ _ _ => true
  | _ => false
theorem all_split {L : List Jvm.Cond} {P : Jvm.Cond → Bool} (h1 : L.all (fun c => isCode c || P c) = true) (h2 : ∀ c ∈ L.filter isCode, P c = true) : L.all P = true := by
  refine List.all_eq_true.mpr fun c hc => ?_
  have h := List.all_eq_true.mp h1 c hc
  rcases Bool.eq_false_or_eq_true (isCode c) with hi | hi
  · exact h2 c (List.mem_filter.mpr ⟨hc, hi⟩)
  · simpa [hi] using h
set_option maxRecDepth 65536 in
theorem w_c0 : (Jvm.Cond.code x code maxLocals ret).before args0 about1 = true := code_word (m := ⟨1, 2⟩) (meth := k1m2) (c := k1c2) (by decide +kernel) rfl rfl rfl (by decide +kernel)
set_option maxRecDepth 65536 in
theorem w_c1 : (Jvm.Cond.code ({ cls := "com/example/tamsui/tamsui/xml/XmlChars", name := "isNameStart", desc := "(I)Z" } : Jvm.MethodName) prog_157_method_4_code (2 : Nat) (Option.some Jvm.ClassFile.FieldType.boolean)).before args0 about1 = true := code_word (m := ⟨2, 1⟩) (meth := k2m1) (c := k2c1) (by decide +kernel) rfl rfl rfl (by decide +kernel)
set_option maxRecDepth 65536 in
theorem w_c2 : (Jvm.Cond.code ({ cls := "com/example/tamsui/tamsui/xml/XmlCharsIsNameStartPinLaw", name := "ref", desc := "(I)Z" } : Jvm.MethodName) method_2_code (1 : Nat) (Option.some Jvm.ClassFile.FieldType.boolean)).before args0 about1 = true := code_word (m := ⟨1, 1⟩) (meth := k1m1) (c := k1c1) (by decide +kernel) rfl rfl rfl (by decide +kernel)
def codes1 : List Jvm.Cond := [Jvm.Cond.code x code maxLocals ret, Jvm.Cond.code ({ cls := "com/example/tamsui/tamsui/xml/XmlChars", name := "isNameStart", desc := "(I)Z" } : Jvm.MethodName) prog_157_method_4_code (2 : Nat) (Option.some Jvm.ClassFile.FieldType.boolean), Jvm.Cond.code ({ cls := "com/example/tamsui/tamsui/xml/XmlCharsIsNameStartPinLaw", name := "ref", desc := "(I)Z" } : Jvm.MethodName) method_2_code (1 : Nat) (Option.some Jvm.ClassFile.FieldType.boolean)]
set_option maxRecDepth 65536 in
theorem codes_eq : words1.filter isCode = codes1 := rfl
theorem w_codes : ∀ c ∈ words1.filter isCode, c.before args0 about1 = true := by
  rw [codes_eq]
  intro c hc
  simp only [codes1, List.mem_cons, List.not_mem_nil, or_false] at hc
  rcases hc with rfl | rfl | rfl
  · exact w_c0
  · exact w_c1
  · exact w_c2
set_option maxRecDepth 65536 in
theorem w_t1 : (words1.take 24).all (fun c => isCode c || c.before args0 about1) = true := by decide +kernel
set_option maxRecDepth 65536 in
theorem w_t2 : (words1.drop 24).all (fun c => isCode c || c.before args0 about1) = true := by decide +kernel
theorem w_tables : (allAtoms (Jvm.Cond.code x code maxLocals ret :: tables_1)).before args0 about1 = true := by
  rw [allAtoms_all]
  show words1.all (fun c => c.before args0 about1) = true
  refine all_split ?_ w_codes
  rw [← List.take_append_drop 24 words1, List.all_append, w_t1, w_t2]
  rfl
set_option maxRecDepth 65536 in
theorem w_case : (Jvm.Cond.and given_1 narrow_1).before args0 about1 = true := by decide +kernel
theorem w_applies : (headSpec (Jvm.Cond.code x code maxLocals ret :: tables_1) room_1).applies x e0.platform about1 = true :=
  (Spec.applies_iff w_frames).mpr ⟨w_running, w_runnable, w_alone, w_named, w_hears, w_ripe, w_room, w_tables⟩
theorem atStart : AtStart classFile x code maxLocals ret World_1 tables_1 room_1 Calls_1 rest_1 Pre_1 launch0 p0 e0 about1 theMethod args0 below0 :=
  ⟨lists_1, trivial, launch0.admits_env _ _ _, launch0.least_env, fairChoices_fair.cas, fairChoices_fair.clock, w_frames, w_args, w_heap, w_applies, trivial, trivial, w_case⟩
end start1
theorem witness_1 : WitnessClaimed_1 := ⟨start1.p0, start1.e0, start1.about1, start1.theMethod, start1.args0, start1.below0, start1.atStart⟩
end Jvm.Pilot.@@N@@
