import JvmDerived
import JvmDerived.Pilot.@@N@@Statement
import JvmDerived.Pilot.@@N@@Code
set_option linter.unusedVariables false
set_option linter.unusedSimpArgs false
namespace Jvm.RoadKit
open Sem ClassFile Op Lib Jvm.Stand Jvm.Free Jvm.LawKit
section New
variable {p : Program} {l : Launch} {e : Env} {R : Room} {s : State} {m : MethodId} {args : Array Value} {below : List Frame} {meth : Method} {c : Code} {T : State} {locs : List Loc} {cells slots : Nat}
theorem retI (X : Stand p l e R s m args below meth c T locs cells slots) (hx : p.tables.exec = Jvm.exec) {pc : Nat} {Ls : Array Slot} {z : Int32} {rest : List Value} (hret : meth.sig.returnType = some .int) (hd : decode c.code pc = .ok (.ireturn, 1)) {fs : List Frame}
    (hl : ∀ (f : JFrame) (acts : List Action), f.method = m → f.locked = none → f.entered = [] → (doReturn e (T.setTop f) acts (some (.int z))).1 = T.setFrames fs) : Steps p.tables e below (T.setTop (mkF m pc Ls (.int z :: rest))) (T.setFrames fs) := by
  have hm' : T.vm.method? m = some meth := X.method'
  have hn : narrow .int (.int z) = .int z := rfl
  show Steps p.tables e below (T.setTop { method := m, pc := pc, locals := Ls, stack := _ :: rest, locked := none }) _
  jvm_step X.here [X.here.top, hx, hd, hm', hret, hn]
  first | (intro acts; rw [hl _ acts rfl rfl rfl]) | rw [hl _ _ rfl rfl rfl]
  exact Steps.refl _
end New
end Jvm.RoadKit
namespace Jvm.OwnKit
open Sem ClassFile Op Lib Jvm.Stand Jvm.Free Jvm.LawKit Jvm.RoadKit
def b2i (b : Bool) : Int32 := if b = true then 1 else 0
theorem b2i_eq {b : Bool} (h : ¬ b = true) : b2i b = 0 := if_neg h
theorem b2i_ne {b : Bool} (h : b = true) : ¬ b2i b = 0 := by rw [b2i, if_pos h]; decide
theorem nar_b2i (b : Bool) : nar .boolean (b2i b) = b2i b := by cases b <;> decide
theorem b2i_one {b : Bool} (h : b = true) : nar .boolean (b2i b) = 1 := by rw [h]; decide
end Jvm.OwnKit
namespace Jvm.OwnKit
open Sem ClassFile Op Lib Jvm.Stand Jvm.Free Jvm.LawKit Jvm.RoadKit
section Arrays
variable {Z : State} {h h' : Heap} {a b : Addr} {ty : FieldType} {z : Int32} {G : Int32 → Value}
def AG (Z : State) (h : Heap) (a : Addr) (ty : FieldType) (z : Int32) (G : Int32 → Value) : Prop := ∃ c : Cell, Arr Z h a c ty ∧ c.slots.size = z.toNatClampNeg ∧ ¬ z < 0 ∧ ∀ j : Int32, ¬ j < 0 → j < z → c.slots[j.toNatClampNeg]? = some (G j)
def AJ (Z : State) (h : Heap) (a : Addr) (z : Int32) (f : Int32 → Int64) : Prop := AG Z h a .long z (fun i => .long (f i))
def AI (Z : State) (h : Heap) (a : Addr) (ty : FieldType) (z : Int32) (f : Int32 → Int32) : Prop := AG Z h a ty z (fun i => .int (f i))
def upd {α : Type} (f : Int32 → α) (j : Int32) (v : α) : Int32 → α := fun i => if i = j then v else f i
theorem upd_hit {α : Type} {f : Int32 → α} {j : Int32} {v : α} : upd f j v j = v := if_pos rfl
theorem upd_miss {α : Type} {f : Int32 → α} {i j : Int32} {v : α} (q : ¬ i = j) : upd f j v i = f i := if_neg q
theorem AG.lt (F : AG Z h a ty z G) : a < h.size := by obtain ⟨c, A, -⟩ := F; exact A.lt
theorem AG.ext (F : AG Z h a ty z G) (E : Ext h h') : AG Z h' a ty z G := by obtain ⟨c, A, r⟩ := F; exact ⟨c, A.ext E, r⟩
theorem AG.other (F : AG Z h b ty z G) {sl : Nat} {v : Value} (W : Wr h h' a sl v) (q : b ≠ a) : AG Z h' b ty z G := by obtain ⟨c, A, r⟩ := F; exact ⟨c, A.other W q, r⟩
theorem AG.new {k : ClassId} (A : Arr Z h a (newA k ty z) ty) (q : ¬ z < 0) : AG Z h a ty z (fun _ => defaultValue ty) :=
  ⟨_, A, sz_new _ _ _, q, fun j h1 h2 => get_new (by have w := inb_of (sz_new k ty z) ⟨h1, h2⟩; rwa [sz_new] at w)⟩
theorem AG.set (F : AG Z h a ty z G) {j : Int32} {v : Value} (W : Wr h h' a j.toNatClampNeg v) (q : ¬ j < 0 ∧ j < z) : AG Z h' a ty z (upd G j v) := by
  obtain ⟨c, A, S, M, H⟩ := F
  refine ⟨_, A.same W, by rw [sz_set]; exact S, M, fun i h1 h2 => ?_⟩
  by_cases e : i = j
  · rw [upd, if_pos e]; exact get_hit (inb_of S q) e
  · rw [upd, if_neg e, get_miss q.1 h1 e]; exact H i h1 h2
theorem AG.keep (F : AG Z h a ty z G) {ws : List Addr} (K : Keep h h' ws) (q : a ∉ ws) : AG Z h' a ty z G := by obtain ⟨c, A, r⟩ := F; exact ⟨c, ⟨K.2.1 a c A.1 q, A.2⟩, r⟩
theorem AJ.keep {f : Int32 → Int64} (F : AJ Z h a z f) {ws : List Addr} (K : Keep h h' ws) (q : a ∉ ws) : AJ Z h' a z f := AG.keep F K q
theorem AI.keep {f : Int32 → Int32} (F : AI Z h a ty z f) {ws : List Addr} (K : Keep h h' ws) (q : a ∉ ws) : AI Z h' a ty z f := AG.keep F K q
theorem AJ.lt {f : Int32 → Int64} (F : AJ Z h a z f) : a < h.size := AG.lt F
theorem AI.lt {f : Int32 → Int32} (F : AI Z h a ty z f) : a < h.size := AG.lt F
theorem AJ.ext {f : Int32 → Int64} (F : AJ Z h a z f) (E : Ext h h') : AJ Z h' a z f := AG.ext F E
theorem AI.ext {f : Int32 → Int32} (F : AI Z h a ty z f) (E : Ext h h') : AI Z h' a ty z f := AG.ext F E
theorem AJ.other {f : Int32 → Int64} (F : AJ Z h b z f) {sl : Nat} {v : Value} (W : Wr h h' a sl v) (q : b ≠ a) : AJ Z h' b z f := AG.other F W q
theorem AI.other {f : Int32 → Int32} (F : AI Z h b ty z f) {sl : Nat} {v : Value} (W : Wr h h' a sl v) (q : b ≠ a) : AI Z h' b ty z f := AG.other F W q
theorem AJ.set {f : Int32 → Int64} (F : AJ Z h a z f) {j : Int32} {v : Int64} (W : Wr h h' a j.toNatClampNeg (.long v)) (q : ¬ j < 0 ∧ j < z) : AJ Z h' a z (upd f j v) := by
  have e : (fun i => Value.long (upd f j v i)) = upd (fun i => Value.long (f i)) j (.long v) := funext fun i => by unfold upd; split <;> rfl
  unfold AJ; rw [e]; exact AG.set F W q
theorem AI.set {f : Int32 → Int32} (F : AI Z h a ty z f) {j v : Int32} (W : Wr h h' a j.toNatClampNeg (.int v)) (q : ¬ j < 0 ∧ j < z) : AI Z h' a ty z (upd f j v) := by
  have e : (fun i => Value.int (upd f j v i)) = upd (fun i => Value.int (f i)) j (.int v) := funext fun i => by unfold upd; split <;> rfl
  unfold AI; rw [e]; exact AG.set F W q
theorem AJ.congr {f g : Int32 → Int64} (F : AJ Z h a z f) (q : ∀ j : Int32, ¬ j < 0 → j < z → f j = g j) : AJ Z h a z g := by
  obtain ⟨c, A, S, M, H⟩ := F; exact ⟨c, A, S, M, fun j h1 h2 => (H j h1 h2).trans (congrArg (fun v => some (Value.long v)) (q j h1 h2))⟩
theorem AI.congr {f g : Int32 → Int32} (F : AI Z h a ty z f) (q : ∀ j : Int32, ¬ j < 0 → j < z → f j = g j) : AI Z h a ty z g := by
  obtain ⟨c, A, S, M, H⟩ := F; exact ⟨c, A, S, M, fun j h1 h2 => (H j h1 h2).trans (congrArg (fun v => some (Value.int v)) (q j h1 h2))⟩
theorem AJ.new {k : ClassId} (A : Arr Z h a (newA k .long z) .long) (q : ¬ z < 0) : AJ Z h a z (fun _ => 0) := AG.new A q
theorem AI.new {k : ClassId} (A : Arr Z h a (newA k .int z) .int) (q : ¬ z < 0) : AI Z h a .int z (fun _ => 0) := AG.new A q
theorem AI.newB {k : ClassId} (A : Arr Z h a (newA k .byte z) .byte) (q : ¬ z < 0) : AI Z h a .byte z (fun _ => 0) := AG.new A q
theorem AI.newZ {k : ClassId} (A : Arr Z h a (newA k .boolean z) .boolean) (q : ¬ z < 0) : AI Z h a .boolean z (fun _ => 0) := AG.new A q
variable {p : Program} {l : Launch} {e : Env} {R : Room} {s : State} {m : MethodId} {args : Array Value} {below : List Frame} {meth : Method} {c : Code} {T : State} {locs : List Loc} {cells slots : Nat} {g : JFrame} {rest : List Value} {j : Int32}
theorem rdJ {f : Int32 → Int64} {y : Int64} (X : Stand p l e R s m args below meth c T locs cells slots) (hx : p.tables.exec = Jvm.exec) (hZ : Z.Warmed39 s.vm) (eT : T.heap = h) (F : AJ Z h a z f) (q : ¬ j < 0 ∧ j < z) (hv : f j = y) (hg : g.method = m) (hs : g.stack = .int j :: .ref a :: rest) (hd : decode c.code g.pc = .ok (.laload, 1)) (target : State)
    (hr : Steps p.tables e below (T.setTop { g with pc := g.pc + 1, stack := .long y :: rest }) target) : Steps p.tables e below (T.setTop g) target := by
  subst hv
  obtain ⟨cl, A, S, M, H⟩ := F
  exact X.laload hx (by rw [eT]; exact A.1) (State.isArrayOf_alike hZ.alike A.2.1) A.2.2 (inb_of S q) (H j q.1 q.2) hg hs hd target hr
theorem rdI {f : Int32 → Int32} {y : Int32} (X : Stand p l e R s m args below meth c T locs cells slots) (hx : p.tables.exec = Jvm.exec) (hZ : Z.Warmed39 s.vm) (eT : T.heap = h) (F : AI Z h a .int z f) (q : ¬ j < 0 ∧ j < z) (hv : f j = y) (hg : g.method = m) (hs : g.stack = .int j :: .ref a :: rest) (hd : decode c.code g.pc = .ok (.iaload, 1)) (target : State)
    (hr : Steps p.tables e below (T.setTop { g with pc := g.pc + 1, stack := .int y :: rest }) target) : Steps p.tables e below (T.setTop g) target := by
  subst hv
  obtain ⟨cl, A, S, M, H⟩ := F
  exact X.iaload hx (by rw [eT]; exact A.1) (State.isArrayOf_alike hZ.alike A.2.1) A.2.2 (inb_of S q) (H j q.1 q.2) hg hs hd target hr
theorem rdB {f : Int32 → Int32} {y : Int32} (X : Stand p l e R s m args below meth c T locs cells slots) (hx : p.tables.exec = Jvm.exec) (hZ : Z.Warmed39 s.vm) (eT : T.heap = h) (F : AI Z h a .byte z f) (q : ¬ j < 0 ∧ j < z) (hv : f j = y) (hg : g.method = m) (hs : g.stack = .int j :: .ref a :: rest) (hd : decode c.code g.pc = .ok (.baload, 1)) (target : State)
    (hr : Steps p.tables e below (T.setTop { g with pc := g.pc + 1, stack := .int y :: rest }) target) : Steps p.tables e below (T.setTop g) target := by
  subst hv
  obtain ⟨cl, A, S, M, H⟩ := F
  exact X.baloadBytes hx (by rw [eT]; exact A.1) (State.isArrayOf_alike hZ.alike A.2.1) A.2.2 (inb_of S q) (H j q.1 q.2) hg hs hd target hr
theorem rdZ {f : Int32 → Int32} {y : Int32} (X : Stand p l e R s m args below meth c T locs cells slots) (hx : p.tables.exec = Jvm.exec) (hZ : Z.Warmed39 s.vm) (eT : T.heap = h) (F : AI Z h a .boolean z f) (q : ¬ j < 0 ∧ j < z) (hv : f j = y) (hg : g.method = m) (hs : g.stack = .int j :: .ref a :: rest) (hd : decode c.code g.pc = .ok (.baload, 1)) (target : State)
    (hr : Steps p.tables e below (T.setTop { g with pc := g.pc + 1, stack := .int y :: rest }) target) : Steps p.tables e below (T.setTop g) target := by
  subst hv
  obtain ⟨cl, A, S, M, H⟩ := F
  exact X.baloadBooleans hx (by rw [eT]; exact A.1) (State.isArrayOf_alike hZ.alike A.2.1) A.2.2 (inb_of S q) (H j q.1 q.2) hg hs hd target hr
theorem lnG (X : Stand p l e R s m args below meth c T locs cells slots) (hx : p.tables.exec = Jvm.exec) (hZ : Z.Warmed39 s.vm) (eT : T.heap = h) (F : AG Z h a ty z G) (hg : g.method = m) (hs : g.stack = .ref a :: rest) (hd : decode c.code g.pc = .ok (.arraylength, 1)) (target : State)
    (hr : Steps p.tables e below (T.setTop { g with pc := g.pc + 1, stack := .int z :: rest }) target) : Steps p.tables e below (T.setTop g) target := by
  obtain ⟨cl, A, S, M, H⟩ := F
  refine X.arraylength hx (by rw [eT]; exact A.1) (State.isArrayOf_alike hZ.alike A.2.1) hg hs hd target ?_
  rw [len_of S M]; exact hr
theorem wrJ {f : Int32 → Int64} {x : Int64} (X : Stand p l e R s m args below meth c T locs cells slots) (hx : p.tables.exec = Jvm.exec) (hZ : Z.Warmed39 s.vm) (eT : T.heap = h) (F : AJ Z h a z f) (q : ¬ j < 0 ∧ j < z) (hg : g.method = m) (hs : g.stack = .long x :: .int j :: .ref a :: rest) (hd : decode c.code g.pc = .ok (.lastore, 1)) :
    ∃ T' h', Stand p l e R s m args below meth c T' (locs ++ [⟨a, j.toNatClampNeg⟩]) cells slots ∧ T'.heap = h' ∧ Wr h h' a j.toNatClampNeg (.long x) ∧ AJ Z h' a z (upd f j x) ∧ ∀ target, Steps p.tables e below (T'.setTop { g with pc := g.pc + 1, stack := rest }) target → Steps p.tables e below (T.setTop g) target := by
  have F' := F
  obtain ⟨cl, A, S, M, H⟩ := F
  obtain ⟨T', h', X', e', W, st⟩ := stJ X hx hZ eT A (inb_of S q) hg hs hd
  exact ⟨T', h', X', e', W, AJ.set F' W q, st⟩
theorem wrI {f : Int32 → Int32} {x : Int32} (X : Stand p l e R s m args below meth c T locs cells slots) (hx : p.tables.exec = Jvm.exec) (hZ : Z.Warmed39 s.vm) (eT : T.heap = h) (F : AI Z h a .int z f) (q : ¬ j < 0 ∧ j < z) (hg : g.method = m) (hs : g.stack = .int x :: .int j :: .ref a :: rest) (hd : decode c.code g.pc = .ok (.iastore, 1)) :
    ∃ T' h', Stand p l e R s m args below meth c T' (locs ++ [⟨a, j.toNatClampNeg⟩]) cells slots ∧ T'.heap = h' ∧ Wr h h' a j.toNatClampNeg (.int x) ∧ AI Z h' a .int z (upd f j x) ∧ ∀ target, Steps p.tables e below (T'.setTop { g with pc := g.pc + 1, stack := rest }) target → Steps p.tables e below (T.setTop g) target := by
  have F' := F
  obtain ⟨cl, A, S, M, H⟩ := F
  obtain ⟨T', h', X', e', W, st⟩ := stI X hx hZ eT A (inb_of S q) hg hs hd
  exact ⟨T', h', X', e', W, AI.set F' W q, st⟩
theorem wrB {f : Int32 → Int32} {x y : Int32} (X : Stand p l e R s m args below meth c T locs cells slots) (hx : p.tables.exec = Jvm.exec) (hZ : Z.Warmed39 s.vm) (eT : T.heap = h) (F : AI Z h a .byte z f) (q : ¬ j < 0 ∧ j < z) (hn : nar .byte x = y) (hg : g.method = m) (hs : g.stack = .int x :: .int j :: .ref a :: rest) (hd : decode c.code g.pc = .ok (.bastore, 1)) :
    ∃ T' h', Stand p l e R s m args below meth c T' (locs ++ [⟨a, j.toNatClampNeg⟩]) cells slots ∧ T'.heap = h' ∧ Wr h h' a j.toNatClampNeg (.int y) ∧ AI Z h' a .byte z (upd f j y) ∧ ∀ target, Steps p.tables e below (T'.setTop { g with pc := g.pc + 1, stack := rest }) target → Steps p.tables e below (T.setTop g) target := by
  have F' := F
  obtain ⟨cl, A, S, M, H⟩ := F
  obtain ⟨T', h', X', e', W, st⟩ := stB X hx hZ eT A (inb_of S q) hg hs hd
  rw [hn] at W
  exact ⟨T', h', X', e', W, AI.set F' W q, st⟩
theorem wrZ {f : Int32 → Int32} {x y : Int32} (X : Stand p l e R s m args below meth c T locs cells slots) (hx : p.tables.exec = Jvm.exec) (hZ : Z.Warmed39 s.vm) (eT : T.heap = h) (F : AI Z h a .boolean z f) (q : ¬ j < 0 ∧ j < z) (hn : nar .boolean x = y) (hg : g.method = m) (hs : g.stack = .int x :: .int j :: .ref a :: rest) (hd : decode c.code g.pc = .ok (.bastore, 1)) :
    ∃ T' h', Stand p l e R s m args below meth c T' (locs ++ [⟨a, j.toNatClampNeg⟩]) cells slots ∧ T'.heap = h' ∧ Wr h h' a j.toNatClampNeg (.int y) ∧ AI Z h' a .boolean z (upd f j y) ∧ ∀ target, Steps p.tables e below (T'.setTop { g with pc := g.pc + 1, stack := rest }) target → Steps p.tables e below (T.setTop g) target := by
  have F' := F
  obtain ⟨cl, A, S, M, H⟩ := F
  obtain ⟨T', h', X', e', W, st⟩ := stZ X hx hZ eT A (inb_of S q) hg hs hd
  rw [hn] at W
  exact ⟨T', h', X', e', W, AI.set F' W q, st⟩
theorem nar_byte (x : Int32) : nar .byte x.toInt8.toInt32 = x.toInt8.toInt32 := by
  show x.toInt8.toInt32.toInt8.toInt32 = x.toInt8.toInt32
  rw [Int8.toInt8_toInt32]
end Arrays
end Jvm.OwnKit
namespace Jvm.Pilot.@@N@@
open Jvm Jvm.ClassFile Sem Op Lib Jvm.Free Jvm.Stand Jvm.LawKit Jvm.RoadKit Jvm.OwnKit Bundle Jvm.Pilot.@@N@@.Jvm.D
def CR (Z : State) (h : Heap) (n0 : Nat) (ob : Addr) (u1 : Int64) (u2 : Int64) (u3 : Int64) (u4 : Int64) (u5 : Int64) (u6 : Int64) : Prop := Exa Z h ob "com/example/seshat/seshat/CheckReport" ∧ Fld Z h ob "com/example/seshat/seshat/CheckReport" "revision" "J" (.long u1) ∧ Fld Z h ob "com/example/seshat/seshat/CheckReport" "records" "J" (.long u2) ∧ Fld Z h ob "com/example/seshat/seshat/CheckReport" "indexKeys" "J" (.long u3) ∧ Fld Z h ob "com/example/seshat/seshat/CheckReport" "missing" "J" (.long u4) ∧ Fld Z h ob "com/example/seshat/seshat/CheckReport" "dangling" "J" (.long u5) ∧ Fld Z h ob "com/example/seshat/seshat/CheckReport" "wrong" "J" (.long u6) ∧ n0 ≤ ob ∧ n0 ≤ h.size
theorem d1_0 : decode prog_2_method_1_code 0 = .ok (.aload_n 0, 1) := by decide +kernel
theorem d1_1 : decode prog_2_method_1_code 1 = .ok (.invokespecial 1, 3) := by decide +kernel
theorem d1_4 : decode prog_2_method_1_code 4 = .ok (.aload_n 0, 1) := by decide +kernel
theorem d1_5 : decode prog_2_method_1_code 5 = .ok (.lload_n 1, 1) := by decide +kernel
theorem d1_6 : decode prog_2_method_1_code 6 = .ok (.putfield 7, 3) := by decide +kernel
theorem d1_9 : decode prog_2_method_1_code 9 = .ok (.aload_n 0, 1) := by decide +kernel
theorem d1_10 : decode prog_2_method_1_code 10 = .ok (.lload_n 3, 1) := by decide +kernel
theorem d1_11 : decode prog_2_method_1_code 11 = .ok (.putfield 13, 3) := by decide +kernel
theorem d1_14 : decode prog_2_method_1_code 14 = .ok (.aload_n 0, 1) := by decide +kernel
theorem d1_15 : decode prog_2_method_1_code 15 = .ok (.lload 5, 2) := by decide +kernel
theorem d1_17 : decode prog_2_method_1_code 17 = .ok (.putfield 16, 3) := by decide +kernel
theorem d1_20 : decode prog_2_method_1_code 20 = .ok (.aload_n 0, 1) := by decide +kernel
theorem d1_21 : decode prog_2_method_1_code 21 = .ok (.lload 7, 2) := by decide +kernel
theorem d1_23 : decode prog_2_method_1_code 23 = .ok (.putfield 19, 3) := by decide +kernel
theorem d1_26 : decode prog_2_method_1_code 26 = .ok (.aload_n 0, 1) := by decide +kernel
theorem d1_27 : decode prog_2_method_1_code 27 = .ok (.lload 9, 2) := by decide +kernel
theorem d1_29 : decode prog_2_method_1_code 29 = .ok (.putfield 22, 3) := by decide +kernel
theorem d1_32 : decode prog_2_method_1_code 32 = .ok (.aload_n 0, 1) := by decide +kernel
theorem d1_33 : decode prog_2_method_1_code 33 = .ok (.lload 11, 2) := by decide +kernel
theorem d1_35 : decode prog_2_method_1_code 35 = .ok (.putfield 25, 3) := by decide +kernel
theorem d1_38 : decode prog_2_method_1_code 38 = .ok (.return_, 1) := by decide +kernel
theorem pn_1 : plainName "com/example/seshat/seshat/CheckReport" = true := by first | (simp [plainName, overriddenIn]; done) | decide +kernel
theorem ef_1 (m : MethodId) (x0 : Addr) (x1 : Int64) (x2 : Int64) (x3 : Int64) (x4 : Int64) (x5 : Int64) (x6 : Int64) : entryFrame m #[(.ref x0), (.long x1), (.long x2), (.long x3), (.long x4), (.long x5), (.long x6)] 13 = mkF m 0 #[.val (.ref x0), .val (.long x1), .second, .val (.long x2), .second, .val (.long x3), .second, .val (.long x4), .second, .val (.long x5), .second, .val (.long x6), .second] [] := by first | (simp [entryFrame, mkF, argsToLocals, Value.category]; done) | rfl
def Fi_revision (y1 : Int64) : Int64 := y1
def Fi_records (y2 : Int64) : Int64 := y2
def Fi_indexKeys (y3 : Int64) : Int64 := y3
def Fi_missing (y4 : Int64) : Int64 := y4
def Fi_dangling (y5 : Int64) : Int64 := y5
def Fi_wrong (y6 : Int64) : Int64 := y6
def Q1 (Z : State) (ob : Addr) (y1 : Int64) (y2 : Int64) (y3 : Int64) (y4 : Int64) (y5 : Int64) (y6 : Int64) (u1 : Int64) (u2 : Int64) (u3 : Int64) (u4 : Int64) (u5 : Int64) (u6 : Int64) (h0 : Heap) (n0 : Nat) (v : Option Value) (h : Heap) (L : List Loc) : Prop := v = none ∧ Fr n0 L ∧ CR Z h n0 ob (Fi_revision y1) (Fi_records y2) (Fi_indexKeys y3) (Fi_missing y4) (Fi_dangling y5) (Fi_wrong y6)
set_option maxRecDepth 65536 in
set_option maxHeartbeats 40000000 in
theorem rm1 (l : Launch) (Z : State) (a0 : Array Value) (hw : ∀ d ∈ tables_1, d.before a0 Z = true) (ws : List Jvm.Cond) (ob : Addr) (y1 : Int64) (y2 : Int64) (y3 : Int64) (y4 : Int64) (y5 : Int64) (y6 : Int64) (u1 : Int64) (u2 : Int64) (u3 : Int64) (u4 : Int64) (u5 : Int64) (u6 : Int64) (h0 : Heap) (n0 : Nat) (Z0 : n0 ≤ h0.size) (I0 : CR Z h0 n0 ob u1 u2 u3 u4 u5 u6) :
    MetFree l (⟨"com/example/seshat/seshat/CheckReport", "<init>", "(JJJJJJ)V"⟩ : MethodName) (head1 (Jvm.Cond.code (⟨"com/example/seshat/seshat/CheckReport", "<init>", "(JJJJJJ)V"⟩ : MethodName) prog_2_method_1_code 13 none :: ws) ({ frames := 1, cells := 0, slots := 0, locals := 12 } : Room)) (fun a U => a = #[(.ref ob), (.long y1), (.long y2), (.long y3), (.long y4), (.long y5), (.long y6)] ∧ Z.Warmed39 U.vm ∧ U.heap = h0) (fun _ _ _ _ _ => True) (fun _ U o U' => ∃ v L, o = .returned v ∧ Q1 Z ob y1 y2 y3 y4 y5 y6 u1 u2 u3 u4 u5 u6 h0 n0 v U'.heap L ∧ FrameEnd U o U' L ({ frames := 1, cells := 0, slots := 0, locals := 12 } : Room).cells ({ frames := 1, cells := 0, slots := 0, locals := 12 } : Room).slots) := by
  refine MetFree.of_bodySF (plainFor_of_name pn_1) hisR ?_
  intro p e s m args below meth c s₁ Bd hml0 hP hK
  obtain ⟨rfl, hZ, hh⟩ := hP
  have hx := Bd.exec
  have hby := Bd.bytes
  have hml : c.maxLocals = 13 := hml0
  have hown : s.vm.findClass "com/example/seshat/seshat/CheckReport" = some m.cls := findClass_of_methodNamed Bd.named
  have hnm := (name_of_methodNamed Bd.named Bd.method).1
  have X0 : Stand p l e ({ frames := 1, cells := 0, slots := 0, locals := 12 } : Room) s m #[(.ref ob), (.long y1), (.long y2), (.long y3), (.long y4), (.long y5), (.long y6)] below meth c s₁ [] 0 0 := Stand.of_body Bd
  have e0 : s₁.heap = h0 := by rw [← hh, Bd.state]; rfl
  have N0 := Fr.nil n0
  have pre0 : ∀ t, Steps p.tables e below (s₁.setTop (mkF m 0 #[.val (.ref ob), .val (.long y1), .second, .val (.long y2), .second, .val (.long y3), .second, .val (.long y4), .second, .val (.long y5), .second, .val (.long y6), .second] [])) t → Steps p.tables e below (s₁.setTop (entryFrame m #[(.ref ob), (.long y1), (.long y2), (.long y3), (.long y4), (.long y5), (.long y6)] 13)) t := fun t k => castTop (ef_1 m ob y1 y2 y3 y4 y5 y6) k
  obtain ⟨k1_0, k1_1, k1_2, k1_3, k1_4, k1_5, k1_6, k1_g_ob, k1_sz⟩ := I0
  obtain ⟨T2, X2, e2, st2⟩ := initO X0 hx hZ hown (hw _ (List.mem_of_getElem? (i := 6) rfl)) (hw _ (List.mem_of_getElem? (i := 7) rfl)) (hw _ (List.mem_of_getElem? (i := 8) rfl)) e0 (g := (mkF m 1 #[.val (.ref ob), .val (.long y1), .second, .val (.long y2), .second, .val (.long y3), .second, .val (.long y4), .second, .val (.long y5), .second, .val (.long y6), .second] [(.ref ob)])) rfl (by rw [hml]; rfl) rfl (hb hby d1_1) (by decide) (W := 0) (by show 2 * 0 + _ ≤ _; exact Nat.le_of_eq rfl) (by decide)
  obtain ⟨T3, h3, X3, e3, W3, st3⟩ := putF X2 hx hZ hown (host := "") (Or.inl (hw _ (List.mem_of_getElem? (i := 9) rfl))) Via.refl e2 k1_1 k1_0 (Or.inr ⟨(hw _ (List.mem_of_getElem? (i := 10) rfl)), rfl, hnm⟩) (hw _ (List.mem_of_getElem? (i := 1) rfl)) (ty := .long) (by decide) rfl rfl (g := (mkF m 6 #[.val (.ref ob), .val (.long y1), .second, .val (.long y2), .second, .val (.long y3), .second, .val (.long y4), .second, .val (.long y5), .second, .val (.long y6), .second] [(.long y1), (.ref ob)])) rfl rfl (hb hby d1_6)
  have f4 := (k1_2.other W3 (Or.inr (slot_ne (Or.inr (hw _ (List.mem_of_getElem? (i := 12) rfl))) (Or.inr (hw _ (List.mem_of_getElem? (i := 10) rfl))) (by decide) (t := .long) (t' := .long) (by decide) (by decide))))
  have f5 := (k1_3.other W3 (Or.inr (slot_ne (Or.inr (hw _ (List.mem_of_getElem? (i := 14) rfl))) (Or.inr (hw _ (List.mem_of_getElem? (i := 10) rfl))) (by decide) (t := .long) (t' := .long) (by decide) (by decide))))
  have f6 := (k1_4.other W3 (Or.inr (slot_ne (Or.inr (hw _ (List.mem_of_getElem? (i := 16) rfl))) (Or.inr (hw _ (List.mem_of_getElem? (i := 10) rfl))) (by decide) (t := .long) (t' := .long) (by decide) (by decide))))
  have f7 := (k1_5.other W3 (Or.inr (slot_ne (Or.inr (hw _ (List.mem_of_getElem? (i := 18) rfl))) (Or.inr (hw _ (List.mem_of_getElem? (i := 10) rfl))) (by decide) (t := .long) (t' := .long) (by decide) (by decide))))
  have f8 := (k1_6.other W3 (Or.inr (slot_ne (Or.inr (hw _ (List.mem_of_getElem? (i := 20) rfl))) (Or.inr (hw _ (List.mem_of_getElem? (i := 10) rfl))) (by decide) (t := .long) (t' := .long) (by decide) (by decide))))
  have Z3 : n0 ≤ h3.size := Nat.le_trans Z0 (Keep.of_wr W3).1
  have N3 := Fr.snoc X3 N0 k1_g_ob
  obtain ⟨T9, h9, X9, e9, W9, st9⟩ := putF X3 hx hZ hown (host := "") (Or.inl (hw _ (List.mem_of_getElem? (i := 11) rfl))) Via.refl e3 f4 (k1_0.wr W3) (Or.inr ⟨(hw _ (List.mem_of_getElem? (i := 12) rfl)), rfl, hnm⟩) (hw _ (List.mem_of_getElem? (i := 1) rfl)) (ty := .long) (by decide) rfl rfl (g := (mkF m 11 #[.val (.ref ob), .val (.long y1), .second, .val (.long y2), .second, .val (.long y3), .second, .val (.long y4), .second, .val (.long y5), .second, .val (.long y6), .second] [(.long y2), (.ref ob)])) rfl rfl (hb hby d1_11)
  have f10 := ((k1_1.same W3).other W9 (Or.inr (slot_ne (Or.inr (hw _ (List.mem_of_getElem? (i := 10) rfl))) (Or.inr (hw _ (List.mem_of_getElem? (i := 12) rfl))) (by decide) (t := .long) (t' := .long) (by decide) (by decide))))
  have f11 := (f5.other W9 (Or.inr (slot_ne (Or.inr (hw _ (List.mem_of_getElem? (i := 14) rfl))) (Or.inr (hw _ (List.mem_of_getElem? (i := 12) rfl))) (by decide) (t := .long) (t' := .long) (by decide) (by decide))))
  have f12 := (f6.other W9 (Or.inr (slot_ne (Or.inr (hw _ (List.mem_of_getElem? (i := 16) rfl))) (Or.inr (hw _ (List.mem_of_getElem? (i := 12) rfl))) (by decide) (t := .long) (t' := .long) (by decide) (by decide))))
  have f13 := (f7.other W9 (Or.inr (slot_ne (Or.inr (hw _ (List.mem_of_getElem? (i := 18) rfl))) (Or.inr (hw _ (List.mem_of_getElem? (i := 12) rfl))) (by decide) (t := .long) (t' := .long) (by decide) (by decide))))
  have f14 := (f8.other W9 (Or.inr (slot_ne (Or.inr (hw _ (List.mem_of_getElem? (i := 20) rfl))) (Or.inr (hw _ (List.mem_of_getElem? (i := 12) rfl))) (by decide) (t := .long) (t' := .long) (by decide) (by decide))))
  have Z9 : n0 ≤ h9.size := Nat.le_trans Z3 (Keep.of_wr W9).1
  have N9 := Fr.snoc X9 N3 k1_g_ob
  obtain ⟨T15, h15, X15, e15, W15, st15⟩ := putF X9 hx hZ hown (host := "") (Or.inl (hw _ (List.mem_of_getElem? (i := 13) rfl))) Via.refl e9 f11 ((k1_0.wr W3).wr W9) (Or.inr ⟨(hw _ (List.mem_of_getElem? (i := 14) rfl)), rfl, hnm⟩) (hw _ (List.mem_of_getElem? (i := 1) rfl)) (ty := .long) (by decide) rfl rfl (g := (mkF m 17 #[.val (.ref ob), .val (.long y1), .second, .val (.long y2), .second, .val (.long y3), .second, .val (.long y4), .second, .val (.long y5), .second, .val (.long y6), .second] [(.long y3), (.ref ob)])) rfl rfl (hb hby d1_17)
  have f16 := (f10.other W15 (Or.inr (slot_ne (Or.inr (hw _ (List.mem_of_getElem? (i := 10) rfl))) (Or.inr (hw _ (List.mem_of_getElem? (i := 14) rfl))) (by decide) (t := .long) (t' := .long) (by decide) (by decide))))
  have f17 := ((f4.same W9).other W15 (Or.inr (slot_ne (Or.inr (hw _ (List.mem_of_getElem? (i := 12) rfl))) (Or.inr (hw _ (List.mem_of_getElem? (i := 14) rfl))) (by decide) (t := .long) (t' := .long) (by decide) (by decide))))
  have f18 := (f12.other W15 (Or.inr (slot_ne (Or.inr (hw _ (List.mem_of_getElem? (i := 16) rfl))) (Or.inr (hw _ (List.mem_of_getElem? (i := 14) rfl))) (by decide) (t := .long) (t' := .long) (by decide) (by decide))))
  have f19 := (f13.other W15 (Or.inr (slot_ne (Or.inr (hw _ (List.mem_of_getElem? (i := 18) rfl))) (Or.inr (hw _ (List.mem_of_getElem? (i := 14) rfl))) (by decide) (t := .long) (t' := .long) (by decide) (by decide))))
  have f20 := (f14.other W15 (Or.inr (slot_ne (Or.inr (hw _ (List.mem_of_getElem? (i := 20) rfl))) (Or.inr (hw _ (List.mem_of_getElem? (i := 14) rfl))) (by decide) (t := .long) (t' := .long) (by decide) (by decide))))
  have Z15 : n0 ≤ h15.size := Nat.le_trans Z9 (Keep.of_wr W15).1
  have N15 := Fr.snoc X15 N9 k1_g_ob
  obtain ⟨T21, h21, X21, e21, W21, st21⟩ := putF X15 hx hZ hown (host := "") (Or.inl (hw _ (List.mem_of_getElem? (i := 15) rfl))) Via.refl e15 f18 (((k1_0.wr W3).wr W9).wr W15) (Or.inr ⟨(hw _ (List.mem_of_getElem? (i := 16) rfl)), rfl, hnm⟩) (hw _ (List.mem_of_getElem? (i := 1) rfl)) (ty := .long) (by decide) rfl rfl (g := (mkF m 23 #[.val (.ref ob), .val (.long y1), .second, .val (.long y2), .second, .val (.long y3), .second, .val (.long y4), .second, .val (.long y5), .second, .val (.long y6), .second] [(.long y4), (.ref ob)])) rfl rfl (hb hby d1_23)
  have f22 := (f16.other W21 (Or.inr (slot_ne (Or.inr (hw _ (List.mem_of_getElem? (i := 10) rfl))) (Or.inr (hw _ (List.mem_of_getElem? (i := 16) rfl))) (by decide) (t := .long) (t' := .long) (by decide) (by decide))))
  have f23 := (f17.other W21 (Or.inr (slot_ne (Or.inr (hw _ (List.mem_of_getElem? (i := 12) rfl))) (Or.inr (hw _ (List.mem_of_getElem? (i := 16) rfl))) (by decide) (t := .long) (t' := .long) (by decide) (by decide))))
  have f24 := ((f11.same W15).other W21 (Or.inr (slot_ne (Or.inr (hw _ (List.mem_of_getElem? (i := 14) rfl))) (Or.inr (hw _ (List.mem_of_getElem? (i := 16) rfl))) (by decide) (t := .long) (t' := .long) (by decide) (by decide))))
  have f25 := (f19.other W21 (Or.inr (slot_ne (Or.inr (hw _ (List.mem_of_getElem? (i := 18) rfl))) (Or.inr (hw _ (List.mem_of_getElem? (i := 16) rfl))) (by decide) (t := .long) (t' := .long) (by decide) (by decide))))
  have f26 := (f20.other W21 (Or.inr (slot_ne (Or.inr (hw _ (List.mem_of_getElem? (i := 20) rfl))) (Or.inr (hw _ (List.mem_of_getElem? (i := 16) rfl))) (by decide) (t := .long) (t' := .long) (by decide) (by decide))))
  have Z21 : n0 ≤ h21.size := Nat.le_trans Z15 (Keep.of_wr W21).1
  have N21 := Fr.snoc X21 N15 k1_g_ob
  obtain ⟨T27, h27, X27, e27, W27, st27⟩ := putF X21 hx hZ hown (host := "") (Or.inl (hw _ (List.mem_of_getElem? (i := 17) rfl))) Via.refl e21 f25 ((((k1_0.wr W3).wr W9).wr W15).wr W21) (Or.inr ⟨(hw _ (List.mem_of_getElem? (i := 18) rfl)), rfl, hnm⟩) (hw _ (List.mem_of_getElem? (i := 1) rfl)) (ty := .long) (by decide) rfl rfl (g := (mkF m 29 #[.val (.ref ob), .val (.long y1), .second, .val (.long y2), .second, .val (.long y3), .second, .val (.long y4), .second, .val (.long y5), .second, .val (.long y6), .second] [(.long y5), (.ref ob)])) rfl rfl (hb hby d1_29)
  have f28 := (f22.other W27 (Or.inr (slot_ne (Or.inr (hw _ (List.mem_of_getElem? (i := 10) rfl))) (Or.inr (hw _ (List.mem_of_getElem? (i := 18) rfl))) (by decide) (t := .long) (t' := .long) (by decide) (by decide))))
  have f29 := (f23.other W27 (Or.inr (slot_ne (Or.inr (hw _ (List.mem_of_getElem? (i := 12) rfl))) (Or.inr (hw _ (List.mem_of_getElem? (i := 18) rfl))) (by decide) (t := .long) (t' := .long) (by decide) (by decide))))
  have f30 := (f24.other W27 (Or.inr (slot_ne (Or.inr (hw _ (List.mem_of_getElem? (i := 14) rfl))) (Or.inr (hw _ (List.mem_of_getElem? (i := 18) rfl))) (by decide) (t := .long) (t' := .long) (by decide) (by decide))))
  have f31 := ((f18.same W21).other W27 (Or.inr (slot_ne (Or.inr (hw _ (List.mem_of_getElem? (i := 16) rfl))) (Or.inr (hw _ (List.mem_of_getElem? (i := 18) rfl))) (by decide) (t := .long) (t' := .long) (by decide) (by decide))))
  have f32 := (f26.other W27 (Or.inr (slot_ne (Or.inr (hw _ (List.mem_of_getElem? (i := 20) rfl))) (Or.inr (hw _ (List.mem_of_getElem? (i := 18) rfl))) (by decide) (t := .long) (t' := .long) (by decide) (by decide))))
  have Z27 : n0 ≤ h27.size := Nat.le_trans Z21 (Keep.of_wr W27).1
  have N27 := Fr.snoc X27 N21 k1_g_ob
  obtain ⟨T33, h33, X33, e33, W33, st33⟩ := putF X27 hx hZ hown (host := "") (Or.inl (hw _ (List.mem_of_getElem? (i := 19) rfl))) Via.refl e27 f32 (((((k1_0.wr W3).wr W9).wr W15).wr W21).wr W27) (Or.inr ⟨(hw _ (List.mem_of_getElem? (i := 20) rfl)), rfl, hnm⟩) (hw _ (List.mem_of_getElem? (i := 1) rfl)) (ty := .long) (by decide) rfl rfl (g := (mkF m 35 #[.val (.ref ob), .val (.long y1), .second, .val (.long y2), .second, .val (.long y3), .second, .val (.long y4), .second, .val (.long y5), .second, .val (.long y6), .second] [(.long y6), (.ref ob)])) rfl rfl (hb hby d1_35)
  have f34 := (f28.other W33 (Or.inr (slot_ne (Or.inr (hw _ (List.mem_of_getElem? (i := 10) rfl))) (Or.inr (hw _ (List.mem_of_getElem? (i := 20) rfl))) (by decide) (t := .long) (t' := .long) (by decide) (by decide))))
  have f35 := (f29.other W33 (Or.inr (slot_ne (Or.inr (hw _ (List.mem_of_getElem? (i := 12) rfl))) (Or.inr (hw _ (List.mem_of_getElem? (i := 20) rfl))) (by decide) (t := .long) (t' := .long) (by decide) (by decide))))
  have f36 := (f30.other W33 (Or.inr (slot_ne (Or.inr (hw _ (List.mem_of_getElem? (i := 14) rfl))) (Or.inr (hw _ (List.mem_of_getElem? (i := 20) rfl))) (by decide) (t := .long) (t' := .long) (by decide) (by decide))))
  have f37 := (f31.other W33 (Or.inr (slot_ne (Or.inr (hw _ (List.mem_of_getElem? (i := 16) rfl))) (Or.inr (hw _ (List.mem_of_getElem? (i := 20) rfl))) (by decide) (t := .long) (t' := .long) (by decide) (by decide))))
  have f38 := ((f25.same W27).other W33 (Or.inr (slot_ne (Or.inr (hw _ (List.mem_of_getElem? (i := 18) rfl))) (Or.inr (hw _ (List.mem_of_getElem? (i := 20) rfl))) (by decide) (t := .long) (t' := .long) (by decide) (by decide))))
  have Z33 : n0 ≤ h33.size := Nat.le_trans Z27 (Keep.of_wr W33).1
  have N33 := Fr.snoc X33 N27 k1_g_ob
  have pre39 : ∀ t, Steps p.tables e below (T33.setTop (mkF m 38 #[.val (.ref ob), .val (.long y1), .second, .val (.long y2), .second, .val (.long y3), .second, .val (.long y4), .second, .val (.long y5), .second, .val (.long y6), .second] [])) t → Steps p.tables e below (s₁.setTop (entryFrame m #[(.ref ob), (.long y1), (.long y2), (.long y3), (.long y4), (.long y5), (.long y6)] 13)) t := by
    intro t k
    refine pre0 t ?_
    show Steps p.tables e below (s₁.setTop (mkF m 0 #[.val (.ref ob), .val (.long y1), .second, .val (.long y2), .second, .val (.long y3), .second, .val (.long y4), .second, .val (.long y5), .second, .val (.long y6), .second] [])) _
    refine XS.aloadN X0.here hx rfl (hb hby d1_0) rfl rfl ?_
    show Steps p.tables e below (s₁.setTop (mkF m 1 #[.val (.ref ob), .val (.long y1), .second, .val (.long y2), .second, .val (.long y3), .second, .val (.long y4), .second, .val (.long y5), .second, .val (.long y6), .second] [(.ref ob)])) _
    refine st2 _ ?_
    show Steps p.tables e below (T2.setTop (mkF m 4 #[.val (.ref ob), .val (.long y1), .second, .val (.long y2), .second, .val (.long y3), .second, .val (.long y4), .second, .val (.long y5), .second, .val (.long y6), .second] [])) _
    refine XS.aloadN X2.here hx rfl (hb hby d1_4) rfl rfl ?_
    show Steps p.tables e below (T2.setTop (mkF m 5 #[.val (.ref ob), .val (.long y1), .second, .val (.long y2), .second, .val (.long y3), .second, .val (.long y4), .second, .val (.long y5), .second, .val (.long y6), .second] [(.ref ob)])) _
    refine XS.lloadN X2.here hx rfl (hb hby d1_5) rfl ?_
    show Steps p.tables e below (T2.setTop (mkF m 6 #[.val (.ref ob), .val (.long y1), .second, .val (.long y2), .second, .val (.long y3), .second, .val (.long y4), .second, .val (.long y5), .second, .val (.long y6), .second] [(.long y1), (.ref ob)])) _
    refine st3 _ ?_
    show Steps p.tables e below (T3.setTop (mkF m 9 #[.val (.ref ob), .val (.long y1), .second, .val (.long y2), .second, .val (.long y3), .second, .val (.long y4), .second, .val (.long y5), .second, .val (.long y6), .second] [])) _
    refine XS.aloadN X3.here hx rfl (hb hby d1_9) rfl rfl ?_
    show Steps p.tables e below (T3.setTop (mkF m 10 #[.val (.ref ob), .val (.long y1), .second, .val (.long y2), .second, .val (.long y3), .second, .val (.long y4), .second, .val (.long y5), .second, .val (.long y6), .second] [(.ref ob)])) _
    refine XS.lloadN X3.here hx rfl (hb hby d1_10) rfl ?_
    show Steps p.tables e below (T3.setTop (mkF m 11 #[.val (.ref ob), .val (.long y1), .second, .val (.long y2), .second, .val (.long y3), .second, .val (.long y4), .second, .val (.long y5), .second, .val (.long y6), .second] [(.long y2), (.ref ob)])) _
    refine st9 _ ?_
    show Steps p.tables e below (T9.setTop (mkF m 14 #[.val (.ref ob), .val (.long y1), .second, .val (.long y2), .second, .val (.long y3), .second, .val (.long y4), .second, .val (.long y5), .second, .val (.long y6), .second] [])) _
    refine XS.aloadN X9.here hx rfl (hb hby d1_14) rfl rfl ?_
    show Steps p.tables e below (T9.setTop (mkF m 15 #[.val (.ref ob), .val (.long y1), .second, .val (.long y2), .second, .val (.long y3), .second, .val (.long y4), .second, .val (.long y5), .second, .val (.long y6), .second] [(.ref ob)])) _
    refine XS.lload X9.here hx rfl (hb hby d1_15) rfl ?_
    show Steps p.tables e below (T9.setTop (mkF m 17 #[.val (.ref ob), .val (.long y1), .second, .val (.long y2), .second, .val (.long y3), .second, .val (.long y4), .second, .val (.long y5), .second, .val (.long y6), .second] [(.long y3), (.ref ob)])) _
    refine st15 _ ?_
    show Steps p.tables e below (T15.setTop (mkF m 20 #[.val (.ref ob), .val (.long y1), .second, .val (.long y2), .second, .val (.long y3), .second, .val (.long y4), .second, .val (.long y5), .second, .val (.long y6), .second] [])) _
    refine XS.aloadN X15.here hx rfl (hb hby d1_20) rfl rfl ?_
    show Steps p.tables e below (T15.setTop (mkF m 21 #[.val (.ref ob), .val (.long y1), .second, .val (.long y2), .second, .val (.long y3), .second, .val (.long y4), .second, .val (.long y5), .second, .val (.long y6), .second] [(.ref ob)])) _
    refine XS.lload X15.here hx rfl (hb hby d1_21) rfl ?_
    show Steps p.tables e below (T15.setTop (mkF m 23 #[.val (.ref ob), .val (.long y1), .second, .val (.long y2), .second, .val (.long y3), .second, .val (.long y4), .second, .val (.long y5), .second, .val (.long y6), .second] [(.long y4), (.ref ob)])) _
    refine st21 _ ?_
    show Steps p.tables e below (T21.setTop (mkF m 26 #[.val (.ref ob), .val (.long y1), .second, .val (.long y2), .second, .val (.long y3), .second, .val (.long y4), .second, .val (.long y5), .second, .val (.long y6), .second] [])) _
    refine XS.aloadN X21.here hx rfl (hb hby d1_26) rfl rfl ?_
    show Steps p.tables e below (T21.setTop (mkF m 27 #[.val (.ref ob), .val (.long y1), .second, .val (.long y2), .second, .val (.long y3), .second, .val (.long y4), .second, .val (.long y5), .second, .val (.long y6), .second] [(.ref ob)])) _
    refine XS.lload X21.here hx rfl (hb hby d1_27) rfl ?_
    show Steps p.tables e below (T21.setTop (mkF m 29 #[.val (.ref ob), .val (.long y1), .second, .val (.long y2), .second, .val (.long y3), .second, .val (.long y4), .second, .val (.long y5), .second, .val (.long y6), .second] [(.long y5), (.ref ob)])) _
    refine st27 _ ?_
    show Steps p.tables e below (T27.setTop (mkF m 32 #[.val (.ref ob), .val (.long y1), .second, .val (.long y2), .second, .val (.long y3), .second, .val (.long y4), .second, .val (.long y5), .second, .val (.long y6), .second] [])) _
    refine XS.aloadN X27.here hx rfl (hb hby d1_32) rfl rfl ?_
    show Steps p.tables e below (T27.setTop (mkF m 33 #[.val (.ref ob), .val (.long y1), .second, .val (.long y2), .second, .val (.long y3), .second, .val (.long y4), .second, .val (.long y5), .second, .val (.long y6), .second] [(.ref ob)])) _
    refine XS.lload X27.here hx rfl (hb hby d1_33) rfl ?_
    show Steps p.tables e below (T27.setTop (mkF m 35 #[.val (.ref ob), .val (.long y1), .second, .val (.long y2), .second, .val (.long y3), .second, .val (.long y4), .second, .val (.long y5), .second, .val (.long y6), .second] [(.long y6), (.ref ob)])) _
    refine st33 _ ?_
    exact k
  obtain ⟨fs, hr, hrun, hended, hW, hsame⟩ := X33.leave (v := none) (fun _ => rfl)
  refine ⟨_, _, pre39 _ ?_, hrun, hended, _, _, rfl, ?_, ⟨_, rfl⟩, hW, hsame.mono (by decide) (by decide)⟩
  · show Steps p.tables e below (T33.setTop (mkF m 38 #[.val (.ref ob), .val (.long y1), .second, .val (.long y2), .second, .val (.long y3), .second, .val (.long y4), .second, .val (.long y5), .second, .val (.long y6), .second] [])) _
    exact X33.returnOut hx Bd.returns (hb hby d1_38) hr
  · show Q1 Z ob y1 y2 y3 y4 y5 y6 u1 u2 u3 u4 u5 u6 h0 n0 _ T33.heap _
    rw [e33]
    exact ⟨rfl, N33, ⟨((((((k1_0.wr W3).wr W9).wr W15).wr W21).wr W27).wr W33), (by rw [(show (Fi_revision y1) = y1 from rfl)]; exact f34), (by rw [(show (Fi_records y2) = y2 from rfl)]; exact f35), (by rw [(show (Fi_indexKeys y3) = y3 from rfl)]; exact f36), (by rw [(show (Fi_missing y4) = y4 from rfl)]; exact f37), (by rw [(show (Fi_dangling y5) = y5 from rfl)]; exact f38), (by rw [(show (Fi_wrong y6) = y6 from rfl)]; exact (f32.same W33)), k1_g_ob, Z33⟩⟩
theorem d3_0 : decode prog_2_method_8_code 0 = .ok (.aload_n 0, 1) := by decide +kernel
theorem d3_1 : decode prog_2_method_8_code 1 = .ok (.getfield 19, 3) := by decide +kernel
theorem d3_4 : decode prog_2_method_8_code 4 = .ok (.lconst 0, 1) := by decide +kernel
theorem d3_5 : decode prog_2_method_8_code 5 = .ok (.lcmp, 1) := by decide +kernel
theorem d3_6 : decode prog_2_method_8_code 6 = .ok (.ifCond .ne 25, 3) := by decide +kernel
theorem d3_9 : decode prog_2_method_8_code 9 = .ok (.aload_n 0, 1) := by decide +kernel
theorem d3_10 : decode prog_2_method_8_code 10 = .ok (.getfield 22, 3) := by decide +kernel
theorem d3_13 : decode prog_2_method_8_code 13 = .ok (.lconst 0, 1) := by decide +kernel
theorem d3_14 : decode prog_2_method_8_code 14 = .ok (.lcmp, 1) := by decide +kernel
theorem d3_15 : decode prog_2_method_8_code 15 = .ok (.ifCond .ne 16, 3) := by decide +kernel
theorem d3_18 : decode prog_2_method_8_code 18 = .ok (.aload_n 0, 1) := by decide +kernel
theorem d3_19 : decode prog_2_method_8_code 19 = .ok (.getfield 25, 3) := by decide +kernel
theorem d3_22 : decode prog_2_method_8_code 22 = .ok (.lconst 0, 1) := by decide +kernel
theorem d3_23 : decode prog_2_method_8_code 23 = .ok (.lcmp, 1) := by decide +kernel
theorem d3_24 : decode prog_2_method_8_code 24 = .ok (.ifCond .ne 7, 3) := by decide +kernel
theorem d3_27 : decode prog_2_method_8_code 27 = .ok (.iconst 1, 1) := by decide +kernel
theorem d3_28 : decode prog_2_method_8_code 28 = .ok (.goto 4, 3) := by decide +kernel
theorem d3_31 : decode prog_2_method_8_code 31 = .ok (.iconst 0, 1) := by decide +kernel
theorem d3_32 : decode prog_2_method_8_code 32 = .ok (.ireturn, 1) := by decide +kernel
theorem ef_3 (m : MethodId) (x0 : Addr) : entryFrame m #[(.ref x0)] 1 = mkF m 0 #[.val (.ref x0)] [] := by first | (simp [entryFrame, mkF, argsToLocals, Value.category]; done) | rfl
def Fag (u4 : Int64) (u5 : Int64) (u6 : Int64) : Bool := (if u4 = (0 : Int64) then (if u5 = (0 : Int64) then (if u6 = (0 : Int64) then true else false) else false) else false)
def Q3 (Z : State) (ob : Addr) (u1 : Int64) (u2 : Int64) (u3 : Int64) (u4 : Int64) (u5 : Int64) (u6 : Int64) (h0 : Heap) (n0 : Nat) (v : Option Value) (h : Heap) (L : List Loc) : Prop := v = some (.int (b2i (Fag u4 u5 u6))) ∧ Fr n0 L ∧ h = h0
set_option maxRecDepth 65536 in
set_option maxHeartbeats 40000000 in
theorem rm3 (l : Launch) (Z : State) (a0 : Array Value) (hw : ∀ d ∈ tables_1, d.before a0 Z = true) (ws : List Jvm.Cond) (ob : Addr) (u1 : Int64) (u2 : Int64) (u3 : Int64) (u4 : Int64) (u5 : Int64) (u6 : Int64) (h0 : Heap) (n0 : Nat) (Z0 : n0 ≤ h0.size) (I0 : CR Z h0 n0 ob u1 u2 u3 u4 u5 u6) :
    MetFree l (⟨"com/example/seshat/seshat/CheckReport", "agrees", "()Z"⟩ : MethodName) (head1 (Jvm.Cond.code (⟨"com/example/seshat/seshat/CheckReport", "agrees", "()Z"⟩ : MethodName) prog_2_method_8_code 1 (some .boolean) :: ws) ({ frames := 0, cells := 0, slots := 0, locals := 0 } : Room)) (fun a U => a = #[(.ref ob)] ∧ Z.Warmed39 U.vm ∧ U.heap = h0) (fun _ _ _ _ _ => True) (fun _ U o U' => ∃ v L, o = .returned v ∧ Q3 Z ob u1 u2 u3 u4 u5 u6 h0 n0 v U'.heap L ∧ FrameEnd U o U' L ({ frames := 0, cells := 0, slots := 0, locals := 0 } : Room).cells ({ frames := 0, cells := 0, slots := 0, locals := 0 } : Room).slots) := by
  refine MetFree.of_bodySF (plainFor_of_name pn_1) hisR ?_
  intro p e s m args below meth c s₁ Bd hml0 hP hK
  obtain ⟨rfl, hZ, hh⟩ := hP
  have hx := Bd.exec
  have hby := Bd.bytes
  have hml : c.maxLocals = 1 := hml0
  have hown : s.vm.findClass "com/example/seshat/seshat/CheckReport" = some m.cls := findClass_of_methodNamed Bd.named
  have hnm := (name_of_methodNamed Bd.named Bd.method).1
  have X0 : Stand p l e ({ frames := 0, cells := 0, slots := 0, locals := 0 } : Room) s m #[(.ref ob)] below meth c s₁ [] 0 0 := Stand.of_body Bd
  have e0 : s₁.heap = h0 := by rw [← hh, Bd.state]; rfl
  have N0 := Fr.nil n0
  have pre0 : ∀ t, Steps p.tables e below (s₁.setTop (mkF m 0 #[.val (.ref ob)] [])) t → Steps p.tables e below (s₁.setTop (entryFrame m #[(.ref ob)] 1)) t := fun t k => castTop (ef_3 m ob) k
  obtain ⟨k1_0, k1_1, k1_2, k1_3, k1_4, k1_5, k1_6, k1_g_ob, k1_sz⟩ := I0
  obtain ⟨T2, X2, e2, st2⟩ := getF X0 hx hZ hown (host := "") (Or.inl (hw _ (List.mem_of_getElem? (i := 15) rfl))) Via.refl e0 k1_4 (g := (mkF m 1 #[.val (.ref ob)] [(.ref ob)])) rfl rfl (hb hby d3_1)
  have pre3 : ∀ t, Steps p.tables e below (T2.setTop (mkF m 6 #[.val (.ref ob)] [(.int (lcmpW u4 (0 : Int64)))])) t → Steps p.tables e below (s₁.setTop (entryFrame m #[(.ref ob)] 1)) t := by
    intro t k
    refine pre0 t ?_
    show Steps p.tables e below (s₁.setTop (mkF m 0 #[.val (.ref ob)] [])) _
    refine XS.aloadN X0.here hx rfl (hb hby d3_0) rfl rfl ?_
    show Steps p.tables e below (s₁.setTop (mkF m 1 #[.val (.ref ob)] [(.ref ob)])) _
    refine st2 _ ?_
    show Steps p.tables e below (T2.setTop (mkF m 4 #[.val (.ref ob)] [(.long u4)])) _
    refine XS.lconst X2.here hx rfl (hb hby d3_4) ?_
    show Steps p.tables e below (T2.setTop (mkF m 5 #[.val (.ref ob)] [(.long (0 : Int64)), (.long u4)])) _
    refine XS.lcmp X2.here hx rfl (hb hby d3_5) rfl ?_
    exact k
  by_cases hc4 : u4 = (0 : Int64)
  ·
    obtain ⟨T5, X5, e5, st5⟩ := getF X2 hx hZ hown (host := "") (Or.inl (hw _ (List.mem_of_getElem? (i := 17) rfl))) Via.refl e2 k1_5 (g := (mkF m 10 #[.val (.ref ob)] [(.ref ob)])) rfl rfl (hb hby d3_10)
    have pre6 : ∀ t, Steps p.tables e below (T5.setTop (mkF m 15 #[.val (.ref ob)] [(.int (lcmpW u5 (0 : Int64)))])) t → Steps p.tables e below (s₁.setTop (entryFrame m #[(.ref ob)] 1)) t := by
      intro t k
      refine pre3 t ?_
      show Steps p.tables e below (T2.setTop (mkF m 6 #[.val (.ref ob)] [(.int (lcmpW u4 (0 : Int64)))])) _
      refine XS.ifNo X2.here hx rfl (hb hby d3_6) rfl ((if0 _ _).trans (teq ((lw_eq _ _).mpr hc4)).2) ?_
      show Steps p.tables e below (T2.setTop (mkF m 9 #[.val (.ref ob)] [])) _
      refine XS.aloadN X2.here hx rfl (hb hby d3_9) rfl rfl ?_
      show Steps p.tables e below (T2.setTop (mkF m 10 #[.val (.ref ob)] [(.ref ob)])) _
      refine st5 _ ?_
      show Steps p.tables e below (T5.setTop (mkF m 13 #[.val (.ref ob)] [(.long u5)])) _
      refine XS.lconst X5.here hx rfl (hb hby d3_13) ?_
      show Steps p.tables e below (T5.setTop (mkF m 14 #[.val (.ref ob)] [(.long (0 : Int64)), (.long u5)])) _
      refine XS.lcmp X5.here hx rfl (hb hby d3_14) rfl ?_
      exact k
    by_cases hc7 : u5 = (0 : Int64)
    ·
      obtain ⟨T8, X8, e8, st8⟩ := getF X5 hx hZ hown (host := "") (Or.inl (hw _ (List.mem_of_getElem? (i := 19) rfl))) Via.refl e5 k1_6 (g := (mkF m 19 #[.val (.ref ob)] [(.ref ob)])) rfl rfl (hb hby d3_19)
      have pre9 : ∀ t, Steps p.tables e below (T8.setTop (mkF m 24 #[.val (.ref ob)] [(.int (lcmpW u6 (0 : Int64)))])) t → Steps p.tables e below (s₁.setTop (entryFrame m #[(.ref ob)] 1)) t := by
        intro t k
        refine pre6 t ?_
        show Steps p.tables e below (T5.setTop (mkF m 15 #[.val (.ref ob)] [(.int (lcmpW u5 (0 : Int64)))])) _
        refine XS.ifNo X5.here hx rfl (hb hby d3_15) rfl ((if0 _ _).trans (teq ((lw_eq _ _).mpr hc7)).2) ?_
        show Steps p.tables e below (T5.setTop (mkF m 18 #[.val (.ref ob)] [])) _
        refine XS.aloadN X5.here hx rfl (hb hby d3_18) rfl rfl ?_
        show Steps p.tables e below (T5.setTop (mkF m 19 #[.val (.ref ob)] [(.ref ob)])) _
        refine st8 _ ?_
        show Steps p.tables e below (T8.setTop (mkF m 22 #[.val (.ref ob)] [(.long u6)])) _
        refine XS.lconst X8.here hx rfl (hb hby d3_22) ?_
        show Steps p.tables e below (T8.setTop (mkF m 23 #[.val (.ref ob)] [(.long (0 : Int64)), (.long u6)])) _
        refine XS.lcmp X8.here hx rfl (hb hby d3_23) rfl ?_
        exact k
      have pre10 : ∀ t, Steps p.tables e below (T8.setTop (mkF m 32 #[.val (.ref ob)] [(.int (b2i (if u6 = (0 : Int64) then true else false)))])) t → Steps p.tables e below (s₁.setTop (entryFrame m #[(.ref ob)] 1)) t := by
        intro t k
        refine pre9 t ?_
        have k : ∀ (v1 : Bool), v1 = (if u6 = (0 : Int64) then true else false) → Steps p.tables e below (T8.setTop (mkF m 32 #[.val (.ref ob)] [(.int (b2i v1))])) t := fun v1 hv1 => by subst hv1; exact k
        show Steps p.tables e below (T8.setTop (mkF m 24 #[.val (.ref ob)] [(.int (lcmpW u6 (0 : Int64)))])) _
        by_cases hc11 : u6 = (0 : Int64)
        · refine XS.ifNo X8.here hx rfl (hb hby d3_24) rfl ((if0 _ _).trans (teq ((lw_eq _ _).mpr hc11)).2) ?_
          have k : ∀ (v1 : Bool), v1 = true → Steps p.tables e below (T8.setTop (mkF m 32 #[.val (.ref ob)] [(.int (b2i v1))])) t := fun v1 hv1 => k v1 (hv1.trans (if_pos hc11).symm)
          show Steps p.tables e below (T8.setTop (mkF m 27 #[.val (.ref ob)] [])) _
          refine XS.iconst X8.here hx rfl (hb hby d3_27) ?_
          show Steps p.tables e below (T8.setTop (mkF m 28 #[.val (.ref ob)] [(.int (1 : Int32))])) _
          refine XS.goto X8.here hx rfl (pc0 := 28) (pc' := 32) rfl (hb hby d3_28) (by decide) (by decide) ?_
          exact k true rfl
        · refine XS.ifYes X8.here hx rfl (pc0 := 24) (pc' := 31) rfl (hb hby d3_24) rfl ((if0 _ _).trans (feq (fun q => hc11 ((lw_eq _ _).mp q))).2) (by decide) (by decide) ?_
          have k : ∀ (v1 : Bool), v1 = false → Steps p.tables e below (T8.setTop (mkF m 32 #[.val (.ref ob)] [(.int (b2i v1))])) t := fun v1 hv1 => k v1 (hv1.trans (if_neg hc11).symm)
          show Steps p.tables e below (T8.setTop (mkF m 31 #[.val (.ref ob)] [])) _
          refine XS.iconst X8.here hx rfl (hb hby d3_31) ?_
          exact k false rfl
      obtain ⟨fs, hr, hrun, hended, hW, hsame⟩ := X8.leave (v := some (.int (b2i (Fag u4 u5 u6)))) (fun h => by rw [Bd.returns] at h; cases h)
      refine ⟨_, _, pre10 _ ?_, hrun, hended, _, _, rfl, ?_, ⟨_, rfl⟩, hW, hsame.mono (by decide) (by decide)⟩
      · show Steps p.tables e below (T8.setTop (mkF m 32 #[.val (.ref ob)] [(.int (b2i (if u6 = (0 : Int64) then true else false)))])) _
        have hr2 := hr
        rw [(show (Fag u4 u5 u6) = (if u6 = (0 : Int64) then true else false) from ((if_pos hc4).trans ((if_pos hc7).trans rfl)))] at hr2
        exact retN X8 hx (t := .boolean) Bd.returns (by simp) (hb hby d3_32) (by rw [nar_b2i]; exact hr2)
      · show Q3 Z ob u1 u2 u3 u4 u5 u6 h0 n0 _ T8.heap _
        rw [e8]
        exact ⟨rfl, N0, rfl⟩
    ·
      have pre12 : ∀ t, Steps p.tables e below (T5.setTop (mkF m 32 #[.val (.ref ob)] [(.int (0 : Int32))])) t → Steps p.tables e below (s₁.setTop (entryFrame m #[(.ref ob)] 1)) t := by
        intro t k
        refine pre6 t ?_
        show Steps p.tables e below (T5.setTop (mkF m 15 #[.val (.ref ob)] [(.int (lcmpW u5 (0 : Int64)))])) _
        refine XS.ifYes X5.here hx rfl (pc0 := 15) (pc' := 31) rfl (hb hby d3_15) rfl ((if0 _ _).trans (feq (fun q => hc7 ((lw_eq _ _).mp q))).2) (by decide) (by decide) ?_
        show Steps p.tables e below (T5.setTop (mkF m 31 #[.val (.ref ob)] [])) _
        refine XS.iconst X5.here hx rfl (hb hby d3_31) ?_
        exact k
      obtain ⟨fs, hr, hrun, hended, hW, hsame⟩ := X5.leave (v := some (.int (b2i (Fag u4 u5 u6)))) (fun h => by rw [Bd.returns] at h; cases h)
      refine ⟨_, _, pre12 _ ?_, hrun, hended, _, _, rfl, ?_, ⟨_, rfl⟩, hW, hsame.mono (by decide) (by decide)⟩
      · show Steps p.tables e below (T5.setTop (mkF m 32 #[.val (.ref ob)] [(.int (0 : Int32))])) _
        have hr2 := hr
        rw [(show (Fag u4 u5 u6) = false from ((if_pos hc4).trans ((if_neg hc7).trans rfl)))] at hr2
        exact retN X5 hx (t := .boolean) Bd.returns (by simp) (hb hby d3_32) hr2
      · show Q3 Z ob u1 u2 u3 u4 u5 u6 h0 n0 _ T5.heap _
        rw [e5]
        exact ⟨rfl, N0, rfl⟩
  ·
    have pre13 : ∀ t, Steps p.tables e below (T2.setTop (mkF m 32 #[.val (.ref ob)] [(.int (0 : Int32))])) t → Steps p.tables e below (s₁.setTop (entryFrame m #[(.ref ob)] 1)) t := by
      intro t k
      refine pre3 t ?_
      show Steps p.tables e below (T2.setTop (mkF m 6 #[.val (.ref ob)] [(.int (lcmpW u4 (0 : Int64)))])) _
      refine XS.ifYes X2.here hx rfl (pc0 := 6) (pc' := 31) rfl (hb hby d3_6) rfl ((if0 _ _).trans (feq (fun q => hc4 ((lw_eq _ _).mp q))).2) (by decide) (by decide) ?_
      show Steps p.tables e below (T2.setTop (mkF m 31 #[.val (.ref ob)] [])) _
      refine XS.iconst X2.here hx rfl (hb hby d3_31) ?_
      exact k
    obtain ⟨fs, hr, hrun, hended, hW, hsame⟩ := X2.leave (v := some (.int (b2i (Fag u4 u5 u6)))) (fun h => by rw [Bd.returns] at h; cases h)
    refine ⟨_, _, pre13 _ ?_, hrun, hended, _, _, rfl, ?_, ⟨_, rfl⟩, hW, hsame.mono (by decide) (by decide)⟩
    · show Steps p.tables e below (T2.setTop (mkF m 32 #[.val (.ref ob)] [(.int (0 : Int32))])) _
      have hr2 := hr
      rw [(show (Fag u4 u5 u6) = false from ((if_neg hc4).trans rfl))] at hr2
      exact retN X2 hx (t := .boolean) Bd.returns (by simp) (hb hby d3_32) hr2
    · show Q3 Z ob u1 u2 u3 u4 u5 u6 h0 n0 _ T2.heap _
      rw [e2]
      exact ⟨rfl, N0, rfl⟩
theorem pn_0 : plainName "com/example/seshat/seshat/CheckReportAgreesPinLaw" = true := by first | (simp [plainName, overriddenIn]; done) | decide +kernel
theorem pd_0 : parseMethodDescriptor "(JJJJJJ)V" = some ⟨[.long, .long, .long, .long, .long, .long], none⟩ := by decide +kernel
theorem pd_2 : parseMethodDescriptor "()Z" = some ⟨[], some .boolean⟩ := by decide +kernel
theorem ef_0 (m : MethodId) (x0 : Int64) (x1 : Int64) (x2 : Int64) (x3 : Int64) (x4 : Int64) (x5 : Int32) : entryFrame m #[(.long x0), (.long x1), (.long x2), (.long x3), (.long x4), (.int x5)] maxLocals = mkF m 0 #[.val (.long x0), .second, .val (.long x1), .second, .val (.long x2), .second, .val (.long x3), .second, .val (.long x4), .second, .val (.int x5), .unset, .unset, .unset, .unset, .unset, .unset, .unset, .unset, .unset, .unset, .unset, .unset, .unset, .unset] [] := by first | (simp [entryFrame, mkF, argsToLocals, Value.category, maxLocals]; done) | rfl
def v_mm (mi : Int64) (sel : Int32) : Int64 := (if (sel &&& (1 : Int32)) = (0 : Int32) then mi else (0 : Int64))
def v_dd (da : Int64) (sel : Int32) : Int64 := (if (sel &&& (2 : Int32)) = (0 : Int32) then da else (0 : Int64))
def v_ww (wr : Int64) (sel : Int32) : Int64 := (if (sel &&& (4 : Int32)) = (0 : Int32) then wr else (0 : Int64))
def v_ix (rev : Int64) (recs : Int64) (sel : Int32) : Int64 := (if (sel &&& (8 : Int32)) = (0 : Int32) then (rev ^^^ recs) else (0 : Int64))
def v_rv (rev : Int64) (sel : Int32) : Int64 := (if (sel &&& (16 : Int32)) = (0 : Int32) then rev else (0 : Int64))
def v_rc (recs : Int64) (sel : Int32) : Int64 := (if (sel &&& (32 : Int32)) = (0 : Int32) then recs else (0 : Int64))
def lawE1 (mi : Int64) (da : Int64) (wr : Int64) (sel : Int32) : Bool := (if (b2i (Fag (Fi_missing (v_mm mi sel)) (Fi_dangling (v_dd da sel)) (Fi_wrong (v_ww wr sel)))) = (b2i (if (((v_mm mi sel) ||| (v_dd da sel)) ||| (v_ww wr sel)) = (0 : Int64) then true else false)) then true else false)
theorem own_law1 (mi : Int64) (da : Int64) (wr : Int64) (sel : Int32) : lawE1 mi da wr sel = true := by
  refine if_pos (congrArg b2i ?_)
  show Fag (v_mm mi sel) (v_dd da sel) (v_ww wr sel) = _
  generalize v_mm mi sel = a
  generalize v_dd da sel = b
  generalize v_ww wr sel = c
  unfold Fag
  simp only [Int64.or_eq_zero_iff]
  by_cases h1 : a = 0 <;> by_cases h2 : b = 0 <;> by_cases h3 : c = 0 <;> simp [h1, h2, h3]
def Q0 (Z : State) (rev : Int64) (recs : Int64) (mi : Int64) (da : Int64) (wr : Int64) (sel : Int32) (h0 : Heap) (n0 : Nat) (v : Option Value) (h : Heap) (L : List Loc) : Prop := v = some (.int (1 : Int32)) ∧ Fr n0 L
set_option maxRecDepth 65536 in
set_option maxHeartbeats 40000000 in
theorem rm0 (l : Launch) (Z : State) (a0 : Array Value) (hw : ∀ d ∈ tables_1, d.before a0 Z = true) (ws : List Jvm.Cond) (rev : Int64) (recs : Int64) (mi : Int64) (da : Int64) (wr : Int64) (sel : Int32) (h0 : Heap) (n0 : Nat) (Z0 : n0 ≤ h0.size) :
    MetFree l x (head1 (Jvm.Cond.code x code maxLocals ret :: ws) room_1) (fun a U => a = #[(.long rev), (.long recs), (.long mi), (.long da), (.long wr), (.int sel)] ∧ Z.Warmed39 U.vm ∧ U.heap = h0) (fun _ _ _ _ _ => True) (fun _ U o U' => ∃ v L, o = .returned v ∧ Q0 Z rev recs mi da wr sel h0 n0 v U'.heap L ∧ FrameEnd U o U' L room_1.cells room_1.slots) := by
  refine MetFree.of_bodySF (plainFor_of_name pn_0) hisR ?_
  intro p e s m args below meth c s₁ Bd hml0 hP hK
  obtain ⟨rfl, hZ, hh⟩ := hP
  have hx := Bd.exec
  have hby := Bd.bytes
  have hml : c.maxLocals = 25 := hml0
  have hown : s.vm.findClass "com/example/seshat/seshat/CheckReportAgreesPinLaw" = some m.cls := findClass_of_methodNamed Bd.named
  have hnm := (name_of_methodNamed Bd.named Bd.method).1
  have X0 : Stand p l e room_1 s m #[(.long rev), (.long recs), (.long mi), (.long da), (.long wr), (.int sel)] below meth c s₁ [] 0 0 := Stand.of_body Bd
  have e0 : s₁.heap = h0 := by rw [← hh, Bd.state]; rfl
  have N0 := Fr.nil n0
  have pre0 : ∀ t, Steps p.tables e below (s₁.setTop (mkF m 0 #[.val (.long rev), .second, .val (.long recs), .second, .val (.long mi), .second, .val (.long da), .second, .val (.long wr), .second, .val (.int sel), .unset, .unset, .unset, .unset, .unset, .unset, .unset, .unset, .unset, .unset, .unset, .unset, .unset, .unset] [])) t → Steps p.tables e below (s₁.setTop (entryFrame m #[(.long rev), (.long recs), (.long mi), (.long da), (.long wr), (.int sel)] maxLocals)) t := fun t k => castTop (ef_0 m rev recs mi da wr sel) k
  have pre1 : ∀ t, Steps p.tables e below (s₁.setTop (mkF m 4 #[.val (.long rev), .second, .val (.long recs), .second, .val (.long mi), .second, .val (.long da), .second, .val (.long wr), .second, .val (.int sel), .unset, .unset, .unset, .unset, .unset, .unset, .unset, .unset, .unset, .unset, .unset, .unset, .unset, .unset] [(.int (sel &&& (1 : Int32)))])) t → Steps p.tables e below (s₁.setTop (entryFrame m #[(.long rev), (.long recs), (.long mi), (.long da), (.long wr), (.int sel)] maxLocals)) t := by
    intro t k
    refine pre0 t ?_
    show Steps p.tables e below (s₁.setTop (mkF m 0 #[.val (.long rev), .second, .val (.long recs), .second, .val (.long mi), .second, .val (.long da), .second, .val (.long wr), .second, .val (.int sel), .unset, .unset, .unset, .unset, .unset, .unset, .unset, .unset, .unset, .unset, .unset, .unset, .unset, .unset] [])) _
    refine XS.iload X0.here hx rfl (hb hby at_0) rfl ?_
    show Steps p.tables e below (s₁.setTop (mkF m 2 #[.val (.long rev), .second, .val (.long recs), .second, .val (.long mi), .second, .val (.long da), .second, .val (.long wr), .second, .val (.int sel), .unset, .unset, .unset, .unset, .unset, .unset, .unset, .unset, .unset, .unset, .unset, .unset, .unset, .unset] [(.int sel)])) _
    refine XS.iconst X0.here hx rfl (hb hby at_2) ?_
    show Steps p.tables e below (s₁.setTop (mkF m 3 #[.val (.long rev), .second, .val (.long recs), .second, .val (.long mi), .second, .val (.long da), .second, .val (.long wr), .second, .val (.int sel), .unset, .unset, .unset, .unset, .unset, .unset, .unset, .unset, .unset, .unset, .unset, .unset, .unset, .unset] [(.int (1 : Int32)), (.int sel)])) _
    refine XS.iand X0.here hx rfl (hb hby at_3) rfl ?_
    exact k
  have pre2 : ∀ t, Steps p.tables e below (s₁.setTop (mkF m 13 #[.val (.long rev), .second, .val (.long recs), .second, .val (.long mi), .second, .val (.long da), .second, .val (.long wr), .second, .val (.int sel), .unset, .unset, .unset, .unset, .unset, .unset, .unset, .unset, .unset, .unset, .unset, .unset, .unset, .unset] [(.long (if (sel &&& (1 : Int32)) = (0 : Int32) then mi else (0 : Int64)))])) t → Steps p.tables e below (s₁.setTop (entryFrame m #[(.long rev), (.long recs), (.long mi), (.long da), (.long wr), (.int sel)] maxLocals)) t := by
    intro t k
    refine pre1 t ?_
    have k : ∀ (v1 : Int64), v1 = (if (sel &&& (1 : Int32)) = (0 : Int32) then mi else (0 : Int64)) → Steps p.tables e below (s₁.setTop (mkF m 13 #[.val (.long rev), .second, .val (.long recs), .second, .val (.long mi), .second, .val (.long da), .second, .val (.long wr), .second, .val (.int sel), .unset, .unset, .unset, .unset, .unset, .unset, .unset, .unset, .unset, .unset, .unset, .unset, .unset, .unset] [(.long v1)])) t := fun v1 hv1 => by subst hv1; exact k
    show Steps p.tables e below (s₁.setTop (mkF m 4 #[.val (.long rev), .second, .val (.long recs), .second, .val (.long mi), .second, .val (.long da), .second, .val (.long wr), .second, .val (.int sel), .unset, .unset, .unset, .unset, .unset, .unset, .unset, .unset, .unset, .unset, .unset, .unset, .unset, .unset] [(.int (sel &&& (1 : Int32)))])) _
    by_cases hc3 : (sel &&& (1 : Int32)) = (0 : Int32)
    · refine XS.ifYes X0.here hx rfl (pc0 := 4) (pc' := 11) rfl (hb hby at_4) rfl ((if0 _ _).trans (teq hc3).1) (by decide) (by decide) ?_
      have k : ∀ (v1 : Int64), v1 = mi → Steps p.tables e below (s₁.setTop (mkF m 13 #[.val (.long rev), .second, .val (.long recs), .second, .val (.long mi), .second, .val (.long da), .second, .val (.long wr), .second, .val (.int sel), .unset, .unset, .unset, .unset, .unset, .unset, .unset, .unset, .unset, .unset, .unset, .unset, .unset, .unset] [(.long v1)])) t := fun v1 hv1 => k v1 (hv1.trans (if_pos hc3).symm)
      show Steps p.tables e below (s₁.setTop (mkF m 11 #[.val (.long rev), .second, .val (.long recs), .second, .val (.long mi), .second, .val (.long da), .second, .val (.long wr), .second, .val (.int sel), .unset, .unset, .unset, .unset, .unset, .unset, .unset, .unset, .unset, .unset, .unset, .unset, .unset, .unset] [])) _
      refine XS.lload X0.here hx rfl (hb hby at_11) rfl ?_
      exact k _ rfl
    · refine XS.ifNo X0.here hx rfl (hb hby at_4) rfl ((if0 _ _).trans (feq hc3).1) ?_
      have k : ∀ (v1 : Int64), v1 = (0 : Int64) → Steps p.tables e below (s₁.setTop (mkF m 13 #[.val (.long rev), .second, .val (.long recs), .second, .val (.long mi), .second, .val (.long da), .second, .val (.long wr), .second, .val (.int sel), .unset, .unset, .unset, .unset, .unset, .unset, .unset, .unset, .unset, .unset, .unset, .unset, .unset, .unset] [(.long v1)])) t := fun v1 hv1 => k v1 (hv1.trans (if_neg hc3).symm)
      show Steps p.tables e below (s₁.setTop (mkF m 7 #[.val (.long rev), .second, .val (.long recs), .second, .val (.long mi), .second, .val (.long da), .second, .val (.long wr), .second, .val (.int sel), .unset, .unset, .unset, .unset, .unset, .unset, .unset, .unset, .unset, .unset, .unset, .unset, .unset, .unset] [])) _
      refine XS.lconst X0.here hx rfl (hb hby at_7) ?_
      show Steps p.tables e below (s₁.setTop (mkF m 8 #[.val (.long rev), .second, .val (.long recs), .second, .val (.long mi), .second, .val (.long da), .second, .val (.long wr), .second, .val (.int sel), .unset, .unset, .unset, .unset, .unset, .unset, .unset, .unset, .unset, .unset, .unset, .unset, .unset, .unset] [(.long (0 : Int64))])) _
      refine XS.goto X0.here hx rfl (pc0 := 8) (pc' := 13) rfl (hb hby at_8) (by decide) (by decide) ?_
      exact k _ rfl
  have pre4 : ∀ t, Steps p.tables e below (s₁.setTop (mkF m 19 #[.val (.long rev), .second, .val (.long recs), .second, .val (.long mi), .second, .val (.long da), .second, .val (.long wr), .second, .val (.int sel), .val (.long (v_mm mi sel)), .second, .unset, .unset, .unset, .unset, .unset, .unset, .unset, .unset, .unset, .unset, .unset, .unset] [(.int (sel &&& (2 : Int32)))])) t → Steps p.tables e below (s₁.setTop (entryFrame m #[(.long rev), (.long recs), (.long mi), (.long da), (.long wr), (.int sel)] maxLocals)) t := by
    intro t k
    refine pre2 t ?_
    show Steps p.tables e below (s₁.setTop (mkF m 13 #[.val (.long rev), .second, .val (.long recs), .second, .val (.long mi), .second, .val (.long da), .second, .val (.long wr), .second, .val (.int sel), .unset, .unset, .unset, .unset, .unset, .unset, .unset, .unset, .unset, .unset, .unset, .unset, .unset, .unset] [(.long (if (sel &&& (1 : Int32)) = (0 : Int32) then mi else (0 : Int64)))])) _
    refine XS.lstore X0.here hx rfl (hb hby at_13) rfl (l' := #[.val (.long rev), .second, .val (.long recs), .second, .val (.long mi), .second, .val (.long da), .second, .val (.long wr), .second, .val (.int sel), .val (.long (v_mm mi sel)), .second, .unset, .unset, .unset, .unset, .unset, .unset, .unset, .unset, .unset, .unset, .unset, .unset]) rfl ?_
    show Steps p.tables e below (s₁.setTop (mkF m 15 #[.val (.long rev), .second, .val (.long recs), .second, .val (.long mi), .second, .val (.long da), .second, .val (.long wr), .second, .val (.int sel), .val (.long (v_mm mi sel)), .second, .unset, .unset, .unset, .unset, .unset, .unset, .unset, .unset, .unset, .unset, .unset, .unset] [])) _
    refine XS.iload X0.here hx rfl (hb hby at_15) rfl ?_
    show Steps p.tables e below (s₁.setTop (mkF m 17 #[.val (.long rev), .second, .val (.long recs), .second, .val (.long mi), .second, .val (.long da), .second, .val (.long wr), .second, .val (.int sel), .val (.long (v_mm mi sel)), .second, .unset, .unset, .unset, .unset, .unset, .unset, .unset, .unset, .unset, .unset, .unset, .unset] [(.int sel)])) _
    refine XS.iconst X0.here hx rfl (hb hby at_17) ?_
    show Steps p.tables e below (s₁.setTop (mkF m 18 #[.val (.long rev), .second, .val (.long recs), .second, .val (.long mi), .second, .val (.long da), .second, .val (.long wr), .second, .val (.int sel), .val (.long (v_mm mi sel)), .second, .unset, .unset, .unset, .unset, .unset, .unset, .unset, .unset, .unset, .unset, .unset, .unset] [(.int (2 : Int32)), (.int sel)])) _
    refine XS.iand X0.here hx rfl (hb hby at_18) rfl ?_
    exact k
  have pre5 : ∀ t, Steps p.tables e below (s₁.setTop (mkF m 28 #[.val (.long rev), .second, .val (.long recs), .second, .val (.long mi), .second, .val (.long da), .second, .val (.long wr), .second, .val (.int sel), .val (.long (v_mm mi sel)), .second, .unset, .unset, .unset, .unset, .unset, .unset, .unset, .unset, .unset, .unset, .unset, .unset] [(.long (if (sel &&& (2 : Int32)) = (0 : Int32) then da else (0 : Int64)))])) t → Steps p.tables e below (s₁.setTop (entryFrame m #[(.long rev), (.long recs), (.long mi), (.long da), (.long wr), (.int sel)] maxLocals)) t := by
    intro t k
    refine pre4 t ?_
    have k : ∀ (v1 : Int64), v1 = (if (sel &&& (2 : Int32)) = (0 : Int32) then da else (0 : Int64)) → Steps p.tables e below (s₁.setTop (mkF m 28 #[.val (.long rev), .second, .val (.long recs), .second, .val (.long mi), .second, .val (.long da), .second, .val (.long wr), .second, .val (.int sel), .val (.long (v_mm mi sel)), .second, .unset, .unset, .unset, .unset, .unset, .unset, .unset, .unset, .unset, .unset, .unset, .unset] [(.long v1)])) t := fun v1 hv1 => by subst hv1; exact k
    show Steps p.tables e below (s₁.setTop (mkF m 19 #[.val (.long rev), .second, .val (.long recs), .second, .val (.long mi), .second, .val (.long da), .second, .val (.long wr), .second, .val (.int sel), .val (.long (v_mm mi sel)), .second, .unset, .unset, .unset, .unset, .unset, .unset, .unset, .unset, .unset, .unset, .unset, .unset] [(.int (sel &&& (2 : Int32)))])) _
    by_cases hc6 : (sel &&& (2 : Int32)) = (0 : Int32)
    · refine XS.ifYes X0.here hx rfl (pc0 := 19) (pc' := 26) rfl (hb hby at_19) rfl ((if0 _ _).trans (teq hc6).1) (by decide) (by decide) ?_
      have k : ∀ (v1 : Int64), v1 = da → Steps p.tables e below (s₁.setTop (mkF m 28 #[.val (.long rev), .second, .val (.long recs), .second, .val (.long mi), .second, .val (.long da), .second, .val (.long wr), .second, .val (.int sel), .val (.long (v_mm mi sel)), .second, .unset, .unset, .unset, .unset, .unset, .unset, .unset, .unset, .unset, .unset, .unset, .unset] [(.long v1)])) t := fun v1 hv1 => k v1 (hv1.trans (if_pos hc6).symm)
      show Steps p.tables e below (s₁.setTop (mkF m 26 #[.val (.long rev), .second, .val (.long recs), .second, .val (.long mi), .second, .val (.long da), .second, .val (.long wr), .second, .val (.int sel), .val (.long (v_mm mi sel)), .second, .unset, .unset, .unset, .unset, .unset, .unset, .unset, .unset, .unset, .unset, .unset, .unset] [])) _
      refine XS.lload X0.here hx rfl (hb hby at_26) rfl ?_
      exact k _ rfl
    · refine XS.ifNo X0.here hx rfl (hb hby at_19) rfl ((if0 _ _).trans (feq hc6).1) ?_
      have k : ∀ (v1 : Int64), v1 = (0 : Int64) → Steps p.tables e below (s₁.setTop (mkF m 28 #[.val (.long rev), .second, .val (.long recs), .second, .val (.long mi), .second, .val (.long da), .second, .val (.long wr), .second, .val (.int sel), .val (.long (v_mm mi sel)), .second, .unset, .unset, .unset, .unset, .unset, .unset, .unset, .unset, .unset, .unset, .unset, .unset] [(.long v1)])) t := fun v1 hv1 => k v1 (hv1.trans (if_neg hc6).symm)
      show Steps p.tables e below (s₁.setTop (mkF m 22 #[.val (.long rev), .second, .val (.long recs), .second, .val (.long mi), .second, .val (.long da), .second, .val (.long wr), .second, .val (.int sel), .val (.long (v_mm mi sel)), .second, .unset, .unset, .unset, .unset, .unset, .unset, .unset, .unset, .unset, .unset, .unset, .unset] [])) _
      refine XS.lconst X0.here hx rfl (hb hby at_22) ?_
      show Steps p.tables e below (s₁.setTop (mkF m 23 #[.val (.long rev), .second, .val (.long recs), .second, .val (.long mi), .second, .val (.long da), .second, .val (.long wr), .second, .val (.int sel), .val (.long (v_mm mi sel)), .second, .unset, .unset, .unset, .unset, .unset, .unset, .unset, .unset, .unset, .unset, .unset, .unset] [(.long (0 : Int64))])) _
      refine XS.goto X0.here hx rfl (pc0 := 23) (pc' := 28) rfl (hb hby at_23) (by decide) (by decide) ?_
      exact k _ rfl
  have pre7 : ∀ t, Steps p.tables e below (s₁.setTop (mkF m 34 #[.val (.long rev), .second, .val (.long recs), .second, .val (.long mi), .second, .val (.long da), .second, .val (.long wr), .second, .val (.int sel), .val (.long (v_mm mi sel)), .second, .val (.long (v_dd da sel)), .second, .unset, .unset, .unset, .unset, .unset, .unset, .unset, .unset, .unset, .unset] [(.int (sel &&& (4 : Int32)))])) t → Steps p.tables e below (s₁.setTop (entryFrame m #[(.long rev), (.long recs), (.long mi), (.long da), (.long wr), (.int sel)] maxLocals)) t := by
    intro t k
    refine pre5 t ?_
    show Steps p.tables e below (s₁.setTop (mkF m 28 #[.val (.long rev), .second, .val (.long recs), .second, .val (.long mi), .second, .val (.long da), .second, .val (.long wr), .second, .val (.int sel), .val (.long (v_mm mi sel)), .second, .unset, .unset, .unset, .unset, .unset, .unset, .unset, .unset, .unset, .unset, .unset, .unset] [(.long (if (sel &&& (2 : Int32)) = (0 : Int32) then da else (0 : Int64)))])) _
    refine XS.lstore X0.here hx rfl (hb hby at_28) rfl (l' := #[.val (.long rev), .second, .val (.long recs), .second, .val (.long mi), .second, .val (.long da), .second, .val (.long wr), .second, .val (.int sel), .val (.long (v_mm mi sel)), .second, .val (.long (v_dd da sel)), .second, .unset, .unset, .unset, .unset, .unset, .unset, .unset, .unset, .unset, .unset]) rfl ?_
    show Steps p.tables e below (s₁.setTop (mkF m 30 #[.val (.long rev), .second, .val (.long recs), .second, .val (.long mi), .second, .val (.long da), .second, .val (.long wr), .second, .val (.int sel), .val (.long (v_mm mi sel)), .second, .val (.long (v_dd da sel)), .second, .unset, .unset, .unset, .unset, .unset, .unset, .unset, .unset, .unset, .unset] [])) _
    refine XS.iload X0.here hx rfl (hb hby at_30) rfl ?_
    show Steps p.tables e below (s₁.setTop (mkF m 32 #[.val (.long rev), .second, .val (.long recs), .second, .val (.long mi), .second, .val (.long da), .second, .val (.long wr), .second, .val (.int sel), .val (.long (v_mm mi sel)), .second, .val (.long (v_dd da sel)), .second, .unset, .unset, .unset, .unset, .unset, .unset, .unset, .unset, .unset, .unset] [(.int sel)])) _
    refine XS.iconst X0.here hx rfl (hb hby at_32) ?_
    show Steps p.tables e below (s₁.setTop (mkF m 33 #[.val (.long rev), .second, .val (.long recs), .second, .val (.long mi), .second, .val (.long da), .second, .val (.long wr), .second, .val (.int sel), .val (.long (v_mm mi sel)), .second, .val (.long (v_dd da sel)), .second, .unset, .unset, .unset, .unset, .unset, .unset, .unset, .unset, .unset, .unset] [(.int (4 : Int32)), (.int sel)])) _
    refine XS.iand X0.here hx rfl (hb hby at_33) rfl ?_
    exact k
  have pre8 : ∀ t, Steps p.tables e below (s₁.setTop (mkF m 43 #[.val (.long rev), .second, .val (.long recs), .second, .val (.long mi), .second, .val (.long da), .second, .val (.long wr), .second, .val (.int sel), .val (.long (v_mm mi sel)), .second, .val (.long (v_dd da sel)), .second, .unset, .unset, .unset, .unset, .unset, .unset, .unset, .unset, .unset, .unset] [(.long (if (sel &&& (4 : Int32)) = (0 : Int32) then wr else (0 : Int64)))])) t → Steps p.tables e below (s₁.setTop (entryFrame m #[(.long rev), (.long recs), (.long mi), (.long da), (.long wr), (.int sel)] maxLocals)) t := by
    intro t k
    refine pre7 t ?_
    have k : ∀ (v1 : Int64), v1 = (if (sel &&& (4 : Int32)) = (0 : Int32) then wr else (0 : Int64)) → Steps p.tables e below (s₁.setTop (mkF m 43 #[.val (.long rev), .second, .val (.long recs), .second, .val (.long mi), .second, .val (.long da), .second, .val (.long wr), .second, .val (.int sel), .val (.long (v_mm mi sel)), .second, .val (.long (v_dd da sel)), .second, .unset, .unset, .unset, .unset, .unset, .unset, .unset, .unset, .unset, .unset] [(.long v1)])) t := fun v1 hv1 => by subst hv1; exact k
    show Steps p.tables e below (s₁.setTop (mkF m 34 #[.val (.long rev), .second, .val (.long recs), .second, .val (.long mi), .second, .val (.long da), .second, .val (.long wr), .second, .val (.int sel), .val (.long (v_mm mi sel)), .second, .val (.long (v_dd da sel)), .second, .unset, .unset, .unset, .unset, .unset, .unset, .unset, .unset, .unset, .unset] [(.int (sel &&& (4 : Int32)))])) _
    by_cases hc9 : (sel &&& (4 : Int32)) = (0 : Int32)
    · refine XS.ifYes X0.here hx rfl (pc0 := 34) (pc' := 41) rfl (hb hby at_34) rfl ((if0 _ _).trans (teq hc9).1) (by decide) (by decide) ?_
      have k : ∀ (v1 : Int64), v1 = wr → Steps p.tables e below (s₁.setTop (mkF m 43 #[.val (.long rev), .second, .val (.long recs), .second, .val (.long mi), .second, .val (.long da), .second, .val (.long wr), .second, .val (.int sel), .val (.long (v_mm mi sel)), .second, .val (.long (v_dd da sel)), .second, .unset, .unset, .unset, .unset, .unset, .unset, .unset, .unset, .unset, .unset] [(.long v1)])) t := fun v1 hv1 => k v1 (hv1.trans (if_pos hc9).symm)
      show Steps p.tables e below (s₁.setTop (mkF m 41 #[.val (.long rev), .second, .val (.long recs), .second, .val (.long mi), .second, .val (.long da), .second, .val (.long wr), .second, .val (.int sel), .val (.long (v_mm mi sel)), .second, .val (.long (v_dd da sel)), .second, .unset, .unset, .unset, .unset, .unset, .unset, .unset, .unset, .unset, .unset] [])) _
      refine XS.lload X0.here hx rfl (hb hby at_41) rfl ?_
      exact k _ rfl
    · refine XS.ifNo X0.here hx rfl (hb hby at_34) rfl ((if0 _ _).trans (feq hc9).1) ?_
      have k : ∀ (v1 : Int64), v1 = (0 : Int64) → Steps p.tables e below (s₁.setTop (mkF m 43 #[.val (.long rev), .second, .val (.long recs), .second, .val (.long mi), .second, .val (.long da), .second, .val (.long wr), .second, .val (.int sel), .val (.long (v_mm mi sel)), .second, .val (.long (v_dd da sel)), .second, .unset, .unset, .unset, .unset, .unset, .unset, .unset, .unset, .unset, .unset] [(.long v1)])) t := fun v1 hv1 => k v1 (hv1.trans (if_neg hc9).symm)
      show Steps p.tables e below (s₁.setTop (mkF m 37 #[.val (.long rev), .second, .val (.long recs), .second, .val (.long mi), .second, .val (.long da), .second, .val (.long wr), .second, .val (.int sel), .val (.long (v_mm mi sel)), .second, .val (.long (v_dd da sel)), .second, .unset, .unset, .unset, .unset, .unset, .unset, .unset, .unset, .unset, .unset] [])) _
      refine XS.lconst X0.here hx rfl (hb hby at_37) ?_
      show Steps p.tables e below (s₁.setTop (mkF m 38 #[.val (.long rev), .second, .val (.long recs), .second, .val (.long mi), .second, .val (.long da), .second, .val (.long wr), .second, .val (.int sel), .val (.long (v_mm mi sel)), .second, .val (.long (v_dd da sel)), .second, .unset, .unset, .unset, .unset, .unset, .unset, .unset, .unset, .unset, .unset] [(.long (0 : Int64))])) _
      refine XS.goto X0.here hx rfl (pc0 := 38) (pc' := 43) rfl (hb hby at_38) (by decide) (by decide) ?_
      exact k _ rfl
  have pre10 : ∀ t, Steps p.tables e below (s₁.setTop (mkF m 50 #[.val (.long rev), .second, .val (.long recs), .second, .val (.long mi), .second, .val (.long da), .second, .val (.long wr), .second, .val (.int sel), .val (.long (v_mm mi sel)), .second, .val (.long (v_dd da sel)), .second, .val (.long (v_ww wr sel)), .second, .unset, .unset, .unset, .unset, .unset, .unset, .unset, .unset] [(.int (sel &&& (8 : Int32)))])) t → Steps p.tables e below (s₁.setTop (entryFrame m #[(.long rev), (.long recs), (.long mi), (.long da), (.long wr), (.int sel)] maxLocals)) t := by
    intro t k
    refine pre8 t ?_
    show Steps p.tables e below (s₁.setTop (mkF m 43 #[.val (.long rev), .second, .val (.long recs), .second, .val (.long mi), .second, .val (.long da), .second, .val (.long wr), .second, .val (.int sel), .val (.long (v_mm mi sel)), .second, .val (.long (v_dd da sel)), .second, .unset, .unset, .unset, .unset, .unset, .unset, .unset, .unset, .unset, .unset] [(.long (if (sel &&& (4 : Int32)) = (0 : Int32) then wr else (0 : Int64)))])) _
    refine XS.lstore X0.here hx rfl (hb hby at_43) rfl (l' := #[.val (.long rev), .second, .val (.long recs), .second, .val (.long mi), .second, .val (.long da), .second, .val (.long wr), .second, .val (.int sel), .val (.long (v_mm mi sel)), .second, .val (.long (v_dd da sel)), .second, .val (.long (v_ww wr sel)), .second, .unset, .unset, .unset, .unset, .unset, .unset, .unset, .unset]) rfl ?_
    show Steps p.tables e below (s₁.setTop (mkF m 45 #[.val (.long rev), .second, .val (.long recs), .second, .val (.long mi), .second, .val (.long da), .second, .val (.long wr), .second, .val (.int sel), .val (.long (v_mm mi sel)), .second, .val (.long (v_dd da sel)), .second, .val (.long (v_ww wr sel)), .second, .unset, .unset, .unset, .unset, .unset, .unset, .unset, .unset] [])) _
    refine XS.iload X0.here hx rfl (hb hby at_45) rfl ?_
    show Steps p.tables e below (s₁.setTop (mkF m 47 #[.val (.long rev), .second, .val (.long recs), .second, .val (.long mi), .second, .val (.long da), .second, .val (.long wr), .second, .val (.int sel), .val (.long (v_mm mi sel)), .second, .val (.long (v_dd da sel)), .second, .val (.long (v_ww wr sel)), .second, .unset, .unset, .unset, .unset, .unset, .unset, .unset, .unset] [(.int sel)])) _
    refine XS.bipush X0.here hx rfl (hb hby at_47) ?_
    show Steps p.tables e below (s₁.setTop (mkF m 49 #[.val (.long rev), .second, .val (.long recs), .second, .val (.long mi), .second, .val (.long da), .second, .val (.long wr), .second, .val (.int sel), .val (.long (v_mm mi sel)), .second, .val (.long (v_dd da sel)), .second, .val (.long (v_ww wr sel)), .second, .unset, .unset, .unset, .unset, .unset, .unset, .unset, .unset] [(.int (8 : Int32)), (.int sel)])) _
    refine XS.iand X0.here hx rfl (hb hby at_49) rfl ?_
    exact k
  have pre11 : ∀ t, Steps p.tables e below (s₁.setTop (mkF m 60 #[.val (.long rev), .second, .val (.long recs), .second, .val (.long mi), .second, .val (.long da), .second, .val (.long wr), .second, .val (.int sel), .val (.long (v_mm mi sel)), .second, .val (.long (v_dd da sel)), .second, .val (.long (v_ww wr sel)), .second, .unset, .unset, .unset, .unset, .unset, .unset, .unset, .unset] [(.long (if (sel &&& (8 : Int32)) = (0 : Int32) then (rev ^^^ recs) else (0 : Int64)))])) t → Steps p.tables e below (s₁.setTop (entryFrame m #[(.long rev), (.long recs), (.long mi), (.long da), (.long wr), (.int sel)] maxLocals)) t := by
    intro t k
    refine pre10 t ?_
    have k : ∀ (v1 : Int64), v1 = (if (sel &&& (8 : Int32)) = (0 : Int32) then (rev ^^^ recs) else (0 : Int64)) → Steps p.tables e below (s₁.setTop (mkF m 60 #[.val (.long rev), .second, .val (.long recs), .second, .val (.long mi), .second, .val (.long da), .second, .val (.long wr), .second, .val (.int sel), .val (.long (v_mm mi sel)), .second, .val (.long (v_dd da sel)), .second, .val (.long (v_ww wr sel)), .second, .unset, .unset, .unset, .unset, .unset, .unset, .unset, .unset] [(.long v1)])) t := fun v1 hv1 => by subst hv1; exact k
    show Steps p.tables e below (s₁.setTop (mkF m 50 #[.val (.long rev), .second, .val (.long recs), .second, .val (.long mi), .second, .val (.long da), .second, .val (.long wr), .second, .val (.int sel), .val (.long (v_mm mi sel)), .second, .val (.long (v_dd da sel)), .second, .val (.long (v_ww wr sel)), .second, .unset, .unset, .unset, .unset, .unset, .unset, .unset, .unset] [(.int (sel &&& (8 : Int32)))])) _
    by_cases hc12 : (sel &&& (8 : Int32)) = (0 : Int32)
    · refine XS.ifYes X0.here hx rfl (pc0 := 50) (pc' := 57) rfl (hb hby at_50) rfl ((if0 _ _).trans (teq hc12).1) (by decide) (by decide) ?_
      have k : ∀ (v1 : Int64), v1 = (rev ^^^ recs) → Steps p.tables e below (s₁.setTop (mkF m 60 #[.val (.long rev), .second, .val (.long recs), .second, .val (.long mi), .second, .val (.long da), .second, .val (.long wr), .second, .val (.int sel), .val (.long (v_mm mi sel)), .second, .val (.long (v_dd da sel)), .second, .val (.long (v_ww wr sel)), .second, .unset, .unset, .unset, .unset, .unset, .unset, .unset, .unset] [(.long v1)])) t := fun v1 hv1 => k v1 (hv1.trans (if_pos hc12).symm)
      show Steps p.tables e below (s₁.setTop (mkF m 57 #[.val (.long rev), .second, .val (.long recs), .second, .val (.long mi), .second, .val (.long da), .second, .val (.long wr), .second, .val (.int sel), .val (.long (v_mm mi sel)), .second, .val (.long (v_dd da sel)), .second, .val (.long (v_ww wr sel)), .second, .unset, .unset, .unset, .unset, .unset, .unset, .unset, .unset] [])) _
      refine XS.lloadN X0.here hx rfl (hb hby at_57) rfl ?_
      show Steps p.tables e below (s₁.setTop (mkF m 58 #[.val (.long rev), .second, .val (.long recs), .second, .val (.long mi), .second, .val (.long da), .second, .val (.long wr), .second, .val (.int sel), .val (.long (v_mm mi sel)), .second, .val (.long (v_dd da sel)), .second, .val (.long (v_ww wr sel)), .second, .unset, .unset, .unset, .unset, .unset, .unset, .unset, .unset] [(.long rev)])) _
      refine XS.lloadN X0.here hx rfl (hb hby at_58) rfl ?_
      show Steps p.tables e below (s₁.setTop (mkF m 59 #[.val (.long rev), .second, .val (.long recs), .second, .val (.long mi), .second, .val (.long da), .second, .val (.long wr), .second, .val (.int sel), .val (.long (v_mm mi sel)), .second, .val (.long (v_dd da sel)), .second, .val (.long (v_ww wr sel)), .second, .unset, .unset, .unset, .unset, .unset, .unset, .unset, .unset] [(.long recs), (.long rev)])) _
      refine XS.lxor X0.here hx rfl (hb hby at_59) rfl ?_
      exact k _ rfl
    · refine XS.ifNo X0.here hx rfl (hb hby at_50) rfl ((if0 _ _).trans (feq hc12).1) ?_
      have k : ∀ (v1 : Int64), v1 = (0 : Int64) → Steps p.tables e below (s₁.setTop (mkF m 60 #[.val (.long rev), .second, .val (.long recs), .second, .val (.long mi), .second, .val (.long da), .second, .val (.long wr), .second, .val (.int sel), .val (.long (v_mm mi sel)), .second, .val (.long (v_dd da sel)), .second, .val (.long (v_ww wr sel)), .second, .unset, .unset, .unset, .unset, .unset, .unset, .unset, .unset] [(.long v1)])) t := fun v1 hv1 => k v1 (hv1.trans (if_neg hc12).symm)
      show Steps p.tables e below (s₁.setTop (mkF m 53 #[.val (.long rev), .second, .val (.long recs), .second, .val (.long mi), .second, .val (.long da), .second, .val (.long wr), .second, .val (.int sel), .val (.long (v_mm mi sel)), .second, .val (.long (v_dd da sel)), .second, .val (.long (v_ww wr sel)), .second, .unset, .unset, .unset, .unset, .unset, .unset, .unset, .unset] [])) _
      refine XS.lconst X0.here hx rfl (hb hby at_53) ?_
      show Steps p.tables e below (s₁.setTop (mkF m 54 #[.val (.long rev), .second, .val (.long recs), .second, .val (.long mi), .second, .val (.long da), .second, .val (.long wr), .second, .val (.int sel), .val (.long (v_mm mi sel)), .second, .val (.long (v_dd da sel)), .second, .val (.long (v_ww wr sel)), .second, .unset, .unset, .unset, .unset, .unset, .unset, .unset, .unset] [(.long (0 : Int64))])) _
      refine XS.goto X0.here hx rfl (pc0 := 54) (pc' := 60) rfl (hb hby at_54) (by decide) (by decide) ?_
      exact k _ rfl
  have pre13 : ∀ t, Steps p.tables e below (s₁.setTop (mkF m 67 #[.val (.long rev), .second, .val (.long recs), .second, .val (.long mi), .second, .val (.long da), .second, .val (.long wr), .second, .val (.int sel), .val (.long (v_mm mi sel)), .second, .val (.long (v_dd da sel)), .second, .val (.long (v_ww wr sel)), .second, .val (.long (v_ix rev recs sel)), .second, .unset, .unset, .unset, .unset, .unset, .unset] [(.int (sel &&& (16 : Int32)))])) t → Steps p.tables e below (s₁.setTop (entryFrame m #[(.long rev), (.long recs), (.long mi), (.long da), (.long wr), (.int sel)] maxLocals)) t := by
    intro t k
    refine pre11 t ?_
    show Steps p.tables e below (s₁.setTop (mkF m 60 #[.val (.long rev), .second, .val (.long recs), .second, .val (.long mi), .second, .val (.long da), .second, .val (.long wr), .second, .val (.int sel), .val (.long (v_mm mi sel)), .second, .val (.long (v_dd da sel)), .second, .val (.long (v_ww wr sel)), .second, .unset, .unset, .unset, .unset, .unset, .unset, .unset, .unset] [(.long (if (sel &&& (8 : Int32)) = (0 : Int32) then (rev ^^^ recs) else (0 : Int64)))])) _
    refine XS.lstore X0.here hx rfl (hb hby at_60) rfl (l' := #[.val (.long rev), .second, .val (.long recs), .second, .val (.long mi), .second, .val (.long da), .second, .val (.long wr), .second, .val (.int sel), .val (.long (v_mm mi sel)), .second, .val (.long (v_dd da sel)), .second, .val (.long (v_ww wr sel)), .second, .val (.long (v_ix rev recs sel)), .second, .unset, .unset, .unset, .unset, .unset, .unset]) rfl ?_
    show Steps p.tables e below (s₁.setTop (mkF m 62 #[.val (.long rev), .second, .val (.long recs), .second, .val (.long mi), .second, .val (.long da), .second, .val (.long wr), .second, .val (.int sel), .val (.long (v_mm mi sel)), .second, .val (.long (v_dd da sel)), .second, .val (.long (v_ww wr sel)), .second, .val (.long (v_ix rev recs sel)), .second, .unset, .unset, .unset, .unset, .unset, .unset] [])) _
    refine XS.iload X0.here hx rfl (hb hby at_62) rfl ?_
    show Steps p.tables e below (s₁.setTop (mkF m 64 #[.val (.long rev), .second, .val (.long recs), .second, .val (.long mi), .second, .val (.long da), .second, .val (.long wr), .second, .val (.int sel), .val (.long (v_mm mi sel)), .second, .val (.long (v_dd da sel)), .second, .val (.long (v_ww wr sel)), .second, .val (.long (v_ix rev recs sel)), .second, .unset, .unset, .unset, .unset, .unset, .unset] [(.int sel)])) _
    refine XS.bipush X0.here hx rfl (hb hby at_64) ?_
    show Steps p.tables e below (s₁.setTop (mkF m 66 #[.val (.long rev), .second, .val (.long recs), .second, .val (.long mi), .second, .val (.long da), .second, .val (.long wr), .second, .val (.int sel), .val (.long (v_mm mi sel)), .second, .val (.long (v_dd da sel)), .second, .val (.long (v_ww wr sel)), .second, .val (.long (v_ix rev recs sel)), .second, .unset, .unset, .unset, .unset, .unset, .unset] [(.int (16 : Int32)), (.int sel)])) _
    refine XS.iand X0.here hx rfl (hb hby at_66) rfl ?_
    exact k
  have pre14 : ∀ t, Steps p.tables e below (s₁.setTop (mkF m 75 #[.val (.long rev), .second, .val (.long recs), .second, .val (.long mi), .second, .val (.long da), .second, .val (.long wr), .second, .val (.int sel), .val (.long (v_mm mi sel)), .second, .val (.long (v_dd da sel)), .second, .val (.long (v_ww wr sel)), .second, .val (.long (v_ix rev recs sel)), .second, .unset, .unset, .unset, .unset, .unset, .unset] [(.long (if (sel &&& (16 : Int32)) = (0 : Int32) then rev else (0 : Int64)))])) t → Steps p.tables e below (s₁.setTop (entryFrame m #[(.long rev), (.long recs), (.long mi), (.long da), (.long wr), (.int sel)] maxLocals)) t := by
    intro t k
    refine pre13 t ?_
    have k : ∀ (v1 : Int64), v1 = (if (sel &&& (16 : Int32)) = (0 : Int32) then rev else (0 : Int64)) → Steps p.tables e below (s₁.setTop (mkF m 75 #[.val (.long rev), .second, .val (.long recs), .second, .val (.long mi), .second, .val (.long da), .second, .val (.long wr), .second, .val (.int sel), .val (.long (v_mm mi sel)), .second, .val (.long (v_dd da sel)), .second, .val (.long (v_ww wr sel)), .second, .val (.long (v_ix rev recs sel)), .second, .unset, .unset, .unset, .unset, .unset, .unset] [(.long v1)])) t := fun v1 hv1 => by subst hv1; exact k
    show Steps p.tables e below (s₁.setTop (mkF m 67 #[.val (.long rev), .second, .val (.long recs), .second, .val (.long mi), .second, .val (.long da), .second, .val (.long wr), .second, .val (.int sel), .val (.long (v_mm mi sel)), .second, .val (.long (v_dd da sel)), .second, .val (.long (v_ww wr sel)), .second, .val (.long (v_ix rev recs sel)), .second, .unset, .unset, .unset, .unset, .unset, .unset] [(.int (sel &&& (16 : Int32)))])) _
    by_cases hc15 : (sel &&& (16 : Int32)) = (0 : Int32)
    · refine XS.ifYes X0.here hx rfl (pc0 := 67) (pc' := 74) rfl (hb hby at_67) rfl ((if0 _ _).trans (teq hc15).1) (by decide) (by decide) ?_
      have k : ∀ (v1 : Int64), v1 = rev → Steps p.tables e below (s₁.setTop (mkF m 75 #[.val (.long rev), .second, .val (.long recs), .second, .val (.long mi), .second, .val (.long da), .second, .val (.long wr), .second, .val (.int sel), .val (.long (v_mm mi sel)), .second, .val (.long (v_dd da sel)), .second, .val (.long (v_ww wr sel)), .second, .val (.long (v_ix rev recs sel)), .second, .unset, .unset, .unset, .unset, .unset, .unset] [(.long v1)])) t := fun v1 hv1 => k v1 (hv1.trans (if_pos hc15).symm)
      show Steps p.tables e below (s₁.setTop (mkF m 74 #[.val (.long rev), .second, .val (.long recs), .second, .val (.long mi), .second, .val (.long da), .second, .val (.long wr), .second, .val (.int sel), .val (.long (v_mm mi sel)), .second, .val (.long (v_dd da sel)), .second, .val (.long (v_ww wr sel)), .second, .val (.long (v_ix rev recs sel)), .second, .unset, .unset, .unset, .unset, .unset, .unset] [])) _
      refine XS.lloadN X0.here hx rfl (hb hby at_74) rfl ?_
      exact k _ rfl
    · refine XS.ifNo X0.here hx rfl (hb hby at_67) rfl ((if0 _ _).trans (feq hc15).1) ?_
      have k : ∀ (v1 : Int64), v1 = (0 : Int64) → Steps p.tables e below (s₁.setTop (mkF m 75 #[.val (.long rev), .second, .val (.long recs), .second, .val (.long mi), .second, .val (.long da), .second, .val (.long wr), .second, .val (.int sel), .val (.long (v_mm mi sel)), .second, .val (.long (v_dd da sel)), .second, .val (.long (v_ww wr sel)), .second, .val (.long (v_ix rev recs sel)), .second, .unset, .unset, .unset, .unset, .unset, .unset] [(.long v1)])) t := fun v1 hv1 => k v1 (hv1.trans (if_neg hc15).symm)
      show Steps p.tables e below (s₁.setTop (mkF m 70 #[.val (.long rev), .second, .val (.long recs), .second, .val (.long mi), .second, .val (.long da), .second, .val (.long wr), .second, .val (.int sel), .val (.long (v_mm mi sel)), .second, .val (.long (v_dd da sel)), .second, .val (.long (v_ww wr sel)), .second, .val (.long (v_ix rev recs sel)), .second, .unset, .unset, .unset, .unset, .unset, .unset] [])) _
      refine XS.lconst X0.here hx rfl (hb hby at_70) ?_
      show Steps p.tables e below (s₁.setTop (mkF m 71 #[.val (.long rev), .second, .val (.long recs), .second, .val (.long mi), .second, .val (.long da), .second, .val (.long wr), .second, .val (.int sel), .val (.long (v_mm mi sel)), .second, .val (.long (v_dd da sel)), .second, .val (.long (v_ww wr sel)), .second, .val (.long (v_ix rev recs sel)), .second, .unset, .unset, .unset, .unset, .unset, .unset] [(.long (0 : Int64))])) _
      refine XS.goto X0.here hx rfl (pc0 := 71) (pc' := 75) rfl (hb hby at_71) (by decide) (by decide) ?_
      exact k _ rfl
  have pre16 : ∀ t, Steps p.tables e below (s₁.setTop (mkF m 82 #[.val (.long rev), .second, .val (.long recs), .second, .val (.long mi), .second, .val (.long da), .second, .val (.long wr), .second, .val (.int sel), .val (.long (v_mm mi sel)), .second, .val (.long (v_dd da sel)), .second, .val (.long (v_ww wr sel)), .second, .val (.long (v_ix rev recs sel)), .second, .val (.long (v_rv rev sel)), .second, .unset, .unset, .unset, .unset] [(.int (sel &&& (32 : Int32)))])) t → Steps p.tables e below (s₁.setTop (entryFrame m #[(.long rev), (.long recs), (.long mi), (.long da), (.long wr), (.int sel)] maxLocals)) t := by
    intro t k
    refine pre14 t ?_
    show Steps p.tables e below (s₁.setTop (mkF m 75 #[.val (.long rev), .second, .val (.long recs), .second, .val (.long mi), .second, .val (.long da), .second, .val (.long wr), .second, .val (.int sel), .val (.long (v_mm mi sel)), .second, .val (.long (v_dd da sel)), .second, .val (.long (v_ww wr sel)), .second, .val (.long (v_ix rev recs sel)), .second, .unset, .unset, .unset, .unset, .unset, .unset] [(.long (if (sel &&& (16 : Int32)) = (0 : Int32) then rev else (0 : Int64)))])) _
    refine XS.lstore X0.here hx rfl (hb hby at_75) rfl (l' := #[.val (.long rev), .second, .val (.long recs), .second, .val (.long mi), .second, .val (.long da), .second, .val (.long wr), .second, .val (.int sel), .val (.long (v_mm mi sel)), .second, .val (.long (v_dd da sel)), .second, .val (.long (v_ww wr sel)), .second, .val (.long (v_ix rev recs sel)), .second, .val (.long (v_rv rev sel)), .second, .unset, .unset, .unset, .unset]) rfl ?_
    show Steps p.tables e below (s₁.setTop (mkF m 77 #[.val (.long rev), .second, .val (.long recs), .second, .val (.long mi), .second, .val (.long da), .second, .val (.long wr), .second, .val (.int sel), .val (.long (v_mm mi sel)), .second, .val (.long (v_dd da sel)), .second, .val (.long (v_ww wr sel)), .second, .val (.long (v_ix rev recs sel)), .second, .val (.long (v_rv rev sel)), .second, .unset, .unset, .unset, .unset] [])) _
    refine XS.iload X0.here hx rfl (hb hby at_77) rfl ?_
    show Steps p.tables e below (s₁.setTop (mkF m 79 #[.val (.long rev), .second, .val (.long recs), .second, .val (.long mi), .second, .val (.long da), .second, .val (.long wr), .second, .val (.int sel), .val (.long (v_mm mi sel)), .second, .val (.long (v_dd da sel)), .second, .val (.long (v_ww wr sel)), .second, .val (.long (v_ix rev recs sel)), .second, .val (.long (v_rv rev sel)), .second, .unset, .unset, .unset, .unset] [(.int sel)])) _
    refine XS.bipush X0.here hx rfl (hb hby at_79) ?_
    show Steps p.tables e below (s₁.setTop (mkF m 81 #[.val (.long rev), .second, .val (.long recs), .second, .val (.long mi), .second, .val (.long da), .second, .val (.long wr), .second, .val (.int sel), .val (.long (v_mm mi sel)), .second, .val (.long (v_dd da sel)), .second, .val (.long (v_ww wr sel)), .second, .val (.long (v_ix rev recs sel)), .second, .val (.long (v_rv rev sel)), .second, .unset, .unset, .unset, .unset] [(.int (32 : Int32)), (.int sel)])) _
    refine XS.iand X0.here hx rfl (hb hby at_81) rfl ?_
    exact k
  have pre17 : ∀ t, Steps p.tables e below (s₁.setTop (mkF m 90 #[.val (.long rev), .second, .val (.long recs), .second, .val (.long mi), .second, .val (.long da), .second, .val (.long wr), .second, .val (.int sel), .val (.long (v_mm mi sel)), .second, .val (.long (v_dd da sel)), .second, .val (.long (v_ww wr sel)), .second, .val (.long (v_ix rev recs sel)), .second, .val (.long (v_rv rev sel)), .second, .unset, .unset, .unset, .unset] [(.long (if (sel &&& (32 : Int32)) = (0 : Int32) then recs else (0 : Int64)))])) t → Steps p.tables e below (s₁.setTop (entryFrame m #[(.long rev), (.long recs), (.long mi), (.long da), (.long wr), (.int sel)] maxLocals)) t := by
    intro t k
    refine pre16 t ?_
    have k : ∀ (v1 : Int64), v1 = (if (sel &&& (32 : Int32)) = (0 : Int32) then recs else (0 : Int64)) → Steps p.tables e below (s₁.setTop (mkF m 90 #[.val (.long rev), .second, .val (.long recs), .second, .val (.long mi), .second, .val (.long da), .second, .val (.long wr), .second, .val (.int sel), .val (.long (v_mm mi sel)), .second, .val (.long (v_dd da sel)), .second, .val (.long (v_ww wr sel)), .second, .val (.long (v_ix rev recs sel)), .second, .val (.long (v_rv rev sel)), .second, .unset, .unset, .unset, .unset] [(.long v1)])) t := fun v1 hv1 => by subst hv1; exact k
    show Steps p.tables e below (s₁.setTop (mkF m 82 #[.val (.long rev), .second, .val (.long recs), .second, .val (.long mi), .second, .val (.long da), .second, .val (.long wr), .second, .val (.int sel), .val (.long (v_mm mi sel)), .second, .val (.long (v_dd da sel)), .second, .val (.long (v_ww wr sel)), .second, .val (.long (v_ix rev recs sel)), .second, .val (.long (v_rv rev sel)), .second, .unset, .unset, .unset, .unset] [(.int (sel &&& (32 : Int32)))])) _
    by_cases hc18 : (sel &&& (32 : Int32)) = (0 : Int32)
    · refine XS.ifYes X0.here hx rfl (pc0 := 82) (pc' := 89) rfl (hb hby at_82) rfl ((if0 _ _).trans (teq hc18).1) (by decide) (by decide) ?_
      have k : ∀ (v1 : Int64), v1 = recs → Steps p.tables e below (s₁.setTop (mkF m 90 #[.val (.long rev), .second, .val (.long recs), .second, .val (.long mi), .second, .val (.long da), .second, .val (.long wr), .second, .val (.int sel), .val (.long (v_mm mi sel)), .second, .val (.long (v_dd da sel)), .second, .val (.long (v_ww wr sel)), .second, .val (.long (v_ix rev recs sel)), .second, .val (.long (v_rv rev sel)), .second, .unset, .unset, .unset, .unset] [(.long v1)])) t := fun v1 hv1 => k v1 (hv1.trans (if_pos hc18).symm)
      show Steps p.tables e below (s₁.setTop (mkF m 89 #[.val (.long rev), .second, .val (.long recs), .second, .val (.long mi), .second, .val (.long da), .second, .val (.long wr), .second, .val (.int sel), .val (.long (v_mm mi sel)), .second, .val (.long (v_dd da sel)), .second, .val (.long (v_ww wr sel)), .second, .val (.long (v_ix rev recs sel)), .second, .val (.long (v_rv rev sel)), .second, .unset, .unset, .unset, .unset] [])) _
      refine XS.lloadN X0.here hx rfl (hb hby at_89) rfl ?_
      exact k _ rfl
    · refine XS.ifNo X0.here hx rfl (hb hby at_82) rfl ((if0 _ _).trans (feq hc18).1) ?_
      have k : ∀ (v1 : Int64), v1 = (0 : Int64) → Steps p.tables e below (s₁.setTop (mkF m 90 #[.val (.long rev), .second, .val (.long recs), .second, .val (.long mi), .second, .val (.long da), .second, .val (.long wr), .second, .val (.int sel), .val (.long (v_mm mi sel)), .second, .val (.long (v_dd da sel)), .second, .val (.long (v_ww wr sel)), .second, .val (.long (v_ix rev recs sel)), .second, .val (.long (v_rv rev sel)), .second, .unset, .unset, .unset, .unset] [(.long v1)])) t := fun v1 hv1 => k v1 (hv1.trans (if_neg hc18).symm)
      show Steps p.tables e below (s₁.setTop (mkF m 85 #[.val (.long rev), .second, .val (.long recs), .second, .val (.long mi), .second, .val (.long da), .second, .val (.long wr), .second, .val (.int sel), .val (.long (v_mm mi sel)), .second, .val (.long (v_dd da sel)), .second, .val (.long (v_ww wr sel)), .second, .val (.long (v_ix rev recs sel)), .second, .val (.long (v_rv rev sel)), .second, .unset, .unset, .unset, .unset] [])) _
      refine XS.lconst X0.here hx rfl (hb hby at_85) ?_
      show Steps p.tables e below (s₁.setTop (mkF m 86 #[.val (.long rev), .second, .val (.long recs), .second, .val (.long mi), .second, .val (.long da), .second, .val (.long wr), .second, .val (.int sel), .val (.long (v_mm mi sel)), .second, .val (.long (v_dd da sel)), .second, .val (.long (v_ww wr sel)), .second, .val (.long (v_ix rev recs sel)), .second, .val (.long (v_rv rev sel)), .second, .unset, .unset, .unset, .unset] [(.long (0 : Int64))])) _
      refine XS.goto X0.here hx rfl (pc0 := 86) (pc' := 90) rfl (hb hby at_86) (by decide) (by decide) ?_
      exact k _ rfl
  obtain ⟨T19, h19, X19, e19, E19, A19, D19, -, st19⟩ := newO X0 hx hZ hown (hw _ (List.mem_of_getElem? (i := 0) rfl)) (hw _ (List.mem_of_getElem? (i := 1) rfl)) (hw _ (List.mem_of_getElem? (i := 2) rfl)) e0 (g := (mkF m 92 #[.val (.long rev), .second, .val (.long recs), .second, .val (.long mi), .second, .val (.long da), .second, .val (.long wr), .second, .val (.int sel), .val (.long (v_mm mi sel)), .second, .val (.long (v_dd da sel)), .second, .val (.long (v_ww wr sel)), .second, .val (.long (v_ix rev recs sel)), .second, .val (.long (v_rv rev sel)), .second, .val (.long (v_rc recs sel)), .second, .unset, .unset] [])) rfl (hb hby at_92) (by decide) (by decide)
  obtain ⟨b19, g19⟩ : ∃ z, z = h0.size := ⟨_, rfl⟩
  rw [← g19] at A19 D19 st19
  have ge_b19 : n0 ≤ b19 := Nat.le_trans Z0 (Nat.le_of_eq g19.symm)
  have Z19 : n0 ≤ h19.size := Nat.le_trans Z0 E19.1
  have F19_revision : Fld Z h19 b19 "com/example/seshat/seshat/CheckReport" "revision" "J" (.long (0 : Int64)) := D19 (Or.inr (hw _ (List.mem_of_getElem? (i := 10) rfl))) (ty := .long) (by decide)
  have F19_records : Fld Z h19 b19 "com/example/seshat/seshat/CheckReport" "records" "J" (.long (0 : Int64)) := D19 (Or.inr (hw _ (List.mem_of_getElem? (i := 12) rfl))) (ty := .long) (by decide)
  have F19_indexKeys : Fld Z h19 b19 "com/example/seshat/seshat/CheckReport" "indexKeys" "J" (.long (0 : Int64)) := D19 (Or.inr (hw _ (List.mem_of_getElem? (i := 14) rfl))) (ty := .long) (by decide)
  have F19_missing : Fld Z h19 b19 "com/example/seshat/seshat/CheckReport" "missing" "J" (.long (0 : Int64)) := D19 (Or.inr (hw _ (List.mem_of_getElem? (i := 16) rfl))) (ty := .long) (by decide)
  have F19_dangling : Fld Z h19 b19 "com/example/seshat/seshat/CheckReport" "dangling" "J" (.long (0 : Int64)) := D19 (Or.inr (hw _ (List.mem_of_getElem? (i := 18) rfl))) (ty := .long) (by decide)
  have F19_wrong : Fld Z h19 b19 "com/example/seshat/seshat/CheckReport" "wrong" "J" (.long (0 : Int64)) := D19 (Or.inr (hw _ (List.mem_of_getElem? (i := 20) rfl))) (ty := .long) (by decide)
  obtain ⟨_, _, ⟨T20, L20, k20, n20⟩, -, X20, ⟨Lc20, hQ20, l20, y20, z20⟩, st20⟩ := X19.specialBack hx (y := (⟨"com/example/seshat/seshat/CheckReport", "<init>", "(JJJJJJ)V"⟩ : MethodName)) rfl hown (mvT hZ (hw _ (List.mem_of_getElem? (i := 3) rfl))) (mvT hZ (hw _ (List.mem_of_getElem? (i := 4) rfl))) (mvT hZ (hw _ (List.mem_of_getElem? (i := 5) rfl))) (by decide) (backOf (W := 1) (rm1 l Z a0 hw [] b19 (v_rv rev sel) (v_rc recs sel) (v_ix rev recs sel) (v_mm mi sel) (v_dd da sel) (v_ww wr sel) (0 : Int64) (0 : Int64) (0 : Int64) (0 : Int64) (0 : Int64) (0 : Int64) h19 n0 Z19 ⟨A19, F19_revision, F19_records, F19_indexKeys, F19_missing, F19_dangling, F19_wrong, ge_b19, Z19⟩) hZ (hw _ (List.mem_of_getElem? (i := 5) rfl)) (hw _ (List.mem_of_getElem? (i := 2) rfl)) (by decide) (by decide)) (g := (mkF m 108 #[.val (.long rev), .second, .val (.long recs), .second, .val (.long mi), .second, .val (.long da), .second, .val (.long wr), .second, .val (.int sel), .val (.long (v_mm mi sel)), .second, .val (.long (v_dd da sel)), .second, .val (.long (v_ww wr sel)), .second, .val (.long (v_ix rev recs sel)), .second, .val (.long (v_rv rev sel)), .second, .val (.long (v_rc recs sel)), .second, .unset, .unset] [(.long (v_ww wr sel)), (.long (v_dd da sel)), (.long (v_mm mi sel)), (.long (v_ix rev recs sel)), (.long (v_rc recs sel)), (.long (v_rv rev sel)), (.ref b19), (.ref b19)])) rfl (by rw [hml]; rfl) (Steps.refl _) (a := b19) (argsL := [(.long (v_rv rev sel)), (.long (v_rc recs sel)), (.long (v_ix rev recs sel)), (.long (v_mm mi sel)), (.long (v_dd da sel)), (.long (v_ww wr sel))]) (rest := [(.ref b19)]) (lenOf pd_0 rfl) rfl (by show 2 * 0 + _ ≤ _; exact Nat.le_of_eq rfl) (hb hby at_108) (fun _ _ => ⟨rfl, e19, (by decide : 1 + 0 ≤ _), (by decide : 6 + 0 ≤ _)⟩)
  dsimp only [Pt.U, Pt.locs, Pt.cells, Pt.slots] at X20 l20 y20 z20 st20 hQ20
  subst l20 y20 z20
  obtain ⟨rfl, N20q, I20⟩ := hQ20
  obtain ⟨k21_0, k21_1, k21_2, k21_3, k21_4, k21_5, k21_6, k21_g_ob, k21_sz⟩ := I20
  have N20 := Fr.app N0 N20q
  have pre22 : ∀ t, Steps p.tables e below (T20.setTop (mkF m 123 #[.val (.long rev), .second, .val (.long recs), .second, .val (.long mi), .second, .val (.long da), .second, .val (.long wr), .second, .val (.int sel), .val (.long (v_mm mi sel)), .second, .val (.long (v_dd da sel)), .second, .val (.long (v_ww wr sel)), .second, .val (.long (v_ix rev recs sel)), .second, .val (.long (v_rv rev sel)), .second, .val (.long (v_rc recs sel)), .second, .val (.ref b19), .unset] [(.int (lcmpW (((v_mm mi sel) ||| (v_dd da sel)) ||| (v_ww wr sel)) (0 : Int64)))])) t → Steps p.tables e below (s₁.setTop (entryFrame m #[(.long rev), (.long recs), (.long mi), (.long da), (.long wr), (.int sel)] maxLocals)) t := by
    intro t k
    refine pre17 t ?_
    show Steps p.tables e below (s₁.setTop (mkF m 90 #[.val (.long rev), .second, .val (.long recs), .second, .val (.long mi), .second, .val (.long da), .second, .val (.long wr), .second, .val (.int sel), .val (.long (v_mm mi sel)), .second, .val (.long (v_dd da sel)), .second, .val (.long (v_ww wr sel)), .second, .val (.long (v_ix rev recs sel)), .second, .val (.long (v_rv rev sel)), .second, .unset, .unset, .unset, .unset] [(.long (if (sel &&& (32 : Int32)) = (0 : Int32) then recs else (0 : Int64)))])) _
    refine XS.lstore X0.here hx rfl (hb hby at_90) rfl (l' := #[.val (.long rev), .second, .val (.long recs), .second, .val (.long mi), .second, .val (.long da), .second, .val (.long wr), .second, .val (.int sel), .val (.long (v_mm mi sel)), .second, .val (.long (v_dd da sel)), .second, .val (.long (v_ww wr sel)), .second, .val (.long (v_ix rev recs sel)), .second, .val (.long (v_rv rev sel)), .second, .val (.long (v_rc recs sel)), .second, .unset, .unset]) rfl ?_
    show Steps p.tables e below (s₁.setTop (mkF m 92 #[.val (.long rev), .second, .val (.long recs), .second, .val (.long mi), .second, .val (.long da), .second, .val (.long wr), .second, .val (.int sel), .val (.long (v_mm mi sel)), .second, .val (.long (v_dd da sel)), .second, .val (.long (v_ww wr sel)), .second, .val (.long (v_ix rev recs sel)), .second, .val (.long (v_rv rev sel)), .second, .val (.long (v_rc recs sel)), .second, .unset, .unset] [])) _
    refine st19 _ ?_
    show Steps p.tables e below (T19.setTop (mkF m 95 #[.val (.long rev), .second, .val (.long recs), .second, .val (.long mi), .second, .val (.long da), .second, .val (.long wr), .second, .val (.int sel), .val (.long (v_mm mi sel)), .second, .val (.long (v_dd da sel)), .second, .val (.long (v_ww wr sel)), .second, .val (.long (v_ix rev recs sel)), .second, .val (.long (v_rv rev sel)), .second, .val (.long (v_rc recs sel)), .second, .unset, .unset] [(.ref b19)])) _
    refine XS.dup X19.here hx rfl (hb hby at_95) rfl rfl ?_
    show Steps p.tables e below (T19.setTop (mkF m 96 #[.val (.long rev), .second, .val (.long recs), .second, .val (.long mi), .second, .val (.long da), .second, .val (.long wr), .second, .val (.int sel), .val (.long (v_mm mi sel)), .second, .val (.long (v_dd da sel)), .second, .val (.long (v_ww wr sel)), .second, .val (.long (v_ix rev recs sel)), .second, .val (.long (v_rv rev sel)), .second, .val (.long (v_rc recs sel)), .second, .unset, .unset] [(.ref b19), (.ref b19)])) _
    refine XS.lload X19.here hx rfl (hb hby at_96) rfl ?_
    show Steps p.tables e below (T19.setTop (mkF m 98 #[.val (.long rev), .second, .val (.long recs), .second, .val (.long mi), .second, .val (.long da), .second, .val (.long wr), .second, .val (.int sel), .val (.long (v_mm mi sel)), .second, .val (.long (v_dd da sel)), .second, .val (.long (v_ww wr sel)), .second, .val (.long (v_ix rev recs sel)), .second, .val (.long (v_rv rev sel)), .second, .val (.long (v_rc recs sel)), .second, .unset, .unset] [(.long (v_rv rev sel)), (.ref b19), (.ref b19)])) _
    refine XS.lload X19.here hx rfl (hb hby at_98) rfl ?_
    show Steps p.tables e below (T19.setTop (mkF m 100 #[.val (.long rev), .second, .val (.long recs), .second, .val (.long mi), .second, .val (.long da), .second, .val (.long wr), .second, .val (.int sel), .val (.long (v_mm mi sel)), .second, .val (.long (v_dd da sel)), .second, .val (.long (v_ww wr sel)), .second, .val (.long (v_ix rev recs sel)), .second, .val (.long (v_rv rev sel)), .second, .val (.long (v_rc recs sel)), .second, .unset, .unset] [(.long (v_rc recs sel)), (.long (v_rv rev sel)), (.ref b19), (.ref b19)])) _
    refine XS.lload X19.here hx rfl (hb hby at_100) rfl ?_
    show Steps p.tables e below (T19.setTop (mkF m 102 #[.val (.long rev), .second, .val (.long recs), .second, .val (.long mi), .second, .val (.long da), .second, .val (.long wr), .second, .val (.int sel), .val (.long (v_mm mi sel)), .second, .val (.long (v_dd da sel)), .second, .val (.long (v_ww wr sel)), .second, .val (.long (v_ix rev recs sel)), .second, .val (.long (v_rv rev sel)), .second, .val (.long (v_rc recs sel)), .second, .unset, .unset] [(.long (v_ix rev recs sel)), (.long (v_rc recs sel)), (.long (v_rv rev sel)), (.ref b19), (.ref b19)])) _
    refine XS.lload X19.here hx rfl (hb hby at_102) rfl ?_
    show Steps p.tables e below (T19.setTop (mkF m 104 #[.val (.long rev), .second, .val (.long recs), .second, .val (.long mi), .second, .val (.long da), .second, .val (.long wr), .second, .val (.int sel), .val (.long (v_mm mi sel)), .second, .val (.long (v_dd da sel)), .second, .val (.long (v_ww wr sel)), .second, .val (.long (v_ix rev recs sel)), .second, .val (.long (v_rv rev sel)), .second, .val (.long (v_rc recs sel)), .second, .unset, .unset] [(.long (v_mm mi sel)), (.long (v_ix rev recs sel)), (.long (v_rc recs sel)), (.long (v_rv rev sel)), (.ref b19), (.ref b19)])) _
    refine XS.lload X19.here hx rfl (hb hby at_104) rfl ?_
    show Steps p.tables e below (T19.setTop (mkF m 106 #[.val (.long rev), .second, .val (.long recs), .second, .val (.long mi), .second, .val (.long da), .second, .val (.long wr), .second, .val (.int sel), .val (.long (v_mm mi sel)), .second, .val (.long (v_dd da sel)), .second, .val (.long (v_ww wr sel)), .second, .val (.long (v_ix rev recs sel)), .second, .val (.long (v_rv rev sel)), .second, .val (.long (v_rc recs sel)), .second, .unset, .unset] [(.long (v_dd da sel)), (.long (v_mm mi sel)), (.long (v_ix rev recs sel)), (.long (v_rc recs sel)), (.long (v_rv rev sel)), (.ref b19), (.ref b19)])) _
    refine XS.lload X19.here hx rfl (hb hby at_106) rfl ?_
    show Steps p.tables e below (T19.setTop (mkF m 108 #[.val (.long rev), .second, .val (.long recs), .second, .val (.long mi), .second, .val (.long da), .second, .val (.long wr), .second, .val (.int sel), .val (.long (v_mm mi sel)), .second, .val (.long (v_dd da sel)), .second, .val (.long (v_ww wr sel)), .second, .val (.long (v_ix rev recs sel)), .second, .val (.long (v_rv rev sel)), .second, .val (.long (v_rc recs sel)), .second, .unset, .unset] [(.long (v_ww wr sel)), (.long (v_dd da sel)), (.long (v_mm mi sel)), (.long (v_ix rev recs sel)), (.long (v_rc recs sel)), (.long (v_rv rev sel)), (.ref b19), (.ref b19)])) _
    refine st20.trans ?_
    show Steps p.tables e below (T20.setTop (mkF m 111 #[.val (.long rev), .second, .val (.long recs), .second, .val (.long mi), .second, .val (.long da), .second, .val (.long wr), .second, .val (.int sel), .val (.long (v_mm mi sel)), .second, .val (.long (v_dd da sel)), .second, .val (.long (v_ww wr sel)), .second, .val (.long (v_ix rev recs sel)), .second, .val (.long (v_rv rev sel)), .second, .val (.long (v_rc recs sel)), .second, .unset, .unset] [(.ref b19)])) _
    refine XS.astore X20.here hx rfl (hb hby at_111) rfl rfl (l' := #[.val (.long rev), .second, .val (.long recs), .second, .val (.long mi), .second, .val (.long da), .second, .val (.long wr), .second, .val (.int sel), .val (.long (v_mm mi sel)), .second, .val (.long (v_dd da sel)), .second, .val (.long (v_ww wr sel)), .second, .val (.long (v_ix rev recs sel)), .second, .val (.long (v_rv rev sel)), .second, .val (.long (v_rc recs sel)), .second, .val (.ref b19), .unset]) rfl ?_
    show Steps p.tables e below (T20.setTop (mkF m 113 #[.val (.long rev), .second, .val (.long recs), .second, .val (.long mi), .second, .val (.long da), .second, .val (.long wr), .second, .val (.int sel), .val (.long (v_mm mi sel)), .second, .val (.long (v_dd da sel)), .second, .val (.long (v_ww wr sel)), .second, .val (.long (v_ix rev recs sel)), .second, .val (.long (v_rv rev sel)), .second, .val (.long (v_rc recs sel)), .second, .val (.ref b19), .unset] [])) _
    refine XS.lload X20.here hx rfl (hb hby at_113) rfl ?_
    show Steps p.tables e below (T20.setTop (mkF m 115 #[.val (.long rev), .second, .val (.long recs), .second, .val (.long mi), .second, .val (.long da), .second, .val (.long wr), .second, .val (.int sel), .val (.long (v_mm mi sel)), .second, .val (.long (v_dd da sel)), .second, .val (.long (v_ww wr sel)), .second, .val (.long (v_ix rev recs sel)), .second, .val (.long (v_rv rev sel)), .second, .val (.long (v_rc recs sel)), .second, .val (.ref b19), .unset] [(.long (v_mm mi sel))])) _
    refine XS.lload X20.here hx rfl (hb hby at_115) rfl ?_
    show Steps p.tables e below (T20.setTop (mkF m 117 #[.val (.long rev), .second, .val (.long recs), .second, .val (.long mi), .second, .val (.long da), .second, .val (.long wr), .second, .val (.int sel), .val (.long (v_mm mi sel)), .second, .val (.long (v_dd da sel)), .second, .val (.long (v_ww wr sel)), .second, .val (.long (v_ix rev recs sel)), .second, .val (.long (v_rv rev sel)), .second, .val (.long (v_rc recs sel)), .second, .val (.ref b19), .unset] [(.long (v_dd da sel)), (.long (v_mm mi sel))])) _
    refine XS.lor X20.here hx rfl (hb hby at_117) rfl ?_
    show Steps p.tables e below (T20.setTop (mkF m 118 #[.val (.long rev), .second, .val (.long recs), .second, .val (.long mi), .second, .val (.long da), .second, .val (.long wr), .second, .val (.int sel), .val (.long (v_mm mi sel)), .second, .val (.long (v_dd da sel)), .second, .val (.long (v_ww wr sel)), .second, .val (.long (v_ix rev recs sel)), .second, .val (.long (v_rv rev sel)), .second, .val (.long (v_rc recs sel)), .second, .val (.ref b19), .unset] [(.long ((v_mm mi sel) ||| (v_dd da sel)))])) _
    refine XS.lload X20.here hx rfl (hb hby at_118) rfl ?_
    show Steps p.tables e below (T20.setTop (mkF m 120 #[.val (.long rev), .second, .val (.long recs), .second, .val (.long mi), .second, .val (.long da), .second, .val (.long wr), .second, .val (.int sel), .val (.long (v_mm mi sel)), .second, .val (.long (v_dd da sel)), .second, .val (.long (v_ww wr sel)), .second, .val (.long (v_ix rev recs sel)), .second, .val (.long (v_rv rev sel)), .second, .val (.long (v_rc recs sel)), .second, .val (.ref b19), .unset] [(.long (v_ww wr sel)), (.long ((v_mm mi sel) ||| (v_dd da sel)))])) _
    refine XS.lor X20.here hx rfl (hb hby at_120) rfl ?_
    show Steps p.tables e below (T20.setTop (mkF m 121 #[.val (.long rev), .second, .val (.long recs), .second, .val (.long mi), .second, .val (.long da), .second, .val (.long wr), .second, .val (.int sel), .val (.long (v_mm mi sel)), .second, .val (.long (v_dd da sel)), .second, .val (.long (v_ww wr sel)), .second, .val (.long (v_ix rev recs sel)), .second, .val (.long (v_rv rev sel)), .second, .val (.long (v_rc recs sel)), .second, .val (.ref b19), .unset] [(.long (((v_mm mi sel) ||| (v_dd da sel)) ||| (v_ww wr sel)))])) _
    refine XS.lconst X20.here hx rfl (hb hby at_121) ?_
    show Steps p.tables e below (T20.setTop (mkF m 122 #[.val (.long rev), .second, .val (.long recs), .second, .val (.long mi), .second, .val (.long da), .second, .val (.long wr), .second, .val (.int sel), .val (.long (v_mm mi sel)), .second, .val (.long (v_dd da sel)), .second, .val (.long (v_ww wr sel)), .second, .val (.long (v_ix rev recs sel)), .second, .val (.long (v_rv rev sel)), .second, .val (.long (v_rc recs sel)), .second, .val (.ref b19), .unset] [(.long (0 : Int64)), (.long (((v_mm mi sel) ||| (v_dd da sel)) ||| (v_ww wr sel)))])) _
    refine XS.lcmp X20.here hx rfl (hb hby at_122) rfl ?_
    exact k
  have pre23 : ∀ t, Steps p.tables e below (T20.setTop (mkF m 131 #[.val (.long rev), .second, .val (.long recs), .second, .val (.long mi), .second, .val (.long da), .second, .val (.long wr), .second, .val (.int sel), .val (.long (v_mm mi sel)), .second, .val (.long (v_dd da sel)), .second, .val (.long (v_ww wr sel)), .second, .val (.long (v_ix rev recs sel)), .second, .val (.long (v_rv rev sel)), .second, .val (.long (v_rc recs sel)), .second, .val (.ref b19), .unset] [(.int (b2i (if (((v_mm mi sel) ||| (v_dd da sel)) ||| (v_ww wr sel)) = (0 : Int64) then true else false)))])) t → Steps p.tables e below (s₁.setTop (entryFrame m #[(.long rev), (.long recs), (.long mi), (.long da), (.long wr), (.int sel)] maxLocals)) t := by
    intro t k
    refine pre22 t ?_
    have k : ∀ (v1 : Bool), v1 = (if (((v_mm mi sel) ||| (v_dd da sel)) ||| (v_ww wr sel)) = (0 : Int64) then true else false) → Steps p.tables e below (T20.setTop (mkF m 131 #[.val (.long rev), .second, .val (.long recs), .second, .val (.long mi), .second, .val (.long da), .second, .val (.long wr), .second, .val (.int sel), .val (.long (v_mm mi sel)), .second, .val (.long (v_dd da sel)), .second, .val (.long (v_ww wr sel)), .second, .val (.long (v_ix rev recs sel)), .second, .val (.long (v_rv rev sel)), .second, .val (.long (v_rc recs sel)), .second, .val (.ref b19), .unset] [(.int (b2i v1))])) t := fun v1 hv1 => by subst hv1; exact k
    show Steps p.tables e below (T20.setTop (mkF m 123 #[.val (.long rev), .second, .val (.long recs), .second, .val (.long mi), .second, .val (.long da), .second, .val (.long wr), .second, .val (.int sel), .val (.long (v_mm mi sel)), .second, .val (.long (v_dd da sel)), .second, .val (.long (v_ww wr sel)), .second, .val (.long (v_ix rev recs sel)), .second, .val (.long (v_rv rev sel)), .second, .val (.long (v_rc recs sel)), .second, .val (.ref b19), .unset] [(.int (lcmpW (((v_mm mi sel) ||| (v_dd da sel)) ||| (v_ww wr sel)) (0 : Int64)))])) _
    by_cases hc24 : (((v_mm mi sel) ||| (v_dd da sel)) ||| (v_ww wr sel)) = (0 : Int64)
    · refine XS.ifNo X20.here hx rfl (hb hby at_123) rfl ((if0 _ _).trans (teq ((lw_eq _ _).mpr hc24)).2) ?_
      have k : ∀ (v1 : Bool), v1 = true → Steps p.tables e below (T20.setTop (mkF m 131 #[.val (.long rev), .second, .val (.long recs), .second, .val (.long mi), .second, .val (.long da), .second, .val (.long wr), .second, .val (.int sel), .val (.long (v_mm mi sel)), .second, .val (.long (v_dd da sel)), .second, .val (.long (v_ww wr sel)), .second, .val (.long (v_ix rev recs sel)), .second, .val (.long (v_rv rev sel)), .second, .val (.long (v_rc recs sel)), .second, .val (.ref b19), .unset] [(.int (b2i v1))])) t := fun v1 hv1 => k v1 (hv1.trans (if_pos hc24).symm)
      show Steps p.tables e below (T20.setTop (mkF m 126 #[.val (.long rev), .second, .val (.long recs), .second, .val (.long mi), .second, .val (.long da), .second, .val (.long wr), .second, .val (.int sel), .val (.long (v_mm mi sel)), .second, .val (.long (v_dd da sel)), .second, .val (.long (v_ww wr sel)), .second, .val (.long (v_ix rev recs sel)), .second, .val (.long (v_rv rev sel)), .second, .val (.long (v_rc recs sel)), .second, .val (.ref b19), .unset] [])) _
      refine XS.iconst X20.here hx rfl (hb hby at_126) ?_
      show Steps p.tables e below (T20.setTop (mkF m 127 #[.val (.long rev), .second, .val (.long recs), .second, .val (.long mi), .second, .val (.long da), .second, .val (.long wr), .second, .val (.int sel), .val (.long (v_mm mi sel)), .second, .val (.long (v_dd da sel)), .second, .val (.long (v_ww wr sel)), .second, .val (.long (v_ix rev recs sel)), .second, .val (.long (v_rv rev sel)), .second, .val (.long (v_rc recs sel)), .second, .val (.ref b19), .unset] [(.int (1 : Int32))])) _
      refine XS.goto X20.here hx rfl (pc0 := 127) (pc' := 131) rfl (hb hby at_127) (by decide) (by decide) ?_
      exact k true rfl
    · refine XS.ifYes X20.here hx rfl (pc0 := 123) (pc' := 130) rfl (hb hby at_123) rfl ((if0 _ _).trans (feq (fun q => hc24 ((lw_eq _ _).mp q))).2) (by decide) (by decide) ?_
      have k : ∀ (v1 : Bool), v1 = false → Steps p.tables e below (T20.setTop (mkF m 131 #[.val (.long rev), .second, .val (.long recs), .second, .val (.long mi), .second, .val (.long da), .second, .val (.long wr), .second, .val (.int sel), .val (.long (v_mm mi sel)), .second, .val (.long (v_dd da sel)), .second, .val (.long (v_ww wr sel)), .second, .val (.long (v_ix rev recs sel)), .second, .val (.long (v_rv rev sel)), .second, .val (.long (v_rc recs sel)), .second, .val (.ref b19), .unset] [(.int (b2i v1))])) t := fun v1 hv1 => k v1 (hv1.trans (if_neg hc24).symm)
      show Steps p.tables e below (T20.setTop (mkF m 130 #[.val (.long rev), .second, .val (.long recs), .second, .val (.long mi), .second, .val (.long da), .second, .val (.long wr), .second, .val (.int sel), .val (.long (v_mm mi sel)), .second, .val (.long (v_dd da sel)), .second, .val (.long (v_ww wr sel)), .second, .val (.long (v_ix rev recs sel)), .second, .val (.long (v_rv rev sel)), .second, .val (.long (v_rc recs sel)), .second, .val (.ref b19), .unset] [])) _
      refine XS.iconst X20.here hx rfl (hb hby at_130) ?_
      exact k false rfl
  obtain ⟨cq25, kq25, q25a, q25b, q25c⟩ := isOf hZ rfl k21_0
  obtain ⟨_, _, ⟨T25, L25, k25, n25⟩, -, X25, ⟨Lc25, hQ25, l25, y25, z25⟩, st25⟩ := X20.virtualBack hx (y := (⟨"com/example/seshat/seshat/CheckReport", "agrees", "()Z"⟩ : MethodName)) (z := (⟨"com/example/seshat/seshat/CheckReport", "agrees", "()Z"⟩ : MethodName)) hown (mvT hZ (hw _ (List.mem_of_getElem? (i := 21) rfl))) (mvT hZ (hw _ (List.mem_of_getElem? (i := 22) rfl))) (notFace_of_selects (args := #[]) (mvT hZ (hw _ (List.mem_of_getElem? (i := 24) rfl)))) (mvT hZ (hw _ (List.mem_of_getElem? (i := 24) rfl))) (mvT hZ (hw _ (List.mem_of_getElem? (i := 23) rfl))) (by decide) (backOf (W := 0) (rm3 l Z a0 hw [] b19 (Fi_revision (v_rv rev sel)) (Fi_records (v_rc recs sel)) (Fi_indexKeys (v_ix rev recs sel)) (Fi_missing (v_mm mi sel)) (Fi_dangling (v_dd da sel)) (Fi_wrong (v_ww wr sel)) T20.heap n0 k21_sz ⟨k21_0, k21_1, k21_2, k21_3, k21_4, k21_5, k21_6, k21_g_ob, k21_sz⟩) hZ (hw _ (List.mem_of_getElem? (i := 25) rfl)) (hw _ (List.mem_of_getElem? (i := 2) rfl)) (by decide) (by decide)) q25a q25c (g := (mkF m 135 #[.val (.long rev), .second, .val (.long recs), .second, .val (.long mi), .second, .val (.long da), .second, .val (.long wr), .second, .val (.int sel), .val (.long (v_mm mi sel)), .second, .val (.long (v_dd da sel)), .second, .val (.long (v_ww wr sel)), .second, .val (.long (v_ix rev recs sel)), .second, .val (.long (v_rv rev sel)), .second, .val (.long (v_rc recs sel)), .second, .val (.ref b19), .val (.int (b2i (if (((v_mm mi sel) ||| (v_dd da sel)) ||| (v_ww wr sel)) = (0 : Int64) then true else false)))] [(.ref b19)])) rfl (by rw [hml]; rfl) (Steps.refl _) (argsL := []) (rest := []) (lenOf pd_2 rfl) rfl (by show 2 * 0 + _ ≤ _; exact Nat.le_of_eq rfl) (hb hby at_135) (fun _ _ => ⟨rfl, rfl, (by decide : 1 + 0 ≤ _), (by decide : 6 + 0 ≤ _)⟩)
  dsimp only [Pt.U, Pt.locs, Pt.cells, Pt.slots] at X25 l25 y25 z25 st25 hQ25
  subst l25 y25 z25
  obtain ⟨rfl, N25q, e25⟩ := hQ25
  have N25 := Fr.app N20 N25q
  have pre26 : ∀ t, Steps p.tables e below (T25.setTop (mkF m 140 #[.val (.long rev), .second, .val (.long recs), .second, .val (.long mi), .second, .val (.long da), .second, .val (.long wr), .second, .val (.int sel), .val (.long (v_mm mi sel)), .second, .val (.long (v_dd da sel)), .second, .val (.long (v_ww wr sel)), .second, .val (.long (v_ix rev recs sel)), .second, .val (.long (v_rv rev sel)), .second, .val (.long (v_rc recs sel)), .second, .val (.ref b19), .val (.int (b2i (if (((v_mm mi sel) ||| (v_dd da sel)) ||| (v_ww wr sel)) = (0 : Int64) then true else false)))] [(.int (b2i (if (((v_mm mi sel) ||| (v_dd da sel)) ||| (v_ww wr sel)) = (0 : Int64) then true else false))), (.int (b2i (Fag (Fi_missing (v_mm mi sel)) (Fi_dangling (v_dd da sel)) (Fi_wrong (v_ww wr sel)))))])) t → Steps p.tables e below (s₁.setTop (entryFrame m #[(.long rev), (.long recs), (.long mi), (.long da), (.long wr), (.int sel)] maxLocals)) t := by
    intro t k
    refine pre23 t ?_
    show Steps p.tables e below (T20.setTop (mkF m 131 #[.val (.long rev), .second, .val (.long recs), .second, .val (.long mi), .second, .val (.long da), .second, .val (.long wr), .second, .val (.int sel), .val (.long (v_mm mi sel)), .second, .val (.long (v_dd da sel)), .second, .val (.long (v_ww wr sel)), .second, .val (.long (v_ix rev recs sel)), .second, .val (.long (v_rv rev sel)), .second, .val (.long (v_rc recs sel)), .second, .val (.ref b19), .unset] [(.int (b2i (if (((v_mm mi sel) ||| (v_dd da sel)) ||| (v_ww wr sel)) = (0 : Int64) then true else false)))])) _
    refine XS.istore X20.here hx rfl (hb hby at_131) rfl (l' := #[.val (.long rev), .second, .val (.long recs), .second, .val (.long mi), .second, .val (.long da), .second, .val (.long wr), .second, .val (.int sel), .val (.long (v_mm mi sel)), .second, .val (.long (v_dd da sel)), .second, .val (.long (v_ww wr sel)), .second, .val (.long (v_ix rev recs sel)), .second, .val (.long (v_rv rev sel)), .second, .val (.long (v_rc recs sel)), .second, .val (.ref b19), .val (.int (b2i (if (((v_mm mi sel) ||| (v_dd da sel)) ||| (v_ww wr sel)) = (0 : Int64) then true else false)))]) rfl ?_
    show Steps p.tables e below (T20.setTop (mkF m 133 #[.val (.long rev), .second, .val (.long recs), .second, .val (.long mi), .second, .val (.long da), .second, .val (.long wr), .second, .val (.int sel), .val (.long (v_mm mi sel)), .second, .val (.long (v_dd da sel)), .second, .val (.long (v_ww wr sel)), .second, .val (.long (v_ix rev recs sel)), .second, .val (.long (v_rv rev sel)), .second, .val (.long (v_rc recs sel)), .second, .val (.ref b19), .val (.int (b2i (if (((v_mm mi sel) ||| (v_dd da sel)) ||| (v_ww wr sel)) = (0 : Int64) then true else false)))] [])) _
    refine XS.aload X20.here hx rfl (hb hby at_133) rfl rfl ?_
    show Steps p.tables e below (T20.setTop (mkF m 135 #[.val (.long rev), .second, .val (.long recs), .second, .val (.long mi), .second, .val (.long da), .second, .val (.long wr), .second, .val (.int sel), .val (.long (v_mm mi sel)), .second, .val (.long (v_dd da sel)), .second, .val (.long (v_ww wr sel)), .second, .val (.long (v_ix rev recs sel)), .second, .val (.long (v_rv rev sel)), .second, .val (.long (v_rc recs sel)), .second, .val (.ref b19), .val (.int (b2i (if (((v_mm mi sel) ||| (v_dd da sel)) ||| (v_ww wr sel)) = (0 : Int64) then true else false)))] [(.ref b19)])) _
    refine st25.trans ?_
    show Steps p.tables e below (T25.setTop (mkF m 138 #[.val (.long rev), .second, .val (.long recs), .second, .val (.long mi), .second, .val (.long da), .second, .val (.long wr), .second, .val (.int sel), .val (.long (v_mm mi sel)), .second, .val (.long (v_dd da sel)), .second, .val (.long (v_ww wr sel)), .second, .val (.long (v_ix rev recs sel)), .second, .val (.long (v_rv rev sel)), .second, .val (.long (v_rc recs sel)), .second, .val (.ref b19), .val (.int (b2i (if (((v_mm mi sel) ||| (v_dd da sel)) ||| (v_ww wr sel)) = (0 : Int64) then true else false)))] [(.int (b2i (Fag (Fi_missing (v_mm mi sel)) (Fi_dangling (v_dd da sel)) (Fi_wrong (v_ww wr sel)))))])) _
    refine XS.iload X25.here hx rfl (hb hby at_138) rfl ?_
    exact k
  have pre27 : ∀ t, Steps p.tables e below (T25.setTop (mkF m 148 #[.val (.long rev), .second, .val (.long recs), .second, .val (.long mi), .second, .val (.long da), .second, .val (.long wr), .second, .val (.int sel), .val (.long (v_mm mi sel)), .second, .val (.long (v_dd da sel)), .second, .val (.long (v_ww wr sel)), .second, .val (.long (v_ix rev recs sel)), .second, .val (.long (v_rv rev sel)), .second, .val (.long (v_rc recs sel)), .second, .val (.ref b19), .val (.int (b2i (if (((v_mm mi sel) ||| (v_dd da sel)) ||| (v_ww wr sel)) = (0 : Int64) then true else false)))] [(.int (b2i (if (b2i (Fag (Fi_missing (v_mm mi sel)) (Fi_dangling (v_dd da sel)) (Fi_wrong (v_ww wr sel)))) = (b2i (if (((v_mm mi sel) ||| (v_dd da sel)) ||| (v_ww wr sel)) = (0 : Int64) then true else false)) then true else false)))])) t → Steps p.tables e below (s₁.setTop (entryFrame m #[(.long rev), (.long recs), (.long mi), (.long da), (.long wr), (.int sel)] maxLocals)) t := by
    intro t k
    refine pre26 t ?_
    have k : ∀ (v1 : Bool), v1 = (if (b2i (Fag (Fi_missing (v_mm mi sel)) (Fi_dangling (v_dd da sel)) (Fi_wrong (v_ww wr sel)))) = (b2i (if (((v_mm mi sel) ||| (v_dd da sel)) ||| (v_ww wr sel)) = (0 : Int64) then true else false)) then true else false) → Steps p.tables e below (T25.setTop (mkF m 148 #[.val (.long rev), .second, .val (.long recs), .second, .val (.long mi), .second, .val (.long da), .second, .val (.long wr), .second, .val (.int sel), .val (.long (v_mm mi sel)), .second, .val (.long (v_dd da sel)), .second, .val (.long (v_ww wr sel)), .second, .val (.long (v_ix rev recs sel)), .second, .val (.long (v_rv rev sel)), .second, .val (.long (v_rc recs sel)), .second, .val (.ref b19), .val (.int (b2i (if (((v_mm mi sel) ||| (v_dd da sel)) ||| (v_ww wr sel)) = (0 : Int64) then true else false)))] [(.int (b2i v1))])) t := fun v1 hv1 => by subst hv1; exact k
    show Steps p.tables e below (T25.setTop (mkF m 140 #[.val (.long rev), .second, .val (.long recs), .second, .val (.long mi), .second, .val (.long da), .second, .val (.long wr), .second, .val (.int sel), .val (.long (v_mm mi sel)), .second, .val (.long (v_dd da sel)), .second, .val (.long (v_ww wr sel)), .second, .val (.long (v_ix rev recs sel)), .second, .val (.long (v_rv rev sel)), .second, .val (.long (v_rc recs sel)), .second, .val (.ref b19), .val (.int (b2i (if (((v_mm mi sel) ||| (v_dd da sel)) ||| (v_ww wr sel)) = (0 : Int64) then true else false)))] [(.int (b2i (if (((v_mm mi sel) ||| (v_dd da sel)) ||| (v_ww wr sel)) = (0 : Int64) then true else false))), (.int (b2i (Fag (Fi_missing (v_mm mi sel)) (Fi_dangling (v_dd da sel)) (Fi_wrong (v_ww wr sel)))))])) _
    by_cases hc28 : (b2i (Fag (Fi_missing (v_mm mi sel)) (Fi_dangling (v_dd da sel)) (Fi_wrong (v_ww wr sel)))) = (b2i (if (((v_mm mi sel) ||| (v_dd da sel)) ||| (v_ww wr sel)) = (0 : Int64) then true else false))
    · refine XS.icmpNo X25.here hx rfl (hb hby at_140) rfl (teq hc28).2 ?_
      have k : ∀ (v1 : Bool), v1 = true → Steps p.tables e below (T25.setTop (mkF m 148 #[.val (.long rev), .second, .val (.long recs), .second, .val (.long mi), .second, .val (.long da), .second, .val (.long wr), .second, .val (.int sel), .val (.long (v_mm mi sel)), .second, .val (.long (v_dd da sel)), .second, .val (.long (v_ww wr sel)), .second, .val (.long (v_ix rev recs sel)), .second, .val (.long (v_rv rev sel)), .second, .val (.long (v_rc recs sel)), .second, .val (.ref b19), .val (.int (b2i (if (((v_mm mi sel) ||| (v_dd da sel)) ||| (v_ww wr sel)) = (0 : Int64) then true else false)))] [(.int (b2i v1))])) t := fun v1 hv1 => k v1 (hv1.trans (if_pos hc28).symm)
      show Steps p.tables e below (T25.setTop (mkF m 143 #[.val (.long rev), .second, .val (.long recs), .second, .val (.long mi), .second, .val (.long da), .second, .val (.long wr), .second, .val (.int sel), .val (.long (v_mm mi sel)), .second, .val (.long (v_dd da sel)), .second, .val (.long (v_ww wr sel)), .second, .val (.long (v_ix rev recs sel)), .second, .val (.long (v_rv rev sel)), .second, .val (.long (v_rc recs sel)), .second, .val (.ref b19), .val (.int (b2i (if (((v_mm mi sel) ||| (v_dd da sel)) ||| (v_ww wr sel)) = (0 : Int64) then true else false)))] [])) _
      refine XS.iconst X25.here hx rfl (hb hby at_143) ?_
      show Steps p.tables e below (T25.setTop (mkF m 144 #[.val (.long rev), .second, .val (.long recs), .second, .val (.long mi), .second, .val (.long da), .second, .val (.long wr), .second, .val (.int sel), .val (.long (v_mm mi sel)), .second, .val (.long (v_dd da sel)), .second, .val (.long (v_ww wr sel)), .second, .val (.long (v_ix rev recs sel)), .second, .val (.long (v_rv rev sel)), .second, .val (.long (v_rc recs sel)), .second, .val (.ref b19), .val (.int (b2i (if (((v_mm mi sel) ||| (v_dd da sel)) ||| (v_ww wr sel)) = (0 : Int64) then true else false)))] [(.int (1 : Int32))])) _
      refine XS.goto X25.here hx rfl (pc0 := 144) (pc' := 148) rfl (hb hby at_144) (by decide) (by decide) ?_
      exact k true rfl
    · refine XS.icmpYes X25.here hx rfl (pc0 := 140) (pc' := 147) rfl (hb hby at_140) rfl (feq hc28).2 (by decide) (by decide) ?_
      have k : ∀ (v1 : Bool), v1 = false → Steps p.tables e below (T25.setTop (mkF m 148 #[.val (.long rev), .second, .val (.long recs), .second, .val (.long mi), .second, .val (.long da), .second, .val (.long wr), .second, .val (.int sel), .val (.long (v_mm mi sel)), .second, .val (.long (v_dd da sel)), .second, .val (.long (v_ww wr sel)), .second, .val (.long (v_ix rev recs sel)), .second, .val (.long (v_rv rev sel)), .second, .val (.long (v_rc recs sel)), .second, .val (.ref b19), .val (.int (b2i (if (((v_mm mi sel) ||| (v_dd da sel)) ||| (v_ww wr sel)) = (0 : Int64) then true else false)))] [(.int (b2i v1))])) t := fun v1 hv1 => k v1 (hv1.trans (if_neg hc28).symm)
      show Steps p.tables e below (T25.setTop (mkF m 147 #[.val (.long rev), .second, .val (.long recs), .second, .val (.long mi), .second, .val (.long da), .second, .val (.long wr), .second, .val (.int sel), .val (.long (v_mm mi sel)), .second, .val (.long (v_dd da sel)), .second, .val (.long (v_ww wr sel)), .second, .val (.long (v_ix rev recs sel)), .second, .val (.long (v_rv rev sel)), .second, .val (.long (v_rc recs sel)), .second, .val (.ref b19), .val (.int (b2i (if (((v_mm mi sel) ||| (v_dd da sel)) ||| (v_ww wr sel)) = (0 : Int64) then true else false)))] [])) _
      refine XS.iconst X25.here hx rfl (hb hby at_147) ?_
      exact k false rfl
  have hlaw : (if (b2i (Fag (Fi_missing (v_mm mi sel)) (Fi_dangling (v_dd da sel)) (Fi_wrong (v_ww wr sel)))) = (b2i (if (((v_mm mi sel) ||| (v_dd da sel)) ||| (v_ww wr sel)) = (0 : Int64) then true else false)) then true else false) = true := own_law1 mi da wr sel
  obtain ⟨fs, hr, hrun, hended, hW, hsame⟩ := X25.leave (v := some (.int (1 : Int32))) (fun h => by rw [Bd.returns] at h; cases h)
  refine ⟨_, _, pre27 _ ?_, hrun, hended, _, _, rfl, ?_, ⟨_, rfl⟩, hW, hsame.mono (by decide) (by decide)⟩
  · show Steps p.tables e below (T25.setTop (mkF m 148 #[.val (.long rev), .second, .val (.long recs), .second, .val (.long mi), .second, .val (.long da), .second, .val (.long wr), .second, .val (.int sel), .val (.long (v_mm mi sel)), .second, .val (.long (v_dd da sel)), .second, .val (.long (v_ww wr sel)), .second, .val (.long (v_ix rev recs sel)), .second, .val (.long (v_rv rev sel)), .second, .val (.long (v_rc recs sel)), .second, .val (.ref b19), .val (.int (b2i (if (((v_mm mi sel) ||| (v_dd da sel)) ||| (v_ww wr sel)) = (0 : Int64) then true else false)))] [(.int (b2i (if (b2i (Fag (Fi_missing (v_mm mi sel)) (Fi_dangling (v_dd da sel)) (Fi_wrong (v_ww wr sel)))) = (b2i (if (((v_mm mi sel) ||| (v_dd da sel)) ||| (v_ww wr sel)) = (0 : Int64) then true else false)) then true else false)))])) _
    exact retN X25 hx (t := .boolean) Bd.returns (by simp) (hb hby at_148) (by rw [b2i_one hlaw]; exact hr)
  · show Q0 Z rev recs mi da wr sel h0 n0 _ T25.heap _
    rw [e25]
    exact ⟨rfl, N25⟩
set_option maxRecDepth 65536 in
set_option maxHeartbeats 40000000 in
theorem comes_1 {Post : Tables → Env → Array Value → State → Outcome → State → Prop} (hpost : ∀ tb e args s v u, (limb_1_1.after args s (.returned v) u = true ∧ limb_1_2.after args s (.returned v) u = true ∧ True) → FrameEnd s (.returned v) u (Jvm.fieldLocs frame_1_writes args s ++ Jvm.arrayLocs frame_1_arrays args s ++ Jvm.staticLocs frame_1_statics s) 16 128 → Post tb e args s (.returned v) u) :
    ArmFor flags0 classFile x code maxLocals ret World_1 tables_1 room_1 Calls_1 rest_1 Pre_1 Post := by
  intro l hfl _ _ p e ha hc hk s m args below hf hA hF happ hP
  obtain ⟨hcalls, hrest, hpre⟩ := hP
  obtain ⟨-, -, -, hnamed, -, -, -, hat⟩ := (Spec.applies_iff hf).mp happ
  obtain ⟨hg, hn⟩ := and_e (Cond.before_iff.mp (show (Jvm.Cond.and given_1 narrow_1).before args s = true from hpre))
  obtain ⟨g1, g2⟩ := and_e hg
  obtain ⟨g3, g4⟩ := and_e g2
  obtain ⟨g5, g6⟩ := and_e g4
  obtain ⟨g7, g8⟩ := and_e g6
  obtain ⟨g9, g10⟩ := and_e g8
  obtain ⟨g11, g12⟩ := and_e g10
  obtain ⟨w0, w1, w2, w3, w4, w5, rfl⟩ : ∃ w0 w1 w2 w3 w4 w5 : Value, args = #[w0, w1, w2, w3, w4, w5] := by
    have hs : args.size = 6 := by simpa [Cond.value, given_1] using g1
    obtain ⟨L⟩ := args
    match L, hs with
    | [w0, w1, w2, w3, w4, w5], _ => exact ⟨w0, w1, w2, w3, w4, w5, rfl⟩
  have hw := fun d (hd : d ∈ tables_1) => atoms_spec (ws := Jvm.Cond.code x code maxLocals ret :: tables_1) hat d (List.mem_cons_of_mem _ hd)
  obtain ⟨i0, ei0⟩ := isL_v g3
  obtain rfl : w0 = (.long i0) := Option.some.inj ei0
  obtain ⟨i1, ei1⟩ := isL_v g5
  obtain rfl : w1 = (.long i1) := Option.some.inj ei1
  obtain ⟨i2, ei2⟩ := isL_v g7
  obtain rfl : w2 = (.long i2) := Option.some.inj ei2
  obtain ⟨i3, ei3⟩ := isL_v g9
  obtain rfl : w3 = (.long i3) := Option.some.inj ei3
  obtain ⟨i4, ei4⟩ := isL_v g11
  obtain rfl : w4 = (.long i4) := Option.some.inj ei4
  obtain ⟨i5, ei5⟩ := is_v g12
  obtain rfl : w5 = (.int i5) := Option.some.inj ei5
  obtain ⟨n, o, h1, h2, h3, _, L, rfl, ⟨rfl, N⟩, hq⟩ := rm0 l s _ hw tables_1 i0 i1 i2 i3 i4 i5 s.heap s.heap.size (Nat.le_refl _) p e ha hc hk s m _ below hf ((Spec.applies_iff_loose hf).mp happ).1 ⟨rfl, State.Warmed39.refl s, rfl⟩ trivial
  refine ⟨n, _, h1, h2, h3, hpost _ _ _ _ _ _ ⟨Cond.after_iff.mpr rfl, Cond.after_iff.mpr (eq_i res_at (Term.int_eval (1)) rfl), trivial⟩ ⟨hq.1, hq.2.1, (hq.2.2.sift fun y hy => Or.inr (N y hy)).mono (by decide) (by decide)⟩⟩
theorem main_1_1 : Claimed_1_1 := comes_1 fun _ _ _ _ _ _ h hF => ⟨h.1, hF⟩
theorem main_1_2 : Claimed_1_2 := comes_1 fun _ _ _ _ _ _ h hF => ⟨h.2.1, hF⟩
end Jvm.Pilot.@@N@@
namespace Jvm.Pilot.@@N@@
open Jvm Jvm.ClassFile Sem Op Lib Jvm.Free Jvm.Stand Jvm.Pilot.@@N@@.Jvm.D
/-! MADE BY PROGRAM (witnessworld.py) out of the Statement's table words and the real class files: 9 classes; the members and pool entries that the words name. The judged class is class 1, her method 1. -/
namespace start1
open Jvm.ClassFile
def u (s : String) : CpInfo := .utf8 (stringToUtf16 s)
/-- a pool by its gaps: so many unusable entries, then the entry; so many at the end -/
def gap : Nat → List CpInfo → List CpInfo
  | 0, r => r
  | n + 1, r => .unusable :: gap n r
def poolList (es : List (Nat × CpInfo)) (last : Nat) : List CpInfo := es.foldr (fun e r => gap e.1 (e.2 :: r)) (gap last [])
def pool (es : List (Nat × CpInfo)) (last : Nat) : Array CpInfo := ⟨poolList es last⟩
def fileOf (pool : Array CpInfo) (this : Nat) (attrs : Array Attribute := #[]) (ms : Array MethodInfo := #[]) (fl : Nat := 33) (sup : Nat := 0) (ifs : Array Nat := #[]) (fds : Array FieldInfo := #[]) : ClassFile where
  minorVersion := 0
  majorVersion := 65
  constantPool := pool
  accessFlags := fl
  thisClass := this
  superClass := sup
  interfaces := ifs
  fields := fds
  methods := ms
  attributes := attrs
def plain (name : String) (sup : Option ClassId) : Class where
  name := name
  kind := .ordinary
  loader := none
  accessFlags := 33
  super := sup
  interfaces := #[]
  cf := none
  fields := #[]
  methods := #[]
  instanceTypes := #[]
  staticTypes := #[]
  resolved := #[]
  callSites := []
  init := .initialized
  statics := none
  mirror := none

def pool0 : Array CpInfo := pool [(5, u "<init>"), (0, u "()V"), (1, .class_ 10), (1, u "java/lang/Object")] 113

def k0c0 : Code := { maxStack := 0, maxLocals := 1, code := object_method_1_code, exceptionTable := #[], attributes := #[] }
def k0m0 : Method := { name := "<init>", desc := "()V", sig := { parameters := [], returnType := none }, accessFlags := 1, code := some k0c0 }
/-- java/lang/Object -/
def k0 : Class := { plain "java/lang/Object" none with
  accessFlags := 33
  interfaces := #[]
  cf := some (fileOf pool0 8 #[] #[{ accessFlags := 1, nameIndex := 5, descriptorIndex := 6, attributes := #[] }] 33 0 #[] #[])
  fields := #[]
  methods := #[k0m0]
  instanceTypes := #[]
  staticTypes := #[]
  resolved := Array.replicate 124 none
  statics := none }

def pool1 : Array CpInfo := pool [(2, .class_ 4), (1, u "java/lang/Object"), (0, u "<init>"), (0, u "()V"), (0, .class_ 8), (0, u "com/example/seshat/seshat/CheckReport"), (0, .methodref 7 10), (0, .nameAndType 5 11), (0, u "(JJJJJJ)V"), (0, .methodref 7 13), (0, .nameAndType 14 15), (0, u "agrees"), (0, u "()Z"), (0, .class_ 17), (0, u "com/example/seshat/seshat/CheckReportAgreesPinLaw"), (2, u "law"), (0, u "(JJJJJI)Z")] 3

def k1m0 : Method := { name := "<init>", desc := "()V", sig := { parameters := [], returnType := none }, accessFlags := 1, code := none }
def k1c1 : Code := { maxStack := 14, maxLocals := 25, code := code, exceptionTable := #[], attributes := #[] }
def k1m1 : Method := { name := "law", desc := "(JJJJJI)Z", sig := { parameters := [.long, .long, .long, .long, .long, .int], returnType := some .boolean }, accessFlags := 9, code := some k1c1 }
/-- com/example/seshat/seshat/CheckReportAgreesPinLaw -/
def k1 : Class := { plain "com/example/seshat/seshat/CheckReportAgreesPinLaw" (some 0) with
  accessFlags := 49
  interfaces := #[]
  cf := some (fileOf pool1 16 #[] #[{ accessFlags := 1, nameIndex := 5, descriptorIndex := 6, attributes := #[] }, { accessFlags := 9, nameIndex := 20, descriptorIndex := 21, attributes := #[] }] 49 2 #[] #[])
  fields := #[]
  methods := #[k1m0, k1m1]
  instanceTypes := #[]
  staticTypes := #[]
  resolved := Array.replicate 25 none
  statics := none }

def pool2 : Array CpInfo := pool [(1, .methodref 2 3), (0, .class_ 4), (0, .nameAndType 5 6), (0, u "java/lang/Object"), (0, u "<init>"), (0, u "()V"), (0, .fieldref 8 9), (0, .class_ 10), (0, .nameAndType 11 12), (0, u "com/example/seshat/seshat/CheckReport"), (0, u "revision"), (0, u "J"), (0, .fieldref 8 14), (0, .nameAndType 15 12), (0, u "records"), (0, .fieldref 8 17), (0, .nameAndType 18 12), (0, u "indexKeys"), (0, .fieldref 8 20), (0, .nameAndType 21 12), (0, u "missing"), (0, .fieldref 8 23), (0, .nameAndType 24 12), (0, u "dangling"), (0, .fieldref 8 26), (0, .nameAndType 27 12), (0, u "wrong"), (4, u "(JJJJJJ)V"), (3, u "agrees"), (0, u "()Z")] 20

def k2c0 : Code := { maxStack := 3, maxLocals := 13, code := prog_2_method_1_code, exceptionTable := #[], attributes := #[] }
def k2m0 : Method := { name := "<init>", desc := "(JJJJJJ)V", sig := { parameters := [.long, .long, .long, .long, .long, .long], returnType := none }, accessFlags := 0, code := some k2c0 }
def k2c1 : Code := { maxStack := 4, maxLocals := 1, code := prog_2_method_8_code, exceptionTable := #[], attributes := #[] }
def k2m1 : Method := { name := "agrees", desc := "()Z", sig := { parameters := [], returnType := some .boolean }, accessFlags := 1, code := some k2c1 }
/-- com/example/seshat/seshat/CheckReport -/
def k2 : Class := { plain "com/example/seshat/seshat/CheckReport" (some 0) with
  accessFlags := 49
  interfaces := #[]
  cf := some (fileOf pool2 8 #[] #[{ accessFlags := 0, nameIndex := 5, descriptorIndex := 32, attributes := #[] }, { accessFlags := 1, nameIndex := 36, descriptorIndex := 37, attributes := #[] }] 49 2 #[] #[{ accessFlags := 18, nameIndex := 11, descriptorIndex := 12, attributes := #[] }, { accessFlags := 18, nameIndex := 15, descriptorIndex := 12, attributes := #[] }, { accessFlags := 18, nameIndex := 18, descriptorIndex := 12, attributes := #[] }, { accessFlags := 18, nameIndex := 21, descriptorIndex := 12, attributes := #[] }, { accessFlags := 18, nameIndex := 24, descriptorIndex := 12, attributes := #[] }, { accessFlags := 18, nameIndex := 27, descriptorIndex := 12, attributes := #[] }])
  fields := #[{ name := "revision", type := .long, accessFlags := 18, slot := 0, constantValue := 0 }, { name := "records", type := .long, accessFlags := 18, slot := 1, constantValue := 0 }, { name := "indexKeys", type := .long, accessFlags := 18, slot := 2, constantValue := 0 }, { name := "missing", type := .long, accessFlags := 18, slot := 3, constantValue := 0 }, { name := "dangling", type := .long, accessFlags := 18, slot := 4, constantValue := 0 }, { name := "wrong", type := .long, accessFlags := 18, slot := 5, constantValue := 0 }]
  methods := #[k2m0, k2m1]
  instanceTypes := #[.long, .long, .long, .long, .long, .long]
  staticTypes := #[]
  resolved := Array.replicate 58 none
  statics := none }

def pool3 : Array CpInfo := pool [(1, u "java/lang/Cloneable"), (0, .class_ 1), (0, u "java/lang/Object"), (0, .class_ 3)] 3

/-- java/lang/Cloneable -/
def k3 : Class := { plain "java/lang/Cloneable" (some 0) with
  accessFlags := 1537
  interfaces := #[]
  cf := some (fileOf pool3 2 #[] #[] 1537 4 #[] #[])
  fields := #[]
  methods := #[]
  instanceTypes := #[]
  staticTypes := #[]
  resolved := Array.replicate 8 none
  statics := none }

def pool4 : Array CpInfo := pool [(1, u "java/io/Serializable"), (0, .class_ 1), (0, u "java/lang/Object"), (0, .class_ 3)] 3

/-- java/io/Serializable -/
def k4 : Class := { plain "java/io/Serializable" (some 0) with
  accessFlags := 1537
  interfaces := #[]
  cf := some (fileOf pool4 2 #[] #[] 1537 4 #[] #[])
  fields := #[]
  methods := #[]
  instanceTypes := #[]
  staticTypes := #[]
  resolved := Array.replicate 8 none
  statics := none }

/-- the primitive byte -/
def k5 : Class := { plain "byte" none with kind := .primitive 'B', accessFlags := 0x411 }
/-- [B -/
def k6 : Class := { plain "[B" (some 0) with kind := .array 5 .byte, interfaces := #[3, 4], accessFlags := 1041 }

/-- the primitive int -/
def k7 : Class := { plain "int" none with kind := .primitive 'I', accessFlags := 0x411 }
/-- [I -/
def k8 : Class := { plain "[I" (some 0) with kind := .array 7 .int, interfaces := #[3, 4], accessFlags := 1041 }

def heap : Heap := #[]
def classes : Array Class := #[k0, k1, k2, k3, k4, k5, k6, k7, k8]
def interned : List (Array UInt16 × Addr) := []
def slotsUsed : Nat := 0
def theMethod : MethodId := ⟨1, 1⟩
def args0 : Array Value := #[.long 5, .long 6, .long 0, .long 0, .long 1, .int 4]
def aboutOver (below : List Frame) : State where
  vm := { classes := classes, interned := interned.toArray }
  heap := heap
  slotsUsed := slotsUsed
  threads := #[{ frames := .invoking theMethod args0 :: below }]
def below0 : List Frame := [.native { method := ⟨0, 0⟩, args := #[] }]
def about1 : State := aboutOver below0
def p0 : Program := .bare "" "" ""
def e0 : Env := launch0.env 0 0 0
theorem w_frames : about1.frames = Frame.invoking theMethod args0 :: below0 := rfl
set_option maxRecDepth 65536 in
theorem w_args : argsFit about1.vm theMethod args0 = true := by decide +kernel
set_option maxRecDepth 65536 in
theorem w_heap : heapFits about1 = true := by decide +kernel
set_option maxRecDepth 65536 in
theorem w_runnable : about1.curStatus? = some .runnable := by decide +kernel
set_option maxRecDepth 65536 in
theorem w_alone : about1.alone = true := by decide +kernel
set_option maxRecDepth 65536 in
theorem w_named : about1.methodNamed? x = some theMethod := by decide +kernel
set_option maxRecDepth 65536 in
theorem w_hears : about1.hears theMethod below0 = true := by decide +kernel
set_option maxRecDepth 65536 in
theorem w_ripe : about1.ripe theMethod args0 below0 = true := by decide +kernel
theorem w_running : about1.status = .running := rfl
set_option maxRecDepth 65536 in
theorem w_room : about1.hasRoom e0.platform room_1 = true :=
  launch0.hasRoom_least _ room_1 (by decide +kernel) (by decide +kernel) (by decide +kernel) (by decide +kernel) (by decide +kernel) (by decide +kernel)
theorem allAtoms_all (ts : List Jvm.Cond) (a : Array Jvm.Value) (st : Jvm.State) : (allAtoms ts).before a st = ts.all (fun c => c.before a st) := by
  induction ts with
  | nil => rfl
  | cons c t ih =>
    show (Jvm.Cond.and c (allAtoms t)).before a st = _
    rw [Jvm.Cond.before_and, ih, List.all_cons]
def words1 : List Jvm.Cond := Jvm.Cond.code x code maxLocals ret :: tables_1
/-- a 'code' word, met by the world's own term for the bytes: nothing is compared byte by byte -/
theorem code_word {y : MethodName} {bytes : ByteArray} {mx : Nat} {rt : Option FieldType} {a : Array Value} {s : State} {m : MethodId} {meth : Method} {c : Code} (h1 : s.methodNamed? y = some m) (h2 : s.vm.method? m = some meth) (h3 : meth.code = some c) (h4 : c.code = bytes)
    (h5 : (c.maxLocals == mx && c.exceptionTable.isEmpty && decide (c.maxStack ≤ mostOperands) && decide (meth.sig.returnType = rt) && !meth.locks && decide (parseMethodDescriptor y.desc = some meth.sig)) = true) : (Jvm.Cond.code y bytes mx rt).before a s = true := by
  simp only [Bool.and_eq_true, beq_iff_eq, Bool.not_eq_true', decide_eq_true_eq] at h5
  obtain ⟨⟨⟨⟨⟨g1, g2⟩, g3⟩, g4⟩, g5⟩, g6⟩ := h5
  simp [Cond.before, Cond.holds, Cond.value, h1, h2, h3, h4, g1, g2, g3, g4, g5, g6]
def isCode : Jvm.Cond → Bool
  | .code _ _ _ _ => true
  | _ => false
theorem all_split {L : List Jvm.Cond} {P : Jvm.Cond → Bool} (h1 : L.all (fun c => isCode c || P c) = true) (h2 : ∀ c ∈ L.filter isCode, P c = true) : L.all P = true := by
  refine List.all_eq_true.mpr fun c hc => ?_
  have h := List.all_eq_true.mp h1 c hc
  rcases Bool.eq_false_or_eq_true (isCode c) with hi | hi
  · exact h2 c (List.mem_filter.mpr ⟨hc, hi⟩)
  · simpa [hi] using h
set_option maxRecDepth 65536 in
theorem w_c0 : (Jvm.Cond.code x code maxLocals ret).before args0 about1 = true := code_word (m := ⟨1, 1⟩) (meth := k1m1) (c := k1c1) (by decide +kernel) rfl rfl rfl (by decide +kernel)
set_option maxRecDepth 65536 in
theorem w_c1 : (Jvm.Cond.code ({ cls := "com/example/seshat/seshat/CheckReport", name := "<init>", desc := "(JJJJJJ)V" } : Jvm.MethodName) prog_2_method_1_code (13 : Nat) (Option.none : Option Jvm.ClassFile.FieldType)).before args0 about1 = true := code_word (m := ⟨2, 0⟩) (meth := k2m0) (c := k2c0) (by decide +kernel) rfl rfl rfl (by decide +kernel)
set_option maxRecDepth 65536 in
theorem w_c2 : (Jvm.Cond.code ({ cls := "java/lang/Object", name := "<init>", desc := "()V" } : Jvm.MethodName) object_method_1_code (1 : Nat) (Option.none : Option Jvm.ClassFile.FieldType)).before args0 about1 = true := code_word (m := ⟨0, 0⟩) (meth := k0m0) (c := k0c0) (by decide +kernel) rfl rfl rfl (by decide +kernel)
set_option maxRecDepth 65536 in
theorem w_c3 : (Jvm.Cond.code ({ cls := "com/example/seshat/seshat/CheckReport", name := "agrees", desc := "()Z" } : Jvm.MethodName) prog_2_method_8_code (1 : Nat) (Option.some Jvm.ClassFile.FieldType.boolean)).before args0 about1 = true := code_word (m := ⟨2, 1⟩) (meth := k2m1) (c := k2c1) (by decide +kernel) rfl rfl rfl (by decide +kernel)
def codes1 : List Jvm.Cond := [Jvm.Cond.code x code maxLocals ret, Jvm.Cond.code ({ cls := "com/example/seshat/seshat/CheckReport", name := "<init>", desc := "(JJJJJJ)V" } : Jvm.MethodName) prog_2_method_1_code (13 : Nat) (Option.none : Option Jvm.ClassFile.FieldType), Jvm.Cond.code ({ cls := "java/lang/Object", name := "<init>", desc := "()V" } : Jvm.MethodName) object_method_1_code (1 : Nat) (Option.none : Option Jvm.ClassFile.FieldType), Jvm.Cond.code ({ cls := "com/example/seshat/seshat/CheckReport", name := "agrees", desc := "()Z" } : Jvm.MethodName) prog_2_method_8_code (1 : Nat) (Option.some Jvm.ClassFile.FieldType.boolean)]
set_option maxRecDepth 65536 in
theorem codes_eq : words1.filter isCode = codes1 := rfl
theorem w_codes : ∀ c ∈ words1.filter isCode, c.before args0 about1 = true := by
  rw [codes_eq]
  intro c hc
  simp only [codes1, List.mem_cons, List.not_mem_nil, or_false] at hc
  rcases hc with rfl | rfl | rfl | rfl
  · exact w_c0
  · exact w_c1
  · exact w_c2
  · exact w_c3
set_option maxRecDepth 65536 in
theorem w_t1 : (words1.take 24).all (fun c => isCode c || c.before args0 about1) = true := by decide +kernel
set_option maxRecDepth 65536 in
theorem w_t2 : (words1.drop 24).all (fun c => isCode c || c.before args0 about1) = true := by decide +kernel
theorem w_tables : (allAtoms (Jvm.Cond.code x code maxLocals ret :: tables_1)).before args0 about1 = true := by
  rw [allAtoms_all]
  show words1.all (fun c => c.before args0 about1) = true
  refine all_split ?_ w_codes
  rw [← List.take_append_drop 24 words1, List.all_append, w_t1, w_t2]
  rfl
set_option maxRecDepth 65536 in
theorem w_case : (Jvm.Cond.and given_1 narrow_1).before args0 about1 = true := by decide +kernel
theorem w_applies : (headSpec (Jvm.Cond.code x code maxLocals ret :: tables_1) room_1).applies x e0.platform about1 = true :=
  (Spec.applies_iff w_frames).mpr ⟨w_running, w_runnable, w_alone, w_named, w_hears, w_ripe, w_room, w_tables⟩
theorem atStart : AtStart classFile x code maxLocals ret World_1 tables_1 room_1 Calls_1 rest_1 Pre_1 launch0 p0 e0 about1 theMethod args0 below0 :=
  ⟨lists_1, trivial, launch0.admits_env _ _ _, launch0.least_env, fairChoices_fair.cas, fairChoices_fair.clock, w_frames, w_args, w_heap, w_applies, trivial, trivial, w_case⟩
end start1
theorem witness_1 : WitnessClaimed_1 := ⟨start1.p0, start1.e0, start1.about1, start1.theMethod, start1.args0, start1.below0, start1.atStart⟩
end Jvm.Pilot.@@N@@
